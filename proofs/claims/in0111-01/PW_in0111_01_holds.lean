import PyProof.Rows.All
import Wide.All
import OpenK.AllK
import Wide.FinOn
import Lean
import PySem.Challenge.RW_in0111_01
open PySem PySem.W PyProof.Rows
set_option Elab.async false
set_option maxRecDepth 100000
set_option maxHeartbeats 0
set_option compiler.extract_closed false
set_option linter.all false
set_option linter.unusedVariables false
set_option linter.unusedSimpArgs false
namespace Mine
theorem saidTw : PySem.W.Fast.tw9446332074065402090 PySem.Challenge.rw_in0111_01 = true := by
  delta PySem.W.Fast.tw9446332074065402090
  repeat' (with_reducible refine Bool.and_eq_true_iff.mpr ⟨?_, ?_⟩)
  · delta PySem.W.Fast.tw17960256430627541270
    repeat' (with_reducible refine Bool.and_eq_true_iff.mpr ⟨?_, ?_⟩)
    · delta PySem.W.Fast.tw2436336058641802641
      repeat' (with_reducible refine Bool.and_eq_true_iff.mpr ⟨?_, ?_⟩)
      · delta PySem.W.Fast.tw12908688711261696721
        repeat' (with_reducible refine Bool.and_eq_true_iff.mpr ⟨?_, ?_⟩)
        all_goals decide +kernel
      all_goals decide +kernel
    all_goals decide +kernel
  all_goals decide +kernel
theorem wsaidQ : OpenLaw.wellSaid PySem.Challenge.rw_in0111_01 = true := by
  rw [PySem.W.Fast.te9446332074065402090]
  exact saidTw
section
noncomputable abbrev pw : Program := PySem.Challenge.pw_in0111_01

noncomputable def topT (st : SharedT → Thread → Option (SharedT × Thread)) (ok : Thread → Bool) : Nat → SharedT → Thread → Option SharedT
  | 0, _, _ => none
  | n + 1, s, t => match through t with
    | true => some s
    | false => match ok t with
      | false => none
      | true => match st s t with
        | some (s', t') => topT st ok n s' t'
        | none => none

theorem topT_of {tb : String → Option Builtin} {p : Program} {w : World} {n₀ : Nat} {ann : Option Value} : ∀ {n : Nat} {s s' : SharedT} {t : Thread},
    topT (stepT (denote tb) p w) (stepOk n₀ ann) n s t = some s' → topRun tb p w n₀ ann n s.abs t = some s'.abs
  | 0, _, _, _, h => by cases h
  | n + 1, s, s', t, h => by
    unfold topT at h
    unfold topRun
    cases ht : through t with
    | true => rw [ht] at h; cases h; rfl
    | false =>
      rw [ht] at h
      cases hk : stepOk n₀ ann t with
      | false => rw [hk] at h; cases h
      | true =>
        rw [hk] at h
        cases hs : stepT (denote tb) p w s t with
        | none => rw [hs] at h; cases h
        | some r =>
          obtain ⟨s₂, t₂⟩ := r
          rw [hs] at h
          dsimp only
          rw [stepT_spec hs]
          exact topT_of h

noncomputable def grow : List Obj → BT → Nat → Option BT
  | [], t, _ => some t
  | o :: r, t, n => match (t.ins n o).get n with
    | some _ => grow r (t.ins n o) (n + 1)
    | none => none

theorem grow_abs (life : Life) : ∀ {l : List Obj} {t t' : BT} {n : Nat}, grow l t n = some t' → absHeap t' (n + l.length) life = ⟨(absHeap t n life).objs ++ l.toArray, life⟩
  | [], t, t', n, h => by cases h; simp; rfl
  | o :: r, t, t', n, h => by
    unfold grow at h
    cases hg : (t.ins n o).get n with
    | none => rw [hg] at h; cases h
    | some x =>
      rw [hg] at h
      have ih := grow_abs life (n := n + 1) h
      have e := absHeap_ins (t := t) (n := n) (life := life) (o := o) (by rw [hg]; rfl)
      rw [show n + (o :: r).length = n + 1 + r.length by simp only [List.length_cons]; omega, ih, e]
      show Heap.mk _ _ = Heap.mk _ _
      congr 1
      show ((absHeap t n life).objs.push o) ++ r.toArray = _
      rw [Array.push_eq_append, Array.append_assoc]; simp

theorem grow_shared {s : Shared} {t : BT} (h : grow s.heap.objs.toList .nil 0 = some t) : (SharedT.mk t s.heap.objs.size s.heap.life s.gens s.drawn s.toks s.os).abs = s := by
  have e := grow_abs s.heap.life h
  have e0 : (absHeap .nil 0 s.heap.life).objs = #[] := by
    apply Array.eq_empty_of_size_eq_zero
    exact absHeap_size _ _ _
  rw [e0] at e
  obtain ⟨⟨objs, life⟩, gens, drawn, toks, os⟩ := s
  show Shared.mk _ _ _ _ _ = _
  simp only [Nat.zero_add, Array.length_toList, Array.empty_append, Array.toArray_toList] at e
  congr 1

noncomputable def mods (p : Program) : List Str := importedModules p.main.body

/-- the whole run, over parts that may be exchanged for their twins -/
noncomputable def runAll {α β : Type} (p : Program) (ends : Option Shared) (fence : Shared → Option Shared) (st : SharedT → Thread → Option (SharedT × Thread)) (ok : Nat → Option Value → Thread → Bool)
    (stub : Thread) (N : Nat) (looks : Heap → Shared → α) (see : SharedT → β) : Option (Bool × α × β) :=
  ends.bind fun s => (fence s).bind fun s₀ => match s₀.heap.isNs mainGlobals && s₀.gens.size == 0 with
    | false => none
    | true => (grow s₀.heap.objs.toList .nil 0).bind fun t₀ =>
      (topT st (ok s₀.heap.objs.size (s₀.heap.nsMap mainGlobals "__annotations__")) N ⟨t₀, s₀.heap.objs.size, s₀.heap.life, s₀.gens, s₀.drawn, s₀.toks, s₀.os⟩ stub).map fun sT =>
        ((staticsOk (mods p) s₀.heap sT.abs.heap && namesBound p sT.abs.heap && gensDone sT.abs && laidKept s₀.heap sT.abs.heap), looks s₀.heap sT.abs, see sT)

theorem left_of {p q : Program} {loose : List Str} {Xt : Shared → Bool} {α : Type} {Yf : Shared → α} {Yt : SharedT → α} (hy : ∀ sT, Yt sT = Yf sT.abs) {Ya : World → α} {N : Nat}
    (h : ∀ w : World, runAll p (importEnds treeTable (opening p) w N (start (opening p)).1 (start (opening p)).2) (fenceModules? p) (stepT (denote treeTable) p w) stepOk (topStub p) N
      (fun _ s => openSeen q loose (mods p) Xt true s) Yt = some (true, openGood q loose, Ya w)) : LeftO p q loose Xt Yf Ya N := by
  intro w
  have h := h w
  unfold runAll at h
  obtain ⟨s, e1, h⟩ := Option.bind_eq_some_iff.mp h
  obtain ⟨s₀, e2, h⟩ := Option.bind_eq_some_iff.mp h
  unfold openEnds fencedOpening
  rw [e1]
  show Option.map _ (((fenceModules? p s)).bind (topFrom treeTable p w N)) = _
  rw [e2]
  show Option.map _ (topFrom treeTable p w N s₀) = _
  unfold topFrom
  cases hc : (s₀.heap.isNs mainGlobals && s₀.gens.size == 0) with
  | false => rw [hc] at h; cases h
  | true =>
    rw [hc] at h
    dsimp only at h ⊢
    obtain ⟨t₀, e3, h⟩ := Option.bind_eq_some_iff.mp h
    obtain ⟨sT, e4, h⟩ := Option.map_eq_some_iff.mp h
    have r := topT_of e4
    rw [grow_shared e3] at r
    rw [r]
    obtain ⟨l1, l2⟩ := Prod.mk.inj h
    obtain ⟨l2, l3⟩ := Prod.mk.inj l2
    show Option.map _ (match staticsOk (mods p) s₀.heap sT.abs.heap && namesBound p sT.abs.heap && gensDone sT.abs && laidKept s₀.heap sT.abs.heap with | true => some sT.abs | false => none) = _
    rw [l1]
    show some (openSeen q loose (mods p) Xt true sT.abs, Yf sT.abs) = _
    rw [l2, ← hy, l3]

open PySem.W.Fast
noncomputable abbrev stepQ (w : World) : SharedT → Thread → Option (SharedT × Thread) := tw10156331382660048174 (tw11892475500146522536 tw14364793385576792824) pw w
noncomputable abbrev endsQ (w : World) (N : Nat) : Option Shared := tw10274390034422433532 tw14364793385576792824 (opening pw) w N (tw1435165496053646825 (opening pw)).1 (tw1435165496053646825 (opening pw)).2

theorem left_ofQ {q : Program} {loose : List Str} {Xt : Shared → Bool} {α : Type} {Yf : Shared → α} {Yt : SharedT → α} (hy : ∀ sT, Yt sT = Yf sT.abs) {Ya : World → α} {N : Nat}
    (h : ∀ w : World, runAll pw (endsQ w N) (tw14289696077712309145 pw) (stepQ w) tw6613529449190102663 (topStub pw) N
      (fun _ s => tw4187177175401517315 q loose (mods pw) Xt true s) Yt = some (true, openGood q loose, Ya w)) : LeftO pw q loose Xt Yf Ya N := by
  refine left_of hy fun w => ?_
  have h := h w
  unfold stepQ endsQ at h
  rw [← te10156331382660048174, ← te11892475500146522536, ← te14364793385576792824, ← te10274390034422433532, ← te1435165496053646825, ← te14289696077712309145, ← te6613529449190102663, ← te4187177175401517315] at h
  exact h

noncomputable def looseQ : List Str := ["_wall", "tspecials", "_name_disallowed_re", "_value_disallowed_re", "_formatparam", "Headers", "_twin_re_1", "_whence", "_index", "UnsupportedOperation", "IOBase", "BufferedIOBase", "TextIOBase", "BytesIO", "StringIO", "_kind", "_fspath", "_check_arg_types", "isabs", "join", "dirname", "shlex", "_find_unsafe", "quote", "_law_sign", "_law_heads", "_law_faulty", "_law_bad", "_law_own", "_law_tokens"]
noncomputable abbrev vq : Program := view pw [0, 1, 37]


local macro_rules | `(tactic| o_head $_) => `(tactic| assumption)
theorem mkK (hs : OpenLaw.wellSaid PySem.Challenge.rw_in0111_01 = true) (h : (OpenLaw.row PySem.Challenge.rw_in0111_01).Holds) : PySem.Challenge.rw_in0111_01.Holds := by
  refine holds_law hs fun said => ?_
  k_head
noncomputable def asK : List Nat := [2, 3, 38, 40, 41, 43, 44, 48, 49, 53, 54, 58, 59, 60, 61, 63, 64, 66, 67, 75, 76, 78, 79, 81, 82, 83, 85, 86, 88, 89, 90, 92, 93, 95, 96, 97, 99, 100, 102, 103, 104, 107, 108, 109, 111, 112, 114, 115, 116, 118, 119, 121, 122, 123, 125, 126, 128, 129, 130, 131, 133, 134, 136, 137, 138, 141, 142, 143, 146, 147, 148, 150, 151, 153, 154, 155, 157, 158, 160, 161, 162, 165, 166, 167, 169, 170, 172, 173, 174, 176, 177, 179, 180, 181, 183, 184, 186, 187, 188, 189, 190, 191, 192, 198, 199, 200, 202, 203, 205, 206, 207, 209, 210, 212, 213, 214, 221, 222, 223, 224, 234, 236, 237, 239, 240, 241, 242, 243, 244, 245, 246, 249, 256, 257, 258, 261, 268, 269, 270, 273, 280, 281, 283, 284, 286, 287, 288, 290, 291, 293, 294, 295, 297, 298, 300, 301, 302, 304, 305, 307, 308, 309, 310, 312, 313, 315, 316, 317, 319, 320, 322, 323, 324, 326, 327, 329, 330, 331, 333, 334, 336, 337, 338, 340, 341, 343, 344, 345, 347, 348, 350, 351, 352, 354, 355, 357, 358, 359, 361, 362, 364, 365, 366, 368, 369, 371, 372, 373, 375, 376, 378, 379, 380, 382, 383, 385, 386, 387, 389, 390, 392, 393, 394, 396, 397, 399, 400, 401, 402, 404, 405, 407, 408, 409, 410, 412, 413, 415, 416, 417, 418, 420, 421, 423, 424, 425, 426, 428, 429, 431, 432, 433, 435, 436, 438, 439, 440, 442, 443, 445, 446, 447, 448, 450, 451, 453, 454, 455, 456, 458, 459, 461, 462, 463, 465, 466, 468, 469, 470, 472, 473, 475, 476, 477, 479, 480, 482, 483, 484, 486, 487, 489, 490, 491, 493, 494, 496, 497, 498, 499, 500, 503, 510, 511, 513, 514, 516, 517, 518, 520, 521, 523, 524, 525, 527, 528, 530, 531, 532, 534, 535, 537, 538, 539, 541, 542, 544, 545, 546, 548, 549, 551, 552, 553, 554, 556, 557, 559, 560, 561, 562, 564, 565, 567, 568, 569, 570, 572, 573, 575, 576, 577, 578, 580, 581, 583, 584, 585, 586, 588, 589, 591, 592, 593, 595, 596, 598, 599, 600, 602, 603, 605, 606, 607, 609, 610, 612, 613, 614, 616, 617, 619, 620, 621, 623, 624, 626, 627, 628, 630, 631, 633, 634, 635, 637, 638, 640, 641, 642, 644, 645, 647, 648, 649, 651, 652, 654, 655, 656, 658, 659, 661, 662, 663, 665, 666, 668, 669, 670, 671, 673, 674, 676, 677, 678, 679, 681, 682, 684, 685, 686, 687, 689, 690, 692, 693, 694, 695, 697, 698, 700, 701, 702, 703, 705, 706, 708, 709, 710, 712, 713, 715, 716, 717, 719, 720, 722, 723, 724, 726, 727, 729, 730, 731, 733, 734, 736, 737, 738, 740, 741, 743, 744, 745, 746, 747, 750, 752, 753, 755, 756, 757, 759, 760, 762, 763, 764, 766, 767, 769, 770, 771, 773, 774, 776, 777, 778, 780, 781, 783, 784, 785, 787, 788, 790, 791, 799, 800, 802, 803, 805, 806, 807, 809, 810, 812, 813, 814, 815, 817, 818, 820, 821, 822, 823, 825, 826, 828, 829, 830, 832, 833, 835, 836, 837, 839, 840, 842, 843, 844, 846, 847, 849, 850, 851, 853, 854, 856, 857, 858, 859, 861, 862, 864, 865, 866, 868, 869, 871, 872, 873, 875, 876, 878, 879, 880, 881, 882, 883, 884, 887, 888, 890, 891, 893, 894, 895, 897, 898, 900, 901, 902, 904, 905, 907, 908, 909, 912, 913, 914, 917, 918, 919, 922, 923, 924, 927, 928, 929, 932, 933]
noncomputable abbrev hkK : Hook := kHook Mine.mkK.heap_1 asK (fun _ => by kernel_rfl)
noncomputable def getT (sT : SharedT) (a : Nat) : Option Obj := if a < sT.n then alive ((sT.tree.get a).getD default) else none
theorem getT_eq (sT : SharedT) (a : Nat) : getT sT a = sT.abs.heap.get? a := by
  show _ = (absHeap sT.tree sT.n sT.life).get? a
  unfold getT Heap.get?
  rw [absHeap_at]
  split
  · generalize (sT.tree.get a).getD default = o
    obtain ⟨c, d, dt, sl⟩ := o
    cases dt <;> rfl
  · rfl
noncomputable def seeK (sT : SharedT) : List (Option Obj) := asK.map (getT sT)
theorem seeK_eq (sT : SharedT) : seeK sT = Hook.obs hkK sT.abs := List.map_congr_left fun a _ => getT_eq sT a
theorem leftK : LeftO pw vq looseQ (fun s => xlAt vq [] s && recOk (RowW.records (OpenLaw.row PySem.Challenge.rw_in0111_01).toRowW) s) (Hook.obs hkK) (Hook.val hkK) 6200 := left_ofQ seeK_eq fun w => by
  kernel_rfl
/-- a goal laid aside: what is taken apart meanwhile does not write it out again -/
theorem hid {G : Prop} (h : (G → False) → False) : G := Classical.byContradiction h
theorem mc {α : Type} {a : α} {l l' : List α} (h : a ∈ l) (t : ∀ p ∈ l', p ∈ l) : ∀ p ∈ a :: l', p ∈ l := List.forall_mem_cons.mpr ⟨h, t⟩
theorem matN {α : Type} {l : List α} {a : α} (n : Nat) (h : l[n]? = some a) : a ∈ l := List.mem_of_getElem? h
theorem mdrop {α : Type} {l r : List α} (n : Nat) (h : l.drop n = r) : ∀ p ∈ r, p ∈ l := fun _ hp => List.mem_of_mem_drop (h ▸ hp)
end
section
-- text Df
noncomputable abbrev DQ : String := "collections.deque"
noncomputable def dqObj (st : Int) (l : List Value) : Obj := { cls := .type "collections.deque", data := .fields (.none :: rawInt st :: l).toArray }
theorem slot_dq_append : Slot DQ "append" "collections.deque.append" :=
  .of (owner := "collections.deque") (n := "append") (by rw [typeLookup_type, builtinLookup_eq_fast]; kernel_rfl) (by decide +kernel) (by decide +kernel) (by decide +kernel)
    (by first | exact .inl (by decide +kernel) | exact .inr (by decide +kernel)) (by rw [isSubtype_type]; kernel_rfl)
theorem slot_dq_pop : Slot DQ "pop" "collections.deque.pop" :=
  .of (owner := "collections.deque") (n := "pop") (by rw [typeLookup_type, builtinLookup_eq_fast]; kernel_rfl) (by decide +kernel) (by decide +kernel) (by decide +kernel)
    (by first | exact .inl (by decide +kernel) | exact .inr (by decide +kernel)) (by rw [isSubtype_type]; kernel_rfl)
theorem slot_dq_len : Slot DQ "__len__" "collections.deque.__len__" :=
  .of (owner := "collections.deque") (n := "__len__") (by rw [typeLookup_type, builtinLookup_eq_fast]; kernel_rfl) (by decide +kernel) (by decide +kernel) (by decide +kernel)
    (by first | exact .inl (by decide +kernel) | exact .inr (by decide +kernel)) (by rw [isSubtype_type]; kernel_rfl)
theorem entry_dq_append : entryFor table "collections.deque.append" = some Builtin.«collections.deque.append» := entryFor_of_fast (by kernel_rfl)
theorem entry_dq_pop : entryFor table "collections.deque.pop" = some Builtin.«collections.deque.pop» := entryFor_of_fast (by kernel_rfl)
theorem entry_dq_len : entryFor table "collections.deque.__len__" = some Builtin.«collections.deque.__len__» := entryFor_of_fast (by kernel_rfl)
theorem args_dq_append (a b : Value) : argsOk "collections.deque.append" ⟨[a, b], []⟩ := by unfold argsOk; kernel_rfl
theorem args_dq_pop (a : Value) : argsOk "collections.deque.pop" ⟨[a], []⟩ := by unfold argsOk; kernel_rfl
theorem args_dq_len (a : Value) : argsOk "collections.deque.__len__" ⟨[a], []⟩ := by unfold argsOk; kernel_rfl
theorem type_dq_append : typeOf (.builtin "collections.deque.append") = pure (.type "method_descriptor") := by show builtinType _ = _; rw [builtinType_eq_fast]; kernel_rfl
theorem type_dq_pop : typeOf (.builtin "collections.deque.pop") = pure (.type "method_descriptor") := by show builtinType _ = _; rw [builtinType_eq_fast]; kernel_rfl
theorem noBool_dq : typeLookup (.type DQ) "__bool__" = pure none := by rw [typeLookup_type, builtinLookup_eq_fast]; kernel_rfl
theorem plainAttrs_dq : PlainAttrs DQ :=
  ⟨⟨"collections.deque.__getattribute__", by rw [typeLookup_type, builtinLookup_eq_fast]; kernel_rfl, by decide +kernel⟩, by rw [typeLookup_type, builtinLookup_eq_fast]; kernel_rfl⟩
section
variable {prog : Program} {w : World} {A : Around} {E : Value → Shared → Prop} {s : Shared} {q : Addr} {st : Int} {l : List Value} {x : Value}
  {h₀ : Heap} {L : Addr} {m : Str → Option Value} {news news' : List (Addr × Obj)}
theorem dq_isT (ho : s.heap.get? q = some (dqObj st l)) : s.TypeIs (.ref q) DQ := ⟨_, ho, rfl⟩
theorem dq_getMethod_append {pl : Sem Bool} {Q : Value × List Value → Shared → Prop} (ho : s.heap.get? q = some (dqObj st l)) (h : Q (.builtin "collections.deque.append", [.ref q]) s) :
    wpAny (model prog w) A (getMethod (.ref q) "append" pl) Q E s := getMethod_builtin (dq_isT ho) plainAttrs_dq slot_dq_append type_dq_append (fun a e => by cases e; exact ⟨_, ho, rfl⟩) h
theorem dq_getMethod_pop {pl : Sem Bool} {Q : Value × List Value → Shared → Prop} (ho : s.heap.get? q = some (dqObj st l)) (h : Q (.builtin "collections.deque.pop", [.ref q]) s) :
    wpAny (model prog w) A (getMethod (.ref q) "pop" pl) Q E s := getMethod_builtin (dq_isT ho) plainAttrs_dq slot_dq_pop type_dq_pop (fun a e => by cases e; exact ⟨_, ho, rfl⟩) h
theorem dq_truthy {Q : Bool → Shared → Prop} (ho : s.heap.get? q = some (dqObj st l)) (hz : l.length ≤ 1000) (h : Q (!l.isEmpty) { s with toks := s.toks + 1 + 1 }) :
    wpAny (model prog w) A (truthy (.ref q)) Q E s := by
  have hne : ((l.length : Int) != 0) = !l.isEmpty := by
    cases l with
    | nil => rfl
    | cons a r => simp only [List.length_cons, List.isEmpty_cons, Bool.not_false, bne_iff_ne, ne_eq]; omega
  have key : wpAny (model prog w) A (runValue (.builtin "len" ⟨[.ref q], []⟩)) (fun r s' => r = .int l.length (s.toks + 1) ∧ Q (!l.isEmpty) s') E s := by
    refine wpAny_runValue (codeAny_builtin entry_len ?_)
    rw [Around.under_plainId plain_len _]
    refine wpAny_mono (Q := fun fin s' => ∃ r, fin = .done (.ret r) ∧ (r = .int l.length (s.toks + 1) ∧ Q (!l.isEmpty) s')) (E := E) ?_ (fun fin s' h' => by obtain ⟨r, rfl, hq⟩ := h'; exact hq) fun _ _ e => e
    unfold Builtin.«len»
    refine wpAny_bind (m := oneArg "len" _) (wpAny_pure ?_)
    refine wpAny_bind (m := callSpecial? (.ref q) (Str.ofString "__len__")) (wpAny_callSpecial?_slot (name := Str.ofString "__len__") (dq_isT ho) slot_dq_len
      (wpAny_call_entry slot_dq_len (dq_isT ho) entry_dq_len ?_ (args_dq_len _)))
    show wpAny _ _ (do retInt (← Builtin.Deque.size (.ref q))) _ _ s
    unfold Builtin.Deque.size
    refine wpAny_bind (wpAny_bind (wpAny_fieldsOf ho rfl (wpAny_pure ?_)))
    have e1 : ((.none :: rawInt st :: l).toArray.size - 2 : Nat) = l.length := by simp
    rw [e1]
    refine wpAny_bind (wpAny_mkInt (wpAny_pure ⟨_, rfl, ?_⟩))
    refine wpAny_bind (wpAny_holding (wpAny_pure ?_))
    refine wpAny_bind (wpAny_letGo ?_)
    show wpAny _ _ (if ((l.length : Nat) : Int) < 0 then _ else _) _ _ _
    rw [if_neg (by omega)]
    show wpAny _ _ (if ((l.length : Nat) : Int) ≥ 2 ^ 63 then _ else _) _ _ _
    rw [if_neg (by omega)]
    exact wpAny_bind (wpAny_mkInt (wpAny_pure ⟨_, rfl, rfl, h⟩))
  unfold truthy
  first
    | refine wpAny_bind (wpAny_callSpecial?_none (name := Str.ofString "__bool__") (dq_isT ho) noBool_dq ?_)
    | refine wpAny_bind (wpAny_pure (wpAny_bind (wpAny_callSpecial?_none (name := Str.ofString "__bool__") (dq_isT ho) noBool_dq ?_)))
  first
    | refine wpAny_bind (wpAny_specialOf (name := Str.ofString "__len__") (dq_isT ho) slot_dq_len.lookup ?_)
    | refine wpAny_bind (wpAny_pure (wpAny_bind (wpAny_specialOf (name := Str.ofString "__len__") (dq_isT ho) slot_dq_len.lookup ?_)))
  first
    | exact wpAny_bind (wpAny_mono key (fun r s' h' => by obtain ⟨rfl, hq⟩ := h'; exact wpAny_pure (hne ▸ hq)) fun _ _ e => e)
    | exact wpAny_bind (wpAny_pure (wpAny_bind (wpAny_mono key (fun r s' h' => by obtain ⟨rfl, hq⟩ := h'; exact wpAny_pure (hne ▸ hq)) fun _ _ e => e)))
theorem dq_change {f : Array Value → Array Value} {l' : List Value} {Q : Unit → Shared → Prop} (F : Fr h₀ L s.heap m) (N : News h₀ L s.heap news) (U : Upd q (dqObj st l) (dqObj (st + 1) l') news news')
    (hf : f l.toArray = l'.toArray) (hz : l'.length ≤ 1000) (h : ∀ h', Fr h₀ L h' m → News h₀ L h' news' → Q () { s with heap := h' }) :
    wpAny (model prog w) A (Builtin.Deque.change (.ref q) f) Q E s := by
  refine hid fun hn9_1 => ?_
  obtain ⟨pre, post, rfl, rfl, a, b⟩ := U.split
  refine hn9_1 ?_
  clear hn9_1
  have z := N (q, dqObj st l) (List.mem_append.mpr (.inr (.head _)))
  unfold Builtin.Deque.change Builtin.Deque.state
  refine wpAny_bind (wpAny_bind (wpAny_field z.1 rfl (i := 1) (x := rawInt st) rfl (wpAny_pure ?_)))
  unfold updateFields
  refine wpAny_bind (wpAny_load z.1 ?_)
  have e : Obj.mapFields (fun vs => #[vs.getD 0 .none, rawInt (if true then st + 1 else st)] ++ f (vs.extract 2 vs.size)) (dqObj st l) = dqObj (st + 1) l' := by
    have e2 : ((.none :: rawInt st :: l).toArray.extract 2 (.none :: rawInt st :: l).toArray.size) = l.toArray := by simp
    show Obj.mk _ _ (.fields (#[_, _] ++ f ((.none :: rawInt st :: l).toArray.extract 2 (.none :: rawInt st :: l).toArray.size))) _ = _
    rw [e2, hf]
    unfold dqObj
    congr 2
    simp
  have z' : (s.heap.update q (Obj.mapFields (fun vs => #[vs.getD 0 .none, rawInt (if true then st + 1 else st)] ++ f (vs.extract 2 vs.size)))).get? q = some (dqObj (st + 1) l') := by
    rw [Heap.get?_update_self _ z.1 (by rw [e]; rfl), e]
  refine wpAny_bind (wpAny_update z.1 (wpAny_lookBehind z' ?_ (h _ (F.change (Heap.SameBut.update ..) z.2.1 z.2.2) (news_set N a b (Heap.SameBut.update ..) z'))))
  show Data.pastItsLine (.fields (.none :: rawInt (st + 1) :: l').toArray) = none
  unfold Data.pastItsLine
  simp only [List.size_toArray, List.length_cons, sizeLine_eq]
  first | (rw [if_neg (by omega)]) | (simp; omega) | simp
theorem dq_append {Q : Value → Shared → Prop} (F : Fr h₀ L s.heap m) (N : News h₀ L s.heap news) (U : Upd q (dqObj st l) (dqObj (st + 1) (l ++ [x])) news news')
    (hz : l.length ≤ 900) (h : ∀ h', Fr h₀ L h' m → News h₀ L h' news' → Q .none { s with heap := h' }) :
    wpAny (model prog w) A (call (.builtin "collections.deque.append") [.ref q, x]) Q E s := by
  refine hid fun hn9_2 => ?_
  obtain ⟨pre, post, e1, e2, a, b⟩ := U.split
  refine hn9_2 ?_
  clear hn9_2
  have z := N (q, dqObj st l) (by rw [e1]; exact List.mem_append.mpr (.inr (.head _)))
  refine wpAny_call_entry slot_dq_append (dq_isT z.1) entry_dq_append ?_ (args_dq_append _ _)
  unfold Builtin.«collections.deque.append»
  refine wpAny_bind (m := selfAndOne _ _) (wpAny_pure ?_)
  show wpAny _ _ (Builtin.Deque.pushRight (.ref q) x >>= _) _ _ s
  unfold Builtin.Deque.pushRight
  refine wpAny_bind (wpAny_bind (dq_change F N U (by simp) (by simp; omega) fun h' F' N' => ?_))
  have z' := N' (q, dqObj (st + 1) (l ++ [x])) (by rw [e2]; exact List.mem_append.mpr (.inr (.head _)))
  unfold Builtin.Deque.maxlen
  refine wpAny_bind (wpAny_bind (wpAny_field z'.1 rfl (i := 0) (x := .none) rfl (wpAny_pure ?_)))
  exact wpAny_pure (wpAny_pure ⟨_, rfl, h h' F' N'⟩)
theorem dq_pop {Q : Value → Shared → Prop} (F : Fr h₀ L s.heap m) (N : News h₀ L s.heap news) (U : Upd q (dqObj st (l ++ [x])) (dqObj (st + 1) l) news news')
    (hz : l.length ≤ 900) (h : ∀ h', Fr h₀ L h' m → News h₀ L h' news' → Q x { s with heap := h' }) :
    wpAny (model prog w) A (call (.builtin "collections.deque.pop") [.ref q]) Q E s := by
  refine hid fun hn9_3 => ?_
  obtain ⟨pre, post, e1, e2, a, b⟩ := U.split
  refine hn9_3 ?_
  clear hn9_3
  have z := N (q, dqObj st (l ++ [x])) (by rw [e1]; exact List.mem_append.mpr (.inr (.head _)))
  refine wpAny_call_entry slot_dq_pop (dq_isT z.1) entry_dq_pop ?_ (args_dq_pop _)
  unfold Builtin.«collections.deque.pop»
  refine wpAny_bind (m := selfOnly _ _) (wpAny_pure ?_)
  unfold Builtin.Deque.items
  refine wpAny_bind (wpAny_bind (wpAny_fieldsOf z.1 rfl (wpAny_pure ?_)))
  have e : ((.none :: rawInt st :: (l ++ [x])).toArray.extract 2 (.none :: rawInt st :: (l ++ [x])).toArray.size).back? = some x := by
    simp only [List.size_toArray, List.length_cons, List.length_append, List.length_nil, List.extract_toArray]
    simp [List.take_of_length_le]
  rw [e]
  refine wpAny_bind (dq_change F N U (by simp) (by omega) fun h' F' N' => ?_)
  exact wpAny_pure ⟨_, rfl, h h' F' N'⟩
end
noncomputable def clsBody (i : Nat) : List Stmt := match pw.main.body[i]? with | some (.ClassDef _ _ _ body _ _ _ _ _ _ _) => body | _ => []
noncomputable def defBody : Option Stmt → List Stmt | some (.FunctionDef _ _ b _ _ _ _ _ _ _) => b | _ => []
noncomputable def defScope : Option Stmt → Scope | some (.FunctionDef _ _ _ _ _ _ sc _ _ _) => sc | _ => default
noncomputable def whileBody : Option Stmt → List Stmt | some (.While _ b _ _) => b | _ => []
noncomputable def methAt (i j : Nat) : Option Stmt := (clsBody i)[j]?
theorem ite_bt {b : Bool} {A B : Prop} (h : b = true) (x : A) : if b = true then A else B := by rw [if_pos h]; exact x
theorem ite_bf {b : Bool} {A B : Prop} (h : b = false) (x : B) : if b = true then A else B := by rw [if_neg (by rw [h]; exact Bool.false_ne_true)]; exact x
theorem ite_in_t {x : Str} {c : Nat} {A B : Prop} (h : c ∈ x.cps.toList) (y : A) : if (!(Builtin.Str.occurrences x ⟨#[c]⟩ 0 x.length 1).isEmpty) = true then A else B := by
  rw [StrLaws.found_one, if_pos (decide_eq_true h)]; exact y
theorem ite_in_f {x : Str} {c : Nat} {A B : Prop} (h : c ∉ x.cps.toList) (y : B) : if (!(Builtin.Str.occurrences x ⟨#[c]⟩ 0 x.length 1).isEmpty) = true then A else B := by
  rw [StrLaws.found_one, if_neg (by rw [decide_eq_false h]; exact Bool.false_ne_true)]; exact y
theorem ite_pt {P : Prop} [Decidable P] {A B : Prop} (h : P) (x : A) : if P then A else B := by rw [if_pos h]; exact x
theorem ite_pf {P : Prop} [Decidable P] {A B : Prop} (h : ¬ P) (x : B) : if P then A else B := by rw [if_neg h]; exact x
theorem tr_pos {prog : Program} {w : World} {A : Around} {E : Value → Shared → Prop} {s : Shared} {x : Str} {t : Tok} {Q : Bool → Shared → Prop} (h0 : 0 < x.length) (hb : x.length ≤ 1000000)
    (h : Q true { s with toks := s.toks + 1 + 1 }) : wpAny (model prog w) A (truthy (.str x t)) Q E s := by
  refine P.truthy_str (by omega) ?_
  have e : ((x.length : Int) != 0) = true := bne_iff_ne.mpr (by omega)
  rw [e]; exact h
theorem one_len (c : Nat) : (Str.mk #[c]).length = 1 := rfl
/-- the lexer's word signs -/
noncomputable def wch : Str := "abcdfeghijklmnopqrstuvwxyzABCDEFGHIJKLMNOPQRSTUVWXYZ0123456789_ßàáâãäåæçèéêëìíîïðñòóôõöøùúûüýþÿÀÁÂÃÄÅÆÇÈÉÊËÌÍÎÏÐÑÒÓÔÕÖØÙÚÛÜÝÞ~-./*?="
noncomputable abbrev en (P : Params) (n : Str) (k : Tok) (v : Value) : DictEntry := ⟨PyData.keyHash P n, .str n k, v⟩
/-- the lexer's attributes -/
noncomputable abbrev shEs (P : Params) (kt vt : Nat → Tok) (y pb q fs : Addr) (st : Value) (ln : Int) (tl : Tok) (tok : Str) (tt : Tok) : List DictEntry :=
  [en P "instream" (kt 0) (.ref y), en P "infile" (kt 1) .none, en P "posix" (kt 2) (.bool true), en P "eof" (kt 3) .none, en P "commenters" (kt 4) (.str "#" (vt 4)), en P "wordchars" (kt 5) (.str wch (vt 5)),
   en P "whitespace" (kt 6) (.str " \t\r\n" (vt 6)), en P "whitespace_split" (kt 7) (.bool false), en P "quotes" (kt 8) (.str "'\"" (vt 8)), en P "escape" (kt 9) (.str "\\" (vt 9)), en P "escapedquotes" (kt 10) (.str "\"" (vt 10)),
   en P "state" (kt 11) st, en P "pushback" (kt 12) (.ref pb), en P "lineno" (kt 13) (.int ln tl), en P "debug" (kt 14) (.int 0 (vt 14)), en P "token" (kt 15) (.str tok tt), en P "filestack" (kt 16) (.ref fs), en P "source" (kt 17) .none,
   en P "_punctuation_chars" (kt 18) (.str ";" (vt 18)), en P "_pushback_chars" (kt 19) (.ref q)]
/-- the stream's attributes -/
noncomputable abbrev stEs (P : Params) (k1 k2 k3 t1 t2 : Tok) (buf : Str) (pos : Nat) (t3 : Tok) : List DictEntry :=
  [en P "_StringIO__newline" k1 (.str "\n" t1), en P "_StringIO__buf" k2 (.str buf t2), en P "_StringIO__pos" k3 (.int pos t3)]
noncomputable def rtBody : List Stmt := whileBody (defBody (methAt 27 6))[2]?
noncomputable def rtScope : Scope := defScope (methAt 27 6)
noncomputable def rtIf : Stmt := match rtBody with | [_, _, _, s] => s | _ => .Pass default
noncomputable def elss : Stmt → List Stmt | .If _ _ e _ => e | _ => []
noncomputable def thns : Stmt → List Stmt | .If _ b _ _ => b | _ => []
noncomputable def stAt (l : List Stmt) (i : Nat) : Stmt := l[i]?.getD (.Pass default)
noncomputable def els (s : Stmt) : Stmt := stAt (elss s) 0
noncomputable def thn (s : Stmt) : Stmt := stAt (thns s) 0
noncomputable def tst : Stmt → Expr | .If t _ _ _ => t | _ => default
end
local macro_rules | `(tactic| k_room) => `(tactic| ktr_room)
local macro_rules | `(tactic| k_units) => `(tactic| ktr_units)
local macro_rules | `(tactic| walk_at "Lcj") => `(tactic| with_reducible first | assumption | exact And.left (by assumption) | exact And.left (And.right (by assumption)) | exact And.left (And.right (And.right (by assumption))) | exact And.left (And.right (And.right (And.right (by assumption)))) | exact And.left (And.right (And.right (And.right (And.right (by assumption))))))
local macro_rules | `(tactic| k_ne) => `(tactic| (refine neN ?_; (try dsimp only); first | walk_at "Lcj" | (refine Ne.symm ?_; walk_at "Lcj") | (refine Nat.ne_of_lt ?_; walk_at "Lcj") | (refine Nat.ne_of_gt ?_; walk_at "Lcj")))
section
-- text Rsa
/-- what read_token's loop holds fast: addresses, the keys' marks, what else is on the ledger -/
structure Cc where
  x : Nat
  dx : Nat
  q : Nat
  y : Nat
  dy : Nat
  pb : Nat
  fs : Nat
  kt : Nat → Tok
  vt : Nat → Tok
  buf : Str
  rest : List (Addr × Obj)
/-- what it turns -/
structure Vv where
  st : Option Str
  ln : Int
  tok : Str
  dq : Option Nat
  nc : Option Str
  qb : Bool
  es : Str
  pos : Nat
noncomputable def stV : Option Str → Tok → Value
  | some x, t => .str x t
  | none, _ => .none
noncomputable def dqL : Option Nat → Tok → List Value
  | some c, t => [.str ⟨#[c]⟩ t]
  | none, _ => []
noncomputable abbrev rtE (L : Addr) : Env := envOf "shlex.read_token" rtScope L 850 (.ref 849)
noncomputable abbrev rtA (dp un : Nat) (gd : Option (List Code)) (outer : List Env) (L : Addr) : Around := ktrTop dp un gd "shlex.read_token" rtScope L 850 (.ref 849) [] outer
noncomputable abbrev MM (w : World) : Model := model PySem.Challenge.rw_in0111_01.row.prog w
/-- the ground read_token's frame stands on -/
structure G where
  w : World
  p : Program
  loose : List Str
  mean : ExcName → Option Value
  mg : Str → Option Value
  mb : Str → Option Value
  dp : Nat
  un : Nat
  gd : Option (List Code)
  outer : List Env
  A₀ : Around
  base : Heap
  h₀ : Heap
  L : Addr
  s₀ : Shared
  c : Cc
structure GOk (g : G) : Prop where
  B : Below g.A₀ g.base g.outer g.h₀
  X : (Mine.mkK.heap_1 g.w.params).In g.h₀
  T : Top g.p g.loose g.mean g.mg g.mb g.h₀
  hdp : g.dp + 15 < recursionLimit
  hun : g.un + 80 < cLine
  a : g.c.dx < g.c.x
  b : g.c.x < g.c.dy
  d : g.c.dy < g.c.y
  f : g.c.y < g.c.q
  o : OwnOff g.c.rest [g.c.q, g.c.dx, g.c.x, g.c.dy, g.c.y]
  z : g.c.buf.length ≤ 100000
noncomputable abbrev G.M (g : G) : Model := MM g.w
noncomputable abbrev G.A (g : G) : Around := rtA g.dp g.un g.gd g.outer g.L
noncomputable abbrev G.E (g : G) : Env := rtE g.L
noncomputable abbrev rsLed (P : Params) (c : Cc) (st : Option Str) (ln : Int) (tok : Str) (dq : Option Nat) (pos : Nat) (stt tl tt td tp : Tok) (dst : Int) : List (Addr × Obj) :=
  (c.q, dqObj dst (dqL dq td)) :: (c.dx, dictOf (shEs P c.kt c.vt c.y c.pb c.q c.fs (stV st stt) ln tl tok tt) 20) :: (c.x, instObj 882 c.dx) ::
    (c.dy, dictOf (stEs P (c.kt 20) (c.kt 21) (c.kt 22) (c.vt 20) (c.vt 21) c.buf pos tp) 3) :: (c.y, instObj 747 c.dy) :: c.rest
noncomputable abbrev rsMap (x : Nat) (ncv : Option Value) (qb : Bool) (es : Str) (t1 : Tok) (u : Str → Option Value) : Str → Option Value :=
  fun z => if z = "nextchar" then ncv else if z = "self" then some (.ref x) else if z = "quoted" then some (.bool qb) else if z = "escapedstate" then some (.str es t1) else u z
inductive RS (g : G) (v : Vv) (s : Shared) : Prop
  | of (ncv : Option Value) (t1 stt tl tt td tp : Tok) (dst : Int) (u : Str → Option Value) (h1 : ∀ x, v.nc = some x → ∃ t, ncv = some (.str x t))
    (h2 : Fr g.h₀ g.L s.heap (rsMap g.c.x ncv v.qb v.es t1 u)) (h3 : News g.h₀ g.L s.heap (rsLed g.w.params g.c v.st v.ln v.tok v.dq v.pos stt tl tt td tp dst)) (h : Heap) (tk : Nat) (h4 : s = { g.s₀ with heap := h, toks := tk }) : RS g v s
section
variable {g : G} {s : Shared} {v : Vv} {Q : Value → Shared → Prop} {E : Value → Shared → Prop}
theorem RS.tk (h : RS g v s) (k : Nat) : RS g v { s with toks := k } := by
  refine hid fun hn9_4 => ?_
  obtain ⟨ncv, t1, stt, tl, tt, td, tp, dst, u, hn, F, N, h', tk, rfl⟩ := h
  refine hn9_4 ?_
  clear hn9_4
  exact ⟨ncv, t1, stt, tl, tt, td, tp, dst, u, hn, F, N, h', k, rfl⟩
theorem g_self {ps : Pos} (h : RS g v s) (k : Q (.ref g.c.x) s) : wpAny g.M g.A (eval (.Name "self" ps) g.E) Q E s := by
  refine hid fun hn9_5 => ?_
  obtain ⟨ncv, t1, stt, tl, tt, td, tp, dst, u, hn, F, N, h', tk, e⟩ := h
  refine hn9_5 ?_
  clear hn9_5
  exact ld F rfl k
theorem g_quoted {ps : Pos} (h : RS g v s) (k : Q (.bool v.qb) s) : wpAny g.M g.A (eval (.Name "quoted" ps) g.E) Q E s := by
  refine hid fun hn9_6 => ?_
  obtain ⟨ncv, t1, stt, tl, tt, td, tp, dst, u, hn, F, N, h', tk, e⟩ := h
  refine hn9_6 ?_
  clear hn9_6
  exact ld F rfl k
theorem g_esc {ps : Pos} (h : RS g v s) (k : ∀ t, Q (.str v.es t) s) : wpAny g.M g.A (eval (.Name "escapedstate" ps) g.E) Q E s := by
  refine hid fun hn9_7 => ?_
  obtain ⟨ncv, t1, stt, tl, tt, td, tp, dst, u, hn, F, N, h', tk, e⟩ := h
  refine hn9_7 ?_
  clear hn9_7
  exact ld F rfl (k t1)
theorem g_nc {ps : Pos} {x : Str} (h : RS g v s) (hx : v.nc = some x) (k : ∀ t, Q (.str x t) s) : wpAny g.M g.A (eval (.Name "nextchar" ps) g.E) Q E s := by
  refine hid fun hn9_8 => ?_
  obtain ⟨ncv, t1, stt, tl, tt, td, tp, dst, u, hn, F, N, h', tk, e⟩ := h
  refine hn9_8 ?_
  clear hn9_8
  refine hid fun hn9_9 => ?_
  obtain ⟨t, rfl⟩ := hn x hx
  refine hn9_9 ?_
  clear hn9_9
  exact ld F rfl (k t)
end
section
variable {g : G} {s : Shared} {v : Vv} {Q : Value → Shared → Prop} {E : Value → Shared → Prop}
theorem a_state {p1 p2 : Pos} (C : GOk g) (h : RS g v s) (k : ∀ t s', RS g v s' → Q (stV v.st t) s') :
    wpAny g.M g.A (eval (.Attribute (.Name "self" p1) "state" p2) g.E) Q E s := by
  refine hid fun hn9_10 => ?_
  obtain ⟨ncv, t1, stt, tl, tt, td, tp, dst, u, hn, F, N, h', tk, e⟩ := h
  refine hn9_10 ?_
  clear hn9_10
  refine hid fun hn9_11 => ?_
  obtain ⟨w, p, loose, mean, mg, mb, dp, un, gd, outer, A₀, base, h₀, L, s₀, ⟨x, dx, q, y, dy, pb, fs, kt, vt, buf, rest⟩⟩ := g
  refine hn9_11 ?_
  clear hn9_11
  refine hid fun hn9_12 => ?_
  obtain ⟨B, X, T, hdp, hun, K1, K2, K3, K4, K5, K6⟩ := C
  refine hn9_12 ?_
  clear hn9_12
  refine hid fun hn9_13 => ?_
  subst e <;> (refine hn9_13 ?_; clear hn9_13)
  dsimp only [rsLed, rsMap] at B X T hdp hun K1 K2 K3 K4 K5 F N ⊢ k
  show wpAny (model PySem.Challenge.rw_in0111_01.row.prog w) _ _ _ _ _
  revert X; k_fill; intro X
  cases hst : v.st <;> simp only [hst, stV] at F N k
  all_goals (repeat' (first | (k_unfold; (try dsimp only)) | (k_end; wrow_close) | walk1 | (dsimp only; walk1) | (leave1; (try dsimp only)) | fail "no step"))
  all_goals (refine' k _ _ ⟨ncv, t1, stt, tl, tt, td, tp, dst, u, hn, ?rF, ?rN, _, _, rfl⟩; (case rF => k_asm); (case rN => first | k_asm | (simp only [hst, stV]; k_asm)))
  all_goals exact (0 : Nat)
theorem a_token {p1 p2 : Pos} (C : GOk g) (h : RS g v s) (k : ∀ t s', RS g v s' → Q (.str v.tok t) s') :
    wpAny g.M g.A (eval (.Attribute (.Name "self" p1) "token" p2) g.E) Q E s := by
  refine hid fun hn9_14 => ?_
  obtain ⟨ncv, t1, stt, tl, tt, td, tp, dst, u, hn, F, N, h', tk, e⟩ := h
  refine hn9_14 ?_
  clear hn9_14
  refine hid fun hn9_15 => ?_
  obtain ⟨w, p, loose, mean, mg, mb, dp, un, gd, outer, A₀, base, h₀, L, s₀, ⟨x, dx, q, y, dy, pb, fs, kt, vt, buf, rest⟩⟩ := g
  refine hn9_15 ?_
  clear hn9_15
  refine hid fun hn9_16 => ?_
  obtain ⟨B, X, T, hdp, hun, K1, K2, K3, K4, K5, K6⟩ := C
  refine hn9_16 ?_
  clear hn9_16
  refine hid fun hn9_17 => ?_
  subst e <;> (refine hn9_17 ?_; clear hn9_17)
  dsimp only [rsLed, rsMap] at B X T hdp hun K1 K2 K3 K4 K5 F N ⊢ k
  show wpAny (model PySem.Challenge.rw_in0111_01.row.prog w) _ _ _ _ _
  revert X; k_fill; intro X
  skip
  all_goals (repeat' (first | (k_unfold; (try dsimp only)) | (k_end; wrow_close) | walk1 | (dsimp only; walk1) | (leave1; (try dsimp only)) | fail "no step"))
  all_goals (refine' k _ _ ⟨ncv, t1, stt, tl, tt, td, tp, dst, u, hn, ?rF, ?rN, _, _, rfl⟩; (case rF => k_asm); (case rN => first | k_asm | k_asm))
theorem a_lineno {p1 p2 : Pos} (C : GOk g) (h : RS g v s) (k : ∀ t s', RS g v s' → Q (.int v.ln t) s') :
    wpAny g.M g.A (eval (.Attribute (.Name "self" p1) "lineno" p2) g.E) Q E s := by
  refine hid fun hn9_18 => ?_
  obtain ⟨ncv, t1, stt, tl, tt, td, tp, dst, u, hn, F, N, h', tk, e⟩ := h
  refine hn9_18 ?_
  clear hn9_18
  refine hid fun hn9_19 => ?_
  obtain ⟨w, p, loose, mean, mg, mb, dp, un, gd, outer, A₀, base, h₀, L, s₀, ⟨x, dx, q, y, dy, pb, fs, kt, vt, buf, rest⟩⟩ := g
  refine hn9_19 ?_
  clear hn9_19
  refine hid fun hn9_20 => ?_
  obtain ⟨B, X, T, hdp, hun, K1, K2, K3, K4, K5, K6⟩ := C
  refine hn9_20 ?_
  clear hn9_20
  refine hid fun hn9_21 => ?_
  subst e <;> (refine hn9_21 ?_; clear hn9_21)
  dsimp only [rsLed, rsMap] at B X T hdp hun K1 K2 K3 K4 K5 F N ⊢ k
  show wpAny (model PySem.Challenge.rw_in0111_01.row.prog w) _ _ _ _ _
  revert X; k_fill; intro X
  skip
  all_goals (repeat' (first | (k_unfold; (try dsimp only)) | (k_end; wrow_close) | walk1 | (dsimp only; walk1) | (leave1; (try dsimp only)) | fail "no step"))
  all_goals (refine' k _ _ ⟨ncv, t1, stt, tl, tt, td, tp, dst, u, hn, ?rF, ?rN, _, _, rfl⟩; (case rF => k_asm); (case rN => first | k_asm | k_asm))
theorem a_debug {p1 p2 : Pos} (C : GOk g) (h : RS g v s) (k : ∀ t s', RS g v s' → Q (.int 0 t) s') :
    wpAny g.M g.A (eval (.Attribute (.Name "self" p1) "debug" p2) g.E) Q E s := by
  refine hid fun hn9_22 => ?_
  obtain ⟨ncv, t1, stt, tl, tt, td, tp, dst, u, hn, F, N, h', tk, e⟩ := h
  refine hn9_22 ?_
  clear hn9_22
  refine hid fun hn9_23 => ?_
  obtain ⟨w, p, loose, mean, mg, mb, dp, un, gd, outer, A₀, base, h₀, L, s₀, ⟨x, dx, q, y, dy, pb, fs, kt, vt, buf, rest⟩⟩ := g
  refine hn9_23 ?_
  clear hn9_23
  refine hid fun hn9_24 => ?_
  obtain ⟨B, X, T, hdp, hun, K1, K2, K3, K4, K5, K6⟩ := C
  refine hn9_24 ?_
  clear hn9_24
  refine hid fun hn9_25 => ?_
  subst e <;> (refine hn9_25 ?_; clear hn9_25)
  dsimp only [rsLed, rsMap] at B X T hdp hun K1 K2 K3 K4 K5 F N ⊢ k
  show wpAny (model PySem.Challenge.rw_in0111_01.row.prog w) _ _ _ _ _
  revert X; k_fill; intro X
  skip
  all_goals (repeat' (first | (k_unfold; (try dsimp only)) | (k_end; wrow_close) | walk1 | (dsimp only; walk1) | (leave1; (try dsimp only)) | fail "no step"))
  all_goals (refine' k _ _ ⟨ncv, t1, stt, tl, tt, td, tp, dst, u, hn, ?rF, ?rN, _, _, rfl⟩; (case rF => k_asm); (case rN => first | k_asm | k_asm))
theorem a_posix {p1 p2 : Pos} (C : GOk g) (h : RS g v s) (k : ∀ s', RS g v s' → Q (.bool true) s') :
    wpAny g.M g.A (eval (.Attribute (.Name "self" p1) "posix" p2) g.E) Q E s := by
  refine hid fun hn9_26 => ?_
  obtain ⟨ncv, t1, stt, tl, tt, td, tp, dst, u, hn, F, N, h', tk, e⟩ := h
  refine hn9_26 ?_
  clear hn9_26
  refine hid fun hn9_27 => ?_
  obtain ⟨w, p, loose, mean, mg, mb, dp, un, gd, outer, A₀, base, h₀, L, s₀, ⟨x, dx, q, y, dy, pb, fs, kt, vt, buf, rest⟩⟩ := g
  refine hn9_27 ?_
  clear hn9_27
  refine hid fun hn9_28 => ?_
  obtain ⟨B, X, T, hdp, hun, K1, K2, K3, K4, K5, K6⟩ := C
  refine hn9_28 ?_
  clear hn9_28
  refine hid fun hn9_29 => ?_
  subst e <;> (refine hn9_29 ?_; clear hn9_29)
  dsimp only [rsLed, rsMap] at B X T hdp hun K1 K2 K3 K4 K5 F N ⊢ k
  show wpAny (model PySem.Challenge.rw_in0111_01.row.prog w) _ _ _ _ _
  revert X; k_fill; intro X
  skip
  all_goals (repeat' (first | (k_unfold; (try dsimp only)) | (k_end; wrow_close) | walk1 | (dsimp only; walk1) | (leave1; (try dsimp only)) | fail "no step"))
  all_goals (refine' k _ ⟨ncv, t1, stt, tl, tt, td, tp, dst, u, hn, ?rF, ?rN, _, _, rfl⟩; (case rF => k_asm); (case rN => first | k_asm | k_asm))
theorem a_whitespace_split {p1 p2 : Pos} (C : GOk g) (h : RS g v s) (k : ∀ s', RS g v s' → Q (.bool false) s') :
    wpAny g.M g.A (eval (.Attribute (.Name "self" p1) "whitespace_split" p2) g.E) Q E s := by
  refine hid fun hn9_30 => ?_
  obtain ⟨ncv, t1, stt, tl, tt, td, tp, dst, u, hn, F, N, h', tk, e⟩ := h
  refine hn9_30 ?_
  clear hn9_30
  refine hid fun hn9_31 => ?_
  obtain ⟨w, p, loose, mean, mg, mb, dp, un, gd, outer, A₀, base, h₀, L, s₀, ⟨x, dx, q, y, dy, pb, fs, kt, vt, buf, rest⟩⟩ := g
  refine hn9_31 ?_
  clear hn9_31
  refine hid fun hn9_32 => ?_
  obtain ⟨B, X, T, hdp, hun, K1, K2, K3, K4, K5, K6⟩ := C
  refine hn9_32 ?_
  clear hn9_32
  refine hid fun hn9_33 => ?_
  subst e <;> (refine hn9_33 ?_; clear hn9_33)
  dsimp only [rsLed, rsMap] at B X T hdp hun K1 K2 K3 K4 K5 F N ⊢ k
  show wpAny (model PySem.Challenge.rw_in0111_01.row.prog w) _ _ _ _ _
  revert X; k_fill; intro X
  skip
  all_goals (repeat' (first | (k_unfold; (try dsimp only)) | (k_end; wrow_close) | walk1 | (dsimp only; walk1) | (leave1; (try dsimp only)) | fail "no step"))
  all_goals (refine' k _ ⟨ncv, t1, stt, tl, tt, td, tp, dst, u, hn, ?rF, ?rN, _, _, rfl⟩; (case rF => k_asm); (case rN => first | k_asm | k_asm))
theorem a_whitespace {p1 p2 : Pos} (C : GOk g) (h : RS g v s) (k : ∀ t s', RS g v s' → Q (.str " \t\r\n" t) s') :
    wpAny g.M g.A (eval (.Attribute (.Name "self" p1) "whitespace" p2) g.E) Q E s := by
  refine hid fun hn9_34 => ?_
  obtain ⟨ncv, t1, stt, tl, tt, td, tp, dst, u, hn, F, N, h', tk, e⟩ := h
  refine hn9_34 ?_
  clear hn9_34
  refine hid fun hn9_35 => ?_
  obtain ⟨w, p, loose, mean, mg, mb, dp, un, gd, outer, A₀, base, h₀, L, s₀, ⟨x, dx, q, y, dy, pb, fs, kt, vt, buf, rest⟩⟩ := g
  refine hn9_35 ?_
  clear hn9_35
  refine hid fun hn9_36 => ?_
  obtain ⟨B, X, T, hdp, hun, K1, K2, K3, K4, K5, K6⟩ := C
  refine hn9_36 ?_
  clear hn9_36
  refine hid fun hn9_37 => ?_
  subst e <;> (refine hn9_37 ?_; clear hn9_37)
  dsimp only [rsLed, rsMap] at B X T hdp hun K1 K2 K3 K4 K5 F N ⊢ k
  show wpAny (model PySem.Challenge.rw_in0111_01.row.prog w) _ _ _ _ _
  revert X; k_fill; intro X
  skip
  all_goals (repeat' (first | (k_unfold; (try dsimp only)) | (k_end; wrow_close) | walk1 | (dsimp only; walk1) | (leave1; (try dsimp only)) | fail "no step"))
  all_goals (refine' k _ _ ⟨ncv, t1, stt, tl, tt, td, tp, dst, u, hn, ?rF, ?rN, _, _, rfl⟩; (case rF => k_asm); (case rN => first | k_asm | k_asm))
theorem a_commenters {p1 p2 : Pos} (C : GOk g) (h : RS g v s) (k : ∀ t s', RS g v s' → Q (.str "#" t) s') :
    wpAny g.M g.A (eval (.Attribute (.Name "self" p1) "commenters" p2) g.E) Q E s := by
  refine hid fun hn9_38 => ?_
  obtain ⟨ncv, t1, stt, tl, tt, td, tp, dst, u, hn, F, N, h', tk, e⟩ := h
  refine hn9_38 ?_
  clear hn9_38
  refine hid fun hn9_39 => ?_
  obtain ⟨w, p, loose, mean, mg, mb, dp, un, gd, outer, A₀, base, h₀, L, s₀, ⟨x, dx, q, y, dy, pb, fs, kt, vt, buf, rest⟩⟩ := g
  refine hn9_39 ?_
  clear hn9_39
  refine hid fun hn9_40 => ?_
  obtain ⟨B, X, T, hdp, hun, K1, K2, K3, K4, K5, K6⟩ := C
  refine hn9_40 ?_
  clear hn9_40
  refine hid fun hn9_41 => ?_
  subst e <;> (refine hn9_41 ?_; clear hn9_41)
  dsimp only [rsLed, rsMap] at B X T hdp hun K1 K2 K3 K4 K5 F N ⊢ k
  show wpAny (model PySem.Challenge.rw_in0111_01.row.prog w) _ _ _ _ _
  revert X; k_fill; intro X
  skip
  all_goals (repeat' (first | (k_unfold; (try dsimp only)) | (k_end; wrow_close) | walk1 | (dsimp only; walk1) | (leave1; (try dsimp only)) | fail "no step"))
  all_goals (refine' k _ _ ⟨ncv, t1, stt, tl, tt, td, tp, dst, u, hn, ?rF, ?rN, _, _, rfl⟩; (case rF => k_asm); (case rN => first | k_asm | k_asm))
theorem a_escape {p1 p2 : Pos} (C : GOk g) (h : RS g v s) (k : ∀ t s', RS g v s' → Q (.str "\\" t) s') :
    wpAny g.M g.A (eval (.Attribute (.Name "self" p1) "escape" p2) g.E) Q E s := by
  refine hid fun hn9_42 => ?_
  obtain ⟨ncv, t1, stt, tl, tt, td, tp, dst, u, hn, F, N, h', tk, e⟩ := h
  refine hn9_42 ?_
  clear hn9_42
  refine hid fun hn9_43 => ?_
  obtain ⟨w, p, loose, mean, mg, mb, dp, un, gd, outer, A₀, base, h₀, L, s₀, ⟨x, dx, q, y, dy, pb, fs, kt, vt, buf, rest⟩⟩ := g
  refine hn9_43 ?_
  clear hn9_43
  refine hid fun hn9_44 => ?_
  obtain ⟨B, X, T, hdp, hun, K1, K2, K3, K4, K5, K6⟩ := C
  refine hn9_44 ?_
  clear hn9_44
  refine hid fun hn9_45 => ?_
  subst e <;> (refine hn9_45 ?_; clear hn9_45)
  dsimp only [rsLed, rsMap] at B X T hdp hun K1 K2 K3 K4 K5 F N ⊢ k
  show wpAny (model PySem.Challenge.rw_in0111_01.row.prog w) _ _ _ _ _
  revert X; k_fill; intro X
  skip
  all_goals (repeat' (first | (k_unfold; (try dsimp only)) | (k_end; wrow_close) | walk1 | (dsimp only; walk1) | (leave1; (try dsimp only)) | fail "no step"))
  all_goals (refine' k _ _ ⟨ncv, t1, stt, tl, tt, td, tp, dst, u, hn, ?rF, ?rN, _, _, rfl⟩; (case rF => k_asm); (case rN => first | k_asm | k_asm))
theorem a_wordchars {p1 p2 : Pos} (C : GOk g) (h : RS g v s) (k : ∀ t s', RS g v s' → Q (.str wch t) s') :
    wpAny g.M g.A (eval (.Attribute (.Name "self" p1) "wordchars" p2) g.E) Q E s := by
  refine hid fun hn9_46 => ?_
  obtain ⟨ncv, t1, stt, tl, tt, td, tp, dst, u, hn, F, N, h', tk, e⟩ := h
  refine hn9_46 ?_
  clear hn9_46
  refine hid fun hn9_47 => ?_
  obtain ⟨w, p, loose, mean, mg, mb, dp, un, gd, outer, A₀, base, h₀, L, s₀, ⟨x, dx, q, y, dy, pb, fs, kt, vt, buf, rest⟩⟩ := g
  refine hn9_47 ?_
  clear hn9_47
  refine hid fun hn9_48 => ?_
  obtain ⟨B, X, T, hdp, hun, K1, K2, K3, K4, K5, K6⟩ := C
  refine hn9_48 ?_
  clear hn9_48
  refine hid fun hn9_49 => ?_
  subst e <;> (refine hn9_49 ?_; clear hn9_49)
  dsimp only [rsLed, rsMap] at B X T hdp hun K1 K2 K3 K4 K5 F N ⊢ k
  show wpAny (model PySem.Challenge.rw_in0111_01.row.prog w) _ _ _ _ _
  revert X; k_fill; intro X
  skip
  all_goals (repeat' (first | (k_unfold; (try dsimp only)) | (k_end; wrow_close) | walk1 | (dsimp only; walk1) | (leave1; (try dsimp only)) | fail "no step"))
  all_goals (refine' k _ _ ⟨ncv, t1, stt, tl, tt, td, tp, dst, u, hn, ?rF, ?rN, _, _, rfl⟩; (case rF => k_asm); (case rN => first | k_asm | k_asm))
theorem a_quotes {p1 p2 : Pos} (C : GOk g) (h : RS g v s) (k : ∀ t s', RS g v s' → Q (.str "'\"" t) s') :
    wpAny g.M g.A (eval (.Attribute (.Name "self" p1) "quotes" p2) g.E) Q E s := by
  refine hid fun hn9_50 => ?_
  obtain ⟨ncv, t1, stt, tl, tt, td, tp, dst, u, hn, F, N, h', tk, e⟩ := h
  refine hn9_50 ?_
  clear hn9_50
  refine hid fun hn9_51 => ?_
  obtain ⟨w, p, loose, mean, mg, mb, dp, un, gd, outer, A₀, base, h₀, L, s₀, ⟨x, dx, q, y, dy, pb, fs, kt, vt, buf, rest⟩⟩ := g
  refine hn9_51 ?_
  clear hn9_51
  refine hid fun hn9_52 => ?_
  obtain ⟨B, X, T, hdp, hun, K1, K2, K3, K4, K5, K6⟩ := C
  refine hn9_52 ?_
  clear hn9_52
  refine hid fun hn9_53 => ?_
  subst e <;> (refine hn9_53 ?_; clear hn9_53)
  dsimp only [rsLed, rsMap] at B X T hdp hun K1 K2 K3 K4 K5 F N ⊢ k
  show wpAny (model PySem.Challenge.rw_in0111_01.row.prog w) _ _ _ _ _
  revert X; k_fill; intro X
  skip
  all_goals (repeat' (first | (k_unfold; (try dsimp only)) | (k_end; wrow_close) | walk1 | (dsimp only; walk1) | (leave1; (try dsimp only)) | fail "no step"))
  all_goals (refine' k _ _ ⟨ncv, t1, stt, tl, tt, td, tp, dst, u, hn, ?rF, ?rN, _, _, rfl⟩; (case rF => k_asm); (case rN => first | k_asm | k_asm))
theorem a_escapedquotes {p1 p2 : Pos} (C : GOk g) (h : RS g v s) (k : ∀ t s', RS g v s' → Q (.str "\"" t) s') :
    wpAny g.M g.A (eval (.Attribute (.Name "self" p1) "escapedquotes" p2) g.E) Q E s := by
  refine hid fun hn9_54 => ?_
  obtain ⟨ncv, t1, stt, tl, tt, td, tp, dst, u, hn, F, N, h', tk, e⟩ := h
  refine hn9_54 ?_
  clear hn9_54
  refine hid fun hn9_55 => ?_
  obtain ⟨w, p, loose, mean, mg, mb, dp, un, gd, outer, A₀, base, h₀, L, s₀, ⟨x, dx, q, y, dy, pb, fs, kt, vt, buf, rest⟩⟩ := g
  refine hn9_55 ?_
  clear hn9_55
  refine hid fun hn9_56 => ?_
  obtain ⟨B, X, T, hdp, hun, K1, K2, K3, K4, K5, K6⟩ := C
  refine hn9_56 ?_
  clear hn9_56
  refine hid fun hn9_57 => ?_
  subst e <;> (refine hn9_57 ?_; clear hn9_57)
  dsimp only [rsLed, rsMap] at B X T hdp hun K1 K2 K3 K4 K5 F N ⊢ k
  show wpAny (model PySem.Challenge.rw_in0111_01.row.prog w) _ _ _ _ _
  revert X; k_fill; intro X
  skip
  all_goals (repeat' (first | (k_unfold; (try dsimp only)) | (k_end; wrow_close) | walk1 | (dsimp only; walk1) | (leave1; (try dsimp only)) | fail "no step"))
  all_goals (refine' k _ _ ⟨ncv, t1, stt, tl, tt, td, tp, dst, u, hn, ?rF, ?rN, _, _, rfl⟩; (case rF => k_asm); (case rN => first | k_asm | k_asm))
theorem a_punctuation_chars {p1 p2 : Pos} (C : GOk g) (h : RS g v s) (k : ∀ t s', RS g v s' → Q (.str ";" t) s') :
    wpAny g.M g.A (eval (.Attribute (.Name "self" p1) "punctuation_chars" p2) g.E) Q E s := by
  refine hid fun hn9_58 => ?_
  obtain ⟨ncv, t1, stt, tl, tt, td, tp, dst, u, hn, F, N, h', tk, e⟩ := h
  refine hn9_58 ?_
  clear hn9_58
  refine hid fun hn9_59 => ?_
  obtain ⟨w, p, loose, mean, mg, mb, dp, un, gd, outer, A₀, base, h₀, L, s₀, ⟨x, dx, q, y, dy, pb, fs, kt, vt, buf, rest⟩⟩ := g
  refine hn9_59 ?_
  clear hn9_59
  refine hid fun hn9_60 => ?_
  obtain ⟨B, X, T, hdp, hun, K1, K2, K3, K4, K5, K6⟩ := C
  refine hn9_60 ?_
  clear hn9_60
  refine hid fun hn9_61 => ?_
  subst e <;> (refine hn9_61 ?_; clear hn9_61)
  dsimp only [rsLed, rsMap] at B X T hdp hun K1 K2 K3 K4 K5 F N ⊢ k
  show wpAny (model PySem.Challenge.rw_in0111_01.row.prog w) _ _ _ _ _
  revert X; k_fill; intro X
  skip
  all_goals (repeat' (first | (k_unfold; (try dsimp only)) | (k_end; wrow_close) | walk1 | (dsimp only; walk1) | (leave1; (try dsimp only)) | fail "no step"))
  all_goals (refine' k _ _ ⟨ncv, t1, stt, tl, tt, td, tp, dst, u, hn, ?rF, ?rN, _, _, rfl⟩; (case rF => k_asm); (case rN => first | k_asm | k_asm))
theorem a_pushback_chars {p1 p2 : Pos} (C : GOk g) (h : RS g v s) (k : ∀ s', RS g v s' → Q (.ref g.c.q) s') :
    wpAny g.M g.A (eval (.Attribute (.Name "self" p1) "_pushback_chars" p2) g.E) Q E s := by
  refine hid fun hn9_62 => ?_
  obtain ⟨ncv, t1, stt, tl, tt, td, tp, dst, u, hn, F, N, h', tk, e⟩ := h
  refine hn9_62 ?_
  clear hn9_62
  refine hid fun hn9_63 => ?_
  obtain ⟨w, p, loose, mean, mg, mb, dp, un, gd, outer, A₀, base, h₀, L, s₀, ⟨x, dx, q, y, dy, pb, fs, kt, vt, buf, rest⟩⟩ := g
  refine hn9_63 ?_
  clear hn9_63
  refine hid fun hn9_64 => ?_
  obtain ⟨B, X, T, hdp, hun, K1, K2, K3, K4, K5, K6⟩ := C
  refine hn9_64 ?_
  clear hn9_64
  refine hid fun hn9_65 => ?_
  subst e <;> (refine hn9_65 ?_; clear hn9_65)
  dsimp only [rsLed, rsMap] at B X T hdp hun K1 K2 K3 K4 K5 F N ⊢ k
  show wpAny (model PySem.Challenge.rw_in0111_01.row.prog w) _ _ _ _ _
  revert X; k_fill; intro X
  skip
  all_goals (repeat' (first | (k_unfold; (try dsimp only)) | (k_end; wrow_close) | walk1 | (dsimp only; walk1) | (leave1; (try dsimp only)) | fail "no step"))
  all_goals (refine' k _ ⟨ncv, t1, stt, tl, tt, td, tp, dst, u, hn, ?rF, ?rN, _, _, rfl⟩; (case rF => k_asm); (case rN => first | k_asm | k_asm))
theorem ga_token (C : GOk g) (h : RS g v s) (k : ∀ t s', RS g v s' → Q (.str v.tok t) s') :
    wpAny g.M g.A (getAttr (.ref g.c.x) "token" true) Q E s := by
  refine hid fun hn9_66 => ?_
  obtain ⟨ncv, t1, stt, tl, tt, td, tp, dst, u, hn, F, N, h', tk, e⟩ := h
  refine hn9_66 ?_
  clear hn9_66
  refine hid fun hn9_67 => ?_
  obtain ⟨w, p, loose, mean, mg, mb, dp, un, gd, outer, A₀, base, h₀, L, s₀, ⟨x, dx, q, y, dy, pb, fs, kt, vt, buf, rest⟩⟩ := g
  refine hn9_67 ?_
  clear hn9_67
  refine hid fun hn9_68 => ?_
  obtain ⟨B, X, T, hdp, hun, K1, K2, K3, K4, K5, K6⟩ := C
  refine hn9_68 ?_
  clear hn9_68
  refine hid fun hn9_69 => ?_
  subst e <;> (refine hn9_69 ?_; clear hn9_69)
  dsimp only [rsLed, rsMap] at B X T hdp hun K1 K2 K3 K4 K5 F N ⊢ k
  show wpAny (model PySem.Challenge.rw_in0111_01.row.prog w) _ _ _ _ _
  revert X; k_fill; intro X
  (repeat' (first | (k_unfold; (try dsimp only)) | (k_end; wrow_close) | walk1 | (dsimp only; walk1) | (leave1; (try dsimp only)) | fail "no step"))
  all_goals (refine' k _ _ ⟨ncv, t1, stt, tl, tt, td, tp, dst, u, hn, ?rF, ?rN, _, _, rfl⟩; (case rF => k_asm); (case rN => k_asm))
theorem ga_lineno (C : GOk g) (h : RS g v s) (k : ∀ t s', RS g v s' → Q (.int v.ln t) s') :
    wpAny g.M g.A (getAttr (.ref g.c.x) "lineno" true) Q E s := by
  refine hid fun hn9_70 => ?_
  obtain ⟨ncv, t1, stt, tl, tt, td, tp, dst, u, hn, F, N, h', tk, e⟩ := h
  refine hn9_70 ?_
  clear hn9_70
  refine hid fun hn9_71 => ?_
  obtain ⟨w, p, loose, mean, mg, mb, dp, un, gd, outer, A₀, base, h₀, L, s₀, ⟨x, dx, q, y, dy, pb, fs, kt, vt, buf, rest⟩⟩ := g
  refine hn9_71 ?_
  clear hn9_71
  refine hid fun hn9_72 => ?_
  obtain ⟨B, X, T, hdp, hun, K1, K2, K3, K4, K5, K6⟩ := C
  refine hn9_72 ?_
  clear hn9_72
  refine hid fun hn9_73 => ?_
  subst e <;> (refine hn9_73 ?_; clear hn9_73)
  dsimp only [rsLed, rsMap] at B X T hdp hun K1 K2 K3 K4 K5 F N ⊢ k
  show wpAny (model PySem.Challenge.rw_in0111_01.row.prog w) _ _ _ _ _
  revert X; k_fill; intro X
  (repeat' (first | (k_unfold; (try dsimp only)) | (k_end; wrow_close) | walk1 | (dsimp only; walk1) | (leave1; (try dsimp only)) | fail "no step"))
  all_goals (refine' k _ _ ⟨ncv, t1, stt, tl, tt, td, tp, dst, u, hn, ?rF, ?rN, _, _, rfl⟩; (case rF => k_asm); (case rN => k_asm))
theorem s_state {xx : Str} {t : Tok} {Q : Unit → Shared → Prop} (C : GOk g) (h : RS g v s) (k : ∀ s', RS g { v with st := some xx } s' → Q () s') :
    wpAny g.M g.A (setAttr (.ref g.c.x) "state" (.str xx t)) Q E s := by
  refine hid fun hn9_74 => ?_
  obtain ⟨ncv, t1, stt, tl, tt, td, tp, dst, u, hn, F, N, h', tk, e⟩ := h
  refine hn9_74 ?_
  clear hn9_74
  refine hid fun hn9_75 => ?_
  obtain ⟨w, p, loose, mean, mg, mb, dp, un, gd, outer, A₀, base, h₀, L, s₀, ⟨x, dx, q, y, dy, pb, fs, kt, vt, buf, rest⟩⟩ := g
  refine hn9_75 ?_
  clear hn9_75
  refine hid fun hn9_76 => ?_
  obtain ⟨B, X, T, hdp, hun, K1, K2, K3, K4, K5, K6⟩ := C
  refine hn9_76 ?_
  clear hn9_76
  refine hid fun hn9_77 => ?_
  subst e <;> (refine hn9_77 ?_; clear hn9_77)
  dsimp only [rsLed, rsMap] at B X T hdp hun K1 K2 K3 K4 K5 F N ⊢ k
  have K12 := Nat.lt_trans K1 K2
  have K13 := Nat.lt_trans K12 K3
  have K14 := Nat.lt_trans K13 K4
  have K23 := Nat.lt_trans K2 K3
  have K24 := Nat.lt_trans K23 K4
  have K34 := Nat.lt_trans K3 K4
  show wpAny (model PySem.Challenge.rw_in0111_01.row.prog w) _ _ _ _ _
  revert X; k_fill; intro X
  (repeat' (first | (k_unfold; (try dsimp only)) | (k_end; wrow_close) | walk1 | (dsimp only; walk1) | (leave1; (try dsimp only)) | fail "no step"))
  all_goals (refine' k _ ⟨ncv, t1, t, tl, tt, td, tp, dst, u, hn, ?rF, ?rN, _, _, rfl⟩; (case rF => k_asm); (case rN => k_asm))
theorem s_state_none {Q : Unit → Shared → Prop} (C : GOk g) (h : RS g v s) (k : ∀ s', RS g { v with st := none } s' → Q () s') :
    wpAny g.M g.A (setAttr (.ref g.c.x) "state" (.none)) Q E s := by
  refine hid fun hn9_78 => ?_
  obtain ⟨ncv, t1, stt, tl, tt, td, tp, dst, u, hn, F, N, h', tk, e⟩ := h
  refine hn9_78 ?_
  clear hn9_78
  refine hid fun hn9_79 => ?_
  obtain ⟨w, p, loose, mean, mg, mb, dp, un, gd, outer, A₀, base, h₀, L, s₀, ⟨x, dx, q, y, dy, pb, fs, kt, vt, buf, rest⟩⟩ := g
  refine hn9_79 ?_
  clear hn9_79
  refine hid fun hn9_80 => ?_
  obtain ⟨B, X, T, hdp, hun, K1, K2, K3, K4, K5, K6⟩ := C
  refine hn9_80 ?_
  clear hn9_80
  refine hid fun hn9_81 => ?_
  subst e <;> (refine hn9_81 ?_; clear hn9_81)
  dsimp only [rsLed, rsMap] at B X T hdp hun K1 K2 K3 K4 K5 F N ⊢ k
  have K12 := Nat.lt_trans K1 K2
  have K13 := Nat.lt_trans K12 K3
  have K14 := Nat.lt_trans K13 K4
  have K23 := Nat.lt_trans K2 K3
  have K24 := Nat.lt_trans K23 K4
  have K34 := Nat.lt_trans K3 K4
  show wpAny (model PySem.Challenge.rw_in0111_01.row.prog w) _ _ _ _ _
  revert X; k_fill; intro X
  (repeat' (first | (k_unfold; (try dsimp only)) | (k_end; wrow_close) | walk1 | (dsimp only; walk1) | (leave1; (try dsimp only)) | fail "no step"))
  all_goals (refine' k _ ⟨ncv, t1, 0, tl, tt, td, tp, dst, u, hn, ?rF, ?rN, _, _, rfl⟩; (case rF => k_asm); (case rN => k_asm))
theorem s_token {xx : Str} {t : Tok} {Q : Unit → Shared → Prop} (C : GOk g) (h : RS g v s) (k : ∀ s', RS g { v with tok := xx } s' → Q () s') :
    wpAny g.M g.A (setAttr (.ref g.c.x) "token" (.str xx t)) Q E s := by
  refine hid fun hn9_82 => ?_
  obtain ⟨ncv, t1, stt, tl, tt, td, tp, dst, u, hn, F, N, h', tk, e⟩ := h
  refine hn9_82 ?_
  clear hn9_82
  refine hid fun hn9_83 => ?_
  obtain ⟨w, p, loose, mean, mg, mb, dp, un, gd, outer, A₀, base, h₀, L, s₀, ⟨x, dx, q, y, dy, pb, fs, kt, vt, buf, rest⟩⟩ := g
  refine hn9_83 ?_
  clear hn9_83
  refine hid fun hn9_84 => ?_
  obtain ⟨B, X, T, hdp, hun, K1, K2, K3, K4, K5, K6⟩ := C
  refine hn9_84 ?_
  clear hn9_84
  refine hid fun hn9_85 => ?_
  subst e <;> (refine hn9_85 ?_; clear hn9_85)
  dsimp only [rsLed, rsMap] at B X T hdp hun K1 K2 K3 K4 K5 F N ⊢ k
  have K12 := Nat.lt_trans K1 K2
  have K13 := Nat.lt_trans K12 K3
  have K14 := Nat.lt_trans K13 K4
  have K23 := Nat.lt_trans K2 K3
  have K24 := Nat.lt_trans K23 K4
  have K34 := Nat.lt_trans K3 K4
  show wpAny (model PySem.Challenge.rw_in0111_01.row.prog w) _ _ _ _ _
  revert X; k_fill; intro X
  (repeat' (first | (k_unfold; (try dsimp only)) | (k_end; wrow_close) | walk1 | (dsimp only; walk1) | (leave1; (try dsimp only)) | fail "no step"))
  all_goals (refine' k _ ⟨ncv, t1, stt, tl, t, td, tp, dst, u, hn, ?rF, ?rN, _, _, rfl⟩; (case rF => k_asm); (case rN => k_asm))
theorem s_lineno {i : Int} {t : Tok} {Q : Unit → Shared → Prop} (C : GOk g) (h : RS g v s) (k : ∀ s', RS g { v with ln := i } s' → Q () s') :
    wpAny g.M g.A (setAttr (.ref g.c.x) "lineno" (.int i t)) Q E s := by
  refine hid fun hn9_86 => ?_
  obtain ⟨ncv, t1, stt, tl, tt, td, tp, dst, u, hn, F, N, h', tk, e⟩ := h
  refine hn9_86 ?_
  clear hn9_86
  refine hid fun hn9_87 => ?_
  obtain ⟨w, p, loose, mean, mg, mb, dp, un, gd, outer, A₀, base, h₀, L, s₀, ⟨x, dx, q, y, dy, pb, fs, kt, vt, buf, rest⟩⟩ := g
  refine hn9_87 ?_
  clear hn9_87
  refine hid fun hn9_88 => ?_
  obtain ⟨B, X, T, hdp, hun, K1, K2, K3, K4, K5, K6⟩ := C
  refine hn9_88 ?_
  clear hn9_88
  refine hid fun hn9_89 => ?_
  subst e <;> (refine hn9_89 ?_; clear hn9_89)
  dsimp only [rsLed, rsMap] at B X T hdp hun K1 K2 K3 K4 K5 F N ⊢ k
  have K12 := Nat.lt_trans K1 K2
  have K13 := Nat.lt_trans K12 K3
  have K14 := Nat.lt_trans K13 K4
  have K23 := Nat.lt_trans K2 K3
  have K24 := Nat.lt_trans K23 K4
  have K34 := Nat.lt_trans K3 K4
  show wpAny (model PySem.Challenge.rw_in0111_01.row.prog w) _ _ _ _ _
  revert X; k_fill; intro X
  (repeat' (first | (k_unfold; (try dsimp only)) | (k_end; wrow_close) | walk1 | (dsimp only; walk1) | (leave1; (try dsimp only)) | fail "no step"))
  all_goals (refine' k _ ⟨ncv, t1, stt, t, tt, td, tp, dst, u, hn, ?rF, ?rN, _, _, rfl⟩; (case rF => k_asm); (case rN => k_asm))
end
end
section
-- text Rsc
noncomputable def rtPop : Stmt := thn (stAt rtBody 0)
noncomputable def rtWord : List Stmt := thns (els (els (els (els rtIf))))
noncomputable def rtApp : Stmt := thn (stAt (elss (els (els (els (els (els (els (stAt rtWord 0)))))))) 0)
noncomputable def rtAC : Expr := tst (els (els (els (els rtIf))))
section
variable {g : G} {s : Shared} {v : Vv} {Q : Unit → Shared → Prop} {Qf : Flow → Shared → Prop} {E : Value → Shared → Prop}
theorem rsMap_quoted {x : Nat} {ncv : Option Value} {qb b : Bool} {es : Str} {t1 : Tok} {u : Str → Option Value} : (fun y => if y = Str.ofString "quoted" then some (Value.bool b) else rsMap x ncv qb es t1 u y) = rsMap x ncv b es t1 u := by
  funext y
  by_cases h : y = Str.ofString "quoted"
  · subst h; rw [if_pos rfl]; rfl
  · rw [if_neg h]; simp only [rsMap, h, if_false]
theorem rsMap_esc {x : Nat} {ncv : Option Value} {qb : Bool} {es e' : Str} {t1 t2 : Tok} {u : Str → Option Value} : (fun y => if y = Str.ofString "escapedstate" then some (Value.str e' t2) else rsMap x ncv qb es t1 u y) = rsMap x ncv qb e' t2 u := by
  funext y
  by_cases h : y = Str.ofString "escapedstate"
  · subst h; rw [if_pos rfl]; rfl
  · rw [if_neg h]; simp only [rsMap, h, if_false]
theorem rsMap_nc {x : Nat} {ncv nv : Option Value} {qb : Bool} {es : Str} {t1 : Tok} {u : Str → Option Value} : (fun y => if y = Str.ofString "nextchar" then nv else rsMap x ncv qb es t1 u y) = rsMap x nv qb es t1 u := by
  funext y
  by_cases h : y = Str.ofString "nextchar"
  · subst h; rw [if_pos rfl]; rfl
  · rw [if_neg h]; simp only [rsMap, h, if_false]
theorem n_quoted {b : Bool} (h : RS g v s) (k : ∀ s', RS g { v with qb := b } s' → Q () s') : wpAny g.M g.A (storeName g.E "quoted" (.bool b)) Q E s := by
  refine hid fun hn9_90 => ?_
  obtain ⟨ncv, t1, stt, tl, tt, td, tp, dst, u, hn, F, N, h', tk, rfl⟩ := h
  refine hn9_90 ?_
  clear hn9_90
  exact stN F N fun h2 F2 N2 => k _ ⟨ncv, t1, stt, tl, tt, td, tp, dst, u, hn, rsMap_quoted ▸ F2, N2, _, _, rfl⟩
theorem n_esc {x : Str} {t : Tok} (h : RS g v s) (k : ∀ s', RS g { v with es := x } s' → Q () s') : wpAny g.M g.A (storeName g.E "escapedstate" (.str x t)) Q E s := by
  refine hid fun hn9_91 => ?_
  obtain ⟨ncv, t1, stt, tl, tt, td, tp, dst, u, hn, F, N, h', tk, rfl⟩ := h
  refine hn9_91 ?_
  clear hn9_91
  exact stN F N fun h2 F2 N2 => k _ ⟨ncv, t, stt, tl, tt, td, tp, dst, u, hn, rsMap_esc ▸ F2, N2, _, _, rfl⟩
theorem n_nc {x : Str} {t : Tok} (h : RS g v s) (k : ∀ s', RS g { v with nc := some x } s' → Q () s') : wpAny g.M g.A (storeName g.E "nextchar" (.str x t)) Q E s := by
  refine hid fun hn9_92 => ?_
  obtain ⟨ncv, t1, stt, tl, tt, td, tp, dst, u, hn, F, N, h', tk, rfl⟩ := h
  refine hn9_92 ?_
  clear hn9_92
  exact stN F N fun h2 F2 N2 => k _ ⟨some (.str x t), t1, stt, tl, tt, td, tp, dst, u, fun y hy => ⟨t, by cases hy; rfl⟩, rsMap_nc ▸ F2, N2, _, _, rfl⟩
theorem st_append {ch : Nat} (C : GOk g) (h : RS g v s) (hd : v.dq = none) (hc : v.nc = some ⟨#[ch]⟩)
    (k : ∀ s', RS g { v with dq := some ch } s' → Qf .next s') : wpAny g.M g.A (exec rtApp g.E) Qf E s := by
  refine hid fun hn9_93 => ?_
  obtain ⟨ncv, t1, stt, tl, tt, td, tp, dst, u, hn, F, N, h', tk, e⟩ := h
  refine hn9_93 ?_
  clear hn9_93
  refine hid fun hn9_94 => ?_
  obtain ⟨t9, hn9⟩ := hn _ hc
  refine hn9_94 ?_
  clear hn9_94
  refine hid fun hn9_95 => ?_
  obtain ⟨w, p, loose, mean, mg, mb, dp, un, gd, outer, A₀, base, h₀, L, s₀, ⟨x, dx, q, y, dy, pb, fs, kt, vt, buf, rest⟩⟩ := g
  refine hn9_95 ?_
  clear hn9_95
  refine hid fun hn9_96 => ?_
  obtain ⟨B, X, T, hdp, hun, K1, K2, K3, K4, K5, K6⟩ := C
  refine hn9_96 ?_
  clear hn9_96
  refine hid fun hn9_97 => ?_
  obtain ⟨st, ln, tok, dq, nc, qb, es, pos⟩ := v
  refine hn9_97 ?_
  clear hn9_97
  dsimp only at hd hc
  subst hd hc hn9 e
  dsimp only [rsLed, rsMap, dqL] at B X T hdp hun K1 K2 K3 K4 K5 F N ⊢ k
  show wpAny (model PySem.Challenge.rw_in0111_01.row.prog w) _ _ _ _ _
  revert X; k_fill; intro X
  show wpAny _ _ (exec (Stmt.Expr _ _) _) _ _ _
  (repeat' (first | (k_unfold; (try dsimp only)) | (k_end; wrow_close) | (first | ((with_reducible show wpAny _ _ (call (Value.builtin _) _ _) _ _ _); with_reducible (k_here; k_dflt (refine' dq_append ?Fq ?Nq ?Uq ?zq ?_; (case Fq => k_asm); (case Nq => k_asm); (case Uq => k_upd); (case zq => exact Nat.le_of_ble_eq_true rfl); k_whole; intro hq Fq Nq; (try k_sweep)))) | ((with_reducible show wpAny _ _ (call (Value.builtin _) _ _) _ _ _); with_reducible (k_here; k_dflt (refine' dq_pop (l := []) ?Fq ?Nq ?Uq ?zq ?_; (case Fq => k_asm); (case Nq => k_asm); (case Uq => k_upd); (case zq => exact Nat.le_of_ble_eq_true rfl); k_whole; intro hq Fq Nq; (try k_sweep)))) | ((with_reducible show wpAny _ _ (getMethod (Value.ref _) _ _) _ _ _); with_reducible (k_here; k_dflt (first | (refine' dq_getMethod_append (News.get ?Nq ?mq) ?_; (case Nq => k_asm); (case mq => k_mem); k_whole) | (refine' dq_getMethod_pop (News.get ?Nq ?mq) ?_; (case Nq => k_asm); (case mq => k_mem); k_whole)))) | walk1) | (dsimp only; walk1) | (leave1; (try dsimp only)) | fail "no step"))
  all_goals (refine' k _ ⟨some (.str ⟨#[ch]⟩ t9), t1, stt, tl, tt, t9, tp, dst + 1, u, fun y hy => ⟨t9, by cases hy; rfl⟩, ?rF, ?rN, _, _, rfl⟩; (case rF => k_asm); (case rN => k_asm))
theorem st_pop {ch : Nat} (C : GOk g) (h : RS g v s) (hd : v.dq = some ch)
    (k : ∀ s', RS g { v with dq := none, nc := some ⟨#[ch]⟩ } s' → Qf .next s') : wpAny g.M g.A (exec rtPop g.E) Qf E s := by
  refine hid fun hn9_98 => ?_
  obtain ⟨ncv, t1, stt, tl, tt, td, tp, dst, u, hn, F, N, h', tk, e⟩ := h
  refine hn9_98 ?_
  clear hn9_98
  refine hid fun hn9_99 => ?_
  obtain ⟨w, p, loose, mean, mg, mb, dp, un, gd, outer, A₀, base, h₀, L, s₀, ⟨x, dx, q, y, dy, pb, fs, kt, vt, buf, rest⟩⟩ := g
  refine hn9_99 ?_
  clear hn9_99
  refine hid fun hn9_100 => ?_
  obtain ⟨B, X, T, hdp, hun, K1, K2, K3, K4, K5, K6⟩ := C
  refine hn9_100 ?_
  clear hn9_100
  refine hid fun hn9_101 => ?_
  obtain ⟨st, ln, tok, dq, nc, qb, es, pos⟩ := v
  refine hn9_101 ?_
  clear hn9_101
  dsimp only at hd
  subst hd e
  dsimp only [rsLed, dqL] at B X T hdp hun K1 K2 K3 K4 K5 F N ⊢ k
  show wpAny (model PySem.Challenge.rw_in0111_01.row.prog w) _ _ _ _ _
  revert X; k_fill; intro X
  show wpAny _ _ (exec (Stmt.Assign _ _ _) _) _ _ _
  (repeat' (first | (k_unfold; (try dsimp only)) | (k_end; wrow_close) | (first | ((with_reducible show wpAny _ _ (call (Value.builtin _) _ _) _ _ _); with_reducible (k_here; k_dflt (refine' dq_append ?Fq ?Nq ?Uq ?zq ?_; (case Fq => k_asm); (case Nq => k_asm); (case Uq => k_upd); (case zq => exact Nat.le_of_ble_eq_true rfl); k_whole; intro hq Fq Nq; (try k_sweep)))) | ((with_reducible show wpAny _ _ (call (Value.builtin _) _ _) _ _ _); with_reducible (k_here; k_dflt (refine' dq_pop (l := []) ?Fq ?Nq ?Uq ?zq ?_; (case Fq => k_asm); (case Nq => k_asm); (case Uq => k_upd); (case zq => exact Nat.le_of_ble_eq_true rfl); k_whole; intro hq Fq Nq; (try k_sweep)))) | ((with_reducible show wpAny _ _ (getMethod (Value.ref _) _ _) _ _ _); with_reducible (k_here; k_dflt (first | (refine' dq_getMethod_append (News.get ?Nq ?mq) ?_; (case Nq => k_asm); (case mq => k_mem); k_whole) | (refine' dq_getMethod_pop (News.get ?Nq ?mq) ?_; (case Nq => k_asm); (case mq => k_mem); k_whole)))) | walk1) | (dsimp only; walk1) | (leave1; (try dsimp only)) | fail "no step"))
  all_goals (refine' k _ ⟨some (.str ⟨#[ch]⟩ td), t1, stt, tl, tt, td, tp, dst + 1, u, fun y hy => ⟨td, by cases hy; rfl⟩, ?rF, ?rN, _, _, rfl⟩; (case rF => (rw [← rsMap_nc]; k_asm)); (case rN => k_asm))
theorem d_truthy {Q : Bool → Shared → Prop} (h : RS g v s) (k : ∀ s', RS g v s' → Q v.dq.isSome s') : wpAny g.M g.A (truthy (.ref g.c.q)) Q E s := by
  refine hid fun hn9_102 => ?_
  obtain ⟨ncv, t1, stt, tl, tt, td, tp, dst, u, hn, F, N, h', tk, rfl⟩ := h
  refine hn9_102 ?_
  clear hn9_102
  refine dq_truthy (News.get N (.head _)) (by cases v.dq <;> exact Nat.le_of_ble_eq_true rfl) ?_
  have e : (!(dqL v.dq td).isEmpty) = v.dq.isSome := by cases v.dq <;> rfl
  rw [e]
  exact k _ ⟨ncv, t1, stt, tl, tt, td, tp, dst, u, hn, F, N, _, _, rfl⟩
theorem t_ac {Q : Bool → Shared → Prop} {x : Str} (C : GOk g) (h : RS g v s) (hs : v.st = some x) (hx : x = "a" ∨ x = "c") (k : ∀ s', RS g v s' → Q true s') :
    wpAny g.M g.A (isTrue rtAC g.E (eval rtAC g.E)) Q E s := by
  refine hid fun hn9_103 => ?_
  obtain ⟨ncv, t1, stt, tl, tt, td, tp, dst, u, hn, F, N, h', tk, e⟩ := h
  refine hn9_103 ?_
  clear hn9_103
  refine hid fun hn9_104 => ?_
  obtain ⟨w, p, loose, mean, mg, mb, dp, un, gd, outer, A₀, base, h₀, L, s₀, ⟨x, dx, q, y, dy, pb, fs, kt, vt, buf, rest⟩⟩ := g
  refine hn9_104 ?_
  clear hn9_104
  refine hid fun hn9_105 => ?_
  obtain ⟨B, X, T, hdp, hun, K1, K2, K3, K4, K5, K6⟩ := C
  refine hn9_105 ?_
  clear hn9_105
  refine hid fun hn9_106 => ?_
  obtain ⟨st, ln, tok, dq, nc, qb, es, pos⟩ := v
  refine hn9_106 ?_
  clear hn9_106
  dsimp only at hs
  subst hs e
  dsimp only [rsLed, rsMap, stV] at B X T hdp hun K1 K2 K3 K4 K5 F N ⊢ k
  show wpAny (model PySem.Challenge.rw_in0111_01.row.prog w) _ _ _ _ _
  revert X; k_fill; intro X
  show wpAny _ _ (isTrue (Expr.Compare _ _ _ _) _ _) _ _ _
  rcases hx with rfl | rfl
  all_goals (repeat' (first | (k_unfold; (try dsimp only)) | (k_end; wrow_close) | (first | ((with_reducible show wpAny _ _ (call (Value.builtin _) _ _) _ _ _); with_reducible (k_here; k_dflt (refine' dq_append ?Fq ?Nq ?Uq ?zq ?_; (case Fq => k_asm); (case Nq => k_asm); (case Uq => k_upd); (case zq => exact Nat.le_of_ble_eq_true rfl); k_whole; intro hq Fq Nq; (try k_sweep)))) | ((with_reducible show wpAny _ _ (call (Value.builtin _) _ _) _ _ _); with_reducible (k_here; k_dflt (refine' dq_pop (l := []) ?Fq ?Nq ?Uq ?zq ?_; (case Fq => k_asm); (case Nq => k_asm); (case Uq => k_upd); (case zq => exact Nat.le_of_ble_eq_true rfl); k_whole; intro hq Fq Nq; (try k_sweep)))) | ((with_reducible show wpAny _ _ (getMethod (Value.ref _) _ _) _ _ _); with_reducible (k_here; k_dflt (first | (refine' dq_getMethod_append (News.get ?Nq ?mq) ?_; (case Nq => k_asm); (case mq => k_mem); k_whole) | (refine' dq_getMethod_pop (News.get ?Nq ?mq) ?_; (case Nq => k_asm); (case mq => k_mem); k_whole)))) | walk1) | (dsimp only; walk1) | (leave1; (try dsimp only)) | fail "no step"))
  all_goals (refine' k _ ⟨ncv, t1, stt, tl, tt, td, tp, dst, u, hn, ?rF, ?rN, _, _, rfl⟩; (case rF => k_asm); (case rN => (refine' kst_newsOf ?rN1 ?rS; (case rN1 => k_asm); (case rS => (intro p9 h9; exact List.Mem.tail _ h9)))))
theorem tr_emp {prog : Program} {A : Around} {t : Tok} {Q : Bool → Shared → Prop} (h : Q false { s with toks := s.toks + 1 + 1 }) : wpAny (model prog w) A (truthy (.str "" t)) Q E s := P.truthy_str (by decide) h
end
end
section
-- text Rsl
/-- a small logic over RS: an expression's value, a test, a statement, a block -/
noncomputable def Vl (g : G) (e : Expr) (v : Vv) (f : Tok → Value) : Prop := ∀ (E Q : Value → Shared → Prop) (s : Shared), RS g v s → (∀ t s', RS g v s' → Q (f t) s') → wpAny g.M g.A (eval e g.E) Q E s
noncomputable def Tw (g : G) (e : Expr) (v : Vv) (b : Bool) : Prop := ∀ (whole : Sem Value) (E : Value → Shared → Prop) (Q : Bool → Shared → Prop) (s : Shared), RS g v s → (∀ s', RS g v s' → Q b s') → wpAny g.M g.A (isTrue e g.E whole) Q E s
noncomputable def Ts (g : G) (e : Expr) (v : Vv) (b : Bool) : Prop := ∀ (E : Value → Shared → Prop) (Q : Bool → Shared → Prop) (s : Shared), RS g v s → (∀ s', RS g v s' → Q b s') → wpAny g.M g.A (isTrue e g.E (eval e g.E)) Q E s
noncomputable def St (g : G) (x : Stmt) (v : Vv) (f : Flow) (v' : Vv) : Prop := ∀ (E : Value → Shared → Prop) (Q : Flow → Shared → Prop) (s : Shared), RS g v s → (∀ s', RS g v' s' → Q f s') → wpAny g.M g.A (exec x g.E) Q E s
noncomputable def Bl (g : G) (x : List Stmt) (v : Vv) (f : Flow) (v' : Vv) : Prop := ∀ (E : Value → Shared → Prop) (Q : Flow → Shared → Prop) (s : Shared), RS g v s → (∀ s', RS g v' s' → Q f s') → wpAny g.M g.A (execs x g.E) Q E s
section
variable {g : G} {v v1 v2 : Vv} {ps p1 p2 p3 p4 : Pos} {f : Flow} {e a r : Expr} {x y : Str} {b : Bool} {l : List Expr}
theorem vl_nc (hx : v.nc = some x) : Vl g (.Name "nextchar" ps) v (.str x) := fun E Q s h k => g_nc h hx fun t => k t s h
theorem vl_es (hx : v.es = x) : Vl g (.Name "escapedstate" ps) v (.str x) := fun E Q s h k => g_esc h fun t => hx ▸ k t s h
theorem vl_st (C : GOk g) (hx : v.st = some x) : Vl g (.Attribute (.Name "self" p1) "state" p2) v (.str x) := fun E Q s h k => a_state C h fun t s' h' => by rw [hx]; exact k t s' h'
theorem vl_tok (C : GOk g) (hx : v.tok = x) : Vl g (.Attribute (.Name "self" p1) "token" p2) v (.str x) := fun E Q s h k => a_token C h fun t s' h' => by rw [hx]; exact k t s' h'
theorem vl_ws (C : GOk g) : Vl g (.Attribute (.Name "self" p1) "whitespace" p2) v (.str " \t\r\n") := fun E Q s h k => a_whitespace C h k
theorem vl_co (C : GOk g) : Vl g (.Attribute (.Name "self" p1) "commenters" p2) v (.str "#") := fun E Q s h k => a_commenters C h k
theorem vl_ec (C : GOk g) : Vl g (.Attribute (.Name "self" p1) "escape" p2) v (.str "\\") := fun E Q s h k => a_escape C h k
theorem vl_wo (C : GOk g) : Vl g (.Attribute (.Name "self" p1) "wordchars" p2) v (.str wch) := fun E Q s h k => a_wordchars C h k
theorem vl_qu (C : GOk g) : Vl g (.Attribute (.Name "self" p1) "quotes" p2) v (.str "'\"") := fun E Q s h k => a_quotes C h k
theorem vl_eq (C : GOk g) : Vl g (.Attribute (.Name "self" p1) "escapedquotes" p2) v (.str "\"") := fun E Q s h k => a_escapedquotes C h k
theorem vl_pu (C : GOk g) : Vl g (.Attribute (.Name "self" p1) "punctuation_chars" p2) v (.str ";") := fun E Q s h k => a_punctuation_chars C h k
theorem Tw.ts (h : Tw g e v b) : Ts g e v b := fun E Q s => h _ E Q s
theorem ts_not (h : Ts g e v b) : Ts g (.UnaryOp .Not e ps) v (!b) := fun E Q s h1 k => isTrue_not (h _ _ s h1 k)
theorem ts_not_t (h : Ts g e v false) : Ts g (.UnaryOp .Not e ps) v true := ts_not h
theorem ts_not_f (h : Ts g e v true) : Ts g (.UnaryOp .Not e ps) v false := ts_not h
theorem tw_and_nil : Tw g (.BoolOp .And [] ps) v true := fun _ E Q s h k => isTrue_and_nil (k s h)
theorem tw_and_t (h : Ts g e v true) (h2 : Tw g (.BoolOp .And l ps) v b) : Tw g (.BoolOp .And (e :: l) ps) v b := fun _ E Q s h1 k => isTrue_and (h _ _ s h1 fun s' h' => by rw [if_pos rfl]; exact h2 _ _ _ s' h' k)
theorem tw_and_f (h : Ts g e v false) : Tw g (.BoolOp .And (e :: l) ps) v false := fun _ E Q s h1 k => isTrue_and (h _ _ s h1 fun s' h' => by rw [if_neg Bool.false_ne_true]; exact k s' h')
theorem tw_or_nil : Tw g (.BoolOp .Or [] ps) v false := fun _ E Q s h k => isTrue_or_nil (k s h)
theorem tw_or_t (h : Ts g e v true) : Tw g (.BoolOp .Or (e :: l) ps) v true := fun _ E Q s h1 k => isTrue_or (h _ _ s h1 fun s' h' => by rw [if_pos rfl]; exact k s' h')
theorem tw_or_f (h : Ts g e v false) (h2 : Tw g (.BoolOp .Or l ps) v b) : Tw g (.BoolOp .Or (e :: l) ps) v b := fun _ E Q s h1 k => isTrue_or (h _ _ s h1 fun s' h' => by rw [if_neg Bool.false_ne_true]; exact h2 _ _ _ s' h' k)
theorem ts_and (h : Tw g (.BoolOp .And l ps) v b) : Ts g (.BoolOp .And l ps) v b := h.ts
theorem ts_or (h : Tw g (.BoolOp .Or l ps) v b) : Ts g (.BoolOp .Or l ps) v b := h.ts
theorem str_tr (h : x = "" ∧ b = false ∨ 0 < x.length ∧ x.length ≤ 1000000 ∧ b = true) {M : Model} {prog : Program} {w : World} (hM : M = model prog w) {A : Around} {E : Value → Shared → Prop} {Q : Bool → Shared → Prop} {s : Shared} {t : Tok}
    (k : Q b { s with toks := s.toks + 1 + 1 }) : wpAny M A (truthy (.str x t)) Q E s := by
  refine hid fun hn9_107 => ?_
  subst hM <;> (refine hn9_107 ?_; clear hn9_107)
  rcases h with ⟨rfl, rfl⟩ | ⟨h0, h1, rfl⟩
  · exact tr_emp k
  · exact tr_pos h0 h1 k
theorem tw_name_str (hv : Vl g (.Name y ps) v (.str x)) (hb : x = "" ∧ b = false ∨ 0 < x.length ∧ x.length ≤ 1000000 ∧ b = true) : Ts g (.Name y ps) v b :=
  fun E Q s h k => isTrue_plain (hv _ _ s h fun t s' h' => str_tr hb rfl (k _ (h'.tk _)))
theorem ts_attr_str (hv : Vl g (.Attribute a y ps) v (.str x)) (hb : x = "" ∧ b = false ∨ 0 < x.length ∧ x.length ≤ 1000000 ∧ b = true) : Ts g (.Attribute a y ps) v b :=
  fun E Q s h k => isTrue_plain (hv _ _ s h fun t s' h' => str_tr hb rfl (k _ (h'.tk _)))
theorem ts_quoted (hb : v.qb = b) : Ts g (.Name "quoted" ps) v b := fun E Q s h k => isTrue_plain (g_quoted h (wpAny_truthy_bool (hb ▸ k s h)))
theorem ts_posix (C : GOk g) : Ts g (.Attribute (.Name "self" p1) "posix" p2) v true := fun E Q s h k => isTrue_plain (a_posix C h fun s' h' => wpAny_truthy_bool (k s' h'))
theorem ts_wss (C : GOk g) : Ts g (.Attribute (.Name "self" p1) "whitespace_split" p2) v false := fun E Q s h k => isTrue_plain (a_whitespace_split C h fun s' h' => wpAny_truthy_bool (k s' h'))
theorem ts_pbc (C : GOk g) (hb : v.dq.isSome = b) : Ts g (.Attribute (.Name "self" p1) "_pushback_chars" p2) v b := fun E Q s h k => isTrue_plain (a_pushback_chars C h fun s' h' => d_truthy h' fun s2 h2 => hb ▸ k s2 h2)
theorem ts_isNone (C : GOk g) {k0 : Nat} (hb : v.st.isNone = b) : Ts g (.Compare (.Attribute (.Name "self" p1) "state" p2) [.Is] [.Constant .none k0 p3] ps) v b := fun E Q s h k =>
  wpAny_isTrue_Compare1 (a_state C h fun t s' h' => Constant_none (by
    cases hs : v.st with
    | none => rw [hs] at hb; have hb : true = b := hb; subst hb; exact wpAny_is_self rfl (wpAny_truthy_bool (k s' h'))
    | some x => rw [hs] at hb; have hb : false = b := hb; subst hb; exact wpAny_is_other rfl (by intro q; cases q) (wpAny_truthy_bool (k s' h'))))
theorem ts_stEq (C : GOk g) {k0 : Nat} (hx : v.st = some x) (hb : (x == y) = b) : Ts g (.Compare (.Attribute (.Name "self" p1) "state" p2) [.Eq] [.Constant (.str y) k0 p3] ps) v b := fun E Q s h k =>
  wpAny_isTrue_Compare1 (vl_st C hx _ _ s h fun t s' h' => wpAny_Constant_str (eq_str (wpAny_truthy_bool (hb ▸ k _ (h'.tk _)))))
theorem ts_ncEq {k0 : Nat} (hx : v.nc = some x) (hb : (x == y) = b) : Ts g (.Compare (.Name "nextchar" p1) [.Eq] [.Constant (.str y) k0 p3] ps) v b := fun E Q s h k =>
  wpAny_isTrue_Compare1 (vl_nc hx _ _ s h fun t s' h' => wpAny_Constant_str (eq_str (wpAny_truthy_bool (hb ▸ k _ (h'.tk _)))))
theorem ts_ncEqV (hm : behindInMarks .Eq r = false) (hx : v.nc = some x) (hr : Vl g r v (.str y)) (hb : (x == y) = b) : Ts g (.Compare (.Name "nextchar" p1) [.Eq] [r] ps) v b := fun E Q s h k =>
  wpAny_isTrue_Compare1 (vl_nc hx _ _ s h fun t s' h' => hr _ _ s' h' fun t2 s2 h2 => eq_str (wpAny_truthy_bool (hb ▸ k _ h2))) hm
theorem ts_ncNe (hm : behindInMarks .NotEq r = false) (hx : v.nc = some x) (hr : Vl g r v (.str y)) (hb : (!(x == y)) = b) : Ts g (.Compare (.Name "nextchar" p1) [.NotEq] [r] ps) v b := fun E Q s h k =>
  wpAny_isTrue_Compare1 (vl_nc hx _ _ s h fun t s' h' => hr _ _ s' h' fun t2 s2 h2 => ne_str (wpAny_truthy_bool (by subst hb; exact k _ h2))) hm
theorem ts_in {c : Nat} (hm : behindInMarks .In r = false) (hx : Vl g a v (.str ⟨#[c]⟩)) (hr : Vl g r v (.str y)) (hb : decide (c ∈ y.cps.toList) = b) : Ts g (.Compare a [.In] [r] ps) v b := fun E Q s h k =>
  wpAny_isTrue_Compare1 (hx _ _ s h fun t s' h' => hr _ _ s' h' fun t2 s2 h2 => in_str (wpAny_truthy_bool (by rw [StrLaws.found_one, hb]; exact k _ h2))) hm
theorem ts_inS (hm : behindInMarks .In r = false) (hx : Vl g a v (.str x)) (hr : Vl g r v (.str y)) (hb : (!(Builtin.Str.occurrences y x 0 y.length 1).isEmpty) = b) : Ts g (.Compare a [.In] [r] ps) v b := fun E Q s h k =>
  wpAny_isTrue_Compare1 (hx _ _ s h fun t s' h' => hr _ _ s' h' fun t2 s2 h2 => in_str (wpAny_truthy_bool (by rw [hb]; exact k _ h2))) hm
theorem ts_debug (C : GOk g) {i : Int} {k0 : Nat} (hb : decide (i ≤ 0) = b) : Ts g (.Compare (.Attribute (.Name "self" p1) "debug" p2) [.GtE] [.Constant (.int i) k0 p3] ps) v b := fun E Q s h k =>
  wpAny_isTrue_Compare1 (a_debug C h fun t s' h' => wpAny_Constant_int (ge_int (wpAny_truthy_bool (hb ▸ k _ (h'.tk _)))))
theorem ts_debugGt (C : GOk g) {i : Int} {k0 : Nat} (hb : decide (i < 0) = b) : Ts g (.Compare (.Attribute (.Name "self" p1) "debug" p2) [.Gt] [.Constant (.int i) k0 p3] ps) v b := fun E Q s h k =>
  wpAny_isTrue_Compare1 (a_debug C h fun t s' h' => wpAny_Constant_int (gt_int (wpAny_truthy_bool (hb ▸ k _ (h'.tk _)))))
theorem ts_ac (C : GOk g) (hs : v.st = some x) (hx : x = "a" ∨ x = "c") : Ts g rtAC v true := fun E Q s h k => t_ac C h hs hx k
theorem bl_nil : Bl g [] v .next v := fun E Q s h k => wpAny_execs_nil (k s h)
theorem bl_next {S : Stmt} {R : List Stmt} (h1 : St g S v .next v1) (h2 : Bl g R v1 f v2) : Bl g (S :: R) v f v2 := fun E Q s h k => wpAny_execs_cons (h1 _ _ s h fun s' h' => h2 _ _ s' h' k)
theorem bl_brk {S : Stmt} {R : List Stmt} (h1 : St g S v .brk v1) : Bl g (S :: R) v .brk v1 := fun E Q s h k => wpAny_execs_cons (h1 _ _ s h fun s' h' => k s' h')
theorem bl_cont {S : Stmt} {R : List Stmt} (h1 : St g S v .cont v1) : Bl g (S :: R) v .cont v1 := fun E Q s h k => wpAny_execs_cons (h1 _ _ s h fun s' h' => k s' h')
theorem bl_one {S : Stmt} (h1 : St g S v f v1) : Bl g [S] v f v1 := fun E Q s h k => wpAny_execs_cons (h1 _ _ s h fun s' h' => by cases f <;> first | exact k s' h' | exact wpAny_execs_nil (k s' h'))
theorem st_ifT {B O : List Stmt} (ht : Ts g e v true) (hb : Bl g B v f v1) : St g (.If e B O ps) v f v1 := fun E Q s h k => wpAny_If (ht _ _ s h fun s' h' => by rw [if_pos rfl]; exact hb _ _ s' h' k)
theorem st_ifF {B O : List Stmt} (ht : Ts g e v false) (hb : Bl g O v f v1) : St g (.If e B O ps) v f v1 := fun E Q s h k => wpAny_If (ht _ _ s h fun s' h' => by rw [if_neg Bool.false_ne_true]; exact hb _ _ s' h' k)
theorem st_brk : St g (.Break ps) v .brk v := fun E Q s h k => wpAny_Break (k s h)
theorem st_cont : St g (.Continue ps) v .cont v := fun E Q s h k => wpAny_Continue (k s h)
theorem vl_c {k0 : Nat} : Vl g (.Constant (.str x) k0 ps) v (.str x) := fun E Q s h k => wpAny_Constant_str (k _ _ (h.tk _))
theorem st_none (C : GOk g) {k0 : Nat} : St g (.Assign [.Attribute (.Name "self" p1) "state" p2] (.Constant .none k0 p3) ps) v .next { v with st := none } := fun E Q s h k =>
  plainObj_wpAny_Assign_Attribute (Constant_none (g_self h (s_state_none C h fun s' h' => k s' h')))
theorem st_st (C : GOk g) (hv : Vl g e v (.str x)) (hs : swapsWith e (some (.Attribute (.Name "self" p1) "state" p2)) ps.line g.E = pure false) : St g (.Assign [.Attribute (.Name "self" p1) "state" p2] e ps) v .next { v with st := some x } := fun E Q s h k =>
  plainObj_wpAny_Assign_Attribute (hv _ _ s h fun t s' h' => g_self h' (s_state C h' fun s2 h2 => k s2 h2)) hs
theorem st_tok (C : GOk g) (hv : Vl g e v (.str x)) (hs : swapsWith e (some (.Attribute (.Name "self" p1) "token" p2)) ps.line g.E = pure false) : St g (.Assign [.Attribute (.Name "self" p1) "token" p2] e ps) v .next { v with tok := x } := fun E Q s h k =>
  plainObj_wpAny_Assign_Attribute (hv _ _ s h fun t s' h' => g_self h' (s_token C h' fun s2 h2 => k s2 h2)) hs
theorem st_add (C : GOk g) (hv : Vl g e v (.str x)) (hl : v.tok.length ≤ 100000) (hx : x.length ≤ 100) : St g (.AugAssign (.Attribute (.Name "self" p1) "token" p2) .Add e ps) v .next { v with tok := v.tok ++ x } := fun E Q s h k =>
  wpAny_AugAssign_AttributeAny (g_self h (ga_token C h fun t s' h' => hv _ _ s' h' fun t2 s2 h2 => SBL.iadd (fun t3 k3 _ => s_token C (h2.tk _) fun s4 h4 => k s4 h4) (Nat.le_trans (Nat.add_le_add hl hx) (Nat.le_of_ble_eq_true rfl))))
theorem st_quoted {k0 : Nat} : St g (.Assign [.Name "quoted" p2] (.Constant (.bool b) k0 p3) ps) v .next { v with qb := b } := fun E Q s h k =>
  wpAny_Assign_Name (wpAny_Constant_bool (n_quoted h fun s' h' => k s' h'))
theorem st_esc (hv : Vl g e v (.str x)) (hs : swapsWith e (some (.Name "escapedstate" p2)) ps.line g.E = pure false) : St g (.Assign [.Name "escapedstate" p2] e ps) v .next { v with es := x } := fun E Q s h k =>
  wpAny_Assign_Name (hv _ _ s h fun t s' h' => n_esc h' fun s2 h2 => k s2 h2) hs
theorem st_app (C : GOk g) {ch : Nat} (hd : v.dq = none) (hc : v.nc = some ⟨#[ch]⟩) : St g rtApp v .next { v with dq := some ch } := fun E Q s h k => st_append C h hd hc k
end
end
local macro_rules | `(tactic| walk_at "Lv") => `(tactic| with_reducible first
  | exact vl_c | exact vl_nc rfl | exact vl_es rfl | exact vl_st (by assumption) rfl | exact vl_tok (by assumption) rfl | exact vl_ws (by assumption) | exact vl_co (by assumption) | exact vl_ec (by assumption)
  | exact vl_wo (by assumption) | exact vl_qu (by assumption) | exact vl_eq (by assumption) | exact vl_pu (by assumption))
local macro_rules | `(tactic| walk_at "Ls") => `(tactic| first
  | exact Or.inl ⟨rfl, rfl⟩
  | exact Or.inr ⟨Nat.le_of_ble_eq_true rfl, Nat.le_of_ble_eq_true rfl, rfl⟩
  | exact Or.inr ⟨by with_reducible assumption, by omega, rfl⟩)
local macro_rules | `(tactic| walk_at "Lt") => `(tactic| with_reducible first
  | (refine' ts_not_t ?_; walk_at "Lt") | (refine' ts_not_f ?_; walk_at "Lt")
  | (refine' ts_and ?_; walk_at "Lw") | (refine' ts_or ?_; walk_at "Lw")
  | exact ts_posix (by assumption) | exact ts_wss (by assumption) | exact ts_pbc (by assumption) rfl
  | exact ts_quoted rfl | exact ts_isNone (by assumption) rfl
  | (refine' ts_debug ?C ?hb; (case C => assumption); (case hb => decide))
  | (refine' ts_debugGt ?C ?hb; (case C => assumption); (case hb => decide))
  | (refine' ts_stEq ?C rfl ?hb; (case C => assumption); (case hb => ((try dsimp only); first | with_reducible assumption | exact decide_eq_true (by with_reducible assumption) | exact decide_eq_false (by with_reducible assumption) | decide +kernel)))
  | (refine' ts_ncEq rfl ?hb; (case hb => ((try dsimp only); first | with_reducible assumption | exact decide_eq_true (by with_reducible assumption) | exact decide_eq_false (by with_reducible assumption) | decide +kernel)))
  | (refine' ts_ncEqV rfl rfl ?hr ?hb; (case hr => walk_at "Lv"); (case hb => ((try dsimp only); first | with_reducible assumption | exact decide_eq_true (by with_reducible assumption) | exact decide_eq_false (by with_reducible assumption) | decide +kernel)))
  | (refine' ts_ncNe rfl rfl ?hr ?hb; (case hr => walk_at "Lv"); (case hb => ((try dsimp only); first | with_reducible assumption | exact decide_eq_true (by with_reducible assumption) | exact decide_eq_false (by with_reducible assumption) | decide +kernel)))
  | (refine' ts_in ?hm ?hx ?hr ?hb; (case hm => with_unfolding_all exact rfl); (case hx => walk_at "Lv"); (case hr => walk_at "Lv"); (case hb => ((try dsimp only); first | with_reducible assumption | exact decide_eq_true (by with_reducible assumption) | exact decide_eq_false (by with_reducible assumption) | decide +kernel)))
  | (refine' ts_inS ?hm ?hx ?hr ?hb; (case hm => with_unfolding_all exact rfl); (case hx => walk_at "Lv"); (case hr => walk_at "Lv"); (case hb => decide +kernel))
  | (refine' tw_name_str ?hv ?hb; (case hv => walk_at "Lv"); (case hb => ((try dsimp only); with_unfolding_all walk_at "Ls")))
  | (refine' ts_attr_str ?hv ?hb; (case hv => walk_at "Lv"); (case hb => ((try dsimp only); with_unfolding_all walk_at "Ls")))
  | ((with_reducible show Ts _ (Expr.Compare _ _ [Expr.Tuple _ _ _] _) _ _); with_unfolding_all first | exact ts_ac (by assumption) rfl (Or.inl rfl) | exact ts_ac (by assumption) rfl (Or.inr rfl)))
local macro_rules | `(tactic| walk_at "Lw") => `(tactic| with_reducible first
  | exact tw_and_nil | exact tw_or_nil
  | (refine' tw_and_t ?a ?b; (case a => walk_at "Lt"); (case b => walk_at "Lw"))
  | (refine' tw_and_f ?a; (case a => walk_at "Lt"))
  | (refine' tw_or_t ?a; (case a => walk_at "Lt"))
  | (refine' tw_or_f ?a ?b; (case a => walk_at "Lt"); (case b => walk_at "Lw")))
local macro_rules | `(tactic| walk_at "Lst") => `(tactic| with_reducible first
  | exact st_brk | exact st_cont | exact st_none (by assumption) | exact st_quoted
  | (refine' st_st ?C ?hv ?hs; (case C => assumption); (case hv => walk_at "Lv"); (case hs => with_unfolding_all exact rfl))
  | (refine' st_tok ?C ?hv ?hs; (case C => assumption); (case hv => walk_at "Lv"); (case hs => with_unfolding_all exact rfl))
  | (refine' st_add ?C ?hv ?hl ?hx; (case C => assumption); (case hv => walk_at "Lv"); (case hl => (try dsimp only); with_reducible assumption); (case hx => with_unfolding_all exact Nat.le_of_ble_eq_true rfl))
  | (refine' st_esc ?hv ?hs; (case hv => walk_at "Lv"); (case hs => with_unfolding_all exact rfl))
  | ((show St _ (Stmt.Expr _ _) _ _ _); with_unfolding_all exact st_app (by assumption) rfl rfl)
  | (refine' st_ifT ?ht ?hb; (case ht => walk_at "Lt"); (case hb => walk_at "Lbl"))
  | (refine' st_ifF ?ht ?hb; (case ht => walk_at "Lt"); (case hb => walk_at "Lbl")))
local macro_rules | `(tactic| walk_at "Lbl") => `(tactic| with_reducible first
  | exact bl_nil
  | ((show Bl _ [_] _ _ _); refine' bl_one ?a; (case a => walk_at "Lst"))
  | ((show Bl _ (_ :: _ :: _) _ _ _); (first
    | (refine' bl_next ?a ?b; (case a => walk_at "Lst"); (case b => walk_at "Lbl"))
    | (refine' bl_brk ?a; (case a => walk_at "Lst"))
    | (refine' bl_cont ?a; (case a => walk_at "Lst")))))
section
-- text Rw
section
variable {g : G} {ln : Int} {pos : Nat}
theorem way_sp_ws {c : Nat} {es : Str} (C : GOk g) (i0 : c ∈ (Str.ofString " \t\r\n").cps.toList) : Bl g [rtIf] ⟨(some " "), ln, "", none, some ⟨#[c]⟩, false, es, pos⟩ .cont ⟨(some " "), ln, "", none, some ⟨#[c]⟩, false, es, pos⟩ := by
  show Bl _ [Stmt.If _ _ _ _] _ _ _
  walk_at "Lbl"
theorem way_sp_word {c : Nat} {es : Str} (C : GOk g) (i0 : c ∉ (Str.ofString " \t\r\n").cps.toList) (i1 : c ∉ (Str.ofString "#").cps.toList) (i2 : c ∉ (Str.ofString "\\").cps.toList) (i3 : c ∈ wch.cps.toList) : Bl g [rtIf] ⟨(some " "), ln, "", none, some ⟨#[c]⟩, false, es, pos⟩ .next ⟨(some "a"), ln, ⟨#[c]⟩, none, some ⟨#[c]⟩, false, es, pos⟩ := by
  show Bl _ [Stmt.If _ _ _ _] _ _ _
  walk_at "Lbl"
theorem way_sp_semi {es : Str} (C : GOk g)  : Bl g [rtIf] ⟨(some " "), ln, "", none, some ⟨#[59]⟩, false, es, pos⟩ .next ⟨(some "c"), ln, ⟨#[59]⟩, none, some ⟨#[59]⟩, false, es, pos⟩ := by
  show Bl _ [Stmt.If _ _ _ _] _ _ _
  walk_at "Lbl"
theorem way_sp_sq {es : Str} (C : GOk g)  : Bl g [rtIf] ⟨(some " "), ln, "", none, some ⟨#[39]⟩, false, es, pos⟩ .next ⟨(some ⟨#[39]⟩), ln, "", none, some ⟨#[39]⟩, false, es, pos⟩ := by
  show Bl _ [Stmt.If _ _ _ _] _ _ _
  walk_at "Lbl"
theorem way_sp_dq {es : Str} (C : GOk g)  : Bl g [rtIf] ⟨(some " "), ln, "", none, some ⟨#[34]⟩, false, es, pos⟩ .next ⟨(some ⟨#[34]⟩), ln, "", none, some ⟨#[34]⟩, false, es, pos⟩ := by
  show Bl _ [Stmt.If _ _ _ _] _ _ _
  walk_at "Lbl"
theorem way_sp_one {c : Nat} {es : Str} (C : GOk g) (i0 : c ∉ (Str.ofString " \t\r\n").cps.toList) (i1 : c ∉ (Str.ofString "#").cps.toList) (i2 : c ∉ (Str.ofString "\\").cps.toList) (i3 : c ∉ wch.cps.toList) (i4 : c ∉ (Str.ofString ";").cps.toList) (i5 : c ∉ (Str.ofString "'\"").cps.toList) : Bl g [rtIf] ⟨(some " "), ln, "", none, some ⟨#[c]⟩, false, es, pos⟩ .brk ⟨(some " "), ln, ⟨#[c]⟩, none, some ⟨#[c]⟩, false, es, pos⟩ := by
  show Bl _ [Stmt.If _ _ _ _] _ _ _
  walk_at "Lbl"
theorem way_a_ws {c : Nat} {tok : Str} {qb : Bool} {es : Str} (C : GOk g) (htl : tok.length ≤ 100000) (i0 : c ∈ (Str.ofString " \t\r\n").cps.toList) (i1 : 0 < tok.length) : Bl g [rtIf] ⟨(some "a"), ln, tok, none, some ⟨#[c]⟩, qb, es, pos⟩ .brk ⟨(some " "), ln, tok, none, some ⟨#[c]⟩, qb, es, pos⟩ := by
  show Bl _ [Stmt.If _ _ _ _] _ _ _
  walk_at "Lbl"
theorem way_a_wsq {c : Nat} {es : Str} (C : GOk g) (i0 : c ∈ (Str.ofString " \t\r\n").cps.toList) : Bl g [rtIf] ⟨(some "a"), ln, "", none, some ⟨#[c]⟩, true, es, pos⟩ .brk ⟨(some " "), ln, "", none, some ⟨#[c]⟩, true, es, pos⟩ := by
  show Bl _ [Stmt.If _ _ _ _] _ _ _
  walk_at "Lbl"
theorem way_a_sq {tok : Str} {qb : Bool} {es : Str} (C : GOk g) (htl : tok.length ≤ 100000)  : Bl g [rtIf] ⟨(some "a"), ln, tok, none, some ⟨#[39]⟩, qb, es, pos⟩ .next ⟨(some ⟨#[39]⟩), ln, tok, none, some ⟨#[39]⟩, qb, es, pos⟩ := by
  show Bl _ [Stmt.If _ _ _ _] _ _ _
  walk_at "Lbl"
theorem way_a_dq {tok : Str} {qb : Bool} {es : Str} (C : GOk g) (htl : tok.length ≤ 100000)  : Bl g [rtIf] ⟨(some "a"), ln, tok, none, some ⟨#[34]⟩, qb, es, pos⟩ .next ⟨(some ⟨#[34]⟩), ln, tok, none, some ⟨#[34]⟩, qb, es, pos⟩ := by
  show Bl _ [Stmt.If _ _ _ _] _ _ _
  walk_at "Lbl"
theorem way_a_word {c : Nat} {tok : Str} {qb : Bool} {es : Str} (C : GOk g) (htl : tok.length ≤ 100000) (i0 : c ∉ (Str.ofString " \t\r\n").cps.toList) (i1 : c ∉ (Str.ofString "#").cps.toList) (i2 : c ∉ (Str.ofString "'\"").cps.toList) (i3 : c ∉ (Str.ofString "\\").cps.toList) (i4 : c ∈ wch.cps.toList) : Bl g [rtIf] ⟨(some "a"), ln, tok, none, some ⟨#[c]⟩, qb, es, pos⟩ .next ⟨(some "a"), ln, (tok ++ ⟨#[c]⟩), none, some ⟨#[c]⟩, qb, es, pos⟩ := by
  show Bl _ [Stmt.If _ _ _ _] _ _ _
  walk_at "Lbl"
theorem way_a_other {c : Nat} {tok : Str} {qb : Bool} {es : Str} (C : GOk g) (htl : tok.length ≤ 100000) (i0 : c ∉ (Str.ofString " \t\r\n").cps.toList) (i1 : c ∉ (Str.ofString "#").cps.toList) (i2 : c ∉ (Str.ofString "'\"").cps.toList) (i3 : c ∉ (Str.ofString "\\").cps.toList) (i4 : c ∉ wch.cps.toList) (i5 : 0 < tok.length) : Bl g [rtIf] ⟨(some "a"), ln, tok, none, some ⟨#[c]⟩, qb, es, pos⟩ .brk ⟨(some " "), ln, tok, some c, some ⟨#[c]⟩, qb, es, pos⟩ := by
  show Bl _ [Stmt.If _ _ _ _] _ _ _
  walk_at "Lbl"
theorem way_a_otherq {c : Nat} {es : Str} (C : GOk g) (i0 : c ∉ (Str.ofString " \t\r\n").cps.toList) (i1 : c ∉ (Str.ofString "#").cps.toList) (i2 : c ∉ (Str.ofString "'\"").cps.toList) (i3 : c ∉ (Str.ofString "\\").cps.toList) (i4 : c ∉ wch.cps.toList) : Bl g [rtIf] ⟨(some "a"), ln, "", none, some ⟨#[c]⟩, true, es, pos⟩ .brk ⟨(some " "), ln, "", some c, some ⟨#[c]⟩, true, es, pos⟩ := by
  show Bl _ [Stmt.If _ _ _ _] _ _ _
  walk_at "Lbl"
theorem way_c_ws {c : Nat} {tok : Str} {qb : Bool} {es : Str} (C : GOk g) (htl : tok.length ≤ 100000) (i0 : c ∈ (Str.ofString " \t\r\n").cps.toList) (i1 : 0 < tok.length) : Bl g [rtIf] ⟨(some "c"), ln, tok, none, some ⟨#[c]⟩, qb, es, pos⟩ .brk ⟨(some " "), ln, tok, none, some ⟨#[c]⟩, qb, es, pos⟩ := by
  show Bl _ [Stmt.If _ _ _ _] _ _ _
  walk_at "Lbl"
theorem way_sq_end {tok : Str} {qb : Bool} {es : Str} (C : GOk g) (htl : tok.length ≤ 100000)  : Bl g [rtIf] ⟨(some ⟨#[39]⟩), ln, tok, none, some ⟨#[39]⟩, qb, es, pos⟩ .next ⟨(some "a"), ln, tok, none, some ⟨#[39]⟩, true, es, pos⟩ := by
  show Bl _ [Stmt.If _ _ _ _] _ _ _
  walk_at "Lbl"
theorem way_sq_bs {tok : Str} {qb : Bool} {es : Str} (C : GOk g) (htl : tok.length ≤ 100000)  : Bl g [rtIf] ⟨(some ⟨#[39]⟩), ln, tok, none, some ⟨#[92]⟩, qb, es, pos⟩ .next ⟨(some ⟨#[39]⟩), ln, (tok ++ ⟨#[92]⟩), none, some ⟨#[92]⟩, true, es, pos⟩ := by
  show Bl _ [Stmt.If _ _ _ _] _ _ _
  walk_at "Lbl"
theorem way_sq_oth {c : Nat} {tok : Str} {qb : Bool} {es : Str} (C : GOk g) (htl : tok.length ≤ 100000) (i0 : ((Str.mk #[c]) == (Str.mk #[39])) = false) (i1 : c ∉ (Str.ofString "\\").cps.toList) : Bl g [rtIf] ⟨(some ⟨#[39]⟩), ln, tok, none, some ⟨#[c]⟩, qb, es, pos⟩ .next ⟨(some ⟨#[39]⟩), ln, (tok ++ ⟨#[c]⟩), none, some ⟨#[c]⟩, true, es, pos⟩ := by
  show Bl _ [Stmt.If _ _ _ _] _ _ _
  walk_at "Lbl"
theorem way_dq_end {tok : Str} {qb : Bool} {es : Str} (C : GOk g) (htl : tok.length ≤ 100000)  : Bl g [rtIf] ⟨(some ⟨#[34]⟩), ln, tok, none, some ⟨#[34]⟩, qb, es, pos⟩ .next ⟨(some "a"), ln, tok, none, some ⟨#[34]⟩, true, es, pos⟩ := by
  show Bl _ [Stmt.If _ _ _ _] _ _ _
  walk_at "Lbl"
theorem way_dq_bs {tok : Str} {qb : Bool} {es : Str} (C : GOk g) (htl : tok.length ≤ 100000)  : Bl g [rtIf] ⟨(some ⟨#[34]⟩), ln, tok, none, some ⟨#[92]⟩, qb, es, pos⟩ .next ⟨(some ⟨#[92]⟩), ln, tok, none, some ⟨#[92]⟩, true, ⟨#[34]⟩, pos⟩ := by
  show Bl _ [Stmt.If _ _ _ _] _ _ _
  walk_at "Lbl"
theorem way_dq_oth {c : Nat} {tok : Str} {qb : Bool} {es : Str} (C : GOk g) (htl : tok.length ≤ 100000) (i0 : ((Str.mk #[c]) == (Str.mk #[34])) = false) (i1 : c ∉ (Str.ofString "\\").cps.toList) : Bl g [rtIf] ⟨(some ⟨#[34]⟩), ln, tok, none, some ⟨#[c]⟩, qb, es, pos⟩ .next ⟨(some ⟨#[34]⟩), ln, (tok ++ ⟨#[c]⟩), none, some ⟨#[c]⟩, true, es, pos⟩ := by
  show Bl _ [Stmt.If _ _ _ _] _ _ _
  walk_at "Lbl"
theorem way_es_bs {tok : Str} {qb : Bool} (C : GOk g) (htl : tok.length ≤ 100000)  : Bl g [rtIf] ⟨(some ⟨#[92]⟩), ln, tok, none, some ⟨#[92]⟩, qb, ⟨#[34]⟩, pos⟩ .next ⟨(some ⟨#[34]⟩), ln, (tok ++ ⟨#[92]⟩), none, some ⟨#[92]⟩, qb, ⟨#[34]⟩, pos⟩ := by
  show Bl _ [Stmt.If _ _ _ _] _ _ _
  walk_at "Lbl"
theorem way_es_dq {tok : Str} {qb : Bool} (C : GOk g) (htl : tok.length ≤ 100000)  : Bl g [rtIf] ⟨(some ⟨#[92]⟩), ln, tok, none, some ⟨#[34]⟩, qb, ⟨#[34]⟩, pos⟩ .next ⟨(some ⟨#[34]⟩), ln, (tok ++ ⟨#[34]⟩), none, some ⟨#[34]⟩, qb, ⟨#[34]⟩, pos⟩ := by
  show Bl _ [Stmt.If _ _ _ _] _ _ _
  walk_at "Lbl"
theorem way_sp_eof {es : Str} (C : GOk g)  : Bl g [rtIf] ⟨(some " "), ln, "", none, some "", false, es, pos⟩ .brk ⟨none, ln, "", none, some "", false, es, pos⟩ := by
  show Bl _ [Stmt.If _ _ _ _] _ _ _
  walk_at "Lbl"
theorem way_no_eof {es : Str} (C : GOk g)  : Bl g [rtIf] ⟨none, ln, "", none, some "", false, es, pos⟩ .brk ⟨none, ln, "", none, some "", false, es, pos⟩ := by
  show Bl _ [Stmt.If _ _ _ _] _ _ _
  walk_at "Lbl"
end
end
section
-- text Rp
/-- the one sign that the stream gives: what is cut out, a blank laid behind it, and the blank cut off -/
theorem slice_one {buf : Str} {pos c : Nat} (h : buf.cps[pos]? = some c) :
    Txt.slice (Txt.slice buf (some (pos : Int)) (some ((pos : Int) + 1)) ++ Str.ofString " ") none (some (-1)) = ⟨#[c]⟩ := by
  refine hid fun hn9_108 => ?_
  obtain ⟨hlt, hc⟩ := Array.getElem?_eq_some_iff.mp h
  refine hn9_108 ?_
  clear hn9_108
  have e1 : Txt.slice buf (some (pos : Int)) (some ((pos : Int) + 1)) = ⟨#[c]⟩ := by
    show StrLaws.sliceText buf (some (pos : Int)) (some (((pos + 1 : Nat) : Int))) = _
    rw [StrLaws.sliceText_nat buf (Nat.le_succ pos) hlt]
    have : (buf.cps.toList.drop pos).take (pos + 1 - pos) = [c] := by
      have e : pos + 1 - pos = 1 := by omega
      rw [e, List.take_one, List.head?_drop]
      simp [h]
    rw [this]
  rw [e1]
  show Txt.slice (⟨#[c] ++ #[32]⟩) none (some (-1)) = _
  show StrLaws.sliceText ⟨#[c, 32]⟩ none (some (-1)) = _
  have e2 : Builtin.Str.strSliceIndices none (some (-1)) 1 (Str.length ⟨#[c, 32]⟩) = [0] := by show Builtin.Str.strSliceIndices none (some (-1)) 1 2 = [0]; decide +kernel
  unfold StrLaws.sliceText
  rw [e2]
  rfl
end
section
-- text Ix
section
variable {w : World} {p : Program} {loose : List Str} {mean : ExcName → Option Value} {mg mb : Str → Option Value}
  {dp un : Nat} {gd : Option (List Code)} {cn : Str} {cs : Scope} {a : Addr} {ccd : Value} {cl : List (Str × Addr)} {outer : List Env} {A₀ : Around} {base h₀ : Heap} {L : Addr} {m : Str → Option Value} {s : Shared} {Q E : Value → Shared → Prop}
theorem index_spec {news : List (Addr × Obj)} {tk tk2 : Tok} {what : Str}
  (B : Below A₀ base outer h₀) (F : Fr h₀ L s.heap m) (X : (Mine.mkK.heap_1 w.params).In h₀) (N : News h₀ L s.heap news) (T : Top p loose mean mg mb h₀) (hk : cs.kind = .function)
  (hdp : dp + 5 < recursionLimit) (hun : un + 40 < cLine)
  (h : ∀ t h' tk', Fr h₀ L h' m → News h₀ L h' news → Q (.int 1 t) { s with heap := h', toks := tk' }) :
  wpAny (model PySem.Challenge.rw_in0111_01.row.prog w) (ktrTop dp un gd cn cs L a ccd cl outer) (call (.ref 213) [.int 1 tk, .str what tk2]) Q E s := by
  revert X; k_fill; intro X
  refine wpAny_call ?_
  ((k_dflt (refine' code_def ?k1q ?k2q ?k3q ?k4q ?k5q ?kAq ?kFq ?kKq ?k6q ?k7q ?k8q ?k9q ?kBq ?_ ?c2q ?c3q ?c4q ?c5q; (case kAq => exact rfl); (case kFq => exact rfl); (case kKq => assumption); (case k1q => k_asm); (case k2q => k_asm); (case k3q => k_asm); (case k4q => k_asm); (case k5q => k_asm); (case k6q => k_is); (case k7q => k_is); (case k8q => ktr_room); (case k9q => first | exact BindsTo.of_eq rfl | exact binds_K (by k_in) rfl (by k_is) rfl rfl rfl); (case c5q => decide); (case kBq => exact locs rfl); (case c2q => exact rfl); (case c3q => exact rfl); (case c4q => exact rfl); k_whole; intro gq Lq hq FGq Fq Nq Bq Xq Tq; (try dsimp only); (try k_lift Bq); (try k_fold))))
  (repeat' (first | (k_unfold; (try dsimp only)) | (k_end; wrow_close) | (first | (with_reducible (k_here; first | (refine ite_bt ?hq ?_; (case hq => with_reducible assumption)) | (refine ite_bf ?hq ?_; (case hq => with_reducible assumption)) | (refine ite_in_t ?hq ?_; (case hq => with_reducible assumption)) | (refine ite_in_f ?hq ?_; (case hq => with_reducible assumption)) | (refine ite_bt ?hq ?_; (case hq => decide +kernel)) | (refine ite_bf ?hq ?_; (case hq => decide +kernel)))) | walk1) | (dsimp only; walk1) | (leave1; (try dsimp only)) | fail "no step"))
  all_goals exact h _ _ _ (by k_asm) (by k_asm)
end
end
section
-- text Rd
section
variable {w : World} {p : Program} {loose : List Str} {mean : ExcName → Option Value} {mg mb : Str → Option Value}
  {dp un : Nat} {gd : Option (List Code)} {cn : Str} {cs : Scope} {a : Addr} {ccd : Value} {cl : List (Str × Addr)} {outer : List Env} {A₀ : Around} {base h₀ : Heap} {L : Addr} {m : Str → Option Value} {s : Shared} {Q E : Value → Shared → Prop}
theorem read_one {rest : List (Addr × Obj)} {q x dx y dy : Nat} {oq odx ox : Obj} {k1 k2 k3 t1 t2 t3 tk : Tok} {buf : Str} {pos c : Nat} (o1 : dx < x) (o2 : x < dy) (o3 : dy < y) (o4 : y < q) (ho : OwnOff rest [q, dx, x, dy, y])
  (B : Below A₀ base outer h₀) (F : Fr h₀ L s.heap m) (X : (Mine.mkK.heap_1 w.params).In h₀)
  (N : News h₀ L s.heap ((q, oq) :: (dx, odx) :: (x, ox) :: (dy, dictOf (stEs w.params k1 k2 k3 t1 t2 buf pos t3) 3) :: (y, instObj 747 dy) :: rest))
  (T : Top p loose mean mg mb h₀) (hk : cs.kind = .function)
  (hdp : dp + 15 < recursionLimit) (hun : un + 80 < cLine) (hb : buf.length ≤ 100000) (hp : pos < buf.length) (hc : buf.cps[pos]? = some c)
  (h : ∀ t h' tk' t3, Fr h₀ L h' m → News h₀ L h' ((q, oq) :: (dx, odx) :: (x, ox) :: (dy, dictOf (stEs w.params k1 k2 k3 t1 t2 buf (pos + 1) t3) 3) :: (y, instObj 747 dy) :: rest) → Q (.str ⟨#[c]⟩ t) { s with heap := h', toks := tk' }) :
  wpAny (model PySem.Challenge.rw_in0111_01.row.prog w) (ktrTop dp un gd cn cs L a ccd cl outer) (call (.ref 693) [.ref y, .int 1 tk]) Q E s := by
  revert X; k_fill; intro X
  refine wpAny_call ?_
  ((k_dflt (refine' code_def ?k1q ?k2q ?k3q ?k4q ?k5q ?kAq ?kFq ?kKq ?k6q ?k7q ?k8q ?k9q ?kBq ?_ ?c2q ?c3q ?c4q ?c5q; (case kAq => exact rfl); (case kFq => exact rfl); (case kKq => assumption); (case k1q => k_asm); (case k2q => k_asm); (case k3q => k_asm); (case k4q => k_asm); (case k5q => k_asm); (case k6q => k_is); (case k7q => k_is); (case k8q => ktr_room); (case k9q => first | exact BindsTo.of_eq rfl | exact binds_K (by k_in) rfl (by k_is) rfl rfl rfl); (case c5q => decide); (case kBq => exact locs rfl); (case c2q => exact rfl); (case c3q => exact rfl); (case c4q => exact rfl); k_whole; intro gq Lq hq FGq Fq Nq Bq Xq Tq; (try dsimp only); (try k_lift Bq); (try k_fold))))
  (repeat' (first | (k_unfold; (try dsimp only)) | (k_end; wrow_close) | (first | (with_reducible ((with_reducible show wpAny _ _ (call (Value.ref 213) [Value.int 1 _, Value.str _ _]) _ _ _); k_dflt (refine' index_spec ?kBq ?kFq ?kXq ?kNq ?kTq ?kKq ?kdq ?kuq ?_; (case kBq => k_asm); (case kFq => k_asm); (case kXq => k_asm); (case kNq => k_asm); (case kTq => k_asm); (case kKq => first | exact rfl | assumption); (case kdq => ktr_room); (case kuq => ktr_units); k_whole; intro t9q h9q tk9q F9q N9q; (try dsimp only); (try k_fold)))) | (with_reducible (k_here; first | (refine ite_bt ?hq ?_; (case hq => with_reducible assumption)) | (refine ite_bf ?hq ?_; (case hq => with_reducible assumption)) | (refine ite_in_t ?hq ?_; (case hq => with_reducible assumption)) | (refine ite_in_f ?hq ?_; (case hq => with_reducible assumption)) | (refine ite_bt ?hq ?_; (case hq => decide +kernel)) | (refine ite_bf ?hq ?_; (case hq => decide +kernel)))) | walk1) | (dsimp only; walk1) | (leave1; (try dsimp only)) | fail "no step"))
  · rw [slice_one hc]
    refine' h _ _ _ _ ?rF ?rN
    case rF => k_asm
    case rN => k_asm
  · have e : (buf.length : Int) = (pos : Int) + 1 := by omega
    rw [e, slice_one hc]
    refine' h _ _ _ _ ?rF ?rN
    case rF => k_asm
    case rN =>
      rw [show pos + 1 = buf.length by omega]
      k_asm
theorem read_eof {rest : List (Addr × Obj)} {q x dx y dy : Nat} {oq odx ox : Obj} {k1 k2 k3 t1 t2 t3 tk : Tok} {buf : Str} {pos : Nat} (o1 : dx < x) (o2 : x < dy) (o3 : dy < y) (o4 : y < q) (ho : OwnOff rest [q, dx, x, dy, y])
  (B : Below A₀ base outer h₀) (F : Fr h₀ L s.heap m) (X : (Mine.mkK.heap_1 w.params).In h₀)
  (N : News h₀ L s.heap ((q, oq) :: (dx, odx) :: (x, ox) :: (dy, dictOf (stEs w.params k1 k2 k3 t1 t2 buf pos t3) 3) :: (y, instObj 747 dy) :: rest))
  (T : Top p loose mean mg mb h₀) (hk : cs.kind = .function)
  (hdp : dp + 15 < recursionLimit) (hun : un + 80 < cLine) (hb : buf.length ≤ 100000) (hp : buf.length ≤ pos)
  (h : ∀ t h' tk', Fr h₀ L h' m → News h₀ L h' ((q, oq) :: (dx, odx) :: (x, ox) :: (dy, dictOf (stEs w.params k1 k2 k3 t1 t2 buf pos t3) 3) :: (y, instObj 747 dy) :: rest) → Q (.str "" t) { s with heap := h', toks := tk' }) :
  wpAny (model PySem.Challenge.rw_in0111_01.row.prog w) (ktrTop dp un gd cn cs L a ccd cl outer) (call (.ref 693) [.ref y, .int 1 tk]) Q E s := by
  revert X; k_fill; intro X
  refine wpAny_call ?_
  ((k_dflt (refine' code_def ?k1q ?k2q ?k3q ?k4q ?k5q ?kAq ?kFq ?kKq ?k6q ?k7q ?k8q ?k9q ?kBq ?_ ?c2q ?c3q ?c4q ?c5q; (case kAq => exact rfl); (case kFq => exact rfl); (case kKq => assumption); (case k1q => k_asm); (case k2q => k_asm); (case k3q => k_asm); (case k4q => k_asm); (case k5q => k_asm); (case k6q => k_is); (case k7q => k_is); (case k8q => ktr_room); (case k9q => first | exact BindsTo.of_eq rfl | exact binds_K (by k_in) rfl (by k_is) rfl rfl rfl); (case c5q => decide); (case kBq => exact locs rfl); (case c2q => exact rfl); (case c3q => exact rfl); (case c4q => exact rfl); k_whole; intro gq Lq hq FGq Fq Nq Bq Xq Tq; (try dsimp only); (try k_lift Bq); (try k_fold))))
  (repeat' (first | (k_unfold; (try dsimp only)) | (k_end; wrow_close) | (first | (with_reducible ((with_reducible show wpAny _ _ (call (Value.ref 213) [Value.int 1 _, Value.str _ _]) _ _ _); k_dflt (refine' index_spec ?kBq ?kFq ?kXq ?kNq ?kTq ?kKq ?kdq ?kuq ?_; (case kBq => k_asm); (case kFq => k_asm); (case kXq => k_asm); (case kNq => k_asm); (case kTq => k_asm); (case kKq => first | exact rfl | assumption); (case kdq => ktr_room); (case kuq => ktr_units); k_whole; intro t9q h9q tk9q F9q N9q; (try dsimp only); (try k_fold)))) | (with_reducible (k_here; first | (refine ite_bt ?hq ?_; (case hq => with_reducible assumption)) | (refine ite_bf ?hq ?_; (case hq => with_reducible assumption)) | (refine ite_in_t ?hq ?_; (case hq => with_reducible assumption)) | (refine ite_in_f ?hq ?_; (case hq => with_reducible assumption)) | (refine ite_bt ?hq ?_; (case hq => decide +kernel)) | (refine ite_bf ?hq ?_; (case hq => decide +kernel)))) | walk1) | (dsimp only; walk1) | (leave1; (try dsimp only)) | fail "no step"))
  all_goals exact h _ _ _ (by k_asm) (by k_asm)
end
end
section
-- text Sr
noncomputable def rtRead : Stmt := stAt (elss (stAt rtBody 0)) 0
section
variable {g : G} {v v1 : Vv} {f : Flow}
theorem st_read {c : Nat} (C : GOk g) (hp : v.pos < g.c.buf.length) (hc : g.c.buf.cps[v.pos]? = some c) : St g rtRead v .next { v with nc := some ⟨#[c]⟩, pos := v.pos + 1 } := by
  intro E Q s h k
  refine hid fun hn9_109 => ?_
  obtain ⟨ncv, t1, stt, tl, tt, td, tp, dst, u, hn, F, N, h', tk, e⟩ := h
  refine hn9_109 ?_
  clear hn9_109
  refine hid fun hn9_110 => ?_
  obtain ⟨w, p, loose, mean, mg, mb, dp, un, gd, outer, A₀, base, h₀, L, s₀, ⟨x, dx, q, y, dy, pb, fs, kt, vt, buf, rest⟩⟩ := g
  refine hn9_110 ?_
  clear hn9_110
  refine hid fun hn9_111 => ?_
  obtain ⟨B, X, T, hdp, hun, K1, K2, K3, K4, K5, K6⟩ := C
  refine hn9_111 ?_
  clear hn9_111
  refine hid fun hn9_112 => ?_
  obtain ⟨st, ln, tok, dq, nc, qb, es, pos⟩ := v
  refine hn9_112 ?_
  clear hn9_112
  refine hid fun hn9_113 => ?_
  subst e <;> (refine hn9_113 ?_; clear hn9_113)
  dsimp only [rsLed, G.A, G.E, G.M] at B X T hdp hun K1 K2 K3 K4 K5 K6 F N ⊢ k hp hc
  show wpAny (model PySem.Challenge.rw_in0111_01.row.prog w) _ _ _ _ _
  revert X; k_fill; intro X
  show wpAny _ _ (exec (Stmt.Assign _ _ _) _) _ _ _
  (repeat' (first | (k_unfold; (try dsimp only)) | (k_end; wrow_close) | (first | (with_reducible ((with_reducible show wpAny _ _ (call (Value.ref 693) [Value.ref _, Value.int 1 _]) _ _ _); k_dflt (first | (refine' read_one ?o1q ?o2q ?o3q ?o4q ?hoq ?kBq ?kFq ?kXq ?kNq ?kTq ?kKq ?kdq ?kuq ?hbq ?hpq ?hcq ?_; (case kFq => k_asm); (case kNq => k_asm); (case o1q => k_asm); (case o2q => k_asm); (case o3q => k_asm); (case o4q => k_asm); (case hoq => k_asm); (case kBq => k_asm); (case kXq => k_asm); (case kTq => k_asm); (case kKq => first | exact rfl | assumption); (case kdq => ktr_room); (case kuq => ktr_units); (case hbq => k_asm); (case hpq => k_asm); (case hcq => k_asm); k_whole; intro t9q h9q tk9q t39q F9q N9q; (try dsimp only); (try k_fold)) | (refine' read_eof ?o1q ?o2q ?o3q ?o4q ?hoq ?kBq ?kFq ?kXq ?kNq ?kTq ?kKq ?kdq ?kuq ?hbq ?hpq ?_; (case kFq => k_asm); (case kNq => k_asm); (case o1q => k_asm); (case o2q => k_asm); (case o3q => k_asm); (case o4q => k_asm); (case hoq => k_asm); (case kBq => k_asm); (case kXq => k_asm); (case kTq => k_asm); (case kKq => first | exact rfl | assumption); (case kdq => ktr_room); (case kuq => ktr_units); (case hbq => k_asm); (case hpq => k_asm); k_whole; intro t9q h9q tk9q F9q N9q; (try dsimp only); (try k_fold))))) | walk1) | (dsimp only; walk1) | (leave1; (try dsimp only)) | fail "no step"))
  all_goals (refine' k _ ⟨_, t1, stt, tl, tt, td, _, dst, u, fun y hy => ⟨_, by cases hy; rfl⟩, ?rF, ?rN, _, _, rfl⟩; (case rF => (rw [← rsMap_nc]; k_asm)); (case rN => k_asm))
theorem st_reof (C : GOk g) (hp : g.c.buf.length ≤ v.pos) : St g rtRead v .next { v with nc := some "" } := by
  intro E Q s h k
  refine hid fun hn9_114 => ?_
  obtain ⟨ncv, t1, stt, tl, tt, td, tp, dst, u, hn, F, N, h', tk, e⟩ := h
  refine hn9_114 ?_
  clear hn9_114
  refine hid fun hn9_115 => ?_
  obtain ⟨w, p, loose, mean, mg, mb, dp, un, gd, outer, A₀, base, h₀, L, s₀, ⟨x, dx, q, y, dy, pb, fs, kt, vt, buf, rest⟩⟩ := g
  refine hn9_115 ?_
  clear hn9_115
  refine hid fun hn9_116 => ?_
  obtain ⟨B, X, T, hdp, hun, K1, K2, K3, K4, K5, K6⟩ := C
  refine hn9_116 ?_
  clear hn9_116
  refine hid fun hn9_117 => ?_
  obtain ⟨st, ln, tok, dq, nc, qb, es, pos⟩ := v
  refine hn9_117 ?_
  clear hn9_117
  refine hid fun hn9_118 => ?_
  subst e <;> (refine hn9_118 ?_; clear hn9_118)
  dsimp only [rsLed, G.A, G.E, G.M] at B X T hdp hun K1 K2 K3 K4 K5 K6 F N ⊢ k hp
  show wpAny (model PySem.Challenge.rw_in0111_01.row.prog w) _ _ _ _ _
  revert X; k_fill; intro X
  show wpAny _ _ (exec (Stmt.Assign _ _ _) _) _ _ _
  (repeat' (first | (k_unfold; (try dsimp only)) | (k_end; wrow_close) | (first | (with_reducible ((with_reducible show wpAny _ _ (call (Value.ref 693) [Value.ref _, Value.int 1 _]) _ _ _); k_dflt (first | (refine' read_one ?o1q ?o2q ?o3q ?o4q ?hoq ?kBq ?kFq ?kXq ?kNq ?kTq ?kKq ?kdq ?kuq ?hbq ?hpq ?hcq ?_; (case kFq => k_asm); (case kNq => k_asm); (case o1q => k_asm); (case o2q => k_asm); (case o3q => k_asm); (case o4q => k_asm); (case hoq => k_asm); (case kBq => k_asm); (case kXq => k_asm); (case kTq => k_asm); (case kKq => first | exact rfl | assumption); (case kdq => ktr_room); (case kuq => ktr_units); (case hbq => k_asm); (case hpq => k_asm); (case hcq => k_asm); k_whole; intro t9q h9q tk9q t39q F9q N9q; (try dsimp only); (try k_fold)) | (refine' read_eof ?o1q ?o2q ?o3q ?o4q ?hoq ?kBq ?kFq ?kXq ?kNq ?kTq ?kKq ?kdq ?kuq ?hbq ?hpq ?_; (case kFq => k_asm); (case kNq => k_asm); (case o1q => k_asm); (case o2q => k_asm); (case o3q => k_asm); (case o4q => k_asm); (case hoq => k_asm); (case kBq => k_asm); (case kXq => k_asm); (case kTq => k_asm); (case kKq => first | exact rfl | assumption); (case kdq => ktr_room); (case kuq => ktr_units); (case hbq => k_asm); (case hpq => k_asm); k_whole; intro t9q h9q tk9q F9q N9q; (try dsimp only); (try k_fold))))) | walk1) | (dsimp only; walk1) | (leave1; (try dsimp only)) | fail "no step"))
  all_goals (refine' k _ ⟨_, t1, stt, tl, tt, td, tp, dst, u, fun y hy => ⟨_, by cases hy; rfl⟩, ?rF, ?rN, _, _, rfl⟩; (case rF => (rw [← rsMap_nc]; k_asm)); (case rN => k_asm))
end
end
section
-- text Tn
noncomputable def rtWhile : Stmt := stAt (defBody (methAt 27 6)) 2
section
variable {g : G} {v v1 v2 : Vv} {f : Flow} {ps p1 p2 p3 : Pos} {n : Nat}
theorem st_ln (C : GOk g) {k0 : Nat} : St g (.AugAssign (.Attribute (.Name "self" p1) "lineno" p2) .Add (.Constant (.int 1) k0 p3) ps) v .next { v with ln := v.ln + 1 } := fun E Q s h k =>
  wpAny_AugAssign_AttributeAny (g_self h (ga_lineno C h fun t s' h' => wpAny_Constant_int (wpAny_iadd_int (s_lineno C ((h'.tk _).tk _) fun s4 h4 => k s4 h4))))
theorem body_eq : rtBody = [stAt rtBody 0, stAt rtBody 1, stAt rtBody 2, rtIf] := by kernel_rfl
theorem st_0F (C : GOk g) (hd : v.dq = none) (h : St g rtRead v .next v1) : St g (stAt rtBody 0) v .next v1 := by
  show St _ (Stmt.If _ _ [_] _) _ _ _
  refine st_ifF ?_ (bl_one h)
  refine hid fun hn9_119 => ?_
  obtain ⟨st, ln, tok, dq, nc, qb, es, pos⟩ := v
  refine hn9_119 ?_
  clear hn9_119
  dsimp only at hd
  refine hid fun hn9_120 => ?_
  subst hd <;> (refine hn9_120 ?_; clear hn9_120)
  walk_at "Lt"
theorem st_0T (C : GOk g) {ch : Nat} (hd : v.dq = some ch) : St g (stAt rtBody 0) v .next { v with dq := none, nc := some ⟨#[ch]⟩ } := by
  show St _ (Stmt.If _ [_] _ _) _ _ _
  refine st_ifT ?_ (bl_one (fun E Q s h k => st_pop C h hd k))
  refine hid fun hn9_121 => ?_
  obtain ⟨st, ln, tok, dq, nc, qb, es, pos⟩ := v
  refine hn9_121 ?_
  clear hn9_121
  dsimp only at hd
  refine hid fun hn9_122 => ?_
  subst hd <;> (refine hn9_122 ?_; clear hn9_122)
  walk_at "Lt"
theorem st_1T (C : GOk g) (hn : v.nc = some ⟨#[10]⟩) : St g (stAt rtBody 1) v .next { v with ln := v.ln + 1 } := by
  show St _ (Stmt.If _ [_] _ _) _ _ _
  refine st_ifT ?_ (bl_one (st_ln C))
  refine hid fun hn9_123 => ?_
  obtain ⟨st, ln, tok, dq, nc, qb, es, pos⟩ := v
  refine hn9_123 ?_
  clear hn9_123
  dsimp only at hn
  refine hid fun hn9_124 => ?_
  subst hn <;> (refine hn9_124 ?_; clear hn9_124)
  walk_at "Lt"
theorem st_1F (C : GOk g) {x : Str} (hn : v.nc = some x) (hx : (x == Str.ofString "\n") = false) : St g (stAt rtBody 1) v .next v := by
  show St _ (Stmt.If _ _ [] _) _ _ _
  refine st_ifF ?_ bl_nil
  refine hid fun hn9_125 => ?_
  obtain ⟨st, ln, tok, dq, nc, qb, es, pos⟩ := v
  refine hn9_125 ?_
  clear hn9_125
  dsimp only at hn
  refine hid fun hn9_126 => ?_
  subst hn <;> (refine hn9_126 ?_; clear hn9_126)
  walk_at "Lt"
theorem st_2F (C : GOk g) : St g (stAt rtBody 2) v .next v := by
  show St _ (Stmt.If _ _ [] _) _ _ _
  refine st_ifF ?_ bl_nil
  walk_at "Lt"
theorem tn_char (C : GOk g) {c : Nat} (hd : v.dq = none) (hc : g.c.buf.cps[v.pos]? = some c) (h10 : (Str.mk #[c] == Str.ofString "\n") = false)
    (h : Bl g [rtIf] { v with nc := some ⟨#[c]⟩, pos := v.pos + 1 } f v1) : Bl g rtBody v f v1 := by
  rw [body_eq]
  exact bl_next (st_0F C hd (st_read C (Array.getElem?_eq_some_iff.mp hc).1 hc)) (bl_next (st_1F C rfl h10) (bl_next (st_2F C) h))
theorem tn_nl (C : GOk g) (hd : v.dq = none) (hc : g.c.buf.cps[v.pos]? = some 10)
    (h : Bl g [rtIf] { v with nc := some ⟨#[10]⟩, pos := v.pos + 1, ln := v.ln + 1 } f v1) : Bl g rtBody v f v1 := by
  rw [body_eq]
  exact bl_next (st_0F C hd (st_read C (Array.getElem?_eq_some_iff.mp hc).1 hc)) (bl_next (st_1T C rfl) (bl_next (st_2F C) h))
theorem tn_pop (C : GOk g) {c : Nat} (hd : v.dq = some c) (h10 : (Str.mk #[c] == Str.ofString "\n") = false)
    (h : Bl g [rtIf] { v with dq := none, nc := some ⟨#[c]⟩ } f v1) : Bl g rtBody v f v1 := by
  rw [body_eq]
  exact bl_next (st_0T C hd) (bl_next (st_1F C rfl h10) (bl_next (st_2F C) h))
theorem tn_eof (C : GOk g) (hd : v.dq = none) (hp : g.c.buf.length ≤ v.pos)
    (h : Bl g [rtIf] { v with nc := some "" } f v1) : Bl g rtBody v f v1 := by
  rw [body_eq]
  exact bl_next (st_0F C hd (st_reof C hp)) (bl_next (st_1F C rfl (by decide +kernel)) (bl_next (st_2F C) h))
/-- turns of the loop, till one breaks -/
inductive Ch (g : G) : Nat → Vv → Vv → Prop
  | brk {v v'} : Bl g rtBody v .brk v' → Ch g 0 v v'
  | go {n v v1 v'} : Bl g rtBody v .next v1 ∨ Bl g rtBody v .cont v1 → Ch g n v1 v' → Ch g (n + 1) v v'
theorem st_while (h : Ch g n v v1) : St g rtWhile v .next v1 := by
  intro E Q s hs k
  show wpAny _ _ (exec (Stmt.While _ rtBody [] _) _) _ _ _
  refine wpAny_While (codeAny_whileLoop (fun n s => ∃ v0, Ch g n v0 v1 ∧ RS g v0 s) (fun n s => ?_) n ⟨v, h, hs⟩)
  rintro r9_127_0
  refine hid fun hn9_127 => ?_
  obtain ⟨v0, hc, hr⟩ := r9_127_0
  refine hn9_127 ?_
  clear hn9_127
  refine isTrue_plain (wpAny_Constant_bool (wpAny_truthy_bool ?_))
  rw [if_pos rfl]
  cases hc with
  | brk hb => exact hb _ _ _ hr fun s' h' => k s' h'
  | go hb hc' =>
    rcases hb with hb | hb
    · exact hb _ _ _ hr fun s' h' => ⟨_, Nat.lt_succ_self _, _, hc', h'⟩
    · exact hb _ _ _ hr fun s' h' => ⟨_, Nat.lt_succ_self _, _, hc', h'⟩
end
end
section
-- text Lx
/-- what is left of the stream -/
noncomputable def Rm (g : G) (pos : Nat) (r : List Nat) : Prop := g.c.buf.cps.toList.drop pos = r
section
variable {g : G} {pos c : Nat} {r : List Nat} {v v1 v2 : Vv} {P : Vv → Prop} {f : Flow}
theorem Rm.get (h : Rm g pos (c :: r)) : g.c.buf.cps[pos]? = some c := by
  have e : (g.c.buf.cps.toList.drop pos)[0]? = some c := by rw [h]; rfl
  rw [List.getElem?_drop, Nat.add_zero, Array.getElem?_toList] at e
  exact e
theorem Rm.next (h : Rm g pos (c :: r)) : Rm g (pos + 1) r := by
  unfold Rm
  rw [← List.drop_drop, h]
  rfl
theorem Rm.nil (h : Rm g pos []) : g.c.buf.length ≤ pos := by
  have := List.drop_eq_nil_iff.mp h
  simpa [Str.length] using this
noncomputable def Go (g : G) (v : Vv) (P : Vv → Prop) : Prop := ∃ n v', Ch g n v v' ∧ P v'
theorem Go.next (h : Bl g rtBody v .next v1) (k : Go g v1 P) : Go g v P := by
  refine hid fun hn9_128 => ?_
  obtain ⟨n, v', hc, hp⟩ := k
  refine hn9_128 ?_
  clear hn9_128
  exact ⟨n + 1, v', .go (.inl h) hc, hp⟩
theorem Go.cont (h : Bl g rtBody v .cont v1) (k : Go g v1 P) : Go g v P := by
  refine hid fun hn9_129 => ?_
  obtain ⟨n, v', hc, hp⟩ := k
  refine hn9_129 ?_
  clear hn9_129
  exact ⟨n + 1, v', .go (.inr h) hc, hp⟩
theorem Go.brk (h : Bl g rtBody v .brk v1) (k : P v1) : Go g v P := ⟨0, v1, .brk h, k⟩
noncomputable abbrev wsL : List Nat := [32, 9, 13, 10]
noncomputable def nl (c : Nat) : Int := if c = 10 then 1 else 0
noncomputable def Wc (c : Nat) : Prop := c ∈ wch.cps.toList
/-- a sign that stands alone, or ends a word -/
noncomputable def Oc (c : Nat) : Prop := c ∉ (Str.ofString " \t\r\n").cps.toList ∧ c ∉ (Str.ofString "#").cps.toList ∧ c ∉ (Str.ofString "'\"").cps.toList ∧ c ∉ (Str.ofString "\\").cps.toList ∧ c ∉ wch.cps.toList
theorem ws_mem (h : c ∈ wsL) : c ∈ (Str.ofString " \t\r\n").cps.toList := by
  have e : (Str.ofString " \t\r\n").cps.toList = [32, 9, 13, 10] := by decide +kernel
  rw [e]; exact h
theorem Wc.facts (h : Wc c) : c ∉ (Str.ofString " \t\r\n").cps.toList ∧ c ∉ (Str.ofString "#").cps.toList ∧ c ∉ (Str.ofString "'\"").cps.toList ∧ c ∉ (Str.ofString "\\").cps.toList := by
  have key : ∀ d ∈ wch.cps.toList, d ∉ (Str.ofString " \t\r\n").cps.toList ∧ d ∉ (Str.ofString "#").cps.toList ∧ d ∉ (Str.ofString "'\"").cps.toList ∧ d ∉ (Str.ofString "\\").cps.toList := by decide +kernel
  exact key c h
theorem one_ne {d : Nat} (h : c ≠ d) : (Str.mk #[c] == Str.mk #[d]) = false := by
  rw [beq_eq_false_iff_ne]
  intro e
  injection e with e
  simp at e
  exact h e
theorem nl_eq : Str.ofString "\n" = ⟨#[10]⟩ := by decide +kernel
theorem ne_nl (h : c ≠ 10) : (Str.mk #[c] == Str.ofString "\n") = false := by rw [nl_eq]; exact one_ne h
theorem not_ws_ne (h : c ∉ (Str.ofString " \t\r\n").cps.toList) : c ≠ 10 := by
  intro e; subst e; exact h (by decide +kernel)
/-- between the tokens -/
inductive Sv (g : G) (ln : Int) (ρ : List Nat) (v : Vv) : Prop
  | of (nc : Option Str) (es : Str) (pos : Nat) (dq : Option Nat) (h1 : v = ⟨some " ", ln, "", dq, nc, false, es, pos⟩) (h2 : dq = none ∧ Rm g pos ρ ∨ ∃ ch r, dq = some ch ∧ ρ = ch :: r ∧ Rm g pos r ∧ ch ≠ 10) : Sv g ln ρ v
inductive Eof (g : G) (ln : Int) (v : Vv) : Prop
  | of (nc : Option Str) (es : Str) (pos : Nat) (h1 : v = ⟨none, ln, "", none, nc, false, es, pos⟩) (h2 : Rm g pos []) : Eof g ln v
/-- in a word -/
inductive Av (g : G) (ln : Int) (tok : Str) (qb : Bool) (ρ : List Nat) (v : Vv) : Prop
  | of (nc : Option Str) (es : Str) (pos : Nat) (h1 : v = ⟨some "a", ln, tok, none, nc, qb, es, pos⟩) (h2 : Rm g pos ρ) : Av g ln tok qb ρ v
/-- between quotes -/
inductive Qv (g : G) (q : Nat) (ln : Int) (tok : Str) (qb : Bool) (ρ : List Nat) (v : Vv) : Prop
  | of (nc : Option Str) (es : Str) (pos : Nat) (h1 : v = ⟨some ⟨#[q]⟩, ln, tok, none, nc, qb, es, pos⟩) (h2 : Rm g pos ρ) : Qv g q ln tok qb ρ v
/-- what a call leaves -/
inductive Pf (g : G) (res : Str) (ln : Int) (ρ : List Nat) (v : Vv) : Prop
  | of (nc : Option Str) (qb : Bool) (es : Str) (pos : Nat) (dq : Option Nat) (h1 : v = ⟨some " ", ln, res, dq, nc, qb, es, pos⟩) (h2 : qb = true ∨ 0 < res.length) (h3 : res.length ≤ 100000) (h4 : dq = none ∧ Rm g pos ρ ∨ ∃ ch r, dq = some ch ∧ ρ = ch :: r ∧ Rm g pos r ∧ ch ≠ 10) : Pf g res ln ρ v
noncomputable def Tk (g : G) (ln : Int) (ρ : List Nat) (P : Vv → Prop) : Prop := ∀ v, Sv g ln ρ v → Go g v P
noncomputable def Ta (g : G) (ln : Int) (tok : Str) (qb : Bool) (ρ : List Nat) (P : Vv → Prop) : Prop := ∀ v, Av g ln tok qb ρ v → Go g v P
noncomputable def Tq (g : G) (q : Nat) (ln : Int) (tok : Str) (qb : Bool) (ρ : List Nat) (P : Vv → Prop) : Prop := ∀ v, Qv g q ln tok qb ρ v → Go g v P
variable {ln : Int} {tok : Str} {qb : Bool} {ρ : List Nat}
/-- the first sign of a call, whether it was pushed back or comes out of the stream -/
theorem sv_turn (C : GOk g) (h10 : c ≠ 10) (hv : Sv g ln (c :: ρ) v) (h : ∀ nc es pos, Rm g pos ρ → nc = some (Str.mk #[c]) → ∃ v1, Bl g [rtIf] ⟨some " ", ln, "", none, nc, false, es, pos⟩ f v1 ∧ (∀ v0, Bl g rtBody v0 f v1 → Go g v0 P)) : Go g v P := by
  obtain ⟨nc, es, pos, dq, rfl, ⟨rfl, hr⟩ | ⟨ch, r, rfl, e, hr, hn⟩⟩ := hv
  · refine hid fun hn9_130 => ?_
    obtain ⟨v1, hb, hk⟩ := h (some ⟨#[c]⟩) es (pos + 1) hr.next rfl
    refine hn9_130 ?_
    clear hn9_130
    exact hk _ (tn_char C rfl hr.get (ne_nl h10) hb)
  · injection e with e1 e2
    subst e1 e2
    refine hid fun hn9_131 => ?_
    obtain ⟨v1, hb, hk⟩ := h (some ⟨#[c]⟩) es pos hr rfl
    refine hn9_131 ?_
    clear hn9_131
    exact hk _ (tn_pop C rfl (ne_nl h10) hb)
theorem tk_ws (C : GOk g) (hc : c ∈ wsL) (h : Tk g (ln + nl c) ρ P) : Tk g ln (c :: ρ) P := by
  intro v hv
  by_cases h10 : c = 10
  · refine hid fun hn9_132 => ?_
    subst h10 <;> (refine hn9_132 ?_; clear hn9_132)
    obtain ⟨nc, es, pos, dq, rfl, ⟨rfl, hr⟩ | ⟨ch, r, rfl, e, hr, hn⟩⟩ := hv
    · exact Go.cont (tn_nl C rfl hr.get (way_sp_ws C (ws_mem hc))) (h _ ⟨_, _, _, _, rfl, .inl ⟨rfl, hr.next⟩⟩)
    · injection e with e1 e2
      exact absurd e1.symm hn
  · have e : ln + nl c = ln := by unfold nl; rw [if_neg h10]; omega
    rw [e] at h
    refine sv_turn (f := .cont) C h10 hv fun nc es pos hr hnc => ?_
    refine hid fun hn9_133 => ?_
    subst hnc <;> (refine hn9_133 ?_; clear hn9_133)
    exact ⟨_, way_sp_ws C (ws_mem hc), fun v0 hb => Go.cont hb (h _ ⟨_, _, _, _, rfl, .inl ⟨rfl, hr⟩⟩)⟩
theorem tk_word (C : GOk g) (hc : Wc c) (h : Ta g ln ⟨#[c]⟩ false ρ P) : Tk g ln (c :: ρ) P := by
  intro v hv
  refine hid fun hn9_134 => ?_
  obtain ⟨f1, f2, f3, f4⟩ := hc.facts
  refine hn9_134 ?_
  clear hn9_134
  refine sv_turn (f := .next) C (not_ws_ne f1) hv fun nc es pos hr hnc => ?_
  refine hid fun hn9_135 => ?_
  subst hnc <;> (refine hn9_135 ?_; clear hn9_135)
  exact ⟨_, way_sp_word C f1 f2 f4 hc, fun v0 hb => Go.next hb (h _ ⟨_, _, _, rfl, hr⟩)⟩
theorem tk_one (C : GOk g) (hc : Oc c) (h59 : c ∉ (Str.ofString ";").cps.toList) : Tk g ln (c :: ρ) (Pf g ⟨#[c]⟩ ln ρ) := by
  intro v hv
  refine hid fun hn9_136 => ?_
  obtain ⟨f1, f2, f3, f4, f5⟩ := hc
  refine hn9_136 ?_
  clear hn9_136
  refine sv_turn (f := .brk) C (not_ws_ne f1) hv fun nc es pos hr hnc => ?_
  refine hid fun hn9_137 => ?_
  subst hnc <;> (refine hn9_137 ?_; clear hn9_137)
  exact ⟨_, way_sp_one C f1 f2 f4 f5 h59 f3, fun v0 hb => Go.brk hb ⟨_, _, _, _, _, rfl, .inr Nat.one_pos, Nat.le_of_ble_eq_true rfl, .inl ⟨rfl, hr⟩⟩⟩
theorem tk_semi (C : GOk g) : Tk g ln (59 :: 32 :: ρ) (Pf g ⟨#[59]⟩ ln ρ) := by
  intro v hv
  refine sv_turn (f := .next) C (by decide) hv fun nc es pos hr hnc => ?_
  refine hid fun hn9_138 => ?_
  subst hnc <;> (refine hn9_138 ?_; clear hn9_138)
  refine ⟨_, way_sp_semi C, fun v0 hb => Go.next hb ?_⟩
  refine Go.brk (tn_char C rfl hr.get (ne_nl (by decide)) (way_c_ws C (Nat.le_of_ble_eq_true rfl) (ws_mem (by decide)) Nat.one_pos)) ?_
  exact ⟨_, _, _, _, _, rfl, .inr Nat.one_pos, Nat.le_of_ble_eq_true rfl, .inl ⟨rfl, hr.next⟩⟩
theorem tk_sq (C : GOk g) (h : Tq g 39 ln "" false ρ P) : Tk g ln (39 :: ρ) P := by
  intro v hv
  refine sv_turn (f := .next) C (by decide) hv fun nc es pos hr hnc => ?_
  refine hid fun hn9_139 => ?_
  subst hnc <;> (refine hn9_139 ?_; clear hn9_139)
  exact ⟨_, way_sp_sq C, fun v0 hb => Go.next hb (h _ ⟨_, _, _, rfl, hr⟩)⟩
theorem ta_word (C : GOk g) (hc : Wc c) (hl : tok.length ≤ 100000) (h : Ta g ln (tok ++ ⟨#[c]⟩) qb ρ P) : Ta g ln tok qb (c :: ρ) P := by
  rintro v r9_140_1
  refine hid fun hn9_140 => ?_
  obtain ⟨nc, es, pos, rfl, hr⟩ := r9_140_1
  refine hn9_140 ?_
  clear hn9_140
  refine hid fun hn9_141 => ?_
  obtain ⟨f1, f2, f3, f4⟩ := hc.facts
  refine hn9_141 ?_
  clear hn9_141
  exact Go.next (tn_char C rfl hr.get (ne_nl (not_ws_ne f1)) (way_a_word C hl f1 f2 f3 f4 hc)) (h _ ⟨_, _, _, rfl, hr.next⟩)
theorem ta_ws (C : GOk g) (hc : c ∈ wsL) (h10 : c ≠ 10) (hl : tok.length ≤ 100000) (hq : qb = true ∨ 0 < tok.length) : Ta g ln tok qb (c :: ρ) (Pf g tok ln ρ) := by
  rintro v r9_142_1
  refine hid fun hn9_142 => ?_
  obtain ⟨nc, es, pos, rfl, hr⟩ := r9_142_1
  refine hn9_142 ?_
  clear hn9_142
  by_cases h0 : 0 < tok.length
  · exact Go.brk (tn_char C rfl hr.get (ne_nl h10) (way_a_ws C hl (ws_mem hc) h0)) ⟨_, _, _, _, _, rfl, hq, hl, .inl ⟨rfl, hr.next⟩⟩
  · have hq' : qb = true := by rcases hq with h | h; exact h; exact absurd h h0
    have ht : tok = "" := Str.ext' (Array.eq_empty_of_size_eq_zero (by show tok.length = 0; omega))
    subst hq' ht
    exact Go.brk (tn_char C rfl hr.get (ne_nl h10) (way_a_wsq C (ws_mem hc))) ⟨_, _, _, _, _, rfl, hq, hl, .inl ⟨rfl, hr.next⟩⟩
theorem ta_oth (C : GOk g) (hc : Oc c) (hl : tok.length ≤ 100000) (hq : qb = true ∨ 0 < tok.length) : Ta g ln tok qb (c :: ρ) (Pf g tok ln (c :: ρ)) := by
  rintro v r9_143_1
  refine hid fun hn9_143 => ?_
  obtain ⟨nc, es, pos, rfl, hr⟩ := r9_143_1
  refine hn9_143 ?_
  clear hn9_143
  refine hid fun hn9_144 => ?_
  obtain ⟨f1, f2, f3, f4, f5⟩ := hc
  refine hn9_144 ?_
  clear hn9_144
  by_cases h0 : 0 < tok.length
  · exact Go.brk (tn_char C rfl hr.get (ne_nl (not_ws_ne f1)) (way_a_other C hl f1 f2 f3 f4 f5 h0)) ⟨_, _, _, _, _, rfl, hq, hl, .inr ⟨_, _, rfl, rfl, hr.next, not_ws_ne f1⟩⟩
  · have hq' : qb = true := by rcases hq with h | h; exact h; exact absurd h h0
    have ht : tok = "" := Str.ext' (Array.eq_empty_of_size_eq_zero (by show tok.length = 0; omega))
    subst hq' ht
    exact Go.brk (tn_char C rfl hr.get (ne_nl (not_ws_ne f1)) (way_a_otherq C f1 f2 f3 f4 f5)) ⟨_, _, _, _, _, rfl, hq, hl, .inr ⟨_, _, rfl, rfl, hr.next, not_ws_ne f1⟩⟩
theorem ta_sq (C : GOk g) (hl : tok.length ≤ 100000) (h : Tq g 39 ln tok qb ρ P) : Ta g ln tok qb (39 :: ρ) P := by
  rintro v r9_145_1
  refine hid fun hn9_145 => ?_
  obtain ⟨nc, es, pos, rfl, hr⟩ := r9_145_1
  refine hn9_145 ?_
  clear hn9_145
  exact Go.next (tn_char C rfl hr.get (ne_nl (by decide)) (way_a_sq C hl)) (h _ ⟨_, _, _, rfl, hr.next⟩)
theorem ta_dq (C : GOk g) (hl : tok.length ≤ 100000) (h : Tq g 34 ln tok qb ρ P) : Ta g ln tok qb (34 :: ρ) P := by
  rintro v r9_146_1
  refine hid fun hn9_146 => ?_
  obtain ⟨nc, es, pos, rfl, hr⟩ := r9_146_1
  refine hn9_146 ?_
  clear hn9_146
  exact Go.next (tn_char C rfl hr.get (ne_nl (by decide)) (way_a_dq C hl)) (h _ ⟨_, _, _, rfl, hr.next⟩)
theorem bs_mem (h : c ≠ 92) : c ∉ (Str.ofString "\\").cps.toList := by
  have e : (Str.ofString "\\").cps.toList = [92] := by decide +kernel
  rw [e]; simp [h]
theorem sq_ch (C : GOk g) (h39 : c ≠ 39) (h10 : c ≠ 10) (hl : tok.length ≤ 100000) (h : Tq g 39 ln (tok ++ ⟨#[c]⟩) true ρ P) : Tq g 39 ln tok qb (c :: ρ) P := by
  rintro v r9_147_1
  refine hid fun hn9_147 => ?_
  obtain ⟨nc, es, pos, rfl, hr⟩ := r9_147_1
  refine hn9_147 ?_
  clear hn9_147
  by_cases h92 : c = 92
  · refine hid fun hn9_148 => ?_
    subst h92 <;> (refine hn9_148 ?_; clear hn9_148)
    exact Go.next (tn_char C rfl hr.get (ne_nl h10) (way_sq_bs C hl)) (h _ ⟨_, _, _, rfl, hr.next⟩)
  · exact Go.next (tn_char C rfl hr.get (ne_nl h10) (way_sq_oth C hl (one_ne h39) (bs_mem h92))) (h _ ⟨_, _, _, rfl, hr.next⟩)
theorem sq_end (C : GOk g) (hl : tok.length ≤ 100000) (h : Ta g ln tok true ρ P) : Tq g 39 ln tok qb (39 :: ρ) P := by
  rintro v r9_149_1
  refine hid fun hn9_149 => ?_
  obtain ⟨nc, es, pos, rfl, hr⟩ := r9_149_1
  refine hn9_149 ?_
  clear hn9_149
  exact Go.next (tn_char C rfl hr.get (ne_nl (by decide)) (way_sq_end C hl)) (h _ ⟨_, _, _, rfl, hr.next⟩)
theorem dq_ch (C : GOk g) (h34 : c ≠ 34) (h92 : c ≠ 92) (h10 : c ≠ 10) (hl : tok.length ≤ 100000) (h : Tq g 34 ln (tok ++ ⟨#[c]⟩) true ρ P) : Tq g 34 ln tok qb (c :: ρ) P := by
  rintro v r9_150_1
  refine hid fun hn9_150 => ?_
  obtain ⟨nc, es, pos, rfl, hr⟩ := r9_150_1
  refine hn9_150 ?_
  clear hn9_150
  exact Go.next (tn_char C rfl hr.get (ne_nl h10) (way_dq_oth C hl (one_ne h34) (bs_mem h92))) (h _ ⟨_, _, _, rfl, hr.next⟩)
theorem dq_esc (C : GOk g) (hc : c = 34 ∨ c = 92) (hl : tok.length ≤ 100000) (h : Tq g 34 ln (tok ++ ⟨#[c]⟩) true ρ P) : Tq g 34 ln tok qb (92 :: c :: ρ) P := by
  rintro v r9_151_1
  refine hid fun hn9_151 => ?_
  obtain ⟨nc, es, pos, rfl, hr⟩ := r9_151_1
  refine hn9_151 ?_
  clear hn9_151
  refine Go.next (tn_char C rfl hr.get (ne_nl (by decide)) (way_dq_bs C hl)) ?_
  rcases hc with rfl | rfl
  · exact Go.next (tn_char C rfl hr.next.get (ne_nl (by decide)) (way_es_dq C hl)) (h _ ⟨_, _, _, rfl, hr.next.next⟩)
  · exact Go.next (tn_char C rfl hr.next.get (ne_nl (by decide)) (way_es_bs C hl)) (h _ ⟨_, _, _, rfl, hr.next.next⟩)
theorem dq_end (C : GOk g) (hl : tok.length ≤ 100000) (h : Ta g ln tok true ρ P) : Tq g 34 ln tok qb (34 :: ρ) P := by
  rintro v r9_152_1
  refine hid fun hn9_152 => ?_
  obtain ⟨nc, es, pos, rfl, hr⟩ := r9_152_1
  refine hn9_152 ?_
  clear hn9_152
  exact Go.next (tn_char C rfl hr.get (ne_nl (by decide)) (way_dq_end C hl)) (h _ ⟨_, _, _, rfl, hr.next⟩)
/-- the end: once, and once more -/
theorem tk_eof (C : GOk g) : Tk g ln [] (Eof g ln) := by
  rintro v ⟨nc, es, pos, dq, rfl, ⟨rfl, hr⟩ | ⟨ch, r, rfl, e, hr, hn⟩⟩
  · exact Go.brk (tn_eof C rfl hr.nil (way_sp_eof C)) ⟨_, _, _, rfl, hr⟩
  · refine hid fun hn9_153 => ?_
    cases e <;> (refine hn9_153 ?_; clear hn9_153)
theorem go_eof (C : GOk g) {nc : Option Str} {es : Str} (hr : Rm g pos []) : Go g ⟨none, ln, "", none, nc, false, es, pos⟩ (Eof g ln) :=
  Go.brk (tn_eof C rfl hr.nil (way_no_eof C)) ⟨_, _, _, rfl, hr⟩
end
end
section
-- text Rt
theorem rsMap_self {x : Nat} {ncv : Option Value} {qb : Bool} {es : Str} {t1 : Tok} {f : Str → Option Value} (h1 : f "nextchar" = ncv) (h2 : f "self" = some (.ref x)) (h3 : f "quoted" = some (.bool qb)) (h4 : f "escapedstate" = some (.str es t1)) :
    rsMap x ncv qb es t1 f = f := by
  funext y
  show (if y = "nextchar" then ncv else if y = "self" then some (.ref x) else if y = "quoted" then some (.bool qb) else if y = "escapedstate" then some (.str es t1) else f y) = f y
  by_cases a : y = "nextchar"
  · subst a; rw [if_pos rfl]; exact h1.symm
  rw [if_neg a]
  by_cases b : y = "self"
  · subst b; rw [if_pos rfl]; exact h2.symm
  rw [if_neg b]
  by_cases d : y = "quoted"
  · subst d; rw [if_pos rfl]; exact h3.symm
  rw [if_neg d]
  by_cases e : y = "escapedstate"
  · subst e; rw [if_pos rfl]; exact h4.symm
  rw [if_neg e]
theorem fr_self {h₀ h : Heap} {L : Addr} {x : Nat} {ncv : Option Value} {qb : Bool} {es : Str} {t1 : Tok} {f : Str → Option Value} (F : Fr h₀ L h f) (h1 : f "nextchar" = ncv) (h2 : f "self" = some (.ref x)) (h3 : f "quoted" = some (.bool qb)) (h4 : f "escapedstate" = some (.str es t1)) :
    Fr h₀ L h (rsMap x ncv qb es t1 f) := by rw [rsMap_self h1 h2 h3 h4]; exact F
theorem st_while_at {g : G} {v : Vv} {P : Vv → Prop} {Q : Flow → Shared → Prop} {E : Value → Shared → Prop} {s : Shared} (C : GOk g) (hr : RS g v s) (hg : Go g v P) (k : ∀ v' s', P v' → RS g v' s' → Q .next s') :
    wpAny g.M g.A (exec rtWhile g.E) Q E s := by
  refine hid fun hn9_154 => ?_
  obtain ⟨n, v', hc, hp⟩ := hg
  refine hn9_154 ?_
  clear hn9_154
  exact st_while hc _ _ _ hr fun s' h' => k v' s' hp h'
section
variable {w : World} {p : Program} {loose : List Str} {mean : ExcName → Option Value} {mg mb : Str → Option Value}
  {dp un : Nat} {gd : Option (List Code)} {cn : Str} {cs : Scope} {a : Addr} {ccd : Value} {cl : List (Str × Addr)} {outer : List Env} {A₀ : Around} {base h₀ : Heap} {L : Addr} {m : Str → Option Value} {s : Shared} {Q E : Value → Shared → Prop}
theorem rt_spec {x dx q y dy pb fs : Nat} {kt vt : Nat → Tok} {buf : Str} {rest : List (Addr × Obj)} {st : Option Str} {ln : Int} {dq : Option Nat} {pos : Nat} {stt tl tt td tp : Tok} {dst : Int} {P : Vv → Prop}
  (o1 : dx < x) (o2 : x < dy) (o3 : dy < y) (o4 : y < q) (ho : OwnOff rest [q, dx, x, dy, y]) (hb : buf.length ≤ 100000)
  (B : Below A₀ base outer h₀) (F : Fr h₀ L s.heap m) (X : (Mine.mkK.heap_1 w.params).In h₀)
  (N : News h₀ L s.heap (rsLed w.params ⟨x, dx, q, y, dy, pb, fs, kt, vt, buf, rest⟩ st ln "" dq pos stt tl tt td tp dst))
  (T : Top p loose mean mg mb h₀) (hk : cs.kind = .function)
  (hdp : dp + 30 < recursionLimit) (hun : un + 200 < cLine)
  (hgo : ∀ g : G, GOk g → g.c = ⟨x, dx, q, y, dy, pb, fs, kt, vt, buf, rest⟩ → Go g ⟨st, ln, "", dq, none, false, " ", pos⟩ P)
  (hN : ∀ v h' tk' stt tl tt td tp dst, P v → v.qb = false → v.tok = "" → Fr h₀ L h' m → News h₀ L h' (rsLed w.params ⟨x, dx, q, y, dy, pb, fs, kt, vt, buf, rest⟩ v.st v.ln "" v.dq v.pos stt tl tt td tp dst) →
    Q .none { s with heap := h', toks := tk' })
  (hS : ∀ v h' tk' stt tl tt td tp dst t, P v → (v.qb = true ∨ v.tok ≠ "") → Fr h₀ L h' m → News h₀ L h' (rsLed w.params ⟨x, dx, q, y, dy, pb, fs, kt, vt, buf, rest⟩ v.st v.ln "" v.dq v.pos stt tl tt td tp dst) →
    Q (.str v.tok t) { s with heap := h', toks := tk' }) :
  wpAny (model PySem.Challenge.rw_in0111_01.row.prog w) (ktrTop dp un gd cn cs L a ccd cl outer) (call (.ref 850) [.ref x]) Q E s := by
  dsimp only [rsLed] at N hN hS
  revert X; k_fill; intro X
  refine wpAny_call ?_
  ((k_dflt (refine' code_def ?k1q ?k2q ?k3q ?k4q ?k5q ?kAq ?kFq ?kKq ?k6q ?k7q ?k8q ?k9q ?kBq ?_ ?c2q ?c3q ?c4q ?c5q; (case kAq => exact rfl); (case kFq => exact rfl); (case kKq => assumption); (case k1q => k_asm); (case k2q => k_asm); (case k3q => k_asm); (case k4q => k_asm); (case k5q => k_asm); (case k6q => k_is); (case k7q => k_is); (case k8q => ktr_room); (case k9q => first | exact BindsTo.of_eq rfl | exact binds_K (by k_in) rfl (by k_is) rfl rfl rfl); (case c5q => decide); (case kBq => exact locs rfl); (case c2q => exact rfl); (case c3q => exact rfl); (case c4q => exact rfl); k_whole; intro gq Lq hq FGq Fq Nq Bq Xq Tq; (try dsimp only); (try k_lift Bq); (try k_fold))))
  (repeat' (first | (k_unfold; (try dsimp only)) | (k_end; wrow_close) | ((fail_if_success (with_reducible show wpAny _ _ (exec (Stmt.While _ _ _ _) _) _ _ _)); (first | (with_reducible (k_here; first | (refine ite_bt ?hq ?_; (case hq => with_reducible assumption)) | (refine ite_bf ?hq ?_; (case hq => with_reducible assumption)) | (refine ite_in_t ?hq ?_; (case hq => with_reducible assumption)) | (refine ite_in_f ?hq ?_; (case hq => with_reducible assumption)) | (refine ite_bt ?hq ?_; (case hq => decide +kernel)) | (refine ite_bf ?hq ?_; (case hq => decide +kernel)))) | walk1)) | (dsimp only; (fail_if_success (with_reducible show wpAny _ _ (exec (Stmt.While _ _ _ _) _) _ _ _)); walk1) | fail "no step"))
  refine' st_while_at (g := ⟨w, p, loose, mean, mg, mb, _, _, gd, _, _, _, _, _, s, ⟨x, dx, q, y, dy, pb, fs, kt, vt, buf, rest⟩⟩) (v := ⟨st, ln, "", dq, none, false, " ", pos⟩) (P := P) ?C ⟨none, _, stt, tl, tt, td, tp, dst, _, ?hn, ?F, ?N, _, _, rfl⟩ ?hg ?k
  case C => exact ⟨by k_asm, by k_asm, by k_asm, by ktr_room, by ktr_units, o1, o2, o3, o4, ho, hb⟩
  case hn => intro x hx; cases hx
  case F =>
    refine' fr_self ?F0 ?h1 ?h2 ?h3 ?h4
    case F0 => k_asm
    case h1 => exact rfl
    case h2 => exact rfl
    case h3 => exact rfl
    case h4 => exact rfl
  case N => k_asm
  case hg => exact hgo _ ⟨by k_asm, by k_asm, by k_asm, by ktr_room, by ktr_units, o1, o2, o3, o4, ho, hb⟩ rfl
  case k =>
    intro v1 s1 hp hr
    refine hid fun hn9_155 => ?_
    obtain ⟨ncv, t1, stt, tl, tt, td, tp, dst, u, hn, F, N, h', tk, e⟩ := hr
    refine hn9_155 ?_
    clear hn9_155
    refine hid fun hn9_156 => ?_
    obtain ⟨st1, ln1, tok1, dq1, nc1, qb1, es1, pos1⟩ := v1
    refine hn9_156 ?_
    clear hn9_156
    refine hid fun hn9_157 => ?_
    subst e <;> (refine hn9_157 ?_; clear hn9_157)
    dsimp only [rsLed] at F N ⊢
    (repeat' (first | (k_unfold; (try dsimp only)) | (k_end; wrow_close) | (first | (with_reducible (k_here; first | (refine ite_bt ?hq ?_; (case hq => with_reducible assumption)) | (refine ite_bf ?hq ?_; (case hq => with_reducible assumption)) | (refine ite_in_t ?hq ?_; (case hq => with_reducible assumption)) | (refine ite_in_f ?hq ?_; (case hq => with_reducible assumption)) | (refine ite_bt ?hq ?_; (case hq => decide +kernel)) | (refine ite_bf ?hq ?_; (case hq => decide +kernel)))) | walk1) | (dsimp only; walk1) | (leave1; (try dsimp only)) | fail "no step"))
    · refine' hS _ _ _ _ _ _ _ _ _ _ hp ?a1 ?F1 ?N1
      case F1 => k_asm
      case N1 => k_asm
      case a1 => exact .inl (by assumption)
    · have e : tok1 = "" := eq_of_beq (by assumption)
      refine' hN _ _ _ _ _ _ _ _ _ hp ?a2 e ?F2 ?N2
      case F2 => k_asm
      case N2 => k_asm
      case a2 => assumption
    · refine' hS _ _ _ _ _ _ _ _ _ _ hp ?a3 ?F3 ?N3
      case F3 => k_asm
      case N3 => k_asm
      case a3 => exact .inr (ne_of_beq_false (by assumption))
end
end
section
-- text Gt
section
variable {w : World} {p : Program} {loose : List Str} {mean : ExcName → Option Value} {mg mb : Str → Option Value}
  {dp un : Nat} {gd : Option (List Code)} {cn : Str} {cs : Scope} {a : Addr} {ccd : Value} {cl : List (Str × Addr)} {outer : List Env} {A₀ : Around} {base h₀ : Heap} {L : Addr} {m : Str → Option Value} {s : Shared} {Q E : Value → Shared → Prop}
theorem gt_spec {x dx q y dy pb fs : Nat} {kt vt : Nat → Tok} {buf : Str} {rest : List (Addr × Obj)} {st : Option Str} {ln : Int} {dq : Option Nat} {pos : Nat} {stt tl tt td tp : Tok} {dst d1 d2 : Int} {P : Vv → Prop}
  (o1 : dx < x) (o2 : x < dy) (o3 : dy < y) (o4 : y < q) (ho : OwnOff ((pb, dqObj d1 []) :: (fs, dqObj d2 []) :: rest) [q, dx, x, dy, y]) (hb : buf.length ≤ 100000)
  (B : Below A₀ base outer h₀) (F : Fr h₀ L s.heap m) (X : (Mine.mkK.heap_1 w.params).In h₀)
  (N : News h₀ L s.heap (rsLed w.params ⟨x, dx, q, y, dy, pb, fs, kt, vt, buf, (pb, dqObj d1 []) :: (fs, dqObj d2 []) :: rest⟩ st ln "" dq pos stt tl tt td tp dst))
  (T : Top p loose mean mg mb h₀) (hk : cs.kind = .function)
  (hdp : dp + 50 < recursionLimit) (hun : un + 400 < cLine)
  (hgo : ∀ g : G, GOk g → g.c = ⟨x, dx, q, y, dy, pb, fs, kt, vt, buf, (pb, dqObj d1 []) :: (fs, dqObj d2 []) :: rest⟩ → Go g ⟨st, ln, "", dq, none, false, " ", pos⟩ P)
  (hN : ∀ v h' tk' stt tl tt td tp dst, P v → v.qb = false → v.tok = "" → Fr h₀ L h' m → News h₀ L h' (rsLed w.params ⟨x, dx, q, y, dy, pb, fs, kt, vt, buf, (pb, dqObj d1 []) :: (fs, dqObj d2 []) :: rest⟩ v.st v.ln "" v.dq v.pos stt tl tt td tp dst) →
    Q .none { s with heap := h', toks := tk' })
  (hS : ∀ v h' tk' stt tl tt td tp dst t, P v → (v.qb = true ∨ v.tok ≠ "") → Fr h₀ L h' m → News h₀ L h' (rsLed w.params ⟨x, dx, q, y, dy, pb, fs, kt, vt, buf, (pb, dqObj d1 []) :: (fs, dqObj d2 []) :: rest⟩ v.st v.ln "" v.dq v.pos stt tl tt td tp dst) →
    Q (.str v.tok t) { s with heap := h', toks := tk' }) :
  wpAny (model PySem.Challenge.rw_in0111_01.row.prog w) (ktrTop dp un gd cn cs L a ccd cl outer) (call (.ref 843) [.ref x]) Q E s := by
  dsimp only [rsLed] at N hN hS
  revert X; k_fill; intro X
  refine wpAny_call ?_
  ((k_dflt (refine' code_def ?k1q ?k2q ?k3q ?k4q ?k5q ?kAq ?kFq ?kKq ?k6q ?k7q ?k8q ?k9q ?kBq ?_ ?c2q ?c3q ?c4q ?c5q; (case kAq => exact rfl); (case kFq => exact rfl); (case kKq => assumption); (case k1q => k_asm); (case k2q => k_asm); (case k3q => k_asm); (case k4q => k_asm); (case k5q => k_asm); (case k6q => k_is); (case k7q => k_is); (case k8q => ktr_room); (case k9q => first | exact BindsTo.of_eq rfl | exact binds_K (by k_in) rfl (by k_is) rfl rfl rfl); (case c5q => decide); (case kBq => exact locs rfl); (case c2q => exact rfl); (case c3q => exact rfl); (case c4q => exact rfl); k_whole; intro gq Lq hq FGq Fq Nq Bq Xq Tq; (try dsimp only); (try k_lift Bq); (try k_fold))))
  (repeat' (first | (k_unfold; (try dsimp only)) | (k_end; wrow_close) | (first | (with_reducible ((with_reducible show wpAny _ _ (call (Value.ref 850) _) _ _ _); k_dflt (refine' rt_spec ?o1q ?o2q ?o3q ?o4q ?hoq ?hbq ?kBq ?kFq ?kXq ?kNq ?kTq ?kKq ?kdq ?kuq ?hgoq ?_ ?_; (case kFq => k_asm); (case kNq => k_asm); (case o1q => k_asm); (case o2q => k_asm); (case o3q => k_asm); (case o4q => k_asm); (case hoq => k_asm); (case hbq => k_asm); (case kBq => k_asm); (case kXq => k_asm); (case kTq => k_asm); (case kKq => first | exact rfl | assumption); (case kdq => ktr_room); (case kuq => ktr_units); (case hgoq => k_asm); k_whole; intros; (try dsimp only [rsLed] at *); (try k_fold)))) | (with_reducible (k_here; first | (refine ite_bt ?hq ?_; (case hq => with_reducible assumption)) | (refine ite_bf ?hq ?_; (case hq => with_reducible assumption)) | (refine ite_in_t ?hq ?_; (case hq => with_reducible assumption)) | (refine ite_in_f ?hq ?_; (case hq => with_reducible assumption)) | (refine ite_bt ?hq ?_; (case hq => decide +kernel)) | (refine ite_bf ?hq ?_; (case hq => decide +kernel)))) | ((with_reducible show wpAny _ _ (truthy (Value.ref _)) _ _ _); with_reducible (k_here; k_dflt (refine' dq_truthy (News.get ?Nq ?mq) ?zq ?_; (case Nq => k_asm); (case mq => k_mem); (case zq => exact Nat.le_of_ble_eq_true rfl); k_whole))) | walk1) | (dsimp only; walk1) | (leave1; (try dsimp only)) | fail "no step"))
  · refine' hN _ _ _ _ _ _ _ _ _ ?a1 ?b1 ?c1 ?F1 ?N1
    case a1 => assumption
    case b1 => assumption
    case c1 => assumption
    case F1 => k_asm
    case N1 => k_asm
  · refine' hS _ _ _ _ _ _ _ _ _ _ ?a2 ?b2 ?F2 ?N2
    case a2 => assumption
    case b2 => assumption
    case F2 => k_asm
    case N2 => k_asm
end
end
section
-- text Li
section
variable {g : G} {P : Vv → Prop} {ln : Int} {tok : Str} {qb : Bool} {ρ : List Nat}
noncomputable abbrev sL (l : List Nat) : Str := ⟨l.toArray⟩
theorem app_cons (tok : Str) (c : Nat) (l : List Nat) : tok ++ ⟨#[c]⟩ ++ sL l = tok ++ sL (c :: l) := by
  apply Str.ext'
  show (tok.cps ++ #[c]) ++ l.toArray = tok.cps ++ (c :: l).toArray
  rw [Array.append_assoc]
  congr 1
  simp
theorem app_nil (tok : Str) : tok ++ sL [] = tok := by
  apply Str.ext'
  show tok.cps ++ #[] = tok.cps
  simp
theorem app_len (tok : Str) (c : Nat) : (tok ++ ⟨#[c]⟩ : Str).length = tok.length + 1 := by rw [Str.length_append]; rfl
theorem ta_words (C : GOk g) : ∀ (l : List Nat) (tok : Str), (∀ c ∈ l, Wc c) → tok.length + l.length ≤ 100000 → Ta g ln (tok ++ sL l) qb ρ P → Ta g ln tok qb (l ++ ρ) P
  | [], tok, _, _, h => by rw [app_nil] at h; exact h
  | c :: l, tok, hw, hl, h => by
    rw [List.length_cons] at hl
    refine ta_word C (hw c (.head _)) (by omega) (ta_words C l _ (fun d hd => hw d (.tail _ hd)) (by rw [app_len]; omega) ?_)
    rw [app_cons]; exact h
theorem sq_list (C : GOk g) : ∀ (l : List Nat) (tok : Str) (qb : Bool), (∀ c ∈ l, c ≠ 39 ∧ c ≠ 10) → tok.length + l.length ≤ 100000 → (∀ q, Tq g 39 ln (tok ++ sL l) q ρ P) → Tq g 39 ln tok qb (l ++ ρ) P
  | [], tok, qb, _, _, h => by have := h qb; rw [app_nil] at this; exact this
  | c :: l, tok, qb, hw, hl, h => by
    rw [List.length_cons] at hl
    refine sq_ch C (hw c (.head _)).1 (hw c (.head _)).2 (by omega) (sq_list C l _ _ (fun d hd => hw d (.tail _ hd)) (by rw [app_len]; omega) fun q => ?_)
    rw [app_cons]; exact h q
/-- how quote writes a sign between its quotes -/
noncomputable def qenc (c : Nat) : List Nat := if c = 39 then [39, 34, 39, 34, 39] else [c]
/-- how _formatparam writes a sign -/
noncomputable def denc (c : Nat) : List Nat := if c = 34 ∨ c = 92 then [92, c] else [c]
theorem sq_own (C : GOk g) : ∀ (l : List Nat) (tok : Str) (qb : Bool), (∀ c ∈ l, c ≠ 10) → tok.length + l.length ≤ 100000 → (∀ q, Tq g 39 ln (tok ++ sL l) q ρ P) → Tq g 39 ln tok qb (l.flatMap qenc ++ ρ) P
  | [], tok, qb, _, _, h => by have := h qb; rw [app_nil] at this; exact this
  | c :: l, tok, qb, hw, hl, h => by
    rw [List.length_cons] at hl
    have ih : ∀ q, Tq g 39 ln (tok ++ ⟨#[c]⟩) q (l.flatMap qenc ++ ρ) P := fun q => sq_own C l _ _ (fun d hd => hw d (.tail _ hd)) (by rw [app_len]; omega) fun q => by rw [app_cons]; exact h q
    rw [List.flatMap_cons, List.append_assoc]
    by_cases hc : c = 39
    · refine hid fun hn9_158 => ?_
      subst hc <;> (refine hn9_158 ?_; clear hn9_158)
      rw [show qenc 39 = [39, 34, 39, 34, 39] from rfl]
      show Tq g 39 ln tok qb (39 :: 34 :: 39 :: 34 :: 39 :: (l.flatMap qenc ++ ρ)) P
      exact sq_end C (by omega) (ta_dq C (by omega) (dq_ch C (by decide) (by decide) (by decide) (by omega) (dq_end C (by rw [app_len]; omega) (ta_sq C (by rw [app_len]; omega) (ih _)))))
    · rw [show qenc c = [c] from if_neg hc]
      exact sq_ch C hc (hw c (.head _)) (by omega) (ih _)
theorem dq_val (C : GOk g) : ∀ (l : List Nat) (tok : Str) (qb : Bool), (∀ c ∈ l, c ≠ 10) → tok.length + l.length ≤ 100000 → (∀ q, Tq g 34 ln (tok ++ sL l) q ρ P) → Tq g 34 ln tok qb (l.flatMap denc ++ ρ) P
  | [], tok, qb, _, _, h => by have := h qb; rw [app_nil] at this; exact this
  | c :: l, tok, qb, hw, hl, h => by
    rw [List.length_cons] at hl
    have ih : ∀ q, Tq g 34 ln (tok ++ ⟨#[c]⟩) q (l.flatMap denc ++ ρ) P := fun q => dq_val C l _ _ (fun d hd => hw d (.tail _ hd)) (by rw [app_len]; omega) fun q => by rw [app_cons]; exact h q
    rw [List.flatMap_cons, List.append_assoc]
    by_cases hc : c = 34 ∨ c = 92
    · rw [show denc c = [92, c] from if_pos hc]
      exact dq_esc C hc (by omega) (ih _)
    · rw [show denc c = [c] from if_neg hc]
      exact dq_ch C (fun e => hc (.inl e)) (fun e => hc (.inr e)) (hw c (.head _)) (by omega) (ih _)
end
end
section
-- text Sy
/-- one call of get_token gives a text -/
noncomputable def Say (k : Cc) (ln : Int) (ρ : List Nat) (x : Str) (ln' : Int) (ρ' : List Nat) : Prop := ∀ g : G, GOk g → g.c.buf = k.buf → Tk g ln ρ (Pf g x ln' ρ')
section
variable {g : G} {k : Cc} {P : Vv → Prop} {ln ln' ln1 : Int} {tok x : Str} {qb : Bool} {ρ ρ' ρ1 : List Nat} {c t : Nat}
/-- what ends a word: a carriage return, which is eaten, or a sign that stands alone, which is kept -/
noncomputable def Ends (t : Nat) (ρ ρ' : List Nat) : Prop := t = 13 ∧ ρ' = ρ ∨ Oc t ∧ ρ' = t :: ρ
theorem ta_end (C : GOk g) (he : Ends t ρ ρ') (hl : tok.length ≤ 100000) (hq : qb = true ∨ 0 < tok.length) : Ta g ln tok qb (t :: ρ) (Pf g tok ln ρ') := by
  rcases he with ⟨rfl, rfl⟩ | ⟨ho, rfl⟩
  · exact ta_ws C (by decide) (by decide) hl hq
  · exact ta_oth C ho hl hq
theorem say_ws (hc : c ∈ wsL) (h : Say k (ln + nl c) ρ x ln' ρ') : Say k ln (c :: ρ) x ln' ρ' := fun g C e => tk_ws C hc (h g C e)
theorem say_one (hc : Oc c) (h : c ∉ (Str.ofString ";").cps.toList) : Say k ln (c :: ρ) ⟨#[c]⟩ ln ρ := fun g C _ => tk_one C hc h
theorem say_semi : Say k ln (59 :: 32 :: ρ) ⟨#[59]⟩ ln ρ := fun g C _ => tk_semi C
theorem sL_cons (c : Nat) (l : List Nat) : (⟨#[c]⟩ : Str) ++ sL l = sL (c :: l) := by
  apply Str.ext'
  show #[c] ++ l.toArray = (c :: l).toArray
  simp
theorem sL_len (l : List Nat) : (sL l).length = l.length := by show l.toArray.size = _; simp
theorem sL_app (l m : List Nat) : sL l ++ sL m = sL (l ++ m) := by
  apply Str.ext'
  show l.toArray ++ m.toArray = (l ++ m).toArray
  simp
theorem tk_words (C : GOk g) {l : List Nat} (hne : l ≠ []) (hw : ∀ d ∈ l, Wc d) (hl : l.length ≤ 100000) (h : Ta g ln (sL l) false ρ P) : Tk g ln (l ++ ρ) P := by
  cases l with
  | nil => exact absurd rfl hne
  | cons c l =>
    rw [List.length_cons] at hl
    refine tk_word C (hw c (.head _)) (ta_words C l _ (fun d hd => hw d (.tail _ hd)) (by show 1 + l.length ≤ 100000; omega) ?_)
    rw [sL_cons]; exact h
theorem say_word {l : List Nat} (hne : l ≠ []) (hw : ∀ d ∈ l, Wc d) (hl : l.length ≤ 100000) (he : Ends t ρ ρ') : Say k ln (l ++ t :: ρ) (sL l) ln ρ' := fun g C _ =>
  tk_words C hne hw hl (ta_end C he (by rw [sL_len]; exact hl) (.inr (by rw [sL_len]; exact List.length_pos_iff.mpr hne)))
theorem say_quoted {l : List Nat} (hw : ∀ d ∈ l, d ≠ 10) (hl : l.length ≤ 100000) (he : Ends t ρ ρ') : Say k ln (39 :: (l.flatMap qenc ++ 39 :: t :: ρ)) (sL l) ln ρ' := by
  intro g C _
  refine tk_sq C (sq_own C l "" false hw (by show 0 + l.length ≤ 100000; omega) fun q => ?_)
  have e : (Str.ofString "" : Str) ++ sL l = sL l := by
    have : (Str.ofString "" : Str) = sL [] := by decide +kernel
    rw [this, sL_app]; rfl
  rw [e]
  exact sq_end C (by rw [sL_len]; exact hl) (ta_end C he (by rw [sL_len]; exact hl) (.inl rfl))
theorem eq_Wc : Wc 61 := by unfold Wc; decide +kernel
theorem say_param {n l : List Nat} (hne : n ≠ []) (hn : ∀ d ∈ n, Wc d) (hw : ∀ d ∈ l, d ≠ 10) (hl : n.length + 1 + l.length ≤ 100000) (he : Ends t ρ ρ') :
    Say k ln (n ++ 61 :: 34 :: (l.flatMap denc ++ 34 :: t :: ρ)) (sL (n ++ 61 :: l)) ln ρ' := by
  intro g C _
  have e1 : n ++ 61 :: 34 :: (l.flatMap denc ++ 34 :: t :: ρ) = (n ++ [61]) ++ 34 :: (l.flatMap denc ++ 34 :: t :: ρ) := by simp
  rw [e1]
  have hlen : (n ++ [61]).length ≤ 100000 := by rw [List.length_append]; show n.length + 1 ≤ _; omega
  refine tk_words C (by simp) (fun d hd => ?_) hlen ?_
  · rcases List.mem_append.mp hd with h | h
    · exact hn d h
    · rw [List.mem_singleton.mp h]; exact eq_Wc
  refine ta_dq C (by rw [sL_len]; exact hlen) (dq_val C l _ _ hw (by rw [sL_len, List.length_append]; show n.length + 1 + l.length ≤ _; omega) fun q => ?_)
  rw [sL_app, show n ++ [61] ++ l = n ++ 61 :: l by simp]
  refine dq_end C ?_ (ta_end C he ?_ (.inl rfl)) <;> (rw [sL_len, List.length_append, List.length_cons]; omega)
end
end
section
-- text Ru
/-- all calls: texts, then None twice -/
inductive Runs (k : Cc) : Int → List Nat → List (Option Str × Int) → Prop
  | tok {ln : Int} {ρ : List Nat} {x : Str} {ln1 : Int} {ρ1 : List Nat} {l : List (Option Str × Int)} : Say k ln ρ x ln1 ρ1 → Runs k ln1 ρ1 l → Runs k ln ρ ((some x, ln1) :: l)
  | eof {ln : Int} {ρ : List Nat} {ln1 : Int} : (∀ g : G, GOk g → g.c.buf = k.buf → Tk g ln ρ (Eof g ln1)) → Runs k ln ρ [(none, ln1), (none, ln1)]
section
variable {k : Cc} {ln : Int} {ρ ρ' : List Nat} {c t : Nat} {l : List (Option Str × Int)}
theorem runs_ws (hc : c ∈ wsL) (h : Runs k (ln + nl c) ρ l) : Runs k ln (c :: ρ) l := by
  cases h with
  | tok a b => exact .tok (say_ws hc a) b
  | eof a => exact .eof fun g C e => tk_ws C hc (a g C e)
theorem runs_ws0 (hc : c ∈ wsL) (h10 : c ≠ 10) (h : Runs k ln ρ l) : Runs k ln (c :: ρ) l := by
  refine runs_ws hc ?_
  rw [show ln + nl c = ln by unfold nl; rw [if_neg h10]; omega]
  exact h
theorem runs_end (he : Ends t ρ ρ') (h : Runs k ln ρ' l) : Runs k ln (t :: ρ) l := by
  rcases he with ⟨rfl, rfl⟩ | ⟨_, rfl⟩
  · exact runs_ws0 (by decide) (by decide) h
  · exact h
/-- the signs that stand alone in an own text -/
noncomputable abbrev sgl (c : Nat) : Prop := c = 64 ∨ c = 37 ∨ c = 43 ∨ c = 58 ∨ c = 44
theorem sgl_Oc (h : sgl c) : Oc c ∧ c ∉ (Str.ofString ";").cps.toList := by
  have key : ∀ d ∈ [64, 37, 43, 58, 44], Oc d ∧ d ∉ (Str.ofString ";").cps.toList := by unfold Oc; decide +kernel
  refine key c ?_
  rcases h with rfl | rfl | rfl | rfl | rfl <;> decide
theorem semi_Oc : Oc 59 := by unfold Oc; decide +kernel
noncomputable def flush (cur : List Nat) : List (List Nat) := if cur = [] then [] else [cur]
noncomputable def pieces (cur : List Nat) : List Nat → List (List Nat)
  | [] => flush cur
  | c :: l => if sgl c then flush cur ++ [c] :: pieces [] l else pieces (cur ++ [c]) l
noncomputable def toks (ln : Int) (l : List (List Nat)) : List (Option Str × Int) := l.map fun x => (some (sL x), ln)
theorem runs_flush {cur : List Nat} (hw : ∀ d ∈ cur, Wc d) (hl : cur.length ≤ 100000) (he : Ends t ρ ρ') (h : Runs k ln ρ' l) : Runs k ln (cur ++ t :: ρ) (toks ln (flush cur) ++ l) := by
  unfold flush
  by_cases e : cur = []
  · subst e; rw [if_pos rfl]; exact runs_end he h
  · rw [if_neg e]; exact .tok (say_word e hw hl he) h
theorem runs_pieces : ∀ (own cur : List Nat), (∀ d ∈ cur, Wc d) → (∀ d ∈ own, sgl d ∨ Wc d) → cur.length + own.length ≤ 100000 → Ends t ρ ρ' → Runs k ln ρ' l →
    Runs k ln (cur ++ (own ++ t :: ρ)) (toks ln (pieces cur own) ++ l)
  | [], cur, hc, _, hl, he, h => runs_flush hc (by omega) he h
  | c :: own, cur, hc, ho, hl, he, h => by
    rw [List.length_cons] at hl
    unfold pieces
    by_cases hs : sgl c
    · rw [if_pos hs]
      have ih := runs_pieces own [] (fun d hd => by cases hd) (fun d hd => ho d (.tail _ hd)) (by show 0 + _ ≤ _; omega) he h
      unfold toks at ih ⊢
      rw [List.map_append, List.append_assoc]
      have h2 : Runs k ln (c :: (own ++ t :: ρ)) ((some (sL [c]), ln) :: ((pieces [] own).map (fun x => (some (sL x), ln)) ++ l)) := .tok (say_one (sgl_Oc hs).1 (sgl_Oc hs).2) ih
      exact runs_flush hc (by omega) (.inr ⟨(sgl_Oc hs).1, rfl⟩) h2
    · rw [if_neg hs]
      have hw : Wc c := (ho c (.head _)).resolve_left hs
      have ih := runs_pieces own (cur ++ [c]) (fun d hd => by
        rcases List.mem_append.mp hd with a | a
        · exact hc d a
        · rw [List.mem_singleton.mp a]; exact hw) (fun d hd => ho d (.tail _ hd)) (by rw [List.length_append]; show cur.length + 1 + _ ≤ _; omega) he h
      rw [show cur ++ (c :: own ++ t :: ρ) = cur ++ [c] ++ (own ++ t :: ρ) by simp]
      exact ih
end
end
section
-- text Tb
/-- a part of a header's value: its text and its tokens -/
noncomputable def Part (k : Cc) (ln : Int) (W : List Nat) (T : List (List Nat)) : Prop := ∀ t ρ ρ' l, Ends t ρ ρ' → Runs k ln ρ' l → Runs k ln (W ++ t :: ρ) (toks ln T ++ l)
noncomputable def joinW : List (List Nat × List (List Nat)) → List Nat
  | [] => []
  | [p] => p.1
  | p :: q :: r => p.1 ++ 59 :: 32 :: joinW (q :: r)
noncomputable def joinT : List (List Nat × List (List Nat)) → List (List Nat)
  | [] => []
  | [p] => p.2
  | p :: q :: r => p.2 ++ [59] :: joinT (q :: r)
section
variable {k : Cc} {ln : Int} {ρ ρ' : List Nat} {l : List (Option Str × Int)}
theorem toks_app (a b : List (List Nat)) : toks ln (a ++ b) = toks ln a ++ toks ln b := List.map_append
theorem part_quoted {x : List Nat} (hw : ∀ d ∈ x, d ≠ 10) (hl : x.length ≤ 100000) : Part k ln (39 :: (x.flatMap qenc ++ [39])) [x] := by
  intro t ρ ρ' l he h
  rw [show 39 :: (x.flatMap qenc ++ [39]) ++ t :: ρ = 39 :: (x.flatMap qenc ++ 39 :: t :: ρ) by simp]
  exact .tok (say_quoted hw hl he) h
theorem part_safe {x : List Nat} (hw : ∀ d ∈ x, sgl d ∨ Wc d) (hl : x.length ≤ 100000) : Part k ln x (pieces [] x) := by
  intro t ρ ρ' l he h
  exact runs_pieces x [] (fun d hd => by cases hd) hw (by show 0 + _ ≤ _; omega) he h
theorem part_name {n : List Nat} (hne : n ≠ []) (hn : ∀ d ∈ n, Wc d) (hl : n.length ≤ 100000) : Part k ln n [n] := by
  intro t ρ ρ' l he h
  exact .tok (say_word hne hn hl he) h
theorem part_param {n x : List Nat} (hne : n ≠ []) (hn : ∀ d ∈ n, Wc d) (hw : ∀ d ∈ x, d ≠ 10) (hl : n.length + 1 + x.length ≤ 100000) : Part k ln (n ++ 61 :: 34 :: (x.flatMap denc ++ [34])) [n ++ 61 :: x] := by
  intro t ρ ρ' l he h
  rw [show n ++ 61 :: 34 :: (x.flatMap denc ++ [34]) ++ t :: ρ = n ++ 61 :: 34 :: (x.flatMap denc ++ 34 :: t :: ρ) by simp]
  exact .tok (say_param hne hn hw hl he) h
theorem runs_join : ∀ ps : List (List Nat × List (List Nat)), (∀ p ∈ ps, Part k ln p.1 p.2) → Runs k ln (10 :: ρ) l → Runs k ln (joinW ps ++ 13 :: 10 :: ρ) (toks ln (joinT ps) ++ l)
  | [], _, h => runs_ws0 (by decide) (by decide) h
  | [p], hp, h => hp p (.head _) 13 (10 :: ρ) (10 :: ρ) l (.inl ⟨rfl, rfl⟩) h
  | p :: q :: r, hp, h => by
    have ih := runs_join (q :: r) (fun x hx => hp x (.tail _ hx)) h
    show Runs k ln ((p.1 ++ 59 :: 32 :: joinW (q :: r)) ++ 13 :: 10 :: ρ) (toks ln (p.2 ++ [59] :: joinT (q :: r)) ++ l)
    rw [toks_app, List.append_assoc, List.append_assoc]
    refine hp p (.head _) 59 (32 :: (joinW (q :: r) ++ 13 :: 10 :: ρ)) _ _ (.inr ⟨semi_Oc, rfl⟩) ?_
    exact .tok (say_semi) ih
/-- one header's line -/
theorem runs_line {n : List Nat} {ps : List (List Nat × List (List Nat))} (hne : n ≠ []) (hn : ∀ d ∈ n, Wc d) (hl : n.length ≤ 100000) (hp : ∀ p ∈ ps, Part k ln p.1 p.2) (h : Runs k (ln + 1) ρ l) :
    Runs k ln (n ++ 58 :: 32 :: (joinW ps ++ 13 :: 10 :: ρ)) (toks ln (n :: [58] :: joinT ps) ++ l) := by
  have h1 : Runs k ln (10 :: ρ) l := runs_ws (by decide) h
  have h2 := runs_join ps hp h1
  have h3 : Runs k ln (32 :: (joinW ps ++ 13 :: 10 :: ρ)) (toks ln (joinT ps) ++ l) := runs_ws0 (by decide) (by decide) h2
  have hc : sgl 58 := by decide
  have h4 := Runs.tok (say_one (sgl_Oc hc).1 (sgl_Oc hc).2) h3
  exact .tok (say_word hne hn hl (.inr ⟨(sgl_Oc hc).1, rfl⟩)) h4
/-- a header: its name and its parts -/
noncomputable abbrev HL : Type := List Nat × List (List Nat × List (List Nat))
noncomputable def tabW : List HL → List Nat
  | [] => [13, 10]
  | h :: r => h.1 ++ 58 :: 32 :: (joinW h.2 ++ 13 :: 10 :: tabW r)
noncomputable def tabT : Int → List HL → List (Option Str × Int)
  | ln, [] => [(none, ln + 1), (none, ln + 1)]
  | ln, h :: r => toks ln (h.1 :: [58] :: joinT h.2) ++ tabT (ln + 1) r
theorem runs_table : ∀ (hs : List HL) (ln : Int), (∀ h ∈ hs, h.1 ≠ [] ∧ (∀ d ∈ h.1, Wc d) ∧ h.1.length ≤ 100000 ∧ ∀ ln, ∀ p ∈ h.2, Part k ln p.1 p.2) → Runs k ln (tabW hs) (tabT ln hs)
  | [], ln, _ => by
    refine runs_ws0 (by decide) (by decide) (runs_ws (by decide) ?_)
    exact .eof fun g C _ => tk_eof C
  | h :: r, ln, hh => by
    refine hid fun hn9_159 => ?_
    obtain ⟨a, b, c, d⟩ := hh h (.head _)
    refine hn9_159 ?_
    clear hn9_159
    exact runs_line a b c (d ln) (runs_table r (ln + 1) fun x hx => hh x (.tail _ hx))
end
end
section
-- text Sg
section
variable {w : World} {p : Program} {loose : List Str} {mean : ExcName → Option Value} {mg mb : Str → Option Value}
  {dp un : Nat} {gd : Option (List Code)} {cn : Str} {cs : Scope} {a : Addr} {ccd : Value} {cl : List (Str × Addr)} {outer : List Env} {A₀ : Around} {base h₀ : Heap} {L : Addr} {m : Str → Option Value} {s : Shared} {Q E : Value → Shared → Prop}
/-- the sign laid to a text -/
noncomputable def sgn (rest more : Int) : Nat := if rest < 15 then (([34, 92, 39, 59, 32, 9, 61, 35, 97, 64, 95] : List Nat)[(rest - 4).toNat]?).getD 0 else if more < 55296 then more.toNat else (more + 2048).toNat
theorem sgn_item {rest more : Int} (h4 : 4 ≤ rest) (h : rest < 15) : Txt.item (Str.ofString "\"\\'; \t=#a@_") (rest - 4) = ⟨#[sgn rest more]⟩ := by
  unfold sgn
  rw [if_pos h]
  have key : ∀ n : Fin 11, Txt.item (Str.ofString "\"\\'; \t=#a@_") (n.val : Int) = ⟨#[(([34, 92, 39, 59, 32, 9, 61, 35, 97, 64, 95] : List Nat)[(n.val : Int).toNat]?).getD 0]⟩ := by decide +kernel
  have e : rest - 4 = (((rest - 4).toNat : Nat) : Int) := (Int.toNat_of_nonneg (Int.sub_nonneg.mpr h4)).symm
  have l : (rest - 4).toNat < 11 := by omega
  rw [e]
  exact key ⟨_, l⟩
theorem sign_spec {news : List (Addr × Obj)} {t1 t2 : Tok} {rest more : Int}
  (B : Below A₀ base outer h₀) (F : Fr h₀ L s.heap m) (X : (Mine.mkK.heap_1 w.params).In h₀) (N : News h₀ L s.heap news) (T : Top p loose mean mg mb h₀) (hk : cs.kind = .function)
  (hdp : dp + 5 < recursionLimit) (hun : un + 40 < cLine) (h4 : 4 ≤ rest) (h16 : rest < 16) (m0 : 0 ≤ more) (m1 : more < 1112064)
  (h : ∀ t h' tk', Fr h₀ L h' m → News h₀ L h' news → Q (.str ⟨#[sgn rest more]⟩ t) { s with heap := h', toks := tk' }) :
  wpAny (model PySem.Challenge.rw_in0111_01.row.prog w) (ktrTop dp un gd cn cs L a ccd cl outer) (call (.ref 901) [.int rest t1, .int more t2]) Q E s := by
  revert X; k_fill; intro X
  refine wpAny_call ?_
  ((k_dflt (refine' code_def ?k1q ?k2q ?k3q ?k4q ?k5q ?kAq ?kFq ?kKq ?k6q ?k7q ?k8q ?k9q ?kBq ?_ ?c2q ?c3q ?c4q ?c5q; (case kAq => exact rfl); (case kFq => exact rfl); (case kKq => assumption); (case k1q => k_asm); (case k2q => k_asm); (case k3q => k_asm); (case k4q => k_asm); (case k5q => k_asm); (case k6q => k_is); (case k7q => k_is); (case k8q => ktr_room); (case k9q => first | exact BindsTo.of_eq rfl | exact binds_K (by k_in) rfl (by k_is) rfl rfl rfl); (case c5q => decide); (case kBq => exact locs rfl); (case c2q => exact rfl); (case c3q => exact rfl); (case c4q => exact rfl); k_whole; intro gq Lq hq FGq Fq Nq Bq Xq Tq; (try dsimp only); (try k_lift Bq); (try k_fold))))
  (repeat' (first | (k_unfold; (try dsimp only)) | (k_end; wrow_close) | walk1 | (dsimp only; walk1) | (leave1; (try dsimp only)) | fail "no step"))
  · rw [sgn_item (more := more) h4 (by assumption)]
    exact h _ _ _ (by k_asm) (by k_asm)
  · have e : more.toNat = sgn rest more := by unfold sgn; rw [if_neg (by assumption), if_pos (by assumption)]
    rw [e]
    exact h _ _ _ (by k_asm) (by k_asm)
  · have e : (more + 2048).toNat = sgn rest more := by unfold sgn; rw [if_neg (by assumption), if_neg (by assumption)]
    rw [e]
    exact h _ _ _ (by k_asm) (by k_asm)
end
end
section
-- text Rk
section
open Builtin Builtin.Str
variable {prog : Program} {w : World} {A : Around} {E : Value → Shared → Prop} {s : Shared} {x y z : Str} {t u v : Tok} {Q : Value → Shared → Prop}
theorem rep_keep (hu : u ≠ 0) (hv : v ≠ 0) (huv : u ≠ v) (hyz : (y == z) = false) (hx : x.length ≤ 1048576) (hz : z.length ≤ 14)
    (hq : ∀ t' k, s.toks ≤ k → Q (.str (Txt.replace x y z) t') { s with toks := k }) : wpAny (model prog w) A (call (.builtin "str.replace") [.str x t, .str y u, .str z v]) Q E s := by
  have e : (2 : Nat) ^ 24 = 16777216 := by decide
  have h1 : (x.length + 1) * z.length ≤ (x.length + 1) * 14 := Nat.mul_le_mul_left _ hz
  have hb : x.length + (x.length + 1) * z.length ≤ 16777216 := by omega
  have hl : tooLong (x.length + (occurrences x y 0 x.length (x.length + 1)).length * z.length) = false := by
    have h1 := StrLaws.occ_length_le x y 0 x.length (x.length + 1)
    have h2 : (occurrences x y 0 x.length (x.length + 1)).length * z.length ≤ (x.length + 1) * z.length := Nat.mul_le_mul_right _ h1
    unfold tooLong sizeLine
    exact decide_eq_false (by omega)
  refine call_gives F.slot_str_replace (typeIs_str _ _ _) F.entry_str_replace (F.args_str_replace_3 _ _ _)
    (gives_str_replace x y z t u v fun _ => ⟨by simp [hu, hv], by simp [huv], hyz, hl⟩) ?_
  have hq' := hq
  unfold Txt.replace at hq'
  cases hc : ((occurrences x y 0 x.length (x.length + 1)).isEmpty || (y.length == 0 && z.length == 0))
  · rw [hc] at hq'
    simp only [Bool.false_eq_true, if_false] at hq' ⊢
    exact ⟨fits_replaced y hb, hq' _ _ (Nat.le_succ _)⟩
  · rw [hc] at hq'
    simp only [if_true] at hq' ⊢
    exact hq' t s.toks (Nat.le_refl _)
end
end
section
-- text R2
section
open Builtin Builtin.Str
/-- every sign c turned into z -/
noncomputable def rpl (c : Nat) (z : List Nat) (d : Nat) : List Nat := if d = c then z else [d]
theorem rpl_free (c : Nat) (z : List Nat) : ∀ l : List Nat, c ∉ l → l.flatMap (rpl c z) = l
  | [], _ => rfl
  | k :: r, h => by
    have h1 : ¬ k = c := fun e => h (e ▸ List.mem_cons_self ..)
    rw [List.flatMap_cons, rpl_free c z r fun m => h (List.mem_cons_of_mem _ m)]
    unfold rpl
    rw [if_neg h1]; rfl
theorem rpl_join (c : Nat) (z : Str) : ∀ parts : List Str, (∀ p ∈ parts, c ∉ p.cps.toList) → (Str.join ⟨#[c]⟩ parts).cps.toList.flatMap (rpl c z.cps.toList) = (Str.join z parts).cps.toList
  | [], _ => rfl
  | [p], h => rpl_free c _ _ (h p (List.mem_singleton.mpr rfl))
  | p :: q :: r, h => by
    have ih := rpl_join c z (q :: r) fun a ha => h a (List.mem_cons_of_mem _ ha)
    show (p ++ ⟨#[c]⟩ ++ Str.join ⟨#[c]⟩ (q :: r)).cps.toList.flatMap _ = (p ++ z ++ Str.join z (q :: r)).cps.toList
    simp only [Str.cps_append, Array.toList_append, List.flatMap_append]
    rw [ih, rpl_free c _ _ (h p (List.mem_cons_self ..))]
    have e : ([c] : List Nat).flatMap (rpl c z.cps.toList) = z.cps.toList := by simp [rpl]
    show p.cps.toList ++ ([c] : List Nat).flatMap _ ++ _ = _
    rw [e]
theorem rep_flat (x z : Str) (c : Nat) : (Txt.replace x ⟨#[c]⟩ z).cps.toList = x.cps.toList.flatMap (rpl c z.cps.toList) := by
  rw [StrLaws.replace_one, ← rpl_join c z _ (StrLaws.split_free x c), StrLaws.join_split]
end
end
section
-- text De
section
theorem denc_two (l : List Nat) : (l.flatMap (rpl 92 [92, 92])).flatMap (rpl 34 [92, 34]) = l.flatMap denc := by
  rw [List.flatMap_assoc]
  congr 1
  funext d
  unfold rpl denc
  by_cases h : d = 92
  · subst h; decide
  · rw [if_neg h]
    by_cases h2 : d = 34
    · subst h2; decide
    · simp [h, h2]
theorem len_flat {f : Nat → List Nat} {k : Nat} (hf : ∀ d, (f d).length ≤ k) : ∀ l : List Nat, (l.flatMap f).length ≤ k * l.length
  | [] => by simp
  | a :: l => by
    rw [List.flatMap_cons, List.length_append, List.length_cons, Nat.mul_succ]
    have := len_flat hf l
    have := hf a
    omega
theorem qenc_rpl (l : List Nat) : l.flatMap (rpl 39 [39, 34, 39, 34, 39]) = l.flatMap qenc := rfl
end
end
section
-- text Ob
noncomputable def oV : Option Str → Tok → Value
  | some x, t => .str x t
  | none, _ => .none
section
variable {prog : Program} {w : World} {A : Around} {E : Value → Shared → Prop} {s : Shared} {env : Env}
inductive OrB (Q : Value → Shared → Prop) (u : Value) (s : Shared) : Prop
  | of (v : Option Str) (t : Tok) (h1 : u = oV v t) (h2 : (v.getD "").length ≤ 1000000) (h3 : ∀ t' k, Q (.str (v.getD "") t') { s with toks := k }) : OrB Q u s
theorem OrB.intro {Q : Value → Shared → Prop} {v : Option Str} {t : Tok} (hb : (v.getD "").length ≤ 1000000) (h : ∀ t' k, Q (.str (v.getD "") t') { s with toks := k }) : OrB Q (oV v t) s := ⟨v, t, rfl, hb, h⟩
/-- e or '' -/
theorem or_blank {e : Expr} {k0 : Nat} {p1 p2 : Pos} {Q : Value → Shared → Prop} (h : wpAny (model prog w) A (eval e env) (OrB Q) E s) :
    wpAny (model prog w) A (eval (.BoolOp .Or [e, .Constant (.str (Str.ofString "")) k0 p1] p2) env) Q E s := by
  refine BoolOp_or (wpAny_mono h (fun u s' hu => ?_) fun _ _ e => e)
  refine hid fun hn9_160 => ?_
  obtain ⟨v, t, rfl, hb, hq⟩ := hu
  refine hn9_160 ?_
  clear hn9_160
  cases v with
  | none =>
    refine truthy_none ?_
    rw [if_neg Bool.false_ne_true]
    exact BoolOp_one (wpAny_Constant_str (hq _ _))
  | some x =>
    have hb' : x.length ≤ 1000000 := hb
    refine P.truthy_str (by omega) ?_
    by_cases h0 : x.length = 0
    · have ex : x = Str.ofString "" := Str.ext' (by show x.cps = #[]; exact Array.eq_empty_of_size_eq_zero h0)
      have e1 : ((x.length : Int) != 0) = false := by simp [h0]
      rw [e1, if_neg Bool.false_ne_true]
      refine BoolOp_one (wpAny_Constant_str ?_)
      refine hid fun hn9_161 => ?_
      subst ex <;> (refine hn9_161 ?_; clear hn9_161)
      exact hq _ _
    · have e1 : ((x.length : Int) != 0) = true := bne_iff_ne.mpr (by omega)
      rw [e1, if_pos rfl]
      exact hq _ _
end
theorem allNe {news : List (Addr × Obj)} {X d : Nat} (l : ∀ p ∈ news, p.1 < X) (h : X ≤ d) : ∀ p ∈ news, p.1 ≠ d := fun p hp => Nat.ne_of_lt (Nat.lt_of_lt_of_le (l p hp) h)
theorem allNe2 {news : List (Addr × Obj)} {X d : Nat} (l : AllLt X news) (h : X ≤ d) : ∀ p ∈ news, p.1 ≠ d := by
  induction news with
  | nil => intro p hp; cases hp
  | cons q r ih =>
    intro p hp
    rcases List.mem_cons.mp hp with rfl | hp
    · exact Nat.ne_of_lt (Nat.lt_of_lt_of_le l.1 h)
    · exact ih l.2 p hp
theorem ltAll : ∀ {news : List (Addr × Obj)} {d : Nat}, AllLt d news → ∀ p ∈ news, p.1 < d
  | [], _, _, p, h => nomatch h
  | q :: r, d, l, p, h => by
    rcases List.mem_cons.mp h with rfl | h
    · exact l.1
    · exact ltAll l.2 p h
theorem sub_eq_len (x : Str) : (x == Str.ofString "") = decide (x.length = 0) := by
  rw [Bool.eq_iff_iff, beq_iff_eq, decide_eq_true_iff]
  constructor
  · intro e; subst e; rfl
  · intro e
    refine Str.ext' ?_
    show x.cps = #[]
    exact Array.eq_empty_of_size_eq_zero e
section
theorem take_snoc {l : Array Nat} {k c : Nat} (h : l[k]? = some c) : l.toList.take (k + 1) = l.toList.take k ++ [c] := by
  rw [List.take_add_one, Array.getElem?_toList, h]; rfl
theorem any_yes {α : Type} {l : Array Nat} {k c : Nat} {f : Nat → Bool} {ys : List α} {y : α} (h : l[k]? = some c) (hf : f c = true) : (ys ++ [y]).isEmpty = !(l.toList.take (k + 1)).any f := by
  rw [take_snoc h, List.any_append]
  simp [hf]
theorem any_no {α : Type} {l : Array Nat} {k c : Nat} {f : Nat → Bool} {ys : List α} (h : l[k]? = some c) (hf : f c = false) (e : ys.isEmpty = !(l.toList.take k).any f) : ys.isEmpty = !(l.toList.take (k + 1)).any f := by
  rw [take_snoc h, List.any_append, e]
  simp [hf]
theorem occ_in {y : Str} {c : Nat} {b : Bool} (h : (Builtin.Str.occurrences y { cps := #[c] } 0 y.length 1).isEmpty = b) : y.cps.toList.contains c = !b := by
  have e := StrLaws.found_one y c
  rw [h] at e
  rw [e]
  simp
end
theorem take_snocL {α : Type} {l : List α} {k : Nat} {c : α} (h : l[k]? = some c) : l.take (k + 1) = l.take k ++ [c] := by
  rw [List.take_add_one, h]; rfl
theorem off1Mem {D : Addr} : ∀ {l : List (Addr × Obj)}, PyProof.Rows.LCg.Off1 D l → ∀ p ∈ l, p.1 ≠ D
  | [], _, _, h => nomatch h
  | q :: r, l, p, h => by
    rcases List.mem_cons.mp h with rfl | h
    · exact l.1
    · exact off1Mem l.2 p h
theorem neOfLt {news : List (Addr × Obj)} {d : Nat} (h : ∀ p ∈ news, p.1 < d) : ∀ p ∈ news, p.1 ≠ d := fun p hp => Nat.ne_of_lt (h p hp)
theorem off1_of {D : Addr} : ∀ {l : List (Addr × Obj)}, (∀ p ∈ l, p.1 ≠ D) → PyProof.Rows.LCg.Off1 D l
  | [], _ => trivial
  | q :: r, h => ⟨h q (.head _), off1_of fun p hp => h p (.tail _ hp)⟩
end
section
-- text Cp
section
open PyProof.Rows.LCg PyProof.Rows.LCt
variable {prog : Program} {w : World} {A : Around} {E : Value → Shared → Prop} {s : Shared} {h₀ : Heap} {L : Addr} {m : Str → Option Value} {env : Env}
theorem ne_empty {a b : Addr} {vs : Array Value} {Q : Value → Shared → Prop} (hl : s.heap.IsList a vs) (hl' : s.heap.IsList b #[]) (hu : A.units < cLine) (h : Q (.bool (!vs.isEmpty)) s) :
    wpAny (model prog w) A (compareOp .NotEq (.ref a) (.ref b)) Q E s := by
  by_cases e : vs.size = 0
  · have e' : vs = #[] := Array.eq_empty_of_size_eq_zero e
    subst e'
    exact SeqAt.RcNeAt.lists (e := fun _ => true) hl hl' rfl hu (fun j j1 => absurd j1 (Nat.not_lt_zero _)) prog w E Q h
  · have e' : (!vs.isEmpty) = true := by simpa [Array.isEmpty] using e
    rw [e'] at h
    exact SeqAt.RcNeAt.lists_lengths hl hl' (by simpa using e) hu prog w E Q h
theorem pyIter_str2 {x : Str} {t : Tok} {Q : Value → Shared → Prop}
    (hQ : ∀ (o : Obj) (St : Nat → Heap → Prop), (∀ A' : Around, A'.handled = none → Walks prog w A' s.heap.objs.size [s.heap.objs.size] [s.heap.objs.size] x.cps.size (SignAt x) St) →
      (∀ i h, St i h → ∃ o, h.get? s.heap.objs.size = some o) → St 0 (s.heap.push o) →
      Q (.ref s.heap.objs.size) { s with heap := s.heap.push o }) : wpAny (model prog w) A (pyIter (.str x t)) Q E s := by
  cases ha : x.cps.all (· < 128)
  · exact wpAny_pyIter_wide ha (hQ _ _ (fun A' hA => Walks.strWide hA _ x t) (fun i h st => let ⟨o, ho, _⟩ := st; ⟨o, ho⟩) ⟨_, Heap.get?_push_size _ rfl, rfl, rfl⟩)
  · exact wpAny_pyIter_ascii ha (hQ _ _ (fun A' hA => Walks.strAscii hA _ x t) (fun i h st => let ⟨o, ho, _⟩ := st; ⟨o, ho⟩) ⟨_, Heap.get?_push_size _ rfl, rfl, rfl⟩)
inductive StrSrcT (prog : Program) (w : World) (A : Around) (h₀ : Heap) (L : Addr) (m : Str → Option Value) (env : Env) (ct elt : Expr) (x : Str) (scope : Scope) (cl : List (Str × Addr)) (Fin : Shared → List Value → List (Addr × Obj) → Prop) (xv : Value) (s₁ : Shared) : Prop
  | of (tx : Str) (t : Tok) (news : List (Addr × Obj)) (h1 : xv = .str tx t) (h2 : A.handled = none) (h3 : Fr h₀ L s₁.heap m) (h4 : News h₀ L s₁.heap news) (h5 : tx.cps.size ≤ sizeLine)
    (h6 : ∀ g, CompRestT prog w A h₀ L m env ct elt x scope cl { s₁ with heap := g } (fun _ => True) (SignAt tx) (Fin { s₁ with heap := g }) tx.cps.size 0 [] news) : StrSrcT prog w A h₀ L m env ct elt x scope cl Fin xv s₁
theorem StrSrcT.intro {ct elt : Expr} {x : Str} {scope : Scope} {cl : List (Str × Addr)} {Fin : Shared → List Value → List (Addr × Obj) → Prop} {tx : Str} {t : Tok} {news : List (Addr × Obj)} {s₁ : Shared}
    (hh : A.handled = none) (F : Fr h₀ L s₁.heap m) (N : News h₀ L s₁.heap news) (hsz : tx.cps.size ≤ sizeLine)
    (h : ∀ g, CompRestT prog w A h₀ L m env ct elt x scope cl { s₁ with heap := g } (fun _ => True) (SignAt tx) (Fin { s₁ with heap := g }) tx.cps.size 0 [] news) :
    StrSrcT prog w A h₀ L m env ct elt x scope cl Fin (.str tx t) s₁ := ⟨tx, t, news, rfl, hh, F, N, hsz, h⟩
/-- a comprehension with one test over a text -/
theorem ListComp_Ts {ct elt iter : Expr} {x : Str} {px : Pos} {scope : Scope} {cl : List (Str × Addr)} {pos : Pos} {Q : Value → Shared → Prop} (F₀ : Fr h₀ L s.heap m)
    (hclos : closureFor scope env = pure cl) (hcell : ∀ y ∈ scope.names, y.2 ≠ .cell) (hkind : scope.kind = .function)
    (hnames : ∀ y ∈ scope.names, y.2 = .local → scope.names.lookup y.1 = some .local) (hx : scope.names.lookup x = some .local)
    (h : wpAny (model prog w) A (eval iter env) (StrSrcT prog w A h₀ L m env ct elt x scope cl (fun s₂ => FinE h₀ L m s₂ Q)) E s)
    (hs : ∀ x, foldedSetIterable iter env x = pure x := by intro _; rfl) :
    wpAny (model prog w) A (eval (.ListComp elt [⟨.Name x px, iter, [ct], 0⟩] scope pos) env) Q E s := by
  rw [eval_ListComp]
  refine wpAny_comprehension_free (use := none) rfl hs hclos hkind hnames (wpAny_mono h (fun xv s₁ h₁ => ?_) fun _ _ e => e)
  refine hid fun hn9_162 => ?_
  obtain ⟨tx, t, news, rfl, hh, F, N, hsz, R⟩ := h₁
  refine hn9_162 ?_
  clear hn9_162
  refine pyIter_str2 fun o St hW hlive hst => ?_
  have W := hW A hh
  refine block_T W hsz hlive (fun i h h' o nw st e e' _ _ _ => ?_) hcell hkind hx hst (fun b hb => ?_)
    (F.keeps fun _ _ e => Heap.get?_push_of_some _ e) (N.grown fun _ _ e => Heap.get?_push_of_some _ e) (Nat.ne_of_lt F.ns.lt) (next_is_new F) (fun p hp => Nat.ne_of_lt (Heap.lt_size (N p hp).1)) trivial (R _) ?_
  · exact W.frame _ _ _ st fun b hb o2 e2 => by
      rw [List.mem_singleton.mp hb] at e2 ⊢
      rw [e'] ; rw [e] at e2; exact e2
  · rw [List.mem_singleton.mp hb]
    show s₁.heap.objs.size < (s₁.heap.push _).objs.size
    rw [Heap.size_push]; exact Nat.lt_succ_self _
  · intro D C h' tk m' ys news' F' N' o1 hn hC₀ hD₀ hCL hDL hCD offC fin
    refine ⟨m', hn, fun h'' hs'' => fin D h'' tk (F'.change hs'' hCL hC₀) (fun p hp => ?_) o1⟩
    refine ⟨hs''.extBut _ _ ?_ (N' p hp).1, (N' p hp).2⟩
    rcases List.mem_cons.mp hp with rfl | hp
    · exact Ne.symm hCD
    · exact offC p hp
inductive StrSrcU (prog : Program) (w : World) (A : Around) (h₀ : Heap) (L : Addr) (m : Str → Option Value) (env : Env) (elt : Expr) (x : Str) (scope : Scope) (cl : List (Str × Addr)) (Fin : Shared → List Value → List (Addr × Obj) → Prop) (xv : Value) (s₁ : Shared) : Prop
  | of (tx : Str) (t : Tok) (news : List (Addr × Obj)) (h1 : xv = .str tx t) (h2 : A.handled = none) (h3 : Fr h₀ L s₁.heap m) (h4 : News h₀ L s₁.heap news) (h5 : tx.cps.size ≤ sizeLine)
    (h6 : ∀ g, CompRest prog w A h₀ L m env elt x scope cl { s₁ with heap := g } (fun _ => True) (SignAt tx) (Fin { s₁ with heap := g }) tx.cps.size 0 [] news) : StrSrcU prog w A h₀ L m env elt x scope cl Fin xv s₁
theorem StrSrcU.intro {elt : Expr} {x : Str} {scope : Scope} {cl : List (Str × Addr)} {Fin : Shared → List Value → List (Addr × Obj) → Prop} {tx : Str} {t : Tok} {news : List (Addr × Obj)} {s₁ : Shared}
    (hh : A.handled = none) (F : Fr h₀ L s₁.heap m) (N : News h₀ L s₁.heap news) (hsz : tx.cps.size ≤ sizeLine)
    (h : ∀ g, CompRest prog w A h₀ L m env elt x scope cl { s₁ with heap := g } (fun _ => True) (SignAt tx) (Fin { s₁ with heap := g }) tx.cps.size 0 [] news) :
    StrSrcU prog w A h₀ L m env elt x scope cl Fin (.str tx t) s₁ := ⟨tx, t, news, rfl, hh, F, N, hsz, h⟩
/-- a comprehension over a text -/
theorem ListComp_Us {elt iter : Expr} {x : Str} {px : Pos} {scope : Scope} {cl : List (Str × Addr)} {pos : Pos} {Q : Value → Shared → Prop} (F₀ : Fr h₀ L s.heap m)
    (hclos : closureFor scope env = pure cl) (hcell : ∀ y ∈ scope.names, y.2 ≠ .cell) (hkind : scope.kind = .function)
    (hnames : ∀ y ∈ scope.names, y.2 = .local → scope.names.lookup y.1 = some .local) (hx : scope.names.lookup x = some .local)
    (h : wpAny (model prog w) A (eval iter env) (StrSrcU prog w A h₀ L m env elt x scope cl (fun s₂ => FinE h₀ L m s₂ Q)) E s)
    (hs : ∀ x, foldedSetIterable iter env x = pure x := by intro _; rfl) :
    wpAny (model prog w) A (eval (.ListComp elt [⟨.Name x px, iter, [], 0⟩] scope pos) env) Q E s := by
  rw [eval_ListComp]
  refine wpAny_comprehension_free (use := none) rfl hs hclos hkind hnames (wpAny_mono h (fun xv s₁ h₁ => ?_) fun _ _ e => e)
  refine hid fun hn9_163 => ?_
  obtain ⟨tx, t, news, rfl, hh, F, N, hsz, R⟩ := h₁
  refine hn9_163 ?_
  clear hn9_163
  refine pyIter_str2 fun o St hW hlive hst => ?_
  have W := hW A hh
  refine block_U W hsz hlive (fun i h h' o nw st e e' _ _ _ => ?_) hcell hkind hx hst (fun b hb => ?_)
    (F.keeps fun _ _ e => Heap.get?_push_of_some _ e) (N.grown fun _ _ e => Heap.get?_push_of_some _ e) (Nat.ne_of_lt F.ns.lt) (next_is_new F) (fun p hp => Nat.ne_of_lt (Heap.lt_size (N p hp).1)) trivial (R _) ?_
  · exact W.frame _ _ _ st fun b hb o2 e2 => by
      rw [List.mem_singleton.mp hb] at e2 ⊢
      rw [e'] ; rw [e] at e2; exact e2
  · rw [List.mem_singleton.mp hb]
    show s₁.heap.objs.size < (s₁.heap.push _).objs.size
    rw [Heap.size_push]; exact Nat.lt_succ_self _
  · intro D C h' tk m' ys news' F' N' o1 hn hC₀ hD₀ hCL hDL hCD offC fin
    refine ⟨m', hn, fun h'' hs'' => fin D h'' tk (F'.change hs'' hCL hC₀) (fun p hp => ?_) o1⟩
    refine ⟨hs''.extBut _ _ ?_ (N' p hp).1, (N' p hp).2⟩
    rcases List.mem_cons.mp hp with rfl | hp
    · exact Ne.symm hCD
    · exact offC p hp
/-- the turns of a comprehension by what holds of the items made so far and of the ledger -/
theorem restT_J {ct elt : Expr} {x : Str} {scope : Scope} {cl : List (Str × Addr)} {S : List (Addr × Obj) → Prop} {P : Nat → Value → Prop} {Fin : List Value → List (Addr × Obj) → Prop} (J : Nat → List Value → List (Addr × Obj) → Prop) {n : Nat}
    (turn : ∀ k ys nw v I oI C oC D m₂ h tk (E' : Value → Shared → Prop), k < n → J k ys nw → P k v → NsObj oC m₂ → m₂ x = some v → Fr h₀ L h m → News h₀ L h ((I, oI) :: (C, oC) :: (D, lst ys) :: nw) → Off3 I C D nw → ((@Ne Nat I C) ∧ (@Ne Nat I D) ∧ (@Ne Nat C D)) →
      wpAny (model prog w) A (isTrue ct (compEnvC scope cl C env) (eval ct (compEnvC scope cl C env))) (fun ok s' => if ok = true then
        wpAny (model prog w) A (eval elt (compEnvC scope cl C env)) (CompEnd h₀ L m { s with heap := h, toks := tk } I oI C oC D (lst ys) S (fun y nw' => J (k + 1) (ys ++ [y]) nw')) E' s'
        else CompEnd h₀ L m { s with heap := h, toks := tk } I oI C oC D (lst ys) S (fun _ nw' => J (k + 1) ys nw') Value.none s') E' { s with heap := h, toks := tk })
    (fin : ∀ ys nw, J n ys nw → Fin ys nw) : ∀ (k i : Nat) (ys : List Value) (nw : List (Addr × Obj)), i + k = n → J i ys nw → CompRestT prog w A h₀ L m env ct elt x scope cl s S P Fin k i ys nw
  | 0, i, ys, nw, e, hj => CompRestT.zero (fin _ _ (by rw [← e]; exact hj))
  | k + 1, i, ys, nw, e, hj => CompRestT.succ fun v I oI C oC D m₂ h tk E' hP hC hx F N off ne => by
    refine wpAny_mono (turn i ys nw v I oI C oC D m₂ h tk E' (by omega) hj hP hC hx F N off ne) (fun ok s' hk => ?_) fun _ _ e => e
    by_cases hok : ok = true
    · rw [if_pos hok] at hk ⊢
      refine wpAny_mono hk (fun y s2 h2 => ?_) fun _ _ e => e
      refine hid fun hn9_164 => ?_
      obtain ⟨h', tk', nw', e1, F', N', o', S', r⟩ := h2
      refine hn9_164 ?_
      clear hn9_164
      exact ⟨h', tk', nw', e1, F', N', o', S', restT_J J turn fin k (i + 1) _ _ (by omega) r⟩
    · rw [if_neg hok] at hk ⊢
      refine hid fun hn9_165 => ?_
      obtain ⟨h', tk', nw', e1, F', N', o', S', r⟩ := hk
      refine hn9_165 ?_
      clear hn9_165
      exact ⟨h', tk', nw', e1, F', N', o', S', restT_J J turn fin k (i + 1) _ _ (by omega) r⟩
theorem restU_J {elt : Expr} {x : Str} {scope : Scope} {cl : List (Str × Addr)} {S : List (Addr × Obj) → Prop} {P : Nat → Value → Prop} {Fin : List Value → List (Addr × Obj) → Prop} (J : Nat → List Value → List (Addr × Obj) → Prop) {n : Nat}
    (turn : ∀ k ys nw v I oI C oC D m₂ h tk (E' : Value → Shared → Prop), k < n → J k ys nw → P k v → NsObj oC m₂ → m₂ x = some v → Fr h₀ L h m → News h₀ L h ((I, oI) :: (C, oC) :: (D, lst ys) :: nw) → Off3 I C D nw → ((@Ne Nat I C) ∧ (@Ne Nat I D) ∧ (@Ne Nat C D)) →
      wpAny (model prog w) A (eval elt (compEnvC scope cl C env)) (CompEnd h₀ L m { s with heap := h, toks := tk } I oI C oC D (lst ys) S (fun y nw' => J (k + 1) (ys ++ [y]) nw')) E' { s with heap := h, toks := tk })
    (fin : ∀ ys nw, J n ys nw → Fin ys nw) : ∀ (k i : Nat) (ys : List Value) (nw : List (Addr × Obj)), i + k = n → J i ys nw → CompRest prog w A h₀ L m env elt x scope cl s S P Fin k i ys nw
  | 0, i, ys, nw, e, hj => CompRest.zero (fin _ _ (by rw [← e]; exact hj))
  | k + 1, i, ys, nw, e, hj => CompRest.succ fun v I oI C oC D m₂ h tk E' hP hC hx F N off ne => by
    refine wpAny_mono (turn i ys nw v I oI C oC D m₂ h tk E' (by omega) hj hP hC hx F N off ne) (fun y s2 h2 => ?_) fun _ _ e => e
    refine hid fun hn9_166 => ?_
    obtain ⟨h', tk', nw', e1, F', N', o', S', r⟩ := h2
    refine hn9_166 ?_
    clear hn9_166
    exact ⟨h', tk', nw', e1, F', N', o', S', restU_J J turn fin k (i + 1) _ _ (by omega) r⟩
end
end
section
-- text Lp
section
variable {prog : Program} {w : World} {A : Around} {E : Value → Shared → Prop} {s : Shared} {env : Env} {h₀ : Heap} {x : Str} {body : List Stmt} {Q : Flow → Shared → Prop}
/-- a turn's end: the ledger may have grown -/
noncomputable def PostG (h₀ : Heap) (L : Addr) (I : Addr) (oI : Obj) (J : (Str → Option Value) → List (Addr × Obj) → Prop) (s₁ : Shared) (Q : Flow → Shared → Prop) (f : Flow) (s₂ : Shared) : Prop :=
  match f with
  | .ret v => Q (.ret v) s₂
  | .brk => Q .next s₂
  | _ => ∃ h' tk m' nw, s₂ = { s₁ with heap := h', toks := tk } ∧ Fr h₀ L h' m' ∧ News h₀ L h' ((I, oI) :: nw) ∧ (∀ p ∈ nw, p.1 ≠ I) ∧ J m' nw
theorem PostG.intro {L I : Addr} {oI : Obj} {J : (Str → Option Value) → List (Addr × Obj) → Prop} {s₁ : Shared} {h' : Heap} {tk : Nat} {m' : Str → Option Value} {nw : List (Addr × Obj)}
    (F : Fr h₀ L h' m') (N : News h₀ L h' ((I, oI) :: nw)) (off : ∀ p ∈ nw, p.1 ≠ I) (hj : J m' nw) : PostG h₀ L I oI J s₁ Q .next { s₁ with heap := h', toks := tk } := ⟨h', tk, m', nw, rfl, F, N, off, hj⟩
theorem loop_G {I : Addr} {fp : List Addr} {n : Nat} {P : Nat → Value → Prop} {St : Nat → Heap → Prop} {m₀ : Str → Option Value} {news : List (Addr × Obj)} (J : Nat → (Str → Option Value) → List (Addr × Obj) → Prop)
    (W : Walks prog w A I fp [I] n P St) (hlive : ∀ i h, St i h → ∃ o, h.get? I = some o) (hLf : env.locals ∉ fp) (hI0 : h₀.get? I = none) (hnw : ∀ p ∈ news, p.1 ≠ I)
    (hkeep : ∀ i m nw, J i m nw → ∀ b ∈ fp, b ≠ I → ∃ o, (h₀.get? b = some o ∨ ((b, o) ∈ nw ∧ ∀ j m' nw', J j m' nw' → (b, o) ∈ nw')))
    (hst : St 0 s.heap) (F : Fr h₀ env.locals s.heap m₀) (N : News h₀ env.locals s.heap news) (hj : J 0 m₀ news)
    (turn : ∀ i v m₁ nw h tk oI, i < n → P i v → J i m₁ nw → (∀ p ∈ nw, p.1 ≠ I) → Fr h₀ env.locals h (fun y => if y = x then some v else m₁ y) → News h₀ env.locals h ((I, oI) :: nw) →
      wpAny (model prog w) A (execs body env) (PostG h₀ env.locals I oI (J (i + 1)) { s with heap := h, toks := tk } Q) E { s with heap := h, toks := tk })
    (done : ∀ m₁ nw h tk, J n m₁ nw → Fr h₀ env.locals h m₁ → News h₀ env.locals h nw → Q .next { s with heap := h, toks := tk }) :
    LoopAtV prog w A h₀ env x body Q E (.ref I) s := by
  refine ⟨I, fp, [I], n, P, St, m₀, news, J, rfl, W, hLf, fun b hb => ?_, fun p hp hI => hnw p hp (List.mem_singleton.mp hI), hst, F, N, hj, ?_, ?_⟩
  · rw [List.mem_singleton.mp hb]; exact hI0
  · rintro i v m₁ nw s₁ own r9_167_6 hin hP hJ hoff hown hget hall hst' F₁ N₁
    refine hid fun hn9_167 => ?_
    obtain ⟨hh', tk', rfl⟩ := r9_167_6
    refine hn9_167 ?_
    clear hn9_167
    refine hid fun hn9_168 => ?_
    obtain ⟨oI, hoI⟩ := hlive _ _ hst'
    refine hn9_168 ?_
    clear hn9_168
    have hIfp : I ∈ fp := W.sub I (List.mem_singleton.mpr rfl)
    have hIown : (I, oI) ∈ own := hall I hIfp hI0 oI hoI
    have off' : ∀ p ∈ nw, p.1 ≠ I := fun p hp e => hoff p hp (List.mem_singleton.mpr e)
    have N₂ : News h₀ env.locals hh' ((I, oI) :: nw) := fun p hp => by
      rcases List.mem_cons.mp hp with rfl | hp
      · exact N₁ _ (List.mem_append_left _ hIown)
      · exact N₁ _ (List.mem_append_right _ hp)
    refine wpAny_mono (turn i v m₁ nw hh' tk' oI hin hP hJ off' F₁ N₂) (fun f s₂ p => ?_) fun _ _ e => e
    have fin : (∃ h' tk m' nw', s₂ = { s with heap := h', toks := tk } ∧ Fr h₀ env.locals h' m' ∧ News h₀ env.locals h' ((I, oI) :: nw') ∧ (∀ p ∈ nw', p.1 ≠ I) ∧ J (i + 1) m' nw') → LoopStepU h₀ env.locals [I] own (J (i + 1)) { s with heap := hh', toks := tk' } .next s₂ := by
      rintro r9_169_0
      refine hid fun hn9_169 => ?_
      obtain ⟨h', tk, m', nw', e, F', N', o', hm⟩ := r9_169_0
      refine hn9_169 ?_
      clear hn9_169
      refine ⟨rfl, h', tk, m', nw', e, F', fun p hp => ?_, fun p hp hq => o' p hp (List.mem_singleton.mp hq), hm⟩
      rcases List.mem_append.mp hp with hp | hp
      · by_cases e1 : p.1 = I
        · have : p = (I, oI) := by
            refine hid fun hn9_170 => ?_
            obtain ⟨pa, po⟩ := p
            refine hn9_170 ?_
            clear hn9_170
            dsimp only at e1
            refine hid fun hn9_171 => ?_
            subst e1 <;> (refine hn9_171 ?_; clear hn9_171)
            have := hget _ hp
            dsimp only at this
            rw [hoI] at this
            rw [Option.some.inj this]
          rw [this]
          exact N' _ (.head _)
        · refine hid fun hn9_172 => ?_
          obtain ⟨o, ho⟩ := hkeep _ _ _ hJ p.1 (hown p hp) e1
          refine hn9_172 ?_
          clear hn9_172
          have hp2 := N₁ p (List.mem_append_left _ hp)
          rcases ho with ho | ⟨ho, hno⟩
          · rw [hp2.2.2] at ho; cases ho
          · have h1 := (N₁ _ (List.mem_append_right _ ho)).1
            have e2 : p = (p.1, o) := by
              refine hid fun hn9_173 => ?_
              obtain ⟨pa, po⟩ := p
              refine hn9_173 ?_
              clear hn9_173
              have h2 := hp2.1
              dsimp only at h1 h2
              rw [h1] at h2
              rw [Option.some.inj h2]
            rw [e2]
            exact N' _ (.tail _ (hno _ _ _ hm))
      · exact N' _ (.tail _ hp)
    cases f with
    | ret v => exact .ret p
    | brk => exact .brk p
    | next => exact .next (fin p)
    | cont => exact .cont (fin p)
  · rintro h' tk m' nw' F' N' _ hJ
    exact done m' nw' h' tk hJ F' N'
theorem iter_ledG {l : Addr} {vs : List Value} {nn : Nat} {m₀ : Str → Option Value} {news : List (Addr × Obj)} (J : Nat → (Str → Option Value) → List (Addr × Obj) → Prop)
    (hh : A.handled = none) (hl : ∀ i m nw, J i m nw → (l, W.listOf vs.toArray nn) ∈ nw) (F : Fr h₀ env.locals s.heap m₀) (N : News h₀ env.locals s.heap news) (hj : J 0 m₀ news)
    (turn : ∀ i v m₁ nw h tk (I : Nat) oI, vs[i]? = some v → J i m₁ nw → (∀ p ∈ nw, p.1 ≠ I) → Fr h₀ env.locals h (fun y => if y = x then some v else m₁ y) → News h₀ env.locals h ((I, oI) :: nw) →
      wpAny (model prog w) A (execs body env) (PostG h₀ env.locals I oI (J (i + 1)) { s with heap := h, toks := tk } Q) E { s with heap := h, toks := tk })
    (done : ∀ m₁ nw h tk, J vs.length m₁ nw → Fr h₀ env.locals h m₁ → News h₀ env.locals h nw → Q .next { s with heap := h, toks := tk }) :
    wpAny (model prog w) A (pyIter (.ref l)) (fun it s₂ => LoopAtV prog w A h₀ env x body Q E it s₂) E s := by
  have hm := hl _ _ _ hj
  have hls : s.heap.IsList l vs.toArray := News.isList N hm
  have hlt : l < s.heap.objs.size := Heap.lt_size (N _ hm).1
  have hne : l ≠ s.heap.objs.size := Nat.ne_of_lt hlt
  refine wpAny_pyIter_list hls ?_
  have W := Walks.list (prog := prog) (w := w) hh s.heap.objs.size l hne vs.toArray
  have hlen : vs.toArray.size = vs.length := by simp
  rw [hlen] at W
  refine loop_G J W (fun i h st => by obtain ⟨o, e, _⟩ := st.1; exact ⟨o, e⟩) ?_ (next_is_new F) (fun p hp => Nat.ne_of_lt (Heap.lt_size (N p hp).1)) (fun i m nw hJ b hb hbI => ?_)
    ⟨⟨_, Heap.get?_push_size _ rfl, rfl, rfl⟩, hls.at fun o e => Heap.get?_push_of_some _ e⟩ (F.push _) (fun p hp => ⟨Heap.get?_push_of_some _ (N p hp).1, (N p hp).2⟩) hj ?_ (fun m₁ nw h tk hJ F' N' => done m₁ nw h tk hJ F' N')
  · intro hm2
    rcases List.mem_cons.mp hm2 with e | hm2
    · exact absurd F.ns.lt (e ▸ Nat.lt_irrefl _)
    · exact (N _ hm).2.1 (List.mem_singleton.mp hm2).symm
  · rcases List.mem_cons.mp hb with e | hb
    · exact absurd e hbI
    · rw [List.mem_singleton.mp hb]
      exact ⟨_, .inr ⟨hl _ _ _ hJ, fun j m' nw' hJ' => hl _ _ _ hJ'⟩⟩
  · intro i v m₁ nw h tk oI hin hP hJ off F₁ N₁
    exact turn i v m₁ nw h tk _ oI (by simpa using hP) hJ off F₁ N₁
theorem iter_rngG {r : Addr} {a₀ b₀ : Int} {t₀ u₀ v₀ : Tok} {n : Nat} {m₀ : Str → Option Value} {news : List (Addr × Obj)} (J : Nat → (Str → Option Value) → List (Addr × Obj) → Prop)
    (hh : A.handled = none) (hr : IsRange s.heap r a₀ b₀ 1 t₀ u₀ v₀) (hsmall : Builtin.Range.small a₀ b₀ 1 = true) (hn : Builtin.Range.rangeSize a₀ b₀ 1 = (n : Int)) (F : Fr h₀ env.locals s.heap m₀) (N : News h₀ env.locals s.heap news) (hj : J 0 m₀ news)
    (turn : ∀ (i : Nat) t m₁ nw h tk (I : Nat) oI, i < n → J i m₁ nw → (∀ p ∈ nw, p.1 ≠ I) → Fr h₀ env.locals h (fun y => if y = x then some (.int (a₀ + (i : Int)) t) else m₁ y) → News h₀ env.locals h ((I, oI) :: nw) →
      wpAny (model prog w) A (execs body env) (PostG h₀ env.locals I oI (J (i + 1)) { s with heap := h, toks := tk } Q) E { s with heap := h, toks := tk })
    (done : ∀ m₁ nw h tk, J n m₁ nw → Fr h₀ env.locals h m₁ → News h₀ env.locals h nw → Q .next { s with heap := h, toks := tk }) :
    wpAny (model prog w) A (pyIter (.ref r)) (fun it s₂ => LoopAtV prog w A h₀ env x body Q E it s₂) E s := by
  refine wpAny_pyIter_range hr hsmall ?_
  have W := PyProof.Rows.LCg.range_walks (prog := prog) (w := w) (I := s.heap.objs.size) hh a₀ n
  refine loop_G J W (fun i h st => ⟨_, st⟩) ?_ (next_is_new F) (fun p hp => Nat.ne_of_lt (Heap.lt_size (N p hp).1)) (fun i m nw hJ b hb hbI => ?_)
    (by show IsRangeIter _ _ _ _ _; rw [hn]; simpa using Heap.get?_push_size _ rfl) (F.push _) (fun p hp => ⟨Heap.get?_push_of_some _ (N p hp).1, (N p hp).2⟩) hj ?_ (fun m₁ nw h tk hJ F' N' => done m₁ nw h tk hJ F' N')
  · intro hm2
    exact absurd F.ns.lt ((List.mem_singleton.mp hm2) ▸ Nat.lt_irrefl _)
  · exact absurd (List.mem_singleton.mp hb) hbI
  · rintro i v m₁ nw h tk oI hin r9_174_8 hJ off F₁ N₁
    refine hid fun hn9_174 => ?_
    obtain ⟨t, rfl⟩ := r9_174_8
    refine hn9_174 ?_
    clear hn9_174
    exact turn i t m₁ nw h tk _ oI hin hJ off F₁ N₁
end
/-- names that keep their values; the rest is left open -/
noncomputable def fx : List (Str × Value) → (Str → Option Value) → Str → Option Value
  | [], u, y => u y
  | (a, v) :: r, u, y => if y = a then some v else fx r u y
theorem fx_self : ∀ (ps : List (Str × Value)) (f : Str → Option Value), (∀ p ∈ ps, f p.1 = some p.2) → f = fx ps f
  | [], f, _ => rfl
  | (a, v) :: r, f, h => by
    funext y
    show f y = if y = a then some v else fx r f y
    by_cases e : y = a
    · subst e; rw [if_pos rfl]; exact h _ (.head _)
    · rw [if_neg e, ← fx_self r f fun p hp => h p (.tail _ hp)]
theorem addrOf {h₀ h : Heap} {L : Addr} {b : Addr} {o : Obj} {r : List (Addr × Obj)} (N : News h₀ L h ((b, o) :: r)) : ∃ a : Nat, a = b := ⟨_, rfl⟩
theorem addrOf2 {h₀ h : Heap} {L : Addr} {q : Addr × Obj} {b : Addr} {o : Obj} {r : List (Addr × Obj)} (N : News h₀ L h (q :: (b, o) :: r)) : ∃ a : Nat, a = b := ⟨_, rfl⟩
section
variable {M : Model} {A : Around} {E : Value → Shared → Prop} {s : Shared} {env : Env}
noncomputable def IfJ (R : Shared → Prop) (f : Flow) (s : Shared) : Prop := f = .next ∧ R s
theorem if_join {x : Stmt} {Q : Flow → Shared → Prop} {R : Shared → Prop} (h : wpAny M A (exec x env) (IfJ R) E s) (k : ∀ s', R s' → Q .next s') : wpAny M A (exec x env) Q E s :=
  wpAny_mono h (fun f s' hj => by obtain ⟨rfl, hr⟩ := hj; exact k s' hr) fun _ _ e => e
end
theorem namesOf {h₀ h : Heap} {L : Addr} {l : List (Addr × Obj)} (N : News h₀ L h l) : ∃ (g : Heap) (a : Addr), g = h₀ ∧ a = L := ⟨_, _, rfl, rfl⟩
theorem fr_fx {h₀ h : Heap} {L : Addr} {f : Str → Option Value} {ps : List (Str × Value)} (F : Fr h₀ L h f) (e : ∀ p ∈ ps, f p.1 = some p.2) : Fr h₀ L h (fx ps f) := fx_self ps f e ▸ F
end
section
-- text Fa
local macro_rules | `(tactic| k_all) => `(tactic| ((repeat (with_reducible rename (_ ∧ _) => hh9; cases hh9)); first | exact allNe (by assumption) (Nat.le_refl _) | exact allNe (by assumption) (Nat.le_succ _) | exact allNe2 (by assumption) (Nat.le_refl _) | exact off1Mem (by assumption) | assumption | exact allNe2 (by assumption) (by omega) | exact allNe (by assumption) (by omega)))
section
variable {w : World} {p : Program} {loose : List Str} {mean : ExcName → Option Value} {mg mb : Str → Option Value}
  {dp un : Nat} {gd : Option (List Code)} {cn : Str} {cs : Scope} {a : Addr} {ccd : Value} {cl : List (Str × Addr)} {outer : List Env} {A₀ : Around} {base h₀ : Heap} {L : Addr} {m : Str → Option Value} {s : Shared} {Q E : Value → Shared → Prop}
theorem faulty_spec {news : List (Addr × Obj)} {t1 t2 : Tok} {x y : Str}
  (B : Below A₀ base outer h₀) (F : Fr h₀ L s.heap m) (X : (Mine.mkK.heap_1 w.params).In h₀) (N : News h₀ L s.heap news) (T : Top p loose mean mg mb h₀) (hk : cs.kind = .function)
  (hdp : dp + 5 < recursionLimit) (hun : un + 40 < cLine) (hx : x.length ≤ 1000)
  (h : ∀ h' tk', Fr h₀ L h' m → News h₀ L h' news → Q (.bool (x.cps.toList.any fun c => (c < 32 || c == 127) && !y.cps.toList.contains c)) { s with heap := h', toks := tk' }) :
  wpAny (model PySem.Challenge.rw_in0111_01.row.prog w) (ktrTop dp un gd cn cs L a ccd cl outer) (call (.ref 913) [.str x t1, .str y t2]) Q E s := by
  revert X; k_fill; intro X
  refine wpAny_call ?_
  ((k_dflt (refine' code_defC ?k1q ?k2q ?k3q ?k4q ?k5q ?kAq ?kFq ?kKq ?k6q ?k7q ?k8q ?k9q ?kBq ?kDq ?_ ?c2q ?c3q ?c4q; (case kAq => exact rfl); (case kFq => exact rfl); (case kKq => assumption); (case k1q => k_asm); (case k2q => k_asm); (case k3q => k_asm); (case k4q => k_asm); (case k5q => k_asm); (case k6q => k_is); (case k7q => k_is); (case k8q => ktr_room); (case k9q => first | exact BindsTo.of_eq rfl | exact binds_K (by k_in) rfl (by k_is) rfl rfl rfl); (case kBq => exact rfl); (case kDq => decide +kernel); (case c2q => exact rfl); (case c3q => exact rfl); (case c4q => exact rfl); k_whole; intro gq Lq hq tkq cellsq FGq Fq Nq Yq Bq Xq Tq l1q; (try k_lt l1q); k_cells Yq; (try simp only [List.cons_append, List.nil_append] at Nq); (try dsimp only); (try k_lift Bq); (try k_fold))))
  (repeat' (first | (k_unfold; (try dsimp only)) | (k_end; wrow_close) | ((fail_if_success (with_reducible show wpAny _ _ (eval (Expr.ListComp _ _ _ _) _) _ _ _)); (first | (with_reducible (k_here; first | (refine ite_bt ?hq ?_; (case hq => with_reducible assumption)) | (refine ite_bf ?hq ?_; (case hq => with_reducible assumption)) | (refine ite_in_t ?hq ?_; (case hq => with_reducible assumption)) | (refine ite_in_f ?hq ?_; (case hq => with_reducible assumption)) | (refine ite_bt ?hq ?_; (case hq => decide +kernel)) | (refine ite_bf ?hq ?_; (case hq => decide +kernel)))) | walk1)) | (dsimp only; (fail_if_success (with_reducible show wpAny _ _ (eval (Expr.ListComp _ _ _ _) _) _ _ _)); walk1) | fail "no step"))
  k_dflt (refine ListComp_Ts (F₀ := by k_asm) (by with_unfolding_all rfl) (by decide) (by rfl) (by decide) (by rfl) ?_)
  (repeat' (first | (k_unfold; (try dsimp only)) | (k_end; wrow_close) | (first | (with_reducible (k_here; first | (refine ite_bt ?hq ?_; (case hq => with_reducible assumption)) | (refine ite_bf ?hq ?_; (case hq => with_reducible assumption)) | (refine ite_in_t ?hq ?_; (case hq => with_reducible assumption)) | (refine ite_in_f ?hq ?_; (case hq => with_reducible assumption)) | (refine ite_bt ?hq ?_; (case hq => decide +kernel)) | (refine ite_bf ?hq ?_; (case hq => decide +kernel)))) | walk1) | (dsimp only; walk1) | (leave1; (try dsimp only)) | fail "no step"))
  refine' StrSrcT.intro (by rfl) ?F1 ?N1 ?hz (fun g1 => restT_J (fun k ys nw => nw = _ ∧ ys.isEmpty = !(x.cps.toList.take k).any fun c => (c < 32 || c == 127) && !y.cps.toList.contains c) ?turn ?fin _ 0 [] _ (Nat.zero_add _) ⟨rfl, rfl⟩)
  case F1 => k_asm
  case N1 => k_asm
  case hz => show x.length ≤ _; rw [sizeLine_eq]; omega
  case fin =>
    rintro ys nw r9_175_2 D h5 tk5 F5 N5 o5
    refine hid fun hn9_175 => ?_
    obtain ⟨rfl, hy⟩ := r9_175_2
    refine hn9_175 ?_
    clear hn9_175
    (repeat' (first | (k_unfold; (try dsimp only)) | (k_end; wrow_close) | (first | (with_reducible (k_here; first | (refine ite_bt ?hq ?_; (case hq => with_reducible assumption)) | (refine ite_bf ?hq ?_; (case hq => with_reducible assumption)) | (refine ite_in_t ?hq ?_; (case hq => with_reducible assumption)) | (refine ite_in_f ?hq ?_; (case hq => with_reducible assumption)) | (refine ite_bt ?hq ?_; (case hq => decide +kernel)) | (refine ite_bf ?hq ?_; (case hq => decide +kernel)))) | walk1) | (dsimp only; walk1) | (leave1; (try dsimp only)) | fail "no step"))
    refine' ne_empty (vs := ys.toArray) (News.isList ?N (.tail _ (.head _))) (News.isList ?N (.head _)) ?hu ?_
    case N => k_asm
    case hu => ktr_units
    have e1 : (!ys.toArray.isEmpty) = x.cps.toList.any fun c => (c < 32 || c == 127) && !y.cps.toList.contains c := by
      have e2 : ys.toArray.isEmpty = ys.isEmpty := by cases ys <;> rfl
      rw [e2, hy, ← Array.length_toList, List.take_length, Bool.not_not]
    rw [e1]
    (repeat' (first | (k_unfold; (try dsimp only)) | (k_end; wrow_close) | (first | (with_reducible (k_here; first | (refine ite_bt ?hq ?_; (case hq => with_reducible assumption)) | (refine ite_bf ?hq ?_; (case hq => with_reducible assumption)) | (refine ite_in_t ?hq ?_; (case hq => with_reducible assumption)) | (refine ite_in_f ?hq ?_; (case hq => with_reducible assumption)) | (refine ite_bt ?hq ?_; (case hq => decide +kernel)) | (refine ite_bf ?hq ?_; (case hq => decide +kernel)))) | walk1) | (dsimp only; walk1) | (leave1; (try dsimp only)) | fail "no step"))
    all_goals (refine' h _ _ ?F9 ?N9; (case F9 => k_asm); (case N9 => ((refine' kst_newsOf ?rN1q ?rSq; (case rN1q => k_asm); (case rSq => (intro p9q h9q; repeat (first | exact h9q | refine List.Mem.tail _ ?_)))))))
  case turn =>
    rintro k ys nw v I oI C oC D m₂ h5 tk5 E5 hlt r9_176_14 r9_176_15 hC hx5 F5 N5 off5 ne5
    refine hid fun hn9_176 => ?_
    obtain ⟨rfl, hy⟩ := r9_176_14
    obtain ⟨c, u, hc, rfl⟩ := r9_176_15
    refine hn9_176 ?_
    clear hn9_176
    (repeat' (first | (k_unfold; (try dsimp only)) | (k_end; wrow_close) | (first | (with_reducible (k_here; first | (refine ite_bt ?hq ?_; (case hq => with_reducible assumption)) | (refine ite_bf ?hq ?_; (case hq => with_reducible assumption)) | (refine ite_in_t ?hq ?_; (case hq => with_reducible assumption)) | (refine ite_in_f ?hq ?_; (case hq => with_reducible assumption)) | (refine ite_bt ?hq ?_; (case hq => decide +kernel)) | (refine ite_bf ?hq ?_; (case hq => decide +kernel)))) | walk1) | (dsimp only; walk1) | (leave1; (try dsimp only)) | fail "no step"))
    · refine LCg.CompEnd.intro F5 N5 _ (fun p hp => hp) off5 trivial ⟨rfl, any_yes hc ?_⟩
      have h1 := occ_in (by assumption)
      rw [Bool.and_eq_true]
      refine ⟨?_, by rw [h1]; rfl⟩
      have h2 : c < 32 ∨ c = 127 := by omega
      simpa using h2
    · refine LCg.CompEnd.intro F5 N5 _ (fun p hp => hp) off5 trivial ⟨rfl, any_no hc ?_ hy⟩
      have h1 := occ_in (by assumption)
      rw [h1, Bool.not_false, Bool.not_true, Bool.and_false]
    · refine LCg.CompEnd.intro F5 N5 _ (fun p hp => hp) off5 trivial ⟨rfl, any_yes hc ?_⟩
      have h1 := occ_in (by assumption)
      rw [Bool.and_eq_true]
      refine ⟨?_, by rw [h1]; rfl⟩
      have h2 : c < 32 ∨ c = 127 := by omega
      simpa using h2
    · refine LCg.CompEnd.intro F5 N5 _ (fun p hp => hp) off5 trivial ⟨rfl, any_no hc ?_ hy⟩
      have h1 := occ_in (by assumption)
      rw [h1, Bool.not_false, Bool.not_true, Bool.and_false]
    · refine LCg.CompEnd.intro F5 N5 _ (fun p hp => hp) off5 trivial ⟨rfl, any_no hc ?_ hy⟩
      have h2 : ¬ c < 32 ∧ ¬ c = 127 := by omega
      simp [h2.1, h2.2]
end
end
section
-- text Hd
/-- a parameter as the heap holds it -/
structure PA where
  a : Nat
  k : Str
  v : Option Str
  tk : Tok
  tv : Tok
  n : Nat
/-- a header as the heap holds it -/
structure HA where
  a : Nat
  b : Nat
  k : Str
  v : Option Str
  tk : Tok
  tv : Tok
  n : Nat
  n2 : Nat
  ps : List PA
noncomputable abbrev PA.obj (p : PA) : Obj := W.listOf #[.str p.k p.tk, oV p.v p.tv] p.n
noncomputable abbrev PA.led (p : PA) : Addr × Obj := (p.a, p.obj)
noncomputable def refsOf (ps : List PA) : List Value := ps.map fun p => .ref p.a
noncomputable abbrev HA.obj (h : HA) : Obj := W.listOf #[.str h.k h.tk, oV h.v h.tv, .ref h.b] h.n
noncomputable abbrev HA.obb (h : HA) : Obj := W.listOf (refsOf h.ps).toArray h.n2
noncomputable def HA.led (h : HA) : List (Addr × Obj) := (h.a, h.obj) :: (h.b, h.obb) :: h.ps.map PA.led
noncomputable def ledOf (hs : List HA) : List (Addr × Obj) := hs.flatMap HA.led
noncomputable def badS (tab : Bool) (c : Nat) : Bool := (c < 32 || c == 127) && !(tab && c == 9)
noncomputable def badT (tab : Bool) (x : Str) : Bool := x.cps.toList.any (badS tab)
noncomputable def badO (x : Option Str) : Bool := badT true (x.getD "")
noncomputable def badP (p : PA) : Bool := badT false p.k || badO p.v
noncomputable def badH (h : HA) : Bool := badT false h.k || badO h.v || h.ps.any badP
section
theorem refsOf_get {ps : List PA} {k : Nat} {v : Value} (h : (refsOf ps).toArray[k]? = some v) : ∃ p, ps[k]? = some p ∧ v = .ref p.a := by
  unfold refsOf at h
  simp only [List.getElem?_toArray, List.getElem?_map, Option.map_eq_some_iff] at h
  refine hid fun hn9_177 => ?_
  obtain ⟨p, hp, e⟩ := h
  refine hn9_177 ?_
  clear hn9_177
  exact ⟨p, hp, e.symm⟩
theorem refsOf_len (ps : List PA) : (refsOf ps).toArray.size = ps.length := by simp [refsOf]
theorem HA.mem_ps {h : HA} {p : PA} (hp : p ∈ h.ps) : (p.a, p.obj) ∈ h.led := List.Mem.tail _ (List.Mem.tail _ (List.mem_map.mpr ⟨p, hp, rfl⟩))
theorem badT_none (x : Str) : (x.cps.toList.any fun c => (c < 32 || c == 127) && !(Str.ofString "").cps.toList.contains c) = badT false x := by
  have e : (Str.ofString "").cps.toList = [] := by decide +kernel
  rw [e]; rfl
theorem badT_tab (x : Str) : (x.cps.toList.any fun c => (c < 32 || c == 127) && !(Str.ofString "\t").cps.toList.contains c) = badT true x := by
  have e : (Str.ofString "\t").cps.toList = [9] := by decide +kernel
  rw [e]
  unfold badT
  congr 1
  funext c
  unfold badS
  simp [List.contains_cons]
  rfl
theorem anyL_yes {α β : Type} {l : List β} {k : Nat} {c : β} {f : β → Bool} {ys : List α} {y : α} (h : l[k]? = some c) (hf : f c = true) : (ys ++ [y]).isEmpty = !(l.take (k + 1)).any f := by
  rw [take_snocL h, List.any_append]
  simp [hf]
theorem anyL_no {α β : Type} {l : List β} {k : Nat} {c : β} {f : β → Bool} {ys : List α} (h : l[k]? = some c) (hf : f c = false) (e : ys.isEmpty = !(l.take k).any f) : ys.isEmpty = !(l.take (k + 1)).any f := by
  rw [take_snocL h, List.any_append, e]
  simp [hf]
theorem news_plus {h₀ h : Heap} {L : Addr} {news : List (Addr × Obj)} {p : Addr × Obj} (N : News h₀ L h news) (hm : p ∈ news) : News h₀ L h (p :: news) := fun q hq => by
  rcases List.mem_cons.mp hq with rfl | hq
  · exact N _ hm
  · exact N _ hq
end
section
variable {w : World} {p : Program} {loose : List Str} {mean : ExcName → Option Value} {mg mb : Str → Option Value}
  {dp un : Nat} {gd : Option (List Code)} {cn : Str} {cs : Scope} {a : Addr} {ccd : Value} {cl : List (Str × Addr)} {outer : List Env} {A₀ : Around} {base h₀ : Heap} {L : Addr} {m : Str → Option Value} {s : Shared} {Q E : Value → Shared → Prop}
theorem faulty_none {news : List (Addr × Obj)} {t1 t2 : Tok} {x : Str}
  (B : Below A₀ base outer h₀) (F : Fr h₀ L s.heap m) (X : (Mine.mkK.heap_1 w.params).In h₀) (N : News h₀ L s.heap news) (T : Top p loose mean mg mb h₀) (hk : cs.kind = .function)
  (hdp : dp + 5 < recursionLimit) (hun : un + 40 < cLine) (hx : x.length ≤ 1000)
  (h : ∀ h' tk', Fr h₀ L h' m → News h₀ L h' news → Q (.bool (badT false x)) { s with heap := h', toks := tk' }) :
  wpAny (model PySem.Challenge.rw_in0111_01.row.prog w) (ktrTop dp un gd cn cs L a ccd cl outer) (call (.ref 913) [.str x t1, .str (Str.ofString "") t2]) Q E s := by
  refine faulty_spec B F X N T hk hdp hun hx fun h' tk' F' N' => ?_
  rw [badT_none]; exact h h' tk' F' N'
theorem faulty_tab {news : List (Addr × Obj)} {t1 t2 : Tok} {x : Str}
  (B : Below A₀ base outer h₀) (F : Fr h₀ L s.heap m) (X : (Mine.mkK.heap_1 w.params).In h₀) (N : News h₀ L s.heap news) (T : Top p loose mean mg mb h₀) (hk : cs.kind = .function)
  (hdp : dp + 5 < recursionLimit) (hun : un + 40 < cLine) (hx : x.length ≤ 1000)
  (h : ∀ h' tk', Fr h₀ L h' m → News h₀ L h' news → Q (.bool (badT true x)) { s with heap := h', toks := tk' }) :
  wpAny (model PySem.Challenge.rw_in0111_01.row.prog w) (ktrTop dp un gd cn cs L a ccd cl outer) (call (.ref 913) [.str x t1, .str (Str.ofString "\t") t2]) Q E s := by
  refine faulty_spec B F X N T hk hdp hun hx fun h' tk' F' N' => ?_
  rw [badT_tab]; exact h h' tk' F' N'
end
end
section
-- text Ba
section
variable {w : World} {p : Program} {loose : List Str} {mean : ExcName → Option Value} {mg mb : Str → Option Value}
  {dp un : Nat} {gd : Option (List Code)} {cn : Str} {cs : Scope} {a : Addr} {ccd : Value} {cl : List (Str × Addr)} {outer : List Env} {A₀ : Around} {base h₀ : Heap} {L : Addr} {m : Str → Option Value} {s : Shared} {Q E : Value → Shared → Prop}
theorem bad_spec {news : List (Addr × Obj)} {hd : HA}
  (B : Below A₀ base outer h₀) (F : Fr h₀ L s.heap m) (X : (Mine.mkK.heap_1 w.params).In h₀) (N : News h₀ L s.heap (hd.led ++ news)) (T : Top p loose mean mg mb h₀) (hk : cs.kind = .function)
  (hdp : dp + 10 < recursionLimit) (hun : un + 100 < cLine) (hx : hd.k.length ≤ 1000) (hv : (hd.v.getD "").length ≤ 1000) (hp : ∀ q ∈ hd.ps, q.k.length ≤ 1000 ∧ (q.v.getD "").length ≤ 1000) (hps : hd.ps.length ≤ 1000)
  (h : ∀ h' tk', Fr h₀ L h' m → News h₀ L h' (hd.led ++ news) → Q (.bool (badH hd)) { s with heap := h', toks := tk' }) :
  wpAny (model PySem.Challenge.rw_in0111_01.row.prog w) (ktrTop dp un gd cn cs L a ccd cl outer) (call (.ref 918) [.ref hd.a]) Q E s := by
  refine hid fun hn9_178 => ?_
  obtain ⟨ha, hb, k, v, tA, tB, n, n2, ps⟩ := hd
  refine hn9_178 ?_
  clear hn9_178
  dsimp only [HA.led, HA.obj, HA.obb] at N h hx hv hp hps ⊢
  simp only [List.cons_append] at N h
  revert X; k_fill; intro X
  refine wpAny_call ?_
  ((k_dflt (refine' code_def ?k1q ?k2q ?k3q ?k4q ?k5q ?kAq ?kFq ?kKq ?k6q ?k7q ?k8q ?k9q ?kBq ?_ ?c2q ?c3q ?c4q ?c5q; (case kAq => exact rfl); (case kFq => exact rfl); (case kKq => assumption); (case k1q => k_asm); (case k2q => k_asm); (case k3q => k_asm); (case k4q => k_asm); (case k5q => k_asm); (case k6q => k_is); (case k7q => k_is); (case k8q => ktr_room); (case k9q => first | exact BindsTo.of_eq rfl | exact binds_K (by k_in) rfl (by k_is) rfl rfl rfl); (case c5q => decide); (case kBq => exact locs rfl); (case c2q => exact rfl); (case c3q => exact rfl); (case c4q => exact rfl); k_whole; intro gq Lq hq FGq Fq Nq Bq Xq Tq; (try dsimp only); (try k_lift Bq); (try k_fold))))
  (repeat' (first | (k_unfold; (try dsimp only)) | (k_end; wrow_close) | ((fail_if_success (with_reducible show wpAny _ _ (eval (Expr.ListComp _ _ _ _) _) _ _ _)); (first | (with_reducible (refine' OrB.intro ?hobq ?_; (case hobq => first | (with_reducible assumption) | omega); intro t8q k8q; (try dsimp only))) | (with_reducible ((with_reducible show wpAny _ _ (call (Value.ref 913) _) _ _ _); k_dflt (refine' faulty_tab ?kBq ?kFq ?kXq ?kNq ?kTq ?kKq ?kdq ?kuq ?kzq ?_; (case kFq => k_asm); (case kNq => k_asm); (case kBq => k_asm); (case kXq => k_asm); (case kTq => k_asm); (case kKq => first | exact rfl | assumption); (case kdq => ktr_room); (case kuq => ktr_units); (case kzq => first | (with_reducible assumption) | exact Nat.le_of_ble_eq_true rfl | k_asm); k_whole; intro h9q tk9q F9q N9q; (try dsimp only); (try k_fold)))) | (with_reducible ((with_reducible show wpAny _ _ (call (Value.ref 913) _) _ _ _); k_dflt (refine' faulty_none ?kBq ?kFq ?kXq ?kNq ?kTq ?kKq ?kdq ?kuq ?kzq ?_; (case kFq => k_asm); (case kNq => k_asm); (case kBq => k_asm); (case kXq => k_asm); (case kTq => k_asm); (case kKq => first | exact rfl | assumption); (case kdq => ktr_room); (case kuq => ktr_units); (case kzq => first | (with_reducible assumption) | exact Nat.le_of_ble_eq_true rfl | k_asm); k_whole; intro h9q tk9q F9q N9q; (try dsimp only); (try k_fold)))) | (with_reducible ((with_reducible show wpAny _ _ (eval (Expr.BoolOp BoolOp.Or [_, Expr.Constant (Const.str (Str.ofString "")) _ _] _) _) _ _ _); with_reducible refine or_blank ?_)) | (with_reducible (k_here; first | (refine ite_bt ?hq ?_; (case hq => with_reducible assumption)) | (refine ite_bf ?hq ?_; (case hq => with_reducible assumption)) | (refine ite_in_t ?hq ?_; (case hq => with_reducible assumption)) | (refine ite_in_f ?hq ?_; (case hq => with_reducible assumption)) | (refine ite_bt ?hq ?_; (case hq => decide +kernel)) | (refine ite_bf ?hq ?_; (case hq => decide +kernel)))) | walk1)) | (dsimp only; (fail_if_success (with_reducible show wpAny _ _ (eval (Expr.ListComp _ _ _ _) _) _ _ _)); walk1) | fail "no step"))
  rotate_left 2
  · k_dflt (refine LCt.ListComp_T (F₀ := by k_asm) (by with_unfolding_all rfl) (by decide) (by rfl) (by decide) (by rfl) ?_)
    (repeat' (first | (k_unfold; (try dsimp only)) | (k_end; wrow_close) | (first | (with_reducible (refine' OrB.intro ?hobq ?_; (case hobq => first | (with_reducible assumption) | omega); intro t8q k8q; (try dsimp only))) | (with_reducible ((with_reducible show wpAny _ _ (call (Value.ref 913) _) _ _ _); k_dflt (refine' faulty_tab ?kBq ?kFq ?kXq ?kNq ?kTq ?kKq ?kdq ?kuq ?kzq ?_; (case kFq => k_asm); (case kNq => k_asm); (case kBq => k_asm); (case kXq => k_asm); (case kTq => k_asm); (case kKq => first | exact rfl | assumption); (case kdq => ktr_room); (case kuq => ktr_units); (case kzq => first | (with_reducible assumption) | exact Nat.le_of_ble_eq_true rfl | k_asm); k_whole; intro h9q tk9q F9q N9q; (try dsimp only); (try k_fold)))) | (with_reducible ((with_reducible show wpAny _ _ (call (Value.ref 913) _) _ _ _); k_dflt (refine' faulty_none ?kBq ?kFq ?kXq ?kNq ?kTq ?kKq ?kdq ?kuq ?kzq ?_; (case kFq => k_asm); (case kNq => k_asm); (case kBq => k_asm); (case kXq => k_asm); (case kTq => k_asm); (case kKq => first | exact rfl | assumption); (case kdq => ktr_room); (case kuq => ktr_units); (case kzq => first | (with_reducible assumption) | exact Nat.le_of_ble_eq_true rfl | k_asm); k_whole; intro h9q tk9q F9q N9q; (try dsimp only); (try k_fold)))) | (with_reducible ((with_reducible show wpAny _ _ (eval (Expr.BoolOp BoolOp.Or [_, Expr.Constant (Const.str (Str.ofString "")) _ _] _) _) _ _ _); with_reducible refine or_blank ?_)) | (with_reducible (k_here; first | (refine ite_bt ?hq ?_; (case hq => with_reducible assumption)) | (refine ite_bf ?hq ?_; (case hq => with_reducible assumption)) | (refine ite_in_t ?hq ?_; (case hq => with_reducible assumption)) | (refine ite_in_f ?hq ?_; (case hq => with_reducible assumption)) | (refine ite_bt ?hq ?_; (case hq => decide +kernel)) | (refine ite_bf ?hq ?_; (case hq => decide +kernel)))) | walk1) | (dsimp only; walk1) | (leave1; (try dsimp only)) | fail "no step"))
    refine' LCt.CompSrcT.ledger (its := (refsOf ps).toArray) (by rfl) ?F1 ?N1 ?hm ?hz (fun g1 => restT_J (fun j ys nw => nw = _ ∧ ys.isEmpty = !(ps.take j).any badP) ?turn ?fin _ 0 [] _ (Nat.zero_add _) ⟨rfl, rfl⟩)
    case F1 => k_asm
    case N1 => k_asm
    case hm => exact .tail _ (.head _)
    case hz => rw [refsOf_len, sizeLine_eq]; omega
    case fin =>
      rintro ys nw r9_179_2 D h5 tk5 F5 N5 o5
      refine hid fun hn9_179 => ?_
      obtain ⟨rfl, hy⟩ := r9_179_2
      refine hn9_179 ?_
      clear hn9_179
      (repeat' (first | (k_unfold; (try dsimp only)) | (k_end; wrow_close) | (first | (with_reducible (refine' OrB.intro ?hobq ?_; (case hobq => first | (with_reducible assumption) | omega); intro t8q k8q; (try dsimp only))) | (with_reducible ((with_reducible show wpAny _ _ (call (Value.ref 913) _) _ _ _); k_dflt (refine' faulty_tab ?kBq ?kFq ?kXq ?kNq ?kTq ?kKq ?kdq ?kuq ?kzq ?_; (case kFq => k_asm); (case kNq => k_asm); (case kBq => k_asm); (case kXq => k_asm); (case kTq => k_asm); (case kKq => first | exact rfl | assumption); (case kdq => ktr_room); (case kuq => ktr_units); (case kzq => first | (with_reducible assumption) | exact Nat.le_of_ble_eq_true rfl | k_asm); k_whole; intro h9q tk9q F9q N9q; (try dsimp only); (try k_fold)))) | (with_reducible ((with_reducible show wpAny _ _ (call (Value.ref 913) _) _ _ _); k_dflt (refine' faulty_none ?kBq ?kFq ?kXq ?kNq ?kTq ?kKq ?kdq ?kuq ?kzq ?_; (case kFq => k_asm); (case kNq => k_asm); (case kBq => k_asm); (case kXq => k_asm); (case kTq => k_asm); (case kKq => first | exact rfl | assumption); (case kdq => ktr_room); (case kuq => ktr_units); (case kzq => first | (with_reducible assumption) | exact Nat.le_of_ble_eq_true rfl | k_asm); k_whole; intro h9q tk9q F9q N9q; (try dsimp only); (try k_fold)))) | (with_reducible ((with_reducible show wpAny _ _ (eval (Expr.BoolOp BoolOp.Or [_, Expr.Constant (Const.str (Str.ofString "")) _ _] _) _) _ _ _); with_reducible refine or_blank ?_)) | (with_reducible (k_here; first | (refine ite_bt ?hq ?_; (case hq => with_reducible assumption)) | (refine ite_bf ?hq ?_; (case hq => with_reducible assumption)) | (refine ite_in_t ?hq ?_; (case hq => with_reducible assumption)) | (refine ite_in_f ?hq ?_; (case hq => with_reducible assumption)) | (refine ite_bt ?hq ?_; (case hq => decide +kernel)) | (refine ite_bf ?hq ?_; (case hq => decide +kernel)))) | walk1) | (dsimp only; walk1) | (leave1; (try dsimp only)) | fail "no step"))
      refine' ne_empty (vs := ys.toArray) (News.isList ?NA (.tail _ (.head _))) (News.isList ?NA (.head _)) ?hu ?_
      case NA => k_asm
      case hu => ktr_units
      have e1 : (!ys.toArray.isEmpty) = badH ⟨ha, hb, k, v, tA, tB, n, n2, ps⟩ := by
        have e2 : ys.toArray.isEmpty = ys.isEmpty := by cases ys <;> rfl
        have e3 : badO v = false := by assumption
        have e4 : badT false k = false := by assumption
        rw [e2, hy, refsOf_len, List.take_length, Bool.not_not]
        unfold badH
        rw [e4, e3]; rfl
      rw [e1]
      (repeat' (first | (k_unfold; (try dsimp only)) | (k_end; wrow_close) | (first | (with_reducible (refine' OrB.intro ?hobq ?_; (case hobq => first | (with_reducible assumption) | omega); intro t8q k8q; (try dsimp only))) | (with_reducible ((with_reducible show wpAny _ _ (call (Value.ref 913) _) _ _ _); k_dflt (refine' faulty_tab ?kBq ?kFq ?kXq ?kNq ?kTq ?kKq ?kdq ?kuq ?kzq ?_; (case kFq => k_asm); (case kNq => k_asm); (case kBq => k_asm); (case kXq => k_asm); (case kTq => k_asm); (case kKq => first | exact rfl | assumption); (case kdq => ktr_room); (case kuq => ktr_units); (case kzq => first | (with_reducible assumption) | exact Nat.le_of_ble_eq_true rfl | k_asm); k_whole; intro h9q tk9q F9q N9q; (try dsimp only); (try k_fold)))) | (with_reducible ((with_reducible show wpAny _ _ (call (Value.ref 913) _) _ _ _); k_dflt (refine' faulty_none ?kBq ?kFq ?kXq ?kNq ?kTq ?kKq ?kdq ?kuq ?kzq ?_; (case kFq => k_asm); (case kNq => k_asm); (case kBq => k_asm); (case kXq => k_asm); (case kTq => k_asm); (case kKq => first | exact rfl | assumption); (case kdq => ktr_room); (case kuq => ktr_units); (case kzq => first | (with_reducible assumption) | exact Nat.le_of_ble_eq_true rfl | k_asm); k_whole; intro h9q tk9q F9q N9q; (try dsimp only); (try k_fold)))) | (with_reducible ((with_reducible show wpAny _ _ (eval (Expr.BoolOp BoolOp.Or [_, Expr.Constant (Const.str (Str.ofString "")) _ _] _) _) _ _ _); with_reducible refine or_blank ?_)) | (with_reducible (k_here; first | (refine ite_bt ?hq ?_; (case hq => with_reducible assumption)) | (refine ite_bf ?hq ?_; (case hq => with_reducible assumption)) | (refine ite_in_t ?hq ?_; (case hq => with_reducible assumption)) | (refine ite_in_f ?hq ?_; (case hq => with_reducible assumption)) | (refine ite_bt ?hq ?_; (case hq => decide +kernel)) | (refine ite_bf ?hq ?_; (case hq => decide +kernel)))) | walk1) | (dsimp only; walk1) | (leave1; (try dsimp only)) | fail "no step"))
      all_goals (refine' h _ _ ?F9 ?N9; (case F9 => k_asm); (case N9 => ((refine' kst_newsOf ?rN1q ?rSq; (case rN1q => k_asm); (case rSq => (intro p9q h9q; repeat (first | exact h9q | refine List.Mem.tail _ ?_)))))))
    case turn =>
      rintro i5 ys nw v5 I oI C oC D m₂ h5 tk5 E5 hlt r9_180_14 hv5 hC hx5 F5 N5 off5 ne5
      refine hid fun hn9_180 => ?_
      obtain ⟨rfl, hy⟩ := r9_180_14
      refine hn9_180 ?_
      clear hn9_180
      refine hid fun hn9_181 => ?_
      obtain ⟨q, hq, rfl⟩ := refsOf_get hv5
      refine hn9_181 ?_
      clear hn9_181
      refine hid fun hn9_182 => ?_
      obtain ⟨hq1, hq2⟩ := hp q (List.mem_of_getElem? hq)
      refine hn9_182 ?_
      clear hn9_182
      have N6 := news_plus (p := (q.a, q.obj)) N5 (.tail _ (.tail _ (.tail _ (.tail _ (.tail _ (List.mem_append_left _ (List.mem_map.mpr ⟨q, List.mem_of_getElem? hq, rfl⟩)))))))
      clear N5 hv5
      refine hid fun hn9_183 => ?_
      obtain ⟨qa, qk, qv, qtk, qtv, qn⟩ := q
      refine hn9_183 ?_
      clear hn9_183
      dsimp only [PA.obj] at N6 hq1 hq2
      (repeat' (first | (k_unfold; (try dsimp only)) | (k_end; wrow_close) | (first | (with_reducible (refine' OrB.intro ?hobq ?_; (case hobq => first | (with_reducible assumption) | omega); intro t8q k8q; (try dsimp only))) | (with_reducible ((with_reducible show wpAny _ _ (call (Value.ref 913) _) _ _ _); k_dflt (refine' faulty_tab ?kBq ?kFq ?kXq ?kNq ?kTq ?kKq ?kdq ?kuq ?kzq ?_; (case kFq => k_asm); (case kNq => k_asm); (case kBq => k_asm); (case kXq => k_asm); (case kTq => k_asm); (case kKq => first | exact rfl | assumption); (case kdq => ktr_room); (case kuq => ktr_units); (case kzq => first | (with_reducible assumption) | exact Nat.le_of_ble_eq_true rfl | k_asm); k_whole; intro h9q tk9q F9q N9q; (try dsimp only); (try k_fold)))) | (with_reducible ((with_reducible show wpAny _ _ (call (Value.ref 913) _) _ _ _); k_dflt (refine' faulty_none ?kBq ?kFq ?kXq ?kNq ?kTq ?kKq ?kdq ?kuq ?kzq ?_; (case kFq => k_asm); (case kNq => k_asm); (case kBq => k_asm); (case kXq => k_asm); (case kTq => k_asm); (case kKq => first | exact rfl | assumption); (case kdq => ktr_room); (case kuq => ktr_units); (case kzq => first | (with_reducible assumption) | exact Nat.le_of_ble_eq_true rfl | k_asm); k_whole; intro h9q tk9q F9q N9q; (try dsimp only); (try k_fold)))) | (with_reducible ((with_reducible show wpAny _ _ (eval (Expr.BoolOp BoolOp.Or [_, Expr.Constant (Const.str (Str.ofString "")) _ _] _) _) _ _ _); with_reducible refine or_blank ?_)) | (with_reducible (k_here; first | (refine ite_bt ?hq ?_; (case hq => with_reducible assumption)) | (refine ite_bf ?hq ?_; (case hq => with_reducible assumption)) | (refine ite_in_t ?hq ?_; (case hq => with_reducible assumption)) | (refine ite_in_f ?hq ?_; (case hq => with_reducible assumption)) | (refine ite_bt ?hq ?_; (case hq => decide +kernel)) | (refine ite_bf ?hq ?_; (case hq => decide +kernel)))) | walk1) | (dsimp only; walk1) | (leave1; (try dsimp only)) | fail "no step"))
      all_goals ((refine' LCg.CompEnd.intro ?cFq ?cNq _ ?csq (by assumption) ?cSq ⟨rfl, ?_⟩; (case cFq => k_asm); (case cNq => k_asm); (case csq => (intro p9q h9q; repeat (first | exact h9q | refine List.Mem.tail _ ?_))); (case cSq => first | exact trivial | exact .inr ⟨_, .head _, rfl, _, rfl⟩ | exact .inr ⟨_, .tail _ (.head _), rfl, _, rfl⟩ | exact .inr ⟨_, .tail _ (.tail _ (.head _)), rfl, _, rfl⟩)))
      all_goals first
        | exact anyL_yes hq (by unfold badP; dsimp only; rw [show badT false _ = true by assumption]; rfl)
        | exact anyL_yes hq (by unfold badP; dsimp only; rw [show badO _ = true by assumption, Bool.or_true])
        | exact anyL_no hq (by unfold badP; dsimp only; rw [show badO _ = false by assumption, show badT false _ = false by assumption]; rfl) hy
  · have e : badH ⟨ha, hb, k, v, tA, tB, n, n2, ps⟩ = true := by unfold badH; rw [show badT false k = true by assumption]; rfl
    rw [e] at h
    (refine' h _ _ ?F9 ?N9; (case F9 => k_asm); (case N9 => ((refine' kst_newsOf ?rN1q ?rSq; (case rN1q => k_asm); (case rSq => (intro p9q h9q; repeat (first | exact h9q | refine List.Mem.tail _ ?_)))))))
  · have e : badH ⟨ha, hb, k, v, tA, tB, n, n2, ps⟩ = true := by unfold badH; rw [show badO v = true by assumption]; simp
    rw [e] at h
    (refine' h _ _ ?F9 ?N9; (case F9 => k_asm); (case N9 => ((refine' kst_newsOf ?rN1q ?rSq; (case rN1q => k_asm); (case rSq => (intro p9q h9q; repeat (first | exact h9q | refine List.Mem.tail _ ?_)))))))
end
end
section
-- text Op
section
noncomputable def sp (c : Nat) : List Nat := if sgl c then [32, c, 32] else [c]
noncomputable def splitL (cur : List Nat) : List Nat → List (List Nat)
  | [] => [cur]
  | c :: r => if c = 32 then cur :: splitL [] r else splitL (cur ++ [c]) r
theorem splitL_free : ∀ (p cur r : List Nat), 32 ∉ p → splitL cur (p ++ r) = splitL (cur ++ p) r
  | [], cur, r, _ => by simp
  | c :: p, cur, r, h => by
    have hc : ¬ c = 32 := fun e => h (e ▸ List.mem_cons_self ..)
    show (if c = 32 then _ else splitL (cur ++ [c]) (p ++ r)) = _
    rw [if_neg hc, splitL_free p _ r fun m => h (List.mem_cons_of_mem _ m)]
    simp
theorem splitL_join : ∀ parts : List Str, parts ≠ [] → (∀ p ∈ parts, 32 ∉ p.cps.toList) → splitL [] (Str.join ⟨#[32]⟩ parts).cps.toList = parts.map (·.cps.toList)
  | [], h, _ => absurd rfl h
  | [p], _, h => by
    show splitL [] p.cps.toList = [p.cps.toList]
    have e := splitL_free p.cps.toList [] [] (h p (List.mem_singleton.mpr rfl))
    rw [List.append_nil] at e
    rw [e]; rfl
  | p :: q :: r, _, h => by
    have ih := splitL_join (q :: r) (by simp) fun a ha => h a (List.mem_cons_of_mem _ ha)
    show splitL [] (p ++ ⟨#[32]⟩ ++ Str.join ⟨#[32]⟩ (q :: r)).cps.toList = _
    simp only [Str.cps_append, Array.toList_append, List.append_assoc]
    rw [splitL_free _ _ _ (h p (List.mem_cons_self ..))]
    show (if 32 = 32 then _ else _) = _
    rw [if_pos rfl]
    show ([] ++ p.cps.toList) :: splitL [] (Str.join ⟨#[32]⟩ (q :: r)).cps.toList = _
    rw [ih]; rfl
theorem split_eq (x : Str) : (Txt.split x ⟨#[32]⟩).map (·.cps.toList) = splitL [] x.cps.toList := by
  have hne : Txt.split x ⟨#[32]⟩ ≠ [] := fun e => by have := split_pos x ⟨#[32]⟩; rw [e] at this; simp at this
  rw [← splitL_join _ hne (StrLaws.split_free x 32), StrLaws.join_split]
theorem splitL_pieces : ∀ (l cur : List Nat), 32 ∉ l → (splitL cur (l.flatMap sp)).filter (fun p => !p.isEmpty) = pieces cur l
  | [], cur, _ => by
    show ([cur] : List (List Nat)).filter _ = flush cur
    unfold flush
    cases cur <;> rfl
  | c :: l, cur, h => by
    have hc : ¬ c = 32 := fun e => h (e ▸ List.mem_cons_self ..)
    have hl : 32 ∉ l := fun m => h (List.mem_cons_of_mem _ m)
    rw [List.flatMap_cons]
    unfold pieces sp
    by_cases hs : sgl c
    · rw [if_pos hs, if_pos hs]
      show (splitL cur (32 :: c :: 32 :: l.flatMap sp)).filter _ = _
      have e : splitL cur (32 :: c :: 32 :: l.flatMap sp) = cur :: [c] :: splitL [] (l.flatMap sp) := by
        show (if 32 = 32 then cur :: (if c = 32 then _ else (if 32 = 32 then ([] ++ [c]) :: splitL [] (l.flatMap sp) else _)) else _) = _
        rw [if_pos rfl, if_neg hc, if_pos rfl]; rfl
      rw [e]
      unfold flush
      cases cur with
      | nil => simp [splitL_pieces l [] hl]
      | cons a b => simp [splitL_pieces l [] hl]
    · rw [if_neg hs, if_neg hs]
      show (if c = 32 then _ else splitL (cur ++ [c]) (l.flatMap sp)).filter _ = _
      rw [if_neg hc, splitL_pieces l _ hl]
noncomputable def safeS : Str := Str.ofString "ABCDEFGHIJKLMNOPQRSTUVWXYZabcdefghijklmnopqrstuvwxyz0123456789_@%+=:,./-"
noncomputable def unsafe1 (c : Nat) : Bool := !safeS.cps.toList.contains c
noncomputable def plainO (x : Str) : Bool := decide (x.length = 0) || x.cps.toList.any unsafe1
noncomputable def ownT (x : Str) : List Str := if plainO x = true then [x] else (pieces [] x.cps.toList).map sL
theorem join_empty_codes : ∀ l : List (List Nat), (Str.join (Str.ofString "") (l.map sL)).cps.toList = l.flatten
  | [] => rfl
  | [p] => by show p.toArray.toList = _; simp
  | p :: q :: r => by
    have ih := join_empty_codes (q :: r)
    show (sL p ++ Str.ofString "" ++ Str.join (Str.ofString "") ((q :: r).map sL)).cps.toList = _
    simp only [Str.cps_append, Array.toList_append]
    rw [ih]
    have e : (Str.ofString "").cps.toList = [] := by decide +kernel
    rw [e]
    simp [sL]
theorem own_pieces {x : Str} (hp : plainO x = false) {spaced : Str} (hs : spaced = Str.join (Str.ofString "") (x.cps.toList.map fun c => sL (sp c))) :
    (Txt.split spaced (Str.ofString " ")).filter (fun p => !(p == Str.ofString "")) = ownT x := by
  unfold ownT
  rw [if_neg (by rw [hp]; exact Bool.false_ne_true)]
  have h32 : 32 ∉ x.cps.toList := fun hm => by
    unfold plainO at hp
    rw [Bool.or_eq_false_iff] at hp
    have := List.any_eq_false.mp hp.2 32 hm
    exact this (by unfold unsafe1 safeS; decide +kernel)
  have e1 : spaced.cps.toList = x.cps.toList.flatMap sp := by
    rw [hs]
    have := join_empty_codes (x.cps.toList.map sp)
    rw [List.map_map] at this
    rw [List.flatMap_def]
    exact this
  have e32 : Str.ofString " " = ⟨#[32]⟩ := by decide +kernel
  have e2 := split_eq spaced
  rw [e1] at e2
  have e3 := splitL_pieces x.cps.toList [] h32
  rw [← e2] at e3
  rw [e32, ← e3, List.filter_map, List.map_map]
  have e4 : ∀ p : Str, (sL ∘ fun q : Str => q.cps.toList) p = p := fun p => by show (⟨p.cps.toList.toArray⟩ : Str) = p; simp
  have e5 : (fun p : Str => !(p == Str.ofString "")) = (fun p : List Nat => !p.isEmpty) ∘ (fun q : Str => q.cps.toList) := by
    funext p
    show _ = !(p.cps.toList.isEmpty)
    congr 1
    rw [Bool.eq_iff_iff, beq_iff_eq]
    constructor
    · intro e; subst e; decide +kernel
    · intro e
      refine Str.ext' ?_
      have : p.cps.toList = [] := by simpa using e
      have e6 : (Str.ofString "").cps = #[] := by decide +kernel
      rw [e6]
      exact Array.toList_eq_nil_iff.mp this
  rw [e5]
  conv => lhs; rw [← List.map_id (List.filter _ _)]
  exact List.map_congr_left fun p _ => (e4 p).symm
theorem sgl_in {c : Nat} {b : Bool} (h : (Builtin.Str.occurrences (Str.ofString "@%+:,") { cps := #[c] } 0 (Str.ofString "@%+:,").length 1).isEmpty = b) : decide (sgl c) = !b := by
  have e := StrLaws.found_one (Str.ofString "@%+:,") c
  rw [h] at e
  rw [e]
  have e2 : (Str.ofString "@%+:,").cps.toList = [64, 37, 43, 58, 44] := by decide +kernel
  rw [e2, decide_eq_decide]
  simp [sgl]
theorem sp_yes {c : Nat} (h : decide (sgl c) = true) : sL (sp c) = Str.ofString " " ++ ⟨#[c]⟩ ++ Str.ofString " " := by
  unfold sp
  rw [if_pos (of_decide_eq_true h)]
  have e : Str.ofString " " = ⟨#[32]⟩ := by decide +kernel
  rw [e]; rfl
theorem sp_no {c : Nat} (h : decide (sgl c) = false) : sL (sp c) = ⟨#[c]⟩ := by
  unfold sp
  rw [if_neg (of_decide_eq_false h)]
theorem sp_sum (l : List Nat) : ((l.map fun c => sL (sp c)).map (·.length)).sum ≤ 3 * l.length := by
  induction l with
  | nil => simp
  | cons c l ih =>
    simp only [List.map_cons, List.sum_cons, List.length_cons]
    have : (sL (sp c)).length ≤ 3 := by rw [sL_len]; unfold sp; split <;> simp
    omega
theorem strs_map {ys : List Value} {f : Nat → Str} {x : Array Nat} {k c : Nat} {t : Tok} {y : Str} (hy : StrsAre ys ((x.toList.take k).map f)) (hc : x[k]? = some c) (e : f c = y) : StrsAre (ys ++ [.str y t]) ((x.toList.take (k + 1)).map f) := by
  rw [take_snoc hc, List.map_append]
  refine hid fun hn9_184 => ?_
  subst e <;> (refine hn9_184 ?_; clear hn9_184)
  exact hy.append' (.cons _ _ .nil)
theorem strsL_yes {ys : List Value} {l : List (Str × Tok)} {k : Nat} {q : Str × Tok} {f : Str → Bool} (hy : StrsAre ys (((l.take k).map (·.1)).filter f)) (hc : l[k]? = some q) (e : f q.1 = true) : StrsAre (ys ++ [.str q.1 q.2]) (((l.take (k + 1)).map (·.1)).filter f) := by
  rw [take_snocL hc, List.map_append, List.filter_append]
  simp only [List.map_cons, List.map_nil, List.filter_cons, e, if_true, List.filter_nil]
  exact hy.append' (.cons _ _ .nil)
theorem strsL_no {ys : List Value} {l : List (Str × Tok)} {k : Nat} {q : Str × Tok} {f : Str → Bool} (hy : StrsAre ys (((l.take k).map (·.1)).filter f)) (hc : l[k]? = some q) (e : f q.1 = false) : StrsAre ys (((l.take (k + 1)).map (·.1)).filter f) := by
  rw [take_snocL hc, List.map_append, List.filter_append]
  simp only [List.map_cons, List.map_nil, List.filter_cons, e, List.filter_nil, List.append_nil, Bool.false_eq_true, if_false]
  exact hy
theorem pieces_len : ∀ (l cur : List Nat), (pieces cur l).length ≤ 2 * l.length + 1
  | [], cur => by unfold pieces flush; split <;> simp
  | c :: l, cur => by
    unfold pieces
    split
    · have h1 := pieces_len l []
      have h2 : (flush cur).length ≤ 1 := by unfold flush; split <;> simp
      simp only [List.length_append, List.length_cons]
      omega
    · have h1 := pieces_len l (cur ++ [c])
      simp only [List.length_cons]
      omega
theorem own_len {ys : List Value} {x : Str} (h : StrsAre ys (ownT x)) (hx : x.length ≤ 1000) : ys.length ≤ 3000 := by
  rw [h.len_eq]
  unfold ownT
  split
  · exact Nat.le_of_ble_eq_true rfl
  · rw [List.length_map]
    have := pieces_len x.cps.toList []
    have e : x.cps.toList.length = x.length := Array.length_toList
    omega
end
end
section
-- text Ow
local macro_rules | `(tactic| k_all) => `(tactic| ((repeat (with_reducible rename (_ ∧ _) => hh9; cases hh9)); first | exact allNe (by assumption) (Nat.le_refl _) | exact allNe (by assumption) (Nat.le_succ _) | exact allNe2 (by assumption) (Nat.le_refl _) | exact off1Mem (by assumption) | assumption | exact allNe2 (by assumption) (by omega) | exact allNe (by assumption) (by omega)))
section
variable {w : World} {p : Program} {loose : List Str} {mean : ExcName → Option Value} {mg mb : Str → Option Value}
  {dp un : Nat} {gd : Option (List Code)} {cn : Str} {cs : Scope} {a : Addr} {ccd : Value} {cl : List (Str × Addr)} {outer : List Env} {A₀ : Around} {base h₀ : Heap} {L : Addr} {m : Str → Option Value} {s : Shared} {Q E : Value → Shared → Prop}
theorem own_spec {news : List (Addr × Obj)} {t1 : Tok} {x : Str}
  (B : Below A₀ base outer h₀) (F : Fr h₀ L s.heap m) (X : (Mine.mkK.heap_1 w.params).In h₀) (N : News h₀ L s.heap news) (T : Top p loose mean mg mb h₀) (hk : cs.kind = .function)
  (hdp : dp + 5 < recursionLimit) (hun : un + 40 < cLine) (hx : x.length ≤ 1000)
  (h : ∀ D ys n h' tk', StrsAre ys (ownT x) → Fr h₀ L h' m → News h₀ L h' ((D, W.listOf ys.toArray n) :: news) → (∀ q ∈ news, q.1 ≠ D) → Q (.ref D) { s with heap := h', toks := tk' }) :
  wpAny (model PySem.Challenge.rw_in0111_01.row.prog w) (ktrTop dp un gd cn cs L a ccd cl outer) (call (.ref 923) [.str x t1]) Q E s := by
  revert X; k_fill; intro X
  refine wpAny_call ?_
  ((k_dflt (refine' code_defC ?k1q ?k2q ?k3q ?k4q ?k5q ?kAq ?kFq ?kKq ?k6q ?k7q ?k8q ?k9q ?kBq ?kDq ?_ ?c2q ?c3q ?c4q; (case kAq => exact rfl); (case kFq => exact rfl); (case kKq => assumption); (case k1q => k_asm); (case k2q => k_asm); (case k3q => k_asm); (case k4q => k_asm); (case k5q => k_asm); (case k6q => k_is); (case k7q => k_is); (case k8q => ktr_room); (case k9q => first | exact BindsTo.of_eq rfl | exact binds_K (by k_in) rfl (by k_is) rfl rfl rfl); (case kBq => exact rfl); (case kDq => decide +kernel); (case c2q => exact rfl); (case c3q => exact rfl); (case c4q => exact rfl); k_whole; intro gq Lq hq tkq cellsq FGq Fq Nq Yq Bq Xq Tq l1q; (try k_lt l1q); k_cells Yq; (try simp only [List.cons_append, List.nil_append] at Nq); (try dsimp only); (try k_lift Bq); (try k_fold))))
  (repeat' (first | (k_unfold; (try dsimp only)) | (k_end; wrow_close) | ((fail_if_success (with_reducible show wpAny _ _ (eval (Expr.ListComp _ _ _ _) _) _ _ _)); (first | (with_reducible (k_here; first | (refine ite_bt ?hq ?_; (case hq => with_reducible assumption)) | (refine ite_bf ?hq ?_; (case hq => with_reducible assumption)) | (refine ite_in_t ?hq ?_; (case hq => with_reducible assumption)) | (refine ite_in_f ?hq ?_; (case hq => with_reducible assumption)) | (refine ite_bt ?hq ?_; (case hq => decide +kernel)) | (refine ite_bf ?hq ?_; (case hq => decide +kernel)))) | walk1)) | (dsimp only; (fail_if_success (with_reducible show wpAny _ _ (eval (Expr.ListComp _ _ _ _) _) _ _ _)); walk1) | fail "no step"))
  · have e : ownT x = [x] := by
      unfold ownT
      rw [if_pos]
      unfold plainO
      rw [← sub_eq_len]
      rw [show (x == Str.ofString "") = true by assumption]; rfl
    rw [e] at h
    refine' h _ [.str x t1] _ _ _ (.cons _ _ .nil) ?F2 ?N2 ?l2
    case F2 => k_asm
    case N2 => ((refine' kst_newsOf ?rN1q ?rSq; (case rN1q => k_asm); (case rSq => (refine List.forall_mem_cons.mpr ⟨?rAq, ?rBq⟩; (case rAq => k_memK); (case rBq => (intro p9q h9q; repeat (first | exact h9q | refine List.Mem.tail _ ?_)))))))
    case l2 => exact neOfLt (ltAll (And.right (by assumption)))
  · have ne0 : decide (x.length = 0) = false := by rw [← sub_eq_len]; assumption
    k_dflt (refine ListComp_Ts (F₀ := by k_asm) (by with_unfolding_all rfl) (by decide) (by rfl) (by decide) (by rfl) ?_)
    (repeat' (first | (k_unfold; (try dsimp only)) | (k_end; wrow_close) | (first | (with_reducible (k_here; first | (refine ite_bt ?hq ?_; (case hq => with_reducible assumption)) | (refine ite_bf ?hq ?_; (case hq => with_reducible assumption)) | (refine ite_in_t ?hq ?_; (case hq => with_reducible assumption)) | (refine ite_in_f ?hq ?_; (case hq => with_reducible assumption)) | (refine ite_bt ?hq ?_; (case hq => decide +kernel)) | (refine ite_bf ?hq ?_; (case hq => decide +kernel)))) | walk1) | (dsimp only; walk1) | (leave1; (try dsimp only)) | fail "no step"))
    refine' StrSrcT.intro (by rfl) ?F1 ?N1 ?hz (fun g1 => restT_J (fun j ys nw => nw = _ ∧ ys.isEmpty = !(x.cps.toList.take j).any unsafe1) ?turn ?fin _ 0 [] _ (Nat.zero_add _) ⟨rfl, rfl⟩)
    case F1 => k_asm
    case N1 => k_asm
    case hz => show x.length ≤ _; rw [sizeLine_eq]; omega
    case turn =>
      rintro i5 ys nw v I oI C oC D m₂ h5 tk5 E5 hlt r9_185_14 r9_185_15 hC hx5 F5 N5 off5 ne5
      refine hid fun hn9_185 => ?_
      obtain ⟨rfl, hy⟩ := r9_185_14
      obtain ⟨c, u, hc, rfl⟩ := r9_185_15
      refine hn9_185 ?_
      clear hn9_185
      (repeat' (first | (k_unfold; (try dsimp only)) | (k_end; wrow_close) | (first | (with_reducible (k_here; first | (refine ite_bt ?hq ?_; (case hq => with_reducible assumption)) | (refine ite_bf ?hq ?_; (case hq => with_reducible assumption)) | (refine ite_in_t ?hq ?_; (case hq => with_reducible assumption)) | (refine ite_in_f ?hq ?_; (case hq => with_reducible assumption)) | (refine ite_bt ?hq ?_; (case hq => decide +kernel)) | (refine ite_bf ?hq ?_; (case hq => decide +kernel)))) | walk1) | (dsimp only; walk1) | (leave1; (try dsimp only)) | fail "no step"))
      · ((refine' LCg.CompEnd.intro ?cFq ?cNq _ ?csq (by assumption) ?cSq ⟨rfl, ?_⟩; (case cFq => k_asm); (case cNq => k_asm); (case csq => (intro p9q h9q; repeat (first | exact h9q | refine List.Mem.tail _ ?_))); (case cSq => first | exact trivial | exact .inr ⟨_, .head _, rfl, _, rfl⟩ | exact .inr ⟨_, .tail _ (.head _), rfl, _, rfl⟩ | exact .inr ⟨_, .tail _ (.tail _ (.head _)), rfl, _, rfl⟩)))
        refine any_yes hc ?_
        have h1 := occ_in (by assumption)
        unfold unsafe1 safeS; rw [h1]; rfl
      · ((refine' LCg.CompEnd.intro ?cFq ?cNq _ ?csq (by assumption) ?cSq ⟨rfl, ?_⟩; (case cFq => k_asm); (case cNq => k_asm); (case csq => (intro p9q h9q; repeat (first | exact h9q | refine List.Mem.tail _ ?_))); (case cSq => first | exact trivial | exact .inr ⟨_, .head _, rfl, _, rfl⟩ | exact .inr ⟨_, .tail _ (.head _), rfl, _, rfl⟩ | exact .inr ⟨_, .tail _ (.tail _ (.head _)), rfl, _, rfl⟩)))
        refine any_no hc ?_ hy
        have h1 := occ_in (by assumption)
        unfold unsafe1 safeS; rw [h1]; rfl
    case fin =>
      rintro ys nw r9_186_2 D h5 tk5 F5 N5 o5
      refine hid fun hn9_186 => ?_
      obtain ⟨rfl, hy⟩ := r9_186_2
      refine hn9_186 ?_
      clear hn9_186
      have hy2 : ys.toArray.isEmpty = !x.cps.toList.any unsafe1 := by
        have e2 : ys.toArray.isEmpty = ys.isEmpty := by cases ys <;> rfl
        rw [e2, hy, ← Array.length_toList, List.take_length]
      (repeat' (first | (k_unfold; (try dsimp only)) | (k_end; wrow_close) | (first | (with_reducible (k_here; first | (refine ite_bt ?hq ?_; (case hq => with_reducible assumption)) | (refine ite_bf ?hq ?_; (case hq => with_reducible assumption)) | (refine ite_in_t ?hq ?_; (case hq => with_reducible assumption)) | (refine ite_in_f ?hq ?_; (case hq => with_reducible assumption)) | (refine ite_bt ?hq ?_; (case hq => decide +kernel)) | (refine ite_bf ?hq ?_; (case hq => decide +kernel)))) | walk1) | (dsimp only; walk1) | (leave1; (try dsimp only)) | fail "no step"))
      refine' ne_empty (vs := ys.toArray) (News.isList ?NA (.tail _ (.head _))) (News.isList ?NA (.head _)) ?hu ?_
      case NA => k_asm
      case hu => ktr_units
      rw [hy2, Bool.not_not]
      (repeat' (first | (k_unfold; (try dsimp only)) | (k_end; wrow_close) | ((fail_if_success (with_reducible show wpAny _ _ (eval (Expr.ListComp _ _ _ _) _) _ _ _)); (first | (with_reducible (k_here; first | (refine ite_bt ?hq ?_; (case hq => with_reducible assumption)) | (refine ite_bf ?hq ?_; (case hq => with_reducible assumption)) | (refine ite_in_t ?hq ?_; (case hq => with_reducible assumption)) | (refine ite_in_f ?hq ?_; (case hq => with_reducible assumption)) | (refine ite_bt ?hq ?_; (case hq => decide +kernel)) | (refine ite_bf ?hq ?_; (case hq => decide +kernel)))) | walk1)) | (dsimp only; (fail_if_success (with_reducible show wpAny _ _ (eval (Expr.ListComp _ _ _ _) _) _ _ _)); walk1) | fail "no step"))
      · have e : ownT x = [x] := by
          unfold ownT
          rw [if_pos]
          unfold plainO
          rw [show x.cps.toList.any unsafe1 = true by assumption, Bool.or_true]
        rw [e] at h
        refine' h _ [.str x t1] _ _ _ (.cons _ _ .nil) ?F3 ?N3 ?l3
        case F3 => k_asm
        case N3 => ((refine' kst_newsOf ?rN1q ?rSq; (case rN1q => k_asm); (case rSq => (refine List.forall_mem_cons.mpr ⟨?rAq, ?rBq⟩; (case rAq => k_memK); (case rBq => (intro p9q h9q; repeat (first | exact h9q | refine List.Mem.tail _ ?_)))))))
        case l3 => exact neOfLt (ltAll (And.right (And.right (And.right (by assumption)))))
      · have hp : plainO x = false := by
          unfold plainO
          rw [show x.cps.toList.any unsafe1 = false by assumption, ne0]; rfl
        k_dflt (refine ListComp_Us (F₀ := by k_asm) (by with_unfolding_all rfl) (by decide) (by rfl) (by decide) (by rfl) ?_)
        (repeat' (first | (k_unfold; (try dsimp only)) | (k_end; wrow_close) | (first | (with_reducible (k_here; first | (refine ite_bt ?hq ?_; (case hq => with_reducible assumption)) | (refine ite_bf ?hq ?_; (case hq => with_reducible assumption)) | (refine ite_in_t ?hq ?_; (case hq => with_reducible assumption)) | (refine ite_in_f ?hq ?_; (case hq => with_reducible assumption)) | (refine ite_bt ?hq ?_; (case hq => decide +kernel)) | (refine ite_bf ?hq ?_; (case hq => decide +kernel)))) | walk1) | (dsimp only; walk1) | (leave1; (try dsimp only)) | fail "no step"))
        refine' StrSrcU.intro (by rfl) ?F4 ?N4 ?hz4 (fun g1 => restU_J (fun j ys nw => nw = _ ∧ StrsAre ys ((x.cps.toList.take j).map fun c => sL (sp c))) ?turn4 ?fin4 _ 0 [] _ (Nat.zero_add _) ⟨rfl, .nil⟩)
        case F4 => k_asm
        case N4 => k_asm
        case hz4 => show x.length ≤ _; rw [sizeLine_eq]; omega
        case turn4 =>
          rintro i5 ys nw v I oI C oC D m₂ h5 tk5 E5 hlt r9_187_14 r9_187_15 hC hx5 F5 N5 off5 ne5
          refine hid fun hn9_187 => ?_
          obtain ⟨rfl, hy⟩ := r9_187_14
          obtain ⟨c, u, hc, rfl⟩ := r9_187_15
          refine hn9_187 ?_
          clear hn9_187
          (repeat' (first | (k_unfold; (try dsimp only)) | (k_end; wrow_close) | (first | (with_reducible (k_here; first | (refine ite_bt ?hq ?_; (case hq => with_reducible assumption)) | (refine ite_bf ?hq ?_; (case hq => with_reducible assumption)) | (refine ite_in_t ?hq ?_; (case hq => with_reducible assumption)) | (refine ite_in_f ?hq ?_; (case hq => with_reducible assumption)) | (refine ite_bt ?hq ?_; (case hq => decide +kernel)) | (refine ite_bf ?hq ?_; (case hq => decide +kernel)))) | walk1) | (dsimp only; walk1) | (leave1; (try dsimp only)) | fail "no step"))
          · ((refine' LCg.CompEnd.intro ?cFq ?cNq _ ?csq (by assumption) ?cSq ⟨rfl, ?_⟩; (case cFq => k_asm); (case cNq => k_asm); (case csq => (intro p9q h9q; repeat (first | exact h9q | refine List.Mem.tail _ ?_))); (case cSq => first | exact trivial | exact .inr ⟨_, .head _, rfl, _, rfl⟩ | exact .inr ⟨_, .tail _ (.head _), rfl, _, rfl⟩ | exact .inr ⟨_, .tail _ (.tail _ (.head _)), rfl, _, rfl⟩)))
            exact strs_map hy hc (sp_no (sgl_in (by assumption)))
          · ((refine' LCg.CompEnd.intro ?cFq ?cNq _ ?csq (by assumption) ?cSq ⟨rfl, ?_⟩; (case cFq => k_asm); (case cNq => k_asm); (case csq => (intro p9q h9q; repeat (first | exact h9q | refine List.Mem.tail _ ?_))); (case cSq => first | exact trivial | exact .inr ⟨_, .head _, rfl, _, rfl⟩ | exact .inr ⟨_, .tail _ (.head _), rfl, _, rfl⟩ | exact .inr ⟨_, .tail _ (.tail _ (.head _)), rfl, _, rfl⟩)))
            exact strs_map hy hc (sp_yes (sgl_in (by assumption)))
        case fin4 =>
          rintro ys nw r9_188_2 D h5 tk5 F5 N5 o5
          refine hid fun hn9_188 => ?_
          obtain ⟨rfl, hy⟩ := r9_188_2
          refine hn9_188 ?_
          clear hn9_188
          rw [← Array.length_toList, List.take_length] at hy
          have hl : x.cps.toList.length ≤ 1000 := by rw [Array.length_toList]; exact hx
          have hs := sp_sum x.cps.toList
          (repeat' (first | (k_unfold; (try dsimp only)) | (k_end; wrow_close) | (first | (with_reducible (k_here; first | (refine ite_bt ?hq ?_; (case hq => with_reducible assumption)) | (refine ite_bf ?hq ?_; (case hq => with_reducible assumption)) | (refine ite_in_t ?hq ?_; (case hq => with_reducible assumption)) | (refine ite_in_f ?hq ?_; (case hq => with_reducible assumption)) | (refine ite_bt ?hq ?_; (case hq => decide +kernel)) | (refine ite_bf ?hq ?_; (case hq => decide +kernel)))) | walk1) | (dsimp only; walk1) | (leave1; (try dsimp only)) | fail "no step"))
          refine' join_listW (items := ys.toArray) (News.isList ?NB (.head _)) (by rw [List.toList_toArray]; exact hy) (by decide +kernel) (by rw [List.length_map]; omega) ?_
          case NB => k_asm
          intro t7 k7
          rw [show Txt.join (Str.ofString "") (x.cps.toList.map fun c => sL (sp c)) = Str.join (Str.ofString "") (x.cps.toList.map fun c => sL (sp c)) from StrLaws.glued_eq_join _ _]
          have hsl : (Str.join (Str.ofString "") (x.cps.toList.map fun c => sL (sp c))).length ≤ 3000 := by
            have := StrLaws.join_length_le (Str.ofString "") (x.cps.toList.map fun c => sL (sp c))
            rw [show (Str.ofString "").length = 0 from rfl] at this
            omega
          have hop := own_pieces hp (spaced := Str.join (Str.ofString "") (x.cps.toList.map fun c => sL (sp c))) rfl
          generalize Str.join (Str.ofString "") (x.cps.toList.map fun c => sL (sp c)) = spaced at hsl hop ⊢
          (repeat' (first | (k_unfold; (try dsimp only)) | (k_end; wrow_close) | ((fail_if_success (with_reducible show wpAny _ _ (eval (Expr.ListComp _ _ _ _) _) _ _ _)); (first | (with_reducible (k_here; first | (refine ite_bt ?hq ?_; (case hq => with_reducible assumption)) | (refine ite_bf ?hq ?_; (case hq => with_reducible assumption)) | (refine ite_in_t ?hq ?_; (case hq => with_reducible assumption)) | (refine ite_in_f ?hq ?_; (case hq => with_reducible assumption)) | (refine ite_bt ?hq ?_; (case hq => decide +kernel)) | (refine ite_bf ?hq ?_; (case hq => decide +kernel)))) | walk1)) | (dsimp only; (fail_if_success (with_reducible show wpAny _ _ (eval (Expr.ListComp _ _ _ _) _) _ _ _)); walk1) | fail "no step"))
          k_dflt (refine LCt.ListComp_T (F₀ := by k_asm) (by with_unfolding_all rfl) (by decide) (by rfl) (by decide) (by rfl) ?_)
          (repeat' (first | (k_unfold; (try dsimp only)) | (k_end; wrow_close) | (first | (with_reducible (k_here; first | (refine ite_bt ?hq ?_; (case hq => with_reducible assumption)) | (refine ite_bf ?hq ?_; (case hq => with_reducible assumption)) | (refine ite_in_t ?hq ?_; (case hq => with_reducible assumption)) | (refine ite_in_f ?hq ?_; (case hq => with_reducible assumption)) | (refine ite_bt ?hq ?_; (case hq => decide +kernel)) | (refine ite_bf ?hq ?_; (case hq => decide +kernel)))) | walk1) | (dsimp only; walk1) | (leave1; (try dsimp only)) | fail "no step"))
          (rename (List.map _ _ = Txt.split _ _) => e6)
          (rename (List (Str × Tok)) => l6)
          have hll : l6.length ≤ 3002 := by
            have := split_le spaced (Str.ofString " ")
            rw [← e6, List.length_map] at this
            omega
          refine' LCt.CompSrcT.ledger (its := (strValues l6).toArray) (by rfl) ?F7 ?N7 (.head _) (by rw [sizeLine_eq]; simp [strValues]; omega) (fun g1 => restT_J (fun j ys nw => nw = _ ∧ StrsAre ys (((l6.take j).map (·.1)).filter fun q => !(q == Str.ofString ""))) ?turn7 ?fin7 _ 0 [] _ (Nat.zero_add _) ⟨rfl, .nil⟩)
          case F7 => k_asm
          case N7 => k_asm
          case turn7 =>
            rintro i5 ys nw v I oI C oC D m₂ h5 tk5 E5 hlt r9_189_14 hv5 hC hx5 F5 N5 off5 ne5
            refine hid fun hn9_189 => ?_
            obtain ⟨rfl, hy⟩ := r9_189_14
            refine hn9_189 ?_
            clear hn9_189
            obtain ⟨q, hq, rfl⟩ : ∃ q, l6[i5]? = some q ∧ v = .str q.1 q.2 := by
              simp only [strValues, List.getElem?_toArray, List.getElem?_map, Option.map_eq_some_iff] at hv5
              refine hid fun hn9_190 => ?_
              obtain ⟨q, hq, e⟩ := hv5
              refine hn9_190 ?_
              clear hn9_190
              exact ⟨q, hq, e.symm⟩
            (repeat' (first | (k_unfold; (try dsimp only)) | (k_end; wrow_close) | (first | (with_reducible (k_here; first | (refine ite_bt ?hq ?_; (case hq => with_reducible assumption)) | (refine ite_bf ?hq ?_; (case hq => with_reducible assumption)) | (refine ite_in_t ?hq ?_; (case hq => with_reducible assumption)) | (refine ite_in_f ?hq ?_; (case hq => with_reducible assumption)) | (refine ite_bt ?hq ?_; (case hq => decide +kernel)) | (refine ite_bf ?hq ?_; (case hq => decide +kernel)))) | walk1) | (dsimp only; walk1) | (leave1; (try dsimp only)) | fail "no step"))
            · ((refine' LCg.CompEnd.intro ?cFq ?cNq _ ?csq (by assumption) ?cSq ⟨rfl, ?_⟩; (case cFq => k_asm); (case cNq => k_asm); (case csq => (intro p9q h9q; repeat (first | exact h9q | refine List.Mem.tail _ ?_))); (case cSq => first | exact trivial | exact .inr ⟨_, .head _, rfl, _, rfl⟩ | exact .inr ⟨_, .tail _ (.head _), rfl, _, rfl⟩ | exact .inr ⟨_, .tail _ (.tail _ (.head _)), rfl, _, rfl⟩)))
              exact strsL_yes (f := fun q => !(q == Str.ofString "")) hy hq (by assumption)
            · ((refine' LCg.CompEnd.intro ?cFq ?cNq _ ?csq (by assumption) ?cSq ⟨rfl, ?_⟩; (case cFq => k_asm); (case cNq => k_asm); (case csq => (intro p9q h9q; repeat (first | exact h9q | refine List.Mem.tail _ ?_))); (case cSq => first | exact trivial | exact .inr ⟨_, .head _, rfl, _, rfl⟩ | exact .inr ⟨_, .tail _ (.head _), rfl, _, rfl⟩ | exact .inr ⟨_, .tail _ (.tail _ (.head _)), rfl, _, rfl⟩)))
              exact strsL_no (f := fun q => !(q == Str.ofString "")) hy hq (by assumption)
          case fin7 =>
            rintro ys nw r9_191_2 D h5 tk5 F5 N5 o5
            refine hid fun hn9_191 => ?_
            obtain ⟨rfl, hy⟩ := r9_191_2
            refine hn9_191 ?_
            clear hn9_191
            have hy2 : StrsAre ys (ownT x) := by
              have e9 : (strValues l6).toArray.size = l6.length := by simp [strValues]
              rw [e9, List.take_length, e6, hop] at hy
              exact hy
            (repeat' (first | (k_unfold; (try dsimp only)) | (k_end; wrow_close) | (first | (with_reducible (k_here; first | (refine ite_bt ?hq ?_; (case hq => with_reducible assumption)) | (refine ite_bf ?hq ?_; (case hq => with_reducible assumption)) | (refine ite_in_t ?hq ?_; (case hq => with_reducible assumption)) | (refine ite_in_f ?hq ?_; (case hq => with_reducible assumption)) | (refine ite_bt ?hq ?_; (case hq => decide +kernel)) | (refine ite_bf ?hq ?_; (case hq => decide +kernel)))) | walk1) | (dsimp only; walk1) | (leave1; (try dsimp only)) | fail "no step"))
            refine' h D ys _ _ _ hy2 ?F8 ?N8 ?l8
            case F8 => k_asm
            case N8 => ((refine' kst_newsOf ?rN1q ?rSq; (case rN1q => k_asm); (case rSq => (refine List.forall_mem_cons.mpr ⟨?rAq, ?rBq⟩; (case rAq => k_memK); (case rBq => (intro p9q h9q; repeat (first | exact h9q | refine List.Mem.tail _ ?_)))))))
            case l8 => (intro p9 h9; exact off1Mem o5 _ (by repeat (first | exact h9 | refine List.Mem.tail _ ?_)))
end
end
section
-- text Lr
section
variable {prog : Program} {w : World} {A : Around} {E : Value → Shared → Prop} {s : Shared} {h₀ : Heap} {L D b : Addr} {m : Str → Option Value} {news : List (Addr × Obj)} {g : Obj → List (Addr × Obj)} {ys zs : List Value} {n n2 : Nat}
theorem app_any {x : Value} {Q : Value → Shared → Prop} (F : Fr h₀ L s.heap m) (N : News h₀ L s.heap news) (U : UpdF D (W.listOf ys.toArray n) news g) (hz : ys.length ≤ 1000000)
    (h : ∀ h' n', Fr h₀ L h' m → News h₀ L h' (g (W.listOf (ys ++ [x]).toArray n')) → Q .none { s with heap := h' }) : wpAny (model prog w) A (call (.builtin "list.append") [.ref D, x]) Q E s := by
  refine hid fun hn9_192 => ?_
  obtain ⟨pre, post, rfl, hg, a, c⟩ := U.split
  refine hn9_192 ?_
  clear hn9_192
  have z := N (D, W.listOf ys.toArray n) (List.mem_append.mpr (.inr (.head _)))
  refine append_at (hsz := by rw [List.size_toArray, sizeLine_eq]; omega) z.1 fun h' hs ho' => h h' (n + 1) (F.change hs z.2.1 z.2.2) ?_
  rw [hg]
  refine news_set N a c hs ?_
  rw [ho', List.push_toArray]
theorem ext_any {Q : Value → Shared → Prop} (F : Fr h₀ L s.heap m) (N : News h₀ L s.heap news) (hb : (b, W.listOf zs.toArray n2) ∈ news) (U : UpdF D (W.listOf ys.toArray n) news g) (hz : ys.length + zs.length ≤ 1000000)
    (h : ∀ h' n', Fr h₀ L h' m → News h₀ L h' (g (W.listOf (ys ++ zs).toArray n')) → Q .none { s with heap := h' }) : wpAny (model prog w) A (call (.builtin "list.extend") [.ref D, .ref b]) Q E s := by
  refine hid fun hn9_193 => ?_
  obtain ⟨pre, post, rfl, hg, a, c⟩ := U.split
  refine hn9_193 ?_
  clear hn9_193
  have z := N (D, W.listOf ys.toArray n) (List.mem_append.mpr (.inr (.head _)))
  have hd : ¬(!ys.toArray.isEmpty && Builtin.List.listTooLong (ys.toArray.size + zs.toArray.size)) = true := by
    have e : Builtin.List.listTooLong (ys.toArray.size + zs.toArray.size) = false := by
      unfold Builtin.List.listTooLong
      rw [List.size_toArray, List.size_toArray, sizeLine_eq]
      exact decide_eq_false (by omega)
    rw [e, Bool.and_false]; exact Bool.false_ne_true
  by_cases hne : zs = []
  · refine hid fun hn9_194 => ?_
    subst hne <;> (refine hn9_194 ?_; clear hn9_194)
    refine call_meets PySem.F.slot_list_extend ⟨_, z.1, rfl⟩ PySem.F.entry_list_extend (PySem.F.args_list_extend_2 _ _) (PySem.AutoSeq1.list_extend_list_list_0 D ys.toArray n b #[] n2 hd (by rw [List.size_toArray, sizeLine_eq]; omega) (by rw [List.size_toArray, sizeLine_eq]; simp; omega))
      ⟨z.1, (N _ hb).1, h _ n (F.change (Heap.SameBut.update ..) z.2.1 z.2.2) ?_⟩
    rw [hg, List.append_nil]
    exact kl_turn0 (fun x => x ++ #[]) N a c (by simp) rfl
  · refine call_meets PySem.F.slot_list_extend ⟨_, z.1, rfl⟩ PySem.F.entry_list_extend (PySem.F.args_list_extend_2 _ _) (PySem.AutoSeq1.list_extend_list_list_0 D ys.toArray n b zs.toArray n2 hd (by rw [List.size_toArray, sizeLine_eq]; omega) (by rw [List.size_toArray, List.size_toArray, sizeLine_eq]; omega))
      ⟨z.1, (N _ hb).1, h _ (n + 1) (F.change (Heap.SameBut.update ..) z.2.1 z.2.2) ?_⟩
    rw [hg]
    refine kl_turn _ N a c (by simp) ?_
    simp [hne]
theorem len_any {Q : Value → Shared → Prop} (N : News h₀ L s.heap news) (hb : (b, W.listOf ys.toArray n) ∈ news) (hz : ys.length ≤ 1000000)
    (h : Q (.int ys.length (s.toks + 1)) { s with toks := s.toks + 1 + 1 }) : wpAny (model prog w) A (call (.builtin "len") [.ref b]) Q E s := by
  refine len_list (News.isList N hb) (by rw [List.size_toArray]; omega) ?_
  rw [List.size_toArray]; exact h
theorem item_any {value slice : Expr} {k : Int} {u : Tok} {i : Nat} {v : Value} {Q : Value → Shared → Prop} (N : News h₀ L s.heap news) (hb : (b, W.listOf ys.toArray n) ∈ news) (hx : ys[i]? = some v) (hk : k = (i : Int)) (hz : ys.length ≤ 1000000) (h : Q v s)
    (hs : subscripted slice false (.ref b) (.int k u) = operate [.ref b, .int k u] (getItem (.ref b) (.int k u)) := by with_unfolding_all rfl) : wpAny (model prog w) A (subscriptTail value slice (.ref b) (.int k u)) Q E s := by
  have hlt : i < ys.length := (List.getElem?_eq_some_iff.mp hx).1
  exact tail_any (News.isList N hb).typeIs slot_list_getitem.lookup (wpAny_getItem_list (News.isList N hb) (by omega) (by omega) (by rw [hk]; simpa using hx) h) hs
theorem item_last {value slice : Expr} {u : Tok} {v : Value} {Q : Value → Shared → Prop} (N : News h₀ L s.heap news) (hb : (b, W.listOf (ys ++ [v]).toArray n) ∈ news) (hz : ys.length ≤ 1000000) (h : Q v s)
    (hs : subscripted slice false (.ref b) (.int (-1) u) = operate [.ref b, .int (-1) u] (getItem (.ref b) (.int (-1) u)) := by with_unfolding_all rfl) : wpAny (model prog w) A (subscriptTail value slice (.ref b) (.int (-1) u)) Q E s := by
  refine tail_any (News.isList N hb).typeIs slot_list_getitem.lookup (wpAny_getItem_list_neg (News.isList N hb) (by omega) ?_ (by omega) ?_ h) hs
  · simp; omega
  · have e : ((-1 : Int) + ((ys ++ [v]).toArray.size : Nat)).toNat = ys.length := by simp; omega
    rw [e]; simp
end
end
section
-- text Tp
section
noncomputable def dash (c : Nat) : Nat := if c = 95 then 45 else c
noncomputable def wordP (p : PA) : Str := sL (p.k.cps.toList.map dash)
noncomputable def tokP (p : PA) : Str := match p.v with
  | some x => if x.length = 0 then wordP p else wordP p ++ Str.ofString "=" ++ x
  | none => wordP p
noncomputable def psT : Bool → List PA → List Str
  | _, [] => []
  | b, p :: r => (if b = true then [Str.ofString ";"] else []) ++ tokP p :: psT true r
noncomputable def ownP : Option Str → List Str
  | some x => ownT x
  | none => []
noncomputable def tokH (h : HA) : List Str := h.k :: Str.ofString ":" :: (ownP h.v ++ psT h.v.isSome h.ps)
theorem psT_snoc : ∀ (l : List PA) (b : Bool) (p : PA), psT b (l ++ [p]) = psT b l ++ ((if (b || !l.isEmpty) = true then [Str.ofString ";"] else []) ++ [tokP p])
  | [], b, p => by simp [psT]
  | q :: l, b, p => by
    have ih := psT_snoc l true p
    simp only [List.cons_append, psT, ih, Bool.true_or, if_true, List.isEmpty_cons, Bool.not_false, Bool.or_true]
    simp
theorem psT_next {ps : List PA} {i : Nat} {p : PA} {b : Bool} (h : ps[i]? = some p) : psT b (ps.take (i + 1)) = psT b (ps.take i) ++ ((if (b || decide (0 < i)) = true then [Str.ofString ";"] else []) ++ [tokP p]) := by
  have hlt : i < ps.length := (List.getElem?_eq_some_iff.mp h).1
  rw [take_snocL h, psT_snoc]
  congr 4
  cases i with
  | zero => simp
  | succ j =>
    cases ps with
    | nil => simp at hlt
    | cons a r => simp
theorem dash_yes {c : Nat} (h : ((⟨#[c]⟩ : Str) == Str.ofString "_") = true) : sL [dash c] = Str.ofString "-" := by
  have e : (⟨#[c]⟩ : Str) = Str.ofString "_" := eq_of_beq h
  have e2 : Str.ofString "_" = ⟨#[95]⟩ := by decide +kernel
  rw [e2] at e
  have e3 : c = 95 := by
    have := congrArg (fun x : Str => x.cps) e
    simpa using this
  refine hid fun hn9_195 => ?_
  subst e3 <;> (refine hn9_195 ?_; clear hn9_195)
  decide +kernel
theorem dash_no {c : Nat} (h : ((⟨#[c]⟩ : Str) == Str.ofString "_") = false) : sL [dash c] = ⟨#[c]⟩ := by
  have e : c ≠ 95 := by
    intro e
    refine hid fun hn9_196 => ?_
    subst e <;> (refine hn9_196 ?_; clear hn9_196)
    have e2 : Str.ofString "_" = ⟨#[95]⟩ := by decide +kernel
    rw [e2, beq_self_eq_true] at h
    refine hid fun hn9_197 => ?_
    cases h <;> (refine hn9_197 ?_; clear hn9_197)
  unfold dash
  rw [if_neg e]
theorem word_eq (l : List Nat) : Str.join (Str.ofString "") (l.map fun c => sL [dash c]) = sL (l.map dash) := by
  have h := join_empty_codes (l.map fun c => [dash c])
  rw [List.map_map] at h
  refine Str.ext' (Array.toList_inj.mp ?_)
  refine Eq.trans h ?_
  show _ = (l.map dash).toArray.toList
  rw [List.toList_toArray]
  clear h
  induction l with
  | nil => rfl
  | cons c l ih => simp only [List.map_cons, List.flatten_cons, ih]; rfl
theorem word_len (l : List Nat) : (sL (l.map dash)).length = l.length := by rw [sL_len, List.length_map]
theorem dash_sum (l : List Nat) : ((l.map fun c => sL [dash c]).map (·.length)).sum = l.length := by
  induction l with
  | nil => rfl
  | cons c l ih =>
    simp only [List.map_cons, List.sum_cons, List.length_cons, ih]
    rw [sL_len]
    show 1 + _ = _
    omega
end
end
section
-- text Tk
local macro_rules | `(tactic| k_all) => `(tactic| ((repeat (with_reducible rename (_ ∧ _) => hh9; cases hh9)); first | exact allNe (by assumption) (Nat.le_refl _) | exact allNe (by assumption) (Nat.le_succ _) | exact allNe2 (by assumption) (Nat.le_refl _) | exact off1Mem (by assumption) | assumption | exact allNe2 (by assumption) (by omega) | exact allNe (by assumption) (by omega)))
section
variable {w : World} {p : Program} {loose : List Str} {mean : ExcName → Option Value} {mg mb : Str → Option Value}
  {dp un : Nat} {gd : Option (List Code)} {cn : Str} {cs : Scope} {a : Addr} {ccd : Value} {cl : List (Str × Addr)} {outer : List Env} {A₀ : Around} {base h₀ : Heap} {L : Addr} {m : Str → Option Value} {s : Shared} {Q E : Value → Shared → Prop}
inductive TkA (s : Shared) (g5 : Heap) (L5 ha row : Addr) (k : Str) (v : Option Str) (R : List (Addr × Obj)) (s' : Shared) : Prop
  | of (h' : Heap) (tk nn : Nat) (u : Str → Option Value) (zs ys0 : List Value) (h1 : s' = { s with heap := h', toks := tk }) (h2 : Fr g5 L5 h' (fx [("head", .ref ha), ("row", .ref row)] u)) (h3 : StrsAre ys0 [k, Str.ofString ":"]) (h4 : StrsAre zs (ownP v)) (h5 : zs.length ≤ 3000)
    (h6 : News g5 L5 h' ((row, W.listOf (ys0 ++ zs).toArray nn) :: R)) : TkA s g5 L5 ha row k v R s'
inductive TkJ (ha row : Addr) (k : Str) (v : Option Str) (ps : List PA) (R : List (Addr × Obj)) (i : Nat) (m : Str → Option Value) (nw : List (Addr × Obj)) : Prop
  | of (u : Str → Option Value) (ys : List Value) (nn : Nat) (h1 : m = fx [("head", .ref ha), ("row", .ref row)] u) (h2 : StrsAre ys (k :: Str.ofString ":" :: (ownP v ++ psT v.isSome (ps.take i)))) (h3 : ys.length ≤ 5000 + 2 * i) (h4 : nw = (row, W.listOf ys.toArray nn) :: R) : TkJ ha row k v ps R i m nw
inductive TkB (s : Shared) (g5 : Heap) (L5 ha row I qa : Addr) (oI : Obj) (qk : Str) (qv : Option Str) (qtk qtv : Tok) (qn : Nat) (v : Option Str) (i5 : Nat) (ys : List Value) (R : List (Addr × Obj)) (s' : Shared) : Prop
  | of (h' : Heap) (tk nn : Nat) (u : Str → Option Value) (zs : List Value) (h1 : s' = { s with heap := h', toks := tk }) (h2 : Fr g5 L5 h' (fx [("head", .ref ha), ("row", .ref row), ("name", .str qk qtk), ("text", oV qv qtv)] u)) (h3 : StrsAre zs (if (v.isSome || decide (0 < i5)) = true then [Str.ofString ";"] else [])) (h4 : zs.length ≤ 1)
    (h5 : News g5 L5 h' ((I, oI) :: (qa, W.listOf #[.str qk qtk, oV qv qtv] qn) :: (row, W.listOf (ys ++ zs).toArray nn) :: R)) : TkB s g5 L5 ha row I qa oI qk qv qtk qtv qn v i5 ys R s'
theorem tokens_spec {news : List (Addr × Obj)} {hd : HA}
  (B : Below A₀ base outer h₀) (F : Fr h₀ L s.heap m) (X : (Mine.mkK.heap_1 w.params).In h₀) (N : News h₀ L s.heap (hd.led ++ news)) (T : Top p loose mean mg mb h₀) (hk : cs.kind = .function)
  (hdp : dp + 10 < recursionLimit) (hun : un + 100 < cLine) (hx : hd.k.length ≤ 1000) (hv : (hd.v.getD "").length ≤ 1000) (hp : ∀ q ∈ hd.ps, q.k.length ≤ 1000 ∧ (q.v.getD "").length ≤ 1000) (hps : hd.ps.length ≤ 1000)
  (h : ∀ D ys n h' tk', StrsAre ys (tokH hd) → Fr h₀ L h' m → News h₀ L h' ((D, W.listOf ys.toArray n) :: (hd.led ++ news)) → (∀ q ∈ hd.led ++ news, q.1 ≠ D) → Q (.ref D) { s with heap := h', toks := tk' }) :
  wpAny (model PySem.Challenge.rw_in0111_01.row.prog w) (ktrTop dp un gd cn cs L a ccd cl outer) (call (.ref 928) [.ref hd.a]) Q E s := by
  refine hid fun hn9_198 => ?_
  obtain ⟨ha, hb, k, v, tA, tB, n, n2, ps⟩ := hd
  refine hn9_198 ?_
  clear hn9_198
  dsimp only [HA.led, HA.obj, HA.obb] at N h hx hv hp hps ⊢
  simp only [List.cons_append] at N h
  revert X; k_fill; intro X
  have hrl : (refsOf ps).length ≤ 1000 := by unfold refsOf; rw [List.length_map]; exact hps
  refine wpAny_call ?_
  ((k_dflt (refine' code_def ?k1q ?k2q ?k3q ?k4q ?k5q ?kAq ?kFq ?kKq ?k6q ?k7q ?k8q ?k9q ?kBq ?_ ?c2q ?c3q ?c4q ?c5q; (case kAq => exact rfl); (case kFq => exact rfl); (case kKq => assumption); (case k1q => k_asm); (case k2q => k_asm); (case k3q => k_asm); (case k4q => k_asm); (case k5q => k_asm); (case k6q => k_is); (case k7q => k_is); (case k8q => ktr_room); (case k9q => first | exact BindsTo.of_eq rfl | exact binds_K (by k_in) rfl (by k_is) rfl rfl rfl); (case c5q => decide); (case kBq => exact locs rfl); (case c2q => exact rfl); (case c3q => exact rfl); (case c4q => exact rfl); k_whole; intro gq Lq hq FGq Fq Nq Bq Xq Tq; (try dsimp only); (try k_lift Bq); (try k_fold))))
  (repeat' (first | (k_unfold; (try dsimp only)) | (k_end; wrow_close) | ((fail_if_success (with_reducible show wpAny _ _ (exec (Stmt.If _ _ _ _) _) _ _ _)); (first | (with_reducible (k_here; (with_reducible show wpAny _ _ (call (Value.builtin "len") [Value.ref _]) _ _ _); k_dflt (refine' len_any ?Nq ?mq ?zq ?_; (case Nq => k_asm); (case mq => k_mem); (case zq => (first | (with_reducible assumption) | ((try simp only [List.length_append, List.length_cons, List.length_nil]); omega))); k_whole))) | (with_reducible (k_here; (with_reducible show wpAny _ _ (call (Value.builtin _) [Value.ref _, _]) _ _ _); k_dflt (refine' app_any ?Fq ?Nq ?Uq ?zq ?_; (case Fq => k_asm); (case Nq => k_asm); (case Uq => k_updF); (case zq => (first | (with_reducible assumption) | ((try simp only [List.length_append, List.length_cons, List.length_nil]); omega))); k_whole; intro hq nq Fq Nq; (try dsimp only at Nq); (try k_sweep)))) | (with_reducible (k_here; (with_reducible show wpAny _ _ (call (Value.builtin _) [Value.ref _, _]) _ _ _); k_dflt (refine' ext_any ?Fq ?Nq ?mq ?Uq ?zq ?_; (case Fq => k_asm); (case Nq => k_asm); (case mq => k_mem); (case Uq => k_updF); (case zq => (first | (with_reducible assumption) | ((try simp only [List.length_append, List.length_cons, List.length_nil]); omega))); k_whole; intro hq nq Fq Nq; (try dsimp only at Nq); (try k_sweep)))) | (with_reducible ((with_reducible show wpAny _ _ (call (Value.ref 923) _) _ _ _); k_dflt (refine' own_spec ?kBq ?kFq ?kXq ?kNq ?kTq ?kKq ?kdq ?kuq ?kzq ?_; (case kFq => k_asm); (case kNq => k_asm); (case kBq => k_asm); (case kXq => k_asm); (case kTq => k_asm); (case kKq => first | exact rfl | assumption); (case kdq => ktr_room); (case kuq => ktr_units); (case kzq => first | (with_reducible assumption) | k_asm); k_whole; intro D9q ys9q n9q h9q tk9q hy9q F9q N9q d9q; (replace d9q := off1_of d9q); (have hl9 := own_len hy9q (by first | (with_reducible assumption) | k_asm)); (simp only [LCg.Off1] at d9q); (try dsimp only); (try k_fold)))) | (with_reducible (k_here; first | (refine ite_bt ?hq ?_; (case hq => with_reducible assumption)) | (refine ite_bf ?hq ?_; (case hq => with_reducible assumption)) | (refine ite_in_t ?hq ?_; (case hq => with_reducible assumption)) | (refine ite_in_f ?hq ?_; (case hq => with_reducible assumption)) | (refine ite_bt ?hq ?_; (case hq => decide +kernel)) | (refine ite_bf ?hq ?_; (case hq => decide +kernel)))) | (with_reducible (k_here; (with_reducible show wpAny _ _ (subscriptTail _ _ (Value.ref _) (Value.int _ _)) _ _ _); k_dflt (refine' item_any ?Nq ?mq ?xq ?kq ?zq ?_ ?hsq; (case Nq => k_asm); (case mq => k_mem); (case xq => with_reducible assumption); (case kq => omega); (case zq => (first | (with_reducible assumption) | ((try simp only [List.length_append, List.length_cons, List.length_nil]); omega))); (case hsq => with_unfolding_all rfl); k_whole))) | walk1)) | (dsimp only; (fail_if_success (with_reducible show wpAny _ _ (exec (Stmt.If _ _ _ _) _) _ _ _)); walk1) | fail "no step"))
  (rename News _ _ _ ((_, W.listOf #[_, _] _) :: _) => Nr)
  refine hid fun hn9_199 => ?_
  obtain ⟨row, hrow⟩ := addrOf Nr
  refine hn9_199 ?_
  clear hn9_199
  refine hid fun hn9_200 => ?_
  subst hrow <;> (refine hn9_200 ?_; clear hn9_200)
  refine hid fun hn9_201 => ?_
  obtain ⟨g5, L5, hg5, hL5⟩ := namesOf Nr
  refine hn9_201 ?_
  clear hn9_201
  refine hid fun hn9_202 => ?_
  subst hg5 <;> (refine hn9_202 ?_; clear hn9_202)
  refine hid fun hn9_203 => ?_
  subst hL5 <;> (refine hn9_203 ?_; clear hn9_203)
  have l1t : AllLt row (ps.map PA.led ++ news) := And.right (And.right (by assumption))
  refine if_join (R := TkA s g5 L5 ha row k v ((ha, W.listOf #[.str k tA, oV v tB, .ref hb] n) :: (hb, W.listOf (refsOf ps).toArray n2) :: (ps.map PA.led ++ news))) ?_ ?_
  · rcases v with _ | x
    · dsimp only [oV, Option.getD] at *
      (repeat' (first | (k_unfold; (try dsimp only)) | (k_end; wrow_close) | (first | (with_reducible (k_here; (with_reducible show wpAny _ _ (call (Value.builtin "len") [Value.ref _]) _ _ _); k_dflt (refine' len_any ?Nq ?mq ?zq ?_; (case Nq => k_asm); (case mq => k_mem); (case zq => (first | (with_reducible assumption) | ((try simp only [List.length_append, List.length_cons, List.length_nil]); omega))); k_whole))) | (with_reducible (k_here; (with_reducible show wpAny _ _ (call (Value.builtin _) [Value.ref _, _]) _ _ _); k_dflt (refine' app_any ?Fq ?Nq ?Uq ?zq ?_; (case Fq => k_asm); (case Nq => k_asm); (case Uq => k_updF); (case zq => (first | (with_reducible assumption) | ((try simp only [List.length_append, List.length_cons, List.length_nil]); omega))); k_whole; intro hq nq Fq Nq; (try dsimp only at Nq); (try k_sweep)))) | (with_reducible (k_here; (with_reducible show wpAny _ _ (call (Value.builtin _) [Value.ref _, _]) _ _ _); k_dflt (refine' ext_any ?Fq ?Nq ?mq ?Uq ?zq ?_; (case Fq => k_asm); (case Nq => k_asm); (case mq => k_mem); (case Uq => k_updF); (case zq => (first | (with_reducible assumption) | ((try simp only [List.length_append, List.length_cons, List.length_nil]); omega))); k_whole; intro hq nq Fq Nq; (try dsimp only at Nq); (try k_sweep)))) | (with_reducible ((with_reducible show wpAny _ _ (call (Value.ref 923) _) _ _ _); k_dflt (refine' own_spec ?kBq ?kFq ?kXq ?kNq ?kTq ?kKq ?kdq ?kuq ?kzq ?_; (case kFq => k_asm); (case kNq => k_asm); (case kBq => k_asm); (case kXq => k_asm); (case kTq => k_asm); (case kKq => first | exact rfl | assumption); (case kdq => ktr_room); (case kuq => ktr_units); (case kzq => first | (with_reducible assumption) | k_asm); k_whole; intro D9q ys9q n9q h9q tk9q hy9q F9q N9q d9q; (replace d9q := off1_of d9q); (have hl9 := own_len hy9q (by first | (with_reducible assumption) | k_asm)); (simp only [LCg.Off1] at d9q); (try dsimp only); (try k_fold)))) | (with_reducible (k_here; first | (refine ite_bt ?hq ?_; (case hq => with_reducible assumption)) | (refine ite_bf ?hq ?_; (case hq => with_reducible assumption)) | (refine ite_in_t ?hq ?_; (case hq => with_reducible assumption)) | (refine ite_in_f ?hq ?_; (case hq => with_reducible assumption)) | (refine ite_bt ?hq ?_; (case hq => decide +kernel)) | (refine ite_bf ?hq ?_; (case hq => decide +kernel)))) | (with_reducible (k_here; (with_reducible show wpAny _ _ (subscriptTail _ _ (Value.ref _) (Value.int _ _)) _ _ _); k_dflt (refine' item_any ?Nq ?mq ?xq ?kq ?zq ?_ ?hsq; (case Nq => k_asm); (case mq => k_mem); (case xq => with_reducible assumption); (case kq => omega); (case zq => (first | (with_reducible assumption) | ((try simp only [List.length_append, List.length_cons, List.length_nil]); omega))); (case hsq => with_unfolding_all rfl); k_whole))) | walk1) | (dsimp only; walk1) | (leave1; (try dsimp only)) | fail "no step"))
      refine' ⟨rfl, _, _, _, _, [], [.str k tA, .str (Str.ofString ":") _], rfl, ?F1, .cons _ _ (.cons _ _ .nil), .nil, Nat.zero_le _, ?N1⟩
      case F1 => ((refine' fr_fx ?fFq ?fEq; (case fFq => k_asm); (case fEq => ((repeat (refine List.forall_mem_cons.mpr ⟨rfl, ?_⟩)); exact List.forall_mem_nil _))))
      case N1 => ((refine' kst_newsOf ?rN1q ?rSq; (case rN1q => k_asm); (case rSq => ((repeat (refine List.forall_mem_cons.mpr ⟨by k_memK, ?_⟩)); (intro p9q h9q; repeat (first | exact h9q | refine List.Mem.tail _ ?_))))))
    · dsimp only [oV, Option.getD] at *
      (repeat' (first | (k_unfold; (try dsimp only)) | (k_end; wrow_close) | (first | (with_reducible (k_here; (with_reducible show wpAny _ _ (call (Value.builtin "len") [Value.ref _]) _ _ _); k_dflt (refine' len_any ?Nq ?mq ?zq ?_; (case Nq => k_asm); (case mq => k_mem); (case zq => (first | (with_reducible assumption) | ((try simp only [List.length_append, List.length_cons, List.length_nil]); omega))); k_whole))) | (with_reducible (k_here; (with_reducible show wpAny _ _ (call (Value.builtin _) [Value.ref _, _]) _ _ _); k_dflt (refine' app_any ?Fq ?Nq ?Uq ?zq ?_; (case Fq => k_asm); (case Nq => k_asm); (case Uq => k_updF); (case zq => (first | (with_reducible assumption) | ((try simp only [List.length_append, List.length_cons, List.length_nil]); omega))); k_whole; intro hq nq Fq Nq; (try dsimp only at Nq); (try k_sweep)))) | (with_reducible (k_here; (with_reducible show wpAny _ _ (call (Value.builtin _) [Value.ref _, _]) _ _ _); k_dflt (refine' ext_any ?Fq ?Nq ?mq ?Uq ?zq ?_; (case Fq => k_asm); (case Nq => k_asm); (case mq => k_mem); (case Uq => k_updF); (case zq => (first | (with_reducible assumption) | ((try simp only [List.length_append, List.length_cons, List.length_nil]); omega))); k_whole; intro hq nq Fq Nq; (try dsimp only at Nq); (try k_sweep)))) | (with_reducible ((with_reducible show wpAny _ _ (call (Value.ref 923) _) _ _ _); k_dflt (refine' own_spec ?kBq ?kFq ?kXq ?kNq ?kTq ?kKq ?kdq ?kuq ?kzq ?_; (case kFq => k_asm); (case kNq => k_asm); (case kBq => k_asm); (case kXq => k_asm); (case kTq => k_asm); (case kKq => first | exact rfl | assumption); (case kdq => ktr_room); (case kuq => ktr_units); (case kzq => first | (with_reducible assumption) | k_asm); k_whole; intro D9q ys9q n9q h9q tk9q hy9q F9q N9q d9q; (replace d9q := off1_of d9q); (have hl9 := own_len hy9q (by first | (with_reducible assumption) | k_asm)); (simp only [LCg.Off1] at d9q); (try dsimp only); (try k_fold)))) | (with_reducible (k_here; first | (refine ite_bt ?hq ?_; (case hq => with_reducible assumption)) | (refine ite_bf ?hq ?_; (case hq => with_reducible assumption)) | (refine ite_in_t ?hq ?_; (case hq => with_reducible assumption)) | (refine ite_in_f ?hq ?_; (case hq => with_reducible assumption)) | (refine ite_bt ?hq ?_; (case hq => decide +kernel)) | (refine ite_bf ?hq ?_; (case hq => decide +kernel)))) | (with_reducible (k_here; (with_reducible show wpAny _ _ (subscriptTail _ _ (Value.ref _) (Value.int _ _)) _ _ _); k_dflt (refine' item_any ?Nq ?mq ?xq ?kq ?zq ?_ ?hsq; (case Nq => k_asm); (case mq => k_mem); (case xq => with_reducible assumption); (case kq => omega); (case zq => (first | (with_reducible assumption) | ((try simp only [List.length_append, List.length_cons, List.length_nil]); omega))); (case hsq => with_unfolding_all rfl); k_whole))) | walk1) | (dsimp only; walk1) | (leave1; (try dsimp only)) | fail "no step"))
      (rename (StrsAre _ (ownT _)) => hy9)
      refine' ⟨rfl, _, _, _, _, _, [.str k tA, .str (Str.ofString ":") _], rfl, ?F2, .cons _ _ (.cons _ _ .nil), hy9, ?l2, ?N2⟩
      case F2 => ((refine' fr_fx ?fFq ?fEq; (case fFq => k_asm); (case fEq => ((repeat (refine List.forall_mem_cons.mpr ⟨rfl, ?_⟩)); exact List.forall_mem_nil _))))
      case N2 => ((refine' kst_newsOf ?rN1q ?rSq; (case rN1q => k_asm); (case rSq => ((repeat (refine List.forall_mem_cons.mpr ⟨by k_memK, ?_⟩)); (intro p9q h9q; repeat (first | exact h9q | refine List.Mem.tail _ ?_))))))
      case l2 => assumption
  · rintro s' r9_204_1
    refine hid fun hn9_204 => ?_
    obtain ⟨h', tk, nn, u, zs, ys0, rfl, F5, hy0, hzs, hzl, N5⟩ := r9_204_1
    refine hn9_204 ?_
    clear hn9_204
    dsimp only [fx] at F5
    clear Nr
    (repeat' (first | (k_unfold; (try dsimp only)) | (k_end; wrow_close) | ((fail_if_success (with_reducible show wpAny _ _ (pyIter _) _ _ _)); (first | (with_reducible (k_here; (with_reducible show wpAny _ _ (call (Value.builtin "len") [Value.ref _]) _ _ _); k_dflt (refine' len_any ?Nq ?mq ?zq ?_; (case Nq => k_asm); (case mq => k_mem); (case zq => (first | (with_reducible assumption) | ((try simp only [List.length_append, List.length_cons, List.length_nil]); omega))); k_whole))) | (with_reducible (k_here; (with_reducible show wpAny _ _ (call (Value.builtin _) [Value.ref _, _]) _ _ _); k_dflt (refine' app_any ?Fq ?Nq ?Uq ?zq ?_; (case Fq => k_asm); (case Nq => k_asm); (case Uq => k_updF); (case zq => (first | (with_reducible assumption) | ((try simp only [List.length_append, List.length_cons, List.length_nil]); omega))); k_whole; intro hq nq Fq Nq; (try dsimp only at Nq); (try k_sweep)))) | (with_reducible (k_here; (with_reducible show wpAny _ _ (call (Value.builtin _) [Value.ref _, _]) _ _ _); k_dflt (refine' ext_any ?Fq ?Nq ?mq ?Uq ?zq ?_; (case Fq => k_asm); (case Nq => k_asm); (case mq => k_mem); (case Uq => k_updF); (case zq => (first | (with_reducible assumption) | ((try simp only [List.length_append, List.length_cons, List.length_nil]); omega))); k_whole; intro hq nq Fq Nq; (try dsimp only at Nq); (try k_sweep)))) | (with_reducible ((with_reducible show wpAny _ _ (call (Value.ref 923) _) _ _ _); k_dflt (refine' own_spec ?kBq ?kFq ?kXq ?kNq ?kTq ?kKq ?kdq ?kuq ?kzq ?_; (case kFq => k_asm); (case kNq => k_asm); (case kBq => k_asm); (case kXq => k_asm); (case kTq => k_asm); (case kKq => first | exact rfl | assumption); (case kdq => ktr_room); (case kuq => ktr_units); (case kzq => first | (with_reducible assumption) | k_asm); k_whole; intro D9q ys9q n9q h9q tk9q hy9q F9q N9q d9q; (replace d9q := off1_of d9q); (have hl9 := own_len hy9q (by first | (with_reducible assumption) | k_asm)); (simp only [LCg.Off1] at d9q); (try dsimp only); (try k_fold)))) | (with_reducible (k_here; first | (refine ite_bt ?hq ?_; (case hq => with_reducible assumption)) | (refine ite_bf ?hq ?_; (case hq => with_reducible assumption)) | (refine ite_in_t ?hq ?_; (case hq => with_reducible assumption)) | (refine ite_in_f ?hq ?_; (case hq => with_reducible assumption)) | (refine ite_bt ?hq ?_; (case hq => decide +kernel)) | (refine ite_bf ?hq ?_; (case hq => decide +kernel)))) | (with_reducible (k_here; (with_reducible show wpAny _ _ (subscriptTail _ _ (Value.ref _) (Value.int _ _)) _ _ _); k_dflt (refine' item_any ?Nq ?mq ?xq ?kq ?zq ?_ ?hsq; (case Nq => k_asm); (case mq => k_mem); (case xq => with_reducible assumption); (case kq => omega); (case zq => (first | (with_reducible assumption) | ((try simp only [List.length_append, List.length_cons, List.length_nil]); omega))); (case hsq => with_unfolding_all rfl); k_whole))) | walk1)) | (dsimp only; (fail_if_success (with_reducible show wpAny _ _ (pyIter _) _ _ _)); walk1) | fail "no step"))
    have hl0 : ys0.length = 2 := hy0.len_eq
    refine' iter_rngG (n := ps.length) (TkJ ha row k v ps ((ha, W.listOf #[.str k tA, oV v tB, .ref hb] n) :: (hb, W.listOf (refsOf ps).toArray n2) :: (ps.map PA.led ++ news))) (by rfl) ?hr1 ?hsm1 ?hn1 ?F1 ?N1 ⟨_, ys0 ++ zs, ?n1, fx_self _ _ ?a1, ?b1, ?c1, rfl⟩ ?turn1 ?done1
    case hr1 => assumption
    case F1 => k_asm
    case a1 => exact List.forall_mem_cons.mpr ⟨rfl, List.forall_mem_cons.mpr ⟨rfl, List.forall_mem_nil _⟩⟩
    case N1 => ((refine' kst_newsOf ?rN1q ?rSq; (case rN1q => k_asm); (case rSq => ((repeat (refine List.forall_mem_cons.mpr ⟨by k_memK, ?_⟩)); (intro p9q h9q; repeat (first | exact h9q | refine List.Mem.tail _ ?_))))))
    case b1 => rw [show psT v.isSome (ps.take 0) = [] from rfl, List.append_nil]; exact hy0.append' hzs
    case c1 => rw [List.length_append]; omega
    case hsm1 => exact small_one (by omega) (by omega) (by omega) (by omega)
    case hn1 => rw [rangeSize_nat]; unfold refsOf; rw [List.length_map]; omega
    case turn1 =>
      rintro i5 t5 m₁ nw h5 tk5 I oI hi r9_205_9 off F5 N5
      refine hid fun hn9_205 => ?_
      obtain ⟨u, ys, nn, rfl, hys, hyl, rfl⟩ := r9_205_9
      refine hn9_205 ?_
      clear hn9_205
      replace off := off1_of off
      simp only [LCg.Off1] at off
      dsimp only [fx] at F5
      have hyl2 : ys.length ≤ 9000 := by omega
      refine hid fun hn9_206 => ?_
      obtain ⟨q, hq⟩ : ∃ q, ps[i5]? = some q := ⟨_, List.getElem?_eq_getElem hi⟩
      refine hn9_206 ?_
      clear hn9_206
      refine hid fun hn9_207 => ?_
      obtain ⟨hq1, hq2⟩ := hp q (List.mem_of_getElem? hq)
      refine hn9_207 ?_
      clear hn9_207
      have hr5 : (refsOf ps)[i5]? = some (.ref q.a) := by unfold refsOf; rw [List.getElem?_map, hq]; rfl
      have N6 := news_plus (p := (q.a, q.obj)) N5 (.tail _ (.tail _ (.tail _ (.tail _ (List.mem_append_left _ (List.mem_map.mpr ⟨q, List.mem_of_getElem? hq, rfl⟩))))))
      clear N5
      have hqr : q.a ≠ row := allNe2 l1t (Nat.le_refl _) _ (List.mem_append_left _ (List.mem_map.mpr ⟨q, List.mem_of_getElem? hq, rfl⟩))
      have hpt := psT_next (b := v.isSome) hq
      refine hid fun hn9_208 => ?_
      obtain ⟨qa, qk, qv, qtk, qtv, qn⟩ := q
      refine hn9_208 ?_
      clear hn9_208
      dsimp only [PA.obj] at N6 hq1 hq2 hr5 hqr
      (repeat' (first | (k_unfold; (try dsimp only)) | (k_end; wrow_close) | ((fail_if_success (with_reducible show wpAny _ _ (exec (Stmt.If _ _ _ _) _) _ _ _)); (first | (with_reducible (k_here; (with_reducible show wpAny _ _ (call (Value.builtin "len") [Value.ref _]) _ _ _); k_dflt (refine' len_any ?Nq ?mq ?zq ?_; (case Nq => k_asm); (case mq => k_mem); (case zq => (first | (with_reducible assumption) | ((try simp only [List.length_append, List.length_cons, List.length_nil]); omega))); k_whole))) | (with_reducible (k_here; (with_reducible show wpAny _ _ (call (Value.builtin _) [Value.ref _, _]) _ _ _); k_dflt (refine' app_any ?Fq ?Nq ?Uq ?zq ?_; (case Fq => k_asm); (case Nq => k_asm); (case Uq => k_updF); (case zq => (first | (with_reducible assumption) | ((try simp only [List.length_append, List.length_cons, List.length_nil]); omega))); k_whole; intro hq nq Fq Nq; (try dsimp only at Nq); (try k_sweep)))) | (with_reducible (k_here; (with_reducible show wpAny _ _ (call (Value.builtin _) [Value.ref _, _]) _ _ _); k_dflt (refine' ext_any ?Fq ?Nq ?mq ?Uq ?zq ?_; (case Fq => k_asm); (case Nq => k_asm); (case mq => k_mem); (case Uq => k_updF); (case zq => (first | (with_reducible assumption) | ((try simp only [List.length_append, List.length_cons, List.length_nil]); omega))); k_whole; intro hq nq Fq Nq; (try dsimp only at Nq); (try k_sweep)))) | (with_reducible ((with_reducible show wpAny _ _ (call (Value.ref 923) _) _ _ _); k_dflt (refine' own_spec ?kBq ?kFq ?kXq ?kNq ?kTq ?kKq ?kdq ?kuq ?kzq ?_; (case kFq => k_asm); (case kNq => k_asm); (case kBq => k_asm); (case kXq => k_asm); (case kTq => k_asm); (case kKq => first | exact rfl | assumption); (case kdq => ktr_room); (case kuq => ktr_units); (case kzq => first | (with_reducible assumption) | k_asm); k_whole; intro D9q ys9q n9q h9q tk9q hy9q F9q N9q d9q; (replace d9q := off1_of d9q); (have hl9 := own_len hy9q (by first | (with_reducible assumption) | k_asm)); (simp only [LCg.Off1] at d9q); (try dsimp only); (try k_fold)))) | (with_reducible (k_here; first | (refine ite_bt ?hq ?_; (case hq => with_reducible assumption)) | (refine ite_bf ?hq ?_; (case hq => with_reducible assumption)) | (refine ite_in_t ?hq ?_; (case hq => with_reducible assumption)) | (refine ite_in_f ?hq ?_; (case hq => with_reducible assumption)) | (refine ite_bt ?hq ?_; (case hq => decide +kernel)) | (refine ite_bf ?hq ?_; (case hq => decide +kernel)))) | (with_reducible (k_here; (with_reducible show wpAny _ _ (subscriptTail _ _ (Value.ref _) (Value.int _ _)) _ _ _); k_dflt (refine' item_any ?Nq ?mq ?xq ?kq ?zq ?_ ?hsq; (case Nq => k_asm); (case mq => k_mem); (case xq => with_reducible assumption); (case kq => omega); (case zq => (first | (with_reducible assumption) | ((try simp only [List.length_append, List.length_cons, List.length_nil]); omega))); (case hsq => with_unfolding_all rfl); k_whole))) | walk1)) | (dsimp only; (fail_if_success (with_reducible show wpAny _ _ (exec (Stmt.If _ _ _ _) _) _ _ _)); walk1) | fail "no step"))
      refine if_join (R := TkB s g5 L5 ha row I qa oI qk qv qtk qtv qn v i5 ys ((ha, W.listOf #[.str k tA, oV v tB, .ref hb] n) :: (hb, W.listOf (refsOf ps).toArray n2) :: (ps.map PA.led ++ news))) ?_ ?_
      · rcases v with _ | x
        · dsimp only [oV, Option.getD] at *
          (repeat' (first | (k_unfold; (try dsimp only)) | (k_end; wrow_close) | (first | (with_reducible (k_here; (with_reducible show wpAny _ _ (call (Value.builtin "len") [Value.ref _]) _ _ _); k_dflt (refine' len_any ?Nq ?mq ?zq ?_; (case Nq => k_asm); (case mq => k_mem); (case zq => (first | (with_reducible assumption) | ((try simp only [List.length_append, List.length_cons, List.length_nil]); omega))); k_whole))) | (with_reducible (k_here; (with_reducible show wpAny _ _ (call (Value.builtin _) [Value.ref _, _]) _ _ _); k_dflt (refine' app_any ?Fq ?Nq ?Uq ?zq ?_; (case Fq => k_asm); (case Nq => k_asm); (case Uq => k_updF); (case zq => (first | (with_reducible assumption) | ((try simp only [List.length_append, List.length_cons, List.length_nil]); omega))); k_whole; intro hq nq Fq Nq; (try dsimp only at Nq); (try k_sweep)))) | (with_reducible (k_here; (with_reducible show wpAny _ _ (call (Value.builtin _) [Value.ref _, _]) _ _ _); k_dflt (refine' ext_any ?Fq ?Nq ?mq ?Uq ?zq ?_; (case Fq => k_asm); (case Nq => k_asm); (case mq => k_mem); (case Uq => k_updF); (case zq => (first | (with_reducible assumption) | ((try simp only [List.length_append, List.length_cons, List.length_nil]); omega))); k_whole; intro hq nq Fq Nq; (try dsimp only at Nq); (try k_sweep)))) | (with_reducible ((with_reducible show wpAny _ _ (call (Value.ref 923) _) _ _ _); k_dflt (refine' own_spec ?kBq ?kFq ?kXq ?kNq ?kTq ?kKq ?kdq ?kuq ?kzq ?_; (case kFq => k_asm); (case kNq => k_asm); (case kBq => k_asm); (case kXq => k_asm); (case kTq => k_asm); (case kKq => first | exact rfl | assumption); (case kdq => ktr_room); (case kuq => ktr_units); (case kzq => first | (with_reducible assumption) | k_asm); k_whole; intro D9q ys9q n9q h9q tk9q hy9q F9q N9q d9q; (replace d9q := off1_of d9q); (have hl9 := own_len hy9q (by first | (with_reducible assumption) | k_asm)); (simp only [LCg.Off1] at d9q); (try dsimp only); (try k_fold)))) | (with_reducible (k_here; first | (refine ite_bt ?hq ?_; (case hq => with_reducible assumption)) | (refine ite_bf ?hq ?_; (case hq => with_reducible assumption)) | (refine ite_in_t ?hq ?_; (case hq => with_reducible assumption)) | (refine ite_in_f ?hq ?_; (case hq => with_reducible assumption)) | (refine ite_bt ?hq ?_; (case hq => decide +kernel)) | (refine ite_bf ?hq ?_; (case hq => decide +kernel)))) | (with_reducible (k_here; (with_reducible show wpAny _ _ (subscriptTail _ _ (Value.ref _) (Value.int _ _)) _ _ _); k_dflt (refine' item_any ?Nq ?mq ?xq ?kq ?zq ?_ ?hsq; (case Nq => k_asm); (case mq => k_mem); (case xq => with_reducible assumption); (case kq => omega); (case zq => (first | (with_reducible assumption) | ((try simp only [List.length_append, List.length_cons, List.length_nil]); omega))); (case hsq => with_unfolding_all rfl); k_whole))) | walk1) | (dsimp only; walk1) | (leave1; (try dsimp only)) | fail "no step"))
          · refine' ⟨rfl, _, _, _, _, [.str (Str.ofString ";") _], rfl, ?F3, ?s3, Nat.le_refl _, ?N3⟩
            case F3 => ((refine' fr_fx ?fFq ?fEq; (case fFq => k_asm); (case fEq => ((repeat (refine List.forall_mem_cons.mpr ⟨rfl, ?_⟩)); exact List.forall_mem_nil _))))
            case N3 => ((refine' kst_newsOf ?rN1q ?rSq; (case rN1q => k_asm); (case rSq => ((repeat (refine List.forall_mem_cons.mpr ⟨by k_memK, ?_⟩)); (intro p9q h9q; repeat (first | exact h9q | refine List.Mem.tail _ ?_))))))
            case s3 => rw [if_pos (by simp; omega)]; exact .cons _ _ .nil
          · refine' ⟨rfl, _, _, _, _, [], rfl, ?F4, ?s4, Nat.zero_le _, ?N4⟩
            case F4 => ((refine' fr_fx ?fFq ?fEq; (case fFq => k_asm); (case fEq => ((repeat (refine List.forall_mem_cons.mpr ⟨rfl, ?_⟩)); exact List.forall_mem_nil _))))
            case N4 => rw [List.append_nil]; ((refine' kst_newsOf ?rN1q ?rSq; (case rN1q => k_asm); (case rSq => ((repeat (refine List.forall_mem_cons.mpr ⟨by k_memK, ?_⟩)); (intro p9q h9q; repeat (first | exact h9q | refine List.Mem.tail _ ?_))))))
            case s4 => rw [if_neg (by simp; omega)]; exact .nil
        · dsimp only [oV, Option.getD] at *
          (repeat' (first | (k_unfold; (try dsimp only)) | (k_end; wrow_close) | (first | (with_reducible (k_here; (with_reducible show wpAny _ _ (call (Value.builtin "len") [Value.ref _]) _ _ _); k_dflt (refine' len_any ?Nq ?mq ?zq ?_; (case Nq => k_asm); (case mq => k_mem); (case zq => (first | (with_reducible assumption) | ((try simp only [List.length_append, List.length_cons, List.length_nil]); omega))); k_whole))) | (with_reducible (k_here; (with_reducible show wpAny _ _ (call (Value.builtin _) [Value.ref _, _]) _ _ _); k_dflt (refine' app_any ?Fq ?Nq ?Uq ?zq ?_; (case Fq => k_asm); (case Nq => k_asm); (case Uq => k_updF); (case zq => (first | (with_reducible assumption) | ((try simp only [List.length_append, List.length_cons, List.length_nil]); omega))); k_whole; intro hq nq Fq Nq; (try dsimp only at Nq); (try k_sweep)))) | (with_reducible (k_here; (with_reducible show wpAny _ _ (call (Value.builtin _) [Value.ref _, _]) _ _ _); k_dflt (refine' ext_any ?Fq ?Nq ?mq ?Uq ?zq ?_; (case Fq => k_asm); (case Nq => k_asm); (case mq => k_mem); (case Uq => k_updF); (case zq => (first | (with_reducible assumption) | ((try simp only [List.length_append, List.length_cons, List.length_nil]); omega))); k_whole; intro hq nq Fq Nq; (try dsimp only at Nq); (try k_sweep)))) | (with_reducible ((with_reducible show wpAny _ _ (call (Value.ref 923) _) _ _ _); k_dflt (refine' own_spec ?kBq ?kFq ?kXq ?kNq ?kTq ?kKq ?kdq ?kuq ?kzq ?_; (case kFq => k_asm); (case kNq => k_asm); (case kBq => k_asm); (case kXq => k_asm); (case kTq => k_asm); (case kKq => first | exact rfl | assumption); (case kdq => ktr_room); (case kuq => ktr_units); (case kzq => first | (with_reducible assumption) | k_asm); k_whole; intro D9q ys9q n9q h9q tk9q hy9q F9q N9q d9q; (replace d9q := off1_of d9q); (have hl9 := own_len hy9q (by first | (with_reducible assumption) | k_asm)); (simp only [LCg.Off1] at d9q); (try dsimp only); (try k_fold)))) | (with_reducible (k_here; first | (refine ite_bt ?hq ?_; (case hq => with_reducible assumption)) | (refine ite_bf ?hq ?_; (case hq => with_reducible assumption)) | (refine ite_in_t ?hq ?_; (case hq => with_reducible assumption)) | (refine ite_in_f ?hq ?_; (case hq => with_reducible assumption)) | (refine ite_bt ?hq ?_; (case hq => decide +kernel)) | (refine ite_bf ?hq ?_; (case hq => decide +kernel)))) | (with_reducible (k_here; (with_reducible show wpAny _ _ (subscriptTail _ _ (Value.ref _) (Value.int _ _)) _ _ _); k_dflt (refine' item_any ?Nq ?mq ?xq ?kq ?zq ?_ ?hsq; (case Nq => k_asm); (case mq => k_mem); (case xq => with_reducible assumption); (case kq => omega); (case zq => (first | (with_reducible assumption) | ((try simp only [List.length_append, List.length_cons, List.length_nil]); omega))); (case hsq => with_unfolding_all rfl); k_whole))) | walk1) | (dsimp only; walk1) | (leave1; (try dsimp only)) | fail "no step"))
          · refine' ⟨rfl, _, _, _, _, [.str (Str.ofString ";") _], rfl, ?F5, ?s5, Nat.le_refl _, ?N5⟩
            case F5 => ((refine' fr_fx ?fFq ?fEq; (case fFq => k_asm); (case fEq => ((repeat (refine List.forall_mem_cons.mpr ⟨rfl, ?_⟩)); exact List.forall_mem_nil _))))
            case N5 => ((refine' kst_newsOf ?rN1q ?rSq; (case rN1q => k_asm); (case rSq => ((repeat (refine List.forall_mem_cons.mpr ⟨by k_memK, ?_⟩)); (intro p9q h9q; repeat (first | exact h9q | refine List.Mem.tail _ ?_))))))
            case s5 => rw [if_pos (by simp)]; exact .cons _ _ .nil
          · refine' ⟨rfl, _, _, _, _, [.str (Str.ofString ";") _], rfl, ?F6, ?s6, Nat.le_refl _, ?N6⟩
            case F6 => ((refine' fr_fx ?fFq ?fEq; (case fFq => k_asm); (case fEq => ((repeat (refine List.forall_mem_cons.mpr ⟨rfl, ?_⟩)); exact List.forall_mem_nil _))))
            case N6 => ((refine' kst_newsOf ?rN1q ?rSq; (case rN1q => k_asm); (case rSq => ((repeat (refine List.forall_mem_cons.mpr ⟨by k_memK, ?_⟩)); (intro p9q h9q; repeat (first | exact h9q | refine List.Mem.tail _ ?_))))))
            case s6 => rw [if_pos (by simp)]; exact .cons _ _ .nil
      · rintro s' r9_209_1
        refine hid fun hn9_209 => ?_
        obtain ⟨h', tk, nn, u, zs, rfl, F5, hzs, hzl, N5⟩ := r9_209_1
        refine hn9_209 ?_
        clear hn9_209
        dsimp only [fx] at F5
        (repeat' (first | (k_unfold; (try dsimp only)) | (k_end; wrow_close) | ((fail_if_success (with_reducible show wpAny _ _ (eval (Expr.ListComp _ _ _ _) _) _ _ _)); (first | (with_reducible (k_here; (with_reducible show wpAny _ _ (call (Value.builtin "len") [Value.ref _]) _ _ _); k_dflt (refine' len_any ?Nq ?mq ?zq ?_; (case Nq => k_asm); (case mq => k_mem); (case zq => (first | (with_reducible assumption) | ((try simp only [List.length_append, List.length_cons, List.length_nil]); omega))); k_whole))) | (with_reducible (k_here; (with_reducible show wpAny _ _ (call (Value.builtin _) [Value.ref _, _]) _ _ _); k_dflt (refine' app_any ?Fq ?Nq ?Uq ?zq ?_; (case Fq => k_asm); (case Nq => k_asm); (case Uq => k_updF); (case zq => (first | (with_reducible assumption) | ((try simp only [List.length_append, List.length_cons, List.length_nil]); omega))); k_whole; intro hq nq Fq Nq; (try dsimp only at Nq); (try k_sweep)))) | (with_reducible (k_here; (with_reducible show wpAny _ _ (call (Value.builtin _) [Value.ref _, _]) _ _ _); k_dflt (refine' ext_any ?Fq ?Nq ?mq ?Uq ?zq ?_; (case Fq => k_asm); (case Nq => k_asm); (case mq => k_mem); (case Uq => k_updF); (case zq => (first | (with_reducible assumption) | ((try simp only [List.length_append, List.length_cons, List.length_nil]); omega))); k_whole; intro hq nq Fq Nq; (try dsimp only at Nq); (try k_sweep)))) | (with_reducible ((with_reducible show wpAny _ _ (call (Value.ref 923) _) _ _ _); k_dflt (refine' own_spec ?kBq ?kFq ?kXq ?kNq ?kTq ?kKq ?kdq ?kuq ?kzq ?_; (case kFq => k_asm); (case kNq => k_asm); (case kBq => k_asm); (case kXq => k_asm); (case kTq => k_asm); (case kKq => first | exact rfl | assumption); (case kdq => ktr_room); (case kuq => ktr_units); (case kzq => first | (with_reducible assumption) | k_asm); k_whole; intro D9q ys9q n9q h9q tk9q hy9q F9q N9q d9q; (replace d9q := off1_of d9q); (have hl9 := own_len hy9q (by first | (with_reducible assumption) | k_asm)); (simp only [LCg.Off1] at d9q); (try dsimp only); (try k_fold)))) | (with_reducible (k_here; first | (refine ite_bt ?hq ?_; (case hq => with_reducible assumption)) | (refine ite_bf ?hq ?_; (case hq => with_reducible assumption)) | (refine ite_in_t ?hq ?_; (case hq => with_reducible assumption)) | (refine ite_in_f ?hq ?_; (case hq => with_reducible assumption)) | (refine ite_bt ?hq ?_; (case hq => decide +kernel)) | (refine ite_bf ?hq ?_; (case hq => decide +kernel)))) | (with_reducible (k_here; (with_reducible show wpAny _ _ (subscriptTail _ _ (Value.ref _) (Value.int _ _)) _ _ _); k_dflt (refine' item_any ?Nq ?mq ?xq ?kq ?zq ?_ ?hsq; (case Nq => k_asm); (case mq => k_mem); (case xq => with_reducible assumption); (case kq => omega); (case zq => (first | (with_reducible assumption) | ((try simp only [List.length_append, List.length_cons, List.length_nil]); omega))); (case hsq => with_unfolding_all rfl); k_whole))) | walk1)) | (dsimp only; (fail_if_success (with_reducible show wpAny _ _ (eval (Expr.ListComp _ _ _ _) _) _ _ _)); walk1) | fail "no step"))
        k_dflt (refine ListComp_Us (F₀ := by k_asm) (by with_unfolding_all rfl) (by decide) (by rfl) (by decide) (by rfl) ?_)
        (repeat' (first | (k_unfold; (try dsimp only)) | (k_end; wrow_close) | (first | (with_reducible (k_here; (with_reducible show wpAny _ _ (call (Value.builtin "len") [Value.ref _]) _ _ _); k_dflt (refine' len_any ?Nq ?mq ?zq ?_; (case Nq => k_asm); (case mq => k_mem); (case zq => (first | (with_reducible assumption) | ((try simp only [List.length_append, List.length_cons, List.length_nil]); omega))); k_whole))) | (with_reducible (k_here; (with_reducible show wpAny _ _ (call (Value.builtin _) [Value.ref _, _]) _ _ _); k_dflt (refine' app_any ?Fq ?Nq ?Uq ?zq ?_; (case Fq => k_asm); (case Nq => k_asm); (case Uq => k_updF); (case zq => (first | (with_reducible assumption) | ((try simp only [List.length_append, List.length_cons, List.length_nil]); omega))); k_whole; intro hq nq Fq Nq; (try dsimp only at Nq); (try k_sweep)))) | (with_reducible (k_here; (with_reducible show wpAny _ _ (call (Value.builtin _) [Value.ref _, _]) _ _ _); k_dflt (refine' ext_any ?Fq ?Nq ?mq ?Uq ?zq ?_; (case Fq => k_asm); (case Nq => k_asm); (case mq => k_mem); (case Uq => k_updF); (case zq => (first | (with_reducible assumption) | ((try simp only [List.length_append, List.length_cons, List.length_nil]); omega))); k_whole; intro hq nq Fq Nq; (try dsimp only at Nq); (try k_sweep)))) | (with_reducible ((with_reducible show wpAny _ _ (call (Value.ref 923) _) _ _ _); k_dflt (refine' own_spec ?kBq ?kFq ?kXq ?kNq ?kTq ?kKq ?kdq ?kuq ?kzq ?_; (case kFq => k_asm); (case kNq => k_asm); (case kBq => k_asm); (case kXq => k_asm); (case kTq => k_asm); (case kKq => first | exact rfl | assumption); (case kdq => ktr_room); (case kuq => ktr_units); (case kzq => first | (with_reducible assumption) | k_asm); k_whole; intro D9q ys9q n9q h9q tk9q hy9q F9q N9q d9q; (replace d9q := off1_of d9q); (have hl9 := own_len hy9q (by first | (with_reducible assumption) | k_asm)); (simp only [LCg.Off1] at d9q); (try dsimp only); (try k_fold)))) | (with_reducible (k_here; first | (refine ite_bt ?hq ?_; (case hq => with_reducible assumption)) | (refine ite_bf ?hq ?_; (case hq => with_reducible assumption)) | (refine ite_in_t ?hq ?_; (case hq => with_reducible assumption)) | (refine ite_in_f ?hq ?_; (case hq => with_reducible assumption)) | (refine ite_bt ?hq ?_; (case hq => decide +kernel)) | (refine ite_bf ?hq ?_; (case hq => decide +kernel)))) | (with_reducible (k_here; (with_reducible show wpAny _ _ (subscriptTail _ _ (Value.ref _) (Value.int _ _)) _ _ _); k_dflt (refine' item_any ?Nq ?mq ?xq ?kq ?zq ?_ ?hsq; (case Nq => k_asm); (case mq => k_mem); (case xq => with_reducible assumption); (case kq => omega); (case zq => (first | (with_reducible assumption) | ((try simp only [List.length_append, List.length_cons, List.length_nil]); omega))); (case hsq => with_unfolding_all rfl); k_whole))) | walk1) | (dsimp only; walk1) | (leave1; (try dsimp only)) | fail "no step"))
        refine' StrSrcU.intro (by rfl) ?F8 ?N8 ?h8 (fun g1 => restU_J (fun j ys nw => nw = _ ∧ StrsAre ys ((qk.cps.toList.take j).map fun c => sL [dash c])) ?t8 ?f8 _ 0 [] _ (Nat.zero_add _) ⟨rfl, .nil⟩)
        case F8 => k_asm
        case N8 => k_asm
        case h8 => show qk.length ≤ _; rw [sizeLine_eq]; omega
        case t8 =>
          rintro i6 ys6 nw v6 I6 oI6 C6 oC6 D6 m₂ h6 tk6 E6 hlt6 r9_210_14 r9_210_15 hC6 hx6 F6 N7 off6 ne6
          refine hid fun hn9_210 => ?_
          obtain ⟨rfl, hy6⟩ := r9_210_14
          obtain ⟨c6, u6, hc6, rfl⟩ := r9_210_15
          refine hn9_210 ?_
          clear hn9_210
          (repeat' (first | (k_unfold; (try dsimp only)) | (k_end; wrow_close) | (first | (with_reducible (k_here; (with_reducible show wpAny _ _ (call (Value.builtin "len") [Value.ref _]) _ _ _); k_dflt (refine' len_any ?Nq ?mq ?zq ?_; (case Nq => k_asm); (case mq => k_mem); (case zq => (first | (with_reducible assumption) | ((try simp only [List.length_append, List.length_cons, List.length_nil]); omega))); k_whole))) | (with_reducible (k_here; (with_reducible show wpAny _ _ (call (Value.builtin _) [Value.ref _, _]) _ _ _); k_dflt (refine' app_any ?Fq ?Nq ?Uq ?zq ?_; (case Fq => k_asm); (case Nq => k_asm); (case Uq => k_updF); (case zq => (first | (with_reducible assumption) | ((try simp only [List.length_append, List.length_cons, List.length_nil]); omega))); k_whole; intro hq nq Fq Nq; (try dsimp only at Nq); (try k_sweep)))) | (with_reducible (k_here; (with_reducible show wpAny _ _ (call (Value.builtin _) [Value.ref _, _]) _ _ _); k_dflt (refine' ext_any ?Fq ?Nq ?mq ?Uq ?zq ?_; (case Fq => k_asm); (case Nq => k_asm); (case mq => k_mem); (case Uq => k_updF); (case zq => (first | (with_reducible assumption) | ((try simp only [List.length_append, List.length_cons, List.length_nil]); omega))); k_whole; intro hq nq Fq Nq; (try dsimp only at Nq); (try k_sweep)))) | (with_reducible ((with_reducible show wpAny _ _ (call (Value.ref 923) _) _ _ _); k_dflt (refine' own_spec ?kBq ?kFq ?kXq ?kNq ?kTq ?kKq ?kdq ?kuq ?kzq ?_; (case kFq => k_asm); (case kNq => k_asm); (case kBq => k_asm); (case kXq => k_asm); (case kTq => k_asm); (case kKq => first | exact rfl | assumption); (case kdq => ktr_room); (case kuq => ktr_units); (case kzq => first | (with_reducible assumption) | k_asm); k_whole; intro D9q ys9q n9q h9q tk9q hy9q F9q N9q d9q; (replace d9q := off1_of d9q); (have hl9 := own_len hy9q (by first | (with_reducible assumption) | k_asm)); (simp only [LCg.Off1] at d9q); (try dsimp only); (try k_fold)))) | (with_reducible (k_here; first | (refine ite_bt ?hq ?_; (case hq => with_reducible assumption)) | (refine ite_bf ?hq ?_; (case hq => with_reducible assumption)) | (refine ite_in_t ?hq ?_; (case hq => with_reducible assumption)) | (refine ite_in_f ?hq ?_; (case hq => with_reducible assumption)) | (refine ite_bt ?hq ?_; (case hq => decide +kernel)) | (refine ite_bf ?hq ?_; (case hq => decide +kernel)))) | (with_reducible (k_here; (with_reducible show wpAny _ _ (subscriptTail _ _ (Value.ref _) (Value.int _ _)) _ _ _); k_dflt (refine' item_any ?Nq ?mq ?xq ?kq ?zq ?_ ?hsq; (case Nq => k_asm); (case mq => k_mem); (case xq => with_reducible assumption); (case kq => omega); (case zq => (first | (with_reducible assumption) | ((try simp only [List.length_append, List.length_cons, List.length_nil]); omega))); (case hsq => with_unfolding_all rfl); k_whole))) | walk1) | (dsimp only; walk1) | (leave1; (try dsimp only)) | fail "no step"))
          · ((refine' LCg.CompEnd.intro ?cFq ?cNq _ ?csq (by assumption) ?cSq ⟨rfl, ?_⟩; (case cFq => k_asm); (case cNq => k_asm); (case csq => (intro p9q h9q; repeat (first | exact h9q | refine List.Mem.tail _ ?_))); (case cSq => first | exact trivial | exact .inr ⟨_, .head _, rfl, _, rfl⟩ | exact .inr ⟨_, .tail _ (.head _), rfl, _, rfl⟩ | exact .inr ⟨_, .tail _ (.tail _ (.head _)), rfl, _, rfl⟩)))
            exact strs_map hy6 hc6 (dash_yes (by assumption))
          · ((refine' LCg.CompEnd.intro ?cFq ?cNq _ ?csq (by assumption) ?cSq ⟨rfl, ?_⟩; (case cFq => k_asm); (case cNq => k_asm); (case csq => (intro p9q h9q; repeat (first | exact h9q | refine List.Mem.tail _ ?_))); (case cSq => first | exact trivial | exact .inr ⟨_, .head _, rfl, _, rfl⟩ | exact .inr ⟨_, .tail _ (.head _), rfl, _, rfl⟩ | exact .inr ⟨_, .tail _ (.tail _ (.head _)), rfl, _, rfl⟩)))
            exact strs_map hy6 hc6 (dash_no (by assumption))
        case f8 =>
          rintro ys6 nw r9_211_2 D6 h6 tk6 F6 N7 o6
          refine hid fun hn9_211 => ?_
          obtain ⟨rfl, hy6⟩ := r9_211_2
          refine hn9_211 ?_
          clear hn9_211
          rw [← Array.length_toList, List.take_length] at hy6
          have hl6 : qk.cps.toList.length ≤ 1000 := by rw [Array.length_toList]; exact hq1
          have hs6 := dash_sum qk.cps.toList
          (repeat' (first | (k_unfold; (try dsimp only)) | (k_end; wrow_close) | (first | (with_reducible (k_here; (with_reducible show wpAny _ _ (call (Value.builtin "len") [Value.ref _]) _ _ _); k_dflt (refine' len_any ?Nq ?mq ?zq ?_; (case Nq => k_asm); (case mq => k_mem); (case zq => (first | (with_reducible assumption) | ((try simp only [List.length_append, List.length_cons, List.length_nil]); omega))); k_whole))) | (with_reducible (k_here; (with_reducible show wpAny _ _ (call (Value.builtin _) [Value.ref _, _]) _ _ _); k_dflt (refine' app_any ?Fq ?Nq ?Uq ?zq ?_; (case Fq => k_asm); (case Nq => k_asm); (case Uq => k_updF); (case zq => (first | (with_reducible assumption) | ((try simp only [List.length_append, List.length_cons, List.length_nil]); omega))); k_whole; intro hq nq Fq Nq; (try dsimp only at Nq); (try k_sweep)))) | (with_reducible (k_here; (with_reducible show wpAny _ _ (call (Value.builtin _) [Value.ref _, _]) _ _ _); k_dflt (refine' ext_any ?Fq ?Nq ?mq ?Uq ?zq ?_; (case Fq => k_asm); (case Nq => k_asm); (case mq => k_mem); (case Uq => k_updF); (case zq => (first | (with_reducible assumption) | ((try simp only [List.length_append, List.length_cons, List.length_nil]); omega))); k_whole; intro hq nq Fq Nq; (try dsimp only at Nq); (try k_sweep)))) | (with_reducible ((with_reducible show wpAny _ _ (call (Value.ref 923) _) _ _ _); k_dflt (refine' own_spec ?kBq ?kFq ?kXq ?kNq ?kTq ?kKq ?kdq ?kuq ?kzq ?_; (case kFq => k_asm); (case kNq => k_asm); (case kBq => k_asm); (case kXq => k_asm); (case kTq => k_asm); (case kKq => first | exact rfl | assumption); (case kdq => ktr_room); (case kuq => ktr_units); (case kzq => first | (with_reducible assumption) | k_asm); k_whole; intro D9q ys9q n9q h9q tk9q hy9q F9q N9q d9q; (replace d9q := off1_of d9q); (have hl9 := own_len hy9q (by first | (with_reducible assumption) | k_asm)); (simp only [LCg.Off1] at d9q); (try dsimp only); (try k_fold)))) | (with_reducible (k_here; first | (refine ite_bt ?hq ?_; (case hq => with_reducible assumption)) | (refine ite_bf ?hq ?_; (case hq => with_reducible assumption)) | (refine ite_in_t ?hq ?_; (case hq => with_reducible assumption)) | (refine ite_in_f ?hq ?_; (case hq => with_reducible assumption)) | (refine ite_bt ?hq ?_; (case hq => decide +kernel)) | (refine ite_bf ?hq ?_; (case hq => decide +kernel)))) | (with_reducible (k_here; (with_reducible show wpAny _ _ (subscriptTail _ _ (Value.ref _) (Value.int _ _)) _ _ _); k_dflt (refine' item_any ?Nq ?mq ?xq ?kq ?zq ?_ ?hsq; (case Nq => k_asm); (case mq => k_mem); (case xq => with_reducible assumption); (case kq => omega); (case zq => (first | (with_reducible assumption) | ((try simp only [List.length_append, List.length_cons, List.length_nil]); omega))); (case hsq => with_unfolding_all rfl); k_whole))) | walk1) | (dsimp only; walk1) | (leave1; (try dsimp only)) | fail "no step"))
          refine' join_listW (items := ys6.toArray) (News.isList ?NB8 (.head _)) (by rw [List.toList_toArray]; exact hy6) (by decide +kernel) (by rw [List.length_map]; omega) ?_
          case NB8 => k_asm
          intro t7 k7
          rw [show Txt.join (Str.ofString "") (qk.cps.toList.map fun c => sL [dash c]) = Str.join (Str.ofString "") (qk.cps.toList.map fun c => sL [dash c]) from StrLaws.glued_eq_join _ _, word_eq]
          have hwl := word_len qk.cps.toList
          have hwe : sL (qk.cps.toList.map dash) = wordP ⟨qa, qk, qv, qtk, qtv, qn⟩ := rfl
          generalize sL (qk.cps.toList.map dash) = wd at hwl hwe ⊢
          simp only [LCg.Off1] at o6
          (repeat' (first | (k_unfold; (try dsimp only)) | (k_end; wrow_close) | (first | (with_reducible (k_here; (with_reducible show wpAny _ _ (call (Value.builtin "len") [Value.ref _]) _ _ _); k_dflt (refine' len_any ?Nq ?mq ?zq ?_; (case Nq => k_asm); (case mq => k_mem); (case zq => (first | (with_reducible assumption) | ((try simp only [List.length_append, List.length_cons, List.length_nil]); omega))); k_whole))) | (with_reducible (k_here; (with_reducible show wpAny _ _ (call (Value.builtin _) [Value.ref _, _]) _ _ _); k_dflt (refine' app_any ?Fq ?Nq ?Uq ?zq ?_; (case Fq => k_asm); (case Nq => k_asm); (case Uq => k_updF); (case zq => (first | (with_reducible assumption) | ((try simp only [List.length_append, List.length_cons, List.length_nil]); omega))); k_whole; intro hq nq Fq Nq; (try dsimp only at Nq); (try k_sweep)))) | (with_reducible (k_here; (with_reducible show wpAny _ _ (call (Value.builtin _) [Value.ref _, _]) _ _ _); k_dflt (refine' ext_any ?Fq ?Nq ?mq ?Uq ?zq ?_; (case Fq => k_asm); (case Nq => k_asm); (case mq => k_mem); (case Uq => k_updF); (case zq => (first | (with_reducible assumption) | ((try simp only [List.length_append, List.length_cons, List.length_nil]); omega))); k_whole; intro hq nq Fq Nq; (try dsimp only at Nq); (try k_sweep)))) | (with_reducible ((with_reducible show wpAny _ _ (call (Value.ref 923) _) _ _ _); k_dflt (refine' own_spec ?kBq ?kFq ?kXq ?kNq ?kTq ?kKq ?kdq ?kuq ?kzq ?_; (case kFq => k_asm); (case kNq => k_asm); (case kBq => k_asm); (case kXq => k_asm); (case kTq => k_asm); (case kKq => first | exact rfl | assumption); (case kdq => ktr_room); (case kuq => ktr_units); (case kzq => first | (with_reducible assumption) | k_asm); k_whole; intro D9q ys9q n9q h9q tk9q hy9q F9q N9q d9q; (replace d9q := off1_of d9q); (have hl9 := own_len hy9q (by first | (with_reducible assumption) | k_asm)); (simp only [LCg.Off1] at d9q); (try dsimp only); (try k_fold)))) | (with_reducible (k_here; first | (refine ite_bt ?hq ?_; (case hq => with_reducible assumption)) | (refine ite_bf ?hq ?_; (case hq => with_reducible assumption)) | (refine ite_in_t ?hq ?_; (case hq => with_reducible assumption)) | (refine ite_in_f ?hq ?_; (case hq => with_reducible assumption)) | (refine ite_bt ?hq ?_; (case hq => decide +kernel)) | (refine ite_bf ?hq ?_; (case hq => decide +kernel)))) | (with_reducible (k_here; (with_reducible show wpAny _ _ (subscriptTail _ _ (Value.ref _) (Value.int _ _)) _ _ _); k_dflt (refine' item_any ?Nq ?mq ?xq ?kq ?zq ?_ ?hsq; (case Nq => k_asm); (case mq => k_mem); (case xq => with_reducible assumption); (case kq => omega); (case zq => (first | (with_reducible assumption) | ((try simp only [List.length_append, List.length_cons, List.length_nil]); omega))); (case hsq => with_unfolding_all rfl); k_whole))) | walk1) | (dsimp only; walk1) | (leave1; (try dsimp only)) | fail "no step"))
          have hall : ∀ (x : Str) (t : Tok), x = tokP ⟨qa, qk, qv, qtk, qtv, qn⟩ → StrsAre ((ys ++ zs) ++ [.str x t]) (k :: Str.ofString ":" :: (ownP v ++ psT v.isSome (ps.take (i5 + 1)))) := by
            intro x t e
            rw [hpt, e]
            have h9 := (hys.append' hzs).append' (.cons (tokP ⟨qa, qk, qv, qtk, qtv, qn⟩) t .nil)
            simpa only [List.cons_append, List.append_assoc] using h9
          rcases qv with _ | y
          all_goals dsimp only [oV, Option.getD] at *
          all_goals (repeat' (first | (k_unfold; (try dsimp only)) | (k_end; wrow_close) | (first | (with_reducible (k_here; (with_reducible show wpAny _ _ (call (Value.builtin "len") [Value.ref _]) _ _ _); k_dflt (refine' len_any ?Nq ?mq ?zq ?_; (case Nq => k_asm); (case mq => k_mem); (case zq => (first | (with_reducible assumption) | ((try simp only [List.length_append, List.length_cons, List.length_nil]); omega))); k_whole))) | (with_reducible (k_here; (with_reducible show wpAny _ _ (call (Value.builtin _) [Value.ref _, _]) _ _ _); k_dflt (refine' app_any ?Fq ?Nq ?Uq ?zq ?_; (case Fq => k_asm); (case Nq => k_asm); (case Uq => k_updF); (case zq => (first | (with_reducible assumption) | ((try simp only [List.length_append, List.length_cons, List.length_nil]); omega))); k_whole; intro hq nq Fq Nq; (try dsimp only at Nq); (try k_sweep)))) | (with_reducible (k_here; (with_reducible show wpAny _ _ (call (Value.builtin _) [Value.ref _, _]) _ _ _); k_dflt (refine' ext_any ?Fq ?Nq ?mq ?Uq ?zq ?_; (case Fq => k_asm); (case Nq => k_asm); (case mq => k_mem); (case Uq => k_updF); (case zq => (first | (with_reducible assumption) | ((try simp only [List.length_append, List.length_cons, List.length_nil]); omega))); k_whole; intro hq nq Fq Nq; (try dsimp only at Nq); (try k_sweep)))) | (with_reducible ((with_reducible show wpAny _ _ (call (Value.ref 923) _) _ _ _); k_dflt (refine' own_spec ?kBq ?kFq ?kXq ?kNq ?kTq ?kKq ?kdq ?kuq ?kzq ?_; (case kFq => k_asm); (case kNq => k_asm); (case kBq => k_asm); (case kXq => k_asm); (case kTq => k_asm); (case kKq => first | exact rfl | assumption); (case kdq => ktr_room); (case kuq => ktr_units); (case kzq => first | (with_reducible assumption) | k_asm); k_whole; intro D9q ys9q n9q h9q tk9q hy9q F9q N9q d9q; (replace d9q := off1_of d9q); (have hl9 := own_len hy9q (by first | (with_reducible assumption) | k_asm)); (simp only [LCg.Off1] at d9q); (try dsimp only); (try k_fold)))) | (with_reducible (k_here; first | (refine ite_bt ?hq ?_; (case hq => with_reducible assumption)) | (refine ite_bf ?hq ?_; (case hq => with_reducible assumption)) | (refine ite_in_t ?hq ?_; (case hq => with_reducible assumption)) | (refine ite_in_f ?hq ?_; (case hq => with_reducible assumption)) | (refine ite_bt ?hq ?_; (case hq => decide +kernel)) | (refine ite_bf ?hq ?_; (case hq => decide +kernel)))) | (with_reducible (k_here; (with_reducible show wpAny _ _ (subscriptTail _ _ (Value.ref _) (Value.int _ _)) _ _ _); k_dflt (refine' item_any ?Nq ?mq ?xq ?kq ?zq ?_ ?hsq; (case Nq => k_asm); (case mq => k_mem); (case xq => with_reducible assumption); (case kq => omega); (case zq => (first | (with_reducible assumption) | ((try simp only [List.length_append, List.length_cons, List.length_nil]); omega))); (case hsq => with_unfolding_all rfl); k_whole))) | walk1) | (dsimp only; walk1) | (leave1; (try dsimp only)) | fail "no step"))
          · refine' PostG.intro ?F11 ?N11 ?o11 ⟨_, _, _, fx_self _ _ ?a11, hall _ _ ?e11, ?c11, rfl⟩
            case F11 => k_asm
            case a11 => exact List.forall_mem_cons.mpr ⟨rfl, List.forall_mem_cons.mpr ⟨rfl, List.forall_mem_nil _⟩⟩
            case N11 => ((refine' kst_newsOf ?rN1q ?rSq; (case rN1q => k_asm); (case rSq => ((repeat (refine List.forall_mem_cons.mpr ⟨by k_memK, ?_⟩)); (intro p9q h9q; repeat (first | exact h9q | refine List.Mem.tail _ ?_))))))
            case o11 => exact off1Mem (show LCg.Off1 I _ from off)
            case e11 => exact hwe
            case c11 => simp only [List.length_append, List.length_cons, List.length_nil]; omega
          · refine' PostG.intro ?F12 ?N12 ?o12 ⟨_, _, _, fx_self _ _ ?a12, hall _ _ ?e12, ?c12, rfl⟩
            case F12 => k_asm
            case a12 => exact List.forall_mem_cons.mpr ⟨rfl, List.forall_mem_cons.mpr ⟨rfl, List.forall_mem_nil _⟩⟩
            case N12 => ((refine' kst_newsOf ?rN1q ?rSq; (case rN1q => k_asm); (case rSq => ((repeat (refine List.forall_mem_cons.mpr ⟨by k_memK, ?_⟩)); (intro p9q h9q; repeat (first | exact h9q | refine List.Mem.tail _ ?_))))))
            case o12 => exact off1Mem (show LCg.Off1 I _ from off)
            case e12 => show _ = tokP _; unfold tokP; dsimp only; rw [if_neg (by omega), hwe]
            case c12 => simp only [List.length_append, List.length_cons, List.length_nil]; omega
          · refine' PostG.intro ?F13 ?N13 ?o13 ⟨_, _, _, fx_self _ _ ?a13, hall _ _ ?e13, ?c13, rfl⟩
            case F13 => k_asm
            case a13 => exact List.forall_mem_cons.mpr ⟨rfl, List.forall_mem_cons.mpr ⟨rfl, List.forall_mem_nil _⟩⟩
            case N13 => ((refine' kst_newsOf ?rN1q ?rSq; (case rN1q => k_asm); (case rSq => ((repeat (refine List.forall_mem_cons.mpr ⟨by k_memK, ?_⟩)); (intro p9q h9q; repeat (first | exact h9q | refine List.Mem.tail _ ?_))))))
            case o13 => exact off1Mem (show LCg.Off1 I _ from off)
            case e13 => show _ = tokP _; unfold tokP; dsimp only; rw [if_pos (by omega), hwe]
            case c13 => simp only [List.length_append, List.length_cons, List.length_nil]; omega
    case done1 =>
      rintro m₁ nw h5 tk5 r9_212_4 F5 N5
      refine hid fun hn9_212 => ?_
      obtain ⟨u, ys, nn, rfl, hys, hyl, rfl⟩ := r9_212_4
      refine hn9_212 ?_
      clear hn9_212
      dsimp only [fx] at F5
      (repeat' (first | (k_unfold; (try dsimp only)) | (k_end; wrow_close) | (first | (with_reducible (k_here; (with_reducible show wpAny _ _ (call (Value.builtin "len") [Value.ref _]) _ _ _); k_dflt (refine' len_any ?Nq ?mq ?zq ?_; (case Nq => k_asm); (case mq => k_mem); (case zq => (first | (with_reducible assumption) | ((try simp only [List.length_append, List.length_cons, List.length_nil]); omega))); k_whole))) | (with_reducible (k_here; (with_reducible show wpAny _ _ (call (Value.builtin _) [Value.ref _, _]) _ _ _); k_dflt (refine' app_any ?Fq ?Nq ?Uq ?zq ?_; (case Fq => k_asm); (case Nq => k_asm); (case Uq => k_updF); (case zq => (first | (with_reducible assumption) | ((try simp only [List.length_append, List.length_cons, List.length_nil]); omega))); k_whole; intro hq nq Fq Nq; (try dsimp only at Nq); (try k_sweep)))) | (with_reducible (k_here; (with_reducible show wpAny _ _ (call (Value.builtin _) [Value.ref _, _]) _ _ _); k_dflt (refine' ext_any ?Fq ?Nq ?mq ?Uq ?zq ?_; (case Fq => k_asm); (case Nq => k_asm); (case mq => k_mem); (case Uq => k_updF); (case zq => (first | (with_reducible assumption) | ((try simp only [List.length_append, List.length_cons, List.length_nil]); omega))); k_whole; intro hq nq Fq Nq; (try dsimp only at Nq); (try k_sweep)))) | (with_reducible ((with_reducible show wpAny _ _ (call (Value.ref 923) _) _ _ _); k_dflt (refine' own_spec ?kBq ?kFq ?kXq ?kNq ?kTq ?kKq ?kdq ?kuq ?kzq ?_; (case kFq => k_asm); (case kNq => k_asm); (case kBq => k_asm); (case kXq => k_asm); (case kTq => k_asm); (case kKq => first | exact rfl | assumption); (case kdq => ktr_room); (case kuq => ktr_units); (case kzq => first | (with_reducible assumption) | k_asm); k_whole; intro D9q ys9q n9q h9q tk9q hy9q F9q N9q d9q; (replace d9q := off1_of d9q); (have hl9 := own_len hy9q (by first | (with_reducible assumption) | k_asm)); (simp only [LCg.Off1] at d9q); (try dsimp only); (try k_fold)))) | (with_reducible (k_here; first | (refine ite_bt ?hq ?_; (case hq => with_reducible assumption)) | (refine ite_bf ?hq ?_; (case hq => with_reducible assumption)) | (refine ite_in_t ?hq ?_; (case hq => with_reducible assumption)) | (refine ite_in_f ?hq ?_; (case hq => with_reducible assumption)) | (refine ite_bt ?hq ?_; (case hq => decide +kernel)) | (refine ite_bf ?hq ?_; (case hq => decide +kernel)))) | (with_reducible (k_here; (with_reducible show wpAny _ _ (subscriptTail _ _ (Value.ref _) (Value.int _ _)) _ _ _); k_dflt (refine' item_any ?Nq ?mq ?xq ?kq ?zq ?_ ?hsq; (case Nq => k_asm); (case mq => k_mem); (case xq => with_reducible assumption); (case kq => omega); (case zq => (first | (with_reducible assumption) | ((try simp only [List.length_append, List.length_cons, List.length_nil]); omega))); (case hsq => with_unfolding_all rfl); k_whole))) | walk1) | (dsimp only; walk1) | (leave1; (try dsimp only)) | fail "no step"))
      rw [List.take_length] at hys
      refine' h row ys nn _ _ hys ?F9 ?N9 ?o9
      case F9 => k_asm
      case N9 => ((refine' kst_newsOf ?rN1q ?rSq; (case rN1q => k_asm); (case rSq => ((repeat (refine List.forall_mem_cons.mpr ⟨by k_memK, ?_⟩)); (intro p9q h9q; repeat (first | exact h9q | refine List.Mem.tail _ ?_))))))
      case o9 => exact neOfLt (ltAll (by assumption))
end
end
section
-- text Fm
section
variable {w : World} {p : Program} {loose : List Str} {mean : ExcName → Option Value} {mg mb : Str → Option Value}
  {dp un : Nat} {gd : Option (List Code)} {cn : Str} {cs : Scope} {a : Addr} {ccd : Value} {cl : List (Str × Addr)} {outer : List Env} {A₀ : Around} {base h₀ : Heap} {L : Addr} {m : Str → Option Value} {s : Shared} {Q E : Value → Shared → Prop}
theorem fmt_spec {news : List (Addr × Obj)} {t1 t2 : Tok} {n v : Str}
  (B : Below A₀ base outer h₀) (F : Fr h₀ L s.heap m) (X : (Mine.mkK.heap_1 w.params).In h₀) (N : News h₀ L s.heap news) (T : Top p loose mean mg mb h₀) (hk : cs.kind = .function)
  (hdp : dp + 5 < recursionLimit) (hun : un + 40 < cLine) (h0 : 0 < v.length) (h1 : v.length ≤ 1000) (h2 : n.length ≤ 1000)
  (h : ∀ t h' tk', Fr h₀ L h' m → News h₀ L h' news → Q (.str (sL (n.cps.toList ++ 61 :: 34 :: (v.cps.toList.flatMap denc ++ [34]))) t) { s with heap := h', toks := tk' }) :
  wpAny (model PySem.Challenge.rw_in0111_01.row.prog w) (ktrTop dp un gd cn cs L a ccd cl outer) (call (.ref 67) [.str n t1, .str v t2]) Q E s := by
  have e92 : Str.ofString "\\" = ⟨#[92]⟩ := by decide +kernel
  have hl1 : (Txt.replace v (Str.ofString "\\") (Str.ofString "\\\\")).length ≤ 2000 := by
    show (Txt.replace v (Str.ofString "\\") (Str.ofString "\\\\")).cps.size ≤ 2000
    rw [← Array.length_toList, e92, rep_flat]
    have hv : v.cps.toList.length ≤ 1000 := by rw [Array.length_toList]; exact h1
    have := len_flat (f := rpl 92 (Str.ofString "\\\\").cps.toList) (k := 2) (fun d => by unfold rpl; split; decide +kernel; exact Nat.le_of_ble_eq_true rfl) v.cps.toList
    omega
  have e34 : Str.ofString "\"" = ⟨#[34]⟩ := by decide +kernel
  have hl2 : (Txt.replace (Txt.replace v (Str.ofString "\\") (Str.ofString "\\\\")) (Str.ofString "\"") (Str.ofString "\\\"")).length ≤ 4000 := by
    show (Txt.replace _ (Str.ofString "\"") (Str.ofString "\\\"")).cps.size ≤ 4000
    rw [← Array.length_toList, e34, rep_flat]
    have hv : (Txt.replace v (Str.ofString "\\") (Str.ofString "\\\\")).cps.toList.length ≤ 2000 := by rw [Array.length_toList]; exact hl1
    have := len_flat (f := rpl 34 (Str.ofString "\\\"").cps.toList) (k := 2) (fun d => by unfold rpl; split; decide +kernel; exact Nat.le_of_ble_eq_true rfl) (Txt.replace v (Str.ofString "\\") (Str.ofString "\\\\")).cps.toList
    omega
  have he : Str.empty ++ n ++ Str.ofString "=\"" ++ Txt.replace (Txt.replace v (Str.ofString "\\") (Str.ofString "\\\\")) (Str.ofString "\"") (Str.ofString "\\\"") ++ Str.ofString "\"" = sL (n.cps.toList ++ 61 :: 34 :: (v.cps.toList.flatMap denc ++ [34])) := by
    refine Str.ext' (Array.toList_inj.mp ?_)
    simp only [Str.cps_append, Array.toList_append]
    rw [e92, e34, rep_flat, rep_flat]
    have x1 : (Str.ofString "\\\\").cps.toList = [92, 92] := by decide +kernel
    have x2 : (Str.ofString "\\\"").cps.toList = [92, 34] := by decide +kernel
    have x3 : (Str.ofString "=\"").cps.toList = [61, 34] := by decide +kernel
    rw [x1, x2, x3, denc_two]
    show Str.empty.cps.toList ++ _ ++ _ ++ _ ++ [34] = _
    rw [show Str.empty.cps.toList = ([] : List Nat) from rfl]
    simp [sL]
  clear e92 e34
  revert X; k_fill; intro X
  refine wpAny_call ?_
  ((k_dflt (refine' code_def ?k1q ?k2q ?k3q ?k4q ?k5q ?kAq ?kFq ?kKq ?k6q ?k7q ?k8q ?k9q ?kBq ?_ ?c2q ?c3q ?c4q ?c5q; (case kAq => exact rfl); (case kFq => exact rfl); (case kKq => assumption); (case k1q => k_asm); (case k2q => k_asm); (case k3q => k_asm); (case k4q => k_asm); (case k5q => k_asm); (case k6q => k_is); (case k7q => k_is); (case k8q => ktr_room); (case k9q => first | exact BindsTo.of_eq rfl | exact binds_K (by k_in) rfl (by k_is) rfl rfl rfl); (case c5q => decide); (case kBq => exact locs rfl); (case c2q => exact rfl); (case c3q => exact rfl); (case c4q => exact rfl); k_whole; intro gq Lq hq FGq Fq Nq Bq Xq Tq; (try dsimp only); (try k_lift Bq); (try k_fold))))
  (repeat' (first | (k_unfold; (try dsimp only)) | (k_end; wrow_close) | (first | ((with_reducible show wpAny _ _ (call (Value.builtin _) _ _) _ _ _); with_reducible (k_dflt (refine rep_keep (by change (_ : Nat) ≠ (_ : Nat); omega) (by change (_ : Nat) ≠ (_ : Nat); omega) (by change (_ : Nat) ≠ (_ : Nat); omega) (by decide +kernel) (by omega) (by decide +kernel) ?_; intro t8q k8q hk8q; (try dsimp only at hk8q)))) | (with_reducible with_reducible refine wpAny_execs_cons ?_) | (with_reducible (k_here; first | (refine ite_bt ?hq ?_; (case hq => with_reducible assumption)) | (refine ite_bf ?hq ?_; (case hq => with_reducible assumption)) | (refine ite_in_t ?hq ?_; (case hq => with_reducible assumption)) | (refine ite_in_f ?hq ?_; (case hq => with_reducible assumption)) | (refine ite_bt ?hq ?_; (case hq => decide +kernel)) | (refine ite_bf ?hq ?_; (case hq => decide +kernel)))) | walk1) | (dsimp only; walk1) | (leave1; (try dsimp only)) | fail "no step"))
  rw [he]
  refine' h _ _ _ ?F9 ?N9
  case F9 => k_asm
  case N9 => k_asm
end
end
section
-- text Se
section
open PySem.Sre
/-- what a search for one sign of a set needs to know of its code -/
structure OneSet (code : Array Nat) (P : Nat → Bool) (hd k : Nat) : Prop where
  head : Sre.header code = (1, hd)
  first : ((match ops[code.getD 0 0]? with | some .INFO => true | _ => false) && code.getD 2 0 == 4) = true
  setS : ∀ c seen, ∃ seen', inSet code c code.size 5 true seen = .ok (P c, seen')
  setI : ∀ c seen, ∃ seen', inSet code c code.size (hd + 2) true seen = .ok (P c, seen')
  opI : ops[code.getD hd 0]? = some .IN
  wide : code.getD (hd + 1) 0 = k
  opS : ops[code.getD (hd + (1 + k)) 0]? = some .SUCCESS
  szI : hd < code.size
  szS : hd + (1 + k) < code.size
variable {code text : Array Nat} {P : Nat → Bool} {hd k : Nat}
noncomputable def sreM (code text : Array Nat) (hd : Nat) : M :=
  { code, text, lim := text.size, start := 0, pc := hd, pos := 0, handed := 0, marks := Array.replicate (2 * 0) none, mustAdvance := false,
    seen := if hd == 0 then {} else ({} : Sre.Seen).add 14 }
theorem search_eq (h : OneSet code P hd k) : Sre.forSearch code text 0 0 text.size false =
    if (decide (0 > text.size) || decide (text.size - 0 < 1)) = true then (sreM code text hd).say false
    else ({ sreM code text hd with lastStart := text.size } : M).attemptFrom 0 true := by
  have e : Sre.forSearch code text 0 0 text.size false =
    (if (decide (0 > text.size) || decide (text.size - 0 < (Sre.header code).1)) = true then (sreM code text (Sre.header code).2).say false
    else ({ sreM code text (Sre.header code).2 with lastStart := if (Sre.header code).1 > 1 && !((Sre.header code).2 != 0 && code.getD 2 0 &&& 5 != 0) then max 0 (text.size - ((Sre.header code).1 - 1)) else text.size } : M).attemptFrom 0 true) := by with_unfolding_all rfl
  rw [e, h.head]
  rfl
theorem adm (h : OneSet code P hd k) {m : M} (hc : m.code = code) (ht : m.text = text) (hl : m.lim = text.size) : ∀ (fuel s : Nat) (seen : Sre.Seen), s + fuel = text.size + 1 →
    (∃ s' seen', M.admitted m fuel s seen = .ok (some s', seen') ∧ s' < text.size ∧ P (text.getD s' 0) = true) ∨ (∃ seen', M.admitted m fuel s seen = .ok (none, seen') ∧ ∀ j, s ≤ j → j < text.size → P (text.getD j 0) = false)
  | 0, s, seen, e => .inr ⟨seen, rfl, fun j a b => by omega⟩
  | fuel + 1, s, seen, e => by
    unfold M.admitted
    rw [hl, hc, ht]
    by_cases hs : s ≥ text.size
    · rw [if_pos hs]
      exact .inr ⟨seen, rfl, fun j a b => by omega⟩
    · rw [if_neg hs]
      refine hid fun hn9_213 => ?_
      obtain ⟨seen', hi⟩ := h.setS (text.getD s 0) seen
      refine hn9_213 ?_
      clear hn9_213
      rw [hi]
      cases hp : P (text.getD s 0) with
      | true => exact .inl ⟨s, seen', rfl, by omega, hp⟩
      | false =>
        rcases adm h hc ht hl fuel (s + 1) seen' (by omega) with ⟨s', seen2, e2, h2, h3⟩ | ⟨seen2, e2, h2⟩
        · exact .inl ⟨s', seen2, e2, h2, h3⟩
        · refine .inr ⟨seen2, e2, fun j a b => ?_⟩
          by_cases hj : j = s
          · rw [hj]; exact hp
          · exact h2 j (by omega) b
theorem run_fail {m : M} (ho : m.outcome = none) (ha : m.answer = some false) (hf : m.frames = []) : (M.runFor 4 m).outcome = some .failed := by
  have e : M.runFor 4 m = { m with outcome := some .failed } := by
    unfold M.runFor
    rw [ho]
    show (if false = true then m else M.runFor 3 m.step) = _
    rw [if_neg Bool.false_ne_true]
    have e1 : m.step = { m with outcome := some .failed } := by
      unfold M.step
      rw [ho, ha, hf]; rfl
    rw [e1]; rfl
  rw [e]
theorem step_none {m : M} (ho : m.outcome = none) (ha : m.answer = none) (hp : m.pc < m.code.size) : m.step = m.exec := by
  unfold M.step
  rw [ho, ha]
  show (if false = true then m else if m.pc < m.code.size then m.exec else _) = _
  rw [if_neg Bool.false_ne_true, if_pos hp]
theorem run4 {m m1 m2 m3 m4 : M} (o : m.outcome = none) (e1 : m.step = m1) (o1 : m1.outcome = none) (e2 : m1.step = m2) (o2 : m2.outcome = none) (e3 : m2.step = m3) (o3 : m3.outcome = none) (e4 : m3.step = m4) : M.runFor 4 m = m4 := by
  show (if m.outcome.isSome = true then m else M.runFor 3 m.step) = _
  rw [o, e1, if_neg (fun h => nomatch h)]
  show (if m1.outcome.isSome = true then m1 else M.runFor 2 m1.step) = _
  rw [o1, e2, if_neg (fun h => nomatch h)]
  show (if m2.outcome.isSome = true then m2 else M.runFor 1 m2.step) = _
  rw [o2, e3, if_neg (fun h => nomatch h)]
  show (if m3.outcome.isSome = true then m3 else M.runFor 0 m3.step) = _
  rw [o3, e4, if_neg (fun h => nomatch h)]
  rfl
theorem step_in (h : OneSet code P hd k) {m : M} (hc : m.code = code) (hp : m.pc = hd) (ho : m.outcome = none) (ha : m.answer = none) (hl : m.pos < m.lim) (hP : P (m.text.getD m.pos 0) = true) :
    ∃ seen', m.step = { m with seen := seen', pc := hd + (1 + k), pos := m.pos + 1 } := by
  have e0 : ops[m.word 0]? = some .IN := by show ops[m.code.getD (m.pc + 0) 0]? = _; rw [hc, hp]; exact h.opI
  rw [step_none ho ha (by rw [hc, hp]; exact h.szI)]
  unfold M.exec
  rw [e0]
  refine hid fun hn9_214 => ?_
  obtain ⟨seen', hi⟩ := h.setI (m.text.getD m.pos 0) (m.seen.add (m.word 0))
  refine hn9_214 ?_
  clear hn9_214
  refine ⟨seen', ?_⟩
  show (if m.pos ≥ m.lim then _ else match Sre.accepts m.code m.pc (m.text.getD m.pos 0) (m.seen.add (m.word 0)) with | .error why => _ | .ok (false, seen) => _ | .ok (true, seen) => _) = _
  rw [if_neg (by omega)]
  have e1 : Sre.accepts m.code m.pc (m.text.getD m.pos 0) (m.seen.add (m.word 0)) = .ok (true, seen') := by
    unfold Sre.accepts
    rw [hc, hp, h.opI]
    rw [hP] at hi
    exact hi
  rw [e1]
  have e2 : Sre.itemWidth m.code m.pc = 1 + k := by
    unfold Sre.itemWidth
    rw [hc, hp, h.opI, ← h.wide]
  dsimp only
  rw [e2, hp]
theorem step_suc (h : OneSet code P hd k) {m : M} (hc : m.code = code) (hp : m.pc = hd + (1 + k)) (ho : m.outcome = none) (ha : m.answer = none) (hw : m.wholeText = false) (hm : m.mustAdvance = false) :
    ∃ seen', m.step = { m with seen := seen', handed := m.pos, answer := some true } := by
  have e0 : ops[m.word 0]? = some .SUCCESS := by show ops[m.code.getD (m.pc + 0) 0]? = _; rw [hc, hp]; exact h.opS
  rw [step_none ho ha (by rw [hc, hp]; exact h.szS)]
  unfold M.exec
  rw [e0]
  refine ⟨m.seen.add (m.word 0), ?_⟩
  show (if (m.outermost && ((m.wholeText && m.pos != m.lim) || (m.mustAdvance && m.pos == m.start))) = true then _ else _) = _
  rw [hw, hm]
  simp only [Bool.false_and, Bool.or_self, Bool.and_false, Bool.false_eq_true, if_false]
  rfl
theorem step_res {m : M} {f : Sre.Frame} {r : List Sre.Frame} (ho : m.outcome = none) (ha : m.answer = some true) (hf : m.frames = f :: r) (hw : f.wait = .nextStart) :
    m.step = { m with frames := r, weight := m.weight - (1 + f.kept.marks.size), pc := f.pc, pos := f.pos, outermost := f.outermost, answer := some true } := by
  unfold M.step
  rw [ho, ha, hf]
  show M.resume _ f true = _
  unfold M.resume
  rw [hw]
  rfl
theorem step_fin {m : M} (ho : m.outcome = none) (ha : m.answer = some true) (hf : m.frames = []) : m.step = { m with outcome := some .matched } := by
  unfold M.step
  rw [ho, ha, hf]; rfl
theorem run_find (h : OneSet code P hd k) {m : M} {f : Sre.Frame} (hc : m.code = code) (hp : m.pc = hd) (ho : m.outcome = none) (ha : m.answer = none) (hl : m.pos < m.lim) (hP : P (m.text.getD m.pos 0) = true)
    (hw : m.wholeText = false) (hm : m.mustAdvance = false) (hf : m.frames = [f]) (hfw : f.wait = .nextStart) : (M.runFor 4 m).outcome = some .matched := by
  refine hid fun hn9_215 => ?_
  obtain ⟨s1, e1⟩ := step_in h hc hp ho ha hl hP
  refine hn9_215 ?_
  clear hn9_215
  refine hid fun hn9_216 => ?_
  obtain ⟨s2, e2⟩ := step_suc (m := { m with seen := s1, pc := hd + (1 + k), pos := m.pos + 1 }) h hc rfl ho ha hw hm
  refine hn9_216 ?_
  clear hn9_216
  have e3 := step_res (m := { { m with seen := s1, pc := hd + (1 + k), pos := m.pos + 1 } with seen := s2, handed := m.pos + 1, answer := some true }) ho rfl hf hfw
  have e4 := step_fin (m := { { { m with seen := s1, pc := hd + (1 + k), pos := m.pos + 1 } with seen := s2, handed := m.pos + 1, answer := some true } with frames := [], weight := m.weight - (1 + f.kept.marks.size), pc := f.pc, pos := f.pos, outermost := f.outermost, answer := some true }) ho rfl rfl
  rw [run4 ho e1 ho e2 ho e3 ho e4]
/-- the search's end -/
theorem search_run (h : OneSet code P hd k) : (M.runFor 4 (Sre.forSearch code text 0 0 text.size false)).outcome = some (if text.toList.any P then .matched else .failed) := by
  rw [search_eq h]
  have anyF : (∀ j, 0 ≤ j → j < text.size → P (text.getD j 0) = false) → text.toList.any P = false := by
    intro hn
    rw [List.any_eq_false]
    intro c hc
    refine hid fun hn9_217 => ?_
    obtain ⟨j, hj, e⟩ := List.mem_iff_getElem.mp hc
    refine hn9_217 ?_
    clear hn9_217
    have hj' : j < text.size := by simpa using hj
    have := hn j (Nat.zero_le _) hj'
    rw [Array.getD_eq_getD_getElem?, Array.getElem?_eq_getElem hj'] at this
    have e' : text[j] = c := by simpa using e
    rw [← e']
    simpa using this
  by_cases hz : text.size = 0
  · rw [if_pos (by simp [hz]), anyF (fun j _ b => by omega)]
    exact run_fail rfl rfl rfl
  · rw [if_neg (by rw [Bool.or_eq_true, decide_eq_true_iff, decide_eq_true_iff]; omega)]
    have e : ({ sreM code text hd with lastStart := text.size } : M).attemptFrom 0 true = match M.admitted { sreM code text hd with lastStart := text.size } (text.size + 1 - 0) 0 (sreM code text hd).seen with
        | .ok (some s, seen) => { ({ sreM code text hd with lastStart := text.size } : M) with mustAdvance := false, seen }.attemptAt s true
        | .ok (none, seen) => { ({ sreM code text hd with lastStart := text.size } : M) with seen }.say false
        | .error why => ({ sreM code text hd with lastStart := text.size } : M).stick why := by
      unfold M.attemptFrom
      have hfs : ({ sreM code text hd with lastStart := text.size } : M).hasFirstSet = true := h.first
      rw [hfs]
      rfl
    rw [e]
    rcases adm (text := text) h (m := { sreM code text hd with lastStart := text.size }) rfl rfl rfl (text.size + 1 - 0) 0 (sreM code text hd).seen (by omega) with ⟨s', seen', e1, hs, hP⟩ | ⟨seen', e1, hn⟩
    · rw [e1]
      have ha : text.toList.any P = true := by
        rw [List.any_eq_true]
        refine ⟨text[s'], ?_, ?_⟩
        · exact Array.getElem_mem_toList hs
        · rw [Array.getD_eq_getD_getElem?, Array.getElem?_eq_getElem hs] at hP
          simpa using hP
      rw [ha]
      exact run_find h rfl rfl rfl rfl hs hP rfl rfl rfl rfl
    · rw [e1, anyF hn]
      exact run_fail rfl rfl rfl
end
end
section
-- text Sf
section
open PySem.Sre
noncomputable def nameCode : Array Nat := #[14, 10, 4, 1, 1, 22, 0, 31, 16, 127, 0, 13, 7, 22, 0, 31, 16, 127, 0, 1]
noncomputable def valCode : Array Nat := #[14, 14, 4, 1, 1, 9, 4294966783, 0, 0, 2147483648, 0, 0, 0, 0, 0, 13, 11, 9, 4294966783, 0, 0, 2147483648, 0, 0, 0, 0, 0, 1]
noncomputable def unsCode : Array Nat := #[14, 17, 4, 1, 1, 21, 9, 0, 604043296, 1, 0, 0, 0, 0, 0, 8, 4, 0, 13, 14, 21, 9, 0, 604043296, 1, 0, 0, 0, 0, 0, 8, 4, 0, 1]
theorem name_in (c : Nat) (seen : Sre.Seen) {i : Nat} (hi : i = 5 ∨ i = 13) : ∃ seen', inSet nameCode c nameCode.size i true seen = .ok (badS false c, seen') := by
  have e : ∃ s1 s2 s3, inSet nameCode c nameCode.size i true seen = if (decide (0 ≤ c) && decide (c ≤ 31)) = true then .ok (true, s1) else if (c == 127) = true then .ok (true, s2) else .ok (!true, s3) := by
    rcases hi with rfl | rfl
    · exact ⟨_, _, _, by with_unfolding_all rfl⟩
    · exact ⟨_, _, _, by with_unfolding_all rfl⟩
  refine hid fun hn9_218 => ?_
  obtain ⟨s1, s2, s3, e⟩ := e
  refine hn9_218 ?_
  clear hn9_218
  rw [e]
  by_cases h1 : c ≤ 31
  · rw [if_pos (by simp [h1])]
    exact ⟨s1, by rw [show badS false c = true by unfold badS; simp; omega]⟩
  · rw [if_neg (by simp [h1])]
    by_cases h2 : c = 127
    · rw [if_pos (by simp [h2])]
      exact ⟨s2, by rw [show badS false c = true by unfold badS; simp [h2]]⟩
    · rw [if_neg (by simp [h2])]
      exact ⟨s3, by rw [show badS false c = false by unfold badS; simp [h2]; omega]; rfl⟩
theorem name_set : OneSet nameCode (badS false) 11 7 :=
  ⟨by decide +kernel, by decide +kernel, fun c s => name_in c s (.inl rfl), fun c s => name_in c s (.inr rfl), rfl, rfl, rfl, by decide +kernel, by decide +kernel⟩
noncomputable def csBit (ws : List Nat) (c : Nat) : Bool := decide (c < 256) && (ws.getD (c / 32) 0).testBit (c % 32)
theorem val_in (c : Nat) (seen : Sre.Seen) {i : Nat} (hi : i = 5 ∨ i = 17) : ∃ seen', inSet valCode c valCode.size i true seen = .ok (badS true c, seen') := by
  have e : ∃ s1 s2, inSet valCode c valCode.size i true seen = if (decide (c < 256) && (valCode.getD (i + (1 + c / 32)) 0).testBit (c % 32)) = true then .ok (true, s1) else .ok (!true, s2) := by
    rcases hi with rfl | rfl
    · exact ⟨_, _, by with_unfolding_all rfl⟩
    · exact ⟨_, _, by with_unfolding_all rfl⟩
  refine hid fun hn9_219 => ?_
  obtain ⟨s1, s2, e⟩ := e
  refine hn9_219 ?_
  clear hn9_219
  have key : (decide (c < 256) && (valCode.getD (i + (1 + c / 32)) 0).testBit (c % 32)) = badS true c := by
    by_cases hc : c < 256
    · have all : ∀ c : Fin 256, (valCode.getD (5 + (1 + c.val / 32)) 0).testBit (c.val % 32) = badS true c.val ∧ (valCode.getD (17 + (1 + c.val / 32)) 0).testBit (c.val % 32) = badS true c.val := by decide +kernel
      have h := all ⟨c, hc⟩
      rw [decide_eq_true hc, Bool.true_and]
      rcases hi with rfl | rfl
      · exact h.1
      · exact h.2
    · rw [decide_eq_false hc, Bool.false_and]
      unfold badS
      have : ¬ c < 32 ∧ ¬ c = 127 := by omega
      simp [this.1, this.2]
  rw [e, key]
  cases badS true c
  · exact ⟨s2, rfl⟩
  · exact ⟨s1, rfl⟩
theorem val_set : OneSet valCode (badS true) 15 11 :=
  ⟨by decide +kernel, by decide +kernel, fun c s => val_in c s (.inl rfl), fun c s => val_in c s (.inr rfl), rfl, rfl, rfl, by decide +kernel, by decide +kernel⟩
theorem bnot {a b : Bool} (h : b = !a) : a = !b := by rw [h, Bool.not_not]
theorem cat_word (c : Nat) : Sre.category 4 c = .ok (Sre.isWord c) := by
  show Except.ok (Sre.isWord c != false) = _
  simp
theorem uns_in (c : Nat) (seen : Sre.Seen) {i : Nat} (hi : i = 5 ∨ i = 20) : ∃ seen', inSet unsCode c unsCode.size i true seen = .ok (unsafe1 c, seen') := by
  have e : ∃ s1 s2 s3, inSet unsCode c unsCode.size i true seen = if (decide (c < 256) && (unsCode.getD ((i + 1) + (1 + c / 32)) 0).testBit (c % 32)) = true then .ok (!true, s1) else
      (Sre.category 4 c >>= fun b => if b = true then pure (!true, s2) else .ok (!!true, s3)) := by
    rcases hi with rfl | rfl
    · exact ⟨_, _, _, by with_unfolding_all rfl⟩
    · exact ⟨_, _, _, by with_unfolding_all rfl⟩
  refine hid fun hn9_220 => ?_
  obtain ⟨s1, s2, s3, e⟩ := e
  refine hn9_220 ?_
  clear hn9_220
  have key : ((decide (c < 256) && (unsCode.getD ((i + 1) + (1 + c / 32)) 0).testBit (c % 32)) || Sre.isWord c) = !unsafe1 c := by
    by_cases hc : c < 256
    · have all : ∀ c : Fin 256, (((unsCode.getD (5 + 1 + (1 + c.val / 32)) 0).testBit (c.val % 32)) || Sre.isWord c.val) = !unsafe1 c.val ∧ (((unsCode.getD (20 + 1 + (1 + c.val / 32)) 0).testBit (c.val % 32)) || Sre.isWord c.val) = !unsafe1 c.val := by decide +kernel
      have h := all ⟨c, hc⟩
      rw [decide_eq_true hc, Bool.true_and]
      rcases hi with rfl | rfl
      · exact h.1
      · exact h.2
    · rw [decide_eq_false hc, Bool.false_and, Bool.false_or]
      have h1 : Sre.isWord c = false := by
        unfold Sre.isWord Sre.isDigit
        simp
        omega
      have h2 : unsafe1 c = true := by
        unfold unsafe1
        have all : ∀ d ∈ safeS.cps.toList, d < 256 := by unfold safeS; decide +kernel
        rw [Bool.not_eq_true', ← Bool.not_eq_true]
        intro hm
        exact hc (all c (by simpa using hm))
      rw [h1, h2]; rfl
  rw [e, cat_word]
  cases hb : (decide (c < 256) && (unsCode.getD ((i + 1) + (1 + c / 32)) 0).testBit (c % 32))
  · rw [hb, Bool.false_or] at key
    rw [if_neg Bool.false_ne_true]
    show ∃ seen', (if Sre.isWord c = true then _ else _) = _
    cases hw : Sre.isWord c
    · rw [hw] at key
      have : unsafe1 c = true := bnot key
      rw [this]
      exact ⟨s3, rfl⟩
    · rw [hw] at key
      have : unsafe1 c = false := bnot key
      rw [this]
      exact ⟨s2, rfl⟩
  · rw [hb, Bool.true_or] at key
    have : unsafe1 c = false := bnot key
    rw [if_pos rfl, this]
    exact ⟨s1, rfl⟩
theorem uns_set : OneSet unsCode unsafe1 18 14 :=
  ⟨by decide +kernel, by decide +kernel, fun c s => uns_in c s (.inl rfl), fun c s => uns_in c s (.inr rfl), rfl, rfl, rfl, by decide +kernel, by decide +kernel⟩
end
end
section
-- text Sq
section
open PySem.Builtin.Re
theorem slot_re_search : Slot "re.Pattern" "search" "re.Pattern.search" :=
  .of (owner := "re.Pattern") (n := "search") (by rw [typeLookup_type, builtinLookup_eq_fast]; kernel_rfl) (by decide +kernel) (by decide +kernel) (by decide +kernel)
    (by first | exact .inl (by decide +kernel) | exact .inr (by decide +kernel)) (by rw [isSubtype_type]; kernel_rfl)
theorem entry_re_search : entryFor table "re.Pattern.search" = some Builtin.«re.Pattern.search» := entryFor_of_fast (by kernel_rfl)
theorem args_re_search (a b : Value) : argsOk "re.Pattern.search" ⟨[a, b], []⟩ := by unfold argsOk; kernel_rfl
theorem type_re_search : typeOf (.builtin "re.Pattern.search") = pure (.type "method_descriptor") := by show builtinType _ = _; rw [builtinType_eq_fast]; kernel_rfl
theorem noBool_match : typeLookup (.type "re.Match") "__bool__" = pure none := by rw [typeLookup_type, builtinLookup_eq_fast]; kernel_rfl
theorem noLen_match : typeLookup (.type "re.Match") "__len__" = pure none := by rw [typeLookup_type, builtinLookup_eq_fast]; kernel_rfl
theorem plainAttrs_re : PlainAttrs "re.Pattern" :=
  ⟨⟨"object.__getattribute__", by rw [typeLookup_type, builtinLookup_eq_fast]; kernel_rfl, by decide +kernel⟩, by rw [typeLookup_type, builtinLookup_eq_fast]; kernel_rfl⟩
theorem named_eq (v : Value) : reNamed "re.Pattern.search" "search" ["string", "pos", "endpos"] 1 [v] [] = pure [some v, none, none] := by with_unfolding_all rfl
section
variable {prog : Program} {w : World} {A : Around} {E : Value → Shared → Prop} {s : Shared} {h₀ : Heap} {L : Addr} {m : Str → Option Value} {news : List (Addr × Obj)} {a c : Addr} {x : Str} {t : Tok} {its : Array Value} {n : Nat} {code : Array Nat} {P : Nat → Bool} {hd k : Nat}
noncomputable def patObj (p0 p1 : Value) (c : Addr) : Obj := { cls := .type "re.Pattern", data := .fields #[p0, p1, .int 0 0, .none, .none, .ref c, .int 0 0] }
theorem run_end {mm : Sre.M} {o : Sre.Outcome} {r : Option Sre.M} {Q : Option Sre.M → Shared → Prop} (ho : (Sre.M.runFor 4 mm).outcome = some o) (hs : o = .matched ∧ r = some (Sre.M.runFor 4 mm) ∨ o = .failed ∧ r = none)
    (h : Q r s) : wpAny (model prog w) A (reRunToEnd mm) Q E s := by
  unfold reRunToEnd
  refine wpAny_bind ?_
  have e : (2 : Nat) ^ 64 = 18446744073709551615 + 1 := rfl
  rw [e]
  show wpAny _ _ (if (Sre.M.runFor 4 mm).outcome.isSome = true then pure (Sre.M.runFor 4 mm) else _) _ _ _
  rw [ho, if_pos (show (some o).isSome = true from rfl)]
  refine wpAny_pure ?_
  refine wpAny_bind ?_
  refine wpAny_forIn_list _ (fun _ _ s' => s' = s) _ (fun i rest b s' hI => ?_) (fun b s' hI => ?_) _ _ rfl
  · refine hid fun hn9_221 => ?_
    subst hI <;> (refine hn9_221 ?_; clear hn9_221)
    split
    · exact wpAny_bind (wpAny_rule (wpAny_pure rfl))
    · exact wpAny_pure rfl
  · refine hid fun hn9_222 => ?_
    subst hI <;> (refine hn9_222 ?_; clear hn9_222)
    rw [ho]
    rcases hs with ⟨rfl, rfl⟩ | ⟨rfl, rfl⟩
    · exact wpAny_pure h
    · exact wpAny_pure h
theorem search_tree {p0 p1 : Value} {Q : Value → Shared → Prop} (ho : s.heap.get? a = some (patObj p0 p1 c)) (hc : s.heap.get? c = some { cls := .type "tuple", data := .seq its n }) (hi : (its.map reRawOf).map (·.toNat) = code)
    (h : OneSet code P hd k) (hx : x.length ≤ 1000000) (F : Fr h₀ L s.heap m) (N : News h₀ L s.heap news) (h0 : x.cps.toList.any P = false → Q .none s)
    (h1 : x.cps.toList.any P = true → ∀ (r : Nat) h' fs, Fr h₀ L h' m → News h₀ L h' ((r, { cls := .type "re.Match", data := .fields fs }) :: news) → (∀ q ∈ news, q.1 < r) → Q (.ref r) { s with heap := h' }) :
    wpAny (model prog w) A (Builtin.«re.Pattern.search» ⟨[.ref a, .str x t], []⟩) (fun fin s' => ∃ r, fin = .done (.ret r) ∧ Q r s') E s := by
  have hl : min (2 ^ 63 - 1 : Int).toNat x.cps.size = x.cps.size := by
    have : x.cps.size ≤ 1000000 := hx
    omega
  unfold Builtin.«re.Pattern.search»
  refine wpAny_bind ?_
  unfold reTarget
  show wpAny _ _ (reNamed "re.Pattern.search" "search" ["string", "pos", "endpos"] 1 [.str x t] [] >>= _) _ _ _
  rw [named_eq]
  refine wpAny_bind (wpAny_pure ?_)
  refine wpAny_bind (wpAny_pure ?_)
  refine wpAny_bind (wpAny_pure ?_)
  refine wpAny_bind (wpAny_fieldsOf ho rfl ?_)
  have et : reTextOf (.str x t) = pure (x.cps, 0) := by with_unfolding_all rfl
  rw [et]
  refine wpAny_bind (wpAny_pure ?_)
  show wpAny _ _ (reRawItems (.ref c) >>= fun l => pure (ReTarget.mk (.ref a) (.str x t) (l.map (·.toNat)) x.cps 0 0 (min (0 : Int).toNat x.cps.size) (min (2 ^ 63 - 1 : Int).toNat x.cps.size))) _ _ _
  unfold reRawItems
  refine wpAny_bind (wpAny_bind (wpAny_seqItems hc rfl (wpAny_pure (wpAny_pure ?_))))
  rw [hl]
  dsimp only [Option.getD]
  rw [hi, show min (Int.toNat 0) x.cps.size = 0 from Nat.zero_min _]
  have hrun := search_run (text := x.cps) h
  unfold reAnswer
  cases hb : x.cps.toList.any P with
  | false =>
    rw [hb, if_neg Bool.false_ne_true] at hrun
    exact wpAny_bind (run_end hrun (.inr ⟨rfl, rfl⟩) (wpAny_pure ⟨_, rfl, h0 hb⟩))
  | true =>
    rw [hb, if_pos rfl] at hrun
    refine wpAny_bind (run_end hrun (.inl ⟨rfl, rfl⟩) ?_)
    generalize Sre.M.runFor 4 (Sre.forSearch code x.cps 0 0 x.cps.size false) = mm
    dsimp only
    refine wpAny_bind ?_
    unfold reNewMatch
    show wpAny _ _ (newTuple [rawInt mm.start, rawInt mm.handed] >>= fun u => newFields "re.Match" [.str x t, .ref a, rawInt (0 : Nat), rawInt x.cps.size, rawInt mm.lastindex, u]) _ _ _
    refine wpAny_bind (newTuple_N F N (fun h' F' N' => ?_) (by rw [sizeLine_eq]; exact Nat.le_of_ble_eq_true rfl))
    unfold newFields
    refine wpAny_newObj_type (wpAny_pure ⟨_, rfl, ?_⟩) (by show 6 ≤ sizeLine + 2; rw [sizeLine_eq]; exact Nat.le_of_ble_eq_true rfl)
    have N2 := N'.push F' { cls := .type "re.Match", data := .fields [.str x t, .ref a, rawInt (0 : Nat), rawInt x.cps.size, rawInt mm.lastindex, .ref s.heap.objs.size].toArray }
    refine h1 hb _ _ [.str x t, .ref a, rawInt (0 : Nat), rawInt x.cps.size, rawInt mm.lastindex, .ref s.heap.objs.size].toArray (F'.push _) (fun (p : Addr × Obj) hp => N2 p ?_) (fun q hq => ?_)
    · rcases List.mem_cons.mp hp with rfl | hp
      · exact .head _
      · exact .tail _ (.tail _ hp)
    · exact Heap.lt_size (N' q (.tail _ hq)).1
theorem search_rule {p0 p1 : Value} {Q : Value → Shared → Prop} (ho : s.heap.get? a = some (patObj p0 p1 c)) (hc : s.heap.get? c = some { cls := .type "tuple", data := .seq its n }) (hi : (its.map reRawOf).map (·.toNat) = code)
    (h : OneSet code P hd k) (hx : x.length ≤ 1000000) (F : Fr h₀ L s.heap m) (N : News h₀ L s.heap news) (h0 : x.cps.toList.any P = false → Q .none s)
    (h1 : x.cps.toList.any P = true → ∀ (r : Nat) h' fs, Fr h₀ L h' m → News h₀ L h' ((r, { cls := .type "re.Match", data := .fields fs }) :: news) → (∀ q ∈ news, q.1 < r) → Q (.ref r) { s with heap := h' }) :
    wpAny (model prog w) A (call (.builtin "re.Pattern.search") [.ref a, .str x t]) Q E s :=
  wpAny_call_entry slot_re_search ⟨_, ho, rfl⟩ entry_re_search (search_tree ho hc hi h hx F N h0 h1) (args_re_search _ _)
theorem re_getMethod {p0 p1 : Value} {pl : Sem Bool} {Q : Value × List Value → Shared → Prop} (ho : s.heap.get? a = some (patObj p0 p1 c)) (h : Q (.builtin "re.Pattern.search", [.ref a]) s) :
    wpAny (model prog w) A (getMethod (.ref a) "search" pl) Q E s := getMethod_builtin ⟨_, ho, rfl⟩ plainAttrs_re slot_re_search type_re_search (fun a e => by cases e; exact ⟨_, ho, rfl⟩) h
noncomputable def boundS (a : Addr) : Obj := { cls := .type "builtin_function_or_method", data := .fields #[.builtin "re.Pattern.search", .ref a] }
theorem callWith_fieldsS {pos : Pos} {u : Addr} {first : List Value} {args : List (Bool × Sem Value)} {Q : Value → Shared → Prop} {M : Model} (hplain : args.any (·.1) = false)
    (h : wpAny M A (evalArgs (.ref u) true args []) (fun x s₁ => s₁.heap.get? u = some (boundS a) ∧ wpAny M A (call (.ref u) (first ++ x.pos) x.kw) Q E s₁) E s) : wpAny M A (callWith pos (.ref u) first args []) Q E s := by
  unfold callWith
  refine wpAny_bind (wpAny_holding (wpAny_mono h (fun x s₁ h₁ => wpAny_bind (wpAny_standAt ?_)) fun _ _ x => x))
  refine hid fun hn9_223 => ?_
  obtain ⟨ho, hcall⟩ := h₁
  refine hn9_223 ?_
  clear hn9_223
  simp only [hplain, List.any_nil, Bool.or_false]
  refine wpAny_bind (m := keeperOf (.ref u)) ?_
  unfold keeperOf
  refine wpAny_bind (wpAny_load ho ?_)
  simp only [boundS, show (Value.type "builtin_function_or_method" != Value.type "method") = true by decide, show (Value.type "builtin_function_or_method" == Value.type "builtin_function_or_method" || Value.type "builtin_function_or_method" == Value.type "method-wrapper") = true by decide, if_true]
  refine wpAny_pure ?_
  exact wpAny_bind (wpAny_mono hcall (fun r s₂ hr => wpAny_bind (wpAny_holding (wpAny_point (wpAny_pure hr)))) fun _ _ x => x)
theorem callWith_boundS {pos : Pos} {u : Addr} {env : Env} {e : Expr} {Q : Value → Shared → Prop} {M : Model}
    (h : wpAny M A (eval e env) (fun v s₁ => s₁.heap.get? u = some (boundS a) ∧ wpAny M A (call (.ref u) [v]) Q E s₁) E s)
    (he : starEach [e] env = (false, eval e env) :: starEach [] env := by rfl) :
    wpAny M A (callWith pos (.ref u) [] (backTo pos (starEach [e] env)) []) Q E s := by
  rw [he]
  refine callWith_fieldsS (a := a) (by rfl) ?_
  exact Calls.evalArgs_plain (Calls.spliced_cons (wpAny_mono h (fun _ _ h₁ => Calls.spliced_nil h₁) fun _ _ e => e))
noncomputable def sgRe : Manifest.Signature := Manifest.Signature.mk Manifest.Machinery.keywords "Pattern.search" "search" Manifest.Receiver.self
  [⟨"string", Manifest.ParamKind.posOrKw, true⟩, ⟨"pos", Manifest.ParamKind.posOrKw, false⟩, ⟨"endpos", Manifest.ParamKind.posOrKw, false⟩]
theorem sig_re : Manifest.signature? "re.Pattern.search" = some sgRe := by kernel_rfl
theorem kind_re : builtinKind "re.Pattern.search" = some .method := by decide +kernel
theorem sub_re_module : isSubtype (.type "re.Pattern") (.type "module") = pure false := by rw [isSubtype_type]; kernel_rfl
theorem sub_re_type : isSubtype (.type "re.Pattern") (.type "type") = pure false := by rw [isSubtype_type]; kernel_rfl
theorem check_re {M : Model} {p0 p1 : Value} {Q : Unit → Shared → Prop} (ho : s.heap.get? a = some (patObj p0 p1 c)) (h : Q () s) : wpAny M A (checkBoundCall "re.Pattern.search" ⟨[.ref a, .str x t], []⟩) Q E s := by
  have ht : s.TypeIs (.ref a) "re.Pattern" := ⟨_, ho, rfl⟩
  unfold checkBoundCall
  rw [sig_re, kind_re]
  dsimp only
  show wpAny _ _ (isInstance (.ref a) (.type "module") >>= _) _ _ _
  refine wpAny_bind (wpAny_isInstance ht sub_re_module ?_)
  have ev : (Manifest.varargsMethods.contains "re.Pattern.search" || false) = false := by decide +kernel
  rw [ev, if_neg Bool.false_ne_true]
  refine wpAny_bind (m := isType (.ref a)) (wpAny_bind (wpAny_loadPart' ho (wpAny_pure ?_)))
  show wpAny _ _ (typeOf (.ref a) >>= _) _ _ _
  refine wpAny_bind (wpAny_typeOf ht ?_)
  show wpAny _ _ (Bind.checkArgs "re.Pattern.search" { sgRe with full := toString (Bind.lastOf "re.Pattern") ++ toString "." ++ toString (Bind.lastOf "re.Pattern.search") } ⟨[.ref a, .str x t], []⟩) _ _ _
  refine wpAny_of_eq (a := ()) ?_ h
  kernel_rfl
theorem quiet_re {as : Args} : (Code.builtin "re.Pattern.search" as).quiet = true := Code.quiet_builtin _ (by decide +kernel)
theorem search_bound {u : Addr} {p0 p1 : Value} {Q : Value → Shared → Prop} (ho : s.heap.get? a = some (patObj p0 p1 c)) (hu : s.heap.get? u = some (boundS a))
    (tree : ∀ A' : Around, wpAny (model prog w) A' (Builtin.«re.Pattern.search» ⟨[.ref a, .str x t], []⟩) (fun fin s' => ∃ r, fin = .done (.ret r) ∧ Q r s') E s) :
    wpAny (model prog w) A (call (.ref u) [.str x t]) Q E s := by
  refine wpAny_call (codeAny_of_tree ?_)
  show wpAny _ A.in1 (callAny (.ref u) ⟨[.str x t], []⟩) _ _ s
  simp only [callAny]
  refine wpAny_bind (wpAny_load hu ?_)
  simp only [boundS, show (Value.type "builtin_function_or_method" == Value.type "method" || Value.type "builtin_function_or_method" == Value.type "builtin_function_or_method" || Value.type "builtin_function_or_method" == Value.type "method-wrapper") = true by decide, if_true]
  refine KFB.if_so (by decide) ?_
  refine wpAny_bind (check_re ho ?_)
  refine wpAny_bind (wpAny_pure (wpAny_pure ?_))
  refine ⟨quiet_re, codeAny_builtin entry_re_search ?_⟩
  refine wpAny_mono (tree _) (fun fin s' h' => ?_) fun _ _ e => e
  refine hid fun hn9_224 => ?_
  obtain ⟨r, rfl, hq⟩ := h'
  refine hn9_224 ?_
  clear hn9_224
  exact hq
theorem truthy_match {r : Addr} {fs : Array Value} {Q : Bool → Shared → Prop} (ho : s.heap.get? r = some { cls := .type "re.Match", data := .fields fs }) (h : Q true s) : wpAny (model prog w) A (truthy (.ref r)) Q E s := by
  have ht : s.TypeIs (.ref r) "re.Match" := ⟨_, ho, rfl⟩
  unfold truthy
  first
    | refine wpAny_bind (wpAny_callSpecial?_none (name := Str.ofString "__bool__") ht noBool_match ?_)
    | refine wpAny_bind (wpAny_pure (wpAny_bind (wpAny_callSpecial?_none (name := Str.ofString "__bool__") ht noBool_match ?_)))
  first
    | refine wpAny_bind (wpAny_specialOf (name := Str.ofString "__len__") ht noLen_match ?_)
    | refine wpAny_bind (wpAny_pure (wpAny_bind (wpAny_specialOf (name := Str.ofString "__len__") ht noLen_match ?_)))
  exact wpAny_pure h
end
end
end
section
-- text Qt
noncomputable def quoteL (x : Str) : List Nat := if plainO x = true then 39 :: (x.cps.toList.flatMap qenc ++ [39]) else x.cps.toList
theorem sL_self (x : Str) : sL x.cps.toList = x := by show (⟨x.cps.toList.toArray⟩ : Str) = x; simp
section
variable {w : World} {p : Program} {loose : List Str} {mean : ExcName → Option Value} {mg mb : Str → Option Value}
  {dp un : Nat} {gd : Option (List Code)} {cn : Str} {cs : Scope} {a : Addr} {ccd : Value} {cl : List (Str × Addr)} {outer : List Env} {A₀ : Around} {base h₀ : Heap} {L : Addr} {m : Str → Option Value} {s : Shared} {Q E : Value → Shared → Prop}
theorem uns_at {h h' : Heap} {K : Frag} (hK : K = Mine.mkK.heap_1 w.params) (X : K.In h) (k : ∀ b o, h.get? b = some o → h'.get? b = some o) :
    h'.get? 887 = some (boundS 199) ∧ h'.get? 199 = some (patObj (.str (Str.ofString "[^\\w@%+=:,./-]") 597) (.int 256 634) 198) ∧ h'.get? 198 = some { cls := .type "tuple", data := .seq (unsCode.map fun (c : Nat) => Value.int (c : Int) 0) 0 } := by
  refine hid fun hn9_225 => ?_
  subst hK <;> (refine hn9_225 ?_; clear hn9_225)
  exact ⟨k _ _ (X _ _ (by with_unfolding_all rfl)), k _ _ (X _ _ (by with_unfolding_all rfl)), k _ _ (X _ _ (by with_unfolding_all rfl))⟩
theorem quote_spec {news : List (Addr × Obj)} {t1 : Tok} {x : Str}
  (B : Below A₀ base outer h₀) (F : Fr h₀ L s.heap m) (X : (Mine.mkK.heap_1 w.params).In h₀) (N : News h₀ L s.heap news) (T : Top p loose mean mg mb h₀) (hk : cs.kind = .function)
  (hdp : dp + 5 < recursionLimit) (hun : un + 40 < cLine) (hx : x.length ≤ 1000)
  (h : ∀ t h' tk', Fr h₀ L h' m → News h₀ L h' news → Q (.str (sL (quoteL x)) t) { s with heap := h', toks := tk' }) :
  wpAny (model PySem.Challenge.rw_in0111_01.row.prog w) (ktrTop dp un gd cn cs L a ccd cl outer) (call (.ref 894) [.str x t1]) Q E s := by
  revert X; k_fill; intro X
  refine wpAny_call ?_
  ((k_dflt (refine' code_def ?k1q ?k2q ?k3q ?k4q ?k5q ?kAq ?kFq ?kKq ?k6q ?k7q ?k8q ?k9q ?kBq ?_ ?c2q ?c3q ?c4q ?c5q; (case kAq => exact rfl); (case kFq => exact rfl); (case kKq => assumption); (case k1q => k_asm); (case k2q => k_asm); (case k3q => k_asm); (case k4q => k_asm); (case k5q => k_asm); (case k6q => k_is); (case k7q => k_is); (case k8q => ktr_room); (case k9q => first | exact BindsTo.of_eq rfl | exact binds_K (by k_in) rfl (by k_is) rfl rfl rfl); (case c5q => decide); (case kBq => exact locs rfl); (case c2q => exact rfl); (case c3q => exact rfl); (case c4q => exact rfl); k_whole; intro gq Lq hq FGq Fq Nq Bq Xq Tq; (try dsimp only); (try k_lift Bq); (try k_fold))))
  refine hid fun hn9_226 => ?_
  obtain ⟨g5, L5, hg5, hL5⟩ := namesOf (by k_asm)
  refine hn9_226 ?_
  clear hn9_226
  refine hid fun hn9_227 => ?_
  subst hg5 <;> (refine hn9_227 ?_; clear hn9_227)
  refine hid fun hn9_228 => ?_
  subst hL5 <;> (refine hn9_228 ?_; clear hn9_228)
  (repeat' (first | (k_unfold; (try dsimp only)) | (k_end; wrow_close) | (first | ((with_reducible show wpAny _ _ (call (Value.builtin _) _ _) _ _ _); with_reducible (k_dflt (refine rep_keep (by change (_ : Nat) ≠ (_ : Nat); omega) (by change (_ : Nat) ≠ (_ : Nat); omega) (by change (_ : Nat) ≠ (_ : Nat); omega) (by decide +kernel) (by omega) (by decide +kernel) ?_; intro t8q k8q hk8q; (try dsimp only at hk8q)))) | (with_reducible with_reducible refine wpAny_execs_cons ?_) | (with_reducible with_reducible refine wpAny_execs_nil ?_) | (with_reducible (k_here; first | (refine ite_bt ?hq ?_; (case hq => with_reducible assumption)) | (refine ite_bf ?hq ?_; (case hq => with_reducible assumption)) | (refine ite_in_t ?hq ?_; (case hq => with_reducible assumption)) | (refine ite_in_f ?hq ?_; (case hq => with_reducible assumption)) | (refine ite_bt ?hq ?_; (case hq => decide +kernel)) | (refine ite_bf ?hq ?_; (case hq => decide +kernel)))) | walk1) | (dsimp only; walk1) | (leave1; (try dsimp only)) | fail "no step"))
  · refine callWith_boundS (a := 199) ?_
    (repeat' (first | (k_unfold; (try dsimp only)) | (k_end; wrow_close) | (first | ((with_reducible show wpAny _ _ (call (Value.builtin _) _ _) _ _ _); with_reducible (k_dflt (refine rep_keep (by change (_ : Nat) ≠ (_ : Nat); omega) (by change (_ : Nat) ≠ (_ : Nat); omega) (by change (_ : Nat) ≠ (_ : Nat); omega) (by decide +kernel) (by omega) (by decide +kernel) ?_; intro t8q k8q hk8q; (try dsimp only at hk8q)))) | (with_reducible with_reducible refine wpAny_execs_cons ?_) | (with_reducible with_reducible refine wpAny_execs_nil ?_) | (with_reducible (k_here; first | (refine ite_bt ?hq ?_; (case hq => with_reducible assumption)) | (refine ite_bf ?hq ?_; (case hq => with_reducible assumption)) | (refine ite_in_t ?hq ?_; (case hq => with_reducible assumption)) | (refine ite_in_f ?hq ?_; (case hq => with_reducible assumption)) | (refine ite_bt ?hq ?_; (case hq => decide +kernel)) | (refine ite_bf ?hq ?_; (case hq => decide +kernel)))) | walk1) | (dsimp only; walk1) | (leave1; (try dsimp only)) | fail "no step"))
    · exact (uns_at rfl (by k_asm) (Fr.keep (by k_asm))).1
    · have hl1 : (Txt.replace x (Str.ofString "'") (Str.ofString "'\"'\"'")).length ≤ 5000 := by
        have e39 : Str.ofString "'" = ⟨#[39]⟩ := by decide +kernel
        show (Txt.replace x _ _).cps.size ≤ _
        rw [← Array.length_toList, e39, rep_flat]
        have hv : x.cps.toList.length ≤ 1000 := by rw [Array.length_toList]; exact hx
        have := len_flat (f := rpl 39 (Str.ofString "'\"'\"'").cps.toList) (k := 5) (fun d => by unfold rpl; split; decide +kernel; exact Nat.le_of_ble_eq_true rfl) x.cps.toList
        omega
      refine hid fun hn9_229 => ?_
      obtain ⟨u1, u2, u3⟩ := uns_at (h := g5) rfl (by k_asm) (Fr.keep (by k_asm))
      refine hn9_229 ?_
      clear hn9_229
      refine' search_bound u2 u1 (fun A' => search_tree u2 u3 (by decide +kernel) uns_set ?hx ?F2 ?N2 ?h0 ?h1)
      case hx => omega
      case F2 => k_asm
      case N2 => k_asm
      case h0 =>
        intro h0
        have e : sL (quoteL x) = x := by
          have ne0 : (x.length : Int) ≠ 0 := by assumption
          unfold quoteL
          rw [if_neg, sL_self]
          unfold plainO
          rw [h0, decide_eq_false (by omega)]
          exact Bool.false_ne_true
        rw [e] at h
        (repeat' (first | (k_unfold; (try dsimp only)) | (k_end; wrow_close) | (first | ((with_reducible show wpAny _ _ (call (Value.builtin _) _ _) _ _ _); with_reducible (k_dflt (refine rep_keep (by change (_ : Nat) ≠ (_ : Nat); omega) (by change (_ : Nat) ≠ (_ : Nat); omega) (by change (_ : Nat) ≠ (_ : Nat); omega) (by decide +kernel) (by omega) (by decide +kernel) ?_; intro t8q k8q hk8q; (try dsimp only at hk8q)))) | (with_reducible with_reducible refine wpAny_execs_cons ?_) | (with_reducible with_reducible refine wpAny_execs_nil ?_) | (with_reducible (k_here; first | (refine ite_bt ?hq ?_; (case hq => with_reducible assumption)) | (refine ite_bf ?hq ?_; (case hq => with_reducible assumption)) | (refine ite_in_t ?hq ?_; (case hq => with_reducible assumption)) | (refine ite_in_f ?hq ?_; (case hq => with_reducible assumption)) | (refine ite_bt ?hq ?_; (case hq => decide +kernel)) | (refine ite_bf ?hq ?_; (case hq => decide +kernel)))) | walk1) | (dsimp only; walk1) | (leave1; (try dsimp only)) | fail "no step"))
        refine' h _ _ _ ?F3 ?N3
        case F3 => k_asm
        case N3 => k_asm
      case h1 =>
        intro h1 r5 h5 fs5 F5 N5 l5
        have e : sL (quoteL x) = Str.ofString "'" ++ Txt.replace x (Str.ofString "'") (Str.ofString "'\"'\"'") ++ Str.ofString "'" := by
          unfold quoteL
          rw [if_pos (by unfold plainO; rw [h1, Bool.or_true])]
          have e39 : Str.ofString "'" = ⟨#[39]⟩ := by decide +kernel
          have x1 : (Str.ofString "'\"'\"'").cps.toList = [39, 34, 39, 34, 39] := by decide +kernel
          refine Str.ext' (Array.toList_inj.mp ?_)
          simp only [Str.cps_append, Array.toList_append]
          rw [e39, rep_flat, x1, qenc_rpl]
          simp [sL]
        rw [e] at h
        (repeat' (first | (k_unfold; (try dsimp only)) | (k_end; wrow_close) | (first | ((with_reducible show wpAny _ _ (call (Value.builtin _) _ _) _ _ _); with_reducible (k_dflt (refine rep_keep (by change (_ : Nat) ≠ (_ : Nat); omega) (by change (_ : Nat) ≠ (_ : Nat); omega) (by change (_ : Nat) ≠ (_ : Nat); omega) (by decide +kernel) (by omega) (by decide +kernel) ?_; intro t8q k8q hk8q; (try dsimp only at hk8q)))) | (with_reducible with_reducible refine wpAny_execs_cons ?_) | (with_reducible with_reducible refine wpAny_execs_nil ?_) | (with_reducible (k_here; first | (refine ite_bt ?hq ?_; (case hq => with_reducible assumption)) | (refine ite_bf ?hq ?_; (case hq => with_reducible assumption)) | (refine ite_in_t ?hq ?_; (case hq => with_reducible assumption)) | (refine ite_in_f ?hq ?_; (case hq => with_reducible assumption)) | (refine ite_bt ?hq ?_; (case hq => decide +kernel)) | (refine ite_bf ?hq ?_; (case hq => decide +kernel)))) | walk1) | (dsimp only; walk1) | (leave1; (try dsimp only)) | fail "no step"))
        refine' h _ _ _ ?F4 ?N4
        case F4 => k_asm
        case N4 => ((refine' kst_newsOf ?rN1q ?rSq; (case rN1q => k_asm); (case rSq => (intro p9q h9q; repeat (first | exact h9q | refine List.Mem.tail _ ?_)))))
  · have e : quoteL x = [39, 39] := by
      have hz : x.length = 0 := by omega
      have e0 : x.cps = #[] := Array.eq_empty_of_size_eq_zero hz
      unfold quoteL
      rw [if_pos (by unfold plainO; rw [decide_eq_true hz]; rfl), e0]; rfl
    rw [e] at h
    refine' h _ _ _ ?F1 ?N1
    case F1 => k_asm
    case N1 => k_asm
end
end
section
-- text Ex
section
open PySem.Calls
variable {prog : Program} {w : World} {A : Around} {E : Value → Shared → Prop} {s : Shared} {X N I : String}
/-- an exception made by its class, with what was handed in -/
theorem exc_made (hc : ExcClass X N I) {rest : List Value} {Q : Value → Shared → Prop} (hrest : rest.length ≤ sizeLine)
    (h : ∀ h' e, Heap.MadeExc s.heap h' e X rest → Q (.ref e) { s with heap := h' }) : wpAny (model prog w) A (call (.type X) rest) Q E s := by
  refine wpAny_call (codeAny_of_tree ?_)
  show wpAny _ _ (callAny (.type X) ⟨rest, []⟩) _ _ s
  simp only [callAny]
  refine wpAny_pure ⟨Code.quiet_builtin _ (by decide +kernel), codeAny_builtin entry_type_call ?_⟩
  rw [Around.under_plain (weight_type_call X _ _) (by first | rfl | kernel_rfl | decide +kernel)]
  unfold Builtin.«type.__call__»
  dsimp only
  rw [if_neg (by rw [hc.notType]; exact Bool.false_ne_true), if_neg (by rw [hc.canNew]; exact Bool.false_ne_true)]
  refine hid fun hn9_230 => ?_
  obtain ⟨l, hl, hle⟩ := hc.mro
  refine hn9_230 ?_
  clear hn9_230
  refine wpAny_bind (wpAny_of_eq (hc.typeCall rest) (wpAny_bind (wpAny_of_eq hl ?_)))
  rw [if_neg (by rw [hle]; exact Bool.false_ne_true)]
  refine wpAny_bind (wpAny_of_eq hc.madeBy ?_)
  dsimp only
  refine wpAny_bind (wpAny_pure (wpAny_bind (wpAny_holding (new_exc hc ?_ hrest))))
  refine wpAny_bind (wpAny_isInstance (T := X) ⟨_, Heap.get?_push_size _ rfl, rfl⟩ hc.self ?_)
  simp only [Bool.not_true, Bool.false_eq_true, if_false]
  refine wpAny_bind (wpAny_holding (wpAny_callSpecial?_slot (name := Str.ofString "__init__") (T := X) ⟨_, Heap.get?_push_size _ rfl, rfl⟩ hc.init
    (init_exc hc (Heap.get?_push_size _ rfl) rfl rfl rfl ?_ hrest)))
  dsimp only
  rw [if_neg (by simp)]
  refine' wpAny_pure (h _ _ ⟨?hk, ?hn, _, ?ha, ?hb, ?hcc⟩)
  case ha =>
    refine (Heap.get?_update_self _ (Heap.get?_push_of_some _ (Heap.get?_push_size _ rfl)) (Obj.isFreed_of_fields (Obj.data_mapFields rfl _))).trans ?_
    rfl
  case hk =>
    intro b o hb
    rw [Heap.get?_update_other _ _ (Nat.ne_of_gt (Nat.lt_of_lt_of_le (Heap.lt_size hb) (by simp)))]
    exact Heap.get?_push_of_some _ (Heap.get?_push_of_some _ (Heap.get?_push_of_some _ hb))
  case hn => exact Heap.get?_none_of_le (by simp)
  case hb => exact Heap.get?_none_of_le (by simp only [Heap.size_push]; omega)
  case hcc =>
    rw [Heap.get?_update_other _ _ (by simp)]
    exact Heap.get?_push_size _ rfl
theorem exc_raise {rest : List Value} (hrest : rest.length ≤ sizeLine) (hc : ExcClass X N I)
    (h : ∀ h' e, Heap.MadeExc s.heap h' e X rest → E (.ref e) { s with heap := h' }) : wpAny (model prog w) A (call (.type X) rest) (Raisable E) E s :=
  exc_made hc hrest fun h' e hx => raisable_of_new hc hx.newExc (h h' e hx)
end
end
section
-- text Co
section
variable {w : World} {p : Program} {loose : List Str} {mean : ExcName → Option Value} {mg mb : Str → Option Value}
  {dp un : Nat} {gd : Option (List Code)} {cn : Str} {cs : Scope} {a : Addr} {ccd : Value} {cl : List (Str × Addr)} {outer : List Env} {A₀ : Around} {base h₀ : Heap} {L : Addr} {m : Str → Option Value} {s : Shared} {Q E : Value → Shared → Prop}
noncomputable def msgC : Str := Str.ofString "Control characters not allowed in headers"
theorem pat_at {h h' : Heap} {K : Frag} (hK : K = Mine.mkK.heap_1 w.params) (X : K.In h) (k : ∀ b o, h.get? b = some o → h'.get? b = some o) :
    (h'.get? 54 = some (patObj (.str (Str.ofString "[\\x00-\\x1F\\x7F]") 368) (.int 32 391) 53) ∧ h'.get? 53 = some { cls := .type "tuple", data := .seq (nameCode.map fun (c : Nat) => Value.int (c : Int) 0) 0 }) ∧
    ∃ p0 p1, h'.get? 59 = some (patObj p0 p1 58) ∧ h'.get? 58 = some { cls := .type "tuple", data := .seq (valCode.map fun (c : Nat) => Value.int (c : Int) 0) 0 } := by
  refine hid fun hn9_231 => ?_
  subst hK <;> (refine hn9_231 ?_; clear hn9_231)
  exact ⟨⟨k _ _ (X _ _ (by with_unfolding_all rfl)), k _ _ (X _ _ (by with_unfolding_all rfl))⟩, _, _, k _ _ (X _ _ (by with_unfolding_all rfl)), k _ _ (X _ _ (by with_unfolding_all rfl))⟩
theorem raisedSub {base h : Heap} {l : List Env} {e t : Addr} {cls : Value} {vs : List Value} {p : Addr × Obj} {news : List (Addr × Obj)} (R : RaisedK base l e cls t vs (p :: news) h) : RaisedK base l e cls t vs news h := by
  refine hid fun hn9_232 => ?_
  obtain ⟨⟨B, a, b, c, d⟩, r⟩ := R
  refine hn9_232 ?_
  clear hn9_232
  exact ⟨⟨B, a, fun q hq => b q (.tail _ hq), c, d⟩, r⟩
theorem conv_spec {news : List (Addr × Obj)} {t1 : Tok} {x : Str} {self : Value} {b : Bool}
  (B : Below A₀ base outer h₀) (F : Fr h₀ L s.heap m) (X : (Mine.mkK.heap_1 w.params).In h₀) (N : News h₀ L s.heap news) (T : Top p loose mean mg mb h₀) (hk : cs.kind = .function)
  (hdp : dp + 5 < recursionLimit) (hun : un + 40 < cLine) (hx : x.length ≤ 1000000)
  (h : badT (!b) x = false → ∀ h' tk', Fr h₀ L h' m → News h₀ L h' news → Q (.str x t1) { s with heap := h', toks := tk' })
  (hE : badT (!b) x = true → ∀ e t u h' tk' g, RaisedK base (envX cn cs L a ccd cl :: outer) e (.type "ValueError") t [.str msgC u] news h' → Fr h₀ L g m → g.UpToSlots h' → E (.ref e) { s with heap := h', toks := tk' }) :
  wpAny (model PySem.Challenge.rw_in0111_01.row.prog w) (ktrTop dp un gd cn cs L a ccd cl outer) (call (.ref 89) [self, .str x t1] [(Str.ofString "name", .bool b)]) Q E s := by
  refine hid fun hn9_233 => ?_
  cases b <;> (refine hn9_233 ?_; clear hn9_233)
  · revert X; k_fill; intro X
    refine wpAny_call ?_
    ((k_dflt (refine' code_def ?k1q ?k2q ?k3q ?k4q ?k5q ?kAq ?kFq ?kKq ?k6q ?k7q ?k8q ?k9q ?kBq ?_ ?c2q ?c3q ?c4q ?c5q; (case kAq => exact rfl); (case kFq => exact rfl); (case kKq => assumption); (case k1q => k_asm); (case k2q => k_asm); (case k3q => k_asm); (case k4q => k_asm); (case k5q => k_asm); (case k6q => k_is); (case k7q => k_is); (case k8q => ktr_room); (case k9q => first | exact BindsTo.of_eq rfl | exact binds_K (by k_in) rfl (by k_is) rfl rfl rfl); (case c5q => decide); (case kBq => exact locs rfl); (case c2q => exact rfl); (case c3q => exact rfl); (case c4q => exact rfl); k_whole; intro gq Lq hq FGq Fq Nq Bq Xq Tq; (try dsimp only); (try k_lift Bq); (try k_fold))))
    refine hid fun hn9_234 => ?_
    obtain ⟨g5, L5, hg5, hL5⟩ := namesOf (by k_asm)
    refine hn9_234 ?_
    clear hn9_234
    refine hid fun hn9_235 => ?_
    subst hg5 <;> (refine hn9_235 ?_; clear hn9_235)
    refine hid fun hn9_236 => ?_
    subst hL5 <;> (refine hn9_236 ?_; clear hn9_236)
    (repeat' (first | (k_unfold; (try dsimp only)) | (k_end; wrow_close) | ((fail_if_success (with_reducible show wpAny _ _ (getMethod _ (Str.ofString "search") _) _ _ _)); (first | ((with_reducible show wpAny _ _ (call (Value.type _) _ _) _ _ _); with_reducible (refine exc_raise ?hzq excClass_ValueError ?_; (case hzq => (rw [sizeLine_eq]; exact Nat.le_of_ble_eq_true rfl)); intro _ _ _)) | (with_reducible (k_here; first | (refine ite_bt ?hq ?_; (case hq => with_reducible assumption)) | (refine ite_bf ?hq ?_; (case hq => with_reducible assumption)) | (refine ite_in_t ?hq ?_; (case hq => with_reducible assumption)) | (refine ite_in_f ?hq ?_; (case hq => with_reducible assumption)) | (refine ite_bt ?hq ?_; (case hq => decide +kernel)) | (refine ite_bf ?hq ?_; (case hq => decide +kernel)))) | walk1)) | (dsimp only; (fail_if_success (with_reducible show wpAny _ _ (getMethod _ (Str.ofString "search") _) _ _ _)); walk1) | fail "no step"))
    refine hid fun hn9_237 => ?_
    obtain ⟨_, q0, q1, u2, u3⟩ := pat_at (h := g5) rfl (by k_asm) (Fr.keep (by k_asm))
    refine hn9_237 ?_
    clear hn9_237
    refine re_getMethod u2 ?_
    (repeat' (first | (k_unfold; (try dsimp only)) | (k_end; wrow_close) | (first | ((with_reducible show wpAny _ _ (call (Value.type _) _ _) _ _ _); with_reducible (refine exc_raise ?hzq excClass_ValueError ?_; (case hzq => (rw [sizeLine_eq]; exact Nat.le_of_ble_eq_true rfl)); intro _ _ _)) | (with_reducible (k_here; first | (refine ite_bt ?hq ?_; (case hq => with_reducible assumption)) | (refine ite_bf ?hq ?_; (case hq => with_reducible assumption)) | (refine ite_in_t ?hq ?_; (case hq => with_reducible assumption)) | (refine ite_in_f ?hq ?_; (case hq => with_reducible assumption)) | (refine ite_bt ?hq ?_; (case hq => decide +kernel)) | (refine ite_bf ?hq ?_; (case hq => decide +kernel)))) | walk1) | (dsimp only; walk1) | (leave1; (try dsimp only)) | fail "no step"))
    refine' search_rule u2 u3 (by decide +kernel) val_set hx ?F2a ?N2a ?h0a ?h1a
    case F2a => k_asm
    case N2a => k_asm
    case h0a =>
      intro h0
      (repeat' (first | (k_unfold; (try dsimp only)) | (k_end; wrow_close) | (first | ((with_reducible show wpAny _ _ (call (Value.type _) _ _) _ _ _); with_reducible (refine exc_raise ?hzq excClass_ValueError ?_; (case hzq => (rw [sizeLine_eq]; exact Nat.le_of_ble_eq_true rfl)); intro _ _ _)) | (with_reducible (k_here; first | (refine ite_bt ?hq ?_; (case hq => with_reducible assumption)) | (refine ite_bf ?hq ?_; (case hq => with_reducible assumption)) | (refine ite_in_t ?hq ?_; (case hq => with_reducible assumption)) | (refine ite_in_f ?hq ?_; (case hq => with_reducible assumption)) | (refine ite_bt ?hq ?_; (case hq => decide +kernel)) | (refine ite_bf ?hq ?_; (case hq => decide +kernel)))) | walk1) | (dsimp only; walk1) | (leave1; (try dsimp only)) | fail "no step"))
      refine' h h0 _ _ ?F3a ?N3a
      case F3a => k_asm
      case N3a => k_asm
    case h1a =>
      intro h1 r5 h5 fs5 F5 N5 l5
      refine truthy_match (N5.get (.head _)) ?_
      (repeat' (first | (k_unfold; (try dsimp only)) | (k_end; wrow_close) | (first | ((with_reducible show wpAny _ _ (call (Value.type _) _ _) _ _ _); with_reducible (refine exc_raise ?hzq excClass_ValueError ?_; (case hzq => (rw [sizeLine_eq]; exact Nat.le_of_ble_eq_true rfl)); intro _ _ _)) | (with_reducible (k_here; first | (refine ite_bt ?hq ?_; (case hq => with_reducible assumption)) | (refine ite_bf ?hq ?_; (case hq => with_reducible assumption)) | (refine ite_in_t ?hq ?_; (case hq => with_reducible assumption)) | (refine ite_in_f ?hq ?_; (case hq => with_reducible assumption)) | (refine ite_bt ?hq ?_; (case hq => decide +kernel)) | (refine ite_bf ?hq ?_; (case hq => decide +kernel)))) | walk1) | (dsimp only; walk1) | (leave1; (try dsimp only)) | fail "no step"))
      refine' hE h1 _ _ _ _ _ _ ?R4a ?G4a ?U4a
      case R4a => first | assumption | (exact raisedSub (by assumption))
      case U4a => assumption
      case G4a => assumption
  · revert X; k_fill; intro X
    refine wpAny_call ?_
    ((k_dflt (refine' code_def ?k1q ?k2q ?k3q ?k4q ?k5q ?kAq ?kFq ?kKq ?k6q ?k7q ?k8q ?k9q ?kBq ?_ ?c2q ?c3q ?c4q ?c5q; (case kAq => exact rfl); (case kFq => exact rfl); (case kKq => assumption); (case k1q => k_asm); (case k2q => k_asm); (case k3q => k_asm); (case k4q => k_asm); (case k5q => k_asm); (case k6q => k_is); (case k7q => k_is); (case k8q => ktr_room); (case k9q => first | exact BindsTo.of_eq rfl | exact binds_K (by k_in) rfl (by k_is) rfl rfl rfl); (case c5q => decide); (case kBq => exact locs rfl); (case c2q => exact rfl); (case c3q => exact rfl); (case c4q => exact rfl); k_whole; intro gq Lq hq FGq Fq Nq Bq Xq Tq; (try dsimp only); (try k_lift Bq); (try k_fold))))
    refine hid fun hn9_238 => ?_
    obtain ⟨g5, L5, hg5, hL5⟩ := namesOf (by k_asm)
    refine hn9_238 ?_
    clear hn9_238
    refine hid fun hn9_239 => ?_
    subst hg5 <;> (refine hn9_239 ?_; clear hn9_239)
    refine hid fun hn9_240 => ?_
    subst hL5 <;> (refine hn9_240 ?_; clear hn9_240)
    (repeat' (first | (k_unfold; (try dsimp only)) | (k_end; wrow_close) | ((fail_if_success (with_reducible show wpAny _ _ (getMethod _ (Str.ofString "search") _) _ _ _)); (first | ((with_reducible show wpAny _ _ (call (Value.type _) _ _) _ _ _); with_reducible (refine exc_raise ?hzq excClass_ValueError ?_; (case hzq => (rw [sizeLine_eq]; exact Nat.le_of_ble_eq_true rfl)); intro _ _ _)) | (with_reducible (k_here; first | (refine ite_bt ?hq ?_; (case hq => with_reducible assumption)) | (refine ite_bf ?hq ?_; (case hq => with_reducible assumption)) | (refine ite_in_t ?hq ?_; (case hq => with_reducible assumption)) | (refine ite_in_f ?hq ?_; (case hq => with_reducible assumption)) | (refine ite_bt ?hq ?_; (case hq => decide +kernel)) | (refine ite_bf ?hq ?_; (case hq => decide +kernel)))) | walk1)) | (dsimp only; (fail_if_success (with_reducible show wpAny _ _ (getMethod _ (Str.ofString "search") _) _ _ _)); walk1) | fail "no step"))
    refine hid fun hn9_241 => ?_
    obtain ⟨⟨u2, u3⟩, _⟩ := pat_at (h := g5) rfl (by k_asm) (Fr.keep (by k_asm))
    refine hn9_241 ?_
    clear hn9_241
    refine re_getMethod u2 ?_
    (repeat' (first | (k_unfold; (try dsimp only)) | (k_end; wrow_close) | (first | ((with_reducible show wpAny _ _ (call (Value.type _) _ _) _ _ _); with_reducible (refine exc_raise ?hzq excClass_ValueError ?_; (case hzq => (rw [sizeLine_eq]; exact Nat.le_of_ble_eq_true rfl)); intro _ _ _)) | (with_reducible (k_here; first | (refine ite_bt ?hq ?_; (case hq => with_reducible assumption)) | (refine ite_bf ?hq ?_; (case hq => with_reducible assumption)) | (refine ite_in_t ?hq ?_; (case hq => with_reducible assumption)) | (refine ite_in_f ?hq ?_; (case hq => with_reducible assumption)) | (refine ite_bt ?hq ?_; (case hq => decide +kernel)) | (refine ite_bf ?hq ?_; (case hq => decide +kernel)))) | walk1) | (dsimp only; walk1) | (leave1; (try dsimp only)) | fail "no step"))
    refine' search_rule u2 u3 (by decide +kernel) name_set hx ?F2b ?N2b ?h0b ?h1b
    case F2b => k_asm
    case N2b => k_asm
    case h0b =>
      intro h0
      (repeat' (first | (k_unfold; (try dsimp only)) | (k_end; wrow_close) | (first | ((with_reducible show wpAny _ _ (call (Value.type _) _ _) _ _ _); with_reducible (refine exc_raise ?hzq excClass_ValueError ?_; (case hzq => (rw [sizeLine_eq]; exact Nat.le_of_ble_eq_true rfl)); intro _ _ _)) | (with_reducible (k_here; first | (refine ite_bt ?hq ?_; (case hq => with_reducible assumption)) | (refine ite_bf ?hq ?_; (case hq => with_reducible assumption)) | (refine ite_in_t ?hq ?_; (case hq => with_reducible assumption)) | (refine ite_in_f ?hq ?_; (case hq => with_reducible assumption)) | (refine ite_bt ?hq ?_; (case hq => decide +kernel)) | (refine ite_bf ?hq ?_; (case hq => decide +kernel)))) | walk1) | (dsimp only; walk1) | (leave1; (try dsimp only)) | fail "no step"))
      refine' h h0 _ _ ?F3b ?N3b
      case F3b => k_asm
      case N3b => k_asm
    case h1b =>
      intro h1 r5 h5 fs5 F5 N5 l5
      refine truthy_match (N5.get (.head _)) ?_
      (repeat' (first | (k_unfold; (try dsimp only)) | (k_end; wrow_close) | (first | ((with_reducible show wpAny _ _ (call (Value.type _) _ _) _ _ _); with_reducible (refine exc_raise ?hzq excClass_ValueError ?_; (case hzq => (rw [sizeLine_eq]; exact Nat.le_of_ble_eq_true rfl)); intro _ _ _)) | (with_reducible (k_here; first | (refine ite_bt ?hq ?_; (case hq => with_reducible assumption)) | (refine ite_bf ?hq ?_; (case hq => with_reducible assumption)) | (refine ite_in_t ?hq ?_; (case hq => with_reducible assumption)) | (refine ite_in_f ?hq ?_; (case hq => with_reducible assumption)) | (refine ite_bt ?hq ?_; (case hq => decide +kernel)) | (refine ite_bf ?hq ?_; (case hq => decide +kernel)))) | walk1) | (dsimp only; walk1) | (leave1; (try dsimp only)) | fail "no step"))
      refine' hE h1 _ _ _ _ _ _ ?R4b ?G4b ?U4b
      case R4b => first | assumption | (exact raisedSub (by assumption))
      case U4b => assumption
      case G4b => assumption
end
end
section
-- text Di
section
variable {prog : Program} {w : World} {A : Around} {E : Value → Shared → Prop} {s : Shared} {a : Addr} {o : Obj} {xs : Array Value} {k : Nat} {name : Str}
theorem miss_by {u : Tok} {Q : Value → Shared → Prop}
    (hx : s.heap.get? a = some { cls := .type "list", dict := none, data := .seq xs k, slots := #[] }) (hmiss : typeLookup (.type "list") name = pure none) (hname : (["__module__", "__name__", "__qualname__", "__doc__", "__annotations__"] : List Str).contains name = false) (hA : A.handled = none)
    (h : ∀ h' tk e, Heap.NewExcOf s.heap h' e "AttributeError" → E (.ref e) { s with heap := h', toks := tk }) (hsz : name.length + 100 ≤ sizeLine) :
    wpAny (model prog w) A (getAttrBy (.ref a) (.str name u) false) Q E s := by
  refine hid fun hn9_242 => ?_
  obtain ⟨hp, g, d, tk, os⟩ := s
  refine hn9_242 ?_
  clear hn9_242
  have hT : ∀ tk', (⟨hp, g, d, tk', os⟩ : Shared).TypeIs (.ref a) "list" := fun _ => ⟨_, hx, rfl⟩
  have f1 := sub_AttributeError
  have f3 := F.slot_list_getattribute.lookup
  have f4 := F.slot_list_getattribute.bind (.ref a)
  have f5 := am_list_getattr_none
  unfold getAttrBy
  repeat (any_goals (first | assumption | exact hT _ | ((with_reducible show wpAny _ _ (call (Value.builtin "list.__getattribute__") _ _) _ _ _); refine call_meets F.slot_list_getattribute (hT _) am_entry_list_getattribute (F.args_list_getattribute_2 _ _) (meets_getattribute_miss_list a xs k #[] name _ hmiss hname hsz) ⟨hx, hA, fun h' tk' e hx' => ?_⟩) | wp_step))
  refine hid fun hn9_243 => ?_
  obtain ⟨t', u', he⟩ := hx'.there
  refine hn9_243 ?_
  clear hn9_243
  show wpAny _ _ (getattributeRaised _ _ _ _ _ _ _) _ _ _
  unfold getattributeRaised
  repeat (any_goals (first | assumption | wp_step))
  all_goals exact h _ _ _ hx'.of
end
section
variable {prog : Program} {w : World}
theorem ent_dloop : entryFor table "dict.update.loop" = some Builtin.«dict.update.loop» := entryFor_of_fast (by kernel_rfl)
theorem pl_dloop : plainId "dict.update.loop" = true := by decide +kernel
/-- the pairs of a list of tuples, as the heap shows them -/
noncomputable def PairsIn (hb : Heap) (items : Array Value) (ps : List (Str × Value)) : Prop :=
  items.size = ps.length ∧ ∀ (i : Nat) (p : Str × Value), ps[i]? = some p → ∃ t u, items[i]? = some (Value.ref t) ∧ IsTup hb t #[Value.str p.1 u, p.2]
theorem stored_snoc {ps : List (Str × Value)} {i : Nat} {p : Str × Value} (hn : (ps.map (·.1)).Nodup) (hp : ps[i]? = some p) : stored (ps.take i) p.1 p.2 = ps.take (i + 1) := by
  have hnot : ¬ ((ps.take i).any (fun kv => kv.1 = p.1)) = true := by
    intro h
    refine hid fun hn9_244 => ?_
    obtain ⟨q, hq, he⟩ := List.any_eq_true.mp h
    refine hn9_244 ?_
    clear hn9_244
    have he : q.1 = p.1 := of_decide_eq_true he
    refine hid fun hn9_245 => ?_
    obtain ⟨j, hj, hjq⟩ := List.mem_iff_getElem.mp hq
    refine hn9_245 ?_
    clear hn9_245
    have hji : j < i := by simp only [List.length_take] at hj; omega
    have h1 : ps[j]? = some q := by
      have := List.getElem?_eq_getElem hj
      rw [hjq, List.getElem?_take_of_lt hji] at this; exact this
    have a1 : (ps.map (·.1))[j]? = some p.1 := by rw [List.getElem?_map, h1, ← he]; rfl
    have a2 : (ps.map (·.1))[i]? = some p.1 := by rw [List.getElem?_map, hp]; rfl
    have hlt : j < (ps.map (·.1)).length := by rw [List.length_map]; exact (List.getElem?_eq_some_iff.mp h1).1
    have := (List.getElem?_inj hlt hn).mp (a1.trans a2.symm)
    omega
  rw [stored, if_neg hnot, List.take_succ, hp]; rfl
theorem sub1 {i n : Nat} (h : i < n) : n - i = n - (i + 1) + 1 := by omega
theorem sub1' {i n k : Nat} (h : i < n) (hk : n - i = k + 1) : n - (i + 1) = k := Nat.succ.inj ((sub1 h).symm.trans hk)
theorem dict_loop {A : Around} {R : Result → Shared → Prop} {hb : Heap} {l d it : Addr} {items : Array Value} {ps : List (Str × Value)} (hA : A.handled = none) (hl : hb.IsList l items) (hP : PairsIn hb items ps)
    (hn : (ps.map (·.1)).Nodup) (hsz : ps.length ≤ 1000) (hd : hb.get? d = none) (hi : hb.get? it = none) (hdi : d ≠ it) :
    ∀ (k i : Nat) (s : Shared), ps.length - i = k → i ≤ ps.length → (∀ b o, hb.get? b = some o → s.heap.get? b = some o) → s.heap.DictOf (strKind prog w) d (ps.take i) → s.heap.IsListIter it l i →
    (∀ h' t', (∀ b o, hb.get? b = some o → h'.get? b = some o) → h'.DictOf (strKind prog w) d ps → R (.ok (.ret .none)) { s with heap := h', toks := t' }) →
    codeAny (model prog w) A (.builtin "dict.update.loop" ⟨[.ref d, .ref it, rawInt i, .none], []⟩) R s := by
  intro k
  induction k with
  | zero =>
    intro i s hk hik hkp hD hI hR
    have e : i = ps.length := by omega
    refine hid fun hn9_246 => ?_
    subst e <;> (refine hn9_246 ?_; clear hn9_246)
    refine codeAny_builtin ent_dloop ?_
    rw [Around.under_plainId pl_dloop _]
    show wpAny _ A.in1 (pyNext (.ref it) >>= _) _ _ s
    refine wpAny_bind (wpAny_pyNext_list_end hA hI (let ⟨o, ho, r⟩ := hl; ⟨o, hkp _ _ ho, r⟩) (by rw [← hP.1]; exact Array.getElem?_size) fun h' hx => ?_)
    refine wpAny_bind (wpAny_pure (wpAny_pure (hR h' s.toks (fun b o ho => hx b o (fun e => by rw [e, hi] at ho; cases ho) (hkp b o ho)) ?_)))
    rw [List.take_length] at hD
    exact hD.extBut hx hdi
  | succ k ih =>
    intro i s hk hik hkp hD hI hR
    have hlt : i < ps.length := by omega
    have hp : ps[i]? = some ps[i] := List.getElem?_eq_getElem hlt
    refine hid fun hn9_247 => ?_
    obtain ⟨t, u, hit, hT⟩ := hP.2 i _ hp
    refine hn9_247 ?_
    clear hn9_247
    refine codeAny_builtin ent_dloop ?_
    rw [Around.under_plainId pl_dloop _]
    show wpAny _ A.in1 (pyNext (.ref it) >>= _) _ _ s
    refine wpAny_bind (wpAny_pyNext_list_item hI (let ⟨o, ho, r⟩ := hl; ⟨o, hkp _ _ ho, r⟩) hit fun h' hI' hs => ?_)
    have hkp' : ∀ b o, hb.get? b = some o → h'.get? b = some o := fun b o ho => (hs.2 b (fun e => by rw [e, hi] at ho; cases ho)).trans (hkp b o ho)
    have hT' : IsTup ({ s with heap := h' } : Shared).heap t #[.str ps[i].1 u, ps[i].2] := hT.keeps hkp'
    refine hid fun hn9_248 => ?_
    obtain ⟨ot, hot, _, nt, hdt⟩ := id hT'
    refine hn9_248 ?_
    clear hn9_248
    show wpAny _ A.in1 (holding [Value.ref t] _ >>= _) _ _ _
    refine wpAny_bind (wpAny_holding (wpAny_bind (wpAny_tryCatch ?_)))
    unfold Builtin.Dict.pairItems
    refine wpAny_bind (wpAny_typeOf hT'.typeIs ?_)
    rw [if_pos (by decide)]
    refine wpAny_bind (wpAny_seqItems hot hdt (wpAny_pure ?_))
    show wpAny _ A.in1 (holding [Value.str ps[i].1 u, ps[i].2] (dictSet d (Value.str ps[i].1 u) ps[i].2)) _ _ _
    refine wpAny_holding (wpAny_dictSet_pairs (knd := strKind prog w) (strKind_is prog w _ u) (hD.sameBut hs hdi) (fun h2 hD2 hs2 => ?_) (by simp only [List.length_take]; exact Nat.le_trans (Nat.min_le_right _ _) (Nat.le_trans hsz (by decide))))
    rw [stored_snoc hn hp] at hD2
    refine wpAny_pure ⟨plainId_quiet pl_dloop _, ?_⟩
    have := ih (i + 1) { s with heap := h2, toks := s.toks + 1 } (sub1' hlt hk) hlt (fun b o ho => (hs2.2 b (fun e => by rw [e, hd] at ho; cases ho)).trans (hkp' b o ho)) hD2
      (by obtain ⟨o, ho, r⟩ := hI'; exact ⟨o, (hs2.2 it (Ne.symm hdi)).trans ho, r⟩) (fun h3 t3 k3 d3 => hR h3 t3 k3 d3)
    exact this
/-- dict(pairs) -/
theorem dict_made {A : Around} {E : Value → Shared → Prop} {s : Shared} {l : Addr} {items : Array Value} {nq : Nat} {ps : List (Str × Value)} {Q : Value → Shared → Prop} (hA : A.handled = none)
    (hl : s.heap.get? l = some { cls := .type "list", dict := none, data := .seq items nq, slots := #[] }) (hP : PairsIn s.heap items ps) (hn : (ps.map (·.1)).Nodup) (hsz : ps.length ≤ 1000)
    (h : ∀ h' t', (∀ b o, s.heap.get? b = some o → h'.get? b = some o) → h'.DictOf (strKind prog w) s.heap.objs.size ps → Q (.ref s.heap.objs.size) { s with heap := h', toks := t' }) :
    wpAny (model prog w) A (call (.type "dict") [.ref l]) Q E s := by
  refine callType_codes (Q₁ := fun obj s₁ => obj = .ref s.heap.objs.size ∧ s₁ = { s with heap := s.heap.push { cls := .type "dict", data := .dict #[] } }) F.kt_called_dict (F.kt_typeCall_dict_1 _) F.entry_dict_init (kt_code_dict_new _ ⟨rfl, rfl⟩) ?_
  rintro obj s₁ r9_249_2
  refine hid fun hn9_249 => ?_
  obtain ⟨rfl, rfl⟩ := r9_249_2
  refine hn9_249 ?_
  clear hn9_249
  have hnew : (s.heap.push { cls := .type "dict", data := .dict #[] }).DictOf (strKind prog w) s.heap.objs.size [] := Heap.DictOf.new s.heap
  have hk0 : ∀ b o, s.heap.get? b = some o → (s.heap.push { cls := .type "dict", data := .dict #[] }).get? b = some o := fun b o ho => Heap.get?_push_of_some _ ho
  have hl0 : ({ s with heap := s.heap.push { cls := .type "dict", data := .dict #[] } } : Shared).heap.get? l = some { cls := .type "list", dict := none, data := .seq items nq, slots := #[] } := hk0 _ _ hl
  have htl : ∀ tk', (⟨s.heap.push { cls := .type "dict", data := .dict #[] }, s.gens, s.drawn, tk', s.os⟩ : Shared).TypeIs (.ref l) "list" := fun _ => ⟨_, hl0, rfl⟩
  refine ⟨hnew.typeIs, F.args_dict_init_2 _ _, ?_⟩
  unfold Builtin.«dict.__init__»
  refine wpAny_bind ?_
  unfold Builtin.Dict.selfAndRest
  refine wpAny_bind (wpAny_notOrdered_dict hnew.typeIs ?_)
  show wpAny _ _ (pure (s.heap.objs.size, [Value.ref l])) _ _ _
  refine wpAny_pure ?_
  show wpAny _ _ (Builtin.Dict.updateFrom "dict.__init__" s.heap.objs.size (.ref l) [] .none) _ _ _
  unfold Builtin.Dict.updateFrom
  refine wpAny_bind (wpAny_typeOf (htl _) ?_)
  rw [if_pos (by decide)]
  have hmiss : typeLookup (.type "list") (Str.ofString "keys") = pure none := by rw [typeLookup_type, builtinLookup_eq_fast]; kernel_rfl
  unfold getAttr? getAttrBy?
  refine wpAny_bind (wpAny_bind (wpAny_mkText (wpAny_bind (wpAny_attempt ?_))))
  refine miss_by (xs := items) (k := nq) hl0 hmiss (by decide +kernel) hA ?_ (by exact Nat.le_of_ble_eq_true rfl)
  intro h1 t1 e hx
  refine hid fun hn9_250 => ?_
  obtain ⟨ob, vs, he, hcls, hdat, hv1⟩ := hx.there
  refine hn9_250 ?_
  clear hn9_250
  dsimp only
  refine wpAny_bind (wpAny_isInstance (T := "AttributeError") (b := true) ⟨ob, he, hcls⟩ sub_AttributeError ?_)
  rw [if_pos rfl]
  refine wpAny_pure ?_
  rw [if_pos (show (none : Option Value).isNone = true from rfl)]
  refine wpAny_bind (wpAny_rule (wpAny_bind ?_))
  have hk1 : ∀ b o, s.heap.get? b = some o → h1.get? b = some o := fun b o ho => hx.keeps b o (hk0 b o ho)
  refine wpAny_pyIter_list (items := items) ⟨_, hk1 _ _ hl, rfl, _, rfl⟩ ?_
  have hD1 : h1.DictOf (strKind prog w) s.heap.objs.size [] := hnew.keep hx.keeps
  have hlt : s.heap.objs.size < h1.objs.size := by obtain ⟨o, _, _, ho, _⟩ := hD1; exact Heap.lt_size ho
  have hk2 : ∀ b o, s.heap.get? b = some o → (h1.push { cls := .type "list_iterator", data := .fields #[.ref l, .int 0 0] }).get? b = some o := fun b o ho => Heap.get?_push_of_some _ (hk1 b o ho)
  refine wpAny_pure ⟨plainId_quiet pl_dloop _, ?_⟩
  refine dict_loop (hb := s.heap) (items := items) (l := l) (it := h1.objs.size) (d := s.heap.objs.size) (ps := ps) (show A.in1.handled = none from hA) ⟨_, hl, rfl, _, rfl⟩ hP hn hsz (Heap.get?_none_of_le (Nat.le_refl _)) (Heap.get?_none_of_le (Nat.le_of_lt hlt)) (Nat.ne_of_lt hlt)
    ps.length 0 { s with heap := h1.push { cls := .type "list_iterator", data := .fields #[.ref l, .int 0 0] }, toks := t1 } rfl (Nat.zero_le _) hk2 (hD1.push _) (by exact ⟨{ cls := .type "list_iterator", data := .fields #[.ref l, .int 0 0] }, Heap.get?_push_size _ rfl, rfl, rfl⟩) ?_
  intro h' t' hk' hd'
  exact ⟨rfl, h h' t' hk' hd'⟩
end
end
section
-- text It
section
open PySem.W
variable {prog : Program} {w : World} {A : Around} {E : Value → Shared → Prop} {s : Shared} {env : Env} {h₀ : Heap} {body : List Stmt} {Q : Flow → Shared → Prop}
theorem isDict_at {h : Heap} {d : Addr} {od : Obj} {kvs : List (Str × Value)} (ho : h.get? d = some od) (hd : od.IsDictOf (strKind prog w) kvs) : ∃ ep, h.DictAt (strKind prog w) d kvs ep := by
  exact (Heap.dictOf_iff.mpr ⟨od, ho, hd⟩).dictAt
theorem iter_itemsG {xk xv : Str} {pk pv pos : Pos} {kk : Nat} {d vw : Addr} {od : Obj} {kvs : List (Str × Value)} {m₀ : Str → Option Value} {news : List (Addr × Obj)} (J : Nat → (Str → Option Value) → List (Addr × Obj) → Prop)
    (hh : A.handled = none) (hxk : env.kindOf xk = some .local) (hxv : env.kindOf xv = some .local) (hp : (env.scope.kind == .class || (env.scope.kind == .module && env.locals != env.globals)) = false)
    (hvw : ∃ ov, s.heap.get? vw = some ov ∧ ov.cls = .type "dict_items" ∧ ov.data = .fields #[.ref d]) (hd : od.IsDictOf (strKind prog w) kvs)
    (hl : ∀ i m nw, J i m nw → (d, od) ∈ nw) (F : Fr h₀ env.locals s.heap m₀) (N : News h₀ env.locals s.heap news) (hj : J 0 m₀ news)
    (turn : ∀ i x y t m₁ nw h tk (I : Nat) oI, kvs[i]? = some (x, y) → J i m₁ nw → (∀ p ∈ nw, p.1 ≠ I) → Fr h₀ env.locals h (fun z => if z = xv then some y else if z = xk then some (.str x t) else m₁ z) → News h₀ env.locals h ((I, oI) :: nw) →
      wpAny (model prog w) A (execs body env) (PostG h₀ env.locals I oI (J (i + 1)) { s with heap := h, toks := tk } Q) E { s with heap := h, toks := tk })
    (done : ∀ m₁ nw h tk, J kvs.length m₁ nw → Fr h₀ env.locals h m₁ → News h₀ env.locals h nw → Q .next { s with heap := h, toks := tk }) :
    wpAny (model prog w) A (pyIter (.ref vw)) (fun it s₂ => TurnsAt prog w A h₀ env (.Tuple [.Name xk pk, .Name xv pv] kk pos) body Q E it s₂) E s := by
  have hm := hl _ _ _ hj
  refine hid fun hn9_251 => ?_
  obtain ⟨ep, hat⟩ := isDict_at (N _ hm).1 hd
  refine hn9_251 ?_
  clear hn9_251
  have hlt : d < s.heap.objs.size := Heap.lt_size (N _ hm).1
  have hne : d ≠ s.heap.objs.size := Nat.ne_of_lt hlt
  refine wpAny_pyIter_items hvw hat ?_
  have W := kti_itemsTurns (prog := prog) (w := w) (knd := strKind prog w) (elts := [.Name xk pk, .Name xv pv]) (kk := kk) (pos := pos) hh s.heap.objs.size d hne kvs ep
  refine ⟨s.heap.objs.size, _, _, _, _, _, _, m₀, news, J, rfl, W, ?_, ?_, fun p hp hI => ?_, ⟨⟨.none, .none, Heap.get?_push_size _ rfl⟩, hat.push _⟩, F.push _, fun p hp => ⟨Heap.get?_push_of_some _ (N p hp).1, (N p hp).2⟩, hj, ?_, ?_⟩
  · intro hm2
    rcases List.mem_cons.mp hm2 with e | hm2
    · exact absurd F.ns.lt (e ▸ Nat.lt_irrefl _)
    · exact (N _ hm).2.1 (List.mem_singleton.mp hm2).symm
  · intro b hb
    rw [List.mem_singleton.mp hb]; exact next_is_new F
  · exact absurd (Heap.lt_size (N p hp).1) ((List.mem_singleton.mp hI) ▸ Nat.lt_irrefl _)
  · rintro i v m₁ nw hh' tk' own hin r9_252_8 hJ hoff hown hget hall r9_252_14 F₁ N₁
    refine hid fun hn9_252 => ?_
    obtain ⟨T, key, k₁, x, rfl, hx, hkey, hT⟩ := r9_252_8
    obtain ⟨⟨ok, ov, hst'⟩, hat'⟩ := r9_252_14
    refine hn9_252 ?_
    clear hn9_252
    have hoI : hh'.get? s.heap.objs.size = some _ := hst'
    generalize ({ cls := .type "dict_itemiterator", dict := none, data := .fields #[.none, .bool false, .ref d, .int ((i + 1 : Nat) : Int) 0, .int kvs.length 0, .int ep 0, ok, ov], slots := #[] } : Obj) = oI at hoI
    have hIown : (s.heap.objs.size, oI) ∈ own := hall _ (.head _) (next_is_new F) oI hoI
    have off' : ∀ p ∈ nw, p.1 ≠ s.heap.objs.size := fun p hp e => hoff p hp (List.mem_singleton.mpr e)
    have N₂ : News h₀ env.locals hh' ((s.heap.objs.size, oI) :: nw) := fun p hp => by
      rcases List.mem_cons.mp hp with rfl | hp
      · exact N₁ _ (List.mem_append_left _ hIown)
      · exact N₁ _ (List.mem_append_right _ hp)
    obtain ⟨t, rfl⟩ : ∃ t, key = .str k₁ t := by
      cases key with
      | str y0 u0 =>
        have e0 : y0 = k₁ := by simpa [PySem.strKind, Value.isStrOf] using hkey
        exact ⟨u0, by rw [e0]⟩
      | _ => simp [PySem.strKind, Value.isStrOf] at hkey
    refine wpAny_assign_Tuple hh hT rfl rfl fun h₃ hx₃ => ?_
    have F₃ : Fr h₀ env.locals h₃ m₁ := F₁.extBut hx₃ (Nat.le_refl _)
    have N₃ : News h₀ env.locals h₃ ((s.heap.objs.size, oI) :: nw) := N₂.extBut hx₃ (Nat.le_refl _)
    show wpAny _ _ (do holding [x] (assign (.Name xk pk) env (.str k₁ t)); do holding [] (assign (.Name xv pv) env x); pure ()) _ _ _
    refine wpAny_bind (wpAny_holding (wpAny_assign_Name (wpAny_storeName_local hxk F₃.ns (fun h₄ hn₄ hs₄ => ?_) hp)))
    have F₄ := F₃.set hn₄ hs₄
    have N₄ : News h₀ env.locals h₄ ((s.heap.objs.size, oI) :: nw) := N₃.set hs₄
    refine wpAny_bind (wpAny_holding (wpAny_assign_Name (wpAny_storeName_local hxv F₄.ns (fun h₅ hn₅ hs₅ => wpAny_pure ?_) hp)))
    have F₅ := F₄.set hn₅ hs₅
    have N₅ : News h₀ env.locals h₅ ((s.heap.objs.size, oI) :: nw) := N₄.set hs₅
    refine wpAny_mono (turn i k₁ x t m₁ nw h₅ _ _ oI hx hJ off' F₅ N₅) (fun f s₂ p => ?_) fun _ _ e => e
    have fin : (∃ h' tk m' nw', s₂ = { s with heap := h', toks := tk } ∧ Fr h₀ env.locals h' m' ∧ News h₀ env.locals h' ((s.heap.objs.size, oI) :: nw') ∧ (∀ p ∈ nw', p.1 ≠ s.heap.objs.size) ∧ J (i + 1) m' nw') →
        LoopStepU h₀ env.locals [s.heap.objs.size] own (J (i + 1)) { s with heap := hh', toks := tk' } .next s₂ := by
      rintro r9_253_0
      refine hid fun hn9_253 => ?_
      obtain ⟨h', tk, m', nw', e, F', N', o', hm⟩ := r9_253_0
      refine hn9_253 ?_
      clear hn9_253
      refine ⟨rfl, h', tk, m', nw', e, F', fun p hp => ?_, fun p hp hq => o' p hp (List.mem_singleton.mp hq), hm⟩
      rcases List.mem_append.mp hp with hp | hp
      · by_cases e1 : p.1 = s.heap.objs.size
        · have : p = (s.heap.objs.size, oI) := by
            refine hid fun hn9_254 => ?_
            obtain ⟨pa, po⟩ := p
            refine hn9_254 ?_
            clear hn9_254
            dsimp only at e1
            refine hid fun hn9_255 => ?_
            subst e1 <;> (refine hn9_255 ?_; clear hn9_255)
            have := hget _ hp
            dsimp only at this
            rw [hoI] at this
            rw [Option.some.inj this]
          rw [this]
          exact N' _ (.head _)
        · have e2 : p.1 = d := by
            rcases List.mem_cons.mp (hown p hp) with e3 | e3
            · exact absurd e3 e1
            · exact List.mem_singleton.mp e3
          have h1 := (N₁ _ (List.mem_append_right _ (hl _ _ _ hJ))).1
          have h2 := hget _ hp
          have e4 : p = (d, od) := by
            refine hid fun hn9_256 => ?_
            obtain ⟨pa, po⟩ := p
            refine hn9_256 ?_
            clear hn9_256
            dsimp only at e2 h2 h1
            refine hid fun hn9_257 => ?_
            subst e2 <;> (refine hn9_257 ?_; clear hn9_257)
            exact congrArg (Prod.mk pa) (Option.some.inj (h2.symm.trans h1))
          rw [e4]
          exact N' _ (.tail _ (hl _ _ _ hm))
      · exact N' _ (.tail _ hp)
    cases f with
    | ret v => exact p
    | brk => exact p
    | next => exact .next (fin p)
    | cont => exact .cont (fin p)
  · intro h' tk m' nw' F' N' _ hJ
    exact done m' nw' h' tk hJ F' N'
end
end
section
-- text Kw
section
open PySem.W
variable {prog : Program} {w : World} {A A₀ : Around} {s : Shared} {K : Frag} {L : Addr} {h₀ base : Heap} {m mg mb : Str → Option Value} {news : List (Addr × Obj)} {p : Program} {loose : List Str} {mean : ExcName → Option Value}
theorem fx_loop {M : Model} {B : Around} {E : Value → Shared → Prop} {σ : Type} {f : Str × Value → σ → Sem (ForInStep σ)} {g : List (Str × Value) → σ} : ∀ (ex done : List (Str × Value)) {Q : σ → Shared → Prop} {s : Shared}, (∀ x ∈ ex, ∀ l, f x (g l) = pure (.yield (g (l ++ [x])))) → Q (g (done ++ ex)) s →
    wpAny M B (forIn ex (g done) f) Q E s
  | [], done, Q, s, _, h => by rw [List.forIn_nil]; rw [List.append_nil] at h; exact wpAny_pure h
  | x :: r, done, Q, s, hf, h => by
    rw [List.forIn_cons, hf x (.head _)]
    refine wpAny_bind (wpAny_pure ?_)
    have := fx_loop (M := M) (B := B) (E := E) r (done ++ [x]) (Q := Q) (s := s) (fun y hy => hf y (.tail _ hy)) (by rw [List.append_assoc]; exact h)
    exact this
theorem code_kw {env : Env} {outer : List Env} {R : Result → Shared → Prop} {name qual : Str} {params : Arguments} {body : List Stmt} {scope : Scope} {dV kV doc pm cdv ct oc : Value} {an od : Option Addr} {osl : Array (Option Value)} {f : Addr} {args : Args} {nm : Str} {ex front : List (Str × Value)}
    (B : Below A₀ base outer h₀) (F : Fr h₀ L s.heap m) (X₀ : K.In h₀) (N : News h₀ L s.heap news) (T : Top p loose mean mg mb h₀) (hA : A.frames = some (env :: outer)) (hf : env.frame = some L) (hke : env.scope.kind = .function)
    (ho : K.lookup f = some ⟨oc, od, .func (fnOf name qual params body scope dV kV doc pm an cdv ct), osl⟩) (hcd : codeIn K cdv qual = true) (hroom : A.depth < recursionLimit)
    (hn : (ex.map (·.1)).Nodup)
    (hbind : ∀ (Q : List (Str × Value) → Shared → Prop) (E : Value → Shared → Prop), wpAny (model prog w) A.in1 (alloc (dictOf [] 0) >>= fun D => forIn ex PUnit.unit (fun x _ => (nsSet D x.1 x.2 >>= fun _ => pure (ForInStep.yield PUnit.unit))) >>= fun _ => pure (front ++ [(nm, Value.ref D)])) Q E s →
      wpAny (model prog w) A.in1 (bindArgs (fnOf name qual params body scope dV kV doc pm an cdv ct) args) Q E s)
    (hloc : ∀ D, ∀ y ∈ front ++ [(nm, Value.ref D)], scope.names.lookup y.1 = some .local)
    (h : ∀ D o g L' h₁ tk, (∀ p ∈ news, p.1 < D) → (D == sysModules) = false → o.IsDictOf (PySem.strKind prog w) ex → Fr h₀ L g m → Fr g L' h₁ (fun y => (front ++ [(nm, Value.ref D)]).reverse.lookup y) → News g L' h₁ ((D, o) :: news) → Below A base (env :: outer) g → K.In g → Top p loose mean mg mb g →
      wpAny (model prog w) (A.deeper (envOf qual scope L' f cdv)) (execs body (envOf qual scope L' f cdv))
        (fun fl s' => LeaveK h₀ L m g R (match fl with | .ret v => v | _ => .none) s')
        (fun e s' => wpAny (model prog w) (A.deeper (envOf qual scope L' f cdv)) (leaving (envOf qual scope L' f cdv) e) (fun _ s'' => R (.error e) s'') (fun e' s'' => R (.error e') s'') s')
        { s with heap := h₁, toks := tk })
    (hco : scope.isCoroutine = false) (hgen : scope.isGenerator = false) (hk : scope.kind = .function)
    (hcell : ∀ x ∈ scope.names, x.2 ≠ .cell) : codeAny (model prog w) A (.call (.ref f) args) R s := by
  refine codeAny_call_function (fd := fnOf name qual params body scope dV kV doc pm an cdv ct) (body := body) hroom ((X₀.keeps F.keep) _ _ ho) rfl hco hgen rfl (codeRec_of (X₀.keeps F.keep) hcd) ?_
  refine hbind _ _ ?_
  refine wpAny_bind (wpAny_alloc ?_)
  have l : ∀ p ∈ news, p.1 < s.heap.objs.size := fun p hp => Heap.lt_size (N p hp).1
  refine wpAny_bind (kp_fill ex { s with heap := s.heap.push (dictOf [] 0) } [] 0 (F.push _) (News.push F N _) (fun p hp => Nat.ne_of_lt (l p hp)) (fun _ he => nomatch he) (fun _ he => nomatch he) hn fun h'' F'' N'' => wpAny_pure ?_)
  exact kp_frame (cl := []) (s := { s with heap := h'', toks := s.toks + ex.length }) B F'' N'' T.nolimit hA hf hke (hloc _)
    (fun g L' h₁ FG FL NG BG st => h _ _ g L' h₁ _ l (F.notModules (modules_low T.nolimit)) (kp_isDict s.toks (0 + ex.length) hn) FG FL NG BG (X₀.keeps st) (T.keeps st)) hcell hk
end
end
section
-- text Ap
section
variable {w : World} {p : Program} {loose : List Str} {mean : ExcName → Option Value} {mg mb : Str → Option Value}
  {dp un : Nat} {gd : Option (List Code)} {cn : Str} {cs : Scope} {a : Addr} {ccd : Value} {cl : List (Str × Addr)} {outer : List Env} {A₀ : Around} {base h₀ : Heap} {L : Addr} {m : Str → Option Value} {s : Shared} {Q E : Value → Shared → Prop}
noncomputable def exOf (ps : List PA) : List (Str × Value) := ps.map fun p => (p.k, oV p.v p.tv)
noncomputable def parT (p : PA) : Str := match p.v with
  | none => wordP p
  | some v => if v.length = 0 then wordP p else sL ((wordP p).cps.toList ++ 61 :: 34 :: (v.cps.toList.flatMap denc ++ [34]))
noncomputable def hdrT (ov : Option Str) (ps : List PA) : Str := Str.join (Str.ofString "; ") (ov.toList ++ ps.map parT)
noncomputable def badA (n : Str) (ov : Option Str) (ps : List PA) : Bool := badO ov || ps.any badP || badT false n
theorem wp_if_f {α : Type} {M : Model} {A : Around} {E : Value → Shared → Prop} {s : Shared} {c : Bool} {X Y : Sem α} {Q : α → Shared → Prop} (h : c = false) (k : wpAny M A Y Q E s) : wpAny M A (if c = true then X else Y) Q E s := by
  rw [if_neg (by rw [h]; exact Bool.false_ne_true)]; exact k
theorem wp_for_nil {σ β : Type} {M : Model} {A : Around} {E : Value → Shared → Prop} {s : Shared} {l : List β} {i : σ} {f : β → σ → Sem (ForInStep σ)} {Q : σ → Shared → Prop} (h : l = []) (k : Q i s) : wpAny M A (forIn l i f) Q E s := by
  rw [h, List.forIn_nil]; exact wpAny_pure k
theorem raisedMem {base h : Heap} {l : List Env} {e t : Addr} {cls : Value} {vs : List Value} {n1 n2 : List (Addr × Obj)} (R : RaisedK base l e cls t vs n1 h) (hs : ∀ q ∈ n2, q ∈ n1) : RaisedK base l e cls t vs n2 h := by
  refine hid fun hn9_258 => ?_
  obtain ⟨⟨B, a, b, c, d⟩, r⟩ := R
  refine hn9_258 ?_
  clear hn9_258
  exact ⟨⟨B, a, fun q hq => b q (hs q hq), c, d⟩, r⟩
theorem nokey {k : Str} (h : ∃ r c, k.cps.toList = r ++ [c] ∧ c < 58) {l : List Str} (hl : l.all (fun y => decide (58 ≤ (y.cps.toList.getLast?.getD 0))) = true) : l.contains k = false := by
  refine hid fun hn9_259 => ?_
  obtain ⟨r, c, e, hc⟩ := h
  refine hn9_259 ?_
  clear hn9_259
  rw [Bool.eq_false_iff]
  intro hm
  have h1 := of_decide_eq_true (List.all_eq_true.mp hl k (List.contains_iff_mem.mp hm))
  rw [e, List.getLast?_concat] at h1
  simp only [Option.getD_some] at h1
  omega
noncomputable def ddOf (ps : List PA) : List (PyData × PyData) := ps.map fun p => (PyData.str p.k, match p.v with | none => PyData.none | some x => PyData.str x)
theorem flat_ex : ∀ ps : List PA, PyProof.V.FlatPairs PyData.str (exOf ps) (ddOf ps)
  | [] => .nil
  | p :: r => by
    refine PyProof.V.FlatPairs.cons (k := p.k) ?_ (flat_ex r)
    rcases p.v with _ | x
    · exact PyProof.V.Flat.none
    · exact PyProof.V.Flat.str _ _
theorem ex_at {ps : List PA} {i : Nat} {x : Str} {y : Value} (h : (exOf ps)[i]? = some (x, y)) : ∃ r, ps[i]? = some r ∧ x = r.k ∧ y = oV r.v r.tv := by
  unfold exOf at h
  rw [List.getElem?_map, Option.map_eq_some_iff] at h
  refine hid fun hn9_260 => ?_
  obtain ⟨r, hr, e⟩ := h
  refine hn9_260 ?_
  clear hn9_260
  refine hid fun hn9_261 => ?_
  cases e <;> (refine hn9_261 ?_; clear hn9_261)
  exact ⟨r, hr, rfl, rfl⟩
theorem rep_dash (x : Str) : Txt.replace x (Str.ofString "_") (Str.ofString "-") = sL (x.cps.toList.map dash) := by
  have e95 : Str.ofString "_" = ⟨#[95]⟩ := by decide +kernel
  have e45 : (Str.ofString "-").cps.toList = [45] := by decide +kernel
  have h : (Txt.replace x (Str.ofString "_") (Str.ofString "-")).cps.toList = x.cps.toList.map dash := by
    rw [e95, rep_flat, e45]
    generalize x.cps.toList = l
    induction l with
    | nil => rfl
    | cons c r ih =>
      rw [List.flatMap_cons, ih, List.map_cons]
      unfold rpl dash
      split <;> rfl
  rw [← h]
theorem parT_len {p : PA} (h1 : p.k.length ≤ 1000) (h2 : (p.v.getD "").length ≤ 1000) : (parT p).length ≤ 3003 := by
  refine hid fun hn9_262 => ?_
  obtain ⟨ra, rk, rv, rtk, rtv, rn⟩ := p
  refine hn9_262 ?_
  clear hn9_262
  dsimp only at h1 h2
  have hw : (wordP ⟨ra, rk, rv, rtk, rtv, rn⟩).length ≤ 1000 := by unfold wordP; rw [word_len, Array.length_toList]; exact h1
  unfold parT
  rcases rv with _ | v
  · dsimp only; omega
  · dsimp only
    split
    · omega
    · rw [sL_len]
      have hd := len_flat (f := denc) (k := 2) (fun d => by unfold denc; split <;> simp) v.cps.toList
      have e1 : v.cps.toList.length ≤ 1000 := by rw [Array.length_toList]; exact h2
      have e2 : (wordP ⟨ra, rk, some v, rtk, rtv, rn⟩).cps.toList.length ≤ 1000 := by rw [Array.length_toList]; exact hw
      simp only [List.length_append, List.length_cons, List.length_nil]
      omega
theorem parT_sum : ∀ ps : List PA, (∀ q ∈ ps, q.k.length ≤ 1000 ∧ (q.v.getD "").length ≤ 1000) → ((ps.map parT).map (·.length)).sum ≤ 3003 * ps.length
  | [], _ => Nat.le_refl _
  | p :: r, h => by
    have h1 := parT_sum r fun q hq => h q (.tail _ hq)
    have h2 := parT_len (h p (.head _)).1 (h p (.head _)).2
    simp only [List.map_cons, List.sum_cons, List.length_cons]
    omega
theorem hdr_sum {ov : Option Str} {ps : List PA} (hv : (ov.getD "").length ≤ 10000) (hp : ∀ q ∈ ps, q.k.length ≤ 1000 ∧ (q.v.getD "").length ≤ 1000) (hps : ps.length ≤ 30) :
    ((ov.toList ++ ps.map parT).map (·.length)).sum + (ov.toList ++ ps.map parT).length ≤ 1048576 := by
  have h1 := parT_sum ps hp
  rw [List.map_append, List.sum_append, List.length_append, List.length_map]
  cases ov with
  | none => simp only [Option.toList, List.map_nil, List.sum_nil, List.length_nil]; omega
  | some x =>
    simp only [Option.getD] at hv
    simp only [Option.toList, List.map_cons, List.map_nil, List.sum_cons, List.sum_nil, List.length_cons, List.length_nil]
    omega
theorem fmt0_spec {news : List (Addr × Obj)} {t1 t2 : Tok} {n v : Str}
  (B : Below A₀ base outer h₀) (F : Fr h₀ L s.heap m) (X : (Mine.mkK.heap_1 w.params).In h₀) (N : News h₀ L s.heap news) (T : Top p loose mean mg mb h₀) (hk : cs.kind = .function)
  (hdp : dp + 5 < recursionLimit) (hun : un + 40 < cLine) (h0 : v.length = 0)
  (h : ∀ h' tk', Fr h₀ L h' m → News h₀ L h' news → Q (.str n t1) { s with heap := h', toks := tk' }) :
  wpAny (model PySem.Challenge.rw_in0111_01.row.prog w) (ktrTop dp un gd cn cs L a ccd cl outer) (call (.ref 67) [.str n t1, .str v t2]) Q E s := by
  revert X; k_fill; intro X
  refine wpAny_call ?_
  ((k_dflt (refine' code_def ?k1q ?k2q ?k3q ?k4q ?k5q ?kAq ?kFq ?kKq ?k6q ?k7q ?k8q ?k9q ?kBq ?_ ?c2q ?c3q ?c4q ?c5q; (case kAq => exact rfl); (case kFq => exact rfl); (case kKq => assumption); (case k1q => k_asm); (case k2q => k_asm); (case k3q => k_asm); (case k4q => k_asm); (case k5q => k_asm); (case k6q => k_is); (case k7q => k_is); (case k8q => ktr_room); (case k9q => first | exact BindsTo.of_eq rfl | exact binds_K (by k_in) rfl (by k_is) rfl rfl rfl); (case c5q => decide); (case kBq => exact locs rfl); (case c2q => exact rfl); (case c3q => exact rfl); (case c4q => exact rfl); k_whole; intro gq Lq hq FGq Fq Nq Bq Xq Tq; (try dsimp only); (try k_lift Bq); (try k_fold))))
  have h1 : v.length ≤ 1000 := by omega
  (repeat' (first | (k_unfold; (try dsimp only)) | (k_end; wrow_close) | (first | (with_reducible (k_here; first | (refine ite_bt ?hq ?_; (case hq => with_reducible assumption)) | (refine ite_bf ?hq ?_; (case hq => with_reducible assumption)) | (refine ite_in_t ?hq ?_; (case hq => with_reducible assumption)) | (refine ite_in_f ?hq ?_; (case hq => with_reducible assumption)) | (refine ite_bt ?hq ?_; (case hq => decide +kernel)) | (refine ite_bf ?hq ?_; (case hq => decide +kernel)))) | walk1) | (dsimp only; walk1) | (leave1; (try dsimp only)) | fail "no step"))
  refine' h _ _ ?F1 ?N1
  case F1 => k_asm
  case N1 => k_asm
end
end
section
-- text Ad
local macro_rules | `(tactic| k_all) => `(tactic| ((repeat (with_reducible rename (_ ∧ _) => hh9; cases hh9)); first | exact allNe (by assumption) (Nat.le_refl _) | exact allNe (by assumption) (Nat.le_succ _) | exact allNe2 (by assumption) (Nat.le_refl _) | exact off1Mem (by assumption) | assumption | exact allNe2 (by assumption) (by omega) | exact allNe (by assumption) (by omega)))
section
variable {w : World} {p : Program} {loose : List Str} {mean : ExcName → Option Value} {mg mb : Str → Option Value}
  {dp un : Nat} {gd : Option (List Code)} {cn : Str} {cs : Scope} {a : Addr} {ccd : Value} {cl : List (Str × Addr)} {outer : List Env} {A₀ : Around} {base h₀ : Heap} {L : Addr} {m : Str → Option Value} {s : Shared} {Q E : Value → Shared → Prop}
inductive AdA (s : Shared) (g5 : Heap) (L5 q D pl : Addr) (n : Str) (tn : Tok) (ov : Option Str) (R : List (Addr × Obj)) (s' : Shared) : Prop
  | of (h' : Heap) (tk nn1 : Nat) (u : Str → Option Value) (zs : List Value) (h1 : s' = { s with heap := h', toks := tk }) (h2 : badO ov = false) (h3 : Fr g5 L5 h' (fx [("self", .ref q), ("_name", .str n tn), ("_params", .ref D), ("parts", .ref pl)] u)) (h4 : StrsAre zs ov.toList)
    (h5 : News g5 L5 h' ((pl, W.listOf zs.toArray nn1) :: R)) : AdA s g5 L5 q D pl n tn ov R s'
inductive AdJ (q D pl : Addr) (n : Str) (tn : Tok) (ov : Option Str) (ps : List PA) (R : List (Addr × Obj)) (i : Nat) (m : Str → Option Value) (nw : List (Addr × Obj)) : Prop
  | of (u : Str → Option Value) (ys : List Value) (nn1 : Nat) (h1 : m = fx [("self", .ref q), ("_name", .str n tn), ("_params", .ref D), ("parts", .ref pl)] u) (h2 : StrsAre ys (ov.toList ++ (ps.take i).map parT)) (h3 : (ps.take i).any badP = false)
    (h4 : nw = (pl, W.listOf ys.toArray nn1) :: R) : AdJ q D pl n tn ov ps R i m nw
theorem addh_code {q dx hl : Nat} {kt : Tok} {hs : List Value} {nn nd : Nat} {rest : List (Addr × Obj)} {n : Str} {tn t0 : Tok} {ov : Option Str} {ps : List PA}
  (o1 : dx < q) (o2 : q < hl) (ho : OwnOff rest [hl, dx, q])
  (B : Below A₀ base outer h₀) (F : Fr h₀ L s.heap m) (X : (Mine.mkK.heap_1 w.params).In h₀) (N : News h₀ L s.heap ((hl, W.listOf hs.toArray nn) :: (dx, dictOf [en w.params "_headers" kt (.ref hl)] nd) :: (q, instObj 190 dx) :: rest))
  (T : Top p loose mean mg mb h₀) (hk : cs.kind = .function)
  (hdp : dp + 10 < recursionLimit) (hun : un + 100 < cLine) (hx : n.length ≤ 1000) (hv : (ov.getD "").length ≤ 10000) (hp : ∀ q ∈ ps, q.k.length ≤ 1000 ∧ (q.v.getD "").length ≤ 1000) (hps : ps.length ≤ 30) (hhs : hs.length ≤ 1000)
  (hnd : ((exOf ps).map (·.1)).Nodup) (hkw : ∀ q ∈ ps, ∃ r c, q.k.cps.toList = r ++ [c] ∧ c < 58)
  (h : badA n ov ps = false → ∀ (tt : Nat) t1 n1 n2 h' tk', Fr h₀ L h' m → News h₀ L h' ((tt, ({ cls := .type "tuple", data := .seq #[.str n tn, .str (hdrT ov ps) t1] n1 } : Obj)) :: (hl, W.listOf (hs ++ [Value.ref tt]).toArray n2) :: (dx, dictOf [en w.params "_headers" kt (.ref hl)] nd) :: (q, instObj 190 dx) :: rest) → (∀ p ∈ rest, p.1 < tt) →
    Q .none { s with heap := h', toks := tk' })
  (hE : badA n ov ps = true → ∀ e t u h' tk' g, RaisedK base (envX cn cs L a ccd cl :: outer) e (.type "ValueError") t [.str msgC u] ((hl, W.listOf hs.toArray nn) :: (dx, dictOf [en w.params "_headers" kt (.ref hl)] nd) :: (q, instObj 190 dx) :: rest) h' → Fr h₀ L g m → g.UpToSlots h' → E (.ref e) { s with heap := h', toks := tk' }) :
  codeAny (model PySem.Challenge.rw_in0111_01.row.prog w) (ktrTop dp un gd cn cs L a ccd cl outer) (.call (.ref 187) ⟨[.ref q, .str n tn, oV ov t0], exOf ps⟩) (fun r s' => match r with | .ok (.ret v) => Q v s' | .ok _ => False | .error e => E e s') s := by
  revert X; k_fill; intro X
  k_dflt (refine' code_kw (nm := Str.ofString "_params") (front := [(Str.ofString "self", Value.ref q), (Str.ofString "_name", Value.str n tn), (Str.ofString "_value", oV ov t0)]) ?k1 ?k2 ?k3 ?k4 ?k5 ?kA ?kF ?kK ?k6 ?k7 ?k8 ?kn ?k9 ?kB ?_ ?c2 ?c3 ?c4 ?c5)
  case kA => exact rfl
  case kF => exact rfl
  case kK => assumption
  case k1 => k_asm
  case k2 => k_asm
  case k3 => k_asm
  case k4 => k_asm
  case k5 => k_asm
  case k6 => k_is
  case k7 => k_is
  case k8 => ktr_room
  case kn => exact hnd
  case kB => exact fun D => locs rfl
  case c5 => decide
  case c2 => exact rfl
  case c3 => exact rfl
  case c4 => exact rfl
  case k9 =>
    intro Q1 E1 hq
    unfold bindArgs
    dsimp only
    refine wpAny_bind (fx_loop (g := fun l => ([(Str.ofString "self", Value.ref q), (Str.ofString "_name", Value.str n tn), (Str.ofString "_value", oV ov t0)], l)) (exOf ps) [] ?fe ?rest)
    case fe =>
      intro x hx l
      refine hid fun hn9_263 => ?_
      obtain ⟨r, hr, e⟩ := List.mem_map.mp hx
      refine hn9_263 ?_
      clear hn9_263
      have hk9 : ([Str.ofString "self", Str.ofString "_name", Str.ofString "_value"] : List Str).contains x.1 = false := by rw [← e]; exact nokey (hkw r hr) (by decide +kernel)
      show (if (([Str.ofString "self", Str.ofString "_name", Str.ofString "_value"] : List Str).contains x.1 || ([] : List Str).contains x.1) = true then _ else _) = _
      rw [if_neg (by rw [hk9]; exact Bool.false_ne_true)]
      rfl
    case rest =>
      rw [List.nil_append]
      refine wpAny_bind (wpAny_pure ?_)
      refine wp_if_f (by exact rfl) ?_
      refine wp_if_f (by exact rfl) ?_
      refine wpAny_bind (wp_for_nil (by exact rfl) ?_)
      refine wpAny_bind (wp_for_nil (by exact rfl) ?_)
      refine wp_if_f (by exact rfl) ?_
      dsimp only
      rw [if_neg (by rw [exOf, List.length_map, sizeLine_eq]; omega)]
      exact hq
  k_whole
  intro D o g5 L5 h5 tk5 lD hD hod FG F5 N5 B5 X5 T5
  have hD1 : hl < D := lD _ (.head _)
  have hD2 : dx < D := lD _ (.tail _ (.head _))
  have hD3 : q < D := lD _ (.tail _ (.tail _ (.head _)))
  have hD4 : dx < hl := Nat.lt_trans o1 o2
  (try dsimp only)
  (try k_lift B5)
  (try k_fold)
  (repeat' (first | (k_unfold; (try dsimp only)) | (k_end; wrow_close) | ((fail_if_success (with_reducible show wpAny _ _ (exec (Stmt.If _ _ _ _) _) _ _ _)); (first | (with_reducible (k_here; (with_reducible show wpAny _ _ (call (Value.builtin _) [Value.ref _, _]) _ _ _); k_dflt (refine' app_any ?Fq ?Nq ?Uq ?zq ?_; (case Fq => k_asm); (case Nq => k_asm); (case Uq => k_updF); (case zq => (first | (with_reducible assumption) | ((try simp only [List.length_append, List.length_cons, List.length_nil]); omega))); k_whole; intro hq nq Fq Nq; (try dsimp only at Nq); (try k_sweep)))) | ((with_reducible show wpAny _ _ (call (Value.builtin _) _ _) _ _ _); with_reducible (k_dflt (refine rep_keep (by change (_ : Nat) ≠ (_ : Nat); omega) (by change (_ : Nat) ≠ (_ : Nat); omega) (by change (_ : Nat) ≠ (_ : Nat); omega) (by decide +kernel) (by omega) (by decide +kernel) ?_; intro t8q k8q hk8q; (try dsimp only at hk8q)))) | (with_reducible ((with_reducible show wpAny _ _ (call (Value.ref 67) _) _ _ _); k_dflt (first | (refine' fmt_spec ?kBq ?kFq ?kXq ?kNq ?kTq ?kKq ?kdq ?kuq ?kyq ?kzq ?kwq ?_; (case kyq => with_reducible assumption); (case kFq => k_asm); (case kNq => k_asm); (case kBq => k_asm); (case kXq => k_asm); (case kTq => k_asm); (case kKq => first | exact rfl | assumption); (case kdq => ktr_room); (case kuq => ktr_units); (case kzq => first | (with_reducible assumption) | k_asm); (case kwq => first | (with_reducible assumption) | k_asm); k_whole; intro t9q h9q tk9q F9q N9q; (try dsimp only); (try k_fold)) | (refine' fmt0_spec ?kBq ?kFq ?kXq ?kNq ?kTq ?kKq ?kdq ?kuq ?kyq ?_; (case kyq => with_reducible assumption); (case kFq => k_asm); (case kNq => k_asm); (case kBq => k_asm); (case kXq => k_asm); (case kTq => k_asm); (case kKq => first | exact rfl | assumption); (case kdq => ktr_room); (case kuq => ktr_units); k_whole; intro h9q tk9q F9q N9q; (try dsimp only); (try k_fold))))) | (with_reducible ((with_reducible show wpAny _ _ (call (Value.ref 89) _ _) _ _ _); k_dflt (refine' conv_spec ?kBq ?kFq ?kXq ?kNq ?kTq ?kKq ?kdq ?kuq ?kzq ?_ ?_; (case kFq => k_asm); (case kNq => k_asm); (case kBq => k_asm); (case kXq => k_asm); (case kTq => k_asm); (case kKq => first | exact rfl | assumption); (case kdq => ktr_room); (case kuq => ktr_units); (case kzq => first | (with_reducible assumption) | k_asm); k_whole; intros; (try dsimp only); (try k_fold)))) | (with_reducible with_reducible refine wpAny_execs_cons ?_) | (with_reducible with_reducible refine wpAny_execs_nil ?_) | (with_reducible (k_here; first | (refine ite_bt ?hq ?_; (case hq => with_reducible assumption)) | (refine ite_bf ?hq ?_; (case hq => with_reducible assumption)) | (refine ite_in_t ?hq ?_; (case hq => with_reducible assumption)) | (refine ite_in_f ?hq ?_; (case hq => with_reducible assumption)) | (refine ite_bt ?hq ?_; (case hq => decide +kernel)) | (refine ite_bf ?hq ?_; (case hq => decide +kernel)))) | walk1)) | (dsimp only; (fail_if_success (with_reducible show wpAny _ _ (exec (Stmt.If _ _ _ _) _) _ _ _)); walk1) | fail "no step"))
  (rename News _ _ _ ((_, W.listOf #[] _) :: _) => Nr)
  refine hid fun hn9_264 => ?_
  obtain ⟨pl, hpl⟩ := addrOf Nr
  refine hn9_264 ?_
  clear hn9_264
  refine hid fun hn9_265 => ?_
  subst hpl <;> (refine hn9_265 ?_; clear hn9_265)
  have l1 : AllLt pl rest := And.right (And.right (And.right (And.right (by assumption))))
  refine if_join (R := AdA s g5 L5 q D pl n tn ov ((D, o) :: (hl, W.listOf hs.toArray nn) :: (dx, dictOf [en w.params "_headers" kt (.ref hl)] nd) :: (q, instObj 190 dx) :: rest)) ?_ ?_
  · rcases ov with _ | x
    · dsimp only [oV, Option.getD] at *
      (repeat' (first | (k_unfold; (try dsimp only)) | (k_end; wrow_close) | (first | (with_reducible (k_here; (with_reducible show wpAny _ _ (call (Value.builtin _) [Value.ref _, _]) _ _ _); k_dflt (refine' app_any ?Fq ?Nq ?Uq ?zq ?_; (case Fq => k_asm); (case Nq => k_asm); (case Uq => k_updF); (case zq => (first | (with_reducible assumption) | ((try simp only [List.length_append, List.length_cons, List.length_nil]); omega))); k_whole; intro hq nq Fq Nq; (try dsimp only at Nq); (try k_sweep)))) | ((with_reducible show wpAny _ _ (call (Value.builtin _) _ _) _ _ _); with_reducible (k_dflt (refine rep_keep (by change (_ : Nat) ≠ (_ : Nat); omega) (by change (_ : Nat) ≠ (_ : Nat); omega) (by change (_ : Nat) ≠ (_ : Nat); omega) (by decide +kernel) (by omega) (by decide +kernel) ?_; intro t8q k8q hk8q; (try dsimp only at hk8q)))) | (with_reducible ((with_reducible show wpAny _ _ (call (Value.ref 67) _) _ _ _); k_dflt (first | (refine' fmt_spec ?kBq ?kFq ?kXq ?kNq ?kTq ?kKq ?kdq ?kuq ?kyq ?kzq ?kwq ?_; (case kyq => with_reducible assumption); (case kFq => k_asm); (case kNq => k_asm); (case kBq => k_asm); (case kXq => k_asm); (case kTq => k_asm); (case kKq => first | exact rfl | assumption); (case kdq => ktr_room); (case kuq => ktr_units); (case kzq => first | (with_reducible assumption) | k_asm); (case kwq => first | (with_reducible assumption) | k_asm); k_whole; intro t9q h9q tk9q F9q N9q; (try dsimp only); (try k_fold)) | (refine' fmt0_spec ?kBq ?kFq ?kXq ?kNq ?kTq ?kKq ?kdq ?kuq ?kyq ?_; (case kyq => with_reducible assumption); (case kFq => k_asm); (case kNq => k_asm); (case kBq => k_asm); (case kXq => k_asm); (case kTq => k_asm); (case kKq => first | exact rfl | assumption); (case kdq => ktr_room); (case kuq => ktr_units); k_whole; intro h9q tk9q F9q N9q; (try dsimp only); (try k_fold))))) | (with_reducible ((with_reducible show wpAny _ _ (call (Value.ref 89) _ _) _ _ _); k_dflt (refine' conv_spec ?kBq ?kFq ?kXq ?kNq ?kTq ?kKq ?kdq ?kuq ?kzq ?_ ?_; (case kFq => k_asm); (case kNq => k_asm); (case kBq => k_asm); (case kXq => k_asm); (case kTq => k_asm); (case kKq => first | exact rfl | assumption); (case kdq => ktr_room); (case kuq => ktr_units); (case kzq => first | (with_reducible assumption) | k_asm); k_whole; intros; (try dsimp only); (try k_fold)))) | (with_reducible with_reducible refine wpAny_execs_cons ?_) | (with_reducible with_reducible refine wpAny_execs_nil ?_) | (with_reducible (k_here; first | (refine ite_bt ?hq ?_; (case hq => with_reducible assumption)) | (refine ite_bf ?hq ?_; (case hq => with_reducible assumption)) | (refine ite_in_t ?hq ?_; (case hq => with_reducible assumption)) | (refine ite_in_f ?hq ?_; (case hq => with_reducible assumption)) | (refine ite_bt ?hq ?_; (case hq => decide +kernel)) | (refine ite_bf ?hq ?_; (case hq => decide +kernel)))) | walk1) | (dsimp only; walk1) | (leave1; (try dsimp only)) | fail "no step"))
      refine' ⟨rfl, _, _, _, _, [], rfl, by decide +kernel, ?F1, .nil, ?N1⟩
      case F1 => ((refine' fr_fx ?fFq ?fEq; (case fFq => k_asm); (case fEq => ((repeat (refine List.forall_mem_cons.mpr ⟨rfl, ?_⟩)); exact List.forall_mem_nil _))))
      case N1 => ((refine' kst_newsOf ?rN1q ?rSq; (case rN1q => k_asm); (case rSq => ((repeat (refine List.forall_mem_cons.mpr ⟨by k_memK, ?_⟩)); (intro p9q h9q; repeat (first | exact h9q | refine List.Mem.tail _ ?_))))))
    · dsimp only [oV, Option.getD] at *
      have hv6 : x.length ≤ 1000000 := by omega
      (repeat' (first | (k_unfold; (try dsimp only)) | (k_end; wrow_close) | (first | (with_reducible (k_here; (with_reducible show wpAny _ _ (call (Value.builtin _) [Value.ref _, _]) _ _ _); k_dflt (refine' app_any ?Fq ?Nq ?Uq ?zq ?_; (case Fq => k_asm); (case Nq => k_asm); (case Uq => k_updF); (case zq => (first | (with_reducible assumption) | ((try simp only [List.length_append, List.length_cons, List.length_nil]); omega))); k_whole; intro hq nq Fq Nq; (try dsimp only at Nq); (try k_sweep)))) | ((with_reducible show wpAny _ _ (call (Value.builtin _) _ _) _ _ _); with_reducible (k_dflt (refine rep_keep (by change (_ : Nat) ≠ (_ : Nat); omega) (by change (_ : Nat) ≠ (_ : Nat); omega) (by change (_ : Nat) ≠ (_ : Nat); omega) (by decide +kernel) (by omega) (by decide +kernel) ?_; intro t8q k8q hk8q; (try dsimp only at hk8q)))) | (with_reducible ((with_reducible show wpAny _ _ (call (Value.ref 67) _) _ _ _); k_dflt (first | (refine' fmt_spec ?kBq ?kFq ?kXq ?kNq ?kTq ?kKq ?kdq ?kuq ?kyq ?kzq ?kwq ?_; (case kyq => with_reducible assumption); (case kFq => k_asm); (case kNq => k_asm); (case kBq => k_asm); (case kXq => k_asm); (case kTq => k_asm); (case kKq => first | exact rfl | assumption); (case kdq => ktr_room); (case kuq => ktr_units); (case kzq => first | (with_reducible assumption) | k_asm); (case kwq => first | (with_reducible assumption) | k_asm); k_whole; intro t9q h9q tk9q F9q N9q; (try dsimp only); (try k_fold)) | (refine' fmt0_spec ?kBq ?kFq ?kXq ?kNq ?kTq ?kKq ?kdq ?kuq ?kyq ?_; (case kyq => with_reducible assumption); (case kFq => k_asm); (case kNq => k_asm); (case kBq => k_asm); (case kXq => k_asm); (case kTq => k_asm); (case kKq => first | exact rfl | assumption); (case kdq => ktr_room); (case kuq => ktr_units); k_whole; intro h9q tk9q F9q N9q; (try dsimp only); (try k_fold))))) | (with_reducible ((with_reducible show wpAny _ _ (call (Value.ref 89) _ _) _ _ _); k_dflt (refine' conv_spec ?kBq ?kFq ?kXq ?kNq ?kTq ?kKq ?kdq ?kuq ?kzq ?_ ?_; (case kFq => k_asm); (case kNq => k_asm); (case kBq => k_asm); (case kXq => k_asm); (case kTq => k_asm); (case kKq => first | exact rfl | assumption); (case kdq => ktr_room); (case kuq => ktr_units); (case kzq => first | (with_reducible assumption) | k_asm); k_whole; intros; (try dsimp only); (try k_fold)))) | (with_reducible with_reducible refine wpAny_execs_cons ?_) | (with_reducible with_reducible refine wpAny_execs_nil ?_) | (with_reducible (k_here; first | (refine ite_bt ?hq ?_; (case hq => with_reducible assumption)) | (refine ite_bf ?hq ?_; (case hq => with_reducible assumption)) | (refine ite_in_t ?hq ?_; (case hq => with_reducible assumption)) | (refine ite_in_f ?hq ?_; (case hq => with_reducible assumption)) | (refine ite_bt ?hq ?_; (case hq => decide +kernel)) | (refine ite_bf ?hq ?_; (case hq => decide +kernel)))) | walk1) | (dsimp only; walk1) | (leave1; (try dsimp only)) | fail "no step"))
      · refine' ⟨rfl, _, _, _, _, [.str x t0], rfl, (by assumption), ?F2, .cons _ _ .nil, ?N2⟩
        case F2 => ((refine' fr_fx ?fFq ?fEq; (case fFq => k_asm); (case fEq => ((repeat (refine List.forall_mem_cons.mpr ⟨rfl, ?_⟩)); exact List.forall_mem_nil _))))
        case N2 => ((refine' kst_newsOf ?rN1q ?rSq; (case rN1q => k_asm); (case rSq => ((repeat (refine List.forall_mem_cons.mpr ⟨by k_memK, ?_⟩)); (intro p9q h9q; repeat (first | exact h9q | refine List.Mem.tail _ ?_))))))
      · (rename badT _ _ = true => hb5)
        refine' hE ?b5 _ _ _ _ _ _ (raisedMem (by assumption) ?m5) FG (by assumption)
        case b5 => unfold badA badO; rw [show badT true ((some x).getD (Str.ofString "")) = true from hb5]; rfl
        case m5 => ((intro p9q h9q; repeat (first | exact h9q | refine List.Mem.tail _ ?_)))
  · rintro s' r9_266_1
    refine hid fun hn9_266 => ?_
    obtain ⟨h', tk, nn1, u, zs, rfl, hbo, F6, hzs, N6⟩ := r9_266_1
    refine hn9_266 ?_
    clear hn9_266
    dsimp only [fx] at F6
    clear Nr
    have TT : TabAt (PySem.strKind PySem.Challenge.rw_in0111_01.row.prog w) PyData.str ({ s with heap := h', toks := tk } : Shared).heap D (ddOf ps) := ⟨hD, exOf ps, Heap.dictOf_iff.mpr ⟨o, (N6 _ (.tail _ (.head _))).1, hod⟩, flat_ex ps⟩
    (repeat' (first | (k_unfold; (try dsimp only)) | (k_end; wrow_close) | ((fail_if_success (with_reducible show wpAny _ _ (pyIter _) _ _ _)); (first | (with_reducible (k_here; (with_reducible show wpAny _ _ (call (Value.builtin _) [Value.ref _, _]) _ _ _); k_dflt (refine' app_any ?Fq ?Nq ?Uq ?zq ?_; (case Fq => k_asm); (case Nq => k_asm); (case Uq => k_updF); (case zq => (first | (with_reducible assumption) | ((try simp only [List.length_append, List.length_cons, List.length_nil]); omega))); k_whole; intro hq nq Fq Nq; (try dsimp only at Nq); (try k_sweep)))) | ((with_reducible show wpAny _ _ (call (Value.builtin _) _ _) _ _ _); with_reducible (k_dflt (refine rep_keep (by change (_ : Nat) ≠ (_ : Nat); omega) (by change (_ : Nat) ≠ (_ : Nat); omega) (by change (_ : Nat) ≠ (_ : Nat); omega) (by decide +kernel) (by omega) (by decide +kernel) ?_; intro t8q k8q hk8q; (try dsimp only at hk8q)))) | (with_reducible ((with_reducible show wpAny _ _ (call (Value.ref 67) _) _ _ _); k_dflt (first | (refine' fmt_spec ?kBq ?kFq ?kXq ?kNq ?kTq ?kKq ?kdq ?kuq ?kyq ?kzq ?kwq ?_; (case kyq => with_reducible assumption); (case kFq => k_asm); (case kNq => k_asm); (case kBq => k_asm); (case kXq => k_asm); (case kTq => k_asm); (case kKq => first | exact rfl | assumption); (case kdq => ktr_room); (case kuq => ktr_units); (case kzq => first | (with_reducible assumption) | k_asm); (case kwq => first | (with_reducible assumption) | k_asm); k_whole; intro t9q h9q tk9q F9q N9q; (try dsimp only); (try k_fold)) | (refine' fmt0_spec ?kBq ?kFq ?kXq ?kNq ?kTq ?kKq ?kdq ?kuq ?kyq ?_; (case kyq => with_reducible assumption); (case kFq => k_asm); (case kNq => k_asm); (case kBq => k_asm); (case kXq => k_asm); (case kTq => k_asm); (case kKq => first | exact rfl | assumption); (case kdq => ktr_room); (case kuq => ktr_units); k_whole; intro h9q tk9q F9q N9q; (try dsimp only); (try k_fold))))) | (with_reducible ((with_reducible show wpAny _ _ (call (Value.ref 89) _ _) _ _ _); k_dflt (refine' conv_spec ?kBq ?kFq ?kXq ?kNq ?kTq ?kKq ?kdq ?kuq ?kzq ?_ ?_; (case kFq => k_asm); (case kNq => k_asm); (case kBq => k_asm); (case kXq => k_asm); (case kTq => k_asm); (case kKq => first | exact rfl | assumption); (case kdq => ktr_room); (case kuq => ktr_units); (case kzq => first | (with_reducible assumption) | k_asm); k_whole; intros; (try dsimp only); (try k_fold)))) | (with_reducible with_reducible refine wpAny_execs_cons ?_) | (with_reducible with_reducible refine wpAny_execs_nil ?_) | (with_reducible (k_here; first | (refine ite_bt ?hq ?_; (case hq => with_reducible assumption)) | (refine ite_bf ?hq ?_; (case hq => with_reducible assumption)) | (refine ite_in_t ?hq ?_; (case hq => with_reducible assumption)) | (refine ite_in_f ?hq ?_; (case hq => with_reducible assumption)) | (refine ite_bt ?hq ?_; (case hq => decide +kernel)) | (refine ite_bf ?hq ?_; (case hq => decide +kernel)))) | walk1)) | (dsimp only; (fail_if_success (with_reducible show wpAny _ _ (pyIter _) _ _ _)); walk1) | fail "no step"))
    with_unfolding_all refine' W.For_turns F6 ?_
    k_whole
    refine MethodCall_ ?_
    k_dflt (refine ld F6 (by rfl) ?_)
    with_unfolding_all (refine getMethod_tab (knd := PySem.strKind _ _) (enc := PyData.str) PySem.F.slot_dict_items PySem.F.type_dict_items TT ?_)
    with_unfolding_all (refine callWith_method0 ?_)
    with_unfolding_all (refine call_items_tab (knd := PySem.strKind _ _) (enc := PyData.str) TT F6 N6 ?_)
    intro h7 o7 hv7 F7 N7
    replace N7 := W.kti_tail N7
    refine' iter_itemsG (AdJ q D pl n tn ov ps ((D, o) :: (hl, W.listOf hs.toArray nn) :: (dx, dictOf [en w.params "_headers" kt (.ref hl)] nd) :: (q, instObj 190 dx) :: rest)) (by rfl) (by rfl) (by rfl) (by rfl) hv7 hod ?hl8 ?F8 ?N8 ⟨_, zs, _, fx_self _ _ ?a8, ?b8, ?c8, rfl⟩ ?turn8 ?done8
    case hl8 => rintro i m nw ⟨u, ys, nn1, rfl, hys, hnb, rfl⟩; exact .tail _ (.head _)
    case F8 => exact F7
    case N8 => exact N7
    case a8 => exact List.forall_mem_cons.mpr ⟨rfl, List.forall_mem_cons.mpr ⟨rfl, List.forall_mem_cons.mpr ⟨rfl, List.forall_mem_cons.mpr ⟨rfl, List.forall_mem_nil _⟩⟩⟩⟩
    case b8 => rw [show ov.toList ++ (ps.take 0).map parT = ov.toList from List.append_nil _]; exact hzs
    case c8 => rfl
    case turn8 =>
      rintro i8 x8 y8 t8 m₁ nw h8 tk8 I oI hxy r9_267_11 off F8 N8
      refine hid fun hn9_267 => ?_
      obtain ⟨u, ys, nn1, rfl, hys, hnb, rfl⟩ := r9_267_11
      refine hn9_267 ?_
      clear hn9_267
      replace off := off1_of off
      simp only [LCg.Off1] at off
      dsimp only [fx] at F8
      refine hid fun hn9_268 => ?_
      obtain ⟨r, hr, rfl, rfl⟩ := ex_at hxy
      refine hn9_268 ?_
      clear hn9_268
      have hrm := List.mem_of_getElem? hr
      refine hid fun hn9_269 => ?_
      obtain ⟨hr1, hr2⟩ := hp r hrm
      refine hn9_269 ?_
      clear hn9_269
      have hpt : ov.toList ++ (ps.take (i8 + 1)).map parT = (ov.toList ++ (ps.take i8).map parT) ++ [parT r] := by rw [take_snocL hr, List.map_append, ← List.append_assoc]; rfl
      have hbt : (ps.take (i8 + 1)).any badP = badP r := by rw [take_snocL hr, List.any_append, hnb]; simp
      have hrb : badP r = true → badA n ov ps = true := fun e => by unfold badA; rw [List.any_eq_true.mpr ⟨r, hrm, e⟩]; simp
      have hyl : ys.length ≤ 1000 := by
        have e1 := hys.len_eq
        have e2 : ov.toList.length ≤ 1 := by cases ov <;> simp
        simp only [List.length_append, List.length_map, List.length_take] at e1
        omega
      refine hid fun hn9_270 => ?_
      obtain ⟨ra, rk, rv, rtk, rtv, rn⟩ := r
      refine hn9_270 ?_
      clear hn9_270
      dsimp only at F8 hr1 hr2
      have hr6 : rk.length ≤ 1000000 := by omega
      have hrd := rep_dash rk
      have hrl : (Txt.replace rk (Str.ofString "_") (Str.ofString "-")).length ≤ 1000 := by rw [hrd, word_len, Array.length_toList]; exact hr1
      have hall : ∀ (x : Str) (t : Tok), x = parT ⟨ra, rk, rv, rtk, rtv, rn⟩ → StrsAre (ys ++ [.str x t]) (ov.toList ++ (ps.take (i8 + 1)).map parT) := by
        intro x t e
        rw [hpt, e]
        exact hys.append' (.cons _ _ .nil)
      rcases rv with _ | v
      · dsimp only [oV, Option.getD] at F8 hr2
        (repeat' (first | (k_unfold; (try dsimp only)) | (k_end; wrow_close) | (first | (with_reducible (k_here; (with_reducible show wpAny _ _ (call (Value.builtin _) [Value.ref _, _]) _ _ _); k_dflt (refine' app_any ?Fq ?Nq ?Uq ?zq ?_; (case Fq => k_asm); (case Nq => k_asm); (case Uq => k_updF); (case zq => (first | (with_reducible assumption) | ((try simp only [List.length_append, List.length_cons, List.length_nil]); omega))); k_whole; intro hq nq Fq Nq; (try dsimp only at Nq); (try k_sweep)))) | ((with_reducible show wpAny _ _ (call (Value.builtin _) _ _) _ _ _); with_reducible (k_dflt (refine rep_keep (by change (_ : Nat) ≠ (_ : Nat); omega) (by change (_ : Nat) ≠ (_ : Nat); omega) (by change (_ : Nat) ≠ (_ : Nat); omega) (by decide +kernel) (by omega) (by decide +kernel) ?_; intro t8q k8q hk8q; (try dsimp only at hk8q)))) | (with_reducible ((with_reducible show wpAny _ _ (call (Value.ref 67) _) _ _ _); k_dflt (first | (refine' fmt_spec ?kBq ?kFq ?kXq ?kNq ?kTq ?kKq ?kdq ?kuq ?kyq ?kzq ?kwq ?_; (case kyq => with_reducible assumption); (case kFq => k_asm); (case kNq => k_asm); (case kBq => k_asm); (case kXq => k_asm); (case kTq => k_asm); (case kKq => first | exact rfl | assumption); (case kdq => ktr_room); (case kuq => ktr_units); (case kzq => first | (with_reducible assumption) | k_asm); (case kwq => first | (with_reducible assumption) | k_asm); k_whole; intro t9q h9q tk9q F9q N9q; (try dsimp only); (try k_fold)) | (refine' fmt0_spec ?kBq ?kFq ?kXq ?kNq ?kTq ?kKq ?kdq ?kuq ?kyq ?_; (case kyq => with_reducible assumption); (case kFq => k_asm); (case kNq => k_asm); (case kBq => k_asm); (case kXq => k_asm); (case kTq => k_asm); (case kKq => first | exact rfl | assumption); (case kdq => ktr_room); (case kuq => ktr_units); k_whole; intro h9q tk9q F9q N9q; (try dsimp only); (try k_fold))))) | (with_reducible ((with_reducible show wpAny _ _ (call (Value.ref 89) _ _) _ _ _); k_dflt (refine' conv_spec ?kBq ?kFq ?kXq ?kNq ?kTq ?kKq ?kdq ?kuq ?kzq ?_ ?_; (case kFq => k_asm); (case kNq => k_asm); (case kBq => k_asm); (case kXq => k_asm); (case kTq => k_asm); (case kKq => first | exact rfl | assumption); (case kdq => ktr_room); (case kuq => ktr_units); (case kzq => first | (with_reducible assumption) | k_asm); k_whole; intros; (try dsimp only); (try k_fold)))) | (with_reducible with_reducible refine wpAny_execs_cons ?_) | (with_reducible with_reducible refine wpAny_execs_nil ?_) | (with_reducible (k_here; first | (refine ite_bt ?hq ?_; (case hq => with_reducible assumption)) | (refine ite_bf ?hq ?_; (case hq => with_reducible assumption)) | (refine ite_in_t ?hq ?_; (case hq => with_reducible assumption)) | (refine ite_in_f ?hq ?_; (case hq => with_reducible assumption)) | (refine ite_bt ?hq ?_; (case hq => decide +kernel)) | (refine ite_bf ?hq ?_; (case hq => decide +kernel)))) | walk1) | (dsimp only; walk1) | (leave1; (try dsimp only)) | fail "no step"))
        · refine' PostG.intro ?F11 ?N11 ?o11 ⟨_, _, _, fx_self _ _ ?a11, hall _ _ ?e11, ?b11, rfl⟩
          case F11 => k_asm
          case a11 => exact List.forall_mem_cons.mpr ⟨rfl, List.forall_mem_cons.mpr ⟨rfl, List.forall_mem_cons.mpr ⟨rfl, List.forall_mem_cons.mpr ⟨rfl, List.forall_mem_nil _⟩⟩⟩⟩
          case N11 => ((refine' kst_newsOf ?rN1q ?rSq; (case rN1q => k_asm); (case rSq => ((repeat (refine List.forall_mem_cons.mpr ⟨by k_memK, ?_⟩)); (intro p9q h9q; repeat (first | exact h9q | refine List.Mem.tail _ ?_))))))
          case o11 => exact off1Mem (show LCg.Off1 I _ from off)
          case e11 => exact hrd
          case b11 =>
            (rename badT _ rk = false => hb11)
            rw [hbt]; unfold badP; rw [show badT false rk = false from hb11]; exact (by decide +kernel : (false || badO none) = false)
        · (rename badT _ rk = true => hb12)
          refine' hE ?b12 _ _ _ _ _ _ (raisedMem (by assumption) ?m12) FG (by assumption)
          case b12 => exact hrb (by unfold badP; rw [show badT false rk = true from hb12]; rfl)
          case m12 => ((intro p9q h9q; repeat (first | exact h9q | refine List.Mem.tail _ ?_)))
      · dsimp only [oV, Option.getD] at F8 hr2
        have hv6 : v.length ≤ 1000000 := by omega
        rcases Nat.eq_zero_or_pos v.length with hz | hz
        · (repeat' (first | (k_unfold; (try dsimp only)) | (k_end; wrow_close) | (first | (with_reducible (k_here; (with_reducible show wpAny _ _ (call (Value.builtin _) [Value.ref _, _]) _ _ _); k_dflt (refine' app_any ?Fq ?Nq ?Uq ?zq ?_; (case Fq => k_asm); (case Nq => k_asm); (case Uq => k_updF); (case zq => (first | (with_reducible assumption) | ((try simp only [List.length_append, List.length_cons, List.length_nil]); omega))); k_whole; intro hq nq Fq Nq; (try dsimp only at Nq); (try k_sweep)))) | ((with_reducible show wpAny _ _ (call (Value.builtin _) _ _) _ _ _); with_reducible (k_dflt (refine rep_keep (by change (_ : Nat) ≠ (_ : Nat); omega) (by change (_ : Nat) ≠ (_ : Nat); omega) (by change (_ : Nat) ≠ (_ : Nat); omega) (by decide +kernel) (by omega) (by decide +kernel) ?_; intro t8q k8q hk8q; (try dsimp only at hk8q)))) | (with_reducible ((with_reducible show wpAny _ _ (call (Value.ref 67) _) _ _ _); k_dflt (first | (refine' fmt_spec ?kBq ?kFq ?kXq ?kNq ?kTq ?kKq ?kdq ?kuq ?kyq ?kzq ?kwq ?_; (case kyq => with_reducible assumption); (case kFq => k_asm); (case kNq => k_asm); (case kBq => k_asm); (case kXq => k_asm); (case kTq => k_asm); (case kKq => first | exact rfl | assumption); (case kdq => ktr_room); (case kuq => ktr_units); (case kzq => first | (with_reducible assumption) | k_asm); (case kwq => first | (with_reducible assumption) | k_asm); k_whole; intro t9q h9q tk9q F9q N9q; (try dsimp only); (try k_fold)) | (refine' fmt0_spec ?kBq ?kFq ?kXq ?kNq ?kTq ?kKq ?kdq ?kuq ?kyq ?_; (case kyq => with_reducible assumption); (case kFq => k_asm); (case kNq => k_asm); (case kBq => k_asm); (case kXq => k_asm); (case kTq => k_asm); (case kKq => first | exact rfl | assumption); (case kdq => ktr_room); (case kuq => ktr_units); k_whole; intro h9q tk9q F9q N9q; (try dsimp only); (try k_fold))))) | (with_reducible ((with_reducible show wpAny _ _ (call (Value.ref 89) _ _) _ _ _); k_dflt (refine' conv_spec ?kBq ?kFq ?kXq ?kNq ?kTq ?kKq ?kdq ?kuq ?kzq ?_ ?_; (case kFq => k_asm); (case kNq => k_asm); (case kBq => k_asm); (case kXq => k_asm); (case kTq => k_asm); (case kKq => first | exact rfl | assumption); (case kdq => ktr_room); (case kuq => ktr_units); (case kzq => first | (with_reducible assumption) | k_asm); k_whole; intros; (try dsimp only); (try k_fold)))) | (with_reducible with_reducible refine wpAny_execs_cons ?_) | (with_reducible with_reducible refine wpAny_execs_nil ?_) | (with_reducible (k_here; first | (refine ite_bt ?hq ?_; (case hq => with_reducible assumption)) | (refine ite_bf ?hq ?_; (case hq => with_reducible assumption)) | (refine ite_in_t ?hq ?_; (case hq => with_reducible assumption)) | (refine ite_in_f ?hq ?_; (case hq => with_reducible assumption)) | (refine ite_bt ?hq ?_; (case hq => decide +kernel)) | (refine ite_bf ?hq ?_; (case hq => decide +kernel)))) | walk1) | (dsimp only; walk1) | (leave1; (try dsimp only)) | fail "no step"))
          · refine' PostG.intro ?F13 ?N13 ?o13 ⟨_, _, _, fx_self _ _ ?a13, hall _ _ ?e13, ?b13, rfl⟩
            case F13 => k_asm
            case a13 => exact List.forall_mem_cons.mpr ⟨rfl, List.forall_mem_cons.mpr ⟨rfl, List.forall_mem_cons.mpr ⟨rfl, List.forall_mem_cons.mpr ⟨rfl, List.forall_mem_nil _⟩⟩⟩⟩
            case N13 => ((refine' kst_newsOf ?rN1q ?rSq; (case rN1q => k_asm); (case rSq => ((repeat (refine List.forall_mem_cons.mpr ⟨by k_memK, ?_⟩)); (intro p9q h9q; repeat (first | exact h9q | refine List.Mem.tail _ ?_))))))
            case o13 => exact off1Mem (show LCg.Off1 I _ from off)
            case e13 => show _ = parT _; unfold parT; dsimp only; rw [if_pos hz]; exact hrd
            case b13 =>
              (rename badT _ rk = false => hb1)
              (rename badT _ v = false => hb2)
              rw [hbt]; unfold badP badO; rw [show badT false rk = false from hb1, show badT true ((some v).getD (Str.ofString "")) = false from hb2]; rfl
          · (rename badT _ v = true => hb3)
            refine' hE ?c13 _ _ _ _ _ _ (raisedMem (by assumption) ?m13) FG (by assumption)
            case c13 => exact hrb (by unfold badP badO; rw [show badT true ((some v).getD (Str.ofString "")) = true from hb3, Bool.or_true])
            case m13 => ((intro p9q h9q; repeat (first | exact h9q | refine List.Mem.tail _ ?_)))
          · (rename badT _ rk = true => hb4)
            refine' hE ?d13 _ _ _ _ _ _ (raisedMem (by assumption) ?p13) FG (by assumption)
            case d13 => exact hrb (by unfold badP; rw [show badT false rk = true from hb4]; rfl)
            case p13 => ((intro p9q h9q; repeat (first | exact h9q | refine List.Mem.tail _ ?_)))
        · (repeat' (first | (k_unfold; (try dsimp only)) | (k_end; wrow_close) | (first | (with_reducible (k_here; (with_reducible show wpAny _ _ (call (Value.builtin _) [Value.ref _, _]) _ _ _); k_dflt (refine' app_any ?Fq ?Nq ?Uq ?zq ?_; (case Fq => k_asm); (case Nq => k_asm); (case Uq => k_updF); (case zq => (first | (with_reducible assumption) | ((try simp only [List.length_append, List.length_cons, List.length_nil]); omega))); k_whole; intro hq nq Fq Nq; (try dsimp only at Nq); (try k_sweep)))) | ((with_reducible show wpAny _ _ (call (Value.builtin _) _ _) _ _ _); with_reducible (k_dflt (refine rep_keep (by change (_ : Nat) ≠ (_ : Nat); omega) (by change (_ : Nat) ≠ (_ : Nat); omega) (by change (_ : Nat) ≠ (_ : Nat); omega) (by decide +kernel) (by omega) (by decide +kernel) ?_; intro t8q k8q hk8q; (try dsimp only at hk8q)))) | (with_reducible ((with_reducible show wpAny _ _ (call (Value.ref 67) _) _ _ _); k_dflt (first | (refine' fmt_spec ?kBq ?kFq ?kXq ?kNq ?kTq ?kKq ?kdq ?kuq ?kyq ?kzq ?kwq ?_; (case kyq => with_reducible assumption); (case kFq => k_asm); (case kNq => k_asm); (case kBq => k_asm); (case kXq => k_asm); (case kTq => k_asm); (case kKq => first | exact rfl | assumption); (case kdq => ktr_room); (case kuq => ktr_units); (case kzq => first | (with_reducible assumption) | k_asm); (case kwq => first | (with_reducible assumption) | k_asm); k_whole; intro t9q h9q tk9q F9q N9q; (try dsimp only); (try k_fold)) | (refine' fmt0_spec ?kBq ?kFq ?kXq ?kNq ?kTq ?kKq ?kdq ?kuq ?kyq ?_; (case kyq => with_reducible assumption); (case kFq => k_asm); (case kNq => k_asm); (case kBq => k_asm); (case kXq => k_asm); (case kTq => k_asm); (case kKq => first | exact rfl | assumption); (case kdq => ktr_room); (case kuq => ktr_units); k_whole; intro h9q tk9q F9q N9q; (try dsimp only); (try k_fold))))) | (with_reducible ((with_reducible show wpAny _ _ (call (Value.ref 89) _ _) _ _ _); k_dflt (refine' conv_spec ?kBq ?kFq ?kXq ?kNq ?kTq ?kKq ?kdq ?kuq ?kzq ?_ ?_; (case kFq => k_asm); (case kNq => k_asm); (case kBq => k_asm); (case kXq => k_asm); (case kTq => k_asm); (case kKq => first | exact rfl | assumption); (case kdq => ktr_room); (case kuq => ktr_units); (case kzq => first | (with_reducible assumption) | k_asm); k_whole; intros; (try dsimp only); (try k_fold)))) | (with_reducible with_reducible refine wpAny_execs_cons ?_) | (with_reducible with_reducible refine wpAny_execs_nil ?_) | (with_reducible (k_here; first | (refine ite_bt ?hq ?_; (case hq => with_reducible assumption)) | (refine ite_bf ?hq ?_; (case hq => with_reducible assumption)) | (refine ite_in_t ?hq ?_; (case hq => with_reducible assumption)) | (refine ite_in_f ?hq ?_; (case hq => with_reducible assumption)) | (refine ite_bt ?hq ?_; (case hq => decide +kernel)) | (refine ite_bf ?hq ?_; (case hq => decide +kernel)))) | walk1) | (dsimp only; walk1) | (leave1; (try dsimp only)) | fail "no step"))
          · refine' PostG.intro ?F14 ?N14 ?o14 ⟨_, _, _, fx_self _ _ ?a14, hall _ _ ?e14, ?b14, rfl⟩
            case F14 => k_asm
            case a14 => exact List.forall_mem_cons.mpr ⟨rfl, List.forall_mem_cons.mpr ⟨rfl, List.forall_mem_cons.mpr ⟨rfl, List.forall_mem_cons.mpr ⟨rfl, List.forall_mem_nil _⟩⟩⟩⟩
            case N14 => ((refine' kst_newsOf ?rN1q ?rSq; (case rN1q => k_asm); (case rSq => ((repeat (refine List.forall_mem_cons.mpr ⟨by k_memK, ?_⟩)); (intro p9q h9q; repeat (first | exact h9q | refine List.Mem.tail _ ?_))))))
            case o14 => exact off1Mem (show LCg.Off1 I _ from off)
            case e14 => show _ = parT _; unfold parT; dsimp only; rw [if_neg (by omega), hrd]; rfl
            case b14 =>
              (rename badT _ rk = false => hb1)
              (rename badT _ v = false => hb2)
              rw [hbt]; unfold badP badO; rw [show badT false rk = false from hb1, show badT true ((some v).getD (Str.ofString "")) = false from hb2]; rfl
          · (rename badT _ v = true => hb3)
            refine' hE ?c14 _ _ _ _ _ _ (raisedMem (by assumption) ?m14) FG (by assumption)
            case c14 => exact hrb (by unfold badP badO; rw [show badT true ((some v).getD (Str.ofString "")) = true from hb3, Bool.or_true])
            case m14 => ((intro p9q h9q; repeat (first | exact h9q | refine List.Mem.tail _ ?_)))
          · (rename badT _ rk = true => hb4)
            refine' hE ?d14 _ _ _ _ _ _ (raisedMem (by assumption) ?p14) FG (by assumption)
            case d14 => exact hrb (by unfold badP; rw [show badT false rk = true from hb4]; rfl)
            case p14 => ((intro p9q h9q; repeat (first | exact h9q | refine List.Mem.tail _ ?_)))
    case done8 =>
      rintro m₁ nw h8 tk8 r9_271_4 F8 N8
      refine hid fun hn9_271 => ?_
      obtain ⟨u, ys, nn1, rfl, hys, hnb, rfl⟩ := r9_271_4
      refine hn9_271 ?_
      clear hn9_271
      rw [show (exOf ps).length = ps.length from List.length_map .., List.take_length] at hys hnb
      dsimp only [fx] at F8
      have hn6 : n.length ≤ 1000000 := by omega
      (repeat' (first | (k_unfold; (try dsimp only)) | (k_end; wrow_close) | (first | (with_reducible (k_here; (with_reducible show wpAny _ _ (call (Value.builtin _) [Value.ref _, _]) _ _ _); k_dflt (refine' app_any ?Fq ?Nq ?Uq ?zq ?_; (case Fq => k_asm); (case Nq => k_asm); (case Uq => k_updF); (case zq => (first | (with_reducible assumption) | ((try simp only [List.length_append, List.length_cons, List.length_nil]); omega))); k_whole; intro hq nq Fq Nq; (try dsimp only at Nq); (try k_sweep)))) | ((with_reducible show wpAny _ _ (call (Value.builtin _) _ _) _ _ _); with_reducible (k_dflt (refine rep_keep (by change (_ : Nat) ≠ (_ : Nat); omega) (by change (_ : Nat) ≠ (_ : Nat); omega) (by change (_ : Nat) ≠ (_ : Nat); omega) (by decide +kernel) (by omega) (by decide +kernel) ?_; intro t8q k8q hk8q; (try dsimp only at hk8q)))) | (with_reducible ((with_reducible show wpAny _ _ (call (Value.ref 67) _) _ _ _); k_dflt (first | (refine' fmt_spec ?kBq ?kFq ?kXq ?kNq ?kTq ?kKq ?kdq ?kuq ?kyq ?kzq ?kwq ?_; (case kyq => with_reducible assumption); (case kFq => k_asm); (case kNq => k_asm); (case kBq => k_asm); (case kXq => k_asm); (case kTq => k_asm); (case kKq => first | exact rfl | assumption); (case kdq => ktr_room); (case kuq => ktr_units); (case kzq => first | (with_reducible assumption) | k_asm); (case kwq => first | (with_reducible assumption) | k_asm); k_whole; intro t9q h9q tk9q F9q N9q; (try dsimp only); (try k_fold)) | (refine' fmt0_spec ?kBq ?kFq ?kXq ?kNq ?kTq ?kKq ?kdq ?kuq ?kyq ?_; (case kyq => with_reducible assumption); (case kFq => k_asm); (case kNq => k_asm); (case kBq => k_asm); (case kXq => k_asm); (case kTq => k_asm); (case kKq => first | exact rfl | assumption); (case kdq => ktr_room); (case kuq => ktr_units); k_whole; intro h9q tk9q F9q N9q; (try dsimp only); (try k_fold))))) | (with_reducible ((with_reducible show wpAny _ _ (call (Value.ref 89) _ _) _ _ _); k_dflt (refine' conv_spec ?kBq ?kFq ?kXq ?kNq ?kTq ?kKq ?kdq ?kuq ?kzq ?_ ?_; (case kFq => k_asm); (case kNq => k_asm); (case kBq => k_asm); (case kXq => k_asm); (case kTq => k_asm); (case kKq => first | exact rfl | assumption); (case kdq => ktr_room); (case kuq => ktr_units); (case kzq => first | (with_reducible assumption) | k_asm); k_whole; intros; (try dsimp only); (try k_fold)))) | (with_reducible with_reducible refine wpAny_execs_cons ?_) | (with_reducible with_reducible refine wpAny_execs_nil ?_) | (with_reducible (k_here; first | (refine ite_bt ?hq ?_; (case hq => with_reducible assumption)) | (refine ite_bf ?hq ?_; (case hq => with_reducible assumption)) | (refine ite_in_t ?hq ?_; (case hq => with_reducible assumption)) | (refine ite_in_f ?hq ?_; (case hq => with_reducible assumption)) | (refine ite_bt ?hq ?_; (case hq => decide +kernel)) | (refine ite_bf ?hq ?_; (case hq => decide +kernel)))) | walk1) | (dsimp only; walk1) | (leave1; (try dsimp only)) | fail "no step"))
      · refine' join_listW (items := ys.toArray) (News.isList ?NB8 (.head _)) (by rw [List.toList_toArray]; exact hys) (by decide +kernel) (hdr_sum hv hp hps) ?_
        case NB8 => k_asm
        intro t7 k7
        rw [show Txt.join (Str.ofString "; ") (ov.toList ++ ps.map parT) = hdrT ov ps from StrLaws.glued_eq_join _ _]
        generalize hg : hdrT ov ps = tx
        (repeat' (first | (k_unfold; (try dsimp only)) | (k_end; wrow_close) | (first | (with_reducible (k_here; (with_reducible show wpAny _ _ (call (Value.builtin _) [Value.ref _, _]) _ _ _); k_dflt (refine' app_any ?Fq ?Nq ?Uq ?zq ?_; (case Fq => k_asm); (case Nq => k_asm); (case Uq => k_updF); (case zq => (first | (with_reducible assumption) | ((try simp only [List.length_append, List.length_cons, List.length_nil]); omega))); k_whole; intro hq nq Fq Nq; (try dsimp only at Nq); (try k_sweep)))) | ((with_reducible show wpAny _ _ (call (Value.builtin _) _ _) _ _ _); with_reducible (k_dflt (refine rep_keep (by change (_ : Nat) ≠ (_ : Nat); omega) (by change (_ : Nat) ≠ (_ : Nat); omega) (by change (_ : Nat) ≠ (_ : Nat); omega) (by decide +kernel) (by omega) (by decide +kernel) ?_; intro t8q k8q hk8q; (try dsimp only at hk8q)))) | (with_reducible ((with_reducible show wpAny _ _ (call (Value.ref 67) _) _ _ _); k_dflt (first | (refine' fmt_spec ?kBq ?kFq ?kXq ?kNq ?kTq ?kKq ?kdq ?kuq ?kyq ?kzq ?kwq ?_; (case kyq => with_reducible assumption); (case kFq => k_asm); (case kNq => k_asm); (case kBq => k_asm); (case kXq => k_asm); (case kTq => k_asm); (case kKq => first | exact rfl | assumption); (case kdq => ktr_room); (case kuq => ktr_units); (case kzq => first | (with_reducible assumption) | k_asm); (case kwq => first | (with_reducible assumption) | k_asm); k_whole; intro t9q h9q tk9q F9q N9q; (try dsimp only); (try k_fold)) | (refine' fmt0_spec ?kBq ?kFq ?kXq ?kNq ?kTq ?kKq ?kdq ?kuq ?kyq ?_; (case kyq => with_reducible assumption); (case kFq => k_asm); (case kNq => k_asm); (case kBq => k_asm); (case kXq => k_asm); (case kTq => k_asm); (case kKq => first | exact rfl | assumption); (case kdq => ktr_room); (case kuq => ktr_units); k_whole; intro h9q tk9q F9q N9q; (try dsimp only); (try k_fold))))) | (with_reducible ((with_reducible show wpAny _ _ (call (Value.ref 89) _ _) _ _ _); k_dflt (refine' conv_spec ?kBq ?kFq ?kXq ?kNq ?kTq ?kKq ?kdq ?kuq ?kzq ?_ ?_; (case kFq => k_asm); (case kNq => k_asm); (case kBq => k_asm); (case kXq => k_asm); (case kTq => k_asm); (case kKq => first | exact rfl | assumption); (case kdq => ktr_room); (case kuq => ktr_units); (case kzq => first | (with_reducible assumption) | k_asm); k_whole; intros; (try dsimp only); (try k_fold)))) | (with_reducible with_reducible refine wpAny_execs_cons ?_) | (with_reducible with_reducible refine wpAny_execs_nil ?_) | (with_reducible (k_here; first | (refine ite_bt ?hq ?_; (case hq => with_reducible assumption)) | (refine ite_bf ?hq ?_; (case hq => with_reducible assumption)) | (refine ite_in_t ?hq ?_; (case hq => with_reducible assumption)) | (refine ite_in_f ?hq ?_; (case hq => with_reducible assumption)) | (refine ite_bt ?hq ?_; (case hq => decide +kernel)) | (refine ite_bf ?hq ?_; (case hq => decide +kernel)))) | walk1) | (dsimp only; walk1) | (leave1; (try dsimp only)) | fail "no step"))
        refine hid fun hn9_272 => ?_
        subst hg <;> (refine hn9_272 ?_; clear hn9_272)
        (rename badT _ n = false => hb7)
        refine' h ?b7 _ _ _ _ _ _ ?F7 ?N7 ?l7
        case b7 => unfold badA; rw [hbo, hnb, show badT false n = false from hb7]; rfl
        case F7 => k_asm
        case N7 => ((refine' kst_newsOf ?rN1q ?rSq; (case rN1q => k_asm); (case rSq => ((repeat (refine List.forall_mem_cons.mpr ⟨by k_memK, ?_⟩)); (intro p9q h9q; repeat (first | exact h9q | refine List.Mem.tail _ ?_))))))
        case l7 => ((repeat (with_reducible rename (_ ∧ _) => hh9; cases hh9)); exact ltAll (by assumption))
      · (rename badT _ n = true => hb6)
        refine' hE ?b6 _ _ _ _ _ _ (raisedMem (by assumption) ?m6) FG (by assumption)
        case b6 => unfold badA; rw [show badT false n = true from hb6, Bool.or_true]
        case m6 => ((intro p9q h9q; repeat (first | exact h9q | refine List.Mem.tail _ ?_)))
end
end
section
-- text Hp
noncomputable def refsH (hs : List HA) : List Value := hs.map fun h => Value.ref h.a
noncomputable def names6 : List Str := ["A", "x-Y", "a", "9_", "*.~", "V\t"]
noncomputable def bases8 : List Str := ["k", "a_b", "_", "k_", "-", "x", "__", "n\t"]
noncomputable def okT (n : Nat) (v : Option Str) : Prop := ∀ x, v = some x → x.length ≤ n ∧ ∀ c ∈ x.cps.toList, c < 1114112
structure OkP (n i : Nat) (p : PA) : Prop where
  key : ∃ b ∈ bases8, p.k = b ++ Str.ofString (toString ((i : Nat) : Int))
  txt : okT n p.v
structure OkH (n : Nat) (h : HA) : Prop where
  key : h.k ∈ names6
  txt : okT n h.v
  num : h.ps.length ≤ n
  ps : ∀ i p, h.ps[i]? = some p → OkP n i p
theorem slice_fr {prog : Program} {w : World} {A : Around} {E : Value → Shared → Prop} {hp : Heap} {g : Array GenState} {d : Drawn} {tk : Nat} {os : OsState} {value slice : Expr} {l : Addr} {vs : List Value} {vl vu : Value} {b : Nat}
    {h₀ : Heap} {L : Addr} {m : Str → Option Value} {news : List (Addr × Obj)} {Q : Value → Shared → Prop}
    (hl : hp.IsList l vs.toArray) (pl : IsPart vl none) (pu : IsPart vu (some (b : Int))) (F : Fr h₀ L hp m) (N : News h₀ L hp news)
    (hs : subscripted slice false (.ref l) (.ref hp.objs.size) = operate [.ref hp.objs.size, .ref l] (getItem (.ref l) (.ref hp.objs.size)))
    (ht : ∀ r, letTemporaryGo value (.ref l) r = pure ()) (hsz : vs.length ≤ 1000)
    (h : ∀ (D : Nat) h', (∀ p ∈ news, p.1 < D) → Fr h₀ L h' m → News h₀ L h' ((D, W.listOf (vs.take b).toArray 0) :: news) → Q (.ref D) ⟨h', g, d, tk, os⟩) :
    wpAny (model prog w) A (subscriptTail value slice (.ref l) (.ref hp.objs.size)) Q E ⟨hp.push { cls := .type "slice", data := .fields #[vl, vu, .none] }, g, d, tk, os⟩ := by
  refine slice_listK (s := ⟨hp, g, d, tk, os⟩) hl pl pu ?_ hs ht (by rw [List.size_toArray, sizeLine_eq]; omega)
  have e : hp.objs.size + 1 = (hp.push { cls := .type "slice", data := .fields #[vl, vu, .none] }).objs.size := (Heap.size_push ..).symm
  dsimp only
  rw [e, slicePick_upto', List.toList_toArray]
  exact h _ _ (fun p hp2 => by rw [← e]; exact Nat.lt_succ_of_lt (Heap.lt_size (N p hp2).1)) ((F.push _).push _) (News.push (F.push _) (N.pushKeep _) _)
theorem ints_at {vs : List Value} {ns : List Int} (h : IntsAre vs ns) {i : Nat} {v : Value} (e : vs[i]? = some v) : ∃ k t, v = .int k t := by
  induction h generalizing i with
  | nil => simp at e
  | cons k t _ ih =>
    cases i with
    | zero => simp at e; exact ⟨_, _, e.symm⟩
    | succ j => exact ih (by simpa using e)
theorem OkP.mono {n i : Nat} {p : PA} (h : OkP n i p) : OkP (n + 1) i p := ⟨h.key, fun x e => ⟨Nat.le_succ_of_le (h.txt x e).1, (h.txt x e).2⟩⟩
theorem OkH.mono {n : Nat} {x : HA} (h : OkH n x) : OkH (n + 1) x := ⟨h.key, fun y e => ⟨Nat.le_succ_of_le (h.txt y e).1, (h.txt y e).2⟩, Nat.le_succ_of_le h.num, fun i p e => (h.ps i p e).mono⟩
theorem addrOf3 {h₀ h : Heap} {L : Addr} {q q2 : Addr × Obj} {b : Addr} {o : Obj} {r : List (Addr × Obj)} (N : News h₀ L h (q :: q2 :: (b, o) :: r)) : ∃ a : Nat, a = b := ⟨_, rfl⟩
theorem off_tail {l r : List (Addr × Obj)} {p : Addr × Obj} {news : List (Addr × Obj)} (hn : ((l ++ p :: r).map (·.1)).Nodup) (hap : ∀ x ∈ l ++ p :: r, ∀ y ∈ news, y.1 < x.1) : ∀ x ∈ l ++ (r ++ news), x.1 ≠ p.1 := by
  intro x hx e
  rw [List.map_append, List.map_cons, List.nodup_append] at hn
  refine hid fun hn9_273 => ?_
  obtain ⟨_, hn2, hn3⟩ := hn
  refine hn9_273 ?_
  clear hn9_273
  rcases List.mem_append.mp hx with h1 | h1
  · exact hn3 _ (List.mem_map_of_mem h1) _ (List.mem_cons_self ..) e
  · rcases List.mem_append.mp h1 with h2 | h2
    · exact (List.nodup_cons.mp hn2).1 (e ▸ List.mem_map_of_mem h2)
    · exact absurd (hap p (List.mem_append_right _ (.head _)) x h2) (by rw [e]; exact Nat.lt_irrefl _)
noncomputable def ownL (hd : Nat) (dn : List HA) (cur : HA) (nn sl : Nat) (vs : List Value) : List (Addr × Obj) :=
  (hd, W.listOf (refsH dn ++ [Value.ref cur.a]).toArray nn) :: (cur.a, cur.obj) :: (cur.b, cur.obb) :: (cur.ps.map PA.led ++ (ledOf dn ++ [(sl, W.listOf vs.toArray 0)]))
theorem sl_in (hd : Nat) (dn : List HA) (cur : HA) (nn sl : Nat) (vs : List Value) : (sl, W.listOf vs.toArray 0) ∈ ownL hd dn cur nn sl vs :=
  .tail _ (.tail _ (.tail _ (List.mem_append_right _ (List.mem_append_right _ (.head _)))))
noncomputable def tailL (dn : List HA) (cur : HA) (sl : Nat) (vs : List Value) (news : List (Addr × Obj)) : List (Addr × Obj) := cur.ps.map PA.led ++ (ledOf dn ++ ((sl, W.listOf vs.toArray 0) :: news))
theorem own_eq (hd : Nat) (dn : List HA) (cur : HA) (nn sl : Nat) (vs : List Value) (news : List (Addr × Obj)) : ownL hd dn cur nn sl vs ++ news = (hd, W.listOf (refsH dn ++ [Value.ref cur.a]).toArray nn) :: (cur.a, cur.obj) :: (cur.b, cur.obb) :: tailL dn cur sl vs news := by
  unfold ownL tailL
  simp only [List.cons_append, List.append_assoc, List.nil_append]
theorem own_off {hd : Nat} {dn : List HA} {cur : HA} {nn sl : Nat} {vs : List Value} {news : List (Addr × Obj)} (nd : ((ownL hd dn cur nn sl vs).map (·.1)).Nodup) (ap : ∀ x ∈ ownL hd dn cur nn sl vs, ∀ y ∈ news, y.1 < x.1) :
    cur.a ≠ hd ∧ cur.b ≠ hd ∧ cur.b ≠ cur.a ∧ LCg.Off1 hd (tailL dn cur sl vs news) ∧ LCg.Off1 cur.a (tailL dn cur sl vs news) ∧ LCg.Off1 cur.b (tailL dn cur sl vs news) := by
  have e : ∀ x ∈ tailL dn cur sl vs news, x ∈ (cur.ps.map PA.led ++ (ledOf dn ++ [(sl, W.listOf vs.toArray 0)])) ++ news := fun x hx => by
    unfold tailL at hx
    simpa only [List.append_assoc, List.cons_append, List.nil_append] using hx
  have h1 := off_tail (l := []) (p := (hd, W.listOf (refsH dn ++ [Value.ref cur.a]).toArray nn)) (r := (cur.a, cur.obj) :: (cur.b, cur.obb) :: (cur.ps.map PA.led ++ (ledOf dn ++ [(sl, W.listOf vs.toArray 0)]))) nd ap
  have h2 := off_tail (l := [(hd, W.listOf (refsH dn ++ [Value.ref cur.a]).toArray nn)]) (p := (cur.a, cur.obj)) (r := (cur.b, cur.obb) :: (cur.ps.map PA.led ++ (ledOf dn ++ [(sl, W.listOf vs.toArray 0)]))) nd ap
  have h3 := off_tail (l := [(hd, W.listOf (refsH dn ++ [Value.ref cur.a]).toArray nn), (cur.a, cur.obj)]) (p := (cur.b, cur.obb)) (r := cur.ps.map PA.led ++ (ledOf dn ++ [(sl, W.listOf vs.toArray 0)])) nd ap
  exact ⟨h1 (cur.a, cur.obj) (.head _), h1 (cur.b, cur.obb) (.tail _ (.head _)), h2 (cur.b, cur.obb) (.tail _ (.head _)),
    off1_of fun x hx => h1 x (.tail _ (.tail _ (e x hx))), off1_of fun x hx => h2 x (.tail _ (.tail _ (e x hx))), off1_of fun x hx => h3 x (.tail _ (.tail _ (e x hx)))⟩
theorem fmod_in (k n : Int) (hn : 0 < n) : ∃ r, r = k.fmod n ∧ 0 ≤ r ∧ r < n := ⟨_, rfl, Int.fmod_nonneg_of_pos _ hn, Int.fmod_lt_of_pos _ hn⟩
structure Box (p : Prop) : Prop where
  out : p
section
variable {prog : Program} {w : World} {A : Around} {E : Value → Shared → Prop} {s : Shared}
theorem item_nm {value slice : Expr} {l : Addr} {vs : List Value} {ws : List Str} {k n : Int} {u : Tok} {Q : Value → Shared → Prop} (ht : IsTup s.heap l vs.toArray) (hw : StrsAre vs ws) (hn : n = (ws.length : Int)) (hp : 0 < n) (hf : n < 1000)
    (h : ∀ x t, x ∈ ws → Q (.str x t) s)
    (hs : subscripted slice false (.ref l) (.int (k.fmod n) u) = operate [.ref l, .int (k.fmod n) u] (getItem (.ref l) (.int (k.fmod n) u)))
    (hl : ∀ r, letTemporaryGo value (.ref l) r = pure ()) : wpAny (model prog w) A (subscriptTail value slice (.ref l) (.int (k.fmod n) u)) Q E s := by
  have h0 := Int.fmod_nonneg_of_pos k hp
  have h1 := Int.fmod_lt_of_pos k hp
  have hj : (k.fmod n).toNat < ws.length := by omega
  refine hid fun hn9_274 => ?_
  obtain ⟨t, ht2⟩ := hw.get (k.fmod n).toNat ws[(k.fmod n).toNat] (List.getElem?_eq_getElem hj)
  refine hn9_274 ?_
  clear hn9_274
  have hsz : k.fmod n < ((vs.toArray.size : Nat) : Int) := by rw [List.size_toArray, hw.length, ← hn]; exact h1
  exact subscriptTail_builtin ht.typeIs slot_tuple_getitem.lookup (PyProof.Rows.getItem_tuple ht (by omega) (by omega) (seqIndex_of h0 hsz) (x := .str _ t) (by simpa using ht2) (h _ t (List.getElem_mem ..))) hs hl
end
end
section
-- text Hi
/-- what holds between the turns of _law_heads -/
structure HI (hd : Nat) (dn : List HA) (cur : HA) (nn sl : Nat) (vs : List Value) (news : List (Addr × Obj)) (i : Nat) : Prop where
  nd : ((ownL hd dn cur nn sl vs).map (·.1)).Nodup
  ap : ∀ x ∈ ownL hd dn cur nn sl vs, ∀ y ∈ news, y.1 < x.1
  ok : ∀ x ∈ dn ++ [cur], OkH i x
  hl : dn.length ≤ i
inductive HJ (hd sl : Nat) (vs : List Value) (news : List (Addr × Obj)) (i : Nat) (m : Str → Option Value) (nw : List (Addr × Obj)) : Prop
  | of (u : Str → Option Value) (dn : List HA) (cur : HA) (nn : Nat) (h1 : m = fx [("heads", .ref hd)] u) (h2 : nw = ownL hd dn cur nn sl vs ++ news) (h3 : HI hd dn cur nn sl vs news i) : HJ hd sl vs news i m nw
section
variable {hd sl nn nn' : Nat} {dn : List HA} {cur : HA} {vs : List Value} {news : List (Addr × Obj)} {i : Nat}
noncomputable def adL (hd : Nat) (dn : List HA) (cur : HA) (sl : Nat) : List Nat := hd :: cur.a :: cur.b :: (cur.ps.map (·.a) ++ (dn.flatMap (fun h => h.a :: h.b :: h.ps.map (·.a)) ++ [sl]))
theorem own_ad (hd : Nat) (dn : List HA) (cur : HA) (nn sl : Nat) (vs : List Value) : (ownL hd dn cur nn sl vs).map (·.1) = adL hd dn cur sl := by
  unfold ownL adL ledOf HA.led
  simp only [List.map_cons, List.map_append, List.map_flatMap, List.map_map, List.map_nil]
  rfl
theorem ap_ad : (∀ x ∈ ownL hd dn cur nn sl vs, ∀ y ∈ news, y.1 < x.1) ↔ ∀ b ∈ adL hd dn cur sl, ∀ y ∈ news, y.1 < b := by
  rw [← own_ad hd dn cur nn sl vs]
  constructor
  · intro h b hb y hy
    refine hid fun hn9_275 => ?_
    obtain ⟨x, hx, rfl⟩ := List.mem_map.mp hb
    refine hn9_275 ?_
    clear hn9_275
    exact h x hx y hy
  · intro h x hx y hy
    exact h _ (List.mem_map_of_mem hx) y hy
theorem ad_head (a b : Nat) (k : Str) (v : Option Str) (tk tv : Tok) (n n2 : Nat) : (adL hd (dn ++ [cur]) ⟨a, b, k, v, tk, tv, n, n2, []⟩ sl).Perm (a :: b :: adL hd dn cur sl) := by
  unfold adL
  simp only [List.map_nil, List.nil_append, List.flatMap_append, List.flatMap_cons, List.flatMap_nil, List.append_nil]
  refine List.Perm.trans (List.Perm.swap _ _ _) ?_
  refine List.Perm.cons _ ?_
  refine List.Perm.trans (List.Perm.swap _ _ _) ?_
  refine List.Perm.cons _ (List.Perm.cons _ ?_)
  rw [List.append_assoc]
  refine List.Perm.trans List.perm_append_comm ?_
  simp only [List.cons_append, List.append_assoc]
  refine List.Perm.cons _ (List.Perm.cons _ ?_)
  refine List.Perm.append_left _ ?_
  exact List.perm_append_comm (l₁ := [sl])
theorem HI.head (H : HI hd dn cur nn sl vs news i) {a b : Nat} {k : Str} {v : Option Str} {tk tv : Tok} {n n2 : Nat} (h1 : ∀ x ∈ ownL hd dn cur nn sl vs ++ news, x.1 < b) (h2 : b < a) (hk : k ∈ names6) (hv : v = none ∨ v = some (Str.ofString "")) :
    HI hd (dn ++ [cur]) ⟨a, b, k, v, tk, tv, n, n2, []⟩ nn' sl vs news (i + 1) := by
  have hb : ∀ x ∈ adL hd dn cur sl, x < b := by
    rw [← own_ad hd dn cur nn sl vs]
    intro x hx
    refine hid fun hn9_276 => ?_
    obtain ⟨q, hq, rfl⟩ := List.mem_map.mp hx
    refine hn9_276 ?_
    clear hn9_276
    exact h1 q (List.mem_append_left _ hq)
  have P := ad_head (hd := hd) (dn := dn) (cur := cur) (sl := sl) a b k v tk tv n n2
  refine ⟨?_, ?_, ?_, ?_⟩
  · rw [own_ad, P.nodup_iff]
    refine List.nodup_cons.mpr ⟨fun hm => ?_, List.nodup_cons.mpr ⟨fun hm => ?_, own_ad hd dn cur nn sl vs ▸ H.nd⟩⟩
    · rcases List.mem_cons.mp hm with e | hm
      · omega
      · have := hb _ hm; omega
    · have := hb _ hm; omega
  · rw [ap_ad]
    intro x hx y hy
    rcases List.mem_cons.mp (P.mem_iff.mp hx) with rfl | hx
    · exact Nat.lt_trans (h1 y (List.mem_append_right _ hy)) h2
    · rcases List.mem_cons.mp hx with rfl | hx
      · exact h1 y (List.mem_append_right _ hy)
      · exact (ap_ad.mp H.ap) x hx y hy
  · intro x hx
    rcases List.mem_append.mp hx with hx | hx
    · exact (H.ok x hx).mono
    · rw [List.mem_singleton.mp hx]
      refine ⟨hk, ?_, Nat.zero_le _, fun j p h => by cases h⟩
      intro y e
      rcases hv with h | h
      · dsimp only at e; rw [h] at e; cases e
      · dsimp only at e; rw [h] at e; cases e
        refine ⟨Nat.zero_le _, fun c hc => ?_⟩
        rw [show (Str.ofString "").cps.toList = [] by decide +kernel] at hc
        refine hid fun hn9_277 => ?_
        cases hc <;> (refine hn9_277 ?_; clear hn9_277)
  · rw [List.length_append]; have := H.hl; show dn.length + 1 ≤ _; omega
/-- the last header, changed at its own two objects -/
theorem HI.upd (H : HI hd dn cur nn sl vs news i) {cur' : HA} (ea : cur'.a = cur.a) (eb : cur'.b = cur.b) (ep : cur'.ps.map (·.a) = cur.ps.map (·.a)) (ok : OkH (i + 1) cur') : HI hd dn cur' nn' sl vs news (i + 1) := by
  have e : adL hd dn cur' sl = adL hd dn cur sl := by unfold adL; rw [ea, eb, ep]
  refine ⟨?_, ?_, ?_, Nat.le_succ_of_le H.hl⟩
  · rw [own_ad, e, ← own_ad hd dn cur nn sl vs]; exact H.nd
  · rw [ap_ad, e]; exact ap_ad.mp H.ap
  · intro x hx
    rcases List.mem_append.mp hx with hx | hx
    · exact (H.ok x (List.mem_append_left _ hx)).mono
    · rw [List.mem_singleton.mp hx]; exact ok
theorem HI.par (H : HI hd dn cur nn sl vs news i) {p : PA} {n2 : Nat} (h1 : ∀ x ∈ ownL hd dn cur nn sl vs ++ news, x.1 < p.a) (hp : OkP (i + 1) cur.ps.length p) : HI hd dn { cur with ps := cur.ps ++ [p], n2 := n2 } nn' sl vs news (i + 1) := by
  have hb : ∀ x ∈ adL hd dn cur sl, x < p.a := by
    rw [← own_ad hd dn cur nn sl vs]
    intro x hx
    refine hid fun hn9_278 => ?_
    obtain ⟨q, hq, rfl⟩ := List.mem_map.mp hx
    refine hn9_278 ?_
    clear hn9_278
    exact h1 q (List.mem_append_left _ hq)
  have P : (adL hd dn { cur with ps := cur.ps ++ [p], n2 := n2 } sl).Perm (p.a :: adL hd dn cur sl) := by
    unfold adL
    simp only [List.map_append, List.map_cons, List.map_nil, List.append_assoc, List.singleton_append]
    exact List.perm_middle (l₁ := hd :: cur.a :: cur.b :: cur.ps.map (·.a))
  have okc := H.ok cur (List.mem_append_right _ (.head _))
  refine ⟨?_, ?_, ?_, Nat.le_succ_of_le H.hl⟩
  · rw [own_ad, P.nodup_iff]
    exact List.nodup_cons.mpr ⟨fun hm => Nat.lt_irrefl _ (hb _ hm), own_ad hd dn cur nn sl vs ▸ H.nd⟩
  · rw [ap_ad]
    intro x hx y hy
    rcases List.mem_cons.mp (P.mem_iff.mp hx) with rfl | hx
    · exact h1 y (List.mem_append_right _ hy)
    · exact (ap_ad.mp H.ap) x hx y hy
  · intro x hx
    rcases List.mem_append.mp hx with hx | hx
    · exact (H.ok x (List.mem_append_left _ hx)).mono
    · rw [List.mem_singleton.mp hx]
      refine ⟨okc.key, okc.mono.txt, ?_, ?_⟩
      · have := okc.num
        simp only [List.length_append, List.length_cons, List.length_nil]
        omega
      · intro j q hq
        dsimp only at hq
        rcases Nat.lt_or_ge j cur.ps.length with hj | hj
        · rw [List.getElem?_append_left hj] at hq
          exact (okc.ps j q hq).mono
        · rw [List.getElem?_append_right hj] at hq
          rcases Nat.eq_or_lt_of_le hj with e | e
          · rw [← e, Nat.sub_self] at hq
            refine hid fun hn9_279 => ?_
            cases hq <;> (refine hn9_279 ?_; clear hn9_279)
            rw [← e]; exact hp
          · rw [List.getElem?_eq_none (by show 1 ≤ j - cur.ps.length; omega)] at hq
            refine hid fun hn9_280 => ?_
            cases hq <;> (refine hn9_280 ?_; clear hn9_280)
theorem okT_add {n : Nat} {v : Option Str} {x : Str} (h : okT n v) (hx : x.length = 1) (hc : ∀ c ∈ x.cps.toList, c < 1114112) : okT (n + 1) (some (v.getD (Str.ofString "") ++ x)) := by
  intro y e
  refine hid fun hn9_281 => ?_
  cases e <;> (refine hn9_281 ?_; clear hn9_281)
  have e0 : (Str.ofString "").cps.toList = [] := by decide +kernel
  rw [Str.length_append, hx]
  refine ⟨?_, fun c hm => ?_⟩
  · cases v with
    | none => show (Str.ofString "").length + 1 ≤ _; rw [show (Str.ofString "").length = 0 from rfl]; omega
    | some z => have := (h z rfl).1; show z.length + 1 ≤ _; omega
  · simp only [Str.cps_append, Array.toList_append, List.mem_append] at hm
    rcases hm with hm | hm
    · cases v with
      | none => rw [Option.getD_none, e0] at hm; cases hm
      | some z => exact (h z rfl).2 c hm
    · exact hc c hm
theorem sgn_lt {rest more : Int} (m0 : 0 ≤ more) (m1 : more < 1112064) : sgn rest more < 1114112 := by
  unfold sgn
  split
  · generalize (rest - 4).toNat = j
    rcases Nat.lt_or_ge j 11 with h | h
    · have : ∀ j : Fin 11, (([34, 92, 39, 59, 32, 9, 61, 35, 97, 64, 95] : List Nat)[j.val]?).getD 0 < 1114112 := by decide
      exact this ⟨j, h⟩
    · rw [List.getElem?_eq_none (by exact h)]; decide
  · split <;> omega
theorem okT_sgn {n : Nat} {v : Option Str} {rest more : Int} (h : okT n v) (m0 : 0 ≤ more) (m1 : more < 1112064) : okT (n + 1) (some (v.getD (Str.ofString "") ++ ⟨#[sgn rest more]⟩)) :=
  okT_add h rfl fun c hc => by
    have : c = sgn rest more := by simpa using hc
    rw [this]; exact sgn_lt m0 m1
theorem OkH.own {n : Nat} {x : HA} (h : OkH n x) {v : Option Str} {tv : Tok} {m : Nat} (hv : okT (n + 1) v) : OkH (n + 1) { x with v := v, tv := tv, n := m } := ⟨h.key, hv, Nat.le_succ_of_le h.num, fun i p e => (h.ps i p e).mono⟩
theorem OkH.last {n : Nat} {x : HA} {pi : List PA} {pl : PA} (h : OkH n x) (e : x.ps = pi ++ [pl]) {v : Option Str} {tv : Tok} {m : Nat} (hv : okT n pl.v → okT (n + 1) v) : OkH (n + 1) { x with ps := pi ++ [{ pl with v := v, tv := tv, n := m }] } := by
  refine ⟨h.key, h.mono.txt, ?_, ?_⟩
  · have := h.num
    rw [e] at this
    simp only [List.length_append, List.length_cons, List.length_nil] at this ⊢
    omega
  · intro j q hq
    dsimp only at hq
    have hp := h.ps
    rw [e] at hp
    rcases Nat.lt_or_ge j pi.length with hj | hj
    · rw [List.getElem?_append_left hj] at hq
      exact (hp j q (by rw [List.getElem?_append_left hj]; exact hq)).mono
    · rw [List.getElem?_append_right hj] at hq
      rcases Nat.eq_or_lt_of_le hj with e2 | e2
      · rw [← e2, Nat.sub_self] at hq
        refine hid fun hn9_282 => ?_
        cases hq <;> (refine hn9_282 ?_; clear hn9_282)
        have := hp j pl (by rw [List.getElem?_append_right hj, ← e2, Nat.sub_self]; rfl)
        exact ⟨this.key, hv this.txt⟩
      · rw [List.getElem?_eq_none (by show 1 ≤ j - pi.length; omega)] at hq
        refine hid fun hn9_283 => ?_
        cases hq <;> (refine hn9_283 ?_; clear hn9_283)
/-- all that is laid out below the frame's own list -/
theorem own_lt {X : Nat} (h1 : hd < X) (h2 : cur.a < X) (h3 : cur.b < X) (h4 : ∀ x ∈ tailL dn cur sl vs news, x.1 < X) : ∀ x ∈ ownL hd dn cur nn sl vs ++ news, x.1 < X := by
  rw [own_eq]
  intro x hx
  rcases List.mem_cons.mp hx with rfl | hx
  · exact h1
  · rcases List.mem_cons.mp hx with rfl | hx
    · exact h2
    · rcases List.mem_cons.mp hx with rfl | hx
      · exact h3
      · exact h4 x hx
theorem bases_len : ∀ x ∈ bases8, x.length ≤ 3 := by decide +kernel
theorem key_len {n : Nat} (h : n ≤ 1000) : (Str.ofString (toString ((n : Nat) : Int))).length ≤ 1002 := by have := len_str_of_int ((n : Nat) : Int); omega
theorem tail_split {dn : List HA} {cur : HA} {sl : Nat} {vs : List Value} {news : List (Addr × Obj)} {pi : List PA} {pl : PA} (e : cur.ps = pi ++ [pl]) : ∀ x, x ∈ tailL dn cur sl vs news ↔ x = pl.led ∨ x ∈ pi.map PA.led ++ (ledOf dn ++ ((sl, W.listOf vs.toArray 0) :: news)) := by
  intro x
  unfold tailL
  rw [e]
  simp only [List.map_append, List.map_cons, List.map_nil, List.mem_append, List.mem_cons, List.not_mem_nil, or_false]
  constructor
  · rintro ((h | h) | h)
    · exact .inr (.inl h)
    · exact .inl h
    · exact .inr (.inr h)
  · rintro (h | h | h)
    · exact .inl (.inr h)
    · exact .inl (.inl h)
    · exact .inr h
theorem last_off {hd : Nat} {dn : List HA} {cur : HA} {nn sl : Nat} {vs : List Value} {news : List (Addr × Obj)} {i : Nat} (H : HI hd dn cur nn sl vs news i) {pi : List PA} {pl : PA} (e : cur.ps = pi ++ [pl]) :
    pl.a ≠ hd ∧ pl.a ≠ cur.a ∧ pl.a ≠ cur.b ∧ LCg.Off1 pl.a (pi.map PA.led ++ (ledOf dn ++ ((sl, W.listOf vs.toArray 0) :: news))) := by
  have hn := H.nd
  have P : (ownL hd dn cur nn sl vs).Perm (pl.led :: (hd, W.listOf (refsH dn ++ [Value.ref cur.a]).toArray nn) :: (cur.a, cur.obj) :: (cur.b, cur.obb) :: (pi.map PA.led ++ (ledOf dn ++ [(sl, W.listOf vs.toArray 0)]))) := by
    unfold ownL
    rw [e]
    simp only [List.map_append, List.map_cons, List.map_nil, List.append_assoc, List.singleton_append]
    exact List.perm_middle (l₁ := (hd, W.listOf (refsH dn ++ [Value.ref cur.a]).toArray nn) :: (cur.a, cur.obj) :: (cur.b, cur.obb) :: pi.map PA.led)
  have hn2 := (P.map (·.1)).nodup_iff.mp hn
  rw [List.map_cons] at hn2
  have hno : ∀ x ∈ ((hd, W.listOf (refsH dn ++ [Value.ref cur.a]).toArray nn) :: (cur.a, cur.obj) :: (cur.b, cur.obb) :: (pi.map PA.led ++ (ledOf dn ++ [(sl, W.listOf vs.toArray 0)])) : List (Addr × Obj)), x.1 ≠ pl.a := by
    intro x hx e2
    exact (List.nodup_cons.mp hn2).1 (show pl.led.1 ∈ _ from (show pl.led.1 = x.1 from e2.symm) ▸ List.mem_map_of_mem hx)
  have hap : ∀ y ∈ news, y.1 ≠ pl.a := fun y hy => Nat.ne_of_lt (H.ap pl.led (P.mem_iff.mpr (.head _)) y hy)
  refine ⟨Ne.symm (hno _ (.head _)), Ne.symm (hno _ (.tail _ (.head _))), Ne.symm (hno _ (.tail _ (.tail _ (.head _)))), off1_of fun x hx => ?_⟩
  rcases List.mem_append.mp hx with hx | hx
  · exact hno x (.tail _ (.tail _ (.tail _ (List.mem_append_left _ hx))))
  · rcases List.mem_append.mp hx with hx | hx
    · exact hno x (.tail _ (.tail _ (.tail _ (List.mem_append_right _ (List.mem_append_left _ hx)))))
    · rcases List.mem_cons.mp hx with rfl | hx
      · exact hno _ (.tail _ (.tail _ (.tail _ (List.mem_append_right _ (List.mem_append_right _ (.head _))))))
      · exact hap x hx
theorem sum_one {x : Str} {c : Nat} (h : x.length ≤ 1000000) : x.length + (Str.mk #[c]).length ≤ sizeLine := by rw [one_len, sizeLine_eq]; omega
end
section
variable {prog : Program} {w : World} {A : Around} {E : Value → Shared → Prop} {s : Shared} {h₀ : Heap} {L D b : Addr} {news : List (Addr × Obj)} {ys : List Value} {n : Nat} {y : Value}
theorem ne_snoc {Q : Value → Shared → Prop} (N : News h₀ L s.heap news) (h1 : (b, W.listOf (ys ++ [y]).toArray n) ∈ news) (h2 : (D, W.listOf #[] 0) ∈ news) (hu : A.units < cLine) (h : Q (.bool true) s) : wpAny (model prog w) A (compareOp .NotEq (.ref b) (.ref D)) Q E s := by
  refine ne_empty (News.isList N h1) (News.isList N h2) hu ?_
  rw [show (!(ys ++ [y]).toArray.isEmpty) = true by simp]
  exact h
end
end
section
-- text Hj
section
variable {hd sl nn : Nat} {dn : List HA} {cur : HA} {vs : List Value} {news : List (Addr × Obj)} {i : Nat} {g h : Heap} {L : Addr} {I : Nat} {oI : Obj} {T : Addr × Obj} {m : Str → Option Value} {s₁ : Shared} {tk9 : Nat} {Q : Flow → Shared → Prop} {R : List (Addr × Obj)}
theorem refsH_snoc (dn : List HA) (x : HA) : refsH (dn ++ [x]) = refsH dn ++ [Value.ref x.a] := by unfold refsH; rw [List.map_append]; rfl
theorem refsOf_snoc (ps : List PA) (x : PA) : refsOf (ps ++ [x]) = refsOf ps ++ [Value.ref x.a] := by unfold refsOf; rw [List.map_append]; rfl
theorem ledOf_snoc (dn : List HA) (x : HA) : ledOf (dn ++ [x]) = ledOf dn ++ x.led := by unfold ledOf; simp
theorem endP (F : Fr g L h m) (e : m (Str.ofString "heads") = some (.ref hd)) (dn' : List HA) (cur' : HA) (nn' : Nat) (X : List (Addr × Obj)) (sub : ∀ x ∈ ownL hd dn' cur' nn' sl vs ++ news, x ∈ X) (N : News g L h X) (hI : (I, oI) ∈ X ) (off : ∀ x ∈ ownL hd dn' cur' nn' sl vs ++ news, x.1 ≠ I)
    (H : HI hd dn' cur' nn' sl vs news i) : PostG g L I oI (HJ hd sl vs news i) s₁ Q .next { s₁ with heap := h, toks := tk9 } :=
  PostG.intro F (fun p hp => by
    rcases List.mem_cons.mp hp with rfl | hp
    · exact N _ hI
    · exact N _ (sub p hp)) off ⟨m, dn', cur', nn', fx_self [(Str.ofString "heads", .ref hd)] m (List.forall_mem_cons.mpr ⟨e, List.forall_mem_nil _⟩), rfl, H⟩
theorem subA (a b : Nat) (k : Str) (v : Option Str) (tk tv : Tok) (n n2 nn' : Nat) : ∀ x ∈ ownL hd (dn ++ [cur]) ⟨a, b, k, v, tk, tv, n, n2, []⟩ nn' sl vs ++ news, x ∈ (a, W.listOf #[.str k tk, oV v tv, .ref b] n) :: (b, W.listOf #[] n2) :: (hd, W.listOf (refsH dn ++ [Value.ref cur.a] ++ [Value.ref a]).toArray nn') :: (cur.a, cur.obj) :: (cur.b, cur.obb) :: tailL dn cur sl vs news := by
  intro x hx
  rw [own_eq, refsH_snoc] at hx
  simp only [tailL, ledOf_snoc, HA.led, List.map_nil, List.nil_append, List.mem_append, List.mem_cons, HA.obb] at hx ⊢
  rcases hx with h | h | h | (h | h | h | h) | h | h
  · exact .inr (.inr (.inl h))
  · exact .inl h
  · exact .inr (.inl h)
  · exact .inr (.inr (.inr (.inr (.inr (.inr (.inl h))))))
  · exact .inr (.inr (.inr (.inl h)))
  · exact .inr (.inr (.inr (.inr (.inl h))))
  · exact .inr (.inr (.inr (.inr (.inr (.inl h)))))
  · exact .inr (.inr (.inr (.inr (.inr (.inr (.inr (.inl h)))))))
  · exact .inr (.inr (.inr (.inr (.inr (.inr (.inr (.inr h)))))))
theorem endA (H : HI hd dn cur nn sl vs news i) (hR : R = tailL dn cur sl vs news) (F : Fr g L h m) (e : m (Str.ofString "heads") = some (.ref hd)) {a b : Nat} {k : Str} {v : Option Str} {x : Value} {tk tv : Tok} {n n2 nn' : Nat} (ev : x = oV v tv)
    (N : News g L h ((a, W.listOf #[.str k tk, x, .ref b] n) :: (b, W.listOf #[] n2) :: T :: (I, oI) :: (hd, W.listOf (refsH dn ++ [Value.ref cur.a] ++ [Value.ref a]).toArray nn') :: (cur.a, cur.obj) :: (cur.b, cur.obb) :: R))
    (lA : b < a ∧ T.1 < a ∧ I < a ∧ hd < a ∧ cur.a < a ∧ cur.b < a ∧ AllLt a R) (lB : T.1 < b ∧ I < b ∧ hd < b ∧ cur.a < b ∧ cur.b < b ∧ AllLt b R) (off : hd ≠ I ∧ cur.a ≠ I ∧ cur.b ≠ I ∧ LCg.Off1 I R) (hk : k ∈ names6) (hv : v = none ∨ v = some (Str.ofString "")) :
    PostG g L I oI (HJ hd sl vs news (i + 1)) s₁ Q .next { s₁ with heap := h, toks := tk9 } := by
  subst ev hR
  have sub := subA (hd := hd) (dn := dn) (cur := cur) (sl := sl) (vs := vs) (news := news) a b k v tk tv n n2 nn'
  refine endP F e (dn ++ [cur]) ⟨a, b, k, v, tk, tv, n, n2, []⟩ nn' _ (fun p hp => ?_) N (.tail _ (.tail _ (.tail _ (.head _)))) (fun p hp => ?_) (H.head ?_ lA.1 hk hv)
  · rcases List.mem_cons.mp (sub p hp) with rfl | h
    · exact .head _
    · rcases List.mem_cons.mp h with rfl | h
      · exact .tail _ (.head _)
      · exact .tail _ (.tail _ (.tail _ (.tail _ h)))
  · rcases List.mem_cons.mp (sub p hp) with rfl | h
    · exact Nat.ne_of_gt lA.2.2.1
    · rcases List.mem_cons.mp h with rfl | h
      · exact Nat.ne_of_gt lB.2.1
      · rcases List.mem_cons.mp h with rfl | h
        · exact off.1
        · rcases List.mem_cons.mp h with rfl | h
          · exact off.2.1
          · rcases List.mem_cons.mp h with rfl | h
            · exact off.2.2.1
            · exact off1Mem off.2.2.2 p h
  · exact own_lt lB.2.2.1 lB.2.2.2.1 lB.2.2.2.2.1 (ltAll lB.2.2.2.2.2)
theorem endB (H : HI hd dn cur nn sl vs news i) (hR : R = tailL dn cur sl vs news) (F : Fr g L h m) (e : m (Str.ofString "heads") = some (.ref hd)) {a : Nat} {k : Str} {v : Option Str} {x : Value} {tk tv : Tok} {n nn' n2 : Nat} (ev : x = oV v tv)
    (N : News g L h ((a, W.listOf #[.str k tk, x] n) :: T :: (I, oI) :: (hd, W.listOf (refsH dn ++ [Value.ref cur.a]).toArray nn') :: (cur.a, cur.obj) :: (cur.b, W.listOf (refsOf cur.ps ++ [Value.ref a]).toArray n2) :: R))
    (lA : T.1 < a ∧ I < a ∧ hd < a ∧ cur.a < a ∧ cur.b < a ∧ AllLt a R) (off : hd ≠ I ∧ cur.a ≠ I ∧ cur.b ≠ I ∧ LCg.Off1 I R) (hk : ∃ b ∈ bases8, k = b ++ Str.ofString (toString ((cur.ps.length : Nat) : Int))) (hv : v = none ∨ v = some (Str.ofString "")) :
    PostG g L I oI (HJ hd sl vs news (i + 1)) s₁ Q .next { s₁ with heap := h, toks := tk9 } := by
  subst ev hR
  have sub : ∀ x ∈ ownL hd dn { cur with ps := cur.ps ++ [⟨a, k, v, tk, tv, n⟩], n2 := n2 } nn' sl vs ++ news, x ∈ (a, W.listOf #[.str k tk, oV v tv] n) :: (hd, W.listOf (refsH dn ++ [Value.ref cur.a]).toArray nn') :: (cur.a, cur.obj) :: (cur.b, W.listOf (refsOf cur.ps ++ [Value.ref a]).toArray n2) :: tailL dn cur sl vs news := by
    intro x hx
    rw [own_eq] at hx
    simp only [tailL, HA.obb, refsOf_snoc, List.map_append, List.map_cons, List.map_nil, List.mem_append, List.mem_cons, List.not_mem_nil, or_false] at hx ⊢
    rcases hx with h | h | h | (h | h) | h | h
    · exact .inr (.inl h)
    · exact .inr (.inr (.inl h))
    · exact .inr (.inr (.inr (.inl h)))
    · exact .inr (.inr (.inr (.inr (.inl h))))
    · exact .inl h
    · exact .inr (.inr (.inr (.inr (.inr (.inl h)))))
    · exact .inr (.inr (.inr (.inr (.inr (.inr h)))))
  have okv : okT (i + 1) v := by
    intro y e
    rcases hv with h | h
    · rw [h] at e; cases e
    · rw [h] at e; cases e
      refine ⟨Nat.zero_le _, fun c hc => ?_⟩
      rw [show (Str.ofString "").cps.toList = [] by decide +kernel] at hc
      refine hid fun hn9_284 => ?_
      cases hc <;> (refine hn9_284 ?_; clear hn9_284)
  refine endP F e dn { cur with ps := cur.ps ++ [⟨a, k, v, tk, tv, n⟩], n2 := n2 } nn' _ (fun p hp => ?_) N (.tail _ (.tail _ (.head _))) (fun p hp => ?_) (H.par (p := ⟨a, k, v, tk, tv, n⟩) ?_ ⟨hk, okv⟩)
  · rcases List.mem_cons.mp (sub p hp) with rfl | h
    · exact .head _
    · exact .tail _ (.tail _ (.tail _ h))
  · rcases List.mem_cons.mp (sub p hp) with rfl | h
    · exact Nat.ne_of_gt lA.2.1
    · rcases List.mem_cons.mp h with rfl | h
      · exact off.1
      · rcases List.mem_cons.mp h with rfl | h
        · exact off.2.1
        · rcases List.mem_cons.mp h with rfl | h
          · exact off.2.2.1
          · exact off1Mem off.2.2.2 p h
  · exact own_lt lA.2.2.1 lA.2.2.2.1 lA.2.2.2.2.1 (ltAll lA.2.2.2.2.2)
theorem endD (H : HI hd dn cur nn sl vs news i) (hR : R = tailL dn cur sl vs news) (F : Fr g L h m) (e : m (Str.ofString "heads") = some (.ref hd)) {v : Option Str} {x : Value} {tv : Tok} {n nn' n2 : Nat} (ev : x = oV v tv)
    (N : News g L h ((I, oI) :: (hd, W.listOf (refsH dn ++ [Value.ref cur.a]).toArray nn') :: (cur.a, W.listOf #[.str cur.k cur.tk, x, .ref cur.b] n) :: (cur.b, W.listOf (refsOf cur.ps).toArray n2) :: R))
    (off : hd ≠ I ∧ cur.a ≠ I ∧ cur.b ≠ I ∧ LCg.Off1 I R) (hv : okT i cur.v → okT (i + 1) v) :
    PostG g L I oI (HJ hd sl vs news (i + 1)) s₁ Q .next { s₁ with heap := h, toks := tk9 } := by
  subst ev hR
  have okc := H.ok cur (List.mem_append_right _ (.head _))
  refine endP F e dn { cur with v := v, tv := tv, n := n, n2 := n2 } nn' _ (fun p hp => ?_) N (.head _) (fun p hp => ?_) (H.upd rfl rfl rfl (okc.own (m := n) (tv := tv) (hv okc.txt) |> fun o => ⟨o.key, o.txt, o.num, o.ps⟩))
  · rw [own_eq] at hp
    exact .tail _ hp
  · rw [own_eq] at hp
    rcases List.mem_cons.mp hp with rfl | h
    · exact off.1
    · rcases List.mem_cons.mp h with rfl | h
      · exact off.2.1
      · rcases List.mem_cons.mp h with rfl | h
        · exact off.2.2.1
        · exact off1Mem off.2.2.2 p h
theorem endC (H : HI hd dn cur nn sl vs news i) {pi : List PA} {pl : PA} (he : cur.ps = pi ++ [pl]) {R2 : List (Addr × Obj)} (hR : R2 = pi.map PA.led ++ (ledOf dn ++ ((sl, W.listOf vs.toArray 0) :: news))) (F : Fr g L h m) (e : m (Str.ofString "heads") = some (.ref hd)) {v : Option Str} {x : Value} {tv : Tok} {n nn' n2 : Nat} (ev : x = oV v tv)
    (N : News g L h ((I, oI) :: (hd, W.listOf (refsH dn ++ [Value.ref cur.a]).toArray nn') :: (cur.a, cur.obj) :: (cur.b, W.listOf (refsOf pi ++ [Value.ref pl.a]).toArray n2) :: (pl.a, W.listOf #[.str pl.k pl.tk, x] n) :: R2))
    (off : hd ≠ I ∧ cur.a ≠ I ∧ cur.b ≠ I ∧ LCg.Off1 I (tailL dn cur sl vs news)) (hv : okT i pl.v → okT (i + 1) v) :
    PostG g L I oI (HJ hd sl vs news (i + 1)) s₁ Q .next { s₁ with heap := h, toks := tk9 } := by
  subst ev hR
  have okc := H.ok cur (List.mem_append_right _ (.head _))
  have hts := tail_split (dn := dn) (sl := sl) (vs := vs) (news := news) he
  have hpl : pl.a ≠ I := off1Mem off.2.2.2 pl.led ((hts _).mpr (.inl rfl))
  have ok2 := okc.last he (v := v) (tv := tv) (m := n) hv
  have sub : ∀ y ∈ ownL hd dn { cur with ps := pi ++ [{ pl with v := v, tv := tv, n := n }], n2 := n2 } nn' sl vs ++ news, y ∈ (hd, W.listOf (refsH dn ++ [Value.ref cur.a]).toArray nn') :: (cur.a, cur.obj) :: (cur.b, W.listOf (refsOf pi ++ [Value.ref pl.a]).toArray n2) :: (pl.a, W.listOf #[.str pl.k pl.tk, oV v tv] n) :: (pi.map PA.led ++ (ledOf dn ++ ((sl, W.listOf vs.toArray 0) :: news))) := by
    intro y hy
    rw [own_eq] at hy
    simp only [tailL, HA.obb, refsOf_snoc, List.map_append, List.map_cons, List.map_nil, List.mem_append, List.mem_cons, List.not_mem_nil, or_false] at hy ⊢
    rcases hy with h | h | h | (h | h) | h | h
    · exact .inl h
    · exact .inr (.inl h)
    · exact .inr (.inr (.inl h))
    · exact .inr (.inr (.inr (.inr (.inl h))))
    · exact .inr (.inr (.inr (.inl h)))
    · exact .inr (.inr (.inr (.inr (.inr (.inl h)))))
    · exact .inr (.inr (.inr (.inr (.inr (.inr h)))))
  refine endP F e dn { cur with ps := pi ++ [{ pl with v := v, tv := tv, n := n }], n2 := n2 } nn' _ (fun p hp => .tail _ (sub p hp)) N (.head _) (fun p hp => ?_) (H.upd rfl rfl (by rw [he]; simp) ⟨ok2.key, ok2.txt, ok2.num, ok2.ps⟩)
  rcases List.mem_cons.mp (sub p hp) with rfl | h
  · exact off.1
  · rcases List.mem_cons.mp h with rfl | h
    · exact off.2.1
    · rcases List.mem_cons.mp h with rfl | h
      · exact off.2.2.1
      · rcases List.mem_cons.mp h with rfl | h
        · exact hpl
        · exact off1Mem off.2.2.2 p ((hts p).mpr (.inr h))
theorem okT_len {n : Nat} {v : Option Str} (h : okT n v) (hn : n ≤ 1000000) : (v.getD "").length ≤ 1000000 := by
  cases v with
  | none => exact Nat.zero_le _
  | some x => exact Nat.le_trans (h x rfl).1 hn
theorem OkH.le {n k : Nat} {x : HA} (h : OkH n x) (hk : n ≤ k) : OkH k x := by
  induction hk with
  | refl => exact h
  | step _ ih => exact ih.mono
theorem HI.start {a b : Nat} {t t2 : Tok} (h1 : ∀ x ∈ ((hd, W.listOf #[.ref a] nn) :: (a, W.listOf #[.str (Str.ofString "A") t, .str (Str.ofString "") t2, .ref b] 0) :: (b, W.listOf #[] 0) :: news : List (Addr × Obj)), x.1 < sl) (l3 : ∀ p ∈ news, p.1 < b) (l2 : b < a ∧ AllLt a news) (l1 : a < hd ∧ b < hd ∧ AllLt hd news) :
    HI hd [] ⟨a, b, Str.ofString "A", some (Str.ofString ""), t, t2, 0, 0, []⟩ nn sl vs news 0 := by
  have s1 : hd < sl := h1 _ (.head _)
  have s2 : a < sl := h1 _ (.tail _ (.head _))
  have s3 : b < sl := h1 _ (.tail _ (.tail _ (.head _)))
  refine ⟨?_, ?_, ?_, Nat.zero_le _⟩
  · rw [own_ad]
    show ([hd, a, b, sl] : List Nat).Nodup
    have := l2.1; have := l1.1; have := l1.2.1
    simp
    omega
  · rw [ap_ad]
    show ∀ x ∈ ([hd, a, b, sl] : List Nat), _
    intro x hx y hy
    have hy3 := l3 y hy
    rcases List.mem_cons.mp hx with rfl | hx
    · exact Nat.lt_trans hy3 l1.2.1
    · rcases List.mem_cons.mp hx with rfl | hx
      · exact Nat.lt_trans hy3 l2.1
      · rcases List.mem_cons.mp hx with rfl | hx
        · exact hy3
        · rw [List.mem_singleton.mp hx]; exact Nat.lt_trans hy3 s3
  · intro x hx
    rw [List.mem_singleton.mp hx]
    refine ⟨(by decide +kernel : Str.ofString "A" ∈ names6), ?_, Nat.zero_le _, fun j p h => by cases h⟩
    intro y e
    refine hid fun hn9_285 => ?_
    cases e <;> (refine hn9_285 ?_; clear hn9_285)
    refine ⟨Nat.zero_le _, fun c hc => ?_⟩
    rw [show (Str.ofString "").cps.toList = [] by decide +kernel] at hc
    refine hid fun hn9_286 => ?_
    cases hc <;> (refine hn9_286 ?_; clear hn9_286)
theorem HI.fin (H : HI hd dn cur nn sl vs news i) (hi : i ≤ 20) : (∀ x ∈ dn ++ [cur], OkH 20 x) ∧ (dn ++ [cur]).length ≤ 21 ∧ (∀ x ∈ ((hd, W.listOf (refsH (dn ++ [cur])).toArray nn) :: (ledOf (dn ++ [cur]) ++ news) : List (Addr × Obj)), x ∈ ownL hd dn cur nn sl vs ++ news) ∧
    (∀ x ∈ ((hd, W.listOf (refsH (dn ++ [cur])).toArray nn) :: ledOf (dn ++ [cur]) : List (Addr × Obj)), ∀ y ∈ news, y.1 < x.1) := by
  have sub : ∀ x ∈ ((hd, W.listOf (refsH (dn ++ [cur])).toArray nn) :: ledOf (dn ++ [cur]) : List (Addr × Obj)), x ∈ ownL hd dn cur nn sl vs := by
    intro x hx
    rw [refsH_snoc, ledOf_snoc] at hx
    unfold ownL
    simp only [HA.led, List.mem_append, List.mem_cons] at hx ⊢
    rcases hx with h | h | h | h | h
    · exact .inl h
    · exact .inr (.inr (.inr (.inr (.inl h))))
    · exact .inr (.inl h)
    · exact .inr (.inr (.inl h))
    · exact .inr (.inr (.inr (.inl h)))
  refine ⟨fun x hx => (H.ok x hx).le hi, ?_, fun x hx => ?_, fun x hx => H.ap x (sub x hx)⟩
  · rw [List.length_append]; have := H.hl; show dn.length + 1 ≤ 21; omega
  · rw [← List.cons_append] at hx
    rcases List.mem_append.mp hx with h | h
    · exact List.mem_append_left _ (sub x h)
    · exact List.mem_append_right _ h
theorem post_gen {M : Model} {A : Around} {E : Value → Shared → Prop} {α : Type} {s : Shared} {x : Sem α} {P : α → Shared → Prop} (h : ∀ P' : α → Shared → Prop, (∀ f s', P f s' → P' f s') → wpAny M A x P' E s) : wpAny M A x P E s := h P fun _ _ e => e
end
end
section
-- text He
local macro_rules | `(tactic| k_all) => `(tactic| ((repeat (with_reducible rename (_ ∧ _) => hh9; cases hh9)); first | exact allNe (by assumption) (Nat.le_refl _) | exact allNe (by assumption) (Nat.le_succ _) | exact allNe2 (by assumption) (Nat.le_refl _) | exact off1Mem (by assumption) | assumption | exact allNe2 (by assumption) (by omega) | exact allNe (by assumption) (by omega)))
section
variable {w : World} {p : Program} {loose : List Str} {mean : ExcName → Option Value} {mg mb : Str → Option Value}
  {dp un : Nat} {gd : Option (List Code)} {cn : Str} {cs : Scope} {a : Addr} {ccd : Value} {cl : List (Str × Addr)} {outer : List Env} {A₀ : Around} {base h₀ : Heap} {L : Addr} {m : Str → Option Value} {s : Shared} {Q E : Value → Shared → Prop}
theorem heads_spec {news : List (Addr × Obj)} {sc : Nat} {vs : List Value} {ns : List Int}
  (B : Below A₀ base outer h₀) (F : Fr h₀ L s.heap m) (X : (Mine.mkK.heap_1 w.params).In h₀) (N : News h₀ L s.heap news) (T : Top p loose mean mg mb h₀) (hk : cs.kind = .function)
  (hdp : dp + 10 < recursionLimit) (hun : un + 100 < cLine) (hL : h₀.IsList sc vs.toArray) (hI : IntsAre vs ns) (hvs : vs.length ≤ 1000)
  (h : ∀ (D : Nat) hs n h' tk', (∀ x ∈ hs, OkH 20 x) → hs.length ≤ 21 → Fr h₀ L h' m → News h₀ L h' ((D, W.listOf (refsH hs).toArray n) :: (ledOf hs ++ news)) → (∀ x ∈ ((D, W.listOf (refsH hs).toArray n) :: ledOf hs : List (Addr × Obj)), ∀ y ∈ news, y.1 < x.1) → Q (.ref D) { s with heap := h', toks := tk' }) :
  wpAny (model PySem.Challenge.rw_in0111_01.row.prog w) (ktrTop dp un gd cn cs L a ccd cl outer) (call (.ref 908) [.ref sc]) Q E s := by
  revert X; k_fill; intro X
  refine wpAny_call ?_
  ((k_dflt (refine' code_def ?k1q ?k2q ?k3q ?k4q ?k5q ?kAq ?kFq ?kKq ?k6q ?k7q ?k8q ?k9q ?kBq ?_ ?c2q ?c3q ?c4q ?c5q; (case kAq => exact rfl); (case kFq => exact rfl); (case kKq => assumption); (case k1q => k_asm); (case k2q => k_asm); (case k3q => k_asm); (case k4q => k_asm); (case k5q => k_asm); (case k6q => k_is); (case k7q => k_is); (case k8q => ktr_room); (case k9q => first | exact BindsTo.of_eq rfl | exact binds_K (by k_in) rfl (by k_is) rfl rfl rfl); (case c5q => decide); (case kBq => exact locs rfl); (case c2q => exact rfl); (case c3q => exact rfl); (case c4q => exact rfl); k_whole; intro gq Lq hq FGq Fq Nq Bq Xq Tq; (try dsimp only); (try k_lift Bq); (try k_fold))))
  (repeat' (first | (k_unfold; (try dsimp only)) | (k_end; wrow_close) | ((fail_if_success (with_reducible show wpAny _ _ (exec (Stmt.For _ _ _ _ _) _) _ _ _)); (first | (with_reducible (refine' OrB.intro ?hobq ?_; (case hobq => first | (with_reducible assumption) | omega); intro t8q k8q; (try dsimp only))) | (with_reducible ((with_reducible show wpAny _ _ (binaryOp _ (Value.str (Option.getD _ _) _) (Value.str (Str.mk _) _)) _ _ _); refine add_str ?_ (hsz := sum_one (by assumption)); intro _ _)) | (with_reducible (k_here; (with_reducible show wpAny _ _ (call (Value.builtin "len") [Value.ref _]) _ _ _); k_dflt (refine' len_any ?Nq ?mq ?zq ?_; (case Nq => k_asm); (case mq => k_mem); (case zq => (first | (with_reducible assumption) | ((try simp only [List.length_append, List.length_cons, List.length_nil]); omega))); k_whole))) | (with_reducible (k_here; (with_reducible show wpAny _ _ (call (Value.builtin _) [Value.ref _, _]) _ _ _); k_dflt (refine' app_any ?Fq ?Nq ?Uq ?zq ?_; (case Fq => k_asm); (case Nq => k_asm); (case Uq => k_updF); (case zq => (first | (with_reducible assumption) | ((try simp only [List.length_append, List.length_cons, List.length_nil]); omega))); k_whole; intro hq nq Fq Nq; (try dsimp only at Nq); (try k_sweep)))) | (with_reducible ((with_reducible show wpAny _ _ (call (Value.ref 901) _) _ _ _); k_dflt (refine' sign_spec ?kBq ?kFq ?kXq ?kNq ?kTq ?kKq ?kdq ?kuq ?kaq ?kbq ?kcq ?keq ?_; (case kFq => k_asm); (case kNq => k_asm); (case kBq => k_asm); (case kXq => k_asm); (case kTq => k_asm); (case kKq => first | exact rfl | assumption); (case kdq => ktr_room); (case kuq => ktr_units); (case kaq => assumption); (case kbq => assumption); (case kcq => assumption); (case keq => assumption); k_whole; intro t9q h9q tk9q F9q N9q; (try dsimp only); (try k_fold)))) | (with_reducible (k_here; (with_reducible show wpAny _ _ (compareOp _ (Value.ref _) (Value.ref _)) _ _ _); k_dflt (refine' ne_snoc ?Nq ?mq ?zq ?uq ?_; (case Nq => k_asm); (case mq => k_mem); (case zq => k_mem); (case uq => ktr_units); k_whole))) | (with_reducible ((with_reducible show wpAny _ _ (eval (Expr.BoolOp BoolOp.Or [_, Expr.Constant (Const.str (Str.ofString "")) _ _] _) _) _ _ _); with_reducible refine or_blank ?_)) | (with_reducible with_reducible refine wpAny_execs_cons ?_) | (with_reducible with_reducible refine wpAny_execs_nil ?_) | (with_reducible (k_here; first | (refine ite_bt ?hq ?_; (case hq => with_reducible assumption)) | (refine ite_bf ?hq ?_; (case hq => with_reducible assumption)) | (refine ite_in_t ?hq ?_; (case hq => with_reducible assumption)) | (refine ite_in_f ?hq ?_; (case hq => with_reducible assumption)) | (refine ite_bt ?hq ?_; (case hq => decide +kernel)) | (refine ite_bf ?hq ?_; (case hq => decide +kernel)))) | (with_reducible (k_here; (with_reducible show wpAny _ _ (subscriptTail _ _ (Value.ref _) (Value.int (Int.fmod _ 8) _)) _ _ _); k_dflt (refine' item_nm (ws := bases8) (News.isTup (by k_asm) (.head _)) ?w1q (by rfl) (by decide) (by decide) ?_ ?s1q ?t1q; (case w1q => (unfold bases8; repeat (first | exact .nil | refine .cons _ _ ?_))); (case s1q => with_unfolding_all rfl); (case t1q => (intro _; with_unfolding_all rfl)); k_whole; intro x9q t9q m9q; (try dsimp only)))) | (with_reducible (k_here; (with_reducible show wpAny _ _ (subscriptTail _ _ (Value.ref _) (Value.int (Int.fmod _ 6) _)) _ _ _); k_dflt (refine' item_nm (ws := names6) (News.isTup (by k_asm) (.head _)) ?w1q (by rfl) (by decide) (by decide) ?_ ?s1q ?t1q; (case w1q => (unfold names6; repeat (first | exact .nil | refine .cons _ _ ?_))); (case s1q => with_unfolding_all rfl); (case t1q => (intro _; with_unfolding_all rfl)); k_whole; intro x9q t9q m9q; (try dsimp only)))) | (with_reducible (k_here; (with_reducible show wpAny _ _ (subscriptTail _ _ (Value.ref _) (Value.int (-1) _)) _ _ _); k_dflt (refine' item_last ?Nq ?mq ?zq ?_ ?hsq; (case Nq => k_asm); (case mq => k_mem); (case zq => (first | (with_reducible assumption) | ((try simp only [List.length_append, List.length_cons, List.length_nil]); omega))); (case hsq => with_unfolding_all rfl); k_whole))) | walk1)) | (dsimp only; (fail_if_success (with_reducible show wpAny _ _ (exec (Stmt.For _ _ _ _ _) _) _ _ _)); walk1) | fail "no step"))
  (rename News _ _ _ ((_, W.listOf _ _) :: _) => Nr)
  refine hid fun hn9_287 => ?_
  obtain ⟨g5, L5, hg5, hL5⟩ := namesOf Nr
  refine hn9_287 ?_
  clear hn9_287
  refine hid fun hn9_288 => ?_
  subst hg5 <;> (refine hn9_288 ?_; clear hn9_288)
  refine hid fun hn9_289 => ?_
  subst hL5 <;> (refine hn9_289 ?_; clear hn9_289)
  have hL5 : g5.IsList sc vs.toArray := Fr.lst (by assumption) hL
  have hL6 := Fr.lst (by assumption : Fr g5 L5 _ _) hL5
  with_unfolding_all refine' For_invV g5 (by rfl) (by rfl) ?_
  k_whole
  (repeat' (first | (k_unfold; (try dsimp only)) | (k_end; wrow_close) | ((fail_if_success (with_reducible show wpAny _ _ (subscriptTail _ (Expr.Slice _ _ _ _) _ _) _ _ _)); (first | (with_reducible (refine' OrB.intro ?hobq ?_; (case hobq => first | (with_reducible assumption) | omega); intro t8q k8q; (try dsimp only))) | (with_reducible ((with_reducible show wpAny _ _ (binaryOp _ (Value.str (Option.getD _ _) _) (Value.str (Str.mk _) _)) _ _ _); refine add_str ?_ (hsz := sum_one (by assumption)); intro _ _)) | (with_reducible (k_here; (with_reducible show wpAny _ _ (call (Value.builtin "len") [Value.ref _]) _ _ _); k_dflt (refine' len_any ?Nq ?mq ?zq ?_; (case Nq => k_asm); (case mq => k_mem); (case zq => (first | (with_reducible assumption) | ((try simp only [List.length_append, List.length_cons, List.length_nil]); omega))); k_whole))) | (with_reducible (k_here; (with_reducible show wpAny _ _ (call (Value.builtin _) [Value.ref _, _]) _ _ _); k_dflt (refine' app_any ?Fq ?Nq ?Uq ?zq ?_; (case Fq => k_asm); (case Nq => k_asm); (case Uq => k_updF); (case zq => (first | (with_reducible assumption) | ((try simp only [List.length_append, List.length_cons, List.length_nil]); omega))); k_whole; intro hq nq Fq Nq; (try dsimp only at Nq); (try k_sweep)))) | (with_reducible ((with_reducible show wpAny _ _ (call (Value.ref 901) _) _ _ _); k_dflt (refine' sign_spec ?kBq ?kFq ?kXq ?kNq ?kTq ?kKq ?kdq ?kuq ?kaq ?kbq ?kcq ?keq ?_; (case kFq => k_asm); (case kNq => k_asm); (case kBq => k_asm); (case kXq => k_asm); (case kTq => k_asm); (case kKq => first | exact rfl | assumption); (case kdq => ktr_room); (case kuq => ktr_units); (case kaq => assumption); (case kbq => assumption); (case kcq => assumption); (case keq => assumption); k_whole; intro t9q h9q tk9q F9q N9q; (try dsimp only); (try k_fold)))) | (with_reducible (k_here; (with_reducible show wpAny _ _ (compareOp _ (Value.ref _) (Value.ref _)) _ _ _); k_dflt (refine' ne_snoc ?Nq ?mq ?zq ?uq ?_; (case Nq => k_asm); (case mq => k_mem); (case zq => k_mem); (case uq => ktr_units); k_whole))) | (with_reducible ((with_reducible show wpAny _ _ (eval (Expr.BoolOp BoolOp.Or [_, Expr.Constant (Const.str (Str.ofString "")) _ _] _) _) _ _ _); with_reducible refine or_blank ?_)) | (with_reducible with_reducible refine wpAny_execs_cons ?_) | (with_reducible with_reducible refine wpAny_execs_nil ?_) | (with_reducible (k_here; first | (refine ite_bt ?hq ?_; (case hq => with_reducible assumption)) | (refine ite_bf ?hq ?_; (case hq => with_reducible assumption)) | (refine ite_in_t ?hq ?_; (case hq => with_reducible assumption)) | (refine ite_in_f ?hq ?_; (case hq => with_reducible assumption)) | (refine ite_bt ?hq ?_; (case hq => decide +kernel)) | (refine ite_bf ?hq ?_; (case hq => decide +kernel)))) | (with_reducible (k_here; (with_reducible show wpAny _ _ (subscriptTail _ _ (Value.ref _) (Value.int (Int.fmod _ 8) _)) _ _ _); k_dflt (refine' item_nm (ws := bases8) (News.isTup (by k_asm) (.head _)) ?w1q (by rfl) (by decide) (by decide) ?_ ?s1q ?t1q; (case w1q => (unfold bases8; repeat (first | exact .nil | refine .cons _ _ ?_))); (case s1q => with_unfolding_all rfl); (case t1q => (intro _; with_unfolding_all rfl)); k_whole; intro x9q t9q m9q; (try dsimp only)))) | (with_reducible (k_here; (with_reducible show wpAny _ _ (subscriptTail _ _ (Value.ref _) (Value.int (Int.fmod _ 6) _)) _ _ _); k_dflt (refine' item_nm (ws := names6) (News.isTup (by k_asm) (.head _)) ?w1q (by rfl) (by decide) (by decide) ?_ ?s1q ?t1q; (case w1q => (unfold names6; repeat (first | exact .nil | refine .cons _ _ ?_))); (case s1q => with_unfolding_all rfl); (case t1q => (intro _; with_unfolding_all rfl)); k_whole; intro x9q t9q m9q; (try dsimp only)))) | (with_reducible (k_here; (with_reducible show wpAny _ _ (subscriptTail _ _ (Value.ref _) (Value.int (-1) _)) _ _ _); k_dflt (refine' item_last ?Nq ?mq ?zq ?_ ?hsq; (case Nq => k_asm); (case mq => k_mem); (case zq => (first | (with_reducible assumption) | ((try simp only [List.length_append, List.length_cons, List.length_nil]); omega))); (case hsq => with_unfolding_all rfl); k_whole))) | walk1)) | (dsimp only; (fail_if_success (with_reducible show wpAny _ _ (subscriptTail _ (Expr.Slice _ _ _ _) _ _) _ _ _)); walk1) | fail "no step"))
  dsimp only
  k_dflt (refine' slice_fr (b := 20) hL6 .none (.int _ _) ?F1 ?N1 ?s1 ?t1 hvs ?_)
  case F1 => k_asm
  case N1 => exact Nr
  case s1 => with_unfolding_all rfl
  case t1 => intro _; with_unfolding_all rfl
  intro sl h6 lsl F6 N6
  refine hid fun hn9_290 => ?_
  obtain ⟨hd, ha⟩ := addrOf Nr
  refine hn9_290 ?_
  clear hn9_290
  refine hid fun hn9_291 => ?_
  obtain ⟨ca, hca⟩ := addrOf2 Nr
  refine hn9_291 ?_
  clear hn9_291
  refine hid fun hn9_292 => ?_
  obtain ⟨cb, hcb⟩ := addrOf3 Nr
  refine hn9_292 ?_
  clear hn9_292
  refine hid fun hn9_293 => ?_
  subst ha <;> (refine hn9_293 ?_; clear hn9_293)
  refine hid fun hn9_294 => ?_
  subst hca <;> (refine hn9_294 ?_; clear hn9_294)
  refine hid fun hn9_295 => ?_
  subst hcb <;> (refine hn9_295 ?_; clear hn9_295)
  clear Nr
  refine' iter_ledG (vs := vs.take 20) (HJ hd sl (vs.take 20) news) (by rfl) ?l8 F6 ?N8 ⟨_, [], ⟨ca, cb, Str.ofString "A", some (Str.ofString ""), _, _, 0, 0, []⟩, _, fx_self _ _ ?a8, rfl, ?k8⟩ ?turn8 ?done8
  case l8 => rintro i m nw ⟨u, dn, cur, nn, rfl, rfl, H⟩; exact List.mem_append_left _ (sl_in ..)
  case a8 => exact List.forall_mem_cons.mpr ⟨rfl, List.forall_mem_nil _⟩
  case N8 => simp only [ownL, refsH, List.map_nil, List.nil_append, ledOf, List.flatMap_nil, HA.obj, HA.obb, oV, refsOf, List.append_nil, List.cons_append]; ((refine' kst_newsOf ?rN1q ?rSq; (case rN1q => k_asm); (case rSq => ((repeat (refine List.forall_mem_cons.mpr ⟨by k_memK, ?_⟩)); (first | (intro p9q h9q; repeat (first | exact h9q | refine List.Mem.tail _ ?_)) | exact List.forall_mem_nil _)))))
  case turn8 =>
    rintro i8 v8 m₁ nw h8 tk8 I oI hv8 r9_296_9 off F8 N8
    refine hid fun hn9_296 => ?_
    obtain ⟨u, dn, cur, nn, rfl, rfl, H⟩ := r9_296_9
    refine hn9_296 ?_
    clear hn9_296
    refine hid fun hn9_297 => ?_
    obtain ⟨k8, t8, rfl⟩ := ints_at (hI.take 20) hv8
    refine hn9_297 ?_
    clear hn9_297
    dsimp only [fx] at F8
    rw [own_eq] at N8 off
    replace off := off1_of off
    refine hid fun hn9_298 => ?_
    obtain ⟨n1, n2, n3, f1, f2, f3⟩ := own_off H.nd H.ap
    refine hn9_298 ?_
    clear hn9_298
    have hi8 : i8 < 20 := by have := (List.getElem?_eq_some_iff.mp hv8).1; simp only [List.length_take] at this; omega
    have hdl : (refsH dn).length ≤ 1000 := by unfold refsH; rw [List.length_map]; have := H.hl; omega
    have hcl : (refsOf cur.ps).length ≤ 1000 := by
      have h9 := (H.ok _ (List.mem_append_right _ (.head _))).num
      unfold refsOf
      rw [List.length_map]
      exact Nat.le_trans h9 (by omega)
    refine hid fun hn9_299 => ?_
    obtain ⟨R, hR⟩ : ∃ R, R = tailL dn cur sl (vs.take 20) news := ⟨_, rfl⟩
    refine hn9_299 ?_
    clear hn9_299
    rw [← hR] at N8 off f1 f2 f3
    simp only [LCg.Off1, HA.obj, HA.obb] at N8 off n1 n2 n3 f1 f2 f3
    have okc := H.ok _ (List.mem_append_right _ (.head _))
    replace okc := Box.mk okc
    refine post_gen fun P8 hP8 => ?_
    replace H := Box.mk H
    (repeat' (first | (k_unfold; (try dsimp only)) | (k_end; wrow_close) | ((fail_if_success (with_reducible show wpAny _ _ (exec (Stmt.If _ _ _ _) _) _ _ _)); (first | (with_reducible (refine' OrB.intro ?hobq ?_; (case hobq => first | (with_reducible assumption) | omega); intro t8q k8q; (try dsimp only))) | (with_reducible ((with_reducible show wpAny _ _ (binaryOp _ (Value.str (Option.getD _ _) _) (Value.str (Str.mk _) _)) _ _ _); refine add_str ?_ (hsz := sum_one (by assumption)); intro _ _)) | (with_reducible (k_here; (with_reducible show wpAny _ _ (call (Value.builtin "len") [Value.ref _]) _ _ _); k_dflt (refine' len_any ?Nq ?mq ?zq ?_; (case Nq => k_asm); (case mq => k_mem); (case zq => (first | (with_reducible assumption) | ((try simp only [List.length_append, List.length_cons, List.length_nil]); omega))); k_whole))) | (with_reducible (k_here; (with_reducible show wpAny _ _ (call (Value.builtin _) [Value.ref _, _]) _ _ _); k_dflt (refine' app_any ?Fq ?Nq ?Uq ?zq ?_; (case Fq => k_asm); (case Nq => k_asm); (case Uq => k_updF); (case zq => (first | (with_reducible assumption) | ((try simp only [List.length_append, List.length_cons, List.length_nil]); omega))); k_whole; intro hq nq Fq Nq; (try dsimp only at Nq); (try k_sweep)))) | (with_reducible ((with_reducible show wpAny _ _ (call (Value.ref 901) _) _ _ _); k_dflt (refine' sign_spec ?kBq ?kFq ?kXq ?kNq ?kTq ?kKq ?kdq ?kuq ?kaq ?kbq ?kcq ?keq ?_; (case kFq => k_asm); (case kNq => k_asm); (case kBq => k_asm); (case kXq => k_asm); (case kTq => k_asm); (case kKq => first | exact rfl | assumption); (case kdq => ktr_room); (case kuq => ktr_units); (case kaq => assumption); (case kbq => assumption); (case kcq => assumption); (case keq => assumption); k_whole; intro t9q h9q tk9q F9q N9q; (try dsimp only); (try k_fold)))) | (with_reducible (k_here; (with_reducible show wpAny _ _ (compareOp _ (Value.ref _) (Value.ref _)) _ _ _); k_dflt (refine' ne_snoc ?Nq ?mq ?zq ?uq ?_; (case Nq => k_asm); (case mq => k_mem); (case zq => k_mem); (case uq => ktr_units); k_whole))) | (with_reducible ((with_reducible show wpAny _ _ (eval (Expr.BoolOp BoolOp.Or [_, Expr.Constant (Const.str (Str.ofString "")) _ _] _) _) _ _ _); with_reducible refine or_blank ?_)) | (with_reducible with_reducible refine wpAny_execs_cons ?_) | (with_reducible with_reducible refine wpAny_execs_nil ?_) | (with_reducible (k_here; first | (refine ite_bt ?hq ?_; (case hq => with_reducible assumption)) | (refine ite_bf ?hq ?_; (case hq => with_reducible assumption)) | (refine ite_in_t ?hq ?_; (case hq => with_reducible assumption)) | (refine ite_in_f ?hq ?_; (case hq => with_reducible assumption)) | (refine ite_bt ?hq ?_; (case hq => decide +kernel)) | (refine ite_bf ?hq ?_; (case hq => decide +kernel)))) | (with_reducible (k_here; (with_reducible show wpAny _ _ (subscriptTail _ _ (Value.ref _) (Value.int (Int.fmod _ 8) _)) _ _ _); k_dflt (refine' item_nm (ws := bases8) (News.isTup (by k_asm) (.head _)) ?w1q (by rfl) (by decide) (by decide) ?_ ?s1q ?t1q; (case w1q => (unfold bases8; repeat (first | exact .nil | refine .cons _ _ ?_))); (case s1q => with_unfolding_all rfl); (case t1q => (intro _; with_unfolding_all rfl)); k_whole; intro x9q t9q m9q; (try dsimp only)))) | (with_reducible (k_here; (with_reducible show wpAny _ _ (subscriptTail _ _ (Value.ref _) (Value.int (Int.fmod _ 6) _)) _ _ _); k_dflt (refine' item_nm (ws := names6) (News.isTup (by k_asm) (.head _)) ?w1q (by rfl) (by decide) (by decide) ?_ ?s1q ?t1q; (case w1q => (unfold names6; repeat (first | exact .nil | refine .cons _ _ ?_))); (case s1q => with_unfolding_all rfl); (case t1q => (intro _; with_unfolding_all rfl)); k_whole; intro x9q t9q m9q; (try dsimp only)))) | (with_reducible (k_here; (with_reducible show wpAny _ _ (subscriptTail _ _ (Value.ref _) (Value.int (-1) _)) _ _ _); k_dflt (refine' item_last ?Nq ?mq ?zq ?_ ?hsq; (case Nq => k_asm); (case mq => k_mem); (case zq => (first | (with_reducible assumption) | ((try simp only [List.length_append, List.length_cons, List.length_nil]); omega))); (case hsq => with_unfolding_all rfl); k_whole))) | walk1)) | (dsimp only; (fail_if_success (with_reducible show wpAny _ _ (exec (Stmt.If _ _ _ _) _) _ _ _)); walk1) | fail "no step"))
    (rename Fr g5 L5 _ _ => F9)
    dsimp only at F9
    dsimp only
    refine hid fun hn9_300 => ?_
    obtain ⟨re, hre, re0, re1⟩ := fmod_in k8 16 (by decide)
    refine hn9_300 ?_
    clear hn9_300
    refine hid fun hn9_301 => ?_
    obtain ⟨mo, hmo, mo0, mo1⟩ := fmod_in (k8.fdiv 16) 1112064 (by omega)
    refine hn9_301 ?_
    clear hn9_301
    with_reducible rw [← hmo, ← hre] at F9
    clear hre hmo
    by_cases hr2 : re < 2
    · refine hid fun hn9_302 => ?_
      obtain ⟨ca2, cb2, ck, cv, ctk, ctv, cn1, cn2, cps⟩ := cur
      refine hn9_302 ?_
      clear hn9_302
      dsimp only at *
      (repeat' (first | (k_unfold; (try dsimp only)) | (k_end; wrow_close) | (first | (with_reducible (refine' OrB.intro ?hobq ?_; (case hobq => first | (with_reducible assumption) | omega); intro t8q k8q; (try dsimp only))) | (with_reducible ((with_reducible show wpAny _ _ (binaryOp _ (Value.str (Option.getD _ _) _) (Value.str (Str.mk _) _)) _ _ _); refine add_str ?_ (hsz := sum_one (by assumption)); intro _ _)) | (with_reducible (k_here; (with_reducible show wpAny _ _ (call (Value.builtin "len") [Value.ref _]) _ _ _); k_dflt (refine' len_any ?Nq ?mq ?zq ?_; (case Nq => k_asm); (case mq => k_mem); (case zq => (first | (with_reducible assumption) | ((try simp only [List.length_append, List.length_cons, List.length_nil]); omega))); k_whole))) | (with_reducible (k_here; (with_reducible show wpAny _ _ (call (Value.builtin _) [Value.ref _, _]) _ _ _); k_dflt (refine' app_any ?Fq ?Nq ?Uq ?zq ?_; (case Fq => k_asm); (case Nq => k_asm); (case Uq => k_updF); (case zq => (first | (with_reducible assumption) | ((try simp only [List.length_append, List.length_cons, List.length_nil]); omega))); k_whole; intro hq nq Fq Nq; (try dsimp only at Nq); (try k_sweep)))) | (with_reducible ((with_reducible show wpAny _ _ (call (Value.ref 901) _) _ _ _); k_dflt (refine' sign_spec ?kBq ?kFq ?kXq ?kNq ?kTq ?kKq ?kdq ?kuq ?kaq ?kbq ?kcq ?keq ?_; (case kFq => k_asm); (case kNq => k_asm); (case kBq => k_asm); (case kXq => k_asm); (case kTq => k_asm); (case kKq => first | exact rfl | assumption); (case kdq => ktr_room); (case kuq => ktr_units); (case kaq => assumption); (case kbq => assumption); (case kcq => assumption); (case keq => assumption); k_whole; intro t9q h9q tk9q F9q N9q; (try dsimp only); (try k_fold)))) | (with_reducible (k_here; (with_reducible show wpAny _ _ (compareOp _ (Value.ref _) (Value.ref _)) _ _ _); k_dflt (refine' ne_snoc ?Nq ?mq ?zq ?uq ?_; (case Nq => k_asm); (case mq => k_mem); (case zq => k_mem); (case uq => ktr_units); k_whole))) | (with_reducible ((with_reducible show wpAny _ _ (eval (Expr.BoolOp BoolOp.Or [_, Expr.Constant (Const.str (Str.ofString "")) _ _] _) _) _ _ _); with_reducible refine or_blank ?_)) | (with_reducible with_reducible refine wpAny_execs_cons ?_) | (with_reducible with_reducible refine wpAny_execs_nil ?_) | (with_reducible (k_here; first | (refine ite_bt ?hq ?_; (case hq => with_reducible assumption)) | (refine ite_bf ?hq ?_; (case hq => with_reducible assumption)) | (refine ite_in_t ?hq ?_; (case hq => with_reducible assumption)) | (refine ite_in_f ?hq ?_; (case hq => with_reducible assumption)) | (refine ite_bt ?hq ?_; (case hq => decide +kernel)) | (refine ite_bf ?hq ?_; (case hq => decide +kernel)))) | (with_reducible (k_here; (with_reducible show wpAny _ _ (subscriptTail _ _ (Value.ref _) (Value.int (Int.fmod _ 8) _)) _ _ _); k_dflt (refine' item_nm (ws := bases8) (News.isTup (by k_asm) (.head _)) ?w1q (by rfl) (by decide) (by decide) ?_ ?s1q ?t1q; (case w1q => (unfold bases8; repeat (first | exact .nil | refine .cons _ _ ?_))); (case s1q => with_unfolding_all rfl); (case t1q => (intro _; with_unfolding_all rfl)); k_whole; intro x9q t9q m9q; (try dsimp only)))) | (with_reducible (k_here; (with_reducible show wpAny _ _ (subscriptTail _ _ (Value.ref _) (Value.int (Int.fmod _ 6) _)) _ _ _); k_dflt (refine' item_nm (ws := names6) (News.isTup (by k_asm) (.head _)) ?w1q (by rfl) (by decide) (by decide) ?_ ?s1q ?t1q; (case w1q => (unfold names6; repeat (first | exact .nil | refine .cons _ _ ?_))); (case s1q => with_unfolding_all rfl); (case t1q => (intro _; with_unfolding_all rfl)); k_whole; intro x9q t9q m9q; (try dsimp only)))) | (with_reducible (k_here; (with_reducible show wpAny _ _ (subscriptTail _ _ (Value.ref _) (Value.int (-1) _)) _ _ _); k_dflt (refine' item_last ?Nq ?mq ?zq ?_ ?hsq; (case Nq => k_asm); (case mq => k_mem); (case zq => (first | (with_reducible assumption) | ((try simp only [List.length_append, List.length_cons, List.length_nil]); omega))); (case hsq => with_unfolding_all rfl); k_whole))) | walk1) | (dsimp only; walk1) | (leave1; (try dsimp only)) | fail "no step"))
      · (rename News g5 L5 _ ((_, W.listOf #[_, _, _] _) :: _) => N9)
        refine' hP8 _ _ (endA H.out hR ?F1 ?e1 (v := some (Str.ofString "")) rfl N9 ?a1 ?b1 off ?k1 (.inr rfl))
        case F1 => k_asm
        case e1 => rfl
        case a1 => assumption
        case b1 => assumption
        case k1 => assumption
      · (rename News g5 L5 _ ((_, W.listOf #[_, _, _] _) :: _) => N9)
        refine' hP8 _ _ (endA H.out hR ?F2 ?e2 (v := none) (tv := 0) rfl N9 ?a2 ?b2 off ?k2 (.inl rfl))
        case F2 => k_asm
        case e2 => rfl
        case a2 => assumption
        case b2 => assumption
        case k2 => assumption
    by_cases hr4 : re < 4
    · refine hid fun hn9_303 => ?_
      obtain ⟨ca2, cb2, ck, cv, ctk, ctv, cn1, cn2, cps⟩ := cur
      refine hn9_303 ?_
      clear hn9_303
      dsimp only at *
      (repeat' (first | (k_unfold; (try dsimp only)) | (k_end; wrow_close) | (first | (with_reducible (refine' OrB.intro ?hobq ?_; (case hobq => first | (with_reducible assumption) | omega); intro t8q k8q; (try dsimp only))) | (with_reducible ((with_reducible show wpAny _ _ (binaryOp _ (Value.str (Option.getD _ _) _) (Value.str (Str.mk _) _)) _ _ _); refine add_str ?_ (hsz := sum_one (by assumption)); intro _ _)) | (with_reducible (k_here; (with_reducible show wpAny _ _ (call (Value.builtin "len") [Value.ref _]) _ _ _); k_dflt (refine' len_any ?Nq ?mq ?zq ?_; (case Nq => k_asm); (case mq => k_mem); (case zq => (first | (with_reducible assumption) | ((try simp only [List.length_append, List.length_cons, List.length_nil]); omega))); k_whole))) | (with_reducible (k_here; (with_reducible show wpAny _ _ (call (Value.builtin _) [Value.ref _, _]) _ _ _); k_dflt (refine' app_any ?Fq ?Nq ?Uq ?zq ?_; (case Fq => k_asm); (case Nq => k_asm); (case Uq => k_updF); (case zq => (first | (with_reducible assumption) | ((try simp only [List.length_append, List.length_cons, List.length_nil]); omega))); k_whole; intro hq nq Fq Nq; (try dsimp only at Nq); (try k_sweep)))) | (with_reducible ((with_reducible show wpAny _ _ (call (Value.ref 901) _) _ _ _); k_dflt (refine' sign_spec ?kBq ?kFq ?kXq ?kNq ?kTq ?kKq ?kdq ?kuq ?kaq ?kbq ?kcq ?keq ?_; (case kFq => k_asm); (case kNq => k_asm); (case kBq => k_asm); (case kXq => k_asm); (case kTq => k_asm); (case kKq => first | exact rfl | assumption); (case kdq => ktr_room); (case kuq => ktr_units); (case kaq => assumption); (case kbq => assumption); (case kcq => assumption); (case keq => assumption); k_whole; intro t9q h9q tk9q F9q N9q; (try dsimp only); (try k_fold)))) | (with_reducible (k_here; (with_reducible show wpAny _ _ (compareOp _ (Value.ref _) (Value.ref _)) _ _ _); k_dflt (refine' ne_snoc ?Nq ?mq ?zq ?uq ?_; (case Nq => k_asm); (case mq => k_mem); (case zq => k_mem); (case uq => ktr_units); k_whole))) | (with_reducible ((with_reducible show wpAny _ _ (eval (Expr.BoolOp BoolOp.Or [_, Expr.Constant (Const.str (Str.ofString "")) _ _] _) _) _ _ _); with_reducible refine or_blank ?_)) | (with_reducible with_reducible refine wpAny_execs_cons ?_) | (with_reducible with_reducible refine wpAny_execs_nil ?_) | (with_reducible (k_here; first | (refine ite_bt ?hq ?_; (case hq => with_reducible assumption)) | (refine ite_bf ?hq ?_; (case hq => with_reducible assumption)) | (refine ite_in_t ?hq ?_; (case hq => with_reducible assumption)) | (refine ite_in_f ?hq ?_; (case hq => with_reducible assumption)) | (refine ite_bt ?hq ?_; (case hq => decide +kernel)) | (refine ite_bf ?hq ?_; (case hq => decide +kernel)))) | (with_reducible (k_here; (with_reducible show wpAny _ _ (subscriptTail _ _ (Value.ref _) (Value.int (Int.fmod _ 8) _)) _ _ _); k_dflt (refine' item_nm (ws := bases8) (News.isTup (by k_asm) (.head _)) ?w1q (by rfl) (by decide) (by decide) ?_ ?s1q ?t1q; (case w1q => (unfold bases8; repeat (first | exact .nil | refine .cons _ _ ?_))); (case s1q => with_unfolding_all rfl); (case t1q => (intro _; with_unfolding_all rfl)); k_whole; intro x9q t9q m9q; (try dsimp only)))) | (with_reducible (k_here; (with_reducible show wpAny _ _ (subscriptTail _ _ (Value.ref _) (Value.int (Int.fmod _ 6) _)) _ _ _); k_dflt (refine' item_nm (ws := names6) (News.isTup (by k_asm) (.head _)) ?w1q (by rfl) (by decide) (by decide) ?_ ?s1q ?t1q; (case w1q => (unfold names6; repeat (first | exact .nil | refine .cons _ _ ?_))); (case s1q => with_unfolding_all rfl); (case t1q => (intro _; with_unfolding_all rfl)); k_whole; intro x9q t9q m9q; (try dsimp only)))) | (with_reducible (k_here; (with_reducible show wpAny _ _ (subscriptTail _ _ (Value.ref _) (Value.int (-1) _)) _ _ _); k_dflt (refine' item_last ?Nq ?mq ?zq ?_ ?hsq; (case Nq => k_asm); (case mq => k_mem); (case zq => (first | (with_reducible assumption) | ((try simp only [List.length_append, List.length_cons, List.length_nil]); omega))); (case hsq => with_unfolding_all rfl); k_whole))) | walk1) | (dsimp only; walk1) | (leave1; (try dsimp only)) | fail "no step"))
      (rename _ ∈ bases8 => m9)
      have hk1 := bases_len _ m9
      have hk2 := key_len hcl
      generalize hS : Str.ofString (toString ((refsOf cps).length : Int)) = kx at hk2 ⊢
      have hkx : ∃ b ∈ bases8, _ ++ kx = b ++ Str.ofString (toString ((cps.length : Nat) : Int)) := ⟨_, m9, by rw [← hS]; unfold refsOf; rw [List.length_map]⟩
      (repeat' (first | (k_unfold; (try dsimp only)) | (k_end; wrow_close) | (first | (with_reducible (refine' OrB.intro ?hobq ?_; (case hobq => first | (with_reducible assumption) | omega); intro t8q k8q; (try dsimp only))) | (with_reducible ((with_reducible show wpAny _ _ (binaryOp _ (Value.str (Option.getD _ _) _) (Value.str (Str.mk _) _)) _ _ _); refine add_str ?_ (hsz := sum_one (by assumption)); intro _ _)) | (with_reducible (k_here; (with_reducible show wpAny _ _ (call (Value.builtin "len") [Value.ref _]) _ _ _); k_dflt (refine' len_any ?Nq ?mq ?zq ?_; (case Nq => k_asm); (case mq => k_mem); (case zq => (first | (with_reducible assumption) | ((try simp only [List.length_append, List.length_cons, List.length_nil]); omega))); k_whole))) | (with_reducible (k_here; (with_reducible show wpAny _ _ (call (Value.builtin _) [Value.ref _, _]) _ _ _); k_dflt (refine' app_any ?Fq ?Nq ?Uq ?zq ?_; (case Fq => k_asm); (case Nq => k_asm); (case Uq => k_updF); (case zq => (first | (with_reducible assumption) | ((try simp only [List.length_append, List.length_cons, List.length_nil]); omega))); k_whole; intro hq nq Fq Nq; (try dsimp only at Nq); (try k_sweep)))) | (with_reducible ((with_reducible show wpAny _ _ (call (Value.ref 901) _) _ _ _); k_dflt (refine' sign_spec ?kBq ?kFq ?kXq ?kNq ?kTq ?kKq ?kdq ?kuq ?kaq ?kbq ?kcq ?keq ?_; (case kFq => k_asm); (case kNq => k_asm); (case kBq => k_asm); (case kXq => k_asm); (case kTq => k_asm); (case kKq => first | exact rfl | assumption); (case kdq => ktr_room); (case kuq => ktr_units); (case kaq => assumption); (case kbq => assumption); (case kcq => assumption); (case keq => assumption); k_whole; intro t9q h9q tk9q F9q N9q; (try dsimp only); (try k_fold)))) | (with_reducible (k_here; (with_reducible show wpAny _ _ (compareOp _ (Value.ref _) (Value.ref _)) _ _ _); k_dflt (refine' ne_snoc ?Nq ?mq ?zq ?uq ?_; (case Nq => k_asm); (case mq => k_mem); (case zq => k_mem); (case uq => ktr_units); k_whole))) | (with_reducible ((with_reducible show wpAny _ _ (eval (Expr.BoolOp BoolOp.Or [_, Expr.Constant (Const.str (Str.ofString "")) _ _] _) _) _ _ _); with_reducible refine or_blank ?_)) | (with_reducible with_reducible refine wpAny_execs_cons ?_) | (with_reducible with_reducible refine wpAny_execs_nil ?_) | (with_reducible (k_here; first | (refine ite_bt ?hq ?_; (case hq => with_reducible assumption)) | (refine ite_bf ?hq ?_; (case hq => with_reducible assumption)) | (refine ite_in_t ?hq ?_; (case hq => with_reducible assumption)) | (refine ite_in_f ?hq ?_; (case hq => with_reducible assumption)) | (refine ite_bt ?hq ?_; (case hq => decide +kernel)) | (refine ite_bf ?hq ?_; (case hq => decide +kernel)))) | (with_reducible (k_here; (with_reducible show wpAny _ _ (subscriptTail _ _ (Value.ref _) (Value.int (Int.fmod _ 8) _)) _ _ _); k_dflt (refine' item_nm (ws := bases8) (News.isTup (by k_asm) (.head _)) ?w1q (by rfl) (by decide) (by decide) ?_ ?s1q ?t1q; (case w1q => (unfold bases8; repeat (first | exact .nil | refine .cons _ _ ?_))); (case s1q => with_unfolding_all rfl); (case t1q => (intro _; with_unfolding_all rfl)); k_whole; intro x9q t9q m9q; (try dsimp only)))) | (with_reducible (k_here; (with_reducible show wpAny _ _ (subscriptTail _ _ (Value.ref _) (Value.int (Int.fmod _ 6) _)) _ _ _); k_dflt (refine' item_nm (ws := names6) (News.isTup (by k_asm) (.head _)) ?w1q (by rfl) (by decide) (by decide) ?_ ?s1q ?t1q; (case w1q => (unfold names6; repeat (first | exact .nil | refine .cons _ _ ?_))); (case s1q => with_unfolding_all rfl); (case t1q => (intro _; with_unfolding_all rfl)); k_whole; intro x9q t9q m9q; (try dsimp only)))) | (with_reducible (k_here; (with_reducible show wpAny _ _ (subscriptTail _ _ (Value.ref _) (Value.int (-1) _)) _ _ _); k_dflt (refine' item_last ?Nq ?mq ?zq ?_ ?hsq; (case Nq => k_asm); (case mq => k_mem); (case zq => (first | (with_reducible assumption) | ((try simp only [List.length_append, List.length_cons, List.length_nil]); omega))); (case hsq => with_unfolding_all rfl); k_whole))) | walk1) | (dsimp only; walk1) | (leave1; (try dsimp only)) | fail "no step"))
      · (rename News g5 L5 _ ((_, W.listOf #[_, _] _) :: _) => N9)
        refine' hP8 _ _ (endB H.out hR ?F3 ?e3 (v := none) (tv := 0) rfl N9 ?a3 off hkx (.inl rfl))
        case F3 => k_asm
        case e3 => rfl
        case a3 => assumption
      · (rename News g5 L5 _ ((_, W.listOf #[_, _] _) :: _) => N9)
        refine' hP8 _ _ (endB H.out hR ?F4 ?e4 (v := some (Str.ofString "")) rfl N9 ?a4 off hkx (.inr rfl))
        case F4 => k_asm
        case e4 => rfl
        case a4 => assumption
    have hr4' : 4 ≤ re := by omega
    rcases List.eq_nil_or_concat cur.ps with he | ⟨pi, pl, he⟩
    · have hcv := okT_len okc.out.txt (by omega)
      refine hid fun hn9_304 => ?_
      obtain ⟨ca2, cb2, ck, cv, ctk, ctv, cn1, cn2, cps⟩ := cur
      refine hn9_304 ?_
      clear hn9_304
      dsimp only at he
      refine hid fun hn9_305 => ?_
      subst he <;> (refine hn9_305 ?_; clear hn9_305)
      dsimp only at *
      (repeat' (first | (k_unfold; (try dsimp only)) | (k_end; wrow_close) | (first | (with_reducible (refine' OrB.intro ?hobq ?_; (case hobq => first | (with_reducible assumption) | omega); intro t8q k8q; (try dsimp only))) | (with_reducible ((with_reducible show wpAny _ _ (binaryOp _ (Value.str (Option.getD _ _) _) (Value.str (Str.mk _) _)) _ _ _); refine add_str ?_ (hsz := sum_one (by assumption)); intro _ _)) | (with_reducible (k_here; (with_reducible show wpAny _ _ (call (Value.builtin "len") [Value.ref _]) _ _ _); k_dflt (refine' len_any ?Nq ?mq ?zq ?_; (case Nq => k_asm); (case mq => k_mem); (case zq => (first | (with_reducible assumption) | ((try simp only [List.length_append, List.length_cons, List.length_nil]); omega))); k_whole))) | (with_reducible (k_here; (with_reducible show wpAny _ _ (call (Value.builtin _) [Value.ref _, _]) _ _ _); k_dflt (refine' app_any ?Fq ?Nq ?Uq ?zq ?_; (case Fq => k_asm); (case Nq => k_asm); (case Uq => k_updF); (case zq => (first | (with_reducible assumption) | ((try simp only [List.length_append, List.length_cons, List.length_nil]); omega))); k_whole; intro hq nq Fq Nq; (try dsimp only at Nq); (try k_sweep)))) | (with_reducible ((with_reducible show wpAny _ _ (call (Value.ref 901) _) _ _ _); k_dflt (refine' sign_spec ?kBq ?kFq ?kXq ?kNq ?kTq ?kKq ?kdq ?kuq ?kaq ?kbq ?kcq ?keq ?_; (case kFq => k_asm); (case kNq => k_asm); (case kBq => k_asm); (case kXq => k_asm); (case kTq => k_asm); (case kKq => first | exact rfl | assumption); (case kdq => ktr_room); (case kuq => ktr_units); (case kaq => assumption); (case kbq => assumption); (case kcq => assumption); (case keq => assumption); k_whole; intro t9q h9q tk9q F9q N9q; (try dsimp only); (try k_fold)))) | (with_reducible (k_here; (with_reducible show wpAny _ _ (compareOp _ (Value.ref _) (Value.ref _)) _ _ _); k_dflt (refine' ne_snoc ?Nq ?mq ?zq ?uq ?_; (case Nq => k_asm); (case mq => k_mem); (case zq => k_mem); (case uq => ktr_units); k_whole))) | (with_reducible ((with_reducible show wpAny _ _ (eval (Expr.BoolOp BoolOp.Or [_, Expr.Constant (Const.str (Str.ofString "")) _ _] _) _) _ _ _); with_reducible refine or_blank ?_)) | (with_reducible with_reducible refine wpAny_execs_cons ?_) | (with_reducible with_reducible refine wpAny_execs_nil ?_) | (with_reducible (k_here; first | (refine ite_bt ?hq ?_; (case hq => with_reducible assumption)) | (refine ite_bf ?hq ?_; (case hq => with_reducible assumption)) | (refine ite_in_t ?hq ?_; (case hq => with_reducible assumption)) | (refine ite_in_f ?hq ?_; (case hq => with_reducible assumption)) | (refine ite_bt ?hq ?_; (case hq => decide +kernel)) | (refine ite_bf ?hq ?_; (case hq => decide +kernel)))) | (with_reducible (k_here; (with_reducible show wpAny _ _ (subscriptTail _ _ (Value.ref _) (Value.int (Int.fmod _ 8) _)) _ _ _); k_dflt (refine' item_nm (ws := bases8) (News.isTup (by k_asm) (.head _)) ?w1q (by rfl) (by decide) (by decide) ?_ ?s1q ?t1q; (case w1q => (unfold bases8; repeat (first | exact .nil | refine .cons _ _ ?_))); (case s1q => with_unfolding_all rfl); (case t1q => (intro _; with_unfolding_all rfl)); k_whole; intro x9q t9q m9q; (try dsimp only)))) | (with_reducible (k_here; (with_reducible show wpAny _ _ (subscriptTail _ _ (Value.ref _) (Value.int (Int.fmod _ 6) _)) _ _ _); k_dflt (refine' item_nm (ws := names6) (News.isTup (by k_asm) (.head _)) ?w1q (by rfl) (by decide) (by decide) ?_ ?s1q ?t1q; (case w1q => (unfold names6; repeat (first | exact .nil | refine .cons _ _ ?_))); (case s1q => with_unfolding_all rfl); (case t1q => (intro _; with_unfolding_all rfl)); k_whole; intro x9q t9q m9q; (try dsimp only)))) | (with_reducible (k_here; (with_reducible show wpAny _ _ (subscriptTail _ _ (Value.ref _) (Value.int (-1) _)) _ _ _); k_dflt (refine' item_last ?Nq ?mq ?zq ?_ ?hsq; (case Nq => k_asm); (case mq => k_mem); (case zq => (first | (with_reducible assumption) | ((try simp only [List.length_append, List.length_cons, List.length_nil]); omega))); (case hsq => with_unfolding_all rfl); k_whole))) | walk1) | (dsimp only; walk1) | (leave1; (try dsimp only)) | fail "no step"))
      (rename News g5 L5 _ ((_, W.listOf #[] _) :: (I, _) :: _) => N9)
      refine' hP8 _ _ (endD H.out hR ?F5 ?e5 (v := some _) rfl (kst_newsOf N9 fun p hp => .tail _ hp) off (fun o => okT_sgn o mo0 mo1))
      case F5 => k_asm
      case e5 => rfl
    · rw [List.concat_eq_append] at he
      refine hid fun hn9_306 => ?_
      obtain ⟨o1, o2, o3, o4⟩ := last_off H.out he
      refine hn9_306 ?_
      clear hn9_306
      have hcv : okT i8 pl.v := (okc.out.ps pi.length pl (by rw [he]; simp)).txt
      replace hcv := okT_len hcv (by omega)
      have hts := tail_split (dn := dn) (sl := sl) (vs := vs.take 20) (news := news) he
      rw [← hR] at hts
      refine hid fun hn9_307 => ?_
      obtain ⟨R2, hR2⟩ : ∃ R2, R2 = pi.map PA.led ++ (ledOf dn ++ ((sl, W.listOf (vs.take 20).toArray 0) :: news)) := ⟨_, rfl⟩
      refine hn9_307 ?_
      clear hn9_307
      rw [← hR2] at o4 hts
      rw [hR] at off
      have off2 := Box.mk off
      have off9 : pl.a ≠ I ∧ LCg.Off1 I R2 := ⟨off1Mem off.2.2.2 pl.led (hR ▸ (hts _).mpr (.inl rfl)), off1_of fun x hx => off1Mem off.2.2.2 x (hR ▸ (hts x).mpr (.inr hx))⟩
      have off3 : hd ≠ I ∧ cur.a ≠ I ∧ cur.b ≠ I ∧ pl.a ≠ I ∧ LCg.Off1 I R2 := ⟨off.1, off.2.1, off.2.2.1, off9.1, off9.2⟩
      clear off9
      rw [← hR] at off
      (rename News g5 L5 _ ((I, _) :: _) => N9)
      have sb : ∀ x ∈ R2, x ∈ R := fun x hx => (hts x).mpr (.inr hx)
      have r1 := off1_of fun x hx => off1Mem f1 x (sb x hx)
      have r2 := off1_of fun x hx => off1Mem f2 x (sb x hx)
      have r3 := off1_of fun x hx => off1Mem f3 x (sb x hx)
      have hcl2 : (refsOf pi).length ≤ 1000 := by
        rw [he, refsOf_snoc, List.length_append] at hcl; omega
      have N10 := kst_newsOf (l' := (I, oI) :: (hd, W.listOf (refsH dn ++ [Value.ref cur.a]).toArray nn) :: (cur.a, W.listOf #[.str cur.k cur.tk, oV cur.v cur.tv, .ref cur.b] cur.n) :: (cur.b, W.listOf (refsOf pi ++ [Value.ref pl.a]).toArray cur.n2) :: (pl.a, W.listOf #[.str pl.k pl.tk, oV pl.v pl.tv] pl.n) :: R2) N9 (by
        intro x hx
        rw [he, refsOf_snoc]
        rcases List.mem_cons.mp hx with rfl | hx
        · exact .head _
        · rcases List.mem_cons.mp hx with rfl | hx
          · exact .tail _ (.head _)
          · rcases List.mem_cons.mp hx with rfl | hx
            · exact .tail _ (.tail _ (.head _))
            · rcases List.mem_cons.mp hx with rfl | hx
              · exact .tail _ (.tail _ (.tail _ (.head _)))
              · refine .tail _ (.tail _ (.tail _ (.tail _ ((hts x).mpr ?_))))
                rcases List.mem_cons.mp hx with rfl | hx
                · exact .inl rfl
                · exact .inr hx)
      clear N9 N8
      have hR3 := Box.mk hR2
      clear hR hR2 hts sb f1 f2 f3 off
      refine hid fun hn9_308 => ?_
      obtain ⟨ca2, cb2, ck, cv, ctk, ctv, cn1, cn2, cps⟩ := cur
      refine hn9_308 ?_
      clear hn9_308
      refine hid fun hn9_309 => ?_
      obtain ⟨pa, pk, pv, ptk, ptv, pn⟩ := pl
      refine hn9_309 ?_
      clear hn9_309
      dsimp only at *
      (repeat' (first | (k_unfold; (try dsimp only)) | (k_end; wrow_close) | (first | (with_reducible (refine' OrB.intro ?hobq ?_; (case hobq => first | (with_reducible assumption) | omega); intro t8q k8q; (try dsimp only))) | (with_reducible ((with_reducible show wpAny _ _ (binaryOp _ (Value.str (Option.getD _ _) _) (Value.str (Str.mk _) _)) _ _ _); refine add_str ?_ (hsz := sum_one (by assumption)); intro _ _)) | (with_reducible (k_here; (with_reducible show wpAny _ _ (call (Value.builtin "len") [Value.ref _]) _ _ _); k_dflt (refine' len_any ?Nq ?mq ?zq ?_; (case Nq => k_asm); (case mq => k_mem); (case zq => (first | (with_reducible assumption) | ((try simp only [List.length_append, List.length_cons, List.length_nil]); omega))); k_whole))) | (with_reducible (k_here; (with_reducible show wpAny _ _ (call (Value.builtin _) [Value.ref _, _]) _ _ _); k_dflt (refine' app_any ?Fq ?Nq ?Uq ?zq ?_; (case Fq => k_asm); (case Nq => k_asm); (case Uq => k_updF); (case zq => (first | (with_reducible assumption) | ((try simp only [List.length_append, List.length_cons, List.length_nil]); omega))); k_whole; intro hq nq Fq Nq; (try dsimp only at Nq); (try k_sweep)))) | (with_reducible ((with_reducible show wpAny _ _ (call (Value.ref 901) _) _ _ _); k_dflt (refine' sign_spec ?kBq ?kFq ?kXq ?kNq ?kTq ?kKq ?kdq ?kuq ?kaq ?kbq ?kcq ?keq ?_; (case kFq => k_asm); (case kNq => k_asm); (case kBq => k_asm); (case kXq => k_asm); (case kTq => k_asm); (case kKq => first | exact rfl | assumption); (case kdq => ktr_room); (case kuq => ktr_units); (case kaq => assumption); (case kbq => assumption); (case kcq => assumption); (case keq => assumption); k_whole; intro t9q h9q tk9q F9q N9q; (try dsimp only); (try k_fold)))) | (with_reducible (k_here; (with_reducible show wpAny _ _ (compareOp _ (Value.ref _) (Value.ref _)) _ _ _); k_dflt (refine' ne_snoc ?Nq ?mq ?zq ?uq ?_; (case Nq => k_asm); (case mq => k_mem); (case zq => k_mem); (case uq => ktr_units); k_whole))) | (with_reducible ((with_reducible show wpAny _ _ (eval (Expr.BoolOp BoolOp.Or [_, Expr.Constant (Const.str (Str.ofString "")) _ _] _) _) _ _ _); with_reducible refine or_blank ?_)) | (with_reducible with_reducible refine wpAny_execs_cons ?_) | (with_reducible with_reducible refine wpAny_execs_nil ?_) | (with_reducible (k_here; first | (refine ite_bt ?hq ?_; (case hq => with_reducible assumption)) | (refine ite_bf ?hq ?_; (case hq => with_reducible assumption)) | (refine ite_in_t ?hq ?_; (case hq => with_reducible assumption)) | (refine ite_in_f ?hq ?_; (case hq => with_reducible assumption)) | (refine ite_bt ?hq ?_; (case hq => decide +kernel)) | (refine ite_bf ?hq ?_; (case hq => decide +kernel)))) | (with_reducible (k_here; (with_reducible show wpAny _ _ (subscriptTail _ _ (Value.ref _) (Value.int (Int.fmod _ 8) _)) _ _ _); k_dflt (refine' item_nm (ws := bases8) (News.isTup (by k_asm) (.head _)) ?w1q (by rfl) (by decide) (by decide) ?_ ?s1q ?t1q; (case w1q => (unfold bases8; repeat (first | exact .nil | refine .cons _ _ ?_))); (case s1q => with_unfolding_all rfl); (case t1q => (intro _; with_unfolding_all rfl)); k_whole; intro x9q t9q m9q; (try dsimp only)))) | (with_reducible (k_here; (with_reducible show wpAny _ _ (subscriptTail _ _ (Value.ref _) (Value.int (Int.fmod _ 6) _)) _ _ _); k_dflt (refine' item_nm (ws := names6) (News.isTup (by k_asm) (.head _)) ?w1q (by rfl) (by decide) (by decide) ?_ ?s1q ?t1q; (case w1q => (unfold names6; repeat (first | exact .nil | refine .cons _ _ ?_))); (case s1q => with_unfolding_all rfl); (case t1q => (intro _; with_unfolding_all rfl)); k_whole; intro x9q t9q m9q; (try dsimp only)))) | (with_reducible (k_here; (with_reducible show wpAny _ _ (subscriptTail _ _ (Value.ref _) (Value.int (-1) _)) _ _ _); k_dflt (refine' item_last ?Nq ?mq ?zq ?_ ?hsq; (case Nq => k_asm); (case mq => k_mem); (case zq => (first | (with_reducible assumption) | ((try simp only [List.length_append, List.length_cons, List.length_nil]); omega))); (case hsq => with_unfolding_all rfl); k_whole))) | walk1) | (dsimp only; walk1) | (leave1; (try dsimp only)) | fail "no step"))
      (rename News g5 L5 _ ((_, W.listOf #[] _) :: (I, _) :: _) => N11)
      refine' hP8 _ _ (endC H.out he hR3.out ?F6 ?e6 (v := some _) rfl (kst_newsOf N11 fun p hp => .tail _ hp) off2.out (fun o => okT_sgn o mo0 mo1))
      case F6 => k_asm
      case e6 => rfl
  case k8 => exact HI.start lsl (by assumption) (by assumption) (by assumption)
  case done8 =>
    rintro m₁ nw h8 tk8 r9_310_4 F8 N8
    refine hid fun hn9_310 => ?_
    obtain ⟨u, dn, cur, nn, rfl, rfl, H⟩ := r9_310_4
    refine hn9_310 ?_
    clear hn9_310
    dsimp only [fx] at F8
    refine hid fun hn9_311 => ?_
    obtain ⟨d1, d2, d3, d4⟩ := H.fin (by rw [List.length_take]; exact Nat.min_le_left _ _)
    refine hn9_311 ?_
    clear hn9_311
    have N9 := kst_newsOf N8 d3
    clear N8
    (repeat' (first | (k_unfold; (try dsimp only)) | (k_end; wrow_close) | (first | (with_reducible (refine' OrB.intro ?hobq ?_; (case hobq => first | (with_reducible assumption) | omega); intro t8q k8q; (try dsimp only))) | (with_reducible ((with_reducible show wpAny _ _ (binaryOp _ (Value.str (Option.getD _ _) _) (Value.str (Str.mk _) _)) _ _ _); refine add_str ?_ (hsz := sum_one (by assumption)); intro _ _)) | (with_reducible (k_here; (with_reducible show wpAny _ _ (call (Value.builtin "len") [Value.ref _]) _ _ _); k_dflt (refine' len_any ?Nq ?mq ?zq ?_; (case Nq => k_asm); (case mq => k_mem); (case zq => (first | (with_reducible assumption) | ((try simp only [List.length_append, List.length_cons, List.length_nil]); omega))); k_whole))) | (with_reducible (k_here; (with_reducible show wpAny _ _ (call (Value.builtin _) [Value.ref _, _]) _ _ _); k_dflt (refine' app_any ?Fq ?Nq ?Uq ?zq ?_; (case Fq => k_asm); (case Nq => k_asm); (case Uq => k_updF); (case zq => (first | (with_reducible assumption) | ((try simp only [List.length_append, List.length_cons, List.length_nil]); omega))); k_whole; intro hq nq Fq Nq; (try dsimp only at Nq); (try k_sweep)))) | (with_reducible ((with_reducible show wpAny _ _ (call (Value.ref 901) _) _ _ _); k_dflt (refine' sign_spec ?kBq ?kFq ?kXq ?kNq ?kTq ?kKq ?kdq ?kuq ?kaq ?kbq ?kcq ?keq ?_; (case kFq => k_asm); (case kNq => k_asm); (case kBq => k_asm); (case kXq => k_asm); (case kTq => k_asm); (case kKq => first | exact rfl | assumption); (case kdq => ktr_room); (case kuq => ktr_units); (case kaq => assumption); (case kbq => assumption); (case kcq => assumption); (case keq => assumption); k_whole; intro t9q h9q tk9q F9q N9q; (try dsimp only); (try k_fold)))) | (with_reducible (k_here; (with_reducible show wpAny _ _ (compareOp _ (Value.ref _) (Value.ref _)) _ _ _); k_dflt (refine' ne_snoc ?Nq ?mq ?zq ?uq ?_; (case Nq => k_asm); (case mq => k_mem); (case zq => k_mem); (case uq => ktr_units); k_whole))) | (with_reducible ((with_reducible show wpAny _ _ (eval (Expr.BoolOp BoolOp.Or [_, Expr.Constant (Const.str (Str.ofString "")) _ _] _) _) _ _ _); with_reducible refine or_blank ?_)) | (with_reducible with_reducible refine wpAny_execs_cons ?_) | (with_reducible with_reducible refine wpAny_execs_nil ?_) | (with_reducible (k_here; first | (refine ite_bt ?hq ?_; (case hq => with_reducible assumption)) | (refine ite_bf ?hq ?_; (case hq => with_reducible assumption)) | (refine ite_in_t ?hq ?_; (case hq => with_reducible assumption)) | (refine ite_in_f ?hq ?_; (case hq => with_reducible assumption)) | (refine ite_bt ?hq ?_; (case hq => decide +kernel)) | (refine ite_bf ?hq ?_; (case hq => decide +kernel)))) | (with_reducible (k_here; (with_reducible show wpAny _ _ (subscriptTail _ _ (Value.ref _) (Value.int (Int.fmod _ 8) _)) _ _ _); k_dflt (refine' item_nm (ws := bases8) (News.isTup (by k_asm) (.head _)) ?w1q (by rfl) (by decide) (by decide) ?_ ?s1q ?t1q; (case w1q => (unfold bases8; repeat (first | exact .nil | refine .cons _ _ ?_))); (case s1q => with_unfolding_all rfl); (case t1q => (intro _; with_unfolding_all rfl)); k_whole; intro x9q t9q m9q; (try dsimp only)))) | (with_reducible (k_here; (with_reducible show wpAny _ _ (subscriptTail _ _ (Value.ref _) (Value.int (Int.fmod _ 6) _)) _ _ _); k_dflt (refine' item_nm (ws := names6) (News.isTup (by k_asm) (.head _)) ?w1q (by rfl) (by decide) (by decide) ?_ ?s1q ?t1q; (case w1q => (unfold names6; repeat (first | exact .nil | refine .cons _ _ ?_))); (case s1q => with_unfolding_all rfl); (case t1q => (intro _; with_unfolding_all rfl)); k_whole; intro x9q t9q m9q; (try dsimp only)))) | (with_reducible (k_here; (with_reducible show wpAny _ _ (subscriptTail _ _ (Value.ref _) (Value.int (-1) _)) _ _ _); k_dflt (refine' item_last ?Nq ?mq ?zq ?_ ?hsq; (case Nq => k_asm); (case mq => k_mem); (case zq => (first | (with_reducible assumption) | ((try simp only [List.length_append, List.length_cons, List.length_nil]); omega))); (case hsq => with_unfolding_all rfl); k_whole))) | walk1) | (dsimp only; walk1) | (leave1; (try dsimp only)) | fail "no step"))
    refine' h hd _ nn _ _ d1 d2 ?F7 ?N7 d4
    case F7 => k_asm
    case N7 => k_asm
end
end
section
-- text St
section
variable {prog : Program} {w : World} {A : Around} {E : Value → Shared → Prop} {s : Shared}
theorem forIn_id {α : Type} {M : Model} {Q : PUnit → Shared → Prop} {f : α → PUnit → Sem (ForInStep PUnit)} : ∀ (l : List α) (s : Shared), (∀ x ∈ l, ∀ Q' : ForInStep PUnit → Shared → Prop, Q' (.yield PUnit.unit) s → wpAny M A (f x PUnit.unit) Q' E s) → Q PUnit.unit s → wpAny M A (forIn l PUnit.unit f) Q E s
  | [], s, _, h => by rw [List.forIn_nil]; exact wpAny_pure h
  | x :: r, s, hf, h => by
    rw [List.forIn_cons]
    exact wpAny_bind (hf x (.head _) _ (forIn_id r s (fun y hy => hf y (.tail _ hy)) h))
/-- a dict laid into a new one, whose keys must be new -/
theorem merge_new {D a : Addr} {ps : List (Str × Value)} {Q : Unit → Shared → Prop} (hne : D ≠ a) (hS : (a == sysModules) = false) (hD : s.heap.DictOf (PySem.strKind prog w) D []) (ha : s.heap.DictOf (PySem.strKind prog w) a ps) (hsz : ps.length ≤ 1000)
    (hQ : ∀ h', h'.DictOf (PySem.strKind prog w) D ps → Heap.SameBut D s.heap h' → Q () { s with heap := h' }) : wpAny (model prog w) A (mergeMapping D (.ref a) true) Q E s := by
  refine hid fun hn9_312 => ?_
  obtain ⟨oo, eso, epo, hoo, hco, hdo, hko, hpo, hno⟩ := id ha
  refine hn9_312 ?_
  clear hn9_312
  refine hid fun hn9_313 => ?_
  obtain ⟨od, esd, epd, hod, hcd, hdd, hkd, hpd, hnd⟩ := id hD
  refine hn9_313 ?_
  clear hn9_313
  have hT : s.TypeIs (.ref a) "dict" := ⟨oo, hoo, hco.1⟩
  have hlen : ps.length = eso.size := by rw [← hpo.length]; simp
  have h0 : esd = #[] := by
    have := hpd.length
    exact Array.eq_empty_of_size_eq_zero (by simpa using this)
  refine hid fun hn9_314 => ?_
  subst h0 <;> (refine hn9_314 ?_; clear hn9_314)
  unfold mergeMapping
  refine wpAny_bind (wpAny_isInstance hT F.sub_dict_dict ?_)
  rw [if_pos rfl]
  refine wpAny_bind (wpAny_specialOf hT F.slot_dict_iter.lookup ?_)
  refine wpAny_bind (wpAny_pure ?_)
  rw [show (some (Value.builtin "dict.__iter__") == some (Value.builtin "dict.__iter__")) = true from by decide +kernel]
  dsimp only
  rw [if_neg (by rw [hS]; exact Bool.false_ne_true)]
  refine wpAny_bind (wpAny_dictEntries hod hdd ?_)
  rw [if_pos (by rfl)]
  refine wpAny_bind (wpAny_dictEntries hoo hdo ?_)
  have hstr : ∀ e ∈ eso, ∃ y t, e.key = .str y t := fun e he => by
    refine hid fun hn9_315 => ?_
    obtain ⟨k', hk', _⟩ := hko e he
    refine hn9_315 ?_
    clear hn9_315
    cases hh : e.key with
    | str y t => exact ⟨y, t, rfl⟩
    | _ => rw [hh] at hk'; simp [PySem.strKind, Value.isStrOf] at hk'
  refine wpAny_bind ?_
  rw [← Array.forIn_toList]
  refine forIn_id _ _ (fun e he Q' hq => ?_) ?_
  · refine hid fun hn9_316 => ?_
    obtain ⟨y, t, e1⟩ := hstr e (by simpa using he)
    refine hn9_316 ?_
    clear hn9_316
    rw [e1]
    exact wpAny_pure hq
  refine wpAny_bind (wpAny_dictEntries hoo hdo ?_)
  refine wpAny_bind (wpAny_dictEpoch hoo hdo ?_)
  refine wpAny_bind ?_
  rw [List.range_eq_range']
  refine wpAny_forIn_list _
    (fun rest _ s' => ∃ h' i, s' = { s with heap := h' } ∧ rest = List.range' i (eso.size - i) ∧ i ≤ eso.size ∧ h'.DictOf (PySem.strKind prog w) D (ps.take i) ∧ h'.get? a = some oo ∧ Heap.SameBut D s.heap h')
    _ ?_ ?_ _ _ ⟨s.heap, 0, rfl, by simp, Nat.zero_le _, by simpa using hD, hoo, Heap.SameBut.refl _ _⟩
  · rintro x rest b s' r9_317_4
    refine hid fun hn9_317 => ?_
    obtain ⟨h', i, rfl, hr, hi, hd', hoo', hs'⟩ := r9_317_4
    refine hn9_317 ?_
    clear hn9_317
    have hlt : i < eso.size := by
      rcases Nat.lt_or_ge i eso.size with h | h
      · exact h
      · rw [Nat.sub_eq_zero_of_le h] at hr; simp at hr
    obtain ⟨rfl, hrest⟩ : x = i ∧ rest = List.range' (i + 1) (eso.size - (i + 1)) := by
      have e : eso.size - i = (eso.size - (i + 1)) + 1 := sub1 hlt
      rw [e, List.range'_succ] at hr
      injection hr with h1 h2
      exact ⟨h1, h2⟩
    refine wpAny_bind (wpAny_dictEntries hoo' hdo ?_)
    rw [Array.getElem?_eq_getElem hlt]
    refine hid fun hn9_318 => ?_
    obtain ⟨kv, hkv⟩ : ∃ kv, ps[x]? = some kv := ⟨ps[x]'(by rw [hlen]; exact hlt), List.getElem?_eq_getElem _⟩
    refine hn9_318 ?_
    clear hn9_318
    refine hid fun hn9_319 => ?_
    obtain ⟨k, v⟩ := kv
    refine hn9_319 ?_
    clear hn9_319
    refine hid fun hn9_320 => ?_
    obtain ⟨hkey, hval⟩ := hpo.get? (e := eso[x]) (by simp [hlt]) hkv
    refine hn9_320 ?_
    clear hn9_320
    refine hid fun hn9_321 => ?_
    obtain ⟨k', hkey', hhash⟩ := hko eso[x] (Array.getElem_mem hlt)
    refine hn9_321 ?_
    clear hn9_321
    refine hid fun hn9_322 => ?_
    obtain rfl : k' = k := (PySem.strKind prog w).inj _ _ _ hkey' hkey
    refine hn9_322 ?_
    clear hn9_322
    dsimp only
    rw [hhash, hval]
    refine hid fun hn9_323 => ?_
    obtain ⟨oD, esD, epD, hoD, hcD, hdD, hkD, hpD, hnD⟩ := id hd'
    refine hn9_323 ?_
    clear hn9_323
    have hsD : esD.size ≤ sizeLine := by
      have e1 := hpD.length
      have e2 : (ps.take x).length ≤ ps.length := by rw [List.length_take]; omega
      have e3 : esD.toList.length = esD.size := by simp
      rw [sizeLine_eq]; omega
    have hnot : k' ∉ (ps.take x).map (·.1) := by
      have h2 := hno
      rw [← List.take_append_drop x ps, List.map_append, List.nodup_append] at h2
      have h3 : (k', v) ∈ ps.drop x := List.mem_of_getElem? (by rw [List.getElem?_drop, Nat.add_zero]; exact hkv)
      exact fun hm => h2.2.2 _ hm k' (List.mem_map.mpr ⟨_, h3, rfl⟩) rfl
    have hidx : (esD.findIdx? fun e => (PySem.strKind prog w).is k' e.key) = none := by
      have e1 : (esD.findIdx? fun e => (PySem.strKind prog w).is k' e.key) = (ps.take x).findIdx? fun kv => decide (kv.1 = k') := by
        rw [← hpD.findIdx k']; obtain ⟨l⟩ := esD; simp
      rw [e1, List.findIdx?_eq_none_iff]
      intro y hy
      exact decide_eq_false fun e => hnot (List.mem_map.mpr ⟨y, hy, e⟩)
    refine wpAny_bind (wpAny_holding ?_)
    rw [if_pos rfl]
    refine wpAny_bind (wpAny_dictFind_of hkey' hoD hdD hkD ?_)
    rw [hidx]
    rw [if_neg (by exact Bool.false_ne_true)]
    unfold dictPut
    refine wpAny_bind (wpAny_dictFind_of hkey' hoD hdD hkD ?_)
    rw [hidx]
    dsimp only
    refine wpAny_updateDictKeys (hz := hsD) hoD hdD ?_
    have hoo'' : ((h'.update D (Obj.mapDictKeys (·.push ⟨(PySem.strKind prog w).hash k', eso[x].key, v⟩)))).get? a = some oo := (Heap.get?_update_other _ _ hne).trans hoo'
    refine wpAny_bind (wpAny_dictEpoch hoo'' hdo ?_)
    rw [if_neg (by simp)]
    refine wpAny_pure ⟨_, x + 1, rfl, hrest, hlt, ?_, hoo'', hs'.trans (Heap.SameBut.update ..)⟩
    refine ⟨_, _, epD + 1, Heap.get?_update_self _ hoD (Obj.isFreed_of_dict (Obj.data_mapDictKeys hdD _)), hcD.mapDictKeys _, Obj.data_mapDictKeys hdD _, hkD.push hkey' _, ?_, ?_⟩
    · rw [List.take_succ, hkv]
      have := hpD.append hkey' ((PySem.strKind prog w).hash k') v
      refine hid fun hn9_324 => ?_
      obtain ⟨l⟩ := esD
      refine hn9_324 ?_
      clear hn9_324
      simpa using this
    · rw [List.map_take]
      exact List.Nodup.sublist (List.take_sublist ..) hno
  · rintro b s' r9_325_2
    refine hid fun hn9_325 => ?_
    obtain ⟨h', i, rfl, hr, hi, hd', hoo', hs'⟩ := r9_325_2
    refine hn9_325 ?_
    clear hn9_325
    have hin : i = eso.size := by
      rcases Nat.lt_or_ge i eso.size with h | h
      · have e : eso.size - i = (eso.size - (i + 1)) + 1 := sub1 h
        rw [e, List.range'_succ] at hr; exact nomatch hr
      · exact Nat.le_antisymm hi h
    refine wpAny_pure (hQ h' ?_ hs')
    rw [hin, ← hlen, List.take_length] at hd'; exact hd'
noncomputable abbrev emptyD : Obj := { cls := .type "dict", data := .dict #[] }
/-- the call's keywords out of one dict -/
theorem merged_one {f : Value} {a : Addr} {x : Sem Value} {ps : List (Str × Value)} {Q : Addr → Shared → Prop}
    (hx : wpAny (model prog w) A x (fun v s' => v = .ref a ∧ ∃ tk, s' = { s with heap := s.heap.push emptyD, toks := tk }) E { s with heap := s.heap.push emptyD }) (hS : (a == sysModules) = false)
    (ha : s.heap.DictOf (PySem.strKind prog w) a ps) (hsz : ps.length ≤ 1000)
    (hQ : ∀ h' tk, h'.DictOf (PySem.strKind prog w) s.heap.objs.size ps → (∀ b o, s.heap.get? b = some o → h'.get? b = some o) → Q s.heap.objs.size { s with heap := h', toks := tk }) : wpAny (model prog w) A (mergedKeywords f [(none, x)]) Q E s := by
  have hne : s.heap.objs.size ≠ a := by
    refine hid fun hn9_326 => ?_
    obtain ⟨o, _, _, ho, _⟩ := ha
    refine hn9_326 ?_
    clear hn9_326
    exact Ne.symm (Nat.ne_of_lt (Heap.lt_size ho))
  unfold mergedKeywords
  refine wpAny_bind (wpAny_alloc ?_)
  refine wpAny_bind (wpAny_holding ?_)
  dsimp only
  refine wpAny_bind ?_
  rw [List.forIn_cons]
  dsimp only
  rw [if_pos (by rfl)]
  refine wpAny_bind (wpAny_bind (wpAny_pure (wpAny_bind (wpAny_mono hx (fun v s' hv => ?_) fun _ _ e => e))))
  refine hid fun hn9_327 => ?_
  obtain ⟨rfl, tk, rfl⟩ := hv
  refine hn9_327 ?_
  clear hn9_327
  refine wpAny_bind (wpAny_onRaise (wpAny_holding (wpAny_tryCatch (wpAny_onRaise ?_))))
  refine merge_new hne hS (Heap.DictOf.new s.heap) (ha.keep fun b o ho => Heap.get?_push_of_some _ ho) hsz fun h' hd hs => ?_
  refine wpAny_pure ?_
  dsimp only
  rw [List.forIn_nil]
  refine wpAny_pure ?_
  rw [if_pos (by rfl)]
  refine wpAny_pure (wpAny_pure (hQ h' tk hd fun b o ho => ?_))
  exact (hs.2 b (Nat.ne_of_lt (Heap.lt_size ho))).trans (Heap.get?_push_of_some _ ho)
theorem forIn_kw {M : Model} {knd : KeyKind prog w Str} {F : DictEntry → List (Str × Value) → Sem (ForInStep (List (Str × Value)))} (hs : ∀ (k : Str) (v : Value), knd.is k v = true → ∃ t, v = .str k t) (hF : ∀ (e : DictEntry) kw y t, e.key = .str y t → F e kw = pure (.yield (kw ++ [(y, e.val)]))) :
    ∀ (l : List DictEntry) (qs done : List (Str × Value)) (Q : List (Str × Value) → Shared → Prop), Pairs knd l qs → Q (done ++ qs) s → wpAny M A (forIn l done F) Q E s
  | [], _, done, Q, .nil, h => by rw [List.forIn_nil]; rw [List.append_nil] at h; exact wpAny_pure h
  | e :: l, _, done, Q, .cons (kv := kv) (kvs := kvs) a b c, h => by
    refine hid fun hn9_328 => ?_
    obtain ⟨t, ht⟩ := hs _ _ a
    refine hn9_328 ?_
    clear hn9_328
    rw [List.forIn_cons, hF e done kv.1 t ht]
    refine wpAny_bind (wpAny_pure ?_)
    refine forIn_kw hs hF l kvs _ Q c ?_
    rw [b, List.append_assoc]
    exact h
theorem kw_in {f : Value} {D : Addr} {ps : List (Str × Value)} {Q : List (Str × Value) → Shared → Prop} (hD : s.heap.DictOf (PySem.strKind prog w) D ps) (h : Q ps s) : wpAny (model prog w) A (keywordsIn f D) Q E s := by
  refine hid fun hn9_329 => ?_
  obtain ⟨o, es, ep, ho, hc, hd, hk, hp, hn⟩ := hD
  refine hn9_329 ?_
  clear hn9_329
  unfold keywordsIn
  refine wpAny_bind (wpAny_dictEntries ho hd ?_)
  refine wpAny_bind ?_
  rw [← Array.forIn_toList]
  refine forIn_kw (fun k v e => ?_) (fun e kw y t he => ?_) _ ps [] _ hp (wpAny_pure h)
  · cases v with
    | str y t => exact ⟨t, by simp [PySem.strKind, Value.isStrOf] at e; rw [e]⟩
    | _ => simp [PySem.strKind, Value.isStrOf] at e
  · dsimp only
    rw [he]
theorem methodCall_star {M : Model} {env : Env} {o : Expr} {name : Str} {apos pos : Pos} {args : List Expr} {kws : List Keyword} {Q : Value → Shared → Prop}
    (h : wpAny M A (eval o env) (fun ov s₁ => wpAny M A (getAttr ov name true) (fun f s₂ => wpAny M A (callWith pos f [] (backTo pos (starEach args env)) (backToKw pos (keywordEach kws env))) Q E s₂) E s₁) E s)
    (he : eval (.Call (.Attribute o name apos) args kws pos) env = (do
      let ov ← eval o env
      standAt apos.atName
      let (f, first) ← holding [ov] (do pure (← getAttr ov name true, []))
      callWith pos f first (backTo pos (starEach args env)) (backToKw pos (keywordEach kws env))) := by rfl) : wpAny M A (eval (.Call (.Attribute o name apos) args kws pos) env) Q E s := by
  rw [he]
  refine wpAny_bind (wpAny_mono h (fun ov s₁ h₁ => wpAny_bind (wpAny_standAt (wpAny_bind (wpAny_holding (wpAny_bind (wpAny_mono h₁ (fun fx s₂ h₂ => wpAny_pure ?_) fun _ _ x => x)))))) fun _ _ x => x)
  exact h₂
noncomputable def StarP (prog : Program) (w : World) (A : Around) (E : Value → Shared → Prop) (K : Frag) (env : Env) (e3 : Expr) (qm fa : Addr) (self : Value) (ps : List (Str × Value)) (Q : Value → Shared → Prop) (vs : List Value) (s₁ : Shared) : Prop :=
  ∃ a, (a == sysModules) = false ∧ s₁.heap.DictOf (PySem.strKind prog w) a ps ∧ ps.length ≤ 1000 ∧
      wpAny (model prog w) A (eval e3 env) (fun v s' => v = .ref a ∧ ∃ tk, s' = { s₁ with heap := s₁.heap.push emptyD, toks := tk }) E { s₁ with heap := s₁.heap.push emptyD } ∧
      ∀ h' tk, (∀ b o, s₁.heap.get? b = some o → h'.get? b = some o) → K.In h' ∧ h'.get? qm = some (methodObj (.ref fa) self) ∧
        codeAny (model prog w) A (.call (.ref fa) ⟨self :: vs, ps⟩) (fun r s' => match r with | .ok (.ret v) => Q v s' | .ok _ => False | .error e => E e s') { s₁ with heap := h', toks := tk }
/-- two arguments by place and a dict's keywords: a bound method called -/
theorem callWith_star {K : Frag} {env : Env} {pos p2 : Pos} {qm fa : Addr} {self : Value} {e1 e2 e3 : Expr} {ps : List (Str × Value)} {Q : Value → Shared → Prop} (hk : fnIn K fa = true)
    (h : wpAny (model prog w) A (spliced (backTo pos (starEach [e1, e2] env))) (StarP prog w A E K env e3 qm fa self ps Q) E s)
    (he : starEach [e1, e2] env = [(false, eval e1 env), (false, eval e2 env)] := by rfl) :
    wpAny (model prog w) A (callWith pos (.ref qm) [] (backTo pos (starEach [e1, e2] env)) (backToKw pos (keywordEach [⟨none, e3, p2⟩] env))) Q E s := by
  rw [he] at h ⊢
  unfold callWith
  refine wpAny_bind (wpAny_holding ?_)
  have e0 : evalArgs (.ref qm) true (backTo pos [(false, eval e1 env), (false, eval e2 env)]) (backToKw pos (keywordEach [⟨none, e3, p2⟩] env)) = (do
      let pos' ← spliced (backTo pos [(false, eval e1 env), (false, eval e2 env)])
      let x ← pure (pos', (none : Option Value))
      holding (x.1 ++ x.2.toList) (do
        let d ← mergedKeywords (.ref qm) [(none, do let v ← eval e3 env; standAt pos; pure v)]
        let p ← pure x.1
        let kw ← holding (.ref d :: p) (keywordsIn (.ref qm) d)
        pure ⟨p, kw⟩)) := by
    unfold evalArgs
    rfl
  rw [e0]
  refine wpAny_bind (wpAny_mono h (fun vs s₁ h₁ => ?_) fun _ _ e => e)
  refine hid fun hn9_330 => ?_
  obtain ⟨a, hS, hD, hsz, hx, hc⟩ := h₁
  refine hn9_330 ?_
  clear hn9_330
  refine wpAny_bind (wpAny_pure (wpAny_holding (wpAny_bind ?_)))
  refine merged_one (wpAny_bind (wpAny_mono hx (fun v s' hv => wpAny_bind (wpAny_standAt (wpAny_pure hv))) fun _ _ e => e)) hS hD hsz fun h' tk hd hkp => ?_
  refine wpAny_bind (wpAny_pure ?_)
  refine wpAny_bind (wpAny_holding (kw_in hd ?_))
  refine wpAny_pure ?_
  refine hid fun hn9_331 => ?_
  obtain ⟨X, hm, hq⟩ := hc h' tk hkp
  refine hn9_331 ?_
  clear hn9_331
  refine wpAny_bind (wpAny_standAt ?_)
  have L : Looks (model prog w) h' (keeperOf (.ref qm)) Keeper.boundFrame := by
    unfold fnIn at hk
    split at hk
    · rename_i e
      refine (Looks.ld (part := none) hm).andThen ?_
      exact (Looks.ld (part := none) (X _ _ e)).andThen .now
    · refine hid fun hn9_332 => ?_
      cases hk <;> (refine hn9_332 ?_; clear hn9_332)
  refine wpAny_bind (L.here ?_)
  have hst : ((backTo pos [(false, eval e1 env), (false, eval e2 env)]).any (·.1) || (backToKw pos (keywordEach [⟨none, e3, p2⟩] env)).any (·.1.isNone)) = true := rfl
  simp only [hst]
  refine wpAny_bind (wpAny_mono (Q := Q) ?_ (fun r s₂ hr => wpAny_bind (wpAny_holding (wpAny_point (wpAny_pure hr)))) fun _ _ e => e)
  exact wpAny_operate' (wpAny_call (method_call hm hq))
end
end
section
-- text Ct
section
variable {prog : Program} {w : World} {A₀ : Around} {E : Value → Shared → Prop} {s' : Shared} {h₀ h : Heap} {outer : List Env} {L a e t : Addr} {m : Str → Option Value} {name : Str} {scope : Scope} {cd : Value} {cl : List (Str × Addr)}
  {vs : List Value} {n : Str} {b₀ : Stmt} {suite : List Stmt} {pos np : Pos} {rest : List ExceptHandler} {Q : Flow → Shared → Prop} {news : List (Addr × Obj)}
  {p : Program} {loose : List Str} {mg mb : Str → Option Value} {x : Str} {X T' : String} {K : Frag}
/-- except X as n, in a frame whose names are captured -/
theorem caught_XB (B : Below A₀ h₀ outer h₀) (F : Fr h₀ L h m) (hsm : h.UpToSlots s'.heap) (R : RaisedK h₀ (envX name scope L a cd cl :: outer) e (.type X) t vs news s'.heap)
    (T : TopRead p loose mg mb h₀) (XK : K.In h₀) (hv : bootBuiltins x = some (.type T')) (hno : nsIn K mainGlobals x = some none)
    (hexc : isSubtype (.type T') (.type "BaseException") = pure true) (hnt : isSubtype (.type ((Manifest.find? T').elim "type" fun y => y.metatype)) (.type "tuple") = pure false) (hsub : isSubtype (.type X) (.type T') = pure true)
    (k : ∀ h' news₂ tk, Fr h₀ L h' (fun y => if y = n then some (.ref e) else m y) → News h₀ L h' news₂ → Got news₂ e t (.type X) vs → News h₀ L h' news →
      wpAny (model prog w) ((A₀.deeper (envX name scope L a cd cl)).mark (some (.ref e))) (execs (b₀ :: suite) (envX name scope L a cd cl))
        (fun f s₄ => wpAny (model prog w) (A₀.deeper (envX name scope L a cd cl)) (do bindName (envX name scope L a cd cl) n .none; unbindBehindTheSuite (envX name scope L a cd cl) n pos) (fun _ s₅ => Q f s₅) E s₄)
        (AsSuiteRaised (model prog w) ((A₀.deeper (envX name scope L a cd cl)).mark (some (.ref e))) (envX name scope L a cd cl) n pos (notedBy (model prog w) ((A₀.deeper (envX name scope L a cd cl)).mark (some (.ref e))) (envX name scope L a cd cl) (cameBackBy (model prog w) (A₀.deeper (envX name scope L a cd cl)) (envX name scope L a cd cl) E)))
        { s' with heap := h', toks := tk })
    (hn : x ≠ "__name__" := by decide +kernel)
    (hk : scope.kind = .function := by rfl) (hlo : (envX name scope L a cd cl).kindOf n = some .local := by rfl) (hx : (envX name scope L a cd cl).kindOf x = some .globalImplicit := by rfl) (hd : (x == ("__debug__" : Str)) = false := by decide) :
    wpAny (model prog w) (A₀.deeper (envX name scope L a cd cl)) (noteFrame (.ref e) (envX name scope L a cd cl))
      (fun _ s₂ => wpAny (model prog w) (A₀.deeper (envX name scope L a cd cl)) (setFlight (.ref e) none) (fun _ s₃ =>
        wpAny (model prog w) (A₀.deeper (envX name scope L a cd cl)) (handleBy (.ref e) (envX name scope L a cd cl) (.ExceptHandler (some (.Name x np)) (some n) (b₀ :: suite) pos :: rest)) Q E s₃) E s₂) E s' := by
  refine hid fun hn9_333 => ?_
  obtain ⟨⟨B', hB, hl, hfl, hnew⟩, htup⟩ := R
  refine hn9_333 ?_
  clear hn9_333
  have hL : B'.get? L = none := by
    refine hid fun hn9_334 => ?_
    obtain ⟨_, ⟨L', _, hf, hn', _⟩, _⟩ := hfl.2.2.1
    refine hn9_334 ?_
    clear hn9_334
    refine hid fun hn9_335 => ?_
    obtain rfl : L = L' := Option.some.inj hf
    refine hn9_335 ?_
    clear hn9_335
    exact hn'
  refine wpAny_looks_onW (Around.frames_deeper B.stack) rfl hfl fun h₄ hheld₄ hsm₄ => ?_
  refine wpAny_landsW hheld₄ fun h₅ hheld hsm₅' => ?_
  have hsm₅ := hsm₄.trans hsm₅'
  have hheld' := flyingW_base hB hheld
  have F₅ := F.of_stays hheld'.1 (hsm.trans hsm₅)
  refine hid fun hn9_336 => ?_
  obtain ⟨ob, hob, hobc⟩ := hheld'.there
  refine hn9_336 ?_
  clear hn9_336
  refine wpAny_handleBy_builtin_as (X := X) (T := T') (b := true) hexc hnt hsub (nameX_B F₅ XK T hno hv hn ⟨rfl, ⟨ob, hob, hobc⟩, ?_⟩ hk hx hd)
  refine lands_againW hheld fun h₆ hfl₆ hsm₆ => ?_
  have hfl₆' := flyingW_base hB hfl₆
  have F₆ := F.of_stays hfl₆'.1 ((hsm.trans hsm₅).trans hsm₆)
  refine hid fun hn9_337 => ?_
  obtain ⟨oe, ws, hoe, hoec, hoed, hoe0⟩ := hfl₆'.first
  refine hn9_337 ?_
  clear hn9_337
  refine hid fun hn9_338 => ?_
  obtain ⟨ot, nt, hot, hotc, hotd⟩ := (htup.of_slots hsm₅).of_slots hsm₆
  refine hn9_338 ?_
  clear hn9_338
  have N₆ := News.more F₆ (News.more F₆ News.nil hot (fun es n q => by rw [hotd] at q; cases q) (fresh_of_stays hB hnew)) hoe (fun es n q => by rw [hoed] at q; cases q) hfl₆'.2.1
  have Nl : News h₀ L h₆ news := fun q hq => ⟨hfl₆.1 _ _ (hl q hq).1, (fun z => by have := (hl q hq).1; rw [z, hL] at this; cases this), (hl q hq).2⟩
  refine storeX_L F₆ (news := _ ++ news) (fun q hq => (List.mem_append.mp hq).elim (N₆ q) (Nl q)) (fun h₇ F₇ N₇ => ?_) hk hlo
  exact k h₇ _ _ F₇ (fun q hq => N₇ q (List.mem_append_left _ hq)) ⟨oe, ot, ws, nt, .head _, .tail _ (.head _), hoec, hoed, hoe0, hotc, hotd⟩ fun q hq => N₇ q (List.mem_append_right _ hq)
theorem name_goesX {M : Model} {A : Around} {s : Shared} {Q : Unit → Shared → Prop} (F : Fr h₀ L s.heap m) (N : News h₀ L s.heap news)
    (h : ∀ h' v, Fr h₀ L h' (fun x => if x = n then v else m x) → News h₀ L h' news → Q () { s with heap := h', toks := s.toks + 1 })
    (hk : scope.kind = .function := by rfl) (hl : (envX name scope L a cd cl).kindOf n = some .local := by rfl) :
    wpAny M A (do bindName (envX name scope L a cd cl) n .none; unbindBehindTheSuite (envX name scope L a cd cl) n pos) Q E s :=
  wpAny_nameGoes_keeps hl F.ns (by show (scope.kind == .class || (scope.kind == .module && L != mainGlobals)) = false; rw [hk]; rfl) fun h' v hn hs => h h' v (F.set hn hs) (N.set hs)
end
end
section
-- text Lp2
section
noncomputable def quoO (v : Option Str) : Option Str := v.map fun x => sL (quoteL x)
noncomputable def keyAt (b : Str) (i : Nat) : Str := b ++ Str.ofString (toString ((i : Nat) : Int))
noncomputable def digs (l : List Nat) : List Nat := (l.reverse.takeWhile fun c => decide (48 ≤ c) && decide (c < 58)).reverse
noncomputable def numOf (k : Str) : Nat := (digs k.cps.toList).foldl (fun n c => 10 * n + (c - 48)) 0
theorem key_num : ∀ b ∈ bases8, ∀ i ∈ List.range 20, numOf (keyAt b i) = i := by decide +kernel
theorem key_end : ∀ b ∈ bases8, ∀ i ∈ List.range 20, (decide (0 < (keyAt b i).cps.toList.length) && decide (((keyAt b i).cps.toList.getLast?.getD 99) < 58) && decide ((keyAt b i).length ≤ 10)) = true := by decide +kernel
theorem key_word : ∀ b ∈ bases8, ∀ i ∈ List.range 20, (badT false (keyAt b i) || ((keyAt b i).cps.toList.all fun c => wch.cps.toList.contains (dash c))) = true := by decide +kernel
theorem name_word : ∀ n ∈ names6, (badT false n || (n.cps.toList.all fun c => wch.cps.toList.contains c)) = true ∧ 0 < n.cps.toList.length ∧ n.length ≤ 10 := by decide +kernel
theorem OkP.at {n i : Nat} {p : PA} (h : OkP n i p) : ∃ b ∈ bases8, p.k = keyAt b i := h.key
theorem OkH.lt {n i : Nat} {x : HA} {p : PA} (h : OkH n x) (hn : n ≤ 20) (e : x.ps[i]? = some p) : i ∈ List.range 20 := by
  have h1 := (List.getElem?_eq_some_iff.mp e).1
  have h2 := h.num
  exact List.mem_range.mpr (by omega)
theorem ok_key {n i : Nat} {x : HA} {p : PA} (h : OkH n x) (hn : n ≤ 20) (e : x.ps[i]? = some p) : numOf p.k = i ∧ (∃ r c, p.k.cps.toList = r ++ [c] ∧ c < 58) ∧ p.k.length ≤ 10 ∧ p.k.cps.toList ≠ [] ∧ (badT false p.k = false → ∀ c ∈ p.k.cps.toList, Wc (dash c)) := by
  refine hid fun hn9_339 => ?_
  obtain ⟨b, hb, hk⟩ := (h.ps i p e).at
  refine hn9_339 ?_
  clear hn9_339
  have hi := h.lt hn e
  have h1 := key_num b hb i hi
  have h2 := key_end b hb i hi
  have h3 := key_word b hb i hi
  rw [← hk] at h1 h2 h3
  simp only [Bool.and_eq_true, decide_eq_true_eq] at h2
  refine hid fun hn9_340 => ?_
  obtain ⟨⟨a1, a2⟩, a3⟩ := h2
  refine hn9_340 ?_
  clear hn9_340
  have hne : p.k.cps.toList ≠ [] := List.length_pos_iff.mp a1
  refine ⟨h1, ⟨_, _, (List.dropLast_concat_getLast hne).symm, ?_⟩, a3, hne, fun hb => ?_⟩
  · rw [List.getLast?_eq_some_getLast hne] at a2
    exact a2
  · rw [hb, Bool.false_or, List.all_eq_true] at h3
    exact fun c hc => List.contains_iff_mem.mp (h3 c hc)
theorem ok_nodup {n : Nat} {x : HA} (h : OkH n x) (hn : n ≤ 20) : ((exOf x.ps).map (·.1)).Nodup := by
  unfold exOf
  rw [List.map_map]
  have e : ((x.ps.map ((·.1) ∘ fun p : PA => (p.k, oV p.v p.tv))).map numOf) = List.range x.ps.length := by
    rw [List.map_map]
    apply List.ext_getElem?
    intro i
    rw [List.getElem?_map]
    cases hp : x.ps[i]? with
    | none =>
      rw [List.getElem?_eq_none_iff] at hp
      rw [Option.map_none, eq_comm, List.getElem?_eq_none_iff, List.length_range]; exact hp
    | some p =>
      rw [Option.map_some, List.getElem?_range (List.getElem?_eq_some_iff.mp hp).1]
      exact congrArg some (ok_key h hn hp).1
  have h2 : ((x.ps.map ((·.1) ∘ fun p : PA => (p.k, oV p.v p.tv))).map numOf).Nodup := e ▸ List.nodup_range
  exact (List.pairwise_map.mp h2).imp fun h e => h (congrArg numOf e)
theorem ok_mem {n : Nat} {x : HA} (h : OkH n x) {p : PA} (hp : p ∈ x.ps) : ∃ i, x.ps[i]? = some p ∧ OkP n i p := by
  refine hid fun hn9_341 => ?_
  obtain ⟨i, hi, e⟩ := List.mem_iff_getElem.mp hp
  refine hn9_341 ?_
  clear hn9_341
  have : x.ps[i]? = some p := by rw [List.getElem?_eq_getElem hi, e]
  exact ⟨i, this, h.ps i p this⟩
theorem okT_le {n : Nat} {v : Option Str} (h : okT n v) : (v.getD "").length ≤ n := by
  cases v with
  | none => exact Nat.zero_le _
  | some x => exact (h x rfl).1
theorem ok_lens {x : HA} (h : OkH 20 x) : x.k.length ≤ 1000 ∧ (x.v.getD "").length ≤ 1000 ∧ (∀ q ∈ x.ps, q.k.length ≤ 1000 ∧ (q.v.getD "").length ≤ 1000) ∧ x.ps.length ≤ 20 := by
  refine ⟨?_, ?_, fun q hq => ?_, h.num⟩
  · have := (name_word _ h.key).2.2; omega
  · have := okT_le h.txt; omega
  · refine hid fun hn9_342 => ?_
    obtain ⟨i, e, hp⟩ := ok_mem h hq
    refine hn9_342 ?_
    clear hn9_342
    have h1 := (ok_key h (Nat.le_refl _) e).2.2.1
    have h2 := okT_le hp.txt
    omega
theorem badS_quote {l : List Nat} : (l.flatMap qenc).any (badS true) = l.any (badS true) := by
  induction l with
  | nil => rfl
  | cons c l ih =>
    rw [List.flatMap_cons, List.any_append, ih, List.any_cons]
    congr 1
    unfold qenc
    split
    · rename_i e; subst e; decide
    · simp
theorem badT_quote (x : Str) : badT true (sL (quoteL x)) = badT true x := by
  unfold badT
  show (quoteL x).toArray.toList.any _ = _
  rw [List.toList_toArray]
  unfold quoteL
  split
  · rw [List.any_cons, List.any_append, badS_quote]
    have e : badS true 39 = false := by decide
    rw [e]
    simp [e]
  · rfl
theorem badA_H (h : HA) : badA h.k (quoO h.v) h.ps = badH h := by
  unfold badA badH quoO badO
  cases h.v with
  | none => rw [Option.map_none, Bool.or_comm, ← Bool.or_assoc]
  | some x =>
    rw [Option.map_some]
    show (badT true (sL (quoteL x)) || _ || _) = (_ || badT true x || _)
    rw [badT_quote, Bool.or_comm, ← Bool.or_assoc]
end
end
section
-- text Lp3
/-- a row of the table -/
structure TA where
  a : Nat
  x : Str
  y : Str
  tx : Tok
  ty : Tok
  n : Nat
/-- a pair of token and line -/
structure DA where
  a : Nat
  w : Option Str
  tw : Tok
  ln : Int
  tl : Tok
  n : Nat
noncomputable abbrev TA.obj (t : TA) : Obj := { cls := .type "tuple", data := .seq #[.str t.x t.tx, .str t.y t.ty] t.n }
noncomputable abbrev DA.obj (d : DA) : Obj := { cls := .type "tuple", data := .seq #[oV d.w d.tw, .int d.ln d.tl] d.n }
noncomputable def refT (ts : List TA) : List Value := ts.map fun t => .ref t.a
noncomputable def refD (ds : List DA) : List Value := ds.map fun d => .ref d.a
noncomputable def rowsL : List HA → List (Str × Str)
  | [] => []
  | h :: r => if badH h = true then rowsL r else (h.k, hdrT (quoO h.v) h.ps) :: rowsL r
noncomputable def dueL : Int → List HA → List (Option Str × Int)
  | _, [] => []
  | ln, h :: r => if badH h = true then dueL ln r else (tokH h).map (fun x => (some x, ln)) ++ dueL (ln + 1) r
theorem rowsL_snoc (h : HA) : ∀ l : List HA, rowsL (l ++ [h]) = rowsL l ++ (if badH h = true then [] else [(h.k, hdrT (quoO h.v) h.ps)])
  | [] => by show rowsL [h] = _; unfold rowsL; split <;> rfl
  | x :: l => by
    have ih := rowsL_snoc h l
    show (if badH x = true then rowsL (l ++ [h]) else _ :: rowsL (l ++ [h])) = (if badH x = true then rowsL l else _ :: rowsL l) ++ _
    rw [ih]
    split <;> rfl
theorem dueL_snoc (h : HA) : ∀ (l : List HA) (ln : Int), dueL ln (l ++ [h]) = dueL ln l ++ (if badH h = true then [] else (tokH h).map (fun x => (some x, ln + (rowsL l).length)))
  | [], ln => by
    show (if badH h = true then [] else (tokH h).map (fun x => (some x, ln)) ++ []) = [] ++ _
    rw [List.append_nil, List.nil_append]
    show _ = if badH h = true then [] else (tokH h).map (fun x => (some x, ln + 0))
    rw [Int.add_zero]
  | x :: l, ln => by
    show (if badH x = true then dueL ln (l ++ [h]) else _ ++ dueL (ln + 1) (l ++ [h])) = (if badH x = true then dueL ln l else _ ++ dueL (ln + 1) l) ++ (if badH h = true then [] else (tokH h).map (fun y => (some y, ln + ((if badH x = true then rowsL l else (x.k, hdrT (quoO x.v) x.ps) :: rowsL l).length : Nat))))
    rw [dueL_snoc h l, dueL_snoc h l]
    split
    · rfl
    · rw [List.append_assoc, List.length_cons, show ln + 1 + ((rowsL l).length : Int) = ln + (((rowsL l).length + 1 : Nat) : Int) by omega]
/-- what holds between the turns of law -/
structure LK (hs : List HA) (nH HD du : Nat) (i : Nat) (R : List (Addr × Obj)) (ts : List TA) (ds : List DA) (oc : Obj) : Prop where
  off : ∀ p ∈ R, du < p.1
  cell : ∃ t, oc.data = .cell (some (.int (1 + (ts.length : Int)) t))
  head : ∀ p ∈ ((HD, W.listOf (refsH hs).toArray nH) :: ledOf hs : List (Addr × Obj)), p ∈ R
  tup : ∀ t ∈ ts, (t.a, t.obj) ∈ R
  due : ∀ d ∈ ds, (d.a, d.obj) ∈ R
  rows : ts.map (fun t => (t.x, t.y)) = rowsL (hs.take i)
  dues : ds.map (fun d => (d.w, d.ln)) = dueL 1 (hs.take i)
  tl : ts.length ≤ i
  dl : ds.length ≤ 4000 * i
inductive LJ (P : Params) (hs : List HA) (nH HD du hl q dx c : Nat) (kt : Tok) (nd : Nat) (i : Nat) (m : Str → Option Value) (nw : List (Addr × Obj)) : Prop
  | of (u : Str → Option Value) (ts : List TA) (ds : List DA) (R : List (Addr × Obj)) (n1 n2 : Nat) (oc : Obj) (h1 : m = fx [("table", .ref q), ("due", .ref du)] u)
    (h2 : nw = (du, W.listOf (refD ds).toArray n2) :: (hl, W.listOf (refT ts).toArray n1) :: (q, instObj 190 dx) :: (dx, dictOf [en P "_headers" kt (.ref hl)] nd) :: (c, oc) :: R) (h3 : LK hs nH HD du i R ts ds oc) : LJ P hs nH HD du hl q dx c kt nd i m nw
theorem refsH_at {hs : List HA} {i : Nat} {v : Value} (h : (refsH hs)[i]? = some v) : ∃ x, hs[i]? = some x ∧ v = .ref x.a := by
  unfold refsH at h
  rw [List.getElem?_map, Option.map_eq_some_iff] at h
  refine hid fun hn9_343 => ?_
  obtain ⟨p, hp, e⟩ := h
  refine hn9_343 ?_
  clear hn9_343
  exact ⟨p, hp, e.symm⟩
theorem led_in {hs : List HA} {x : HA} (h : x ∈ hs) : ∀ p ∈ x.led, p ∈ ledOf hs := fun p hp => List.mem_flatMap.mpr ⟨x, h, hp⟩
theorem addrOf4 {h₀ h : Heap} {L : Addr} {q q2 q3 : Addr × Obj} {b : Addr} {o : Obj} {r : List (Addr × Obj)} (N : News h₀ L h (q :: q2 :: q3 :: (b, o) :: r)) : ∃ a : Nat, a = b := ⟨_, rfl⟩
noncomputable abbrev DA.led (d : DA) : Addr × Obj := (d.a, d.obj)
theorem refD_app (a b : List DA) : refD (a ++ b) = refD a ++ refD b := List.map_append
theorem refT_snoc (a : List TA) (t : TA) : refT (a ++ [t]) = refT a ++ [Value.ref t.a] := List.map_append
theorem psT_len : ∀ (l : List PA) (b : Bool), (psT b l).length ≤ 2 * l.length
  | [], _ => Nat.le_refl _
  | p :: r, b => by
    have := psT_len r true
    unfold psT
    simp only [List.length_append, List.length_cons]
    split <;> simp <;> omega
theorem tokH_len {h : HA} (hv : (h.v.getD "").length ≤ 1000) (hp : h.ps.length ≤ 20) : (tokH h).length ≤ 4000 := by
  have h1 := psT_len h.ps h.v.isSome
  have h2 : (ownP h.v).length ≤ 3000 := by
    unfold ownP
    split
    · rename_i x e
      rw [e] at hv
      have hv2 : x.length ≤ 1000 := hv
      unfold ownT
      split
      · exact Nat.le_of_ble_eq_true rfl
      · rw [List.length_map]
        have h3 := pieces_len x.cps.toList []
        have e : x.cps.toList.length = x.length := Array.length_toList
        omega
    · exact Nat.zero_le _
  unfold tokH
  simp only [List.length_cons, List.length_append]
  omega
section
variable {hs : List HA} {nH HD du i : Nat} {R : List (Addr × Obj)} {ts : List TA} {ds : List DA} {oc : Obj} {hd : HA}
theorem LK.bad (K : LK hs nH HD du i R ts ds oc) (h : hs[i]? = some hd) (hb : badH hd = true) : LK hs nH HD du (i + 1) R ts ds oc := by
  refine ⟨K.off, K.cell, K.head, K.tup, K.due, ?_, ?_, Nat.le_succ_of_le K.tl, by have := K.dl; omega⟩
  · rw [take_snocL h, rowsL_snoc, if_pos hb, List.append_nil]; exact K.rows
  · rw [take_snocL h, dueL_snoc, if_pos hb, List.append_nil]; exact K.dues
theorem LK.good (K : LK hs nH HD du i R ts ds oc) (h : hs[i]? = some hd) (hb : badH hd = false) {t : TA} {dn : List DA} {oc' : Obj} {tl : Tok} (hv : (hd.v.getD "").length ≤ 1000) (hp : hd.ps.length ≤ 20) (ht : du < t.a) (hd1 : ∀ d ∈ dn, du < d.a) (e1 : t.x = hd.k) (e2 : t.y = hdrT (quoO hd.v) hd.ps)
    (e3 : dn.map (fun d => (d.w, d.ln)) = (tokH hd).map (fun x => (some x, 1 + (ts.length : Int)))) (hc : oc'.data = .cell (some (.int (1 + (ts.length : Int) + 1) tl))) : LK hs nH HD du (i + 1) (dn.map DA.led ++ (t.a, t.obj) :: R) (ts ++ [t]) (ds ++ dn) oc' := by
  have hl : (rowsL (hs.take i)).length = ts.length := by rw [← K.rows, List.length_map]
  have hnb : ¬ badH hd = true := by rw [hb]; exact Bool.false_ne_true
  refine ⟨?_, ⟨tl, ?_⟩, fun p hp => List.mem_append_right _ (.tail _ (K.head p hp)), ?_, ?_, ?_, ?_, ?_, ?_⟩
  · intro p hp
    rcases List.mem_append.mp hp with hp | hp
    · refine hid fun hn9_344 => ?_
      obtain ⟨d, hd2, rfl⟩ := List.mem_map.mp hp
      refine hn9_344 ?_
      clear hn9_344
      exact hd1 d hd2
    · rcases List.mem_cons.mp hp with rfl | hp
      · exact ht
      · exact K.off p hp
  · rw [hc, List.length_append]
    have e : (1 : Int) + ts.length + 1 = 1 + ((ts.length + [t].length : Nat) : Int) := by show _ = 1 + ((ts.length + 1 : Nat) : Int); omega
    rw [e]
  · intro x hx
    rcases List.mem_append.mp hx with hx | hx
    · exact List.mem_append_right _ (.tail _ (K.tup x hx))
    · rw [List.mem_singleton.mp hx]; exact List.mem_append_right _ (.head _)
  · intro x hx
    rcases List.mem_append.mp hx with hx | hx
    · exact List.mem_append_right _ (.tail _ (K.due x hx))
    · exact List.mem_append_left _ (List.mem_map.mpr ⟨x, hx, rfl⟩)
  · rw [take_snocL h, rowsL_snoc, if_neg hnb, List.map_append, K.rows]
    show _ ++ [(t.x, t.y)] = _
    rw [e1, e2]
  · rw [take_snocL h, dueL_snoc, if_neg hnb, List.map_append, K.dues, e3, hl]
  · rw [List.length_append]; have := K.tl; show ts.length + 1 ≤ i + 1; omega
  · have h1 := K.dl
    have h2 : dn.length = (tokH hd).length := by have := congrArg List.length e3; simpa using this
    have h3 := tokH_len hv hp
    rw [List.length_append, h2]
    omega
end
theorem led_plus {h₀ h : Heap} {L : Addr} {news : List (Addr × Obj)} {hd : HA} (N : News h₀ L h news) (hl : ∀ p ∈ hd.led, p ∈ news) : News h₀ L h (hd.led ++ news) := fun p hp => (List.mem_append.mp hp).elim (fun h1 => N p (hl p h1)) (N p)
/-- the pairs made so far -/
inductive DuesAt (nw : List (Addr × Obj)) (zs : List Value) (du I : Nat) (toks : List Str) (ln : Int) : Prop
  | of (dn : List DA) (h1 : zs = refD dn) (h2 : ∀ d ∈ dn, (d.a, d.obj) ∈ nw ∧ du < d.a ∧ I < d.a) (h3 : dn.map (fun d => (d.w, d.ln)) = toks.map (fun x => (some x, ln))) : DuesAt nw zs du I toks ln
theorem DuesAt.snoc {nw : List (Addr × Obj)} {zs : List Value} {du I : Nat} {toks : List Str} {ln : Int} (h : DuesAt nw zs du I toks ln) {a : Nat} {x : Str} {t tl : Tok} {n : Nat} (h1 : du < a) (h2 : I < a) :
    DuesAt ((a, ({ cls := .type "tuple", data := .seq #[.str x t, .int ln tl] n } : Obj)) :: nw) (zs ++ [.ref a]) du I (toks ++ [x]) ln := by
  refine hid fun hn9_345 => ?_
  obtain ⟨dn, rfl, hm, he⟩ := h
  refine hn9_345 ?_
  clear hn9_345
  refine ⟨dn ++ [⟨a, some x, t, ln, tl, n⟩], by rw [refD_app]; rfl, fun d hd => ?_, by rw [List.map_append, List.map_append, he]; rfl⟩
  rcases List.mem_append.mp hd with hd | hd
  · exact ⟨.tail _ (hm d hd).1, (hm d hd).2⟩
  · rw [List.mem_singleton.mp hd]; exact ⟨.head _, h1, h2⟩
theorem strs_at {ys : List Value} {l : List Str} {i : Nat} {v : Value} (h : StrsAre ys l) (e : ys[i]? = some v) : ∃ x t, l[i]? = some x ∧ v = .str x t := by
  induction h generalizing i with
  | nil => simp at e
  | cons x t _ ih =>
    cases i with
    | zero => simp at e; exact ⟨x, t, rfl, e.symm⟩
    | succ j => exact ih (by simpa using e)
theorem off3_cons {p : Addr × Obj} {r : List (Addr × Obj)} {a b c : Nat} (h1 : p.1 ≠ a) (h2 : p.1 ≠ b) (h3 : p.1 ≠ c) (h : OwnOff r [a, b, c]) : OwnOff (p :: r) [a, b, c] := by
  intro x hx y hy
  rcases List.mem_cons.mp hx with rfl | hx
  · rcases List.mem_cons.mp hy with rfl | hy
    · exact h1
    · rcases List.mem_cons.mp hy with rfl | hy
      · exact h2
      · rw [List.mem_singleton.mp hy]; exact h3
  · exact h x hx y hy
theorem off3_of {r : List (Addr × Obj)} {a b c : Nat} (h1 : LCg.Off1 a r) (h2 : LCg.Off1 b r) (h3 : LCg.Off1 c r) : OwnOff r [a, b, c] := by
  intro x hx y hy
  rcases List.mem_cons.mp hy with rfl | hy
  · exact off1Mem h1 x hx
  · rcases List.mem_cons.mp hy with rfl | hy
    · exact off1Mem h2 x hx
    · rw [List.mem_singleton.mp hy]; exact off1Mem h3 x hx
theorem quo_len {v : Option Str} (h : (v.getD "").length ≤ 1000) : ((quoO v).getD "").length ≤ 10000 := by
  cases v with
  | none => exact Nat.zero_le _
  | some x =>
    have hx : x.length ≤ 1000 := h
    show (sL (quoteL x)).length ≤ 10000
    rw [sL_len]
    have e : x.cps.toList.length = x.length := Array.length_toList
    unfold quoteL
    split
    · have := len_flat (f := qenc) (k := 5) (fun d => by unfold qenc; split <;> simp) x.cps.toList
      simp only [List.length_cons, List.length_append, List.length_nil]
      omega
    · omega
end
section
-- text Lt
local macro_rules | `(tactic| k_all) => `(tactic| ((repeat (with_reducible rename (_ ∧ _) => hh9; cases hh9)); first | exact allNe (by assumption) (Nat.le_refl _) | exact allNe (by assumption) (Nat.le_succ _) | exact allNe2 (by assumption) (Nat.le_refl _) | exact off1Mem (by assumption) | assumption | exact allNe2 (by assumption) (by omega) | exact allNe (by assumption) (by omega)))
theorem ltOf {d : Addr} : ∀ {l : List (Addr × Obj)}, (∀ p ∈ l, p.1 < d) → AllLt d l
  | [], _ => trivial
  | q :: r, h => ⟨h q (.head _), ltOf fun p hp => h p (.tail _ hp)⟩
theorem look_use {K : Frag} {a : Addr} {o o' : Obj} {P : Prop} (h : List.lookup a K = some o') (ho : List.lookup a K = some o) (k : o' = o → P) : P := k (Option.some.inj (h.symm.trans ho))
noncomputable def forBody : Option Stmt → List Stmt | some (.For _ _ b _ _) => b | _ => []
section
variable {M : Model} {A : Around} {E : Value → Shared → Prop} {s : Shared} {g : Heap} {L : Addr} {m : Str → Option Value} {l : List (Addr × Obj)} {α : Type}
inductive StageP (s : Shared) (g : Heap) (L : Addr) (m : Str → Option Value) (l : List (Addr × Obj)) (f : Tok → α) (x : α) (s' : Shared) : Prop
  | of (t : Tok) (h' : Heap) (tk' : Nat) (h1 : x = f t) (h2 : s' = { s with heap := h', toks := tk' }) (h3 : Fr g L h' m) (h4 : News g L h' l) : StageP s g L m l f x s'
theorem StageP.mk {f : Tok → α} {t : Tok} {h' : Heap} {tk' : Nat} (F : Fr g L h' m) (N : News g L h' l) : StageP s g L m l f (f t) { s with heap := h', toks := tk' } := ⟨t, h', tk', rfl, rfl, F, N⟩
theorem stage {x : Sem α} {Q : α → Shared → Prop} (f : Tok → α) (F : Fr g L s.heap m) (N : News g L s.heap l) (h : wpAny M A x (StageP s g L m l f) E s) (k : ∀ t h' tk', Fr g L h' m → News g L h' l → Q (f t) { s with heap := h', toks := tk' }) : wpAny M A x Q E s :=
  wpAny_mono h (fun x s' hx => by obtain ⟨t, h', tk', rfl, rfl, F', N'⟩ := hx; exact k t h' tk' F' N') fun _ _ e => e
end
noncomputable def PairsAt (nw : List (Addr × Obj)) (ys : List Value) (qs : List PA) : Prop := ys.length = qs.length ∧ ∀ (i : Nat) p, qs[i]? = some p → ∃ (t : Nat) (u : Tok) (n : Nat), ys[i]? = some (.ref t) ∧ (t, ({ cls := .type "tuple", data := .seq #[.str p.k u, oV p.v p.tv] n } : Obj)) ∈ nw
theorem PairsAt.mono {nw nw' : List (Addr × Obj)} {ys : List Value} {qs : List PA} (h : PairsAt nw ys qs) (hs : ∀ p ∈ nw, p ∈ nw') : PairsAt nw' ys qs := ⟨h.1, fun i p hp => by obtain ⟨t, u, n, a, b⟩ := h.2 i p hp; exact ⟨t, u, n, a, hs _ b⟩⟩
theorem PairsAt.snoc {nw : List (Addr × Obj)} {ys : List Value} {ps : List PA} {j : Nat} {p : PA} {t : Nat} {u : Tok} {n : Nat} (h : PairsAt nw ys (ps.take j)) (hp : ps[j]? = some p) :
    PairsAt ((t, ({ cls := .type "tuple", data := .seq #[.str p.k u, oV p.v p.tv] n } : Obj)) :: nw) (ys ++ [.ref t]) (ps.take (j + 1)) := by
  rw [take_snocL hp]
  refine ⟨by rw [List.length_append, List.length_append, h.1, List.length_singleton, List.length_singleton], fun i x hx => ?_⟩
  rcases Nat.lt_or_ge i (ps.take j).length with hi | hi
  · rw [List.getElem?_append_left hi] at hx
    refine hid fun hn9_346 => ?_
    obtain ⟨t', u', n', e1, e2⟩ := h.2 i x hx
    refine hn9_346 ?_
    clear hn9_346
    exact ⟨t', u', n', by rw [List.getElem?_append_left (by rw [h.1]; exact hi)]; exact e1, .tail _ e2⟩
  · rw [List.getElem?_append_right hi] at hx
    rcases Nat.eq_or_lt_of_le hi with e | e
    · rw [← e, Nat.sub_self] at hx
      refine hid fun hn9_347 => ?_
      cases hx <;> (refine hn9_347 ?_; clear hn9_347)
      exact ⟨t, u, n, by rw [List.getElem?_append_right (by rw [h.1]; exact hi), h.1, ← e, Nat.sub_self]; rfl, .head _⟩
    · rw [List.getElem?_eq_none (by show 1 ≤ i - (ps.take j).length; omega)] at hx
      refine hid fun hn9_348 => ?_
      cases hx <;> (refine hn9_348 ?_; clear hn9_348)
section
variable {prog : Program} {w : World} {A : Around} {E : Value → Shared → Prop} {s : Shared} {g : Heap} {L : Addr} {m : Str → Option Value} {l : List (Addr × Obj)}
theorem dict_stage {D : Addr} {ys : List Value} {n : Nat} {ps : List PA} {Q : Value → Shared → Prop} (hA : A.handled = none) (F : Fr g L s.heap m) (N : News g L s.heap l) (hm : (D, ({ cls := .type "list", data := .seq ys.toArray n } : Obj)) ∈ l) (hP : PairsAt l ys ps) (hn : ((exOf ps).map (·.1)).Nodup) (hsz : ps.length ≤ 1000) (hL : g.NoLimit)
    (h : ∀ (dd : Nat) o h' t', Fr g L h' m → News g L h' ((dd, o) :: l) → (∀ p ∈ l, p.1 < dd) → o.IsDictOf (PySem.strKind prog w) (exOf ps) → (dd == sysModules) = false → Q (.ref dd) { s with heap := h', toks := t' }) :
    wpAny (model prog w) A (call (.type "dict") [.ref D]) Q E s := by
  refine dict_made (ps := exOf ps) hA (N _ hm).1 ⟨?_, fun i p hp => ?_⟩ hn (by unfold exOf; rw [List.length_map]; exact hsz) fun h' t' hk hd => ?_
  · rw [List.size_toArray, hP.1]; unfold exOf; rw [List.length_map]
  · unfold exOf at hp
    rw [List.getElem?_map, Option.map_eq_some_iff] at hp
    refine hid fun hn9_349 => ?_
    obtain ⟨q, hq, rfl⟩ := hp
    refine hn9_349 ?_
    clear hn9_349
    refine hid fun hn9_350 => ?_
    obtain ⟨t, u, n', e1, e2⟩ := hP.2 i q hq
    refine hn9_350 ?_
    clear hn9_350
    exact ⟨t, u, by rw [List.getElem?_toArray]; exact e1, News.isTup N e2⟩
  · refine hid fun hn9_351 => ?_
    obtain ⟨o, ho, hd⟩ := Heap.dictOf_iff.mp hd
    refine hn9_351 ?_
    clear hn9_351
    refine h _ o h' t' (F.keeps hk) (fun p hp => ?_) (fun p hp => Heap.lt_size (N p hp).1) hd (F.notModules (modules_low hL))
    rcases List.mem_cons.mp hp with rfl | hp
    · exact ⟨ho, Ne.symm (Nat.ne_of_lt F.ns.lt), next_is_new F⟩
    · exact ⟨hk _ _ (N p hp).1, (N p hp).2⟩
end
section
variable {w : World} {p : Program} {loose : List Str} {mean : ExcName → Option Value} {mg mb : Str → Option Value}
theorem law_turn {g : Heap} {L fa : Nat} {cdv : Value} {s : Shared} {u : Str → Option Value} {P : Flow → Shared → Prop} {Rr : Result → Shared → Prop}
  {qual : Str} {params : Arguments} {body : List Stmt} {scope : Scope} {dV kV doc pm cdv2 ct oc2 : Value} {an od : Option Addr} {osl : Array (Option Value)}
  {hs : List HA} {hd : HA} {nH HD du hl q dx i I n1 n2 nd : Nat} {kt : Tok} {oc oI : Obj} {R : List (Addr × Obj)} {ts : List TA} {ds : List DA}
  (ho : List.lookup 933 (Mine.mkK.heap_1 w.params) = some ⟨oc2, od, .func (fnOf (Str.ofString "law") qual params body scope dV kV doc pm an cdv2 ct), osl⟩)
  (B : Below callerA g [] g) (X : (Mine.mkK.heap_1 w.params).In g) (T : Top p loose mean mg mb g)
  (hhd : hs[i]? = some hd) (ok : OkH 20 hd) (hi : i < 21) (K8 : LK hs nH HD du i R ts ds oc) (o1 : L + 1 < dx) (o2 : dx < q) (o3 : q < hl) (o4 : hl < du)
  (F : Fr g L s.heap (fun y => if y = Str.ofString "head" then some (.ref hd.a) else fx [(Str.ofString "table", .ref q), (Str.ofString "due", .ref du)] u y))
  (N : News g L s.heap ((I, oI) :: (du, W.listOf (refD ds).toArray n2) :: (hl, W.listOf (refT ts).toArray n1) :: (q, instObj 190 dx) :: (dx, dictOf [en w.params "_headers" kt (.ref hl)] nd) :: (L + 1, oc) :: R))
  (off : ∀ p ∈ (du, W.listOf (refD ds).toArray n2) :: (hl, W.listOf (refT ts).toArray n1) :: (q, instObj 190 dx) :: (dx, dictOf [en w.params "_headers" kt (.ref hl)] nd) :: (L + 1, oc) :: R, p.1 ≠ I)
  (hP : ∀ h' tk' u' R' ts' ds' n1' n2' oc', Fr g L h' (fx [(Str.ofString "table", .ref q), (Str.ofString "due", .ref du)] u') →
    News g L h' ((I, oI) :: (du, W.listOf (refD ds').toArray n2') :: (hl, W.listOf (refT ts').toArray n1') :: (q, instObj 190 dx) :: (dx, dictOf [en w.params "_headers" kt (.ref hl)] nd) :: (L + 1, oc') :: R') →
    (∀ p ∈ R', p.1 ≠ I) → LK hs nH HD du (i + 1) R' ts' ds' oc' → P .next { s with heap := h', toks := tk' }) :
  wpAny (model PySem.Challenge.rw_in0111_01.row.prog w) (callerA.deeper (envOfC qual scope L fa cdv)) (execs (forBody body[3]?) (envOfC qual scope L fa cdv)) P
    (fun e s' => wpAny (model PySem.Challenge.rw_in0111_01.row.prog w) (callerA.deeper (envOfC qual scope L fa cdv)) (leaving (envOfC qual scope L fa cdv) e) (fun _ s'' => Rr (.error e) s'') (fun e' s'' => Rr (.error e') s'') s') s := by
  revert X; k_fill; intro X
  refine' look_use ?h ho ?k
  case h => k_is
  intro e
  clear ho
  refine hid fun hn9_352 => ?_
  cases e <;> (refine hn9_352 ?_; clear hn9_352)
  dsimp only [List.getElem?_cons_succ, List.getElem?_cons_zero, forBody]
  have hmem : hd ∈ hs := List.mem_of_getElem? hhd
  have hled : ∀ p ∈ hd.led, p ∈ R := fun p hp => K8.head p (.tail _ (led_in hmem p hp))
  have d1 : du < hd.a := K8.off _ (hled _ (.head _))
  have d2 : du < hd.b := K8.off _ (hled _ (.tail _ (.head _)))
  have f1 : LCg.Off1 du R := off1_of fun p hp => Nat.ne_of_gt (K8.off p hp)
  have f2 : LCg.Off1 hl R := off1_of fun p hp => Nat.ne_of_gt (Nat.lt_trans o4 (K8.off p hp))
  have f3 : LCg.Off1 q R := off1_of fun p hp => Nat.ne_of_gt (Nat.lt_trans o3 (Nat.lt_trans o4 (K8.off p hp)))
  have f4 : LCg.Off1 dx R := off1_of fun p hp => Nat.ne_of_gt (Nat.lt_trans o2 (Nat.lt_trans o3 (Nat.lt_trans o4 (K8.off p hp))))
  have f5 : LCg.Off1 (L + 1) R := off1_of fun p hp => Nat.ne_of_gt (Nat.lt_trans o1 (Nat.lt_trans o2 (Nat.lt_trans o3 (Nat.lt_trans o4 (K8.off p hp)))))
  replace off := off1_of off
  simp only [LCg.Off1] at off
  refine hid fun hn9_353 => ?_
  obtain ⟨hx, hv, hp, hps⟩ := ok_lens ok
  refine hn9_353 ?_
  clear hn9_353
  have N9 := kst_newsOf (l' := (I, oI) :: (du, W.listOf (refD ds).toArray n2) :: (hl, W.listOf (refT ts).toArray n1) :: (q, instObj 190 dx) :: (dx, dictOf [en w.params "_headers" kt (.ref hl)] nd) :: (L + 1, oc) :: (hd.a, hd.obj) :: (hd.b, hd.obb) :: R) N (by
    intro x hx
    rcases List.mem_cons.mp hx with rfl | hx; · exact .head _
    rcases List.mem_cons.mp hx with rfl | hx; · exact .tail _ (.head _)
    rcases List.mem_cons.mp hx with rfl | hx; · exact .tail _ (.tail _ (.head _))
    rcases List.mem_cons.mp hx with rfl | hx; · exact .tail _ (.tail _ (.tail _ (.head _)))
    rcases List.mem_cons.mp hx with rfl | hx; · exact .tail _ (.tail _ (.tail _ (.tail _ (.head _))))
    rcases List.mem_cons.mp hx with rfl | hx; · exact .tail _ (.tail _ (.tail _ (.tail _ (.tail _ (.head _)))))
    refine .tail _ (.tail _ (.tail _ (.tail _ (.tail _ (.tail _ ?_)))))
    rcases List.mem_cons.mp hx with rfl | hx; · exact hled _ (.head _)
    rcases List.mem_cons.mp hx with rfl | hx; · exact hled _ (.tail _ (.head _))
    exact hx)
  clear N
  have hnd := ok_nodup ok (Nat.le_refl _)
  have hend : ∀ q ∈ hd.ps, ∃ r c, q.k.cps.toList = r ++ [c] ∧ c < 58 := fun q hq => by
    refine hid fun hn9_354 => ?_
    obtain ⟨j, e, _⟩ := ok_mem ok hq
    refine hn9_354 ?_
    clear hn9_354
    exact (ok_key ok (Nat.le_refl _) e).2.1
  have hpled : ∀ p ∈ hd.ps, (p.a, p.obj) ∈ R := fun p hp => hled _ (HA.mem_ps hp)
  refine hid fun hn9_355 => ?_
  obtain ⟨ha, hb, k, v, tA, tB, n, n3, ps⟩ := hd
  refine hn9_355 ?_
  clear hn9_355
  dsimp only [HA.obj, HA.obb] at *
  have hps2 : (refsOf ps).length ≤ 1000 := by unfold refsOf; rw [List.length_map]; omega
  (repeat' (first | (k_unfold; (try dsimp only)) | (k_end; wrow_close) | ((fail_if_success (with_reducible show wpAny _ _ (eval (Expr.IfExp _ _ _ _) _) _ _ _)); (first | (with_reducible (k_here; first | (refine ite_bt ?hq ?_; (case hq => with_reducible assumption)) | (refine ite_bf ?hq ?_; (case hq => with_reducible assumption)) | (refine ite_in_t ?hq ?_; (case hq => with_reducible assumption)) | (refine ite_in_f ?hq ?_; (case hq => with_reducible assumption)) | (refine ite_bt ?hq ?_; (case hq => decide +kernel)) | (refine ite_bf ?hq ?_; (case hq => decide +kernel)))) | walk1)) | (dsimp only; (fail_if_success (with_reducible show wpAny _ _ (eval (Expr.IfExp _ _ _ _) _) _ _ _)); walk1) | (leave1; (try dsimp only)) | fail "no step"))
  refine stage (oV (quoO v)) F N9 ?own1 ?_
  case own1 =>
    rcases v with _ | x
    · dsimp only [oV, quoO, Option.map_none, Option.map_some, Option.getD] at *
      (repeat' (first | (k_unfold; (try dsimp only)) | (k_end; wrow_close) | (first | (with_reducible (k_here; first | (refine ite_bt ?hq ?_; (case hq => with_reducible assumption)) | (refine ite_bf ?hq ?_; (case hq => with_reducible assumption)) | (refine ite_in_t ?hq ?_; (case hq => with_reducible assumption)) | (refine ite_in_f ?hq ?_; (case hq => with_reducible assumption)) | (refine ite_bt ?hq ?_; (case hq => decide +kernel)) | (refine ite_bf ?hq ?_; (case hq => decide +kernel)))) | walk1) | (dsimp only; walk1) | (leave1; (try dsimp only)) | fail "no step"))
      refine' StageP.mk (f := oV none) (t := 0) ?oF1 ?oN1
      case oF1 => k_asm
      case oN1 => k_asm
    · dsimp only [oV, quoO, Option.map_none, Option.map_some, Option.getD] at *
      (repeat' (first | (k_unfold; (try dsimp only)) | (k_end; wrow_close) | ((fail_if_success (with_reducible show wpAny _ _ (call (Value.ref 894) _) _ _ _)); (first | (with_reducible (k_here; first | (refine ite_bt ?hq ?_; (case hq => with_reducible assumption)) | (refine ite_bf ?hq ?_; (case hq => with_reducible assumption)) | (refine ite_in_t ?hq ?_; (case hq => with_reducible assumption)) | (refine ite_in_f ?hq ?_; (case hq => with_reducible assumption)) | (refine ite_bt ?hq ?_; (case hq => decide +kernel)) | (refine ite_bf ?hq ?_; (case hq => decide +kernel)))) | walk1)) | (dsimp only; (fail_if_success (with_reducible show wpAny _ _ (call (Value.ref 894) _) _ _ _)); walk1) | (leave1; (try dsimp only)) | fail "no step"))
      k_dflt (refine' quote_spec ?kB ?kF ?kX ?kN ?kT ?kK ?kd ?ku hv ?_)
      case kF => k_asm
      case kN => k_asm
      case kB => k_asm
      case kX => k_asm
      case kT => k_asm
      case kK => exact rfl
      case kd => ktr_room
      case ku => ktr_units
      intro t9 h9 tk9 F9 N9
      refine' StageP.mk (f := oV (some (sL (quoteL x)))) ?oF2 ?oN2
      case oF2 => k_asm
      case oN2 => k_asm
  intro t1 h1 tk1 F1 N1
  clear F N9
  (repeat' (first | (k_unfold; (try dsimp only)) | (k_end; wrow_close) | ((fail_if_success (with_reducible show wpAny _ _ (eval (Expr.ListComp _ _ _ _) _) _ _ _)); (first | (with_reducible (k_here; first | (refine ite_bt ?hq ?_; (case hq => with_reducible assumption)) | (refine ite_bf ?hq ?_; (case hq => with_reducible assumption)) | (refine ite_in_t ?hq ?_; (case hq => with_reducible assumption)) | (refine ite_in_f ?hq ?_; (case hq => with_reducible assumption)) | (refine ite_bt ?hq ?_; (case hq => decide +kernel)) | (refine ite_bf ?hq ?_; (case hq => decide +kernel)))) | walk1)) | (dsimp only; (fail_if_success (with_reducible show wpAny _ _ (eval (Expr.ListComp _ _ _ _) _) _ _ _)); walk1) | (leave1; (try dsimp only)) | fail "no step"))
  k_dflt (refine LCg.ListComp_U (F₀ := by k_asm) (by with_unfolding_all rfl) (by decide) (by rfl) (by decide) (by rfl) ?_)
  (repeat' (first | (k_unfold; (try dsimp only)) | (k_end; wrow_close) | (first | (with_reducible (k_here; first | (refine ite_bt ?hq ?_; (case hq => with_reducible assumption)) | (refine ite_bf ?hq ?_; (case hq => with_reducible assumption)) | (refine ite_in_t ?hq ?_; (case hq => with_reducible assumption)) | (refine ite_in_f ?hq ?_; (case hq => with_reducible assumption)) | (refine ite_bt ?hq ?_; (case hq => decide +kernel)) | (refine ite_bf ?hq ?_; (case hq => decide +kernel)))) | walk1) | (dsimp only; walk1) | (leave1; (try dsimp only)) | fail "no step"))
  refine hid fun hn9_356 => ?_
  obtain ⟨l1, hl1⟩ : ∃ l1, l1 = (I, oI) :: (du, W.listOf (refD ds).toArray n2) :: (hl, W.listOf (refT ts).toArray n1) :: (q, instObj 190 dx) :: (dx, dictOf [en w.params "_headers" kt (.ref hl)] nd) :: (L + 1, oc) :: (ha, W.listOf #[.str k tA, oV v tB, .ref hb] n) :: (hb, W.listOf (refsOf ps).toArray n3) :: R := ⟨_, rfl⟩
  refine hn9_356 ?_
  clear hn9_356
  (rename News g L _ ((I, oI) :: _) => N2)
  rw [← hl1] at N2
  have hpl : ∀ p ∈ ps, (p.a, p.obj) ∈ l1 := fun p hp => by
    rw [hl1]; exact .tail _ (.tail _ (.tail _ (.tail _ (.tail _ (.tail _ (.tail _ (.tail _ (hpled p hp))))))))
  have hbl : (hb, W.listOf (refsOf ps).toArray n3) ∈ l1 := by
    rw [hl1]; exact .tail _ (.tail _ (.tail _ (.tail _ (.tail _ (.tail _ (.tail _ (.head _)))))))
  refine' LCg.CompSrc.ledger (its := (refsOf ps).toArray) (by rfl) ?F1 N2 hbl ?hz (fun g1 => restU_J (fun j ys nw => (∀ p ∈ l1, p ∈ nw) ∧ PairsAt nw ys (ps.take j)) ?turn ?fin _ 0 [] _ (Nat.zero_add _) ⟨fun _ h => h, rfl, fun i p h => by cases h⟩)
  case F1 => k_asm
  case hz => rw [refsOf_len, sizeLine_eq]; omega
  case turn =>
    rintro i5 ys nw v5 I5 oI5 C oC D m₂ h5 tk5 E5 hlt r9_357_14 hv5 hC hx5 F5 N5 off5 ne5
    refine hid fun hn9_357 => ?_
    obtain ⟨hsub, hy⟩ := r9_357_14
    refine hn9_357 ?_
    clear hn9_357
    refine hid fun hn9_358 => ?_
    obtain ⟨q5, hq5, rfl⟩ := refsOf_get hv5
    refine hn9_358 ?_
    clear hn9_358
    have N6 := news_plus (p := (q5.a, q5.obj)) N5 (.tail _ (.tail _ (.tail _ (hsub _ (hpl _ (List.mem_of_getElem? hq5))))))
    clear N5 hv5
    have hsn := fun (t : Nat) (u : Tok) (n : Nat) => hy.snoc (t := t) (u := u) (n := n) hq5
    refine hid fun hn9_359 => ?_
    obtain ⟨qa, qk, qv, qtk, qtv, qn⟩ := q5
    refine hn9_359 ?_
    clear hn9_359
    dsimp only [PA.obj] at N6 hsn
    replace hsn := Box.mk hsn
    replace hsub := Box.mk hsub
    (repeat' (first | (k_unfold; (try dsimp only)) | (k_end; wrow_close) | (first | (with_reducible (k_here; first | (refine ite_bt ?hq ?_; (case hq => with_reducible assumption)) | (refine ite_bf ?hq ?_; (case hq => with_reducible assumption)) | (refine ite_in_t ?hq ?_; (case hq => with_reducible assumption)) | (refine ite_in_f ?hq ?_; (case hq => with_reducible assumption)) | (refine ite_bt ?hq ?_; (case hq => decide +kernel)) | (refine ite_bf ?hq ?_; (case hq => decide +kernel)))) | walk1) | (dsimp only; walk1) | (leave1; (try dsimp only)) | fail "no step"))
    (rename News g L _ ((_, ({ cls := _, data := Data.seq #[_, _] _ } : Obj)) :: _) => N7)
    (rename _ ∧ _ ∧ _ ∧ _ ∧ AllLt _ nw => l7)
    refine' LCg.CompEnd.intro ?cF N7 ((_, _) :: nw) ?cs ⟨⟨Nat.ne_of_gt l7.2.1, Nat.ne_of_gt l7.2.2.1, Nat.ne_of_gt l7.2.2.2.1⟩, off5⟩ (.inr ⟨_, .tail _ (hsub.out _ hbl), rfl, _, rfl⟩) ⟨fun p hp => .tail _ (hsub.out p hp), hsn.out _ _ _⟩
    case cF => k_asm
    case cs =>
      intro p9 h9
      rcases List.mem_cons.mp h9 with rfl | h9; · exact .tail _ (.tail _ (.head _))
      rcases List.mem_cons.mp h9 with rfl | h9; · exact .tail _ (.tail _ (.tail _ (.head _)))
      rcases List.mem_cons.mp h9 with rfl | h9; · exact .tail _ (.tail _ (.tail _ (.tail _ (.head _))))
      rcases List.mem_cons.mp h9 with rfl | h9; · exact .head _
      exact .tail _ (.tail _ (.tail _ (.tail _ (.tail _ h9))))
  case fin =>
    rintro ys nw r9_360_2 D h5 tk5 F5 N5 o5
    refine hid fun hn9_360 => ?_
    obtain ⟨hsub, hy⟩ := r9_360_2
    refine hn9_360 ?_
    clear hn9_360
    rw [refsOf_len, List.take_length] at hy
    replace hsub := Box.mk hsub
    (repeat' (first | (k_unfold; (try dsimp only)) | (k_end; wrow_close) | ((fail_if_success (with_reducible show wpAny _ _ (call (Value.type "dict") _) _ _ _)); (first | (with_reducible (k_here; first | (refine ite_bt ?hq ?_; (case hq => with_reducible assumption)) | (refine ite_bf ?hq ?_; (case hq => with_reducible assumption)) | (refine ite_in_t ?hq ?_; (case hq => with_reducible assumption)) | (refine ite_in_f ?hq ?_; (case hq => with_reducible assumption)) | (refine ite_bt ?hq ?_; (case hq => decide +kernel)) | (refine ite_bf ?hq ?_; (case hq => decide +kernel)))) | walk1)) | (dsimp only; (fail_if_success (with_reducible show wpAny _ _ (call (Value.type "dict") _) _ _ _)); walk1) | (leave1; (try dsimp only)) | fail "no step"))
    k_dflt (refine' dict_stage (by rfl) ?dF N5 (.head _) (hy.mono fun p hp => .tail _ hp) hnd ?dz ?dL ?_)
    case dF => k_asm
    case dz => omega
    case dL => exact T.nolimit
    intro dd o h6 t6 F6 N6 l6 hD hS
    replace N6 := kst_newsOf (l' := (dd, o) :: l1) N6 (fun p hp => by
      rcases List.mem_cons.mp hp with rfl | hp
      · exact .head _
      · exact .tail _ (.tail _ (hsub.out p hp)))
    have l7 : ∀ p ∈ l1, p.1 < dd := fun p hp => l6 p (.tail _ (hsub.out p hp))
    replace l7 := ltOf l7
    rw [hl1] at N6 l7
    simp only [AllLt] at l7
    clear l6 hsub hy hpl hbl
    (try clear N5)
    (try clear N2)
    (try clear o5)
    clear hl1
    (repeat' (first | (k_unfold; (try dsimp only)) | (k_end; wrow_close) | ((fail_if_success (with_reducible show wpAny _ _ (exec (Stmt.Try _ _ _ _ _) _) _ _ _)); (first | (with_reducible (k_here; first | (refine ite_bt ?hq ?_; (case hq => with_reducible assumption)) | (refine ite_bf ?hq ?_; (case hq => with_reducible assumption)) | (refine ite_in_t ?hq ?_; (case hq => with_reducible assumption)) | (refine ite_in_f ?hq ?_; (case hq => with_reducible assumption)) | (refine ite_bt ?hq ?_; (case hq => decide +kernel)) | (refine ite_bf ?hq ?_; (case hq => decide +kernel)))) | walk1)) | (dsimp only; (fail_if_success (with_reducible show wpAny _ _ (exec (Stmt.Try _ _ _ _ _) _) _ _ _)); walk1) | (leave1; (try dsimp only)) | fail "no step"))
    refine wpAny_Try_except ?_
    k_fold
    cases hbad : badH ⟨ha, hb, k, v, tA, tB, n, n3, ps⟩
    · (repeat' (first | (k_unfold; (try dsimp only)) | (k_end; wrow_close) | ((fail_if_success (with_reducible show wpAny _ _ (eval (Expr.Call _ _ _ _) _) _ _ _)); (first | (with_reducible (k_here; first | (refine ite_bt ?hq ?_; (case hq => with_reducible assumption)) | (refine ite_bf ?hq ?_; (case hq => with_reducible assumption)) | (refine ite_in_t ?hq ?_; (case hq => with_reducible assumption)) | (refine ite_in_f ?hq ?_; (case hq => with_reducible assumption)) | (refine ite_bt ?hq ?_; (case hq => decide +kernel)) | (refine ite_bf ?hq ?_; (case hq => decide +kernel)))) | walk1)) | (dsimp only; (fail_if_success (with_reducible show wpAny _ _ (eval (Expr.Call _ _ _ _) _) _ _ _)); walk1) | (leave1; (try dsimp only)) | fail "no step"))
      refine methodCall_star ?_
      (repeat' (first | (k_unfold; (try dsimp only)) | (k_end; wrow_close) | ((fail_if_success (with_reducible show wpAny _ _ (callWith _ _ _ _ _) _ _ _)); (first | (with_reducible (k_here; first | (refine ite_bt ?hq ?_; (case hq => with_reducible assumption)) | (refine ite_bf ?hq ?_; (case hq => with_reducible assumption)) | (refine ite_in_t ?hq ?_; (case hq => with_reducible assumption)) | (refine ite_in_f ?hq ?_; (case hq => with_reducible assumption)) | (refine ite_bt ?hq ?_; (case hq => decide +kernel)) | (refine ite_bf ?hq ?_; (case hq => decide +kernel)))) | walk1)) | (dsimp only; (fail_if_success (with_reducible show wpAny _ _ (callWith _ _ _ _ _) _ _ _)); walk1) | (leave1; (try dsimp only)) | fail "no step"))
      (rename News g L _ ((_, methodObj _ _) :: _) => Nm)
      refine hid fun hn9_361 => ?_
      obtain ⟨qm, hqm⟩ := addrOf Nm
      refine hn9_361 ?_
      clear hn9_361
      refine hid fun hn9_362 => ?_
      subst hqm <;> (refine hn9_362 ?_; clear hn9_362)
      k_dflt (refine' callWith_star (K := Mine.mkK.heap_1 w.params) (fa := 187) (self := .ref q) (ps := exOf ps) ?hk ?_)
      case hk => k_is
      (repeat' (first | (k_unfold; (try dsimp only)) | (k_end; wrow_close) | (first | (with_reducible (k_here; first | (refine ite_bt ?hq ?_; (case hq => with_reducible assumption)) | (refine ite_bf ?hq ?_; (case hq => with_reducible assumption)) | (refine ite_in_t ?hq ?_; (case hq => with_reducible assumption)) | (refine ite_in_f ?hq ?_; (case hq => with_reducible assumption)) | (refine ite_bt ?hq ?_; (case hq => decide +kernel)) | (refine ite_bf ?hq ?_; (case hq => decide +kernel)))) | walk1) | (dsimp only; walk1) | (leave1; (try dsimp only)) | fail "no step"))
      (rename Fr g L _ _ => Fm)
      refine ⟨dd, hS, Heap.dictOf_iff.mpr ⟨o, (Nm _ (.tail _ (.head _))).1, hD⟩, by unfold exOf; rw [List.length_map]; omega, nameX_L (Fm.push _) (by rfl) ⟨rfl, _, rfl⟩, ?_⟩
      intro h7 tk7 hk7
      have F7 := Fm.keeps hk7
      have N7 := kst_newsOf (l' := (hl, W.listOf (refT ts).toArray n1) :: (dx, dictOf [en w.params "_headers" kt (.ref hl)] nd) :: (q, instObj 190 dx) :: (qm, methodObj (.ref 187) (.ref q)) :: (dd, o) :: (I, oI) :: (du, W.listOf (refD ds).toArray n2) :: (L + 1, oc) :: (ha, W.listOf #[.str k tA, oV v tB, .ref hb] n) :: (hb, W.listOf (refsOf ps).toArray n3) :: R) (Nm.grown hk7) (mc (matN 4 rfl) (mc (matN 6 rfl) (mc (matN 5 rfl) (mc (matN 0 rfl) (mc (matN 1 rfl) (mc (matN 2 rfl) (mc (matN 3 rfl) (mc (matN 7 rfl) (mc (matN 8 rfl) (mc (matN 9 rfl) (mdrop 10 rfl)))))))))))
      refine ⟨X.keeps F7.keep, (Nm.grown hk7 _ (.head _)).1, ?_⟩
      k_dflt (refine' addh_code (n := k) (ov := quoO v) (ps := ps) o2 o3 ?ho ?kB F7 ?kX N7 ?kT ?kK ?kd ?ku hx ?hv9 hp ?hps9 ?hhs9 hnd hend ?good ?badc)
      case ho =>
        (rename dd < qm ∧ _ => q7)
        exact off3_cons (Nat.ne_of_gt q7.2.2.2.1) (Nat.ne_of_gt q7.2.2.2.2.2.1) (Nat.ne_of_gt q7.2.2.2.2.1) (off3_cons (Nat.ne_of_gt l7.2.2.1) (Nat.ne_of_gt l7.2.2.2.2.1) (Nat.ne_of_gt l7.2.2.2.1)
          (off3_cons (Ne.symm off.2.1) (Ne.symm off.2.2.2.1) (Ne.symm off.2.2.1) (off3_cons (Nat.ne_of_gt o4) (Nat.ne_of_gt (Nat.lt_trans o2 (Nat.lt_trans o3 o4))) (Nat.ne_of_gt (Nat.lt_trans o3 o4))
          (off3_cons (Nat.ne_of_lt (Nat.lt_trans o1 (Nat.lt_trans o2 o3))) (Nat.ne_of_lt o1) (Nat.ne_of_lt (Nat.lt_trans o1 o2)) (off3_cons (Nat.ne_of_gt (Nat.lt_trans o4 d1)) (Nat.ne_of_gt (Nat.lt_trans o2 (Nat.lt_trans o3 (Nat.lt_trans o4 d1)))) (Nat.ne_of_gt (Nat.lt_trans o3 (Nat.lt_trans o4 d1)))
          (off3_cons (Nat.ne_of_gt (Nat.lt_trans o4 d2)) (Nat.ne_of_gt (Nat.lt_trans o2 (Nat.lt_trans o3 (Nat.lt_trans o4 d2)))) (Nat.ne_of_gt (Nat.lt_trans o3 (Nat.lt_trans o4 d2))) (off3_of f2 f4 f3)))))))
      case kB => k_asm
      case kX => k_asm
      case kT => k_asm
      case kK => exact rfl
      case kd => ktr_room
      case ku => ktr_units
      case hv9 => exact quo_len hv
      case hps9 => omega
      case hhs9 => unfold refT; rw [List.length_map]; have := K8.tl; omega
      case badc => intro hb9; rw [← badA_H, ] at hbad; exact absurd hb9 (by rw [show badA k (quoO v) ps = false from hbad]; exact Bool.false_ne_true)
      case good =>
        intro _ tt t9 n9 n10 h9 tk9 F9 N9 l9
        replace l9 := ltOf l9
        simp only [AllLt] at l9
        refine hid fun hn9_363 => ?_
        obtain ⟨w0, w1, w2, w3, w4, w5, w6, w7⟩ := l9
        refine hn9_363 ?_
        clear hn9_363
        replace N9 := kst_newsOf (l' := (I, oI) :: (du, W.listOf (refD ds).toArray n2) :: (hl, W.listOf (refT ts ++ [Value.ref tt]).toArray n10) :: (q, instObj 190 dx) :: (dx, dictOf [en w.params "_headers" kt (.ref hl)] nd) :: (L + 1, oc) :: (tt, ({ cls := .type "tuple", data := .seq #[.str k tA, .str (hdrT (quoO v) ps) t9] n9 } : Obj)) :: (ha, W.listOf #[.str k tA, oV v tB, .ref hb] n) :: (hb, W.listOf (refsOf ps).toArray n3) :: R) N9 (mc (matN 6 rfl) (mc (matN 7 rfl) (mc (matN 1 rfl) (mc (matN 3 rfl) (mc (matN 2 rfl) (mc (matN 8 rfl) (mc (matN 0 rfl) (mc (matN 9 rfl) (mc (matN 10 rfl) (mdrop 11 rfl))))))))))
        clear Nm N7 Fm F7 hk7
        (repeat' (first | (k_unfold; (try dsimp only)) | (k_end; wrow_close) | ((fail_if_success (with_reducible show wpAny _ _ (call (Value.ref 918) _) _ _ _)); (first | (with_reducible (k_here; first | (refine ite_bt ?hq ?_; (case hq => with_reducible assumption)) | (refine ite_bf ?hq ?_; (case hq => with_reducible assumption)) | (refine ite_in_t ?hq ?_; (case hq => with_reducible assumption)) | (refine ite_in_f ?hq ?_; (case hq => with_reducible assumption)) | (refine ite_bt ?hq ?_; (case hq => decide +kernel)) | (refine ite_bf ?hq ?_; (case hq => decide +kernel)))) | walk1)) | (dsimp only; (fail_if_success (with_reducible show wpAny _ _ (call (Value.ref 918) _) _ _ _)); walk1) | (leave1; (try dsimp only)) | fail "no step"))
        (rename News g L _ ((I, oI) :: _) => N3)
        k_dflt (refine' bad_spec (hd := ⟨ha, hb, k, v, tA, tB, n, n3, ps⟩) ?kB ?kF ?kX (led_plus N3 fun p9 h9 => .tail _ (.tail _ (.tail _ (.tail _ (.tail _ (.tail _ (.tail _ (.tail _ (.tail _ (hled p9 h9)))))))))) ?kT ?kK ?kd ?ku hx hv hp (Nat.le_trans hps (by omega)) ?_)
        case kF => k_asm
        case kB => k_asm
        case kX => k_asm
        case kT => k_asm
        case kK => exact rfl
        case kd => ktr_room
        case ku => ktr_units
        intro h8 tk8 F8 N8
        replace N8 := kst_newsOf N8 fun p h => List.mem_append_right _ h
        clear N3
        rw [hbad]
        (repeat' (first | (k_unfold; (try dsimp only)) | (k_end; wrow_close) | ((fail_if_success (with_reducible show wpAny _ _ (eval (Expr.ListComp _ _ _ _) _) _ _ _)); (first | (with_reducible (k_here; first | (refine ite_bt ?hq ?_; (case hq => with_reducible assumption)) | (refine ite_bf ?hq ?_; (case hq => with_reducible assumption)) | (refine ite_in_t ?hq ?_; (case hq => with_reducible assumption)) | (refine ite_in_f ?hq ?_; (case hq => with_reducible assumption)) | (refine ite_bt ?hq ?_; (case hq => decide +kernel)) | (refine ite_bf ?hq ?_; (case hq => decide +kernel)))) | walk1)) | (dsimp only; (fail_if_success (with_reducible show wpAny _ _ (eval (Expr.ListComp _ _ _ _) _) _ _ _)); walk1) | (leave1; (try dsimp only)) | fail "no step"))
        k_dflt (refine LCg.ListComp_U (F₀ := by k_asm) (by with_unfolding_all rfl) (by decide) (by rfl) (by decide) (by rfl) ?_)
        (repeat' (first | (k_unfold; (try dsimp only)) | (k_end; wrow_close) | ((fail_if_success (with_reducible show wpAny _ _ (call (Value.ref 928) _) _ _ _)); (first | (with_reducible (k_here; first | (refine ite_bt ?hq ?_; (case hq => with_reducible assumption)) | (refine ite_bf ?hq ?_; (case hq => with_reducible assumption)) | (refine ite_in_t ?hq ?_; (case hq => with_reducible assumption)) | (refine ite_in_f ?hq ?_; (case hq => with_reducible assumption)) | (refine ite_bt ?hq ?_; (case hq => decide +kernel)) | (refine ite_bf ?hq ?_; (case hq => decide +kernel)))) | walk1)) | (dsimp only; (fail_if_success (with_reducible show wpAny _ _ (call (Value.ref 928) _) _ _ _)); walk1) | (leave1; (try dsimp only)) | fail "no step"))
        (rename News g L _ ((I, oI) :: _) => N3)
        k_dflt (refine' tokens_spec (hd := ⟨ha, hb, k, v, tA, tB, n, n3, ps⟩) ?tB ?tF ?tX (led_plus N3 fun p9 h9 => .tail _ (.tail _ (.tail _ (.tail _ (.tail _ (.tail _ (.tail _ (.tail _ (.tail _ (hled p9 h9)))))))))) ?tT ?tK ?td ?tu hx hv hp (Nat.le_trans hps (by omega)) ?_)
        case tF => k_asm
        case tB => k_asm
        case tX => k_asm
        case tT => k_asm
        case tK => exact rfl
        case td => ktr_room
        case tu => ktr_units
        intro D4 ys4 n4 h10 tk10 hy4 F10 N10 ne4
        refine hid fun hn9_364 => ?_
        obtain ⟨tl8, hcell⟩ := K8.cell
        refine hn9_364 ?_
        clear hn9_364
        refine hid fun hn9_365 => ?_
        obtain ⟨l4, hl4⟩ : ∃ l4, l4 = (D4, W.listOf ys4.toArray n4) :: (I, oI) :: (du, W.listOf (refD ds).toArray n2) :: (hl, W.listOf (refT ts ++ [Value.ref tt]).toArray n10) :: (q, instObj 190 dx) :: (dx, dictOf [en w.params "_headers" kt (.ref hl)] nd) :: (L + 1, oc) :: (tt, ({ cls := .type "tuple", data := .seq #[.str k tA, .str (hdrT (quoO v) ps) t9] n9 } : Obj)) :: (ha, W.listOf #[.str k tA, oV v tB, .ref hb] n) :: (hb, W.listOf (refsOf ps).toArray n3) :: R := ⟨_, rfl⟩
        refine hn9_365 ?_
        clear hn9_365
        have N4 : News g L h10 l4 := kst_newsOf N10 (by
          rw [hl4]
          intro p9 h9
          rcases List.mem_cons.mp h9 with rfl | h9
          · exact .head _
          · exact .tail _ (List.mem_append_right _ h9))
        have m1 : (L + 1, oc) ∈ l4 := by rw [hl4]; exact .tail _ (.tail _ (.tail _ (.tail _ (.tail _ (.tail _ (.head _))))))
        have m2 : (D4, W.listOf ys4.toArray n4) ∈ l4 := by rw [hl4]; exact .head _
        have m3 : (du, W.listOf (refD ds).toArray n2) ∈ l4 := by rw [hl4]; exact .tail _ (.tail _ (.head _))
        have m4 : (I, oI) ∈ l4 := by rw [hl4]; exact .tail _ (.head _)
        have hyl : ys4.length ≤ 4000 := by rw [hy4.len_eq]; exact tokH_len hv hps
        (try clear N10)
        (try clear N3)
        clear ne4
        refine' LCg.CompSrc.ledger (its := ys4.toArray) (by rfl) F10 N4 m2 ?cz (fun g1 => restU_J (fun j zs nw => (∀ p ∈ l4, p ∈ nw) ∧ DuesAt nw zs du I ((tokH ⟨ha, hb, k, v, tA, tB, n, n3, ps⟩).take j) (1 + (ts.length : Int))) ?turn2 ?fin2 _ 0 [] _ (Nat.zero_add _) ⟨fun _ h => h, [], rfl, fun d h => (nomatch h), rfl⟩)
        case cz => rw [List.size_toArray, sizeLine_eq]; omega
        case turn2 =>
          rintro i5 zs nw v5 I5 oI5 C oC D m₂ h5 tk5 E5 hlt r9_366_14 hv5 hC hx5 F5 N5 off5 ne5
          refine hid fun hn9_366 => ?_
          obtain ⟨hsub, hy⟩ := r9_366_14
          refine hn9_366 ?_
          clear hn9_366
          refine hid fun hn9_367 => ?_
          obtain ⟨x5, t5, hx6, rfl⟩ := strs_at hy4 (by simpa using hv5)
          refine hn9_367 ?_
          clear hn9_367
          have N6 := news_plus (p := (L + 1, oc)) N5 (.tail _ (.tail _ (.tail _ (hsub _ m1))))
          clear N5 hv5
          rw [take_snocL hx6]
          replace hsub := Box.mk hsub
          replace hy := Box.mk hy
          (repeat' (first | (k_unfold; (try dsimp only)) | (k_end; wrow_close) | (first | (with_reducible (k_here; first | (refine ite_bt ?hq ?_; (case hq => with_reducible assumption)) | (refine ite_bf ?hq ?_; (case hq => with_reducible assumption)) | (refine ite_in_t ?hq ?_; (case hq => with_reducible assumption)) | (refine ite_in_f ?hq ?_; (case hq => with_reducible assumption)) | (refine ite_bt ?hq ?_; (case hq => decide +kernel)) | (refine ite_bf ?hq ?_; (case hq => decide +kernel)))) | walk1) | (dsimp only; walk1) | (leave1; (try dsimp only)) | fail "no step"))
          (rename News g L _ ((_, ({ cls := _, data := Data.seq #[_, _] _ } : Obj)) :: _) => N7)
          (rename _ ∧ _ ∧ _ ∧ _ ∧ AllLt _ nw => l8)
          have l9 := ltAll l8.2.2.2.2
          refine' LCg.CompEnd.intro ?cF N7 ((_, _) :: nw) ?cs ⟨⟨Nat.ne_of_gt l8.2.1, Nat.ne_of_gt l8.2.2.1, Nat.ne_of_gt l8.2.2.2.1⟩, off5⟩ (.inr ⟨_, .tail _ (hsub.out _ m2), rfl, _, rfl⟩) ⟨fun p hp => .tail _ (hsub.out p hp), hy.out.snoc (l9 _ (hsub.out _ m3)) (l9 _ (hsub.out _ m4))⟩
          case cF => k_asm
          case cs => exact (mc (matN 2 rfl) (mc (matN 3 rfl) (mc (matN 4 rfl) (mc (matN 0 rfl) (mdrop 5 rfl)))))
        case fin2 =>
          rintro zs nw r9_368_2 D5 h5 tk5 F5 N5 o5
          refine hid fun hn9_368 => ?_
          obtain ⟨hsub, dn, rfl, hdn, hde⟩ := r9_368_2
          refine hn9_368 ?_
          clear hn9_368
          rw [List.size_toArray, hy4.len_eq, List.take_length] at hde
          refine hid fun hn9_369 => ?_
          obtain ⟨R9, hR9⟩ : ∃ R9, R9 = dn.map DA.led ++ (tt, ({ cls := .type "tuple", data := .seq #[.str k tA, .str (hdrT (quoO v) ps) t9] n9 } : Obj)) :: R := ⟨_, rfl⟩
          refine hn9_369 ?_
          clear hn9_369
          have sub9 : ∀ p ∈ R9, p ∈ nw := by
            rw [hR9]
            intro p hp
            rcases List.mem_append.mp hp with hp | hp
            · refine hid fun hn9_370 => ?_
              obtain ⟨d, hd2, rfl⟩ := List.mem_map.mp hp
              refine hn9_370 ?_
              clear hn9_370
              exact (hdn d hd2).1
            · refine hsub p ?_
              rw [hl4]
              refine .tail _ (.tail _ (.tail _ (.tail _ (.tail _ (.tail _ (.tail _ ?_))))))
              rcases List.mem_cons.mp hp with rfl | hp
              · exact .head _
              · exact .tail _ (.tail _ (.tail _ hp))
          have hdu9 : ∀ p ∈ R9, du < p.1 ∧ p.1 ≠ I := by
            rw [hR9]
            intro p hp
            rcases List.mem_append.mp hp with hp | hp
            · refine hid fun hn9_371 => ?_
              obtain ⟨d, hd2, rfl⟩ := List.mem_map.mp hp
              refine hn9_371 ?_
              clear hn9_371
              exact ⟨(hdn d hd2).2.1, Nat.ne_of_gt (hdn d hd2).2.2⟩
            · rcases List.mem_cons.mp hp with rfl | hp
              · exact ⟨w3, Nat.ne_of_gt w2⟩
              · exact ⟨K8.off p hp, off1Mem off.2.2.2.2.2 p hp⟩
          have N11 := kst_newsOf (l' := (I, oI) :: (du, W.listOf (refD ds).toArray n2) :: (hl, W.listOf (refT ts ++ [Value.ref tt]).toArray n10) :: (q, instObj 190 dx) :: (dx, dictOf [en w.params "_headers" kt (.ref hl)] nd) :: (L + 1, oc) :: (D5, W.listOf (refD dn).toArray (refD dn).length) :: R9) N5 (by
            have s0 : ∀ p ∈ l4, p ∈ (D5, LCg.lst (refD dn)) :: nw := fun p hp => .tail _ (hsub p hp)
            rw [hl4] at s0
            intro p9 h9
            rcases List.mem_cons.mp h9 with rfl | h9; · exact s0 _ (.tail _ (.head _))
            rcases List.mem_cons.mp h9 with rfl | h9; · exact s0 _ (.tail _ (.tail _ (.head _)))
            rcases List.mem_cons.mp h9 with rfl | h9; · exact s0 _ (.tail _ (.tail _ (.tail _ (.head _))))
            rcases List.mem_cons.mp h9 with rfl | h9; · exact s0 _ (.tail _ (.tail _ (.tail _ (.tail _ (.head _)))))
            rcases List.mem_cons.mp h9 with rfl | h9; · exact s0 _ (.tail _ (.tail _ (.tail _ (.tail _ (.tail _ (.head _))))))
            rcases List.mem_cons.mp h9 with rfl | h9; · exact s0 _ (.tail _ (.tail _ (.tail _ (.tail _ (.tail _ (.tail _ (.head _)))))))
            rcases List.mem_cons.mp h9 with rfl | h9; · exact .head _
            exact .tail _ (sub9 p9 h9))
          have x1 : D5 ≠ du := Ne.symm (off1Mem o5 _ (hsub _ m3))
          have x2 : D5 ≠ L + 1 := Ne.symm (off1Mem o5 _ (hsub _ m1))
          have hK := fun (oc' : Obj) (tl : Tok) (hc : oc'.data = .cell (some (.int (1 + (ts.length : Int) + 1) tl))) => K8.good hhd hbad (t := ⟨tt, k, hdrT (quoO v) ps, tA, t9, n9⟩) (dn := dn) hv hps w3 (fun d hd => (hdn d hd).2.1) rfl rfl hde hc
          (try dsimp only at hK)
          rw [← hR9] at hK
          have y1 : LCg.Off1 du R9 := off1_of fun p hp => Nat.ne_of_gt (hdu9 p hp).1
          have y2 : LCg.Off1 (L + 1) R9 := off1_of fun p hp => Nat.ne_of_gt (Nat.lt_trans o1 (Nat.lt_trans o2 (Nat.lt_trans o3 (Nat.lt_trans o4 (hdu9 p hp).1))))
          have z1 : (refD ds).length ≤ 100000 := by unfold refD; rw [List.length_map]; have := K8.dl; omega
          have z2 : (refD dn).length ≤ 4000 := by
            have e9 := congrArg List.length hde
            rw [List.length_map, List.length_map] at e9
            unfold refD; rw [List.length_map, e9]; exact tokH_len hv hps
          have i1 : I ≠ du := Ne.symm off.1
          have i2 : I ≠ L + 1 := Ne.symm off.2.2.2.2.1
          have a1 : hl ≠ du := Nat.ne_of_lt o4
          have a2 : q ≠ du := Nat.ne_of_lt (Nat.lt_trans o3 o4)
          have a3 : dx ≠ du := Nat.ne_of_lt (Nat.lt_trans o2 (Nat.lt_trans o3 o4))
          have a4 : L + 1 ≠ du := Nat.ne_of_lt (Nat.lt_trans o1 (Nat.lt_trans o2 (Nat.lt_trans o3 o4)))
          have a5 : dx ≠ L + 1 := Nat.ne_of_gt o1
          have a6 : q ≠ L + 1 := Nat.ne_of_gt (Nat.lt_trans o1 o2)
          have a7 : hl ≠ L + 1 := Nat.ne_of_gt (Nat.lt_trans o1 (Nat.lt_trans o2 o3))
          have a8 : du ≠ L + 1 := Nat.ne_of_gt (Nat.lt_trans o1 (Nat.lt_trans o2 (Nat.lt_trans o3 o4)))
          clear m1 m2 m3 m4 N5 o5 hsub sub9
          replace hK := Box.mk hK
          replace hdu9 := Box.mk hdu9
          replace hdn := Box.mk hdn
          clear hR9 hl4 off hy4 hde
          (repeat' (first | (k_unfold; (try dsimp only)) | (k_end; wrow_close) | ((fail_if_success (with_reducible show wpAny _ _ (call (Value.builtin _) [Value.ref _, Value.ref _]) _ _ _)); (first | (with_reducible (k_here; first | (refine ite_bt ?hq ?_; (case hq => with_reducible assumption)) | (refine ite_bf ?hq ?_; (case hq => with_reducible assumption)) | (refine ite_in_t ?hq ?_; (case hq => with_reducible assumption)) | (refine ite_in_f ?hq ?_; (case hq => with_reducible assumption)) | (refine ite_bt ?hq ?_; (case hq => decide +kernel)) | (refine ite_bf ?hq ?_; (case hq => decide +kernel)))) | walk1)) | (dsimp only; (fail_if_success (with_reducible show wpAny _ _ (call (Value.builtin _) [Value.ref _, Value.ref _]) _ _ _)); walk1) | (leave1; (try dsimp only)) | fail "no step"))
          k_dflt (refine' ext_any ?xF N11 (.tail _ (.tail _ (.tail _ (.tail _ (.tail _ (.tail _ (.head _))))))) ?xU ?xz ?_)
          case xF => k_asm
          case xU => exact .tail i1 (.head (List.forall_mem_cons.mpr ⟨a1, List.forall_mem_cons.mpr ⟨a2, List.forall_mem_cons.mpr ⟨a3, List.forall_mem_cons.mpr ⟨a4, List.forall_mem_cons.mpr ⟨x1, off1Mem y1⟩⟩⟩⟩⟩))
          case xz => omega
          intro h12 n12 F12 N12
          (try dsimp only at N12)
          rw [← refD_app] at N12
          (repeat' (first | (k_unfold; (try dsimp only)) | (k_end; wrow_close) | ((fail_if_success (with_reducible show wpAny _ _ (loadName _ _) _ _ _)); (first | (with_reducible (k_here; first | (refine ite_bt ?hq ?_; (case hq => with_reducible assumption)) | (refine ite_bf ?hq ?_; (case hq => with_reducible assumption)) | (refine ite_in_t ?hq ?_; (case hq => with_reducible assumption)) | (refine ite_in_f ?hq ?_; (case hq => with_reducible assumption)) | (refine ite_bt ?hq ?_; (case hq => decide +kernel)) | (refine ite_bf ?hq ?_; (case hq => decide +kernel)))) | walk1)) | (dsimp only; (fail_if_success (with_reducible show wpAny _ _ (loadName _ _) _ _ _)); walk1) | (leave1; (try dsimp only)) | fail "no step"))
          (rename News g L _ ((I, oI) :: _) => N13)
          refine wpAny_loadName_cell (by rfl) (by rfl) (by rfl) ⟨_, News.get N13 (.tail _ (.tail _ (.tail _ (.tail _ (.tail _ (.head _)))))), hcell⟩ ?_
          (repeat' (first | (k_unfold; (try dsimp only)) | (k_end; wrow_close) | (first | (with_reducible (k_here; first | (refine ite_bt ?hq ?_; (case hq => with_reducible assumption)) | (refine ite_bf ?hq ?_; (case hq => with_reducible assumption)) | (refine ite_in_t ?hq ?_; (case hq => with_reducible assumption)) | (refine ite_in_f ?hq ?_; (case hq => with_reducible assumption)) | (refine ite_bt ?hq ?_; (case hq => decide +kernel)) | (refine ite_bf ?hq ?_; (case hq => decide +kernel)))) | walk1) | (dsimp only; walk1) | (leave1; (try dsimp only)) | fail "no step"))
          (rename News g L _ ((I, oI) :: _) => N14)
          rw [show refT ts ++ [Value.ref tt] = refT (ts ++ [⟨tt, k, hdrT (quoO v) ps, tA, t9, n9⟩]) from (refT_snoc ts ⟨tt, k, hdrT (quoO v) ps, tA, t9, n9⟩).symm] at N14
          refine' hP _ _ _ R9 (ts ++ [⟨tt, k, hdrT (quoO v) ps, tA, t9, n9⟩]) (ds ++ dn) _ _ _ (fr_fx ?eF ?eE) (kst_newsOf N14 (mc (matN 0 rfl) (mc (matN 1 rfl) (mc (matN 2 rfl) (mc (matN 3 rfl) (mc (matN 4 rfl) (mc (matN 5 rfl) (mdrop 7 rfl)))))))) (fun p hp => (hdu9.out p hp).2) (hK.out _ _ ?eD)
          case eF => k_asm
          case eE => exact List.forall_mem_cons.mpr ⟨rfl, List.forall_mem_cons.mpr ⟨rfl, List.forall_mem_nil _⟩⟩
          case eD => assumption
    · (repeat' (first | (k_unfold; (try dsimp only)) | (k_end; wrow_close) | ((fail_if_success (with_reducible show wpAny _ _ (eval (Expr.Call _ _ _ _) _) _ _ _)); (first | (with_reducible (k_here; first | (refine ite_bt ?hq ?_; (case hq => with_reducible assumption)) | (refine ite_bf ?hq ?_; (case hq => with_reducible assumption)) | (refine ite_in_t ?hq ?_; (case hq => with_reducible assumption)) | (refine ite_in_f ?hq ?_; (case hq => with_reducible assumption)) | (refine ite_bt ?hq ?_; (case hq => decide +kernel)) | (refine ite_bf ?hq ?_; (case hq => decide +kernel)))) | walk1)) | (dsimp only; (fail_if_success (with_reducible show wpAny _ _ (eval (Expr.Call _ _ _ _) _) _ _ _)); walk1) | (leave1; (try dsimp only)) | fail "no step"))
      refine methodCall_star ?_
      (repeat' (first | (k_unfold; (try dsimp only)) | (k_end; wrow_close) | ((fail_if_success (with_reducible show wpAny _ _ (callWith _ _ _ _ _) _ _ _)); (first | (with_reducible (k_here; first | (refine ite_bt ?hq ?_; (case hq => with_reducible assumption)) | (refine ite_bf ?hq ?_; (case hq => with_reducible assumption)) | (refine ite_in_t ?hq ?_; (case hq => with_reducible assumption)) | (refine ite_in_f ?hq ?_; (case hq => with_reducible assumption)) | (refine ite_bt ?hq ?_; (case hq => decide +kernel)) | (refine ite_bf ?hq ?_; (case hq => decide +kernel)))) | walk1)) | (dsimp only; (fail_if_success (with_reducible show wpAny _ _ (callWith _ _ _ _ _) _ _ _)); walk1) | (leave1; (try dsimp only)) | fail "no step"))
      (rename News g L _ ((_, methodObj _ _) :: _) => Nm)
      refine hid fun hn9_372 => ?_
      obtain ⟨qm, hqm⟩ := addrOf Nm
      refine hn9_372 ?_
      clear hn9_372
      refine hid fun hn9_373 => ?_
      subst hqm <;> (refine hn9_373 ?_; clear hn9_373)
      k_dflt (refine' callWith_star (K := Mine.mkK.heap_1 w.params) (fa := 187) (self := .ref q) (ps := exOf ps) ?hkB ?_)
      case hkB => k_is
      (repeat' (first | (k_unfold; (try dsimp only)) | (k_end; wrow_close) | (first | (with_reducible (k_here; first | (refine ite_bt ?hq ?_; (case hq => with_reducible assumption)) | (refine ite_bf ?hq ?_; (case hq => with_reducible assumption)) | (refine ite_in_t ?hq ?_; (case hq => with_reducible assumption)) | (refine ite_in_f ?hq ?_; (case hq => with_reducible assumption)) | (refine ite_bt ?hq ?_; (case hq => decide +kernel)) | (refine ite_bf ?hq ?_; (case hq => decide +kernel)))) | walk1) | (dsimp only; walk1) | (leave1; (try dsimp only)) | fail "no step"))
      (rename Fr g L _ _ => Fm)
      refine ⟨dd, hS, Heap.dictOf_iff.mpr ⟨o, (Nm _ (.tail _ (.head _))).1, hD⟩, by unfold exOf; rw [List.length_map]; omega, nameX_L (Fm.push _) (by rfl) ⟨rfl, _, rfl⟩, ?_⟩
      intro h7 tk7 hk7
      have F7 := Fm.keeps hk7
      have N7 := kst_newsOf (l' := (hl, W.listOf (refT ts).toArray n1) :: (dx, dictOf [en w.params "_headers" kt (.ref hl)] nd) :: (q, instObj 190 dx) :: (qm, methodObj (.ref 187) (.ref q)) :: (dd, o) :: (I, oI) :: (du, W.listOf (refD ds).toArray n2) :: (L + 1, oc) :: (ha, W.listOf #[.str k tA, oV v tB, .ref hb] n) :: (hb, W.listOf (refsOf ps).toArray n3) :: R) (Nm.grown hk7) (mc (matN 4 rfl) (mc (matN 6 rfl) (mc (matN 5 rfl) (mc (matN 0 rfl) (mc (matN 1 rfl) (mc (matN 2 rfl) (mc (matN 3 rfl) (mc (matN 7 rfl) (mc (matN 8 rfl) (mc (matN 9 rfl) (mdrop 10 rfl)))))))))))
      refine ⟨X.keeps F7.keep, (Nm.grown hk7 _ (.head _)).1, ?_⟩
      k_dflt (refine' addh_code (n := k) (ov := quoO v) (ps := ps) o2 o3 ?hoB ?kBB F7 ?kXB N7 ?kTB ?kKB ?kdB ?kuB hx ?hv9B hp ?hps9B ?hhs9B hnd hend ?goodB ?badcB)
      case hoB =>
        (rename dd < qm ∧ _ => q7)
        exact off3_cons (Nat.ne_of_gt q7.2.2.2.1) (Nat.ne_of_gt q7.2.2.2.2.2.1) (Nat.ne_of_gt q7.2.2.2.2.1) (off3_cons (Nat.ne_of_gt l7.2.2.1) (Nat.ne_of_gt l7.2.2.2.2.1) (Nat.ne_of_gt l7.2.2.2.1)
          (off3_cons (Ne.symm off.2.1) (Ne.symm off.2.2.2.1) (Ne.symm off.2.2.1) (off3_cons (Nat.ne_of_gt o4) (Nat.ne_of_gt (Nat.lt_trans o2 (Nat.lt_trans o3 o4))) (Nat.ne_of_gt (Nat.lt_trans o3 o4))
          (off3_cons (Nat.ne_of_lt (Nat.lt_trans o1 (Nat.lt_trans o2 o3))) (Nat.ne_of_lt o1) (Nat.ne_of_lt (Nat.lt_trans o1 o2)) (off3_cons (Nat.ne_of_gt (Nat.lt_trans o4 d1)) (Nat.ne_of_gt (Nat.lt_trans o2 (Nat.lt_trans o3 (Nat.lt_trans o4 d1)))) (Nat.ne_of_gt (Nat.lt_trans o3 (Nat.lt_trans o4 d1)))
          (off3_cons (Nat.ne_of_gt (Nat.lt_trans o4 d2)) (Nat.ne_of_gt (Nat.lt_trans o2 (Nat.lt_trans o3 (Nat.lt_trans o4 d2)))) (Nat.ne_of_gt (Nat.lt_trans o3 (Nat.lt_trans o4 d2))) (off3_of f2 f4 f3)))))))
      case kBB => k_asm
      case kXB => k_asm
      case kTB => k_asm
      case kKB => exact rfl
      case kdB => ktr_room
      case kuB => ktr_units
      case hv9B => exact quo_len hv
      case hps9B => omega
      case hhs9B => unfold refT; rw [List.length_map]; have := K8.tl; omega
      case goodB => intro hb9; rw [← badA_H] at hbad; exact absurd (show badA k (quoO v) ps = true from hbad) (by rw [hb9]; exact Bool.false_ne_true)
      case badcB =>
        intro _ e9 t9 u9 h9 tk9 g9 RK F9 U9
        clear Nm N7 Fm F7 hk7
        k_unfold
        dsimp only
        k_dflt (refine' caught_XB (K := Mine.mkK.heap_1 w.params) B F9 U9 RK ?cT X PyProof.Rows.Boot.«ValueError» ?cno PySem.F.isExc_ValueError PySem.F.notTuple_ValueError ?csub ?_)
        case cT => k_asm
        case cno => k_is
        case csub => rw [isSubtype_type]; kernel_rfl
        intro h10 nw10 tk10 F10 N10 G10 N11
        (repeat' (first | (k_unfold; (try dsimp only)) | (k_end; wrow_close) | ((fail_if_success (with_reducible show wpAny _ _ (call (Value.type "str") _) _ _ _)); (first | (with_reducible (k_here; first | (refine ite_bt ?hq ?_; (case hq => with_reducible assumption)) | (refine ite_bf ?hq ?_; (case hq => with_reducible assumption)) | (refine ite_in_t ?hq ?_; (case hq => with_reducible assumption)) | (refine ite_in_f ?hq ?_; (case hq => with_reducible assumption)) | (refine ite_bt ?hq ?_; (case hq => decide +kernel)) | (refine ite_bf ?hq ?_; (case hq => decide +kernel)))) | walk1)) | (dsimp only; (fail_if_success (with_reducible show wpAny _ _ (call (Value.type "str") _) _ _ _)); walk1) | (leave1; (try dsimp only)) | fail "no step"))
        k_dflt (refine' str_got_one PySem.F.excStr_ValueError N10 G10 ?cu ?_)
        case cu => ktr_units
        replace N11 := kst_newsOf (l' := (I, oI) :: (du, W.listOf (refD ds).toArray n2) :: (hl, W.listOf (refT ts).toArray n1) :: (q, instObj 190 dx) :: (dx, dictOf [en w.params "_headers" kt (.ref hl)] nd) :: (L + 1, oc) :: (ha, W.listOf #[.str k tA, oV v tB, .ref hb] n) :: (hb, W.listOf (refsOf ps).toArray n3) :: R) N11 (mc (matN 5 rfl) (mc (matN 6 rfl) (mc (matN 0 rfl) (mc (matN 2 rfl) (mc (matN 1 rfl) (mc (matN 7 rfl) (mc (matN 8 rfl) (mc (matN 9 rfl) (mdrop 10 rfl)))))))))
        clear G10 N10
        (repeat' (first | (k_unfold; (try dsimp only)) | (k_end; wrow_close) | (first | (with_reducible (k_here; first | (refine ite_bt ?hq ?_; (case hq => with_reducible assumption)) | (refine ite_bf ?hq ?_; (case hq => with_reducible assumption)) | (refine ite_in_t ?hq ?_; (case hq => with_reducible assumption)) | (refine ite_in_f ?hq ?_; (case hq => with_reducible assumption)) | (refine ite_bt ?hq ?_; (case hq => decide +kernel)) | (refine ite_bf ?hq ?_; (case hq => decide +kernel)))) | walk1) | (dsimp only; walk1) | (leave1; (try dsimp only)) | fail "no step"))
        refine' name_goesX ?gF ?gN ?_
        case gF => k_asm
        case gN => k_asm
        intro h12 v12 F12 N12
        (repeat' (first | (k_unfold; (try dsimp only)) | (k_end; wrow_close) | ((fail_if_success (with_reducible show wpAny _ _ (call (Value.ref 918) _) _ _ _)); (first | (with_reducible (k_here; first | (refine ite_bt ?hq ?_; (case hq => with_reducible assumption)) | (refine ite_bf ?hq ?_; (case hq => with_reducible assumption)) | (refine ite_in_t ?hq ?_; (case hq => with_reducible assumption)) | (refine ite_in_f ?hq ?_; (case hq => with_reducible assumption)) | (refine ite_bt ?hq ?_; (case hq => decide +kernel)) | (refine ite_bf ?hq ?_; (case hq => decide +kernel)))) | walk1)) | (dsimp only; (fail_if_success (with_reducible show wpAny _ _ (call (Value.ref 918) _) _ _ _)); walk1) | (leave1; (try dsimp only)) | fail "no step"))
        (rename News g L _ ((I, oI) :: _) => N3)
        k_dflt (refine' bad_spec (hd := ⟨ha, hb, k, v, tA, tB, n, n3, ps⟩) ?bB ?bF ?bX (led_plus N3 fun p9 h9 => .tail _ (.tail _ (.tail _ (.tail _ (.tail _ (.tail _ (.tail _ (.tail _ (hled p9 h9))))))))) ?bT ?bK ?bd ?bu hx hv hp (Nat.le_trans hps (by omega)) ?_)
        case bF => k_asm
        case bB => k_asm
        case bX => k_asm
        case bT => k_asm
        case bK => exact rfl
        case bd => ktr_room
        case bu => ktr_units
        intro h8 tk8 F8 N8
        replace N8 := kst_newsOf N8 fun p h => List.mem_append_right _ h
        clear N3
        rw [hbad]
        (repeat' (first | (k_unfold; (try dsimp only)) | (k_end; wrow_close) | (first | (with_reducible (k_here; first | (refine ite_bt ?hq ?_; (case hq => with_reducible assumption)) | (refine ite_bf ?hq ?_; (case hq => with_reducible assumption)) | (refine ite_in_t ?hq ?_; (case hq => with_reducible assumption)) | (refine ite_in_f ?hq ?_; (case hq => with_reducible assumption)) | (refine ite_bt ?hq ?_; (case hq => decide +kernel)) | (refine ite_bf ?hq ?_; (case hq => decide +kernel)))) | walk1) | (dsimp only; walk1) | (leave1; (try dsimp only)) | fail "no step"))
        (rename News g L _ ((I, oI) :: _) => N14)
        refine' hP _ _ _ R ts ds _ _ _ (fr_fx ?fF ?fE) (kst_newsOf N14 (mc (matN 0 rfl) (mc (matN 1 rfl) (mc (matN 2 rfl) (mc (matN 3 rfl) (mc (matN 4 rfl) (mc (matN 5 rfl) (mdrop 8 rfl)))))))) (off1Mem off.2.2.2.2.2) (K8.bad hhd hbad)
        case fF => k_asm
        case fE => exact List.forall_mem_cons.mpr ⟨rfl, List.forall_mem_cons.mpr ⟨rfl, List.forall_mem_nil _⟩⟩
end
end
section
-- text Ls
local macro_rules | `(tactic| k_all) => `(tactic| ((repeat (with_reducible rename (_ ∧ _) => hh9; cases hh9)); first | exact allNe (by assumption) (Nat.le_refl _) | exact allNe (by assumption) (Nat.le_succ _) | exact allNe2 (by assumption) (Nat.le_refl _) | exact off1Mem (by assumption) | assumption | exact allNe2 (by assumption) (by omega) | exact allNe (by assumption) (by omega)))
noncomputable def rowS (t : TA) : Str := t.x ++ Str.ofString ": " ++ t.y
noncomputable def tabS (ts : List TA) : Str := Str.join (Str.ofString "\r\n") (ts.map rowS ++ [Str.ofString "", Str.ofString ""])
theorem row_sum : ∀ ts : List TA, (∀ t ∈ ts, t.x.length + t.y.length ≤ 3000) → ((ts.map rowS).map (·.length)).sum ≤ 3002 * ts.length
  | [], _ => Nat.le_refl _
  | t :: r, h => by
    have h1 := row_sum r fun q hq => h q (.tail _ hq)
    have h2 := h t (.head _)
    have h3 : (rowS t).length = t.x.length + 2 + t.y.length := by
      unfold rowS
      rw [Str.length_append, Str.length_append]
      rfl
    simp only [List.map_cons, List.sum_cons, List.length_cons]
    omega
theorem tab_sum {ts : List TA} (hl1 : ts.length ≤ 21) (hl2 : ∀ t ∈ ts, t.x.length + t.y.length ≤ 3000) : ((ts.map rowS ++ [Str.ofString "", Str.ofString ""]).map (·.length)).sum + (ts.map rowS ++ [Str.ofString "", Str.ofString ""]).length ≤ 1048576 := by
  have h1 := row_sum ts hl2
  rw [List.map_append, List.sum_append, List.length_append, List.length_map]
  have h2 : (([Str.ofString "", Str.ofString ""] : List Str).map (·.length)).sum = 0 := rfl
  rw [h2]
  show _ + 0 + (ts.length + 2) ≤ _
  omega
section
variable {w : World} {p : Program} {loose : List Str} {mean : ExcName → Option Value} {mg mb : Str → Option Value}
  {dp un : Nat} {gd : Option (List Code)} {cn : Str} {cs : Scope} {a : Addr} {ccd : Value} {cl : List (Str × Addr)} {outer : List Env} {A₀ : Around} {base h₀ : Heap} {L : Addr} {m : Str → Option Value} {s : Shared} {Q E : Value → Shared → Prop}
theorem str_spec {q dx hl n1 nd : Nat} {kt : Tok} {ts : List TA} {rest : List (Addr × Obj)}
  (B : Below A₀ base outer h₀) (F : Fr h₀ L s.heap m) (X : (Mine.mkK.heap_1 w.params).In h₀) (N : News h₀ L s.heap ((hl, W.listOf (refT ts).toArray n1) :: (dx, dictOf [en w.params "_headers" kt (.ref hl)] nd) :: (q, instObj 190 dx) :: rest))
  (T : Top p loose mean mg mb h₀) (hk : cs.kind = .function) (hdp : dp + 10 < recursionLimit) (hun : un + 100 < cLine)
  (ht : ∀ t ∈ ts, (t.a, t.obj) ∈ rest) (hl1 : ts.length ≤ 21) (hl2 : ∀ t ∈ ts, t.x.length + t.y.length ≤ 3000)
  (h : ∀ t h' tk', Fr h₀ L h' m → News h₀ L h' ((hl, W.listOf (refT ts).toArray n1) :: (dx, dictOf [en w.params "_headers" kt (.ref hl)] nd) :: (q, instObj 190 dx) :: rest) → Q (.str (tabS ts) t) { s with heap := h', toks := tk' }) :
  wpAny (model PySem.Challenge.rw_in0111_01.row.prog w) (ktrTop dp un gd cn cs L a ccd cl outer) (call (.ref 166) [.ref q]) Q E s := by
  revert X; k_fill; intro X
  refine wpAny_call ?_
  ((k_dflt (refine' code_def ?k1q ?k2q ?k3q ?k4q ?k5q ?kAq ?kFq ?kKq ?k6q ?k7q ?k8q ?k9q ?kBq ?_ ?c2q ?c3q ?c4q ?c5q; (case kAq => exact rfl); (case kFq => exact rfl); (case kKq => assumption); (case k1q => k_asm); (case k2q => k_asm); (case k3q => k_asm); (case k4q => k_asm); (case k5q => k_asm); (case k6q => k_is); (case k7q => k_is); (case k8q => ktr_room); (case k9q => first | exact BindsTo.of_eq rfl | exact binds_K (by k_in) rfl (by k_is) rfl rfl rfl); (case c5q => decide); (case kBq => exact locs rfl); (case c2q => exact rfl); (case c3q => exact rfl); (case c4q => exact rfl); k_whole; intro gq Lq hq FGq Fq Nq Bq Xq Tq; (try dsimp only); (try k_lift Bq); (try k_fold))))
  (repeat' (first | (k_unfold; (try dsimp only)) | (k_end; wrow_close) | ((fail_if_success (with_reducible show wpAny _ _ (eval (Expr.ListComp _ _ _ _) _) _ _ _)); walk1) | (dsimp only; (fail_if_success (with_reducible show wpAny _ _ (eval (Expr.ListComp _ _ _ _) _) _ _ _)); walk1) | (leave1; (try dsimp only)) | fail "no step"))
  k_dflt (refine LCg.ListComp_U (F₀ := by k_asm) (by with_unfolding_all rfl) (by decide) (by rfl) (by decide) (by rfl) ?_)
  (repeat' (first | (k_unfold; (try dsimp only)) | (k_end; wrow_close) | walk1 | (dsimp only; walk1) | (leave1; (try dsimp only)) | fail "no step"))
  refine' LCg.CompSrc.ledger (its := (refT ts).toArray) (by rfl) ?F1 ?N1 (.head _) ?hz (fun g1 => restU_J (fun j ys nw => nw = _ ∧ StrsAre ys ((ts.take j).map rowS)) ?turn ?fin _ 0 [] _ (Nat.zero_add _) ⟨rfl, .nil⟩)
  case F1 => k_asm
  case N1 => k_asm
  case hz => rw [List.size_toArray, sizeLine_eq]; unfold refT; rw [List.length_map]; omega
  case turn =>
    rintro i5 ys nw v5 I oI C oC D m₂ h5 tk5 E5 hlt r9_374_14 hv5 hC hx5 F5 N5 off5 ne5
    refine hid fun hn9_374 => ?_
    obtain ⟨rfl, hy⟩ := r9_374_14
    refine hn9_374 ?_
    clear hn9_374
    obtain ⟨t5, ht5, rfl⟩ : ∃ t, ts[i5]? = some t ∧ v5 = .ref t.a := by
      have e : (refT ts)[i5]? = some v5 := by simpa using hv5
      unfold refT at e
      rw [List.getElem?_map, Option.map_eq_some_iff] at e
      refine hid fun hn9_375 => ?_
      obtain ⟨t, e1, e2⟩ := e
      refine hn9_375 ?_
      clear hn9_375
      exact ⟨t, e1, e2.symm⟩
    have hm5 := List.mem_of_getElem? ht5
    have N6 := news_plus (p := (t5.a, t5.obj)) N5 (.tail _ (.tail _ (.tail _ (.tail _ (.tail _ (.tail _ (ht _ hm5)))))))
    have hl5 := hl2 _ hm5
    clear N5 hv5
    rw [take_snocL ht5, List.map_append]
    refine hid fun hn9_376 => ?_
    obtain ⟨ta, tx, ty, ttx, tty, tn⟩ := t5
    refine hn9_376 ?_
    clear hn9_376
    dsimp only [TA.obj] at N6 hl5
    (repeat' (first | (k_unfold; (try dsimp only)) | (k_end; wrow_close) | walk1 | (dsimp only; walk1) | (leave1; (try dsimp only)) | fail "no step"))
    ((refine' LCg.CompEnd.intro ?cFq ?cNq _ ?csq (by assumption) ?cSq ⟨rfl, ?_⟩; (case cFq => k_asm); (case cNq => k_asm); (case csq => (intro p9q h9q; repeat (first | exact h9q | refine List.Mem.tail _ ?_))); (case cSq => first | exact trivial | exact .inr ⟨_, .head _, rfl, _, rfl⟩ | exact .inr ⟨_, .tail _ (.head _), rfl, _, rfl⟩ | exact .inr ⟨_, .tail _ (.tail _ (.head _)), rfl, _, rfl⟩)))
    exact hy.append' (.cons _ _ .nil)
  case fin =>
    rintro ys nw r9_377_2 D h5 tk5 F5 N5 o5
    refine hid fun hn9_377 => ?_
    obtain ⟨rfl, hy⟩ := r9_377_2
    refine hn9_377 ?_
    clear hn9_377
    have hyl : ys.length ≤ 21 := by rw [hy.len_eq, List.length_map, List.length_take]; omega
    (repeat' (first | (k_unfold; (try dsimp only)) | (k_end; wrow_close) | ((fail_if_success (with_reducible show wpAny _ _ (binaryOp _ _ _) _ _ _)); walk1) | (dsimp only; (fail_if_success (with_reducible show wpAny _ _ (binaryOp _ _ _) _ _ _)); walk1) | (leave1; (try dsimp only)) | fail "no step"))
    (rename News _ _ _ ((_, W.listOf #[_, _] _) :: _) => N7)
    refine' add_lists (ws := [_, _]) ?aF N7 (News.isList N7 (.tail _ (.head _))) (News.isList N7 (.head _)) ?_ ?az
    case aF => k_asm
    case az => rw [sizeLine_eq]; show _ + 2 ≤ _; omega
    intro h8 F8 N8
    (repeat' (first | (k_unfold; (try dsimp only)) | (k_end; wrow_close) | ((fail_if_success (with_reducible show wpAny _ _ (call (Value.builtin "str.join") _) _ _ _)); walk1) | (dsimp only; (fail_if_success (with_reducible show wpAny _ _ (call (Value.builtin "str.join") _) _ _ _)); walk1) | (leave1; (try dsimp only)) | fail "no step"))
    have hall : ∀ t1 t2 : Tok, StrsAre (ys ++ [.str (Str.ofString "") t1, .str (Str.ofString "") t2]) (ts.map rowS ++ [Str.ofString "", Str.ofString ""]) := (by
      intro t1 t2
      have hy2 := hy
      rw [List.size_toArray, show (refT ts).length = ts.length from List.length_map .., List.take_length] at hy2
      exact hy2.append' (.cons _ _ (.cons _ _ .nil)))
    refine' join_listW (News.isList N8 (.head _)) (by rw [List.toList_toArray]; exact hall _ _) (by decide +kernel) (tab_sum hl1 hl2) ?_
    intro t7 k7
    rw [show Txt.join (Str.ofString "\r\n") (ts.map rowS ++ [Str.ofString "", Str.ofString ""]) = tabS ts from StrLaws.glued_eq_join _ _]
    generalize hg : tabS ts = tx
    (repeat' (first | (k_unfold; (try dsimp only)) | (k_end; wrow_close) | walk1 | (dsimp only; walk1) | (leave1; (try dsimp only)) | fail "no step"))
    refine hid fun hn9_378 => ?_
    subst hg <;> (refine hn9_378 ?_; clear hn9_378)
    refine' h _ _ _ ?F7 ?N7
    case F7 => k_asm
    case N7 => ((refine' kst_newsOf ?rN1q ?rSq; (case rN1q => k_asm); (case rSq => ((repeat (refine List.forall_mem_cons.mpr ⟨by k_memK, ?_⟩)); (intro p9q h9q; repeat (first | exact h9q | refine List.Mem.tail _ ?_))))))
end
end
section
-- text On
noncomputable def InitP (Q : Value → Shared → Prop) (x : Addr) (v : Value) (s2 : Shared) : Prop := v = .none ∧ Q (.ref x) s2
inductive OwnP (prog : Program) (w : World) (A : Around) (E : Value → Shared → Prop) (K : Frag) (C fI : Addr) (pos : List Value) (Q : Value → Shared → Prop) (obj : Value) (s1 : Shared) : Prop
  | of (x dx : Addr) (h1 : obj = .ref x) (h2 : s1.heap.get? x = some (instObj C dx)) (h3 : K.In s1.heap) (h4 : wpAny (model prog w) A (call (.ref fI) (.ref x :: pos)) (InitP Q x) E s1) : OwnP prog w A E K C fI pos Q obj s1
section
variable {prog : Program} {w : World} {A : Around} {E : Value → Shared → Prop} {s : Shared} {K : Frag} {h₀ : Heap} {L : Addr} {m : Str → Option Value}
/-- an object of a class with a __new__ and an __init__ of its own -/
theorem call_own {C fI p : Addr} {mc fN : Value} {rest : List Value} {pos : List Value} {c : Value} {l : List Value} {Q : Value → Shared → Prop} (F : Fr h₀ L s.heap m) (X₀ : K.In h₀)
    (p1 : ∀ S, peek K S (specialOf (.ref C) (Str.ofString "__call__")) = some (some (.builtin "type.__call__"))) (p2 : ∀ S, peek K S (isInstance (.ref C) (.type "type")) = some true) (p3 : ∀ S, peek K S (mroOf (.ref C)) = some (c :: l))
    (p4 : ∀ S, peek K S (Bind.madeBy (.ref C)) = some none) (p5 : ∀ S, peek K S (isSubtype (.ref C) (.ref C)) = some true)
    (ho : ∃ oc od cd sl, K.lookup C = some ⟨oc, od, .cls cd, sl⟩)
    (hm : typeIn K (.ref C) = some mc) (hr : readsIn K C mc = true) (e : findCls K (.ref C) mc (Str.ofString "__new__") = some (.get (.builtin "staticmethod.__get__") (.ref p) .none (.ref C))) (hp : recIn K p "staticmethod" = some (fN :: rest)) (hv : handedIn fN = true)
    (hi : findIn K (.ref C) (Str.ofString "__init__") = some (some (.ref fI))) (hf : typeIn K (.ref fI) = some (.type "function"))
    (h : wpAny (model prog w) (A.under (.builtin "type.__call__" ⟨.ref C :: pos, []⟩)) (call fN (.ref C :: pos)) (OwnP prog w (A.under (.builtin "type.__call__" ⟨.ref C :: pos, []⟩)) E K C fI pos Q) E { s with toks := s.toks + 1 }) :
    wpAny (model prog w) A (call (.ref C) pos) Q E s := by
  have X := X₀.keeps F.keep
  refine hid fun hn9_379 => ?_
  obtain ⟨oc, od, cd, sl, ho⟩ := ho
  refine hn9_379 ?_
  clear hn9_379
  have hC := X _ _ ho
  refine wpAny_call (codeAny_of_tree ?_)
  show wpAny _ _ (callAny (.ref C) _) _ _ _
  refine nd_load hC ?_
  show wpAny _ _ (callAny.viaDunder (.ref C) _) _ _ _
  unfold callAny.viaDunder
  refine wpAny_bind ((Looks.of_peek (M := model prog w) X (p1 _)).here ?_)
  dsimp only
  rw [tc_bind]
  refine wpAny_bind (wpAny_pure (wpAny_bind (wpAny_pure ?_)))
  refine wpAny_pure (a := Fin.again (.call (.builtin "type.__call__") ⟨.ref C :: pos, []⟩)) (And.intro rfl ?_)
  refine codeAny_call_builtin_at (Code.quiet_builtin _ (by decide +kernel)) entry_typeCall (check_slot tc_kind tc_split (Looks.of_peek (M := model prog w) X (p2 _)) (tc_args _ _ _) ?_)
  unfold Builtin.«type.__call__»
  dsimp only
  rw [if_neg (by show ¬ (Value.ref C == Value.type "type") = true; exact Bool.false_ne_true)]
  refine wpAny_bind ((Looks.of_peek (M := model prog w) X (p3 _)).here ?_)
  rw [if_neg (by exact Bool.false_ne_true)]
  refine wpAny_bind ((Looks.of_peek (M := model prog w) X (p4 _)).here ?_)
  dsimp only
  refine wpAny_bind (cls_sm F X₀ hm hr e hp hv ?_)
  refine wpAny_bind (wpAny_holding (wpAny_mono h (fun obj s1 h1 => ?_) fun _ _ x => x))
  refine hid fun hn9_380 => ?_
  obtain ⟨x, dx, rfl, hx, X1, hin⟩ := h1
  refine hn9_380 ?_
  clear hn9_380
  have t1 : Looks (model prog w) s1.heap (typeOf (.ref x)) (.ref C) := (Looks.ld (part := none) hx).andThen .now
  have t2 : Looks (model prog w) s1.heap (isInstance (.ref x) (.ref C)) true := t1.andThen (Looks.of_peek (M := model prog w) X1 (p5 _))
  refine wpAny_bind (t2.here ?_)
  rw [if_neg (by exact Bool.false_ne_true)]
  have t3 : wpAny (model prog w) (A.under (.builtin "type.__call__" ⟨.ref C :: pos, []⟩)) (callSpecial? (.ref x) (Str.ofString "__init__") pos) (fun r s2 => r = some .none ∧ Q (.ref x) s2) E s1 :=
    wpAny_bind (wpAny_bind (t1.here ((looks_findIn X1 hi).here (wpAny_holding (wpAny_bind ((bind_fn X1 _ hf).here (wpAny_bind (wpAny_mono hin (fun _ _ z => wpAny_pure ⟨by rw [z.1], z.2⟩) fun _ _ z => z))))))))
  refine wpAny_bind (wpAny_holding (wpAny_mono t3 (fun r s2 z => ?_) fun _ _ x => x))
  refine hid fun hn9_381 => ?_
  obtain ⟨rfl, hq⟩ := z
  refine hn9_381 ?_
  clear hn9_381
  dsimp only
  rw [if_neg (by exact Bool.false_ne_true)]
  exact wpAny_pure hq
/-- object.__new__(C) for such a class -/
theorem new_own {C : Addr} {R : Result → Shared → Prop} {h : Heap} {g : Array GenState} {d : Drawn} {t : Nat} {os : OsState} {oc : Value} {od : Option Addr} {cd : ClassData} {sl : Array (Option Value)}
    (hC : h.get? C = some ⟨oc, od, .cls cd, sl⟩) (e1 : cd.abstract = false) (e2 : cd.hasDel = false) (typ : Looks (model prog w) h (isInstance (.ref C) (.type "type")) true) (here : Looks (model prog w) h (Bind.madeHere "object.__new__" (.ref C)) ())
    (top : Looks (model prog w) h (isSubtype (.ref C) (.type "object")) true) (base : Looks (model prog w) h (Bind.staticBase (.ref C)) (.type "object")) (mobj : Looks (model prog w) h (Bind.madeBy (.type "object")) (some "object.__new__"))
    (hq : R (.ok (.ret (.ref (h.objs.size + 1)))) ⟨(h.push emptyDict).push (instObj C h.objs.size), g, d, t, os⟩) :
    codeAny (model prog w) A (.call (.builtin "object.__new__") ⟨[.ref C], []⟩) R ⟨h, g, d, t, os⟩ := by
  have F := PySem.F.objNew
  refine codeAny_call_builtin_code (Code.quiet_builtin _ F.quiet) ?_
  simp only [checkBuiltinCall, F.kind, F.split, F.row]
  have args : Bind.checkArgs "object.__new__" ⟨.hand, "object.__new__", "__new__", .cls, []⟩ ⟨[.ref C], []⟩ = pure () := by kernel_rfl
  rw [args]
  repeat (first | simp only [bne_self_eq_false, Bool.false_eq_true, if_false] | lk)
  refine codeAny_builtin F.entry ?_
  unfold Builtin.«object.__new__»
  have fin : ∀ A', wpAny (model prog w) A' (do
      let d ← if typeHasDict (.ref C) then some <$> alloc { cls := .type "dict", data := .dict #[] } else pure none
      ret (← newObj (.ref C) .plain d)) (fun fin s' => match fin with | .done f => R (.ok f) s' | .again c' => c'.quiet = true ∧ codeAny (model prog w) A c' R s') (fun e s' => R (.error e) s') ⟨h, g, d, t, os⟩ := by
    intro A'
    show wpAny _ _ ((alloc emptyDict >>= fun x => pure (some x)) >>= _) _ _ _
    refine wpAny_bind (wpAny_bind (wpAny_alloc (wpAny_pure (wpAny_bind ?_))))
    show wpAny _ _ (newObjAsIs _ _ _) _ _ _
    unfold newObjAsIs classHasDel
    refine wpAny_bind (wpAny_alloc (wpAny_bind (wpAny_bind (wpAny_load (Heap.get?_push_of_some _ (Heap.get?_push_of_some _ hC)) (wpAny_pure ?_)))))
    rw [e2]
    refine wpAny_pure (wpAny_pure ?_)
    show R _ _
    rw [Heap.size_push]
    exact hq
  repeat (first | simp only [e1, Bool.false_eq_true, if_false] | exact fin _ | lk)
end
end
section
-- text So
local macro_rules | `(tactic| k_all) => `(tactic| ((repeat (with_reducible rename (_ ∧ _) => hh9; cases hh9)); first | exact allNe (by assumption) (Nat.le_refl _) | exact allNe (by assumption) (Nat.le_succ _) | exact allNe2 (by assumption) (Nat.le_refl _) | exact off1Mem (by assumption) | assumption | exact allNe2 (by assumption) (by omega) | exact allNe (by assumption) (by omega)))
section
variable {w : World} {p : Program} {loose : List Str} {mean : ExcName → Option Value} {mg mb : Str → Option Value}
  {dp un : Nat} {gd : Option (List Code)} {cn : Str} {cs : Scope} {a : Addr} {ccd : Value} {cl : List (Str × Addr)} {outer : List Env} {A₀ : Around} {base h₀ : Heap} {L : Addr} {m : Str → Option Value} {s : Shared} {Q E : Value → Shared → Prop}
theorem io_facts (P : Params) (S : Setting) : peek (Mine.mkK.heap_1 P) S (specialOf (.ref 747) (Str.ofString "__call__")) = some (some (.builtin "type.__call__")) ∧ peek (Mine.mkK.heap_1 P) S (isInstance (.ref 747) (.type "type")) = some true ∧
    peek (Mine.mkK.heap_1 P) S (mroOf (.ref 747)) = some [.ref 747, .ref 270, .ref 243, .type "object"] ∧ peek (Mine.mkK.heap_1 P) S (Bind.madeBy (.ref 747)) = some none ∧ peek (Mine.mkK.heap_1 P) S (isSubtype (.ref 747) (.ref 747)) = some true ∧
    peek (Mine.mkK.heap_1 P) S (Bind.madeHere "object.__new__" (.ref 747)) = some () ∧ peek (Mine.mkK.heap_1 P) S (isSubtype (.ref 747) (.type "object")) = some true ∧ peek (Mine.mkK.heap_1 P) S (Bind.staticBase (.ref 747)) = some (.type "object") ∧ peek (Mine.mkK.heap_1 P) S (Bind.madeBy (.type "object")) = some (some "object.__new__") := by
  refine ⟨?_, ?_, ?_, ?_, ?_, ?_, ?_, ?_, ?_⟩ <;> kernel_rfl
theorem io_cls (P : Params) : ∃ oc od cd sl, List.lookup 747 (Mine.mkK.heap_1 P) = some ⟨oc, od, .cls cd, sl⟩ ∧ cd.abstract = false ∧ cd.hasDel = false := ⟨_, _, _, _, by with_unfolding_all rfl, rfl, rfl⟩
theorem st_spec {buf : Str} {t1 : Tok} {news : List (Addr × Obj)}
  (B : Below A₀ base outer h₀) (F : Fr h₀ L s.heap m) (X : (Mine.mkK.heap_1 w.params).In h₀) (N : News h₀ L s.heap news)
  (T : Top p loose mean mg mb h₀) (hk : cs.kind = .function) (hdp : dp + 10 < recursionLimit) (hun : un + 100 < cLine) (hb : buf.length ≤ 100000)
  (h : ∀ (y dy : Nat) k1 k2 k3 t1 t2 t3 h' tk', (∀ p ∈ news, p.1 < dy) → dy < y → Fr h₀ L h' m → News h₀ L h' ((y, instObj 747 dy) :: (dy, dictOf (stEs w.params k1 k2 k3 t1 t2 buf 0 t3) 3) :: news) → Q (.ref y) { s with heap := h', toks := tk' }) :
  wpAny (model PySem.Challenge.rw_in0111_01.row.prog w) (ktrTop dp un gd cn cs L a ccd cl outer) (call (.ref 747) [.str buf t1]) Q E s := by
  revert X; k_fill; intro X
  have I := fun S => io_facts w.params S
  k_dflt (refine' call_own (fI := 517) (p := 244) F X (fun S => (I S).1) (fun S => (I S).2.1) (fun S => (I S).2.2.1) (fun S => (I S).2.2.2.1) (fun S => (I S).2.2.2.2.1) ?ho ?hm ?hr ?he ?hp ?hv ?hi ?hf ?_)
  case ho => exact ⟨_, _, _, _, by k_is⟩
  case hm => k_is
  case hr => k_is
  case he => k_is
  case hp => k_is
  case hv => rfl
  case hi => k_is
  case hf => k_is
  refine wpAny_call ?_
  k_dflt (refine' kp_both ?k1 ?k2 ?k3 ?k4 ?k5 ?kA ?kF ?kK ?k6 ?k7 ?k8 ?kV ?kX ?kQ ?kM ?kN ?kD ?kR ?kP ?kS ?kT ?kB ?_ ?c2 ?c3 ?c4 ?c5)
  case kA => exact rfl
  case kF => exact rfl
  case kK => assumption
  case k1 => k_asm
  case k2 => k_asm
  case k3 => k_asm
  case k4 => k_asm
  case k5 => k_asm
  case k6 => k_is
  case k7 => k_is
  case k8 => ktr_room
  case kV => kp_lit
  case kX => kp_lit
  case kQ => exact rfl
  case kM => exact rfl
  case kN => exact rfl
  case kD => kp_flats
  case kR => exact rfl
  case kP => exact rfl
  case kS => exact fun _ => rfl
  case kT => exact fun _ _ => rfl
  case kB => exact fun _ _ => locs rfl
  case c5 => decide
  case c2 => exact rfl
  case c3 => exact rfl
  case c4 => exact rfl
  k_whole
  intro C6 D6 o6 g6 L6 h6 tk6 l1 l2 lo6 hs6 fs6 FG6 F6 N6 B6 X6 T6
  (try dsimp only)
  (try k_lift B6)
  (try k_fold)
  (repeat' (first | (k_unfold; (try dsimp only)) | (k_end; wrow_close) | ((fail_if_success (with_reducible show wpAny _ _ (call (Value.builtin "object.__new__") _) _ _ _)); (first | (with_reducible (k_here; first | (refine ite_bt ?hq ?_; (case hq => with_reducible assumption)) | (refine ite_bf ?hq ?_; (case hq => with_reducible assumption)) | (refine ite_in_t ?hq ?_; (case hq => with_reducible assumption)) | (refine ite_in_f ?hq ?_; (case hq => with_reducible assumption)) | (refine ite_bt ?hq ?_; (case hq => decide +kernel)) | (refine ite_bf ?hq ?_; (case hq => decide +kernel)))) | walk1)) | (dsimp only; (fail_if_success (with_reducible show wpAny _ _ (call (Value.builtin "object.__new__") _) _ _ _)); walk1) | (leave1; (try dsimp only)) | fail "no step"))
  (rename Fr g6 L6 _ _ => F7)
  (rename News g6 L6 _ _ => N7)
  refine hid fun hn9_382 => ?_
  obtain ⟨oc, od, cd, sl, hlk, hab, hde⟩ := io_cls w.params
  refine hn9_382 ?_
  clear hn9_382
  have X7 := X6.keeps F7.keep
  refine wpAny_call (new_own (X7 _ _ hlk) hab hde (Looks.of_peek X7 (I _).2.1) (Looks.of_peek X7 (I _).2.2.2.2.2.1) (Looks.of_peek X7 (I _).2.2.2.2.2.2.1) (Looks.of_peek X7 (I _).2.2.2.2.2.2.2.1) (Looks.of_peek X7 (I _).2.2.2.2.2.2.2.2) ?_)
  have N8 := (N7.push F7 emptyDict).push (F7.push _) (instObj 747 h6.objs.size)
  rw [Heap.size_push] at N8
  have F8 := (F7.push emptyDict).push (instObj 747 h6.objs.size)
  have l7 : ∀ p ∈ news, p.1 < h6.objs.size := fun p hp => Heap.lt_size (N7 p (.tail _ (.tail _ hp))).1
  generalize (h6.push emptyDict).push (instObj 747 h6.objs.size) = h8 at F8 N8 ⊢
  refine hid fun hn9_383 => ?_
  obtain ⟨dy, hdy⟩ : ∃ dy : Nat, dy = h6.objs.size := ⟨_, rfl⟩
  refine hn9_383 ?_
  clear hn9_383
  rw [← hdy] at N8 l7 ⊢
  refine hid fun hn9_384 => ?_
  obtain ⟨y, hy⟩ : ∃ y : Nat, y = dy + 1 := ⟨_, rfl⟩
  refine hn9_384 ?_
  clear hn9_384
  rw [← hy] at N8 ⊢
  have l8 : dy < y := by omega
  replace N8 := kst_newsOf (l' := (y, instObj 747 dy) :: (dy, dictOf [] 0) :: news) N8 (mc (matN 0 rfl) (mc (matN 1 rfl) (mdrop 4 rfl)))
  clear F7 N7 X7
  dsimp only
  (repeat' (first | (k_unfold; (try dsimp only)) | (k_end; wrow_close) | (first | (with_reducible (k_here; first | (refine ite_bt ?hq ?_; (case hq => with_reducible assumption)) | (refine ite_bf ?hq ?_; (case hq => with_reducible assumption)) | (refine ite_in_t ?hq ?_; (case hq => with_reducible assumption)) | (refine ite_in_f ?hq ?_; (case hq => with_reducible assumption)) | (refine ite_bt ?hq ?_; (case hq => decide +kernel)) | (refine ite_bf ?hq ?_; (case hq => decide +kernel)))) | walk1) | (dsimp only; walk1) | (leave1; (try dsimp only)) | fail "no step"))
  (rename Fr h₀ L _ _ => F9)
  (rename News h₀ L _ _ => N9)
  refine ⟨y, dy, rfl, (N9 _ (.head _)).1, X.keeps F9.keep, ?_⟩
  refine wpAny_call ?_
  ((k_dflt (refine' code_def ?k1q ?k2q ?k3q ?k4q ?k5q ?kAq ?kFq ?kKq ?k6q ?k7q ?k8q ?k9q ?kBq ?_ ?c2q ?c3q ?c4q ?c5q; (case kAq => exact rfl); (case kFq => exact rfl); (case kKq => assumption); (case k1q => k_asm); (case k2q => k_asm); (case k3q => k_asm); (case k4q => k_asm); (case k5q => k_asm); (case k6q => k_is); (case k7q => k_is); (case k8q => ktr_room); (case k9q => first | exact BindsTo.of_eq rfl | exact binds_K (by k_in) rfl (by k_is) rfl rfl rfl); (case c5q => decide); (case kBq => exact locs rfl); (case c2q => exact rfl); (case c3q => exact rfl); (case c4q => exact rfl); k_whole; intro gq Lq hq FGq Fq Nq Bq Xq Tq; (try dsimp only); (try k_lift Bq); (try k_fold))))
  (repeat' (first | (k_unfold; (try dsimp only)) | (k_end; wrow_close) | (first | (with_reducible (k_here; first | (refine ite_bt ?hq ?_; (case hq => with_reducible assumption)) | (refine ite_bf ?hq ?_; (case hq => with_reducible assumption)) | (refine ite_in_t ?hq ?_; (case hq => with_reducible assumption)) | (refine ite_in_f ?hq ?_; (case hq => with_reducible assumption)) | (refine ite_bt ?hq ?_; (case hq => decide +kernel)) | (refine ite_bf ?hq ?_; (case hq => decide +kernel)))) | walk1) | (dsimp only; walk1) | (leave1; (try dsimp only)) | fail "no step"))
  refine ⟨rfl, ?_⟩
  refine' h y dy _ _ _ _ _ _ _ _ l7 l8 ?zF ?zN
  case zF => k_asm
  case zN => k_asm
end
end
section
-- text Dn
section
open PySem
theorem mro_dq : mroOf (.type DQ) = pure [.type DQ, .type "object"] := by rw [mroOf_type]; kernel_rfl
theorem lookup_dq_new : typeLookup (.type DQ) "__new__" = pure (some (.builtin "collections.deque.__new__")) := by rw [typeLookup_type, builtinLookup_eq_fast]; kernel_rfl
theorem slot_dq_init : Slot DQ "__init__" "collections.deque.__init__" :=
  .of (owner := DQ) (n := "__init__") (by rw [typeLookup_type, builtinLookup_eq_fast]; kernel_rfl) (by decide +kernel) (by decide +kernel) (by decide +kernel)
    (by first | exact .inl (by decide +kernel) | exact .inr (by decide +kernel)) (by rw [isSubtype_type]; kernel_rfl)
theorem called_dq : TypeCalled DQ "collections.deque.__new__" "collections.deque.__init__" :=
  ⟨by decide +kernel, by decide +kernel, ⟨_, _, mro_dq⟩, madeBy_type mro_dq lookup_dq_new (by decide +kernel), by decide +kernel, by rw [isSubtype_type]; kernel_rfl, slot_dq_init⟩
theorem typeCall_dq : checkTypeCall DQ ⟨[], []⟩ = pure () := by kernel_rfl
theorem newCall_dq : checkBuiltinCall "collections.deque.__new__" ⟨[.type DQ], []⟩ = pure () := by kernel_rfl
theorem entry_dq_new : entryFor table "collections.deque.__new__" = some Builtin.«collections.deque.__new__» := entryFor_of_fast (by kernel_rfl)
theorem entry_dq_init : entryFor table "collections.deque.__init__" = some Builtin.«collections.deque.__init__» := entryFor_of_fast (by kernel_rfl)
theorem plain_dq_new : plainId "collections.deque.__new__" = true := by decide +kernel
theorem args_dq_init (a : Value) : argsOk "collections.deque.__init__" ⟨[a], []⟩ := by unfold argsOk; kernel_rfl
theorem sub_dq : isSubtype (.type DQ) (.type DQ) = pure true := by rw [isSubtype_type]; kernel_rfl
theorem isType_dq : isType (.type DQ) = pure true := by kernel_rfl
variable {prog : Program} {w : World} {A : Around} {E : Value → Shared → Prop} {s : Shared} {h₀ : Heap} {L : Addr} {m : Str → Option Value} {news : List (Addr × Obj)}
theorem dq_new {Q : Value → Shared → Prop} (F : Fr h₀ L s.heap m) (N : News h₀ L s.heap news)
    (h : ∀ (D : Nat) h', Fr h₀ L h' m → News h₀ L h' ((D, dqObj 0 []) :: news) → (∀ p ∈ news, p.1 < D) → Q (.ref D) { s with heap := h' }) : wpAny (model prog w) A (call (.type DQ) []) Q E s := by
  refine callType_codes (Q₁ := fun obj s₁ => obj = .ref s.heap.objs.size ∧ s₁ = { s with heap := s.heap.push (dqObj 0 []) }) called_dq typeCall_dq entry_dq_init ?_ ?_
  · refine codeAny_call_builtin plain_dq_new entry_dq_new (wpAny_of_eq newCall_dq ?_)
    unfold Builtin.«collections.deque.__new__» Builtin.Deque.newArgs
    refine wpAny_bind ?_
    dsimp only
    refine wpAny_bind (wpAny_of_eq isType_dq ?_)
    rw [if_neg (by exact Bool.false_ne_true)]
    refine wpAny_bind (wpAny_of_eq sub_dq ?_)
    rw [if_neg (by exact Bool.false_ne_true)]
    refine wpAny_pure ?_
    dsimp only
    refine wpAny_bind ?_
    unfold Builtin.Deque.new
    rw [if_neg (by show ¬ (0 > sizeLine); omega)]
    dsimp only
    rw [if_neg (by decide +kernel)]
    refine wpAny_bind (wpAny_pure ?_)
    refine hid fun hn9_385 => ?_
    obtain ⟨hp, g, d, tk, os⟩ := s
    refine hn9_385 ?_
    clear hn9_385
    wp_walk
    exact ⟨rfl, rfl⟩
  · rintro obj s₁ r9_386_2
    refine hid fun hn9_386 => ?_
    obtain ⟨rfl, rfl⟩ := r9_386_2
    refine hn9_386 ?_
    clear hn9_386
    have hx : (s.heap.push (dqObj 0 [])).get? s.heap.objs.size = some (dqObj 0 []) := Heap.get?_push_size _ rfl
    refine ⟨⟨_, hx, rfl⟩, args_dq_init _, ?_⟩
    unfold Builtin.«collections.deque.__init__»
    dsimp only [List.length_nil, List.take_zero, List.zipIdx_nil]
    rw [if_neg (by decide)]
    refine wpAny_bind ?_
    rw [List.forIn_nil]
    refine wpAny_pure ?_
    refine wpAny_bind ?_
    rw [List.forIn_nil]
    refine wpAny_pure ?_
    rw [show List.lookup (Str.ofString "maxlen") ([] : List (Str × Value)) = none from rfl, show List.lookup (Str.ofString "iterable") ([] : List (Str × Value)) = none from rfl]
    dsimp only
    refine wpAny_bind (wpAny_pure ?_)
    refine wpAny_bind (wpAny_setField hx rfl (by decide) ?_)
    have hy : ((s.heap.push (dqObj 0 [])).update s.heap.objs.size (Obj.mapFields (·.setIfInBounds 0 .none))).get? s.heap.objs.size = some (dqObj 0 []) :=
      (Heap.get?_update_self _ hx (Obj.isFreed_of_fields (Obj.data_mapFields rfl _))).trans rfl
    have hs := Heap.SameBut.update (s.heap.push (dqObj 0 [])) s.heap.objs.size (Obj.mapFields (·.setIfInBounds 0 .none))
    have F2 := F.push (dqObj 0 [])
    have N2 := N.push F (dqObj 0 [])
    have F3 := F2.change hs (N2 _ (.head _)).2.1 (N2 _ (.head _)).2.2
    have N3 : News h₀ L _ ((s.heap.objs.size, dqObj 0 []) :: news) := news_set (pre := []) (post := news) N2 (fun _ h => nomatch h) (fun p hp => Nat.ne_of_lt (Heap.lt_size (N p hp).1)) hs hy
    generalize (s.heap.push (dqObj 0 [])).update s.heap.objs.size (Obj.mapFields (·.setIfInBounds 0 .none)) = h9 at hy F3 N3 ⊢
    refine wpAny_bind ?_
    unfold Builtin.Deque.clear Builtin.Deque.items
    refine wpAny_bind (wpAny_bind (wpAny_fieldsOf hy rfl (wpAny_pure ?_)))
    rw [if_neg (by decide)]
    refine wpAny_pure ?_
    exact wpAny_pure ⟨rfl, h _ h9 F3 N3 fun p hp => Heap.lt_size (N p hp).1⟩
end
end
section
-- text Mk
section
open PySem
theorem lk_maketrans : typeLookup (.type "str") (Str.ofString "maketrans") = pure (some (.builtin "str.maketrans")) := by rw [typeLookup_type, builtinLookup_eq_fast]; kernel_rfl
theorem ty_maketrans : typeOf (.builtin "str.maketrans") = pure (.type "builtin_function_or_method") := by show builtinType _ = _; rw [builtinType_eq_fast]; kernel_rfl
theorem noget_bfm : typeLookup (.type "builtin_function_or_method") (Str.ofString "__get__") = pure none := by rw [typeLookup_type, builtinLookup_eq_fast]; kernel_rfl
theorem meets_maketrans (x : Str) (t : Tok) (u : Tok) : Meets (Builtin.«object.__getattribute__» ⟨[.str x t, .str (Str.ofString "maketrans") u], []⟩) (fun _ R s => R (.ok (.ret (.builtin "str.maketrans"))) s) :=
  Meets.of_wp fun prog w A R s hs => by
    refine hid fun hn9_387 => ?_
    obtain ⟨hp, g, d, tk, os⟩ := s
    refine hn9_387 ?_
    clear hn9_387
    have hT : ∀ s' : Shared, s'.TypeIs (.str x t) "str" := fun _ => rfl
    have f1 := lk_maketrans
    have f2 := ty_maketrans
    unfold Builtin.«object.__getattribute__»
    have f3 := noget_bfm
    repeat (any_goals (first | assumption | wp_step))
    exact ⟨_, rfl, hs⟩
variable {prog : Program} {w : World} {A : Around} {E : Value → Shared → Prop} {s : Shared}
theorem get_maketrans {x : Str} {t : Tok} {pl : Sem Bool} {Q : Value × List Value → Shared → Prop} (h : ∀ k, Q (.builtin "str.maketrans", []) { s with toks := k }) : wpAny (model prog w) A (getMethod (.str x t) (Str.ofString "maketrans") pl) Q E s := by
  refine hid fun hn9_388 => ?_
  obtain ⟨hp, g, d, tk, os⟩ := s
  refine hn9_388 ?_
  clear hn9_388
  have hT : ∀ s' : Shared, s'.TypeIs (.str x t) "str" := fun _ => rfl
  have f1 := lk_maketrans
  have f2 := ty_maketrans
  have f3 := F.slot_str_getattribute.lookup
  have f4 := F.slot_str_getattribute.bind (.str x t)
  have f5 := am_str_getattr_none
  unfold getMethod
  refine wpAny_bind (wpAny_specialOf (hT _) f3 ?_)
  repeat (any_goals (first | assumption | ((with_reducible show wpAny _ _ (call (Value.builtin "object.__getattribute__") _ _) _ _ _); refine call_meets F.slot_str_getattribute (hT _) F.entry_object_getattribute (F.args_object_getattribute_2 _ _) (meets_maketrans x t _) ?_) | wp_step))
  show wpAny _ _ _ _ _ _
  dsimp only
  repeat (any_goals (first | assumption | wp_step))
  exact h _
end
end
section
-- text Fk
section
open PySem
variable {prog : Program} {w : World} {A : Around} {E : Value → Shared → Prop} {s : Shared}
theorem typeCall_dict0 : checkTypeCall "dict" ⟨[], []⟩ = pure () := by kernel_rfl
theorem newCall_dict0 : checkBuiltinCall "dict.__new__" ⟨[.type "dict"], []⟩ = pure () := by kernel_rfl
theorem args_dict_init1 (a : Value) : argsOk "dict.__init__" ⟨[a], []⟩ := by unfold argsOk; kernel_rfl
theorem dict0 {Q : Value → Shared → Prop} (h : Q (.ref s.heap.objs.size) { s with heap := s.heap.push emptyD }) : wpAny (model prog w) A (call (.type "dict") []) Q E s := by
  refine callType_codes (Q₁ := fun obj s₁ => obj = .ref s.heap.objs.size ∧ s₁ = { s with heap := s.heap.push emptyD }) F.kt_called_dict typeCall_dict0 F.entry_dict_init ?_ ?_
  · refine codeAny_call_builtin F.kt_plain_dict_new F.kt_entry_dict_new (wpAny_of_eq newCall_dict0 ?_)
    have hsub := F.kt_sub_dict
    have hmro := F.kt_mro_dict
    refine hid fun hn9_389 => ?_
    obtain ⟨hp, g, d, tk, os⟩ := s
    refine hn9_389 ?_
    clear hn9_389
    unfold Builtin.«dict.__new__»
    wp_walk
    exact ⟨rfl, rfl⟩
  · rintro obj s₁ r9_390_2
    refine hid fun hn9_390 => ?_
    obtain ⟨rfl, rfl⟩ := r9_390_2
    refine hn9_390 ?_
    clear hn9_390
    have hnew : (s.heap.push emptyD).DictOf (PySem.strKind prog w) s.heap.objs.size [] := Heap.DictOf.new s.heap
    refine ⟨hnew.typeIs, args_dict_init1 _, ?_⟩
    unfold Builtin.«dict.__init__»
    refine wpAny_bind ?_
    unfold Builtin.Dict.selfAndRest
    refine wpAny_bind (wpAny_notOrdered_dict hnew.typeIs ?_)
    show wpAny _ _ (pure (s.heap.objs.size, [])) _ _ _
    refine wpAny_pure ?_
    show wpAny _ _ (Builtin.Dict.updateCommon "dict.__init__" "dict" s.heap.objs.size [] []) _ _ _
    unfold Builtin.Dict.updateCommon Builtin.Dict.addKeywords
    dsimp only
    refine wpAny_bind ?_
    rw [List.forIn_nil]
    exact wpAny_pure (wpAny_pure ⟨rfl, h⟩)
theorem type_fk : typeOf (.builtin "dict.fromkeys") = pure (.type "classmethod_descriptor") := by show builtinType _ = _; rw [builtinType_eq_fast]; kernel_rfl
theorem entry_fk : entryFor table "dict.fromkeys" = some Builtin.«dict.fromkeys» := entryFor_of_fast (by kernel_rfl)
theorem entry_fkl : entryFor table "dict.fromkeys.loop" = some Builtin.«dict.fromkeys.loop» := entryFor_of_fast (by kernel_rfl)
theorem quiet_fk {as : Args} : (Code.builtin "dict.fromkeys" as).quiet = true := Code.quiet_builtin _ (by decide +kernel)
theorem pl_fkl : plainId "dict.fromkeys.loop" = true := by decide +kernel
theorem pl_fk : plainId "dict.fromkeys" = true := by decide +kernel
theorem isType_dict : isType (.type "dict") = pure true := by kernel_rfl
theorem semi_ascii : (Str.ofString ";").cps.all (· < 128) = true := by decide +kernel
theorem semi_at : (Str.ofString ";").cps[0]? = some 59 ∧ (Str.ofString ";").cps[1]? = none ∧ (⟨#[59]⟩ : Str) = Str.ofString ";" := by decide +kernel
theorem fkl_run {R : Result → Shared → Prop} {D it : Addr} {t : Tok} (hA : A.handled = none) (hne : D ≠ it) (hD : s.heap.DictOf (PySem.strKind prog w) D []) (hi : s.heap.IsStrIter it "str_ascii_iterator" (Str.ofString ";") t 0)
    (h : ∀ h' tk, h'.DictOf (PySem.strKind prog w) D [(Str.ofString ";", .none)] → (∀ b o, b ≠ D → b ≠ it → s.heap.get? b = some o → h'.get? b = some o) → R (.ok (.ret (.ref D))) { s with heap := h', toks := tk }) :
    codeAny (model prog w) A (.builtin "dict.fromkeys.loop" ⟨[.ref D, .ref it, .none], []⟩) R s := by
  refine codeAny_builtin entry_fkl ?_
  rw [Around.under_plainId pl_fkl _]
  unfold Builtin.«dict.fromkeys.loop»
  dsimp only
  refine wpAny_bind (wpAny_pyNext_ascii_item hi semi_at.1 fun h1 hi1 hs1 => ?_)
  have hD1 : h1.DictOf (PySem.strKind prog w) D [] := hD.sameBut hs1 hne
  dsimp only
  refine wpAny_bind (wpAny_typeOf hD1.typeIs ?_)
  rw [if_pos (by decide +kernel)]
  refine wpAny_bind (wpAny_pure ?_)
  rw [semi_at.2.2]
  refine wpAny_bind (wpAny_holding (wpAny_dictSet_pairs (knd := PySem.strKind prog w) (PySem.strKind_is prog w _ _) hD1 (fun h2 hD2 hs2 => ?_) (Nat.zero_le _)))
  refine wpAny_pure ⟨plainId_quiet pl_fkl _, ?_⟩
  refine codeAny_builtin entry_fkl ?_
  rw [Around.under_plainId pl_fkl _]
  unfold Builtin.«dict.fromkeys.loop»
  dsimp only
  have hi2 : h2.IsStrIter it "str_ascii_iterator" (Str.ofString ";") t 1 := by
    refine hid fun hn9_391 => ?_
    obtain ⟨o, ho, r⟩ := hi1
    refine hn9_391 ?_
    clear hn9_391
    exact ⟨o, (hs2.2 it (Ne.symm hne)).trans ho, r⟩
  refine wpAny_bind (wpAny_pyNext_ascii_end hA hi2 semi_at.2.1 fun h3 hx3 => ?_)
  dsimp only
  refine wpAny_pure (h h3 _ (hD2.extBut hx3 hne) fun b o b1 b2 hb => hx3 b o b2 ((hs2.2 b b1).trans ((hs1.2 b b2).trans hb)))
theorem fk_run {R : Result → Shared → Prop} {t : Tok} (hA : A.handled = none)
    (h : ∀ h' tk, h'.DictOf (PySem.strKind prog w) s.heap.objs.size [(Str.ofString ";", .none)] → (∀ b o, s.heap.get? b = some o → h'.get? b = some o) → R (.ok (.ret (.ref s.heap.objs.size))) { s with heap := h', toks := tk }) :
    codeAny (model prog w) A (.builtin "dict.fromkeys" ⟨[.type "dict", .str (Str.ofString ";") t], []⟩) R s := by
  refine codeAny_builtin entry_fk ?_
  rw [Around.under_plainId pl_fk _]
  unfold Builtin.«dict.fromkeys»
  dsimp only
  refine wpAny_bind (wpAny_of_eq isType_dict ?_)
  rw [if_neg (by exact Bool.false_ne_true)]
  refine wpAny_bind (wpAny_of_eq F.kt_sub_dict ?_)
  rw [if_neg (by exact Bool.false_ne_true)]
  rw [if_neg (by exact Bool.false_ne_true)]
  refine wpAny_bind (wpAny_rule ?_)
  refine wpAny_bind (wpAny_pure ?_)
  dsimp only
  refine wpAny_bind (dict0 ?_)
  refine wpAny_holding ?_
  have hD0 : (s.heap.push emptyD).DictOf (PySem.strKind prog w) s.heap.objs.size [] := Heap.DictOf.new s.heap
  refine wpAny_bind (wpAny_typeOf (T := "str") rfl ?_)
  refine wpAny_bind (wpAny_typeOf hD0.typeIs ?_)
  rw [if_neg (by decide)]
  refine wpAny_bind (wpAny_typeOf hD0.typeIs ?_)
  rw [if_neg (by decide)]
  refine wpAny_bind (wpAny_pyIter_ascii semi_ascii ?_)
  refine wpAny_pure ⟨plainId_quiet pl_fkl _, ?_⟩
  have hlt : s.heap.objs.size < (s.heap.push emptyD).objs.size := by rw [Heap.size_push]; exact Nat.lt_succ_self _
  refine fkl_run (D := s.heap.objs.size) (it := (s.heap.push emptyD).objs.size) (t := t) hA (Nat.ne_of_lt hlt) (hD0.push _) ⟨_, Heap.get?_push_size _ rfl, rfl, rfl⟩ fun h' tk hd hk => ?_
  refine h h' tk hd fun b o hb => ?_
  have hb1 : b < s.heap.objs.size := Heap.lt_size hb
  exact hk b o (Nat.ne_of_lt hb1) (Nat.ne_of_lt (Nat.lt_trans hb1 hlt)) (Heap.get?_push_of_some _ (Heap.get?_push_of_some _ hb))
end
section
open PySem PySem.Calls
variable {prog : Program} {w : World} {M : Model} {A : Around} {E : Value → Shared → Prop} {s : Shared} {K : Frag} {h₀ : Heap} {L : Addr} {m : Str → Option Value} {news : List (Addr × Obj)}
noncomputable def boundK : Obj := { cls := .type "builtin_function_or_method", data := .fields #[.builtin "dict.fromkeys", .type "dict"] }
theorem owner_fk : (kfb_private% "ownerAndName") "dict.fromkeys" = ("dict", "fromkeys") := by first | decide +kernel | kernel_rfl
theorem get_fk {P : Fin → Shared → Prop} (h : P (.done (.ret (.ref s.heap.objs.size))) { s with heap := s.heap.push boundK }) :
    wpAny M A (Builtin.«classmethod_descriptor.__get__» ⟨[.builtin "dict.fromkeys", .none, .type "dict"], []⟩) P E s := by
  unfold Builtin.«classmethod_descriptor.__get__»
  refine wpAny_bind (wpAny_of_eq (a := (.builtin "dict.fromkeys", none, some (.type "dict"))) (by kernel_rfl) ?_)
  simp only [owner_fk]
  refine wpAny_bind (wpAny_of_eq (a := .type "dict") rfl ?_)
  refine wpAny_bind (wpAny_of_eq (a := true) isType_dict ?_)
  refine KFB.if_not rfl ?_
  refine wpAny_bind (wpAny_of_eq (a := true) PySem.F.kt_sub_dict ?_)
  refine KFB.if_not rfl ?_
  exact wpAny_bind (wpAny_newObj_type (wpAny_pure h))
theorem getm_fk {pl : Sem Bool} {Q : Value × List Value → Shared → Prop} (F : Fr h₀ L s.heap m) (N : News h₀ L s.heap news) (X₀ : K.In h₀)
    (e : findCls K (.type "dict") (.type "type") (Str.ofString "fromkeys") = some (.get (.builtin "classmethod_descriptor.__get__") (.builtin "dict.fromkeys") .none (.type "dict")))
    (h : ∀ (x : Nat) h', Fr h₀ L h' m → News h₀ L h' ((x, boundK) :: news) → (∀ p ∈ news, p.1 < x) → Q (.ref x, []) { s with heap := h', toks := s.toks + 1 }) :
    wpAny (model prog w) A (getMethod (.type "dict") (Str.ofString "fromkeys") pl) Q E s := by
  have X := X₀.keeps F.keep
  have hstub : opaqueClassAbove (.type "dict") = pure none := by unfold opaqueClassAbove; dsimp only; rw [show Manifest.isStub "dict" = false by decide +kernel]; rfl
  have ht : typeOf (.type "dict") = pure (.type "type") := by first | rfl | kernel_rfl
  have L0 : Looks (model prog w) s.heap (typeOf (.type "dict")) (.type "type") := Looks.of_pure ht
  have hg : findIn K (.type "type") "__getattribute__" = some (some (.builtin "type.__getattribute__")) := type_tga
  unfold getMethod specialOf
  refine wpAny_bind (wpAny_bind (L0.here ((looks_findIn X hg).here ?_)))
  dsimp only
  rw [if_pos canon_tga]
  refine wpAny_bind (wpAny_mono (Q := fun v => Q (v, [])) (E := E) ?_ (fun _ _ z => wpAny_pure z) fun _ _ z => z)
  have LO : Looks (model prog w) s.heap (opaqueClassAbove (.type "dict")) none := Looks.of_pure hstub
  refine cls_open X LO L0 hg (looks_hook X (r := none) (by rfl)) (by show subIn K _ _ = _; rfl) e ?_
  show wpAny _ _ (holding [.builtin "dict.fromkeys"] (call (.builtin "classmethod_descriptor.__get__") [.builtin "dict.fromkeys", .none, .type "dict"]) >>= fun v => ret v) _ _ _
  refine wpAny_bind (wpAny_holding (wpAny_call_entry KFB.slot_get type_fk KFB.entry_get (get_fk ⟨_, rfl, wpAny_pure (wpAny_pure (h _ _ (F.push _) (News.push F N _) fun p hp => Heap.lt_size (N p hp).1))⟩) (KFB.args_get _ _ _)))
theorem check_fk {t : Tok} : checkBoundCall "dict.fromkeys" ⟨[.type "dict", .str (Str.ofString ";") t], []⟩ = pure () := by first | kernel_rfl | rfl
theorem call_fk {x : Addr} {t : Tok} {Q : Value → Shared → Prop} (hA : A.handled = none) (ho : s.heap.get? x = some boundK)
    (h : ∀ h' tk, h'.DictOf (PySem.strKind prog w) s.heap.objs.size [(Str.ofString ";", .none)] → (∀ b o, s.heap.get? b = some o → h'.get? b = some o) → Q (.ref s.heap.objs.size) { s with heap := h', toks := tk }) :
    wpAny (model prog w) A (call (.ref x) [.str (Str.ofString ";") t]) Q E s := by
  refine wpAny_call (codeAny_of_tree ?_)
  show wpAny _ A.in1 (callAny (.ref x) ⟨[.str (Str.ofString ";") t], []⟩) _ _ s
  simp only [callAny]
  refine wpAny_bind (wpAny_load ho ?_)
  simp only [boundK]
  refine KFB.if_so (by decide) ?_
  refine KFB.if_so (by decide) ?_
  refine wpAny_bind (wpAny_of_eq (a := ()) check_fk ?_)
  refine wpAny_bind (wpAny_pure (wpAny_pure ?_))
  exact ⟨quiet_fk, fk_run hA h⟩
theorem callWith_fk {pos : Pos} {u : Addr} {first : List Value} {args : List (Bool × Sem Value)} {Q : Value → Shared → Prop} (hplain : args.any (·.1) = false)
    (h : wpAny M A (evalArgs (.ref u) true args []) (fun x s₁ => s₁.heap.get? u = some boundK ∧ wpAny M A (call (.ref u) (first ++ x.pos) x.kw) Q E s₁) E s) : wpAny M A (callWith pos (.ref u) first args []) Q E s := by
  unfold callWith
  refine wpAny_bind (wpAny_holding (wpAny_mono h (fun x s₁ h₁ => wpAny_bind (wpAny_standAt ?_)) fun _ _ x => x))
  refine hid fun hn9_392 => ?_
  obtain ⟨ho, hcall⟩ := h₁
  refine hn9_392 ?_
  clear hn9_392
  simp only [hplain, List.any_nil, Bool.or_false]
  refine wpAny_bind (m := keeperOf (.ref u)) ?_
  unfold keeperOf
  refine wpAny_bind (wpAny_load ho ?_)
  simp only [boundK, show (Value.type "builtin_function_or_method" != Value.type "method") = true by decide, show (Value.type "builtin_function_or_method" == Value.type "builtin_function_or_method" || Value.type "builtin_function_or_method" == Value.type "method-wrapper") = true by decide, if_true]
  refine wpAny_pure ?_
  exact wpAny_bind (wpAny_mono hcall (fun r s₂ hr => wpAny_bind (wpAny_holding (wpAny_point (wpAny_pure hr)))) fun _ _ x => x)
end
end
section
-- text Mt
section
open PySem PySem.Calls
variable {prog : Program} {w : World} {A : Around} {E : Value → Shared → Prop} {s : Shared}
theorem entry_mt : entryFor table "str.maketrans" = some Builtin.«str.maketrans» := entryFor_of_fast (by kernel_rfl)
theorem pl_mt : plainId "str.maketrans" = true := by decide +kernel
theorem check_mt (D : Addr) : checkBuiltinCall "str.maketrans" ⟨[.ref D], []⟩ = pure () := by kernel_rfl
theorem call_mt {D : Addr} {Q : Value → Shared → Prop} (hS : (D == sysModules) = false) (hD : s.heap.DictOf (PySem.strKind prog w) D [(Str.ofString ";", .none)])
    (h : ∀ h' tk, h'.DictOf (PySem.intKind prog w) s.heap.objs.size [(59, .none)] → (∀ b o, s.heap.get? b = some o → h'.get? b = some o) → Q (.ref s.heap.objs.size) { s with heap := h', toks := tk }) :
    wpAny (model prog w) A (call (.builtin "str.maketrans") [.ref D]) Q E s := by
  refine wpAny_call (codeAny_call_builtin pl_mt entry_mt (wpAny_of_eq (check_mt D) ?_))
  refine hid fun hn9_393 => ?_
  obtain ⟨o, es, ep, ho, hc, hd, hk, hp, hn⟩ := id hD
  refine hn9_393 ?_
  clear hn9_393
  have hlt : D < s.heap.objs.size := Heap.lt_size ho
  have hne : s.heap.objs.size ≠ D := Ne.symm (Nat.ne_of_lt hlt)
  unfold Builtin.«str.maketrans»
  obtain ⟨e, hes, hkey, hval⟩ : ∃ e, es.toList = [e] ∧ (PySem.strKind prog w).is (Str.ofString ";") e.key = true ∧ e.val = .none := by
    generalize es.toList = l at hp
    cases hp with
    | cons a b c => cases c; exact ⟨_, rfl, a, b⟩
  obtain ⟨tq, hkq⟩ : ∃ tq, e.key = .str (Str.ofString ";") tq := by
    cases hh : e.key with
    | str y u => exact ⟨u, by rw [hh] at hkey; simp [PySem.strKind, Value.isStrOf] at hkey; rw [hkey]⟩
    | _ => rw [hh] at hkey; simp [PySem.strKind, Value.isStrOf] at hkey
  refine wpAny_bind (wpAny_of_eq (a := ()) (by kernel_rfl) ?_)
  refine wpAny_bind (wpAny_of_eq (a := ()) (by kernel_rfl) ?_)
  refine wpAny_bind (wpAny_of_eq (a := none) (by kernel_rfl) ?_)
  refine wpAny_bind (wpAny_of_eq (a := none) (by kernel_rfl) ?_)
  refine wpAny_bind ?_
  unfold newDict
  refine wpAny_newObj_type ?_
  dsimp only
  have hT0 : (s.heap.push emptyD).DictOf (PySem.intKind prog w) s.heap.objs.size [] := Heap.DictOf.new s.heap
  have hD0 := hD.push emptyD
  have ho0 : (s.heap.push emptyD).get? D = some o := Heap.get?_push_of_some _ ho
  have hk0 : ∀ b o, s.heap.get? b = some o → (s.heap.push emptyD).get? b = some o := fun b o hb => Heap.get?_push_of_some _ hb
  refine wpAny_bind (wpAny_holding ?_)
  show wpAny _ _ (do let __do_lift ← typeOf (.ref D); _) _ _ _
  refine wpAny_bind (wpAny_typeOf hD0.typeIs ?_)
  refine wpAny_bind (wpAny_of_eq (a := ()) (by kernel_rfl) ?_)
  refine wpAny_bind (wpAny_typeOf hD0.typeIs ?_)
  rw [if_neg (by decide)]
  refine wpAny_bind ?_
  unfold notTheModulesDict
  rw [if_neg (by rw [hS]; exact Bool.false_ne_true)]
  refine wpAny_pure ?_
  refine wpAny_bind (wpAny_dictEntries ho0 hd ?_)
  refine wpAny_bind ?_
  rw [← Array.forIn_toList, hes, List.forIn_cons, hkq]
  refine wpAny_bind (wpAny_bind (wpAny_of_eq (a := some (Str.ofString ";")) (by rfl) ?_))
  rw [← semi_at.2.2]
  dsimp only
  refine wpAny_bind (wpAny_mkInt ?_)
  dsimp only
  refine wpAny_bind (wpAny_dictSet_pairs (knd := PySem.intKind prog w) (k := 59) (PySem.intKind_is prog w 59 _) hT0 (fun h2 hD2 hs2 => ?_) (Nat.zero_le _))
  refine wpAny_pure ?_
  dsimp only
  rw [List.forIn_nil]
  refine wpAny_pure (wpAny_pure (wpAny_pure ?_))
  rw [hval] at hD2
  exact h h2 _ hD2 fun b o hb => (hs2.2 b (Nat.ne_of_lt (Heap.lt_size hb))).trans (hk0 b o hb)
end
end
section
-- text Tr
section
open PySem PySem.Calls
variable {prog : Program} {w : World} {A : Around} {E : Value → Shared → Prop} {s : Shared}
theorem entry_tr : entryFor table "str.translate" = some Builtin.«str.translate» := entryFor_of_fast (by kernel_rfl)
theorem pl_tr : plainId "str.translate" = true := by decide +kernel
theorem check_tr (x : Str) (t : Tok) (b : Value) : checkBuiltinCall "str.translate" ⟨[.str x t, b], []⟩ = pure () := by kernel_rfl
theorem sub_key : isSubtype (.type "KeyError") (.type "LookupError") = pure true := by kernel_rfl
theorem look_keep {T : Addr} {c : Nat} {Q : Builtin.Str.Mapped → Shared → Prop} (hh : A.handled = none) (hS : (T == sysModules) = false) (hc : c ≠ 59)
    (hT : s.heap.DictOf (PySem.intKind prog w) T [(59, .none)])
    (h : ∀ h' tk, (∀ b o, s.heap.get? b = some o → h'.get? b = some o) → Q .keep { s with heap := h', toks := tk }) :
    wpAny (model prog w) A (Builtin.Str.tableLookup (.ref T) c) Q E s := by
  unfold Builtin.Str.tableLookup
  refine wpAny_bind (wpAny_attempt (wpAny_bind (wpAny_mkInt ?_)))
  have hT1 : ({ s with toks := s.toks + 1 } : Shared).heap.MapOf (PySem.intKind prog w) T (valueAt [((59 : Int), .none)]) := hT.mapOf
  refine wpAny_getItem_missing_of (k := (c : Int)) (PySem.intKind_is prog w _ _) hS hh hT1 ?hv fun h' e he => ?_
  case hv =>
    have : ((c : Int) = 59) = False := by apply eq_false; omega
    have h2 : ((59 : Int) = (c : Int)) = False := by apply eq_false; omega
    simp [valueAt, this, h2]
  refine hid fun hn9_394 => ?_
  obtain ⟨ob, t, ho, hc, hd⟩ := he.there
  refine hn9_394 ?_
  clear hn9_394
  dsimp only
  refine wpAny_bind (wpAny_isInstance (T := "KeyError") ⟨ob, ho, hc⟩ sub_key ?_)
  rw [if_pos rfl]
  exact wpAny_bind (wpAny_rule (wpAny_pure (h _ _ he.keeps)))
theorem fold_cons (l : List Str) (c : Nat) : (((⟨#[c]⟩ : Str) :: l).reverse.foldl (fun acc p => acc ++ p.cps) #[]) = (l.reverse.foldl (fun acc p => acc ++ p.cps) #[]).push c := by
  rw [List.reverse_cons, List.foldl_append]; simp
theorem call_tr {T : Addr} {W : Str} {t : Tok} {Q : Value → Shared → Prop} (hh : A.handled = none) (hS : (T == sysModules) = false)
    (hT : s.heap.DictOf (PySem.intKind prog w) T [(59, .none)]) (h0 : (W.length == 0) = false) (hw : W.cps.toList.all (· != 59) = true) (ha : W.cps.all (· < 128) = false) (hl : W.length ≤ 1000)
    (h : ∀ h' t' tk, (∀ b o, s.heap.get? b = some o → h'.get? b = some o) → Q (.str W t') { s with heap := h', toks := tk }) :
    wpAny (model prog w) A (call (.builtin "str.translate") [.str W t, .ref T]) Q E s := by
  refine wpAny_call (codeAny_call_builtin pl_tr entry_tr (wpAny_of_eq (check_tr _ _ _) ?_))
  unfold Builtin.«str.translate»
  refine wpAny_bind (wpAny_of_eq (a := (.str W t, W, .ref T)) (by kernel_rfl) ?_)
  dsimp only
  rw [h0, ha]
  rw [if_neg (by exact Bool.false_ne_true)]
  refine wpAny_bind ?_
  refine PySem.MeetsSeq2.wpAny_forIn_array _ (fun rest b s' => ∃ pre, W.cps.toList = pre ++ rest ∧ b.1.reverse.foldl (fun acc p => acc ++ p.cps) #[] = pre.toArray ∧ b.2.1 = pre.length ∧ b.2.2.1 = false ∧ b.2.2.2.2 = false ∧
    rest.all (· != 59) = true ∧ (∀ b o, s.heap.get? b = some o → s'.heap.get? b = some o) ∧ ∃ h' tk, s' = { s with heap := h', toks := tk }) _ ?turn ?fin _ _ ⟨[], rfl, rfl, rfl, rfl, rfl, hw, fun _ _ x => x, s.heap, s.toks, rfl⟩
  case turn =>
    rintro x rest r9_395_2 s' r9_395_4
    refine hid fun hn9_395 => ?_
    obtain ⟨b1, b2, b3, b4, b5⟩ := r9_395_2
    obtain ⟨pre, e1, e2, e3, e4, e5, e6, e7, h', tk, rfl⟩ := r9_395_4
    refine hn9_395 ?_
    clear hn9_395
    dsimp only at e2 e3 e4 e5 e7 ⊢
    subst e4 e5
    have hle : pre.length ≤ 1000 := by
      have := congrArg List.length e1
      rw [List.length_append] at this
      have h3 : W.cps.toList.length = W.length := by simp [Str.length]
      omega
    have htl : Builtin.Str.tooLong b2 = false := by
      rw [e3]; unfold Builtin.Str.tooLong; exact decide_eq_false (by have : sizeLine = 16777216 := by decide +kernel
                                                                     omega)
    rw [htl]
    rw [List.all_cons, Bool.and_eq_true] at e6
    refine KFB.if_not rfl ?_
    refine KFB.if_not rfl ?_
    refine KFB.if_not rfl ?_
    have hx : x ≠ 59 := by intro hx; rw [hx] at e6; exact absurd e6.1 (by decide)
    refine wpAny_bind (look_keep (A := A.in1) hh hS hx (hT.keep e7) fun h2 tk2 k2 => ?_)
    dsimp only
    refine wpAny_pure ⟨pre ++ [x], by rw [e1, List.append_assoc]; rfl, ?_, ?_, rfl, rfl, e6.2, fun b o hb => k2 b o (e7 b o hb), h2, tk2, rfl⟩
    · rw [fold_cons, e2]; simp
    · rw [e3]; simp
  case fin =>
    rintro r9_396_0 s' r9_396_2
    refine hid fun hn9_396 => ?_
    obtain ⟨b1, b2, b3, b4, b5⟩ := r9_396_0
    obtain ⟨pre, e1, e2, e3, e4, e5, e6, e7, h', tk, rfl⟩ := r9_396_2
    refine hn9_396 ?_
    clear hn9_396
    dsimp only at e2 e3 e7 ⊢
    rw [List.append_nil] at e1
    have hle : pre.length = W.length := by rw [← e1]; simp [Str.length]
    have hlt : 1000 ≤ sizeLine := by decide +kernel
    have htl : Builtin.Str.tooLong b2 = false := by
      rw [e3]; unfold Builtin.Str.tooLong; exact decide_eq_false (by omega)
    rw [htl]
    refine KFB.if_not rfl ?_
    rw [e2, ← e1]
    unfold retStr
    refine wpAny_bind (wpAny_mkStr ?_ (Nat.le_trans hl hlt))
    exact wpAny_pure (h h' _ _ e7)
end
section
open PySem PySem.Calls
variable {prog : Program} {w : World} {A : Around} {E : Value → Shared → Prop} {s : Shared} {g : Heap} {L : Addr} {m : Str → Option Value} {l : List (Addr × Obj)}
theorem Nkeep {g h h' : Heap} {l : List (Addr × Obj)} (N : News g L h l) (hk : ∀ b o, h.get? b = some o → h'.get? b = some o) : News g L h' l := fun p hp => ⟨hk _ _ (N p hp).1, (N p hp).2⟩
theorem fk_stage {x : Addr} {t : Tok} {Q : Value → Shared → Prop} (hA : A.handled = none) (F : Fr g L s.heap m) (N : News g L s.heap l) (hm : (x, boundK) ∈ l) (hL : g.NoLimit)
    (h : ∀ (D : Nat) o h' t', Fr g L h' m → News g L h' ((D, o) :: l) → (∀ p ∈ l, p.1 < D) → o.IsDictOf (PySem.strKind prog w) [(Str.ofString ";", .none)] → (D == sysModules) = false → Q (.ref D) { s with heap := h', toks := t' }) :
    wpAny (model prog w) A (call (.ref x) [.str (Str.ofString ";") t]) Q E s := by
  refine call_fk hA (N _ hm).1 fun h' t' hd hk => ?_
  refine hid fun hn9_397 => ?_
  obtain ⟨o, ho, hd⟩ := Heap.dictOf_iff.mp hd
  refine hn9_397 ?_
  clear hn9_397
  refine h _ o h' t' (F.keptAll hk) (fun p hp => ?_) (fun p hp => Heap.lt_size (N p hp).1) hd (F.notModules (modules_low hL))
  rcases List.mem_cons.mp hp with rfl | hp
  · exact ⟨ho, Ne.symm (Nat.ne_of_lt F.ns.lt), next_is_new F⟩
  · exact Nkeep N hk p hp
theorem mt_stage {D : Addr} {o : Obj} {Q : Value → Shared → Prop} (F : Fr g L s.heap m) (N : News g L s.heap l) (hm : (D, o) ∈ l) (hS : (D == sysModules) = false) (hD : o.IsDictOf (PySem.strKind prog w) [(Str.ofString ";", .none)]) (hL : g.NoLimit)
    (h : ∀ (T : Nat) o h' t', Fr g L h' m → News g L h' ((T, o) :: l) → (∀ p ∈ l, p.1 < T) → o.IsDictOf (PySem.intKind prog w) [((59 : Int), .none)] → (T == sysModules) = false → Q (.ref T) { s with heap := h', toks := t' }) :
    wpAny (model prog w) A (call (.builtin "str.maketrans") [.ref D]) Q E s := by
  refine call_mt hS (Heap.dictOf_iff.mpr ⟨o, (N _ hm).1, hD⟩) fun h' t' hd hk => ?_
  refine hid fun hn9_398 => ?_
  obtain ⟨o, ho, hd⟩ := Heap.dictOf_iff.mp hd
  refine hn9_398 ?_
  clear hn9_398
  refine h _ o h' t' (F.keptAll hk) (fun p hp => ?_) (fun p hp => Heap.lt_size (N p hp).1) hd (F.notModules (modules_low hL))
  rcases List.mem_cons.mp hp with rfl | hp
  · exact ⟨ho, Ne.symm (Nat.ne_of_lt F.ns.lt), next_is_new F⟩
  · exact Nkeep N hk p hp
theorem tr_stage {T : Addr} {o : Obj} {W : Str} {t : Tok} {Q : Value → Shared → Prop} (hA : A.handled = none) (F : Fr g L s.heap m) (N : News g L s.heap l) (hm : (T, o) ∈ l) (hS : (T == sysModules) = false) (hT : o.IsDictOf (PySem.intKind prog w) [((59 : Int), .none)])
    (h0 : (W.length == 0) = false) (hw : W.cps.toList.all (· != 59) = true) (ha : W.cps.all (· < 128) = false) (hl : W.length ≤ 1000)
    (h : ∀ h' t1 t', Fr g L h' m → News g L h' l → Q (.str W t1) { s with heap := h', toks := t' }) :
    wpAny (model prog w) A (call (.builtin "str.translate") [.str W t, .ref T]) Q E s :=
  call_tr hA hS (Heap.dictOf_iff.mpr ⟨o, (N _ hm).1, hT⟩) h0 hw ha hl fun h' t1 t' hk => h h' t1 t' (F.keptAll hk) (Nkeep N hk)
end
section
open PySem PySem.Calls
theorem slot_tr : Slot "str" (Str.ofString "translate") "str.translate" :=
  .of (owner := "str") (n := "translate") (by rw [typeLookup_type, builtinLookup_eq_fast]; kernel_rfl) (by decide +kernel) (by decide +kernel) (by decide +kernel) (.inr (by decide +kernel)) (by kernel_rfl)
theorem ty_tr : typeOf (.builtin "str.translate") = pure (.type "method_descriptor") := by show builtinType _ = _; rw [builtinType_eq_fast]; kernel_rfl
theorem get_translate {M : Model} {A : Around} {E : Value → Shared → Prop} {s : Shared} {x : Str} {t : Tok} {pl : Sem Bool} {Q : Value × List Value → Shared → Prop} (h : Q (.builtin "str.translate", [.str x t]) s) :
    wpAny M A (getMethod (.str x t) (Str.ofString "translate") pl) Q E s := by
  have hT : s.TypeIs (.str x t) "str" := rfl
  refine getMethod_builtin (v := .str x t) (T := "str") (name := Str.ofString "translate") (id := "str.translate") (pl := pl) hT F.plainAttrs_str slot_tr ty_tr ?_ h
  intro _ e
  exact nomatch e
end
end
section
-- text Lh
local macro_rules | `(tactic| k_all) => `(tactic| ((repeat (with_reducible rename (_ ∧ _) => hh9; cases hh9)); first | exact allNe (by assumption) (Nat.le_refl _) | exact allNe (by assumption) (Nat.le_succ _) | exact allNe2 (by assumption) (Nat.le_refl _) | exact off1Mem (by assumption) | assumption | exact allNe2 (by assumption) (by omega) | exact allNe (by assumption) (by omega)))
theorem gen_toks {M : Model} {A : Around} {α : Type} {x : Sem α} {Q : α → Shared → Prop} {E : Value → Shared → Prop} {hp : Heap} {s : Shared} {t0 : Nat} (h : ∀ t : Nat, wpAny M A x Q E { heap := hp, gens := s.gens, drawn := s.drawn, toks := t, os := s.os }) : wpAny M A x Q E { heap := hp, gens := s.gens, drawn := s.drawn, toks := t0, os := s.os } := h t0
theorem under_units (A : Around) (args : Args) : (A.under (.builtin "type.__call__" args)).units = A.units + 1 := rfl
theorem under_depth (A : Around) (C : Addr) (vs : List Value) (kw : List (Str × Value)) : (A.under (.builtin "type.__call__" ⟨.ref C :: vs, kw⟩)).depth = A.depth + 1 := rfl
section
variable {w : World} {p : Program} {loose : List Str} {mean : ExcName → Option Value} {mg mb : Str → Option Value}
  {dp un : Nat} {gd : Option (List Code)} {cn : Str} {cs : Scope} {a : Addr} {ccd : Value} {cl : List (Str × Addr)} {outer : List Env} {A₀ : Around} {base h₀ : Heap} {L : Addr} {m : Str → Option Value} {s : Shared} {Q E : Value → Shared → Prop}
noncomputable def tkL (l : List Tok) (i : Nat) : Tok := l.getD i 0
theorem sh_close {g h' : Heap} {L : Addr} {P : Params} {x dx y dy q pb fs : Nat} {buf : Str} {p1 p2 p3 : Addr × Obj} {news : List (Addr × Obj)} {a0 a1 a2 a3 a4 a5 a6 a7 a8 a9 a10 a11 a12 a13 a14 a15 a16 a17 a18 a19 b1 b2 b3 v4 v5 v6 v8 v9 v10 v14 v18 u1 u2 tp stt tl tt : Tok}
  (N : News g L h' (p1 :: p2 :: p3 :: (q, dqObj 0 []) :: (fs, dqObj 0 []) :: (pb, dqObj 0 []) :: (y, instObj 747 dy) :: (dy, dictOf (stEs P b1 b2 b3 u1 u2 buf 0 tp) 3) :: (x, instObj 882 dx) :: (dx, dictOf [en P "instream" a0 (.ref y), en P "infile" a1 .none, en P "posix" a2 (.bool true), en P "eof" a3 .none, en P "commenters" a4 (.str "#" v4), en P "wordchars" a5 (.str wch v5), en P "whitespace" a6 (.str " \t\r\n" v6), en P "whitespace_split" a7 (.bool false), en P "quotes" a8 (.str "'\"" v8), en P "escape" a9 (.str "\\" v9), en P "escapedquotes" a10 (.str "\"" v10), en P "state" a11 (.str " " stt), en P "pushback" a12 (.ref pb), en P "lineno" a13 (.int 1 tl), en P "debug" a14 (.int 0 v14), en P "token" a15 (.str "" tt), en P "filestack" a16 (.ref fs), en P "source" a17 .none, en P "_punctuation_chars" a18 (.str ";" v18), en P "_pushback_chars" a19 (.ref q)] 20) :: news)) :
  News g L h' (rsLed P ⟨x, dx, q, y, dy, pb, fs, tkL [a0, a1, a2, a3, a4, a5, a6, a7, a8, a9, a10, a11, a12, a13, a14, a15, a16, a17, a18, a19, b1, b2, b3], tkL [0, 0, 0, 0, v4, v5, v6, 0, v8, v9, v10, 0, 0, 0, v14, 0, 0, 0, v18, 0, u1, u2], buf, (pb, dqObj 0 []) :: (fs, dqObj 0 []) :: news⟩ (some " ") 1 "" none 0 stt tl tt 0 tp 0) :=
  kst_newsOf N (mc (matN 3 rfl) (mc (matN 9 rfl) (mc (matN 8 rfl) (mc (matN 7 rfl) (mc (matN 6 rfl) (mc (matN 5 rfl) (mc (matN 4 rfl) (mdrop 10 rfl))))))))
theorem sh_spec {buf : Str} {t1 t2 : Tok} {news : List (Addr × Obj)}
  (B : Below A₀ base outer h₀) (F : Fr h₀ L s.heap m) (X : (Mine.mkK.heap_1 w.params).In h₀) (N : News h₀ L s.heap news)
  (T : Top p loose mean mg mb h₀) (hk : cs.kind = .function) (hdp : dp + 50 < recursionLimit) (hun : un + 400 < cLine) (hb : buf.length ≤ 100000)
  (h : ∀ (x dx y dy q pb fs : Nat) (kt vt : Nat → Tok) (stt tl tt td tp : Tok) h' tk', (∀ p ∈ news, p.1 < dx) → dx < x → x < dy → dy < y → y < pb → pb < fs → fs < q → Fr h₀ L h' m →
    News h₀ L h' (rsLed w.params ⟨x, dx, q, y, dy, pb, fs, kt, vt, buf, (pb, dqObj 0 []) :: (fs, dqObj 0 []) :: news⟩ (some " ") 1 "" none 0 stt tl tt td tp 0) → Q (.ref x) { s with heap := h', toks := tk' }) :
  wpAny (model PySem.Challenge.rw_in0111_01.row.prog w) (ktrTop dp un gd cn cs L a ccd cl outer) (call (.ref 882) [.str buf t1] [(Str.ofString "posix", .bool true), (Str.ofString "punctuation_chars", .str (Str.ofString ";") t2)]) Q E s := by
  revert X; k_fill; intro X
  k_dflt (refine' call_cls ?c1 ?c2 ?c3 ?c4 ?c5 ?c6 ?_)
  case c1 => k_asm
  case c2 => k_asm
  case c3 => k_asm
  case c4 => k_is
  case c5 => k_is
  case c6 => k_is
  intro xA dxA h1 F1 N1 l1 l2
  refine hid fun hn9_399 => ?_
  obtain ⟨x, hxA⟩ : ∃ n : Nat, n = xA := ⟨_, rfl⟩
  refine hn9_399 ?_
  clear hn9_399
  refine hid fun hn9_400 => ?_
  obtain ⟨dx, hdA⟩ : ∃ n : Nat, n = dxA := ⟨_, rfl⟩
  refine hn9_400 ?_
  clear hn9_400
  refine hid fun hn9_401 => ?_
  subst hxA <;> (refine hn9_401 ?_; clear hn9_401)
  refine hid fun hn9_402 => ?_
  subst hdA <;> (refine hn9_402 ?_; clear hn9_402)
  replace l2 : dx < x := l2
  have l0 := ltOf l1
  ((k_dflt (refine' code_def ?k1q ?k2q ?k3q ?k4q ?k5q ?kAq ?kFq ?kKq ?k6q ?k7q ?k8q ?k9q ?kBq ?_ ?c2q ?c3q ?c4q ?c5q; (case kAq => exact rfl); (case kFq => exact rfl); (case kKq => assumption); (case k1q => k_asm); (case k2q => k_asm); (case k3q => k_asm); (case k4q => k_asm); (case k5q => k_asm); (case k6q => k_is); (case k7q => k_is); (case k8q => ktr_room); (case k9q => first | exact BindsTo.of_eq rfl | exact binds_K (by k_in) rfl (by k_is) rfl rfl rfl); (case c5q => decide); (case kBq => exact locs rfl); (case c2q => exact rfl); (case c3q => exact rfl); (case c4q => exact rfl); k_whole; intro gq Lq hq FGq Fq Nq Bq Xq Tq; (try dsimp only); (try k_lift Bq); (try k_fold))))
  (repeat' (first | (k_unfold; (try dsimp only)) | (k_end; wrow_close) | ((fail_if_success (with_reducible show wpAny _ _ (call (Value.ref 747) _) _ _ _)); (first | (with_reducible (k_here; first | (refine ite_bt ?hq ?_; (case hq => with_reducible assumption)) | (refine ite_bf ?hq ?_; (case hq => with_reducible assumption)) | (refine ite_in_t ?hq ?_; (case hq => with_reducible assumption)) | (refine ite_in_f ?hq ?_; (case hq => with_reducible assumption)) | (refine ite_bt ?hq ?_; (case hq => decide +kernel)) | (refine ite_bf ?hq ?_; (case hq => decide +kernel)))) | ((with_reducible show wpAny _ _ (setAttr (Value.ref _) _ _) _ _ _); with_reducible (k_here; (try dsimp only); (refine gen_toks ?_; intro tgq); k_dflt (refine' set_dict ?k1q ?k2q ?k3q ?k4q ?k5q ?k6q ?k7q ?k8q ?k9q ?k10q ?k11q ?k12q ?k13q ?_; (case k1q => k_asm); (case k2q => k_asm); (case k3q => k_asm); (case k4q => k_inst); (case k5q => exact rfl); (case k6q => k_is); (case k7q => k_is); (case k8q => k_is); (case k9q => k_is); (case k10q => k_get); (case k11q => k_put); (case k12q => k_upd); (case k13q => exact Nat.le_of_ble_eq_true rfl); k_whole; intro hq Fq Nq; (try dsimp only at Nq); (try k_sweep)))) | walk1)) | (dsimp only; (fail_if_success (with_reducible show wpAny _ _ (call (Value.ref 747) _) _ _ _)); walk1) | (leave1; (try dsimp only)) | fail "no step"))
  k_dflt (refine' st_spec ?sB ?sF ?sX ?sN ?sT ?sK ?sd ?su hb ?_)
  case sF => k_asm
  case sN => k_asm
  case sB => k_asm
  case sX => k_asm
  case sT => k_asm
  case sK => exact rfl
  case sd => (simp only [under_units, under_depth, depth_deeper, units_deeper]; ktr_room)
  case su => (simp only [under_units, under_depth, depth_deeper, units_deeper]; ktr_units)
  intro y dy k1 k2 k3 u1 u2 u3 h4 tk4 l3 l4 F4 N4
  replace l3 := ltOf l3
  simp only [AllLt] at l3
  refine hid fun hn9_403 => ?_
  obtain ⟨g1, g2, g3⟩ := l3
  refine hn9_403 ?_
  clear hn9_403
  have g4 : x < y := Nat.lt_trans g1 l4
  have g5 : dx < y := Nat.lt_trans g2 l4
  (repeat' (first | (k_unfold; (try dsimp only)) | (k_end; wrow_close) | ((fail_if_success (with_reducible show wpAny _ _ (call (Value.type "collections.deque") _) _ _ _)); (first | (with_reducible (k_here; first | (refine ite_bt ?hq ?_; (case hq => with_reducible assumption)) | (refine ite_bf ?hq ?_; (case hq => with_reducible assumption)) | (refine ite_in_t ?hq ?_; (case hq => with_reducible assumption)) | (refine ite_in_f ?hq ?_; (case hq => with_reducible assumption)) | (refine ite_bt ?hq ?_; (case hq => decide +kernel)) | (refine ite_bf ?hq ?_; (case hq => decide +kernel)))) | ((with_reducible show wpAny _ _ (setAttr (Value.ref _) _ _) _ _ _); with_reducible (k_here; (try dsimp only); (refine gen_toks ?_; intro tgq); k_dflt (refine' set_dict ?k1q ?k2q ?k3q ?k4q ?k5q ?k6q ?k7q ?k8q ?k9q ?k10q ?k11q ?k12q ?k13q ?_; (case k1q => k_asm); (case k2q => k_asm); (case k3q => k_asm); (case k4q => k_inst); (case k5q => exact rfl); (case k6q => k_is); (case k7q => k_is); (case k8q => k_is); (case k9q => k_is); (case k10q => k_get); (case k11q => k_put); (case k12q => k_upd); (case k13q => exact Nat.le_of_ble_eq_true rfl); k_whole; intro hq Fq Nq; (try dsimp only at Nq); (try k_sweep)))) | walk1)) | (dsimp only; (fail_if_success (with_reducible show wpAny _ _ (call (Value.type "collections.deque") _) _ _ _)); walk1) | (leave1; (try dsimp only)) | fail "no step"))
  k_dflt (refine' dq_new ?d1F ?d1N ?_)
  case d1F => k_asm
  case d1N => k_asm
  intro D1 hd1 Fd1 Nd1 ld1
  replace ld1 := ltOf ld1
  simp only [AllLt] at ld1
  (repeat' (first | (k_unfold; (try dsimp only)) | (k_end; wrow_close) | ((fail_if_success (with_reducible show wpAny _ _ (call (Value.type "collections.deque") _) _ _ _)); (first | (with_reducible (k_here; first | (refine ite_bt ?hq ?_; (case hq => with_reducible assumption)) | (refine ite_bf ?hq ?_; (case hq => with_reducible assumption)) | (refine ite_in_t ?hq ?_; (case hq => with_reducible assumption)) | (refine ite_in_f ?hq ?_; (case hq => with_reducible assumption)) | (refine ite_bt ?hq ?_; (case hq => decide +kernel)) | (refine ite_bf ?hq ?_; (case hq => decide +kernel)))) | ((with_reducible show wpAny _ _ (setAttr (Value.ref _) _ _) _ _ _); with_reducible (k_here; (try dsimp only); (refine gen_toks ?_; intro tgq); k_dflt (refine' set_dict ?k1q ?k2q ?k3q ?k4q ?k5q ?k6q ?k7q ?k8q ?k9q ?k10q ?k11q ?k12q ?k13q ?_; (case k1q => k_asm); (case k2q => k_asm); (case k3q => k_asm); (case k4q => k_inst); (case k5q => exact rfl); (case k6q => k_is); (case k7q => k_is); (case k8q => k_is); (case k9q => k_is); (case k10q => k_get); (case k11q => k_put); (case k12q => k_upd); (case k13q => exact Nat.le_of_ble_eq_true rfl); k_whole; intro hq Fq Nq; (try dsimp only at Nq); (try k_sweep)))) | walk1)) | (dsimp only; (fail_if_success (with_reducible show wpAny _ _ (call (Value.type "collections.deque") _) _ _ _)); walk1) | (leave1; (try dsimp only)) | fail "no step"))
  k_dflt (refine' dq_new ?d2F ?d2N ?_)
  case d2F => k_asm
  case d2N => k_asm
  intro D2 hd2 Fd2 Nd2 ld2
  replace ld2 := ltOf ld2
  simp only [AllLt] at ld2
  (repeat' (first | (k_unfold; (try dsimp only)) | (k_end; wrow_close) | ((fail_if_success (with_reducible show wpAny _ _ (call (Value.type "collections.deque") _) _ _ _)); (first | (with_reducible (k_here; first | (refine ite_bt ?hq ?_; (case hq => with_reducible assumption)) | (refine ite_bf ?hq ?_; (case hq => with_reducible assumption)) | (refine ite_in_t ?hq ?_; (case hq => with_reducible assumption)) | (refine ite_in_f ?hq ?_; (case hq => with_reducible assumption)) | (refine ite_bt ?hq ?_; (case hq => decide +kernel)) | (refine ite_bf ?hq ?_; (case hq => decide +kernel)))) | ((with_reducible show wpAny _ _ (setAttr (Value.ref _) _ _) _ _ _); with_reducible (k_here; (try dsimp only); (refine gen_toks ?_; intro tgq); k_dflt (refine' set_dict ?k1q ?k2q ?k3q ?k4q ?k5q ?k6q ?k7q ?k8q ?k9q ?k10q ?k11q ?k12q ?k13q ?_; (case k1q => k_asm); (case k2q => k_asm); (case k3q => k_asm); (case k4q => k_inst); (case k5q => exact rfl); (case k6q => k_is); (case k7q => k_is); (case k8q => k_is); (case k9q => k_is); (case k10q => k_get); (case k11q => k_put); (case k12q => k_upd); (case k13q => exact Nat.le_of_ble_eq_true rfl); k_whole; intro hq Fq Nq; (try dsimp only at Nq); (try k_sweep)))) | walk1)) | (dsimp only; (fail_if_success (with_reducible show wpAny _ _ (call (Value.type "collections.deque") _) _ _ _)); walk1) | (leave1; (try dsimp only)) | fail "no step"))
  k_dflt (refine' dq_new ?d3F ?d3N ?_)
  case d3F => k_asm
  case d3N => k_asm
  intro D3 hd3 Fd3 Nd3 ld3
  replace ld3 := ltOf ld3
  simp only [AllLt] at ld3
  (repeat' (first | (k_unfold; (try dsimp only)) | (k_end; wrow_close) | (first | (with_reducible (k_here; first | (refine ite_bt ?hq ?_; (case hq => with_reducible assumption)) | (refine ite_bf ?hq ?_; (case hq => with_reducible assumption)) | (refine ite_in_t ?hq ?_; (case hq => with_reducible assumption)) | (refine ite_in_f ?hq ?_; (case hq => with_reducible assumption)) | (refine ite_bt ?hq ?_; (case hq => decide +kernel)) | (refine ite_bf ?hq ?_; (case hq => decide +kernel)))) | ((with_reducible show wpAny _ _ (setAttr (Value.ref _) _ _) _ _ _); with_reducible (k_here; (try dsimp only); (refine gen_toks ?_; intro tgq); k_dflt (refine' set_dict ?k1q ?k2q ?k3q ?k4q ?k5q ?k6q ?k7q ?k8q ?k9q ?k10q ?k11q ?k12q ?k13q ?_; (case k1q => k_asm); (case k2q => k_asm); (case k3q => k_asm); (case k4q => k_inst); (case k5q => exact rfl); (case k6q => k_is); (case k7q => k_is); (case k8q => k_is); (case k9q => k_is); (case k10q => k_get); (case k11q => k_put); (case k12q => k_upd); (case k13q => exact Nat.le_of_ble_eq_true rfl); k_whole; intro hq Fq Nq; (try dsimp only at Nq); (try k_sweep)))) | walk1) | (dsimp only; walk1) | (leave1; (try dsimp only)) | fail "no step"))
  refine get_maketrans fun k9 => ?_
  (repeat' (first | (k_unfold; (try dsimp only)) | (k_end; wrow_close) | ((fail_if_success (with_reducible show wpAny _ _ (getMethod (Value.type "dict") _ _) _ _ _)); (first | (with_reducible (k_here; first | (refine ite_bt ?hq ?_; (case hq => with_reducible assumption)) | (refine ite_bf ?hq ?_; (case hq => with_reducible assumption)) | (refine ite_in_t ?hq ?_; (case hq => with_reducible assumption)) | (refine ite_in_f ?hq ?_; (case hq => with_reducible assumption)) | (refine ite_bt ?hq ?_; (case hq => decide +kernel)) | (refine ite_bf ?hq ?_; (case hq => decide +kernel)))) | ((with_reducible show wpAny _ _ (setAttr (Value.ref _) _ _) _ _ _); with_reducible (k_here; (try dsimp only); (refine gen_toks ?_; intro tgq); k_dflt (refine' set_dict ?k1q ?k2q ?k3q ?k4q ?k5q ?k6q ?k7q ?k8q ?k9q ?k10q ?k11q ?k12q ?k13q ?_; (case k1q => k_asm); (case k2q => k_asm); (case k3q => k_asm); (case k4q => k_inst); (case k5q => exact rfl); (case k6q => k_is); (case k7q => k_is); (case k8q => k_is); (case k9q => k_is); (case k10q => k_get); (case k11q => k_put); (case k12q => k_upd); (case k13q => exact Nat.le_of_ble_eq_true rfl); k_whole; intro hq Fq Nq; (try dsimp only at Nq); (try k_sweep)))) | walk1)) | (dsimp only; (fail_if_success (with_reducible show wpAny _ _ (getMethod (Value.type "dict") _ _) _ _ _)); walk1) | (leave1; (try dsimp only)) | fail "no step"))
  k_dflt (refine' getm_fk ?gF ?gN ?gX ?ge ?_)
  case gF => k_asm
  case gN => k_asm
  case gX => k_asm
  case ge => k_is
  intro xk hxk Fxk Nxk lxk
  replace lxk := ltOf lxk
  simp only [AllLt] at lxk
  (repeat' (first | (k_unfold; (try dsimp only)) | (k_end; wrow_close) | ((fail_if_success (with_reducible show wpAny _ _ (callWith _ _ _ _ _) _ _ _)); (first | (with_reducible (k_here; first | (refine ite_bt ?hq ?_; (case hq => with_reducible assumption)) | (refine ite_bf ?hq ?_; (case hq => with_reducible assumption)) | (refine ite_in_t ?hq ?_; (case hq => with_reducible assumption)) | (refine ite_in_f ?hq ?_; (case hq => with_reducible assumption)) | (refine ite_bt ?hq ?_; (case hq => decide +kernel)) | (refine ite_bf ?hq ?_; (case hq => decide +kernel)))) | ((with_reducible show wpAny _ _ (setAttr (Value.ref _) _ _) _ _ _); with_reducible (k_here; (try dsimp only); (refine gen_toks ?_; intro tgq); k_dflt (refine' set_dict ?k1q ?k2q ?k3q ?k4q ?k5q ?k6q ?k7q ?k8q ?k9q ?k10q ?k11q ?k12q ?k13q ?_; (case k1q => k_asm); (case k2q => k_asm); (case k3q => k_asm); (case k4q => k_inst); (case k5q => exact rfl); (case k6q => k_is); (case k7q => k_is); (case k8q => k_is); (case k9q => k_is); (case k10q => k_get); (case k11q => k_put); (case k12q => k_upd); (case k13q => exact Nat.le_of_ble_eq_true rfl); k_whole; intro hq Fq Nq; (try dsimp only at Nq); (try k_sweep)))) | walk1)) | (dsimp only; (fail_if_success (with_reducible show wpAny _ _ (callWith _ _ _ _ _) _ _ _)); walk1) | (leave1; (try dsimp only)) | fail "no step"))
  refine callWith_fk rfl ?_
  refine PySem.Calls.evalArgs_plain (PySem.Calls.spliced_cons ?_)
  refine KFB.if_not rfl ?_
  (repeat' (first | (k_unfold; (try dsimp only)) | (k_end; wrow_close) | (first | (with_reducible (k_here; first | (refine ite_bt ?hq ?_; (case hq => with_reducible assumption)) | (refine ite_bf ?hq ?_; (case hq => with_reducible assumption)) | (refine ite_in_t ?hq ?_; (case hq => with_reducible assumption)) | (refine ite_in_f ?hq ?_; (case hq => with_reducible assumption)) | (refine ite_bt ?hq ?_; (case hq => decide +kernel)) | (refine ite_bf ?hq ?_; (case hq => decide +kernel)))) | ((with_reducible show wpAny _ _ (setAttr (Value.ref _) _ _) _ _ _); with_reducible (k_here; (try dsimp only); (refine gen_toks ?_; intro tgq); k_dflt (refine' set_dict ?k1q ?k2q ?k3q ?k4q ?k5q ?k6q ?k7q ?k8q ?k9q ?k10q ?k11q ?k12q ?k13q ?_; (case k1q => k_asm); (case k2q => k_asm); (case k3q => k_asm); (case k4q => k_inst); (case k5q => exact rfl); (case k6q => k_is); (case k7q => k_is); (case k8q => k_is); (case k9q => k_is); (case k10q => k_get); (case k11q => k_put); (case k12q => k_upd); (case k13q => exact Nat.le_of_ble_eq_true rfl); k_whole; intro hq Fq Nq; (try dsimp only at Nq); (try k_sweep)))) | walk1) | (dsimp only; walk1) | (leave1; (try dsimp only)) | fail "no step"))
  · exact (Nxk _ List.mem_cons_self).1
  k_dflt (refine' fk_stage rfl ?fF ?fN List.mem_cons_self ?fL ?_)
  case fF => k_asm
  case fN => k_asm
  case fL => exact Top.nolimit (by k_asm)
  intro DD oD hDD tDD FDD NDD lDD iDD sDD
  replace lDD := ltOf lDD
  simp only [AllLt] at lDD
  (repeat' (first | (k_unfold; (try dsimp only)) | (k_end; wrow_close) | ((fail_if_success (with_reducible show wpAny _ _ (call (Value.builtin "str.maketrans") _) _ _ _)); (first | (with_reducible (k_here; first | (refine ite_bt ?hq ?_; (case hq => with_reducible assumption)) | (refine ite_bf ?hq ?_; (case hq => with_reducible assumption)) | (refine ite_in_t ?hq ?_; (case hq => with_reducible assumption)) | (refine ite_in_f ?hq ?_; (case hq => with_reducible assumption)) | (refine ite_bt ?hq ?_; (case hq => decide +kernel)) | (refine ite_bf ?hq ?_; (case hq => decide +kernel)))) | ((with_reducible show wpAny _ _ (setAttr (Value.ref _) _ _) _ _ _); with_reducible (k_here; (try dsimp only); (refine gen_toks ?_; intro tgq); k_dflt (refine' set_dict ?k1q ?k2q ?k3q ?k4q ?k5q ?k6q ?k7q ?k8q ?k9q ?k10q ?k11q ?k12q ?k13q ?_; (case k1q => k_asm); (case k2q => k_asm); (case k3q => k_asm); (case k4q => k_inst); (case k5q => exact rfl); (case k6q => k_is); (case k7q => k_is); (case k8q => k_is); (case k9q => k_is); (case k10q => k_get); (case k11q => k_put); (case k12q => k_upd); (case k13q => exact Nat.le_of_ble_eq_true rfl); k_whole; intro hq Fq Nq; (try dsimp only at Nq); (try k_sweep)))) | walk1)) | (dsimp only; (fail_if_success (with_reducible show wpAny _ _ (call (Value.builtin "str.maketrans") _) _ _ _)); walk1) | (leave1; (try dsimp only)) | fail "no step"))
  k_dflt (refine' mt_stage ?fF ?fN List.mem_cons_self sDD iDD ?fL ?_)
  case fF => k_asm
  case fN => k_asm
  case fL => exact Top.nolimit (by k_asm)
  intro TT oT hTT tTT FTT NTT lTT iTT sTT
  replace lTT := ltOf lTT
  simp only [AllLt] at lTT
  (repeat' (first | (k_unfold; (try dsimp only)) | (k_end; wrow_close) | ((fail_if_success (with_reducible show wpAny _ _ (getMethod (Value.str _ _) _ _) _ _ _)); (first | (with_reducible (k_here; first | (refine ite_bt ?hq ?_; (case hq => with_reducible assumption)) | (refine ite_bf ?hq ?_; (case hq => with_reducible assumption)) | (refine ite_in_t ?hq ?_; (case hq => with_reducible assumption)) | (refine ite_in_f ?hq ?_; (case hq => with_reducible assumption)) | (refine ite_bt ?hq ?_; (case hq => decide +kernel)) | (refine ite_bf ?hq ?_; (case hq => decide +kernel)))) | ((with_reducible show wpAny _ _ (setAttr (Value.ref _) _ _) _ _ _); with_reducible (k_here; (try dsimp only); (refine gen_toks ?_; intro tgq); k_dflt (refine' set_dict ?k1q ?k2q ?k3q ?k4q ?k5q ?k6q ?k7q ?k8q ?k9q ?k10q ?k11q ?k12q ?k13q ?_; (case k1q => k_asm); (case k2q => k_asm); (case k3q => k_asm); (case k4q => k_inst); (case k5q => exact rfl); (case k6q => k_is); (case k7q => k_is); (case k8q => k_is); (case k9q => k_is); (case k10q => k_get); (case k11q => k_put); (case k12q => k_upd); (case k13q => exact Nat.le_of_ble_eq_true rfl); k_whole; intro hq Fq Nq; (try dsimp only at Nq); (try k_sweep)))) | walk1)) | (dsimp only; (fail_if_success (with_reducible show wpAny _ _ (getMethod (Value.str _ _) _ _) _ _ _)); walk1) | (leave1; (try dsimp only)) | fail "no step"))
  refine get_translate ?_
  (repeat' (first | (k_unfold; (try dsimp only)) | (k_end; wrow_close) | ((fail_if_success (with_reducible show wpAny _ _ (call (Value.builtin "str.translate") _) _ _ _)); (first | (with_reducible (k_here; first | (refine ite_bt ?hq ?_; (case hq => with_reducible assumption)) | (refine ite_bf ?hq ?_; (case hq => with_reducible assumption)) | (refine ite_in_t ?hq ?_; (case hq => with_reducible assumption)) | (refine ite_in_f ?hq ?_; (case hq => with_reducible assumption)) | (refine ite_bt ?hq ?_; (case hq => decide +kernel)) | (refine ite_bf ?hq ?_; (case hq => decide +kernel)))) | ((with_reducible show wpAny _ _ (setAttr (Value.ref _) _ _) _ _ _); with_reducible (k_here; (try dsimp only); (refine gen_toks ?_; intro tgq); k_dflt (refine' set_dict ?k1q ?k2q ?k3q ?k4q ?k5q ?k6q ?k7q ?k8q ?k9q ?k10q ?k11q ?k12q ?k13q ?_; (case k1q => k_asm); (case k2q => k_asm); (case k3q => k_asm); (case k4q => k_inst); (case k5q => exact rfl); (case k6q => k_is); (case k7q => k_is); (case k8q => k_is); (case k9q => k_is); (case k10q => k_get); (case k11q => k_put); (case k12q => k_upd); (case k13q => exact Nat.le_of_ble_eq_true rfl); k_whole; intro hq Fq Nq; (try dsimp only at Nq); (try k_sweep)))) | walk1)) | (dsimp only; (fail_if_success (with_reducible show wpAny _ _ (call (Value.builtin "str.translate") _) _ _ _)); walk1) | (leave1; (try dsimp only)) | fail "no step"))
  k_dflt (refine' tr_stage (W := wch) rfl ?fF ?fN ?fm sTT iTT (by decide +kernel) (by decide +kernel) (by decide +kernel) (by decide +kernel) ?_)
  case fF => k_asm
  case fN => k_asm
  case fm => k_mem
  intro hTR t1R tTR FTR NTR
  (repeat' (first | (k_unfold; (try dsimp only)) | (k_end; wrow_close) | (first | (with_reducible (k_here; first | (refine ite_bt ?hq ?_; (case hq => with_reducible assumption)) | (refine ite_bf ?hq ?_; (case hq => with_reducible assumption)) | (refine ite_in_t ?hq ?_; (case hq => with_reducible assumption)) | (refine ite_in_f ?hq ?_; (case hq => with_reducible assumption)) | (refine ite_bt ?hq ?_; (case hq => decide +kernel)) | (refine ite_bf ?hq ?_; (case hq => decide +kernel)))) | ((with_reducible show wpAny _ _ (setAttr (Value.ref _) _ _) _ _ _); with_reducible (k_here; (try dsimp only); (refine gen_toks ?_; intro tgq); k_dflt (refine' set_dict ?k1q ?k2q ?k3q ?k4q ?k5q ?k6q ?k7q ?k8q ?k9q ?k10q ?k11q ?k12q ?k13q ?_; (case k1q => k_asm); (case k2q => k_asm); (case k3q => k_asm); (case k4q => k_inst); (case k5q => exact rfl); (case k6q => k_is); (case k7q => k_is); (case k8q => k_is); (case k9q => k_is); (case k10q => k_get); (case k11q => k_put); (case k12q => k_upd); (case k13q => exact Nat.le_of_ble_eq_true rfl); k_whole; intro hq Fq Nq; (try dsimp only at Nq); (try k_sweep)))) | walk1) | (dsimp only; walk1) | (leave1; (try dsimp only)) | fail "no step"))
  refine' h _ _ _ _ _ _ _ _ _ _ _ _ _ _ _ _ l1 l2 g1 l4 ld1.1 ld2.1 ld3.1 ?hF (sh_close ?hN)
  case hF => k_asm
  case hN => k_asm
end
end
section
-- text Tw
section
noncomputable def valPart (x : Str) : List Nat × List (List Nat) := (quoteL x, if plainO x = true then [x.cps.toList] else pieces [] x.cps.toList)
noncomputable def wordC (p : PA) : List Nat := p.k.cps.toList.map dash
noncomputable def parPart (p : PA) : List Nat × List (List Nat) := match p.v with
  | none => (wordC p, [wordC p])
  | some v => if v.length = 0 then (wordC p, [wordC p]) else (wordC p ++ 61 :: 34 :: (v.cps.toList.flatMap denc ++ [34]), [wordC p ++ 61 :: v.cps.toList])
noncomputable def partsH (h : HA) : List (List Nat × List (List Nat)) := (h.v.map valPart).toList ++ h.ps.map parPart
noncomputable def HLof (h : HA) : HL := (h.k.cps.toList, partsH h)
noncomputable def tabL : List HA → List HL
  | [] => []
  | h :: r => if badH h = true then tabL r else HLof h :: tabL r
theorem sL_codes (l : List Nat) : (sL l).cps.toList = l := List.toList_toArray
theorem sL_eta (x : Str) : sL x.cps.toList = x := by
  show (⟨x.cps.toList.toArray⟩ : Str) = x
  rw [Array.toArray_toList]
theorem parT_eq (p : PA) : parT p = sL (parPart p).1 := by
  unfold parT parPart
  cases p.v with
  | none => rfl
  | some v =>
    dsimp only
    split
    · rfl
    · show sL ((sL (wordC p)).cps.toList ++ _) = _
      rw [sL_codes]
theorem tokP_eq (p : PA) : [tokP p] = (parPart p).2.map sL := by
  unfold tokP parPart
  cases p.v with
  | none => rfl
  | some v =>
    dsimp only
    split
    · rfl
    · show [sL (wordC p) ++ Str.ofString "=" ++ v] = [sL (wordC p ++ 61 :: v.cps.toList)]
      have e : Str.ofString "=" = sL [61] := by decide +kernel
      rw [e, ← sL_eta v, sL_app, sL_app, sL_codes, List.append_assoc]
      rfl
theorem join_semi : ∀ l : List (List Nat × List (List Nat)), (Str.join (Str.ofString "; ") (l.map fun p => sL p.1)).cps.toList = joinW l
  | [] => rfl
  | [p] => sL_codes p.1
  | p :: q :: r => by
    have ih := join_semi (q :: r)
    show (sL p.1 ++ Str.ofString "; " ++ Str.join (Str.ofString "; ") ((q :: r).map fun p => sL p.1)).cps.toList = p.1 ++ 59 :: 32 :: joinW (q :: r)
    simp only [Str.cps_append, Array.toList_append]
    rw [ih, sL_codes]
    have e : (Str.ofString "; ").cps.toList = [59, 32] := by decide +kernel
    rw [e, List.append_assoc]
    rfl
theorem hdr_parts (h : HA) : hdrT (quoO h.v) h.ps = Str.join (Str.ofString "; ") ((partsH h).map fun p => sL p.1) := by
  unfold hdrT partsH quoO
  congr 1
  rw [List.map_append, List.map_map]
  congr 1
  · cases h.v <;> rfl
  · exact List.map_congr_left fun p _ => parT_eq p
theorem join_rows : ∀ l : List Str, (Str.join (Str.ofString "\r\n") (l ++ [Str.ofString "", Str.ofString ""])).cps.toList = (l.flatMap fun x => x.cps.toList ++ [13, 10]) ++ [13, 10]
  | [] => by decide +kernel
  | a :: l => by
    have ih := join_rows l
    refine hid fun hn9_404 => ?_
    obtain ⟨b, r, e⟩ : ∃ b r, l ++ [Str.ofString "", Str.ofString ""] = b :: r := by cases l <;> exact ⟨_, _, rfl⟩
    refine hn9_404 ?_
    clear hn9_404
    rw [List.cons_append]
    rw [e] at ih ⊢
    show (a ++ Str.ofString "\r\n" ++ Str.join (Str.ofString "\r\n") (b :: r)).cps.toList = _
    simp only [Str.cps_append, Array.toList_append]
    have e2 : (Str.ofString "\r\n").cps.toList = [13, 10] := by decide +kernel
    rw [ih, e2, List.flatMap_cons, List.append_assoc, List.append_assoc, List.append_assoc]
noncomputable def rowX (r : Str × Str) : Str := r.1 ++ Str.ofString ": " ++ r.2
theorem row_codes (h : HA) : (rowX (h.k, hdrT (quoO h.v) h.ps)).cps.toList = h.k.cps.toList ++ 58 :: 32 :: joinW (partsH h) := by
  unfold rowX
  simp only [Str.cps_append, Array.toList_append]
  have e : (Str.ofString ": ").cps.toList = [58, 32] := by decide +kernel
  rw [e, hdr_parts, join_semi, List.append_assoc]
  rfl
theorem rows_codes : ∀ hs : List HA, (((rowsL hs).map rowX).flatMap fun x => x.cps.toList ++ [13, 10]) ++ [13, 10] = tabW (tabL hs)
  | [] => rfl
  | h :: r => by
    have ih := rows_codes r
    unfold rowsL tabL
    split
    · exact ih
    · rw [List.map_cons, List.flatMap_cons, row_codes, List.append_assoc, ih]
      show _ = h.k.cps.toList ++ 58 :: 32 :: (joinW (partsH h) ++ 13 :: 10 :: tabW (tabL r))
      simp
theorem tab_codes {hs : List HA} {ts : List TA} (e : ts.map (fun t => (t.x, t.y)) = rowsL hs) : (tabS ts).cps.toList = tabW (tabL hs) := by
  have e2 : ts.map rowS = (rowsL hs).map rowX := by rw [← e, List.map_map]; rfl
  unfold tabS
  rw [join_rows, e2, rows_codes]
theorem joinT_cons (p : List Nat × List (List Nat)) : ∀ l, joinT (p :: l) = p.2 ++ l.flatMap fun q => [59] :: q.2
  | [] => by show p.2 = _; simp
  | q :: r => by
    show p.2 ++ [59] :: joinT (q :: r) = _
    rw [joinT_cons q r, List.flatMap_cons]
    rfl
theorem semi_sL : Str.ofString ";" = sL [59] := by decide +kernel
theorem psT_true : ∀ ps : List PA, psT true ps = ((ps.map parPart).flatMap fun q => [59] :: q.2).map sL
  | [] => rfl
  | p :: r => by
    have ih := psT_true r
    show [Str.ofString ";"] ++ tokP p :: psT true r = _
    rw [ih, List.map_cons, List.flatMap_cons, List.map_append]
    show _ = sL [59] :: ((parPart p).2.map sL) ++ _
    rw [← tokP_eq, semi_sL]
    rfl
theorem own_sL (x : Str) : ownT x = (valPart x).2.map sL := by
  unfold ownT valPart
  split
  · show [x] = [sL x.cps.toList]; rw [sL_eta]
  · rfl
theorem toks_parts (h : HA) : ownP h.v ++ psT h.v.isSome h.ps = (joinT (partsH h)).map sL := by
  unfold partsH
  cases h.v with
  | some x =>
    show ownT x ++ psT true h.ps = (joinT (valPart x :: h.ps.map parPart)).map sL
    rw [joinT_cons, List.map_append, ← psT_true, own_sL]
  | none =>
    show [] ++ psT false h.ps = (joinT ([] ++ h.ps.map parPart)).map sL
    rw [List.nil_append, List.nil_append]
    cases h.ps with
    | nil => rfl
    | cons p r =>
      show [] ++ tokP p :: psT true r = (joinT (parPart p :: r.map parPart)).map sL
      rw [joinT_cons, List.map_append, ← psT_true, ← tokP_eq]
      rfl
theorem tokH_sL (h : HA) : tokH h = ((HLof h).1 :: [58] :: joinT (HLof h).2).map sL := by
  unfold tokH
  rw [toks_parts]
  show _ = sL h.k.cps.toList :: sL [58] :: _
  rw [sL_eta, show Str.ofString ":" = sL [58] by decide +kernel]
  rfl
theorem due_tab : ∀ (hs : List HA) (ln : Int), dueL ln hs ++ [(none, ln + (rowsL hs).length + 1), (none, ln + (rowsL hs).length + 1)] = tabT ln (tabL hs)
  | [], ln => by
    show [] ++ [(none, ln + (0 : Nat) + 1), (none, ln + (0 : Nat) + 1)] = [(none, ln + 1), (none, ln + 1)]
    rw [List.nil_append, Int.natCast_zero, Int.add_zero]
  | h :: r, ln => by
    unfold dueL rowsL tabL
    split
    · exact due_tab r ln
    · have ih := due_tab r (ln + 1)
      show _ = toks ln ((HLof h).1 :: [58] :: joinT (HLof h).2) ++ tabT (ln + 1) (tabL r)
      rw [← ih, List.append_assoc, tokH_sL, List.map_map]
      have e : ln + (((h.k, hdrT (quoO h.v) h.ps) :: rowsL r).length : Nat) = ln + 1 + ((rowsL r).length : Nat) := by rw [List.length_cons]; omega
      rw [e]
      rfl
theorem badS_nl {c : Nat} (h : badS true c = false) : c ≠ 10 := by intro e; subst e; exact absurd h (by decide)
theorem badT_nl {x : Str} (h : badT true x = false) : ∀ d ∈ x.cps.toList, d ≠ 10 := fun d hd => badS_nl (by
  have := List.any_eq_false.mp h d hd
  simpa using this)
theorem safe_ok : ∀ d ∈ safeS.cps.toList, sgl d ∨ Wc d := by unfold Wc; decide +kernel
theorem plain_ok {x : Str} (h : plainO x = false) : ∀ d ∈ x.cps.toList, sgl d ∨ Wc d := fun d hd => by
  unfold plainO at h
  rw [Bool.or_eq_false_iff] at h
  have h2 := List.any_eq_false.mp h.2 d hd
  unfold unsafe1 at h2
  refine safe_ok d (List.contains_iff_mem.mp ?_)
  simpa using h2
theorem len_codes (x : Str) : x.cps.toList.length = x.length := Array.length_toList
theorem part_val {k : Cc} {ln : Int} {x : Str} (hb : badT true x = false) (hl : x.length ≤ 100000) : Part k ln (valPart x).1 (valPart x).2 := by
  unfold valPart quoteL
  cases hp : plainO x with
  | true => exact part_quoted (badT_nl hb) (by rw [len_codes]; exact hl)
  | false => exact part_safe (x := x.cps.toList) (plain_ok hp) (by rw [len_codes]; exact hl)
theorem part_par {k : Cc} {ln : Int} {p : PA} (hne : p.k.cps.toList ≠ []) (hw : ∀ c ∈ p.k.cps.toList, Wc (dash c)) (hk : p.k.length ≤ 1000) (hb : badO p.v = false) (hl : (p.v.getD "").length ≤ 1000) : Part k ln (parPart p).1 (parPart p).2 := by
  have h1 : wordC p ≠ [] := fun e => hne (List.map_eq_nil_iff.mp e)
  have h2 : ∀ d ∈ wordC p, Wc d := fun d hd => by
    refine hid fun hn9_405 => ?_
    obtain ⟨c, hc, rfl⟩ := List.mem_map.mp hd
    refine hn9_405 ?_
    clear hn9_405
    exact hw c hc
  have h3 : (wordC p).length ≤ 1000 := by unfold wordC; rw [List.length_map, len_codes]; exact hk
  unfold parPart
  cases hv : p.v with
  | none => exact part_name (n := wordC p) h1 h2 (by omega)
  | some v =>
    rw [hv] at hb hl
    dsimp only
    split
    · exact part_name (n := wordC p) h1 h2 (by omega)
    · exact part_param h1 h2 (badT_nl hb) (by rw [len_codes]; have : v.length ≤ 1000 := hl; omega)
theorem tabL_ok : ∀ hs : List HA, (∀ x ∈ hs, OkH 20 x) → ∀ H ∈ tabL hs, H.1 ≠ [] ∧ (∀ d ∈ H.1, Wc d) ∧ H.1.length ≤ 100000 ∧ ∀ (k : Cc) ln, ∀ p ∈ H.2, Part k ln p.1 p.2
  | [], _, _, hH => nomatch hH
  | h :: r, ok, H, hH => by
    unfold tabL at hH
    split at hH
    · exact tabL_ok r (fun x hx => ok x (.tail _ hx)) H hH
    · rename_i hb
      rcases List.mem_cons.mp hH with rfl | hH
      · have o := ok h (.head _)
        rw [Bool.not_eq_true] at hb
        unfold badH at hb
        rw [Bool.or_eq_false_iff, Bool.or_eq_false_iff] at hb
        refine hid fun hn9_406 => ?_
        obtain ⟨⟨b1, b2⟩, b3⟩ := hb
        refine hn9_406 ?_
        clear hn9_406
        refine hid fun hn9_407 => ?_
        obtain ⟨n1, n2, n3⟩ := name_word _ o.key
        refine hn9_407 ?_
        clear hn9_407
        rw [b1, Bool.false_or, List.all_eq_true] at n1
        have ln := ok_lens o
        refine ⟨List.length_pos_iff.mp n2, fun d hd => List.contains_iff_mem.mp (n1 d hd), by show h.k.cps.toList.length ≤ _; rw [len_codes]; omega, fun k l p hp => ?_⟩
        rcases List.mem_append.mp hp with hp | hp
        · cases hv : h.v with
          | none => rw [hv] at hp; exact nomatch hp
          | some x =>
            rw [hv] at hp b2
            have hl := ln.2.1
            rw [hv] at hl
            rw [List.mem_singleton.mp hp]
            exact part_val b2 (by have : x.length ≤ 1000 := hl; omega)
        · refine hid fun hn9_408 => ?_
          obtain ⟨q, hq, rfl⟩ := List.mem_map.mp hp
          refine hn9_408 ?_
          clear hn9_408
          refine hid fun hn9_409 => ?_
          obtain ⟨i, e, hp⟩ := ok_mem o hq
          refine hn9_409 ?_
          clear hn9_409
          have hq2 := ok_key o (Nat.le_refl _) e
          have hb3 := List.any_eq_false.mp b3 q hq
          rw [Bool.not_eq_true] at hb3
          unfold badP at hb3
          rw [Bool.or_eq_false_iff] at hb3
          exact part_par hq2.2.2.2.1 (hq2.2.2.2.2 hb3.1) (ln.2.2.1 q hq).1 hb3.2 (ln.2.2.1 q hq).2
      · exact tabL_ok r (fun x hx => ok x (.tail _ hx)) H hH
theorem tab_runs {hs : List HA} (ok : ∀ x ∈ hs, OkH 20 x) (k : Cc) : Runs k 1 (tabW (tabL hs)) (tabT 1 (tabL hs)) :=
  runs_table _ _ fun H hH => by
    refine hid fun hn9_410 => ?_
    obtain ⟨a, b, c, d⟩ := tabL_ok hs ok H hH
    refine hn9_410 ?_
    clear hn9_410
    exact ⟨a, b, c, d k⟩
theorem joinW_len {K : Nat} : ∀ l : List (List Nat × List (List Nat)), (∀ p ∈ l, p.1.length ≤ K) → (joinW l).length ≤ (K + 2) * l.length
  | [], _ => Nat.zero_le _
  | [p], h => by
    have := h p (.head _)
    show p.1.length ≤ (K + 2) * 1
    omega
  | p :: q :: r, h => by
    have ih := joinW_len (q :: r) fun x hx => h x (.tail _ hx)
    have h1 := h p (.head _)
    show (p.1 ++ 59 :: 32 :: joinW (q :: r)).length ≤ (K + 2) * ((q :: r).length + 1)
    rw [List.length_append, List.length_cons, List.length_cons, Nat.mul_succ]
    omega
theorem parts_len {h : HA} (o : OkH 20 h) : ∀ p ∈ partsH h, p.1.length ≤ 102 := by
  intro p hp
  rcases List.mem_append.mp hp with hp | hp
  · cases hv : h.v with
    | none => rw [hv] at hp; exact nomatch hp
    | some x =>
      have hl := okT_le o.txt
      rw [hv] at hp hl
      rw [List.mem_singleton.mp hp]
      have hx : x.cps.toList.length ≤ 20 := by rw [len_codes]; exact hl
      unfold valPart quoteL
      have := len_flat (f := qenc) (k := 5) (fun d => by unfold qenc; split <;> simp) x.cps.toList
      dsimp only
      split
      · simp only [List.length_cons, List.length_append, List.length_nil]; omega
      · omega
  · refine hid fun hn9_411 => ?_
    obtain ⟨q, hq, rfl⟩ := List.mem_map.mp hp
    refine hn9_411 ?_
    clear hn9_411
    refine hid fun hn9_412 => ?_
    obtain ⟨i, e, hp⟩ := ok_mem o hq
    refine hn9_412 ?_
    clear hn9_412
    have hk := (ok_key o (Nat.le_refl _) e).2.2.1
    have hl := okT_le hp.txt
    have hw : (wordC q).length ≤ 10 := by unfold wordC; rw [List.length_map, len_codes]; exact hk
    unfold parPart
    cases hv : q.v with
    | none => exact Nat.le_trans hw (by decide)
    | some v =>
      rw [hv] at hl
      have hx : v.cps.toList.length ≤ 20 := by rw [len_codes]; exact hl
      have := len_flat (f := denc) (k := 2) (fun d => by unfold denc; split <;> simp) v.cps.toList
      dsimp only
      split
      · exact Nat.le_trans hw (by decide)
      · simp only [List.length_cons, List.length_append, List.length_nil]; omega
theorem hdr_len {h : HA} (o : OkH 20 h) : (hdrT (quoO h.v) h.ps).length ≤ 2900 := by
  rw [← len_codes, hdr_parts, join_semi]
  have h1 := joinW_len (partsH h) (parts_len o)
  have h2 : (partsH h).length ≤ 21 := by
    have := o.num
    unfold partsH
    rw [List.length_append, List.length_map]
    cases h.v <;> simp <;> omega
  omega
theorem rows_len : ∀ hs : List HA, (∀ x ∈ hs, OkH 20 x) → ∀ r ∈ rowsL hs, r.1.length + r.2.length ≤ 3000
  | [], _, _, hr => nomatch hr
  | h :: l, ok, r, hr => by
    have o := ok h (.head _)
    unfold rowsL at hr
    split at hr
    · exact rows_len l (fun x hx => ok x (.tail _ hx)) r hr
    · rcases List.mem_cons.mp hr with rfl | hr
      · have h1 := (name_word _ o.key).2.2
        have h2 := hdr_len o
        show h.k.length + (hdrT (quoO h.v) h.ps).length ≤ 3000
        omega
      · exact rows_len l (fun x hx => ok x (.tail _ hx)) r hr
theorem ts_len {hs : List HA} {ts : List TA} (ok : ∀ x ∈ hs, OkH 20 x) (e : ts.map (fun t => (t.x, t.y)) = rowsL hs) : ∀ t ∈ ts, t.x.length + t.y.length ≤ 3000 := fun t ht =>
  rows_len hs ok (t.x, t.y) (e ▸ List.mem_map.mpr ⟨t, ht, rfl⟩)
theorem flat_rows : ∀ ts : List TA, (∀ t ∈ ts, t.x.length + t.y.length ≤ 3000) → ((ts.map rowS).flatMap fun x => x.cps.toList ++ [13, 10]).length ≤ 3004 * ts.length
  | [], _ => Nat.zero_le _
  | t :: r, h => by
    have ih := flat_rows r fun x hx => h x (.tail _ hx)
    have h1 := h t (.head _)
    have h3 : (rowS t).cps.toList.length = t.x.length + 2 + t.y.length := by
      rw [len_codes]
      unfold rowS
      rw [Str.length_append, Str.length_append]
      rfl
    rw [List.map_cons, List.flatMap_cons, List.length_append, List.length_append, h3]
    show _ + 2 + _ ≤ 3004 * (r.length + 1)
    omega
theorem tab_len {ts : List TA} (hl1 : ts.length ≤ 21) (hl2 : ∀ t ∈ ts, t.x.length + t.y.length ≤ 3000) : (tabS ts).length ≤ 100000 := by
  rw [← len_codes]
  unfold tabS
  rw [join_rows, List.length_append]
  have := flat_rows ts hl2
  show _ + 2 ≤ _
  omega
end
end
section
-- text Tq
section
theorem Wc_lt {c : Nat} (h : Wc c) : c < 1114112 := by
  have e : ∀ d ∈ wch.cps.toList, d < 1114112 := by decide +kernel
  exact e c h
theorem flush_mem {cur w : List Nat} (h : w ∈ flush cur) : w = cur := by
  unfold flush at h
  split at h
  · exact nomatch h
  · exact List.mem_singleton.mp h
theorem pieces_mem : ∀ (l cur w : List Nat), w ∈ pieces cur l → ∀ c ∈ w, c ∈ cur ∨ c ∈ l
  | [], cur, w, h, c, hc => .inl (flush_mem h ▸ hc)
  | d :: l, cur, w, h, c, hc => by
    unfold pieces at h
    split at h
    · rcases List.mem_append.mp h with h | h
      · exact .inl (flush_mem h ▸ hc)
      · rcases List.mem_cons.mp h with rfl | h
        · rw [List.mem_singleton.mp hc]; exact .inr (.head _)
        · rcases pieces_mem l [] w h c hc with a | a
          · exact nomatch a
          · exact .inr (.tail _ a)
    · rcases pieces_mem l (cur ++ [d]) w h c hc with a | a
      · rcases List.mem_append.mp a with a | a
        · exact .inl a
        · rw [List.mem_singleton.mp a]; exact .inr (.head _)
      · exact .inr (.tail _ a)
noncomputable def Sm (x : List Nat) : Prop := ∀ d ∈ x, d < 1114112
theorem val_small {n : Nat} {x : Str} (h : ∀ c ∈ x.cps.toList, c < 1114112) : ∀ y ∈ (valPart x).2, Sm y := by
  intro y hy d hd
  unfold valPart at hy
  dsimp only at hy
  split at hy
  · rw [List.mem_singleton.mp hy] at hd; exact h d hd
  · rcases pieces_mem _ _ _ hy d hd with a | a
    · exact nomatch a
    · exact h d a
theorem par_small {p : PA} (hw : ∀ c ∈ p.k.cps.toList, Wc (dash c)) (h : okT 20 p.v) : ∀ y ∈ (parPart p).2, Sm y := by
  have hk : Sm (wordC p) := fun d hd => by
    refine hid fun hn9_413 => ?_
    obtain ⟨c, hc, rfl⟩ := List.mem_map.mp hd
    refine hn9_413 ?_
    clear hn9_413
    exact Wc_lt (hw c hc)
  intro y hy
  unfold parPart at hy
  cases hv : p.v with
  | none => rw [hv] at hy; rw [List.mem_singleton.mp hy]; exact hk
  | some v =>
    rw [hv] at hy
    dsimp only at hy
    split at hy
    · rw [List.mem_singleton.mp hy]; exact hk
    · rw [List.mem_singleton.mp hy]
      intro d hd
      rcases List.mem_append.mp hd with hd | hd
      · exact hk d hd
      · rcases List.mem_cons.mp hd with rfl | hd
        · decide
        · exact (h v hv).2 d hd
theorem tabL_small : ∀ hs : List HA, (∀ x ∈ hs, OkH 20 x) → ∀ H ∈ tabL hs, Sm H.1 ∧ ∀ p ∈ H.2, ∀ y ∈ p.2, Sm y
  | [], _, _, hH => nomatch hH
  | h :: r, ok, H, hH => by
    have hT := tabL_ok (h :: r) ok H hH
    unfold tabL at hH
    split at hH
    · exact tabL_small r (fun x hx => ok x (.tail _ hx)) H hH
    · rename_i hb
      rcases List.mem_cons.mp hH with rfl | hH
      · have o := ok h (.head _)
        refine ⟨fun d hd => Wc_lt (hT.2.1 d hd), fun p hp => ?_⟩
        rcases List.mem_append.mp hp with hp | hp
        · cases hv : h.v with
          | none => rw [hv] at hp; exact nomatch hp
          | some x =>
            rw [hv] at hp
            rw [List.mem_singleton.mp hp]
            exact val_small (n := 0) (o.txt x hv).2
        · refine hid fun hn9_414 => ?_
          obtain ⟨q, hq, rfl⟩ := List.mem_map.mp hp
          refine hn9_414 ?_
          clear hn9_414
          refine hid fun hn9_415 => ?_
          obtain ⟨i, e, hp⟩ := ok_mem o hq
          refine hn9_415 ?_
          clear hn9_415
          rw [Bool.not_eq_true] at hb
          unfold badH at hb
          rw [Bool.or_eq_false_iff, Bool.or_eq_false_iff] at hb
          have hb3 := List.any_eq_false.mp hb.2 q hq
          rw [Bool.not_eq_true] at hb3
          unfold badP at hb3
          rw [Bool.or_eq_false_iff] at hb3
          exact par_small ((ok_key o (Nat.le_refl _) e).2.2.2.2 hb3.1) hp.txt
      · exact tabL_small r (fun x hx => ok x (.tail _ hx)) H hH
theorem joinT_mem : ∀ (l : List (List Nat × List (List Nat))) (y : List Nat), y ∈ joinT l → y = [59] ∨ ∃ p ∈ l, y ∈ p.2
  | [], _, h => nomatch h
  | [p], y, h => .inr ⟨p, .head _, h⟩
  | p :: q :: r, y, h => by
    rcases List.mem_append.mp h with h | h
    · exact .inr ⟨p, .head _, h⟩
    · rcases List.mem_cons.mp h with rfl | h
      · exact .inl rfl
      · rcases joinT_mem (q :: r) y h with a | ⟨x, hx, a⟩
        · exact .inl a
        · exact .inr ⟨x, .tail _ hx, a⟩
noncomputable def SmT (p : Option Str × Int) : Prop := ∀ x, p.1 = some x → ∀ d ∈ x.cps.toList, d < 1114112
theorem toks_small {ln : Int} {l : List (List Nat)} (h : ∀ y ∈ l, Sm y) : ∀ p ∈ toks ln l, SmT p := by
  intro p hp x hx
  refine hid fun hn9_416 => ?_
  obtain ⟨y, hy, rfl⟩ := List.mem_map.mp hp
  refine hn9_416 ?_
  clear hn9_416
  refine hid fun hn9_417 => ?_
  cases hx <;> (refine hn9_417 ?_; clear hn9_417)
  rw [sL_codes]
  exact h y hy
theorem tabT_small : ∀ (Hs : List HL) (ln : Int), (∀ H ∈ Hs, Sm H.1 ∧ ∀ p ∈ H.2, ∀ y ∈ p.2, Sm y) → ∀ p ∈ tabT ln Hs, SmT p
  | [], ln, _, p, hp => by
    rcases List.mem_cons.mp hp with rfl | hp
    · intro x hx; cases hx
    · rw [List.mem_singleton.mp hp]; intro x hx; cases hx
  | H :: r, ln, h, p, hp => by
    rcases List.mem_append.mp hp with hp | hp
    · refine toks_small (fun y hy => ?_) p hp
      refine hid fun hn9_418 => ?_
      obtain ⟨a, b⟩ := h H (.head _)
      refine hn9_418 ?_
      clear hn9_418
      rcases List.mem_cons.mp hy with rfl | hy
      · exact a
      · rcases List.mem_cons.mp hy with rfl | hy
        · intro d hd; rw [List.mem_singleton.mp hd]; decide
        · rcases joinT_mem _ _ hy with rfl | ⟨q, hq, hy⟩
          · intro d hd; rw [List.mem_singleton.mp hd]; decide
          · exact b q hq y hy
    · exact tabT_small r (ln + 1) (fun x hx => h x (.tail _ hx)) p hp
/-- what one pair reads as -/
noncomputable def dataT (p : Option Str × Int) : PyData := .tuple [match p.1 with | some x => .str x | none => .none, .int p.2]
theorem layT {p : Option Str × Int} (h : SmT p) : (dataT p).canLay0 = true ∧ (dataT p).depth = 1 := by
  refine hid fun hn9_419 => ?_
  obtain ⟨o, ln⟩ := p
  refine hn9_419 ?_
  clear hn9_419
  cases o with
  | none => exact ⟨rfl, rfl⟩
  | some x =>
    refine ⟨?_, rfl⟩
    show (PyData.strOk x && (true && true)) = true
    rw [Bool.and_true, Bool.and_true]
    unfold PyData.strOk
    rw [← Array.all_toList, List.all_eq_true]
    exact fun d hd => decide_eq_true (h x rfl d hd)
theorem layL : ∀ {l : List (Option Str × Int)}, (∀ p ∈ l, SmT p) → PyData.canLayAll0 (l.map dataT) = true ∧ PyData.depthAll (l.map dataT) ≤ 1
  | [], _ => ⟨rfl, Nat.zero_le _⟩
  | p :: l, h => by
    refine hid fun hn9_420 => ?_
    obtain ⟨a, b⟩ := layL (l := l) fun x hx => h x (.tail _ hx)
    refine hn9_420 ?_
    clear hn9_420
    refine hid fun hn9_421 => ?_
    obtain ⟨c, d⟩ := layT (h p (.head _))
    refine hn9_421 ?_
    clear hn9_421
    refine ⟨?_, ?_⟩
    · show ((dataT p).canLay0 && PyData.canLayAll0 (l.map dataT)) = true
      rw [a, c]; rfl
    · show max (dataT p).depth (PyData.depthAll (l.map dataT)) ≤ 1
      omega
theorem dues_shaped {l : List (Option Str × Int)} (h : ∀ p ∈ l, SmT p) : SeqAt.shaped (.list (l.map dataT)) = true := by
  refine hid fun hn9_422 => ?_
  obtain ⟨a, b⟩ := layL h
  refine hn9_422 ?_
  clear hn9_422
  unfold SeqAt.shaped
  rw [show (PyData.list (l.map dataT)).canLay0 = true from a, Bool.true_and]
  exact decide_eq_true (by show PyData.depthAll (l.map dataT) + 1 ≤ 64; omega)
theorem reads_oV {h : Heap} (o : Option Str) (t : Tok) : Reads h (oV o t) (match o with | some x => .str x | none => .none) [] := by
  cases o with
  | none => exact .none
  | some x => exact .str x t
theorem reads_dues {h : Heap} : ∀ ds : List DA, (∀ d ∈ ds, h.get? d.a = some d.obj) → ∃ as, ReadsAll h (refD ds) ((ds.map fun d => (d.w, d.ln)).map dataT) as
  | [], _ => ⟨_, .nil⟩
  | d :: r, hd => by
    refine hid fun hn9_423 => ?_
    obtain ⟨as, ih⟩ := reads_dues r fun x hx => hd x (.tail _ hx)
    refine hn9_423 ?_
    clear hn9_423
    exact ⟨_, .cons (.tuple (hd d (.head _)) rfl rfl (.cons (reads_oV d.w d.tw) (.cons (.int _ _) .nil))) ih⟩
theorem reads_list {h : Heap} {a : Addr} {n : Nat} {ds : List DA} (ha : h.get? a = some (W.listOf (refD ds).toArray n)) (hd : ∀ d ∈ ds, h.get? d.a = some d.obj) : ∃ as, Reads h (.ref a) (.list ((ds.map fun d => (d.w, d.ln)).map dataT)) as := by
  refine hid fun hn9_424 => ?_
  obtain ⟨as, r⟩ := reads_dues ds hd
  refine hn9_424 ?_
  clear hn9_424
  exact ⟨_, .list ha rfl rfl r⟩
/-- what the lexer stands at between two calls -/
noncomputable def LS (k : Cc) (st : Option Str) (ln : Int) (dq : Option Nat) (pos : Nat) (l : List (Option Str × Int)) : Prop :=
  (∃ ρ, Runs k ln ρ l ∧ st = some " " ∧ (dq = none ∧ k.buf.cps.toList.drop pos = ρ ∨ ∃ ch r, dq = some ch ∧ ρ = ch :: r ∧ k.buf.cps.toList.drop pos = r ∧ ch ≠ 10)) ∨
  (st = none ∧ dq = none ∧ k.buf.cps.toList.drop pos = [] ∧ l = [(none, ln)]) ∨ l = []
noncomputable def PN (k : Cc) (p : Option Str × Int) (l : List (Option Str × Int)) (v : Vv) : Prop :=
  v.ln = p.2 ∧ ((v.qb = true ∨ v.tok ≠ "") → p.1 = some v.tok) ∧ (v.qb = false → v.tok = "" → p.1 = none) ∧ LS k v.st v.ln v.dq v.pos l
theorem Go.mono {g : G} {v : Vv} {P P' : Vv → Prop} (h : Go g v P) (k : ∀ v, P v → P' v) : Go g v P' := by
  refine hid fun hn9_425 => ?_
  obtain ⟨n, v', a, b⟩ := h
  refine hn9_425 ?_
  clear hn9_425
  exact ⟨n, v', a, k _ b⟩
theorem LS.go {k : Cc} {st : Option Str} {ln : Int} {dq : Option Nat} {pos : Nat} {p : Option Str × Int} {l : List (Option Str × Int)} (h : LS k st ln dq pos (p :: l)) {g : G} (C : GOk g) (e : g.c.buf = k.buf) :
    Go g ⟨st, ln, "", dq, none, false, " ", pos⟩ (PN k p l) := by
  have nt : ∀ {x : Str}, 0 < x.length → ¬ x = "" := fun hx e => by rw [e] at hx; exact absurd hx (by decide)
  rcases h with ⟨ρ, hr, rfl, hd⟩ | ⟨rfl, rfl, hd, hl⟩ | h
  · have sv : Sv g ln ρ ⟨some " ", ln, "", dq, none, false, " ", pos⟩ := ⟨_, _, _, _, rfl, by unfold Rm; rw [e]; exact hd⟩
    cases hr with
    | tok hs hrest =>
      refine (hs g C e _ sv).mono fun v hv => ?_
      refine hid fun hn9_426 => ?_
      obtain ⟨nc, qb, es, ps, dq', rfl, hq, hl, hd'⟩ := hv
      refine hn9_426 ?_
      clear hn9_426
      refine ⟨rfl, fun _ => rfl, fun a b => ?_, .inl ⟨_, hrest, rfl, by unfold Rm at hd'; rw [e] at hd'; exact hd'⟩⟩
      rcases hq with hq | hq
      · exact absurd (show qb = false from a) (by rw [hq]; decide)
      · exact absurd b (nt hq)
    | eof hs =>
      refine (hs g C e _ sv).mono fun v hv => ?_
      refine hid fun hn9_427 => ?_
      obtain ⟨nc, es, ps, rfl, hd'⟩ := hv
      refine hn9_427 ?_
      clear hn9_427
      refine ⟨rfl, fun a => ?_, fun _ _ => rfl, .inr (.inl ⟨rfl, rfl, by unfold Rm at hd'; rw [e] at hd'; exact hd', rfl⟩)⟩
      rcases a with a | a
      · exact absurd (show false = true from a) Bool.false_ne_true
      · exact absurd rfl a
  · refine hid fun hn9_428 => ?_
    obtain ⟨rfl, rfl⟩ := List.cons.inj hl
    refine hn9_428 ?_
    clear hn9_428
    refine (go_eof C (by unfold Rm; rw [e]; exact hd)).mono fun v hv => ?_
    refine hid fun hn9_429 => ?_
    obtain ⟨nc, es, ps, rfl, hd'⟩ := hv
    refine hn9_429 ?_
    clear hn9_429
    refine ⟨rfl, fun a => ?_, fun _ _ => rfl, .inr (.inr rfl)⟩
    rcases a with a | a
    · exact absurd (show false = true from a) Bool.false_ne_true
    · exact absurd rfl a
  · exact nomatch h
end
end
section
-- text Tt
section
noncomputable def ckR (k : Cc) (r : List (Addr × Obj)) : Cc := ⟨k.x, k.dx, k.q, k.y, k.dy, k.pb, k.fs, k.kt, k.vt, k.buf, (k.pb, dqObj 0 []) :: (k.fs, dqObj 0 []) :: r⟩
structure KOrd (k : Cc) (tld : Nat) : Prop where
  b1 : k.dx < k.x
  b2 : k.x < k.dy
  b3 : k.dy < k.y
  b4 : k.y < k.pb
  b5 : k.pb < k.fs
  b6 : k.fs < k.q
  b7 : k.q < tld
inductive TJ (P : Params) (k : Cc) (R3 : List (Addr × Obj)) (tld du : Nat) (full : List (Option Str × Int)) (j : Nat) (m : Str → Option Value) (nw : List (Addr × Obj)) : Prop
  | of (u : Str → Option Value) (st : Option Str) (ln : Int) (dq : Option Nat) (pos : Nat) (stt tl tt td tp : Tok) (nt : Nat) (dn : List DA) (R4 : List (Addr × Obj)) (dst : Int) (h1 : m = fx [("due", .ref du), ("lexer", .ref k.x), ("told", .ref tld)] u)
    (h2 : nw = (tld, W.listOf (refD dn).toArray nt) :: rsLed P (ckR k R4) st ln "" dq pos stt tl tt td tp dst)
    (h3 : ∀ p ∈ R4, p.1 < k.dx ∨ tld < p.1) (h4 : ∀ p ∈ R3, p ∈ R4) (h5 : ∀ d ∈ dn, (d.a, d.obj) ∈ R4) (h6 : dn.map (fun d => (d.w, d.ln)) = full.take j) (h7 : LS k st ln dq pos (full.drop j)) : TJ P k R3 tld du full j m nw
theorem rs_mem {P : Params} {k : Cc} {R4 : List (Addr × Obj)} {st : Option Str} {ln : Int} {dq : Option Nat} {pos : Nat} {stt tl tt td tp : Tok} {dst : Int} {p : Addr × Obj} (h : p ∈ rsLed P (ckR k R4) st ln "" dq pos stt tl tt td tp dst) :
    p.1 ∈ [k.q, k.dx, k.x, k.dy, k.y, k.pb, k.fs] ∨ p ∈ R4 := by
  rcases List.mem_cons.mp h with rfl | h
  · exact .inl (.head _)
  rcases List.mem_cons.mp h with rfl | h
  · exact .inl (.tail _ (.head _))
  rcases List.mem_cons.mp h with rfl | h
  · exact .inl (.tail _ (.tail _ (.head _)))
  rcases List.mem_cons.mp h with rfl | h
  · exact .inl (.tail _ (.tail _ (.tail _ (.head _))))
  rcases List.mem_cons.mp h with rfl | h
  · exact .inl (.tail _ (.tail _ (.tail _ (.tail _ (.head _)))))
  rcases List.mem_cons.mp h with rfl | h
  · exact .inl (.tail _ (.tail _ (.tail _ (.tail _ (.tail _ (.head _))))))
  rcases List.mem_cons.mp h with rfl | h
  · exact .inl (.tail _ (.tail _ (.tail _ (.tail _ (.tail _ (.tail _ (.head _)))))))
  · exact .inr h
theorem KOrd.le {k : Cc} {tld : Nat} (o : KOrd k tld) {a : Nat} (h : a ∈ [k.q, k.dx, k.x, k.dy, k.y, k.pb, k.fs]) : k.dx ≤ a ∧ a < tld := by
  refine hid fun hn9_430 => ?_
  obtain ⟨b1, b2, b3, b4, b5, b6, b7⟩ := o
  refine hn9_430 ?_
  clear hn9_430
  have e2 := Nat.lt_trans b1 b2
  have e3 := Nat.lt_trans e2 b3
  have e4 := Nat.lt_trans e3 b4
  have e5 := Nat.lt_trans e4 b5
  have t6 := Nat.lt_trans b6 b7
  have t5 := Nat.lt_trans b5 t6
  have t4 := Nat.lt_trans b4 t5
  have t3 := Nat.lt_trans b3 t4
  have t2 := Nat.lt_trans b2 t3
  rcases List.mem_cons.mp h with rfl | h
  · exact ⟨Nat.le_of_lt (Nat.lt_trans e5 b6), b7⟩
  rcases List.mem_cons.mp h with rfl | h
  · exact ⟨Nat.le_refl _, Nat.lt_trans b1 t2⟩
  rcases List.mem_cons.mp h with rfl | h
  · exact ⟨Nat.le_of_lt b1, t2⟩
  rcases List.mem_cons.mp h with rfl | h
  · exact ⟨Nat.le_of_lt e2, t3⟩
  rcases List.mem_cons.mp h with rfl | h
  · exact ⟨Nat.le_of_lt e3, t4⟩
  rcases List.mem_cons.mp h with rfl | h
  · exact ⟨Nat.le_of_lt e4, t5⟩
  rcases List.mem_cons.mp h with rfl | h
  · exact ⟨Nat.le_of_lt e5, t6⟩
  exact nomatch h
theorem rs_off {P : Params} {k : Cc} {tld : Nat} {R4 : List (Addr × Obj)} {st : Option Str} {ln : Int} {dq : Option Nat} {pos : Nat} {stt tl tt td tp : Tok} {dst : Int} (o : KOrd k tld) (h : ∀ p ∈ R4, p.1 < k.dx ∨ tld < p.1) :
    ∀ p ∈ rsLed P (ckR k R4) st ln "" dq pos stt tl tt td tp dst, p.1 ≠ tld := by
  intro p hp e
  have e' : (p.1 : Nat) = tld := e
  rcases rs_mem hp with a | a
  · exact absurd e' (Nat.ne_of_lt (o.le a).2)
  · have h1 : k.dx < tld := (o.le (.tail _ (.head _) : k.dx ∈ [k.q, k.dx, k.x, k.dy, k.y, k.pb, k.fs])).2
    rcases h p a with b | b
    · exact absurd e' (Nat.ne_of_lt (Nat.lt_trans b h1))
    · exact absurd e' (Nat.ne_of_gt b)
theorem rest_off {k : Cc} {tld I : Nat} {R4 : List (Addr × Obj)} {oT oI : Obj} (o : KOrd k tld) (h : ∀ p ∈ R4, p.1 < k.dx ∨ tld < p.1) (hI : ∀ a ∈ [k.q, k.dx, k.x, k.dy, k.y, k.pb, k.fs], a ≠ I) :
    OwnOff ((k.pb, dqObj 0 []) :: (k.fs, dqObj 0 []) :: (tld, oT) :: (I, oI) :: R4) [k.q, k.dx, k.x, k.dy, k.y] := by
  refine hid fun hn9_431 => ?_
  obtain ⟨b1, b2, b3, b4, b5, b6, b7⟩ := o
  refine hn9_431 ?_
  clear hn9_431
  intro p hp a ha
  have hI' : a ≠ I := hI a (by
    simp only [List.mem_cons, List.not_mem_nil, or_false] at ha ⊢
    rcases ha with rfl | rfl | rfl | rfl | rfl <;> simp)
  have e2 := Nat.lt_trans b1 b2
  have e3 := Nat.lt_trans e2 b3
  have e4 := Nat.lt_trans b3 b4
  have e5 := Nat.lt_trans b2 e4
  have ha2 : k.dx ≤ a ∧ a < k.pb ∨ a = k.q := by
    rcases List.mem_cons.mp ha with rfl | ha
    · exact .inr rfl
    rcases List.mem_cons.mp ha with rfl | ha
    · exact .inl ⟨Nat.le_refl _, Nat.lt_trans b1 e5⟩
    rcases List.mem_cons.mp ha with rfl | ha
    · exact .inl ⟨Nat.le_of_lt b1, e5⟩
    rcases List.mem_cons.mp ha with rfl | ha
    · exact .inl ⟨Nat.le_of_lt e2, e4⟩
    rcases List.mem_cons.mp ha with rfl | ha
    · exact .inl ⟨Nat.le_of_lt e3, b4⟩
    exact nomatch ha
  have hq : ∀ z : Nat, (k.pb ≤ z ∧ z < k.q) ∨ k.q < z ∨ z < k.dx → z ≠ a := by
    intro z hz e
    rcases ha2 with ⟨c1, c2⟩ | c
    · have c1' : k.dx ≤ z := e ▸ c1
      have c2' : z < k.pb := e ▸ c2
      rcases hz with ⟨z1, z2⟩ | z1 | z1
      · exact absurd z1 (Nat.not_le_of_lt c2')
      · exact absurd (Nat.lt_trans z1 c2') (Nat.not_lt_of_le (Nat.le_of_lt (Nat.lt_trans b5 b6)))
      · exact absurd z1 (Nat.not_lt_of_le c1')
    · have c' : z = k.q := e.trans c
      rcases hz with ⟨z1, z2⟩ | z1 | z1
      · exact absurd c' (Nat.ne_of_lt z2)
      · exact absurd c' (Nat.ne_of_gt z1)
      · exact absurd (c' ▸ z1 : k.q < k.dx) (Nat.not_lt_of_le (Nat.le_of_lt (Nat.lt_trans (Nat.lt_trans e3 b4) (Nat.lt_trans b5 b6))))
  rcases List.mem_cons.mp hp with rfl | hp
  · exact hq k.pb (.inl ⟨Nat.le_refl _, Nat.lt_trans b5 b6⟩)
  rcases List.mem_cons.mp hp with rfl | hp
  · exact hq k.fs (.inl ⟨Nat.le_of_lt b5, b6⟩)
  rcases List.mem_cons.mp hp with rfl | hp
  · exact hq tld (.inr (.inl b7))
  rcases List.mem_cons.mp hp with rfl | hp
  · exact Ne.symm hI'
  · rcases h p hp with b | b
    · exact hq p.1 (.inr (.inr b))
    · exact hq p.1 (.inr (.inl (Nat.lt_trans b7 b)))
theorem rs_offI {P : Params} {k : Cc} {I : Nat} {R4 : List (Addr × Obj)} {st : Option Str} {ln : Int} {dq : Option Nat} {pos : Nat} {stt tl tt td tp : Tok} {dst : Int}
    (h : ∀ p ∈ rsLed P (ckR k R4) st ln "" dq pos stt tl tt td tp dst, p.1 ≠ I) : (∀ a ∈ [k.q, k.dx, k.x, k.dy, k.y, k.pb, k.fs], a ≠ I) ∧ ∀ p ∈ R4, p.1 ≠ I := by
  refine ⟨fun a ha => ?_, fun p hp => h p (.tail _ (.tail _ (.tail _ (.tail _ (.tail _ (.tail _ (.tail _ hp)))))))⟩
  simp only [List.mem_cons, List.not_mem_nil, or_false] at ha
  rcases ha with rfl | rfl | rfl | rfl | rfl | rfl | rfl
  · exact h _ (.head _)
  · exact h _ (.tail _ (.head _))
  · exact h _ (.tail _ (.tail _ (.head _)))
  · exact h _ (.tail _ (.tail _ (.tail _ (.head _))))
  · exact h _ (.tail _ (.tail _ (.tail _ (.tail _ (.head _)))))
  · exact h _ (.tail _ (.tail _ (.tail _ (.tail _ (.tail _ (.head _))))))
  · exact h _ (.tail _ (.tail _ (.tail _ (.tail _ (.tail _ (.tail _ (.head _)))))))
theorem told_post {P : Params} {k : Cc} {R3 R4 : List (Addr × Obj)} {tld du I D : Nat} {oI : Obj} {full : List (Option Str × Int)} {j : Nat} {g h : Heap} {L : Addr} {m' u : Str → Option Value} {st : Option Str} {ln : Int} {dq : Option Nat} {pos : Nat} {stt tl tt td tp tw tl2 : Tok} {dst : Int}
    {nt n0 tk9 : Nat} {dn : List DA} {p : Option Str × Int} {s₁ : Shared} {Q : Flow → Shared → Prop} (hm : m' = fx [("due", .ref du), ("lexer", .ref k.x), ("told", .ref tld)] u) (F : Fr g L h m')
    (N : News g L h ((tld, W.listOf (refD dn ++ [Value.ref D]).toArray nt) :: (I, oI) :: rsLed P (ckR k ((D, { cls := .type "tuple", data := .seq #[oV p.1 tw, .int p.2 tl2] n0 }) :: R4)) st p.2 "" dq pos stt tl tt td tp dst))
    (hR : ∀ p ∈ R4, p.1 < k.dx ∨ tld < p.1) (h3 : ∀ p ∈ R3, p ∈ R4) (hd : ∀ d ∈ dn, (d.a, d.obj) ∈ R4) (he : dn.map (fun d => (d.w, d.ln)) = full.take j) (hp : full[j]? = some p) (hs : LS k st p.2 dq pos (full.drop (j + 1)))
    (hD : tld < D) (hDI : D ≠ I) (ho : ∀ a ∈ [k.q, k.dx, k.x, k.dy, k.y, k.pb, k.fs], a ≠ I) (hI : tld ≠ I) (hRI : ∀ p ∈ R4, p.1 ≠ I) : PostG g L I oI (TJ P k R3 tld du full (j + 1)) s₁ Q .next { s₁ with heap := h, toks := tk9 } := by
  refine hid fun hn9_432 => ?_
  subst hm <;> (refine hn9_432 ?_; clear hn9_432)
  refine PostG.intro F (nw := (tld, W.listOf (refD (dn ++ [⟨D, p.1, tw, p.2, tl2, n0⟩])).toArray nt) :: rsLed P (ckR k ((D, { cls := .type "tuple", data := .seq #[oV p.1 tw, .int p.2 tl2] n0 }) :: R4)) st p.2 "" dq pos stt tl tt td tp dst) ?_ ?_ ?_
  · rw [refD_app]
    exact kst_newsOf N (mc (matN 1 rfl) (mc (matN 0 rfl) (mdrop 2 rfl)))
  · intro x hx
    rcases List.mem_cons.mp hx with rfl | hx
    · exact hI
    · rcases rs_mem hx with a | a
      · exact ho _ a
      · rcases List.mem_cons.mp a with rfl | a
        · exact hDI
        · exact hRI x a
  · refine ⟨u, st, p.2, dq, pos, stt, tl, tt, td, tp, nt, _, _, dst, rfl, rfl, ?_, fun x hx => .tail _ (h3 x hx), ?_, ?_, hs⟩
    · intro x hx
      rcases List.mem_cons.mp hx with rfl | hx
      · exact .inr hD
      · exact hR x hx
    · intro d hd'
      rcases List.mem_append.mp hd' with hd' | hd'
      · exact .tail _ (hd d hd')
      · rw [List.mem_singleton.mp hd']; exact .head _
    · rw [List.map_append, he, take_snocL hp]; rfl
end
section
variable {w : World} {p : Program} {loose : List Str} {mean : ExcName → Option Value} {mg mb : Str → Option Value}
  {dp un : Nat} {gd : Option (List Code)} {cn : Str} {cs : Scope} {a : Addr} {ccd : Value} {cl : List (Str × Addr)} {outer : List Env} {A₀ : Around} {base h₀ : Heap} {L : Addr} {m : Str → Option Value} {s : Shared} {Q E : Value → Shared → Prop}
theorem gt_told {k : Cc} {R : List (Addr × Obj)} {st : Option Str} {ln : Int} {dq : Option Nat} {pos : Nat} {stt tl tt td tp : Tok} {dst : Int} {pr : Option Str × Int} {l : List (Option Str × Int)}
  (o1 : k.dx < k.x) (o2 : k.x < k.dy) (o3 : k.dy < k.y) (o4 : k.y < k.q) (ho : OwnOff ((k.pb, dqObj 0 []) :: (k.fs, dqObj 0 []) :: R) [k.q, k.dx, k.x, k.dy, k.y]) (hb : k.buf.length ≤ 100000)
  (B : Below A₀ base outer h₀) (F : Fr h₀ L s.heap m) (X : (Mine.mkK.heap_1 w.params).In h₀) (N : News h₀ L s.heap (rsLed w.params (ckR k R) st ln "" dq pos stt tl tt td tp dst))
  (T : Top p loose mean mg mb h₀) (hk : cs.kind = .function) (hdp : dp + 50 < recursionLimit) (hun : un + 400 < cLine) (hls : LS k st ln dq pos (pr :: l))
  (h : ∀ t h' tk' st' dq' pos' stt tl tt td tp dst, LS k st' pr.2 dq' pos' l → Fr h₀ L h' m → News h₀ L h' (rsLed w.params (ckR k R) st' pr.2 "" dq' pos' stt tl tt td tp dst) → Q (oV pr.1 t) { s with heap := h', toks := tk' }) :
  wpAny (model PySem.Challenge.rw_in0111_01.row.prog w) (ktrTop dp un gd cn cs L a ccd cl outer) (call (.ref 843) [.ref k.x]) Q E s := by
  refine gt_spec (P := PN k pr l) o1 o2 o3 o4 ho hb B F X N T hk hdp hun (fun g C e => hls.go C (by rw [e])) ?_ ?_
  · rintro v h' tk' a1 a2 a3 a4 a5 a6 r9_433_9 hq ht F N
    refine hid fun hn9_433 => ?_
    obtain ⟨e1, e2, e3, e4⟩ := r9_433_9
    refine hn9_433 ?_
    clear hn9_433
    have z := h 0 h' tk' v.st v.dq v.pos a1 a2 a3 a4 a5 a6 (e1 ▸ e4) F (e1 ▸ N)
    rw [e3 hq ht] at z
    exact z
  · rintro v h' tk' a1 a2 a3 a4 a5 a6 t r9_434_10 hq F N
    refine hid fun hn9_434 => ?_
    obtain ⟨e1, e2, e3, e4⟩ := r9_434_10
    refine hn9_434 ?_
    clear hn9_434
    have z := h t h' tk' v.st v.dq v.pos a1 a2 a3 a4 a5 a6 (e1 ▸ e4) F (e1 ▸ N)
    rw [e2 hq] at z
    exact z
end
end
section
-- text Lf
local macro_rules | `(tactic| k_all) => `(tactic| ((repeat (with_reducible rename (_ ∧ _) => hh9; cases hh9)); first | exact allNe (by assumption) (Nat.le_refl _) | exact allNe (by assumption) (Nat.le_succ _) | exact allNe2 (by assumption) (Nat.le_refl _) | exact off1Mem (by assumption) | assumption | exact allNe2 (by assumption) (by omega) | exact allNe (by assumption) (by omega)))
section
variable {w : World} {p : Program} {loose : List Str} {mean : ExcName → Option Value} {mg mb : Str → Option Value}
theorem law_fin {g : Heap} {L fa : Nat} {cdv : Value} {s : Shared} {u : Str → Option Value} {Q : Flow → Shared → Prop} {Rr : Result → Shared → Prop}
  {qual : Str} {params : Arguments} {body : List Stmt} {scope : Scope} {dV kV doc pm cdv2 ct oc2 : Value} {an od : Option Addr} {osl : Array (Option Value)}
  {hs : List HA} {nH HD du hl q dx n1 n2 nd : Nat} {kt : Tok} {oc : Obj} {R : List (Addr × Obj)} {ts : List TA} {ds : List DA}
  (ho : List.lookup 933 (Mine.mkK.heap_1 w.params) = some ⟨oc2, od, .func (fnOf (Str.ofString "law") qual params body scope dV kV doc pm an cdv2 ct), osl⟩)
  (B : Below callerA g [] g) (X : (Mine.mkK.heap_1 w.params).In g) (T : Top p loose mean mg mb g)
  (ok : ∀ x ∈ hs, OkH 20 x) (hlen : hs.length ≤ 21) (K8 : LK hs nH HD du hs.length R ts ds oc) (o1 : L + 1 < dx) (o2 : dx < q) (o3 : q < hl) (o4 : hl < du)
  (F : Fr g L s.heap (fx [(Str.ofString "table", .ref q), (Str.ofString "due", .ref du)] u))
  (N : News g L s.heap ((du, W.listOf (refD ds).toArray n2) :: (hl, W.listOf (refT ts).toArray n1) :: (q, instObj 190 dx) :: (dx, dictOf [en w.params "_headers" kt (.ref hl)] nd) :: (L + 1, oc) :: R))
  (hQ : ∀ h' tk' m', Fr g L h' m' → Q (.ret (.bool true)) { s with heap := h', toks := tk' }) :
  wpAny (model PySem.Challenge.rw_in0111_01.row.prog w) (callerA.deeper (envOfC qual scope L fa cdv)) (execs (body.drop 4) (envOfC qual scope L fa cdv)) Q
    (fun e s' => wpAny (model PySem.Challenge.rw_in0111_01.row.prog w) (callerA.deeper (envOfC qual scope L fa cdv)) (leaving (envOfC qual scope L fa cdv) e) (fun _ s'' => Rr (.error e) s'') (fun e' s'' => Rr (.error e') s'') s') s := by
  revert X; k_fill; intro X
  refine' look_use ?h ho ?k
  case h => k_is
  intro e
  clear ho
  refine hid fun hn9_435 => ?_
  cases e <;> (refine hn9_435 ?_; clear hn9_435)
  dsimp only [List.drop]
  refine hid fun hn9_436 => ?_
  obtain ⟨tl8, hcell⟩ := K8.cell
  refine hn9_436 ?_
  clear hn9_436
  have f1 : LCg.Off1 du R := off1_of fun p hp => Nat.ne_of_gt (K8.off p hp)
  have f2 : LCg.Off1 hl R := off1_of fun p hp => Nat.ne_of_gt (Nat.lt_trans o4 (K8.off p hp))
  have f3 : LCg.Off1 q R := off1_of fun p hp => Nat.ne_of_gt (Nat.lt_trans o3 (Nat.lt_trans o4 (K8.off p hp)))
  have f4 : LCg.Off1 dx R := off1_of fun p hp => Nat.ne_of_gt (Nat.lt_trans o2 (Nat.lt_trans o3 (Nat.lt_trans o4 (K8.off p hp))))
  have f5 : LCg.Off1 (L + 1) R := off1_of fun p hp => Nat.ne_of_gt (Nat.lt_trans o1 (Nat.lt_trans o2 (Nat.lt_trans o3 (Nat.lt_trans o4 (K8.off p hp)))))
  dsimp only [fx] at F
  have z1 : (refD ds).length ≤ 100000 := by unfold refD; rw [List.length_map]; have := K8.dl; omega
  (repeat' (first | (k_unfold; (try dsimp only)) | (k_end; wrow_close) | ((fail_if_success (with_reducible show wpAny _ _ (call (Value.builtin _) [Value.ref _, Value.ref _]) _ _ _)); walk1) | (dsimp only; (fail_if_success (with_reducible show wpAny _ _ (call (Value.builtin _) [Value.ref _, Value.ref _]) _ _ _)); walk1) | (leave1; (try dsimp only)) | fail "no step"))
  (rename News g L _ ((_, W.listOf #[_, _] _) :: _) => Nr)
  refine hid fun hn9_437 => ?_
  obtain ⟨l3, hl3⟩ := addrOf Nr
  refine hn9_437 ?_
  clear hn9_437
  refine hid fun hn9_438 => ?_
  obtain ⟨d2, hd2⟩ := addrOf2 Nr
  refine hn9_438 ?_
  clear hn9_438
  refine hid fun hn9_439 => ?_
  obtain ⟨d1, hd1⟩ := addrOf3 Nr
  refine hn9_439 ?_
  clear hn9_439
  refine hid fun hn9_440 => ?_
  subst hl3 <;> (refine hn9_440 ?_; clear hn9_440)
  refine hid fun hn9_441 => ?_
  subst hd2 <;> (refine hn9_441 ?_; clear hn9_441)
  refine hid fun hn9_442 => ?_
  subst hd1 <;> (refine hn9_442 ?_; clear hn9_442)
  (rename d1 < d2 ∧ _ => i2)
  (rename d2 < l3 ∧ _ => i3)
  (rename du < d1 ∧ _ => i1)
  have N2 := kst_newsOf (l' := (du, W.listOf (refD ds).toArray n2) :: (l3, W.listOf #[Value.ref d1, Value.ref d2] 0) :: _ :: _ :: (hl, W.listOf (refT ts).toArray n1) :: (q, instObj 190 dx) :: (dx, dictOf [en w.params "_headers" kt (.ref hl)] nd) :: (L + 1, oc) :: R) Nr (mc (matN 3 rfl) (mc (matN 0 rfl) (mc (matN 1 rfl) (mc (matN 2 rfl) (mc (matN 4 rfl) (mc (matN 5 rfl) (mc (matN 6 rfl) (mc (matN 7 rfl) (mdrop 8 rfl)))))))))
  clear Nr
  k_dflt (refine' ext_any ?xF N2 (.tail _ (.head _)) ?xU ?xz ?_)
  case xF => k_asm
  case xU => exact .head (List.forall_mem_cons.mpr ⟨Nat.ne_of_gt i3.2.2.1, List.forall_mem_cons.mpr ⟨Nat.ne_of_gt i2.2.1, List.forall_mem_cons.mpr ⟨Nat.ne_of_gt i1.1, List.forall_mem_cons.mpr ⟨Nat.ne_of_lt o4, List.forall_mem_cons.mpr ⟨Nat.ne_of_lt (Nat.lt_trans o3 o4), List.forall_mem_cons.mpr ⟨Nat.ne_of_lt (Nat.lt_trans o2 (Nat.lt_trans o3 o4)), List.forall_mem_cons.mpr ⟨Nat.ne_of_lt (Nat.lt_trans o1 (Nat.lt_trans o2 (Nat.lt_trans o3 o4))), off1Mem f1⟩⟩⟩⟩⟩⟩⟩)
  case xz => show _ + 2 ≤ _; omega
  intro h3 n3 F3 N3
  (try dsimp only at N3)
  dsimp only
  (repeat' (first | (k_unfold; (try dsimp only)) | (k_end; wrow_close) | ((fail_if_success (with_reducible show wpAny _ _ (call (Value.ref 166) _) _ _ _)); walk1) | (dsimp only; (fail_if_success (with_reducible show wpAny _ _ (call (Value.ref 166) _) _ _ _)); walk1) | (leave1; (try dsimp only)) | fail "no step"))
  have hts := ts_len ok (K8.rows.trans (by rw [List.take_length]))
  have htl : ts.length ≤ 21 := Nat.le_trans K8.tl hlen
  (rename News g L _ ((du, _) :: _) => N4)
  obtain ⟨ds2, e2, e3, e4⟩ : ∃ ds2 : List DA, refD ds2 = refD ds ++ [Value.ref d1, Value.ref d2] ∧ ds2.map (fun d => (d.w, d.ln)) = tabT 1 (tabL hs) ∧ ∀ d ∈ ds2, (d.a, d.obj) ∈ (_ :: _ :: R : List (Addr × Obj)) := ⟨ds ++ [⟨d1, none, 0, 1 + (ts.length : Int) + 1, s.toks + 1, 0⟩, ⟨d2, none, 0, 1 + (ts.length : Int) + 1, s.toks + 1 + 1 + 1, 0⟩], by rw [refD_app]; rfl, by
      rw [List.map_append, K8.dues, List.take_length, ← due_tab]
      have hr : (rowsL hs).length = ts.length := by rw [← List.take_length (l := hs), ← K8.rows, List.length_map]
      rw [hr]
      rfl, fun d hd => by
      rcases List.mem_append.mp hd with hd | hd
      · exact .tail _ (.tail _ (K8.due d hd))
      · rcases List.mem_cons.mp hd with rfl | hd
        · exact .tail _ (.head _)
        · rw [List.mem_singleton.mp hd]; exact .head _⟩
  rw [← e2] at N4
  clear N2
  have N5 := kst_newsOf (l' := (hl, W.listOf (refT ts).toArray n1) :: (dx, dictOf [en w.params "_headers" kt (.ref hl)] nd) :: (q, instObj 190 dx) :: (du, W.listOf (refD ds2).toArray n3) :: (L + 1, oc) :: _ :: _ :: R) N4 (mc (matN 4 rfl) (mc (matN 6 rfl) (mc (matN 5 rfl) (mc (matN 0 rfl) (mc (matN 7 rfl) (mc (matN 2 rfl) (mc (matN 3 rfl) (mdrop 8 rfl))))))))
  clear N4
  k_dflt (refine' str_spec (rest := (du, W.listOf (refD ds2).toArray n3) :: (L + 1, oc) :: _ :: _ :: R) ?sB ?sF ?sX N5 ?sT ?sK ?sd ?su (fun t ht => .tail _ (.tail _ (.tail _ (.tail _ (K8.tup t ht))))) htl hts ?_)
  case sF => k_asm
  case sB => k_asm
  case sX => k_asm
  case sT => k_asm
  case sK => exact rfl
  case sd => ktr_room
  case su => ktr_units
  clear N5
  intro t5 h5 tk5 F5 N5
  dsimp only
  dsimp only [StrBack]
  (repeat' (first | (k_unfold; (try dsimp only)) | (k_end; wrow_close) | ((fail_if_success (with_reducible show wpAny _ _ (call (Value.ref 882) _ _) _ _ _)); walk1) | (dsimp only; (fail_if_success (with_reducible show wpAny _ _ (call (Value.ref 882) _ _) _ _ _)); walk1) | (leave1; (try dsimp only)) | fail "no step"))
  k_dflt (refine' sh_spec ?zB ?zF ?zX N5 ?zT ?zK ?zd ?zu (tab_len htl hts) ?_)
  case zF => k_asm
  case zB => k_asm
  case zX => k_asm
  case zT => k_asm
  case zK => exact rfl
  case zd => ktr_room
  case zu => ktr_units
  clear N5
  intro x dx2 y dy qq pb fs kt2 vt stt tl tt td tp h7 tk7 b0 b1 b2 b3 b4 b5 b6 F7 N7
  dsimp only
  (repeat' (first | (k_unfold; (try dsimp only)) | (k_end; wrow_close) | ((fail_if_success (with_reducible show wpAny _ _ (exec (Stmt.For _ _ _ _ _) _) _ _ _)); walk1) | (dsimp only; (fail_if_success (with_reducible show wpAny _ _ (exec (Stmt.For _ _ _ _ _) _) _ _ _)); walk1) | (leave1; (try dsimp only)) | fail "no step"))
  (rename News g L _ ((_, W.listOf #[] _) :: _) => Nt0)
  refine hid fun hn9_443 => ?_
  obtain ⟨tld, htld⟩ := addrOf Nt0
  refine hn9_443 ?_
  clear hn9_443
  refine hid fun hn9_444 => ?_
  subst htld <;> (refine hn9_444 ?_; clear hn9_444)
  (rename qq < tld ∧ _ => it)
  have KO : KOrd ⟨x, dx2, qq, y, dy, pb, fs, kt2, vt, tabS ts, []⟩ tld := ⟨b1, b2, b3, b4, b5, b6, it.1⟩
  have hfull : ds2.length = (tabT 1 (tabL hs)).length := by rw [← e3, List.length_map]
  have z2 : ds2.length ≤ 100000 := by
    have := congrArg List.length e2
    unfold refD at this
    rw [List.length_append, List.length_map, List.length_map] at this
    have h5 : ([Value.ref d1, Value.ref d2]).length = 2 := rfl
    have := K8.dl
    omega
  have z3 : (refD ds2).length ≤ 100000 := by unfold refD; rw [List.length_map]; exact z2
  with_unfolding_all refine' For_invV g (by rfl) (by rfl) ?_
  k_whole
  (repeat' (first | (k_unfold; (try dsimp only)) | (k_end; wrow_close) | ((fail_if_success (with_reducible show wpAny _ _ (call (Value.builtin "len") _) _ _ _)); walk1) | (dsimp only; (fail_if_success (with_reducible show wpAny _ _ (call (Value.builtin "len") _) _ _ _)); walk1) | (leave1; (try dsimp only)) | fail "no step"))
  k_dflt (refine' len_any (ys := refD ds2) (n := n3) ?lN ?lm ?lz ?_)
  case lN => k_asm
  case lm => k_mem
  case lz => omega
  (repeat' (first | (k_unfold; (try dsimp only)) | (k_end; wrow_close) | ((fail_if_success (with_reducible show wpAny _ _ (pyIter _) _ _ _)); walk1) | (dsimp only; (fail_if_success (with_reducible show wpAny _ _ (pyIter _) _ _ _)); walk1) | (leave1; (try dsimp only)) | fail "no step"))
  refine' iter_rngG (n := (tabT 1 (tabL hs)).length) (TJ w.params ⟨x, dx2, qq, y, dy, pb, fs, kt2, vt, tabS ts, []⟩ ((du, W.listOf (refD ds2).toArray n3) :: ds2.map DA.led) tld du (tabT 1 (tabL hs))) (by rfl) ?hr1 ?hsm1 ?hn1 ?F1 ?N1
    ⟨_, some " ", 1, none, 0, stt, tl, tt, td, tp, 0, [], _, 0, fx_self _ _ ?a1, rfl, ?hR1, ?h31, ?hd1, rfl, .inl ⟨_, tab_runs ok _, rfl, .inl ⟨rfl, by rw [List.drop_zero]; exact tab_codes (K8.rows.trans (by rw [List.take_length]))⟩⟩⟩ ?turn1 ?done1
  case N1 =>
    show News g L _ ((tld, W.listOf #[] 0) :: rsLed w.params (ckR ⟨x, dx2, qq, y, dy, pb, fs, kt2, vt, tabS ts, []⟩ _) (some (Str.ofString " ")) 1 (Str.ofString "") none 0 stt tl tt td tp 0)
    dsimp only [ckR]
    first | assumption | k_asm
  case hr1 => assumption
  case F1 => k_asm
  case a1 => exact List.forall_mem_cons.mpr ⟨rfl, List.forall_mem_cons.mpr ⟨rfl, List.forall_mem_cons.mpr ⟨rfl, List.forall_mem_nil _⟩⟩⟩
  case hR1 => exact fun p hp => .inl (b0 p hp)
  case h31 =>
    intro p hp
    rcases List.mem_cons.mp hp with rfl | hp
    · exact .tail _ (.tail _ (.tail _ (.head _)))
    · refine hid fun hn9_445 => ?_
      obtain ⟨d, hd, rfl⟩ := List.mem_map.mp hp
      refine hn9_445 ?_
      clear hn9_445
      exact .tail _ (.tail _ (.tail _ (.tail _ (.tail _ (e4 d hd)))))
  case hd1 => exact fun d hd => nomatch hd
  case hsm1 => exact small_one (by omega) (by omega) (by omega) (by omega)
  case hn1 => rw [rangeSize_nat]; unfold refD; rw [List.length_map, hfull]; omega
  case done1 =>
    rintro m₁ nw h5 tk5 r9_446_4 F5 N5
    refine hid fun hn9_446 => ?_
    obtain ⟨u5, st, ln, dq, pos, s1, s2, s3, s4, s5, nt, dn, R4, dst, rfl, rfl, hR, h3, hd, he, hls⟩ := r9_446_4
    refine hn9_446 ?_
    clear hn9_446
    dsimp only [fx] at F5
    dsimp only
    rw [List.take_length] at he
    have hmem : ∀ q ∈ R4, q ∈ (tld, W.listOf (refD dn).toArray nt) :: rsLed w.params (ckR ⟨x, dx2, qq, y, dy, pb, fs, kt2, vt, tabS ts, []⟩ R4) st ln "" dq pos s1 s2 s3 s4 s5 dst := fun q hq => .tail _ (.tail _ (.tail _ (.tail _ (.tail _ (.tail _ (.tail _ (.tail _ hq)))))))
    have r1 := reads_list (N5 _ (.head _)).1 (fun d hd' => (N5 _ (hmem _ (hd d hd'))).1)
    have r2 := reads_list (N5 _ (hmem _ (h3 _ (.head _)))).1 (fun d hd' => (N5 _ (hmem _ (h3 _ (.tail _ (List.mem_map.mpr ⟨d, hd', rfl⟩))))).1)
    rw [he] at r1
    rw [e3] at r2
    refine hid fun hn9_447 => ?_
    obtain ⟨as1, r1⟩ := r1
    refine hn9_447 ?_
    clear hn9_447
    refine hid fun hn9_448 => ?_
    obtain ⟨as2, r2⟩ := r2
    refine hn9_448 ?_
    clear hn9_448
    have hsm := dues_shaped (tabT_small _ 1 (tabL_small hs ok))
    (repeat' (first | (k_unfold; (try dsimp only)) | (k_end; wrow_close) | ((fail_if_success (with_reducible show wpAny _ _ (compareOp _ _ _) _ _ _)); walk1) | (dsimp only; (fail_if_success (with_reducible show wpAny _ _ (compareOp _ _ _) _ _ _)); walk1) | (leave1; (try dsimp only)) | fail "no step"))
    refine SeqAt.compareEq_shaped r1 r2 hsm hsm (by ktr_units) ?_
    rw [SeqAt.eqv_refl _ (SeqAt.canLay_of_shaped hsm)]
    (repeat' (first | (k_unfold; (try dsimp only)) | (k_end; wrow_close) | walk1 | (dsimp only; walk1) | (leave1; (try dsimp only)) | fail "no step"))
    refine' hQ _ _ _ ?kFQ
    case kFQ => k_asm
  case turn1 =>
    rintro i5 t5 m₁ nw h5 tk5 I oI hi r9_449_9 off F5 N5
    refine hid fun hn9_449 => ?_
    obtain ⟨u5, st, ln, dq, pos, s1, s2, s3, s4, s5, nt, dn, R4, dst, rfl, rfl, hR, h3, hd, he, hls⟩ := r9_449_9
    refine hn9_449 ?_
    clear hn9_449
    dsimp only [fx] at F5
    refine hid fun hn9_450 => ?_
    obtain ⟨pr, hpr⟩ : ∃ pr, (tabT 1 (tabL hs))[i5]? = some pr := ⟨_, List.getElem?_eq_getElem hi⟩
    refine hn9_450 ?_
    clear hn9_450
    have hdr : (tabT 1 (tabL hs)).drop i5 = pr :: (tabT 1 (tabL hs)).drop (i5 + 1) := by
      rw [List.drop_eq_getElem_cons hi]
      rw [List.getElem?_eq_getElem hi] at hpr
      rw [Option.some.inj hpr]
    rw [hdr] at hls
    refine hid fun hn9_451 => ?_
    obtain ⟨hoI, hRI⟩ := rs_offI (List.forall_mem_cons.mp off).2
    refine hn9_451 ?_
    clear hn9_451
    have htI : tld ≠ I := (List.forall_mem_cons.mp off).1
    have N6 := kst_newsOf (l' := rsLed w.params (ckR ⟨x, dx2, qq, y, dy, pb, fs, kt2, vt, tabS ts, []⟩ ((tld, W.listOf (refD dn).toArray nt) :: (I, oI) :: R4)) st ln "" dq pos s1 s2 s3 s4 s5 dst) N5 (mc (matN 2 rfl) (mc (matN 3 rfl) (mc (matN 4 rfl) (mc (matN 5 rfl) (mc (matN 6 rfl) (mc (matN 7 rfl) (mc (matN 8 rfl) (mc (matN 1 rfl) (mc (matN 0 rfl) (mdrop 9 rfl))))))))))
    clear N5 off
    dsimp only [rsLed, ckR] at N6
    (repeat' (first | (k_unfold; (try dsimp only)) | (k_end; wrow_close) | ((fail_if_success (with_reducible show wpAny _ _ (call (Value.ref 843) _) _ _ _)); walk1) | (dsimp only; (fail_if_success (with_reducible show wpAny _ _ (call (Value.ref 843) _) _ _ _)); walk1) | (leave1; (try dsimp only)) | fail "no step"))
    (rename News g L _ _ => N7)
    k_dflt (refine' gt_told (k := ⟨x, dx2, qq, y, dy, pb, fs, kt2, vt, tabS ts, []⟩) (R := (tld, W.listOf (refD dn).toArray nt) :: (I, oI) :: R4) (st := st) (ln := ln) (dq := dq) (pos := pos) (stt := s1) (tl := s2) (tt := s3) (td := s4) (tp := s5) (dst := dst) b1 b2 b3 (Nat.lt_trans b4 (Nat.lt_trans b5 b6)) (rest_off KO hR hoI) (tab_len htl hts) ?tB ?tF ?tX ?tN ?tT ?tK ?td ?tu hls ?_)
    case tN => first | exact N7 | exact fun p hp => N7 p (.tail _ hp)
    case tF => k_asm
    case tB => k_asm
    case tX => k_asm
    case tT => k_asm
    case tK => exact rfl
    case td => ktr_room
    case tu => ktr_units
    clear N7
    (try clear N6)
    intro t9 h9 tk9 st9 dq9 pos9 c1 c2 c3 c4 c5 c6 hls9 F9 N9
    dsimp only [rsLed, ckR] at N9
    dsimp only
    (repeat' (first | (k_unfold; (try dsimp only)) | (k_end; wrow_close) | ((fail_if_success (with_reducible show wpAny _ _ (call (Value.builtin "list.append") _) _ _ _)); walk1) | (dsimp only; (fail_if_success (with_reducible show wpAny _ _ (call (Value.builtin "list.append") _) _ _ _)); walk1) | (leave1; (try dsimp only)) | fail "no step"))
    (rename News g L _ _ => Nt)
    refine hid fun hn9_452 => ?_
    obtain ⟨D, hD⟩ := addrOf Nt
    refine hn9_452 ?_
    clear hn9_452
    refine hid fun hn9_453 => ?_
    subst hD <;> (refine hn9_453 ?_; clear hn9_453)
    (rename qq < D ∧ _ => iD)
    have htD : tld < D := iD.2.2.2.2.2.2.2.1
    have N8 := kst_newsOf (l' := (tld, W.listOf (refD dn).toArray nt) :: (I, oI) :: rsLed w.params (ckR ⟨x, dx2, qq, y, dy, pb, fs, kt2, vt, tabS ts, []⟩ ((D, { cls := .type "tuple", data := .seq #[oV pr.1 t9, .int pr.2 c2] }) :: R4)) st9 pr.2 "" dq9 pos9 c1 c2 c3 c4 c5 c6) Nt (mc (matN 8 rfl) (mc (matN 9 rfl) (mc (matN 1 rfl) (mc (matN 2 rfl) (mc (matN 3 rfl) (mc (matN 4 rfl) (mc (matN 5 rfl) (mc (matN 6 rfl) (mc (matN 7 rfl) (mc (matN 0 rfl) (mdrop 10 rfl)))))))))))
    clear Nt
    (try clear N9)
    k_dflt (refine' app_any (D := tld) (ys := refD dn) (n := nt) ?aF N8 (.head ?aO) ?az ?_)
    case aF => k_asm
    case aO => exact List.forall_mem_cons.mpr ⟨Ne.symm htI, rs_off KO (List.forall_mem_cons.mpr ⟨.inr htD, hR⟩)⟩
    case az =>
      have h1 := congrArg List.length he
      rw [List.length_map, List.length_take] at h1
      unfold refD
      rw [List.length_map]
      omega
    clear N8
    intro h10 n10 F10 N10
    (try dsimp only at N10)
    dsimp only
    (repeat' (first | (k_unfold; (try dsimp only)) | (k_end; wrow_close) | walk1 | (dsimp only; walk1) | (leave1; (try dsimp only)) | fail "no step"))
    refine' told_post (ln := 0) (k := ⟨x, dx2, qq, y, dy, pb, fs, kt2, vt, tabS ts, []⟩) (fx_self _ _ ?eM) ?eF N10 hR h3 hd he hpr hls9 htD (Nat.ne_of_gt iD.2.2.2.2.2.2.2.2.1) hoI htI hRI
    case eF => k_asm
    case eM => exact List.forall_mem_cons.mpr ⟨rfl, List.forall_mem_cons.mpr ⟨rfl, List.forall_mem_cons.mpr ⟨rfl, List.forall_mem_nil _⟩⟩⟩
end
end
section
-- text Lw
local macro_rules | `(tactic| k_all) => `(tactic| ((repeat (with_reducible rename (_ ∧ _) => hh9; cases hh9)); first | exact allNe (by assumption) (Nat.le_refl _) | exact allNe (by assumption) (Nat.le_succ _) | exact allNe2 (by assumption) (Nat.le_refl _) | exact off1Mem (by assumption) | assumption | exact allNe2 (by assumption) (by omega) | exact allNe (by assumption) (by omega)))
section
variable {w : World} {p : Program} {loose : List Str} {mean : ExcName → Option Value} {mg mb : Str → Option Value}
theorem lj_init {P : Params} {hs : List HA} {nH HD du hl q dx c n1 n2 nd : Nat} {kt tt : Tok} {oc : Obj} {g h : Heap} {L : Addr}
    (N : News g L h ((HD, W.listOf (refsH hs).toArray nH) :: (ledOf hs ++ [(du, W.listOf #[] n2), (hl, W.listOf #[] n1), (q, instObj 190 dx), (dx, dictOf [en P "_headers" kt (.ref hl)] nd), (c, oc)])))
    (hc : oc.data = .cell (some (.int 1 tt)))
    (ap : ∀ x ∈ ((HD, W.listOf (refsH hs).toArray nH) :: ledOf hs : List (Addr × Obj)), ∀ y ∈ ([(du, W.listOf #[] n2), (hl, W.listOf #[] n1), (q, instObj 190 dx), (dx, dictOf [en P "_headers" kt (.ref hl)] nd), (c, oc)] : List (Addr × Obj)), y.1 < x.1) :
    ∃ kt nd nw, News g L h nw ∧ ∀ m u, m = fx [(Str.ofString "table", .ref q), (Str.ofString "due", .ref du)] u → LJ P hs nH HD du hl q dx c kt nd 0 m nw := by
  refine ⟨kt, nd, _, ?_, fun m u hm => ⟨u, [], [], (HD, W.listOf (refsH hs).toArray nH) :: ledOf hs, n1, n2, oc, hm, rfl, ⟨fun p hp => ap p hp _ (.head _), ⟨tt, hc⟩, fun p hp => hp, fun t ht => (nomatch ht), fun t ht => (nomatch ht), rfl, rfl, Nat.zero_le _, Nat.zero_le _⟩⟩⟩
  refine kst_newsOf N fun p hp => ?_
  rcases List.mem_cons.mp hp with rfl | hp
  · exact .tail _ (List.mem_append_right _ (.head _))
  rcases List.mem_cons.mp hp with rfl | hp
  · exact .tail _ (List.mem_append_right _ (.tail _ (.head _)))
  rcases List.mem_cons.mp hp with rfl | hp
  · exact .tail _ (List.mem_append_right _ (.tail _ (.tail _ (.head _))))
  rcases List.mem_cons.mp hp with rfl | hp
  · exact .tail _ (List.mem_append_right _ (.tail _ (.tail _ (.tail _ (.head _)))))
  rcases List.mem_cons.mp hp with rfl | hp
  · exact .tail _ (List.mem_append_right _ (.tail _ (.tail _ (.tail _ (.tail _ (.head _))))))
  rcases List.mem_cons.mp hp with rfl | hp
  · exact .head _
  · exact .tail _ (List.mem_append_left _ hp)
theorem law_body {g : Heap} {L fa : Nat} {cdv : Value} {s : Shared} {oc : Obj} {u : Str → Option Value} {sc : Nat} {vs : List Value} {ns : List Int} {Q : Flow → Shared → Prop} {Rr : Result → Shared → Prop}
  {qual : Str} {params : Arguments} {body : List Stmt} {scope : Scope} {dV kV doc pm cdv2 ct oc2 : Value} {an od : Option Addr} {osl : Array (Option Value)}
  (ho : (Mine.mkK.heap_1 w.params).lookup 933 = some ⟨oc2, od, .func (fnOf (Str.ofString "law") qual params body scope dV kV doc pm an cdv2 ct), osl⟩)
  (B : Below callerA g [] g) (X : (Mine.mkK.heap_1 w.params).In g) (T : Top p loose mean mg mb g)
  (F : Fr g L s.heap (fx [(Str.ofString "script", .ref sc)] u)) (N : News g L s.heap [(L + 1, oc)]) (hc : oc.data = .cell none) (hL : g.IsList sc vs.toArray) (hI : IntsAre vs ns) (hvs : vs.length ≤ 1000)
  (hQ : ∀ h' tk' m', Fr g L h' m' → Q (.ret (.bool true)) { s with heap := h', toks := tk' }) : wpAny (model PySem.Challenge.rw_in0111_01.row.prog w) (callerA.deeper (envOfC qual scope L fa cdv)) (execs body (envOfC qual scope L fa cdv)) Q
    (fun e s' => wpAny (model PySem.Challenge.rw_in0111_01.row.prog w) (callerA.deeper (envOfC qual scope L fa cdv)) (leaving (envOfC qual scope L fa cdv) e) (fun _ s'' => Rr (.error e) s'') (fun e' s'' => Rr (.error e') s'') s') s := by
  have ho2 := ho
  revert X; k_fill; intro X
  refine' look_use ?h ho ?k
  case h => k_is
  intro e
  clear ho
  refine hid fun hn9_454 => ?_
  cases e <;> (refine hn9_454 ?_; clear hn9_454)
  dsimp only [fx] at F
  (repeat' (first | (k_unfold; (try dsimp only)) | (k_end; wrow_close) | ((fail_if_success (with_reducible show wpAny _ _ (exec (Stmt.For (Expr.Name _ _) _ _ _ _) _) _ _ _)); (first | (with_reducible (k_here; first | (refine ite_bt ?hq ?_; (case hq => with_reducible assumption)) | (refine ite_bf ?hq ?_; (case hq => with_reducible assumption)) | (refine ite_in_t ?hq ?_; (case hq => with_reducible assumption)) | (refine ite_in_f ?hq ?_; (case hq => with_reducible assumption)) | (refine ite_bt ?hq ?_; (case hq => decide +kernel)) | (refine ite_bf ?hq ?_; (case hq => decide +kernel)))) | walk1)) | (dsimp only; (fail_if_success (with_reducible show wpAny _ _ (exec (Stmt.For (Expr.Name _ _) _ _ _ _) _) _ _ _)); walk1) | (leave1; (try dsimp only)) | fail "no step"))
  (rename News g L _ ((_, W.listOf #[] _) :: (_, W.listOf #[] _) :: (_, instObj 190 _) :: _) => Nr)
  refine hid fun hn9_455 => ?_
  obtain ⟨du, hdu⟩ := addrOf Nr
  refine hn9_455 ?_
  clear hn9_455
  refine hid fun hn9_456 => ?_
  obtain ⟨hl, hhl⟩ := addrOf2 Nr
  refine hn9_456 ?_
  clear hn9_456
  refine hid fun hn9_457 => ?_
  obtain ⟨q, hq⟩ := addrOf3 Nr
  refine hn9_457 ?_
  clear hn9_457
  refine hid fun hn9_458 => ?_
  obtain ⟨dx, hdx⟩ := addrOf4 Nr
  refine hn9_458 ?_
  clear hn9_458
  refine hid fun hn9_459 => ?_
  subst hdu <;> (refine hn9_459 ?_; clear hn9_459)
  refine hid fun hn9_460 => ?_
  subst hhl <;> (refine hn9_460 ?_; clear hn9_460)
  refine hid fun hn9_461 => ?_
  subst hq <;> (refine hn9_461 ?_; clear hn9_461)
  refine hid fun hn9_462 => ?_
  subst hdx <;> (refine hn9_462 ?_; clear hn9_462)
  with_unfolding_all refine' For_invV g (by rfl) (by rfl) ?_
  k_whole
  (repeat' (first | (k_unfold; (try dsimp only)) | (k_end; wrow_close) | ((fail_if_success (with_reducible show wpAny _ _ (call (Value.ref 908) _) _ _ _)); (first | (with_reducible (k_here; first | (refine ite_bt ?hq ?_; (case hq => with_reducible assumption)) | (refine ite_bf ?hq ?_; (case hq => with_reducible assumption)) | (refine ite_in_t ?hq ?_; (case hq => with_reducible assumption)) | (refine ite_in_f ?hq ?_; (case hq => with_reducible assumption)) | (refine ite_bt ?hq ?_; (case hq => decide +kernel)) | (refine ite_bf ?hq ?_; (case hq => decide +kernel)))) | walk1)) | (dsimp only; (fail_if_success (with_reducible show wpAny _ _ (call (Value.ref 908) _) _ _ _)); walk1) | (leave1; (try dsimp only)) | fail "no step"))
  k_dflt (refine' heads_spec (vs := vs) (ns := ns) ?kB ?kF ?kX Nr ?kT ?kK ?kd ?ku hL hI hvs ?_)
  case kF => k_asm
  case kB => k_asm
  case kX => k_asm
  case kT => k_asm
  case kK => exact rfl
  case kd => ktr_room
  case ku => ktr_units
  intro HD hs nH h6 tk6 hok hlen F6 N6 ap6
  dsimp only
  (repeat' (first | (k_unfold; (try dsimp only)) | (k_end; wrow_close) | ((fail_if_success (with_reducible show wpAny _ _ (pyIter _) _ _ _)); (first | (with_reducible (k_here; first | (refine ite_bt ?hq ?_; (case hq => with_reducible assumption)) | (refine ite_bf ?hq ?_; (case hq => with_reducible assumption)) | (refine ite_in_t ?hq ?_; (case hq => with_reducible assumption)) | (refine ite_in_f ?hq ?_; (case hq => with_reducible assumption)) | (refine ite_bt ?hq ?_; (case hq => decide +kernel)) | (refine ite_bf ?hq ?_; (case hq => decide +kernel)))) | walk1)) | (dsimp only; (fail_if_success (with_reducible show wpAny _ _ (pyIter _) _ _ _)); walk1) | (leave1; (try dsimp only)) | fail "no step"))
  (rename Obj.data _ = Data.cell (some _) => dcell)
  (rename L + 1 < dx => o1)
  (rename dx < q => o2)
  (rename q < hl ∧ _ => o3)
  (rename hl < du ∧ _ => o4)
  replace o3 := o3.1
  replace o4 := o4.1
  refine hid fun hn9_463 => ?_
  obtain ⟨kt, nd, nw, N7, hj⟩ := lj_init N6 dcell ap6
  refine hn9_463 ?_
  clear hn9_463
  refine' iter_ledG (vs := refsH hs) (nn := nH) (LJ w.params hs nH HD du hl q dx (L + 1) kt nd) (by rfl) ?hl8 F6 N7 (hj _ _ (fx_self _ _ ?hfx)) ?turn ?done
  case hfx => exact List.forall_mem_cons.mpr ⟨rfl, List.forall_mem_cons.mpr ⟨rfl, List.forall_mem_nil _⟩⟩
  case hl8 =>
    rintro i m nw r9_464_3
    refine hid fun hn9_464 => ?_
    obtain ⟨u5, ts, ds, R, n1, n2, oc5, rfl, rfl, K8⟩ := r9_464_3
    refine hn9_464 ?_
    clear hn9_464
    exact .tail _ (.tail _ (.tail _ (.tail _ (.tail _ (K8.head _ (.head _))))))
  case turn =>
    rintro i v m₁ nw h tk5 I oI hv r9_465_9 off F9 N9
    refine hid fun hn9_465 => ?_
    obtain ⟨u5, ts, ds, R, n1, n2, oc5, rfl, rfl, K8⟩ := r9_465_9
    refine hn9_465 ?_
    clear hn9_465
    refine hid fun hn9_466 => ?_
    obtain ⟨hd, hhd, rfl⟩ := refsH_at (by simpa using hv)
    refine hn9_466 ?_
    clear hn9_466
    have hi : i < 21 := Nat.lt_of_lt_of_le (List.getElem?_eq_some_iff.mp hhd).1 hlen
    refine' law_turn ho2 ?tB ?tX ?tT hhd (hok _ (List.mem_of_getElem? hhd)) hi K8 o1 o2 o3 o4 F9 N9 off ?_
    case tB => k_asm
    case tX => k_asm
    case tT => k_asm
    intro h' tk' u' R' ts' ds' n1' n2' oc' F' N' off' K'
    refine PostG.intro F' N' ?_ ⟨u', ts', ds', R', n1', n2', oc', rfl, rfl, K'⟩
    intro p hp
    rcases List.mem_cons.mp hp with rfl | hp
    · have h9 := off _ (.head _)
      exact h9
    rcases List.mem_cons.mp hp with rfl | hp
    · have h9 := off _ (.tail _ (.head _))
      exact h9
    rcases List.mem_cons.mp hp with rfl | hp
    · have h9 := off _ (.tail _ (.tail _ (.head _)))
      exact h9
    rcases List.mem_cons.mp hp with rfl | hp
    · have h9 := off _ (.tail _ (.tail _ (.tail _ (.head _))))
      exact h9
    rcases List.mem_cons.mp hp with rfl | hp
    · have h9 := off _ (.tail _ (.tail _ (.tail _ (.tail _ (.head _)))))
      exact h9
    · exact off' p hp
  case done =>
    rintro m₁ nw h tk5 r9_467_4 F9 N9
    refine hid fun hn9_467 => ?_
    obtain ⟨u5, ts, ds, R, n1, n2, oc5, rfl, rfl, K8⟩ := r9_467_4
    refine hn9_467 ?_
    clear hn9_467
    rw [show (refsH hs).length = hs.length from by unfold refsH; rw [List.length_map]] at K8
    dsimp only
    refine' law_fin ho2 ?fB ?fX ?fT hok hlen K8 o1 o2 o3 o4 F9 N9 hQ
    case fB => k_asm
    case fX => k_asm
    case fT => k_asm
end
end
end Mine
local macro_rules | `(tactic| k_qdec) => `(tactic| decide +kernel)
set_option maxRecDepth 100000 in
set_option maxHeartbeats 0 in
theorem PySem.Challenge.cw_in0111_01_holds : PySem.Challenge.rw_in0111_01.Holds := by
  w_on
  refine holds_law Mine.wsaidQ fun said => ?_
  refine holds_open (q := Mine.vq) (loose := Mine.looseQ) (Xt := fun s => xlAt Mine.vq [] s && recOk (RowW.records (OpenLaw.row PySem.Challenge.rw_in0111_01).toRowW) s) (XP := XL Mine.vq []) (Yf := Hook.obs Mine.hkK) (Ya := Hook.val Mine.hkK) (YP := Hook.says Mine.hkK) (N := 6200)
    Mine.leftK (Hook.of Mine.hkK) (Hook.keeps Mine.hkK) (fun s e => xl_of s (Bool.and_eq_true_iff.mp e).1) XL.keeps (by rfl) (by rfl) (by rfl) (fun s e => recFacts_of (Bool.and_eq_true_iff.mp e).2) (by rfl) (by first | assumption | decide +kernel) (by decide +kernel) ⟨rfl, rfl, rfl, rfl, rfl, by decide +kernel⟩ ?hw ?hc
  case hw => w_witness2
  w_strict (
    k_go0
    refine' Mine.law_body ?q9ho ?q9B ?q9X ?q9T ?q9F ?q9N ?q9hc ?q9hL ?q9hI ?q9hv ?q9hQ
    case q9B => assumption
    case q9X => assumption
    case q9T => assumption
    case q9N => assumption
    case q9hL => assumption
    case q9hI => assumption
    case q9hv =>
      (rename IntsAre _ _ => hI9)
      rw [hI9.length]
      omega
    case q9ho => with_unfolding_all rfl
    case q9F =>
      (rename Fr _ _ _ _ => F9)
      exact Mine.fr_fx F9 (List.forall_mem_cons.mpr ⟨by with_unfolding_all rfl, List.forall_mem_nil _⟩)
    case q9hc =>
      (rename Obj.data _ = Data.cell _ => d9)
      exact d9.trans (by with_unfolding_all rfl)
    case q9hQ =>
      intro h9 tk9 m9 F9
      dsimp only
      wrow_close)
