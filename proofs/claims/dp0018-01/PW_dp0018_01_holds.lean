import PyProof.Rows.All
import Wide.All
import OpenK.AllK
import Wide.FinOn
import PySem.Challenge.RW_dp0018_01
open PySem PySem.W PyProof.Rows
set_option Elab.async false
set_option maxRecDepth 100000
set_option maxHeartbeats 8000000
namespace Mine
open_top hd for PySem.Challenge.rw_dp0018_01

section
/- valid signs are kept -/
open PySem.Builtin PySem.Builtin.Str
theorem ok_iff (x : Str) : PyData.strOk x = true ↔ ∀ c ∈ x.cps.toList, c < 0x110000 := by
  unfold PyData.strOk
  rw [← Array.all_toList, List.all_eq_true]
  simp only [decide_eq_true_eq]
theorem ok_app {x y : Str} (hx : PyData.strOk x = true) (hy : PyData.strOk y = true) : PyData.strOk (x ++ y) = true := by
  rw [ok_iff] at *
  intro c hc
  rw [PySem.Str.cps_append, Array.toList_append, List.mem_append] at hc
  rcases hc with hc | hc
  · exact hx c hc
  · exact hy c hc
theorem ok_joined {sep : Str} (hs : PyData.strOk sep = true) : ∀ l : List Str, (∀ a ∈ l, PyData.strOk a = true) → PyData.strOk (PySem.Str.join sep l) = true
  | [], _ => (by decide +kernel : PyData.strOk PySem.Str.empty = true)
  | [x], h => h x List.mem_cons_self
  | x :: y :: r, h => by
    show PyData.strOk (x ++ sep ++ PySem.Str.join sep (y :: r)) = true
    exact ok_app (ok_app (h x List.mem_cons_self) hs) (ok_joined hs (y :: r) fun a ha => h a (List.mem_cons_of_mem _ ha))
theorem ok_join {sep : Str} (hs : PyData.strOk sep = true) (l : List Str) (h : ∀ a ∈ l, PyData.strOk a = true) : PyData.strOk (Txt.join sep l) = true := by
  show PyData.strOk (glued sep l) = true
  rw [StrLaws.glued_eq_join]
  exact ok_joined hs l h
theorem ok_sub {x : Str} (h : PyData.strOk x = true) (i j : Nat) : PyData.strOk (strSub x i j) = true := by
  rw [ok_iff] at *
  intro c hc
  rw [StrLaws.strSub_toList] at hc
  exact h c (List.mem_of_mem_drop (List.mem_of_mem_take hc))
theorem ok_strip {x : Str} (h : PyData.strOk x = true) : PyData.strOk (Txt.strip x) = true := by
  have es : Txt.strip x = strSub x (stripLo Unicode.isSpace true x) (stripHi Unicode.isSpace true x (stripLo Unicode.isSpace true x)) := PyProof.Rows.stripBy_eq _ _ _ _
  rw [es]
  exact ok_sub h _ _
theorem ok_slice {x : Str} (h : PyData.strOk x = true) (l u : Option Int) : PyData.strOk (Txt.slice x l u) = true := by
  unfold Txt.slice
  split
  · exact h
  · rw [ok_iff] at *
    intro c hc
    have hc' : c ∈ List.filterMap (fun x_1 => x.cps[x_1]?) (strSliceIndices l u 1 x.length) := by simpa using hc
    obtain ⟨i, _, hi⟩ := List.mem_filterMap.mp hc'
    exact h c (by rw [← Array.getElem?_toList] at hi; exact List.mem_of_getElem? hi)
theorem ok_one {c : Nat} (h : c < 0x110000) : PyData.strOk ⟨#[c]⟩ = true := by
  rw [ok_iff]
  intro d hd
  have : d = c := by simpa using hd
  omega
end

section
/- _law_blank -/
def blankC (c : Nat) : Bool :=
  decide ((9 ≤ c ∧ c ≤ 13) ∨ (28 ≤ c ∧ c ≤ 32) ∨ (8192 ≤ c ∧ c ≤ 8202) ∨ c = 133 ∨ c = 160 ∨ c = 5760 ∨ c = 8232 ∨ c = 8233 ∨ c = 8239 ∨ c = 8287 ∨ c = 12288)
theorem blankC_any {c : Nat} (h1 : ¬ (9 ≤ c ∧ c ≤ 13)) (h2 : ¬ (28 ≤ c ∧ c ≤ 32)) (h3 : ¬ (8192 ≤ c ∧ c ≤ 8202)) :
    (([133, 160, 5760, 8232, 8233, 8239, 8287, 12288] : List Int).any fun x => x == (c : Int)) = blankC c := by
  rw [Bool.eq_iff_iff]
  simp only [blankC, List.any_cons, List.any_nil, Bool.or_eq_true, beq_iff_eq, decide_eq_true_eq, Bool.false_eq_true, or_false]
  omega
theorem blank_claim (w : World) (mean : ExcName → Option Value) (mg mb : Str → Option Value) (news : List (Addr × Obj)) (c : Nat) (t : Tok) :
    CbClaim PySem.Challenge.rw_dp0018_01.row.prog w (hd.heap_39 w.params) hd.view_39 (looseW hd.view_39 []) mean mg mb 33 news [] True [.str ⟨#[c]⟩ t] (fun _ => .bool (blankC c)) := by
  k_fill
  dsimp only [CbClaim, CbLists, CbRet]; intros; rename_i hret
  w_on
  refine wpAny_call ?_
  k_dflt cell_enter
  k_steps
  all_goals exact cb_retB hret (by first | exact (decide_eq_true (by omega)).symm | exact blankC_any (by omega) (by omega) (by omega)) (by k_asm) (by first | k_asm | (refine' cb_drop ?cbN ?cbS; (case cbN => assumption); (case cbS => kcj_all)))
end

section
/- _law_bare -/
def keptL (x : Str) : List Int := (rangeKs 0 x.length).filter fun k => !blankC ((Txt.charAt x k).getD 0)
def bareS (x : Str) : Str := match keptL x with
  | [] => Str.ofString ""
  | a :: r => Txt.slice x (some ((a :: r).getD (Int.toNat 0) 0)) (some ((a :: r).getD (-1 + ((a :: r).length : Int)).toNat 0 + 1))
theorem fold_kept {G : List Int → Int → List Int} {p : Int → Bool} (h : ∀ l k, G l k = if p k = true then l ++ [k] else l) : ∀ (ks l : List Int), ks.foldl G l = l ++ ks.filter p
  | [], l => by simp
  | k :: r, l => by
    rw [List.foldl_cons, fold_kept h r, h, List.filter_cons]
    by_cases hp : p k = true <;> simp [hp]
theorem ints_kept {G : List Int → Int → List Int} {p : Int → Bool} {ys : List Value} {n : Nat} {e : Int} (hI : IntsAre ys ((rangeKs 0 (e - 0).toNat).foldl G [])) (he : e = n) (h : ∀ l k, G l k = if p k = true then l ++ [k] else l) : IntsAre ys ((rangeKs 0 n).filter p) := by
  rw [fold_kept h, List.nil_append] at hI
  have : (e - 0).toNat = n := by omega
  rwa [this] at hI
theorem blank_use {w : World} {mean : ExcName → Option Value} {mg mb : Str → Option Value} {news : List (Addr × Obj)} {x : Str} {k : Int} {t : Tok}
    {dp un : Nat} {gd : Option (List Code)} {cn : Str} {cs : Scope} {a : Addr} {ccd : Value} {cl : List (Str × Addr)} {outer : List Env} {A₀ : Around} {base h₀ : Heap} {L : Addr} {m : Str → Option Value} {s : Shared} {Q E : Value → Shared → Prop}
    (B : Below A₀ base outer h₀) (F : Fr h₀ L s.heap m) (X : (hd.heap_39 w.params).In h₀) (N : News h₀ L s.heap news) (T : Top hd.view_39 (looseW hd.view_39 []) mean mg mb h₀) (hk : cs.kind = .function)
    (hd : dp + 1 < recursionLimit) (hu : un + 8 < cLine)
    (ret : ∀ (t : Tok) (h' : Heap) (tk' : Nat), Fr h₀ L h' m → News h₀ L h' news → Q (.bool (blankC ((Txt.charAt x k).getD 0))) { s with heap := h', toks := tk' }) :
    wpAny (model PySem.Challenge.rw_dp0018_01.row.prog w) (ktrTop dp un gd cn cs L a ccd cl outer) (call (.ref 33) [.str (Txt.item x k) t]) Q E s :=
  blank_claim w mean mg mb news _ t _ _ _ _ _ _ _ _ _ _ _ _ _ _ _ _ _ B F X N T hk True.intro hd hu ret
local macro_rules | `(tactic| walk_at "call ref") => `(tactic| (k_here; (with_reducible show wpAny _ _ (call (Value.ref 33) [Value.str (Txt.item _ _) _]) _ _ _); k_dflt (refine' blank_use ?k1 ?k2 ?k3 ?k4 ?k5 ?k6 ?kd ?ku ?_; (case k1 => k_asm); (case k2 => k_asm); (case k3 => k_asm); (case k4 => k_asm); (case k5 => k_asm); (case k6 => first | exact rfl | assumption); (case kd => ktr_room); (case ku => ktr_units)); intro t9 h9 tk9 F9 N9; (try dsimp only); (try k_fold)))
local macro_rules | `(tactic| cell_enter) => `(tactic| (refine' code_defC ?k1 ?k2 ?k3 ?k4 ?k5 ?kA ?kF ?kK ?k6 ?k7 ?k8 ?k9 ?kB ?kD ?_ ?c2 ?c3 ?c4; (case kA => exact rfl); (case kF => exact rfl); (case kK => assumption); (case k1 => k_asm); (case k2 => k_asm); (case k3 => k_asm); (case k4 => k_asm); (case k5 => k_asm); (case k6 => k_is); (case k7 => k_is); (case k8 => ktr_room); (case k9 => exact BindsTo.of_eq rfl); (case kB => exact rfl); (case kD => decide +kernel); (case c2 => exact rfl); (case c3 => exact rfl); (case c4 => exact rfl); k_whole; intro g' L' h' tk' cells' FG' F' N' Y' B' X' T' l1; (try k_lt l1); k_cells Y'; (try simp only [List.cons_append, List.nil_append] at N'); (try dsimp only); (try k_lift B'); (try k_fold)))
theorem end_no {h₀ : Heap} {L I C D : Addr} {m : Str → Option Value} {s₁ : Shared} {oI oC oD : Obj} {S : List (Addr × Obj) → Prop} {v : Value} {h' : Heap} {tk : Nat} {news : List (Addr × Obj)} {l r : List Int}
    (F : Fr h₀ L h' m) (N : News h₀ L h' ((I, oI) :: (C, oC) :: (D, oD) :: news)) (off : LCg.Off3 I C D news) (hS : S news) (e : r = l) :
    LCg.CompEnd h₀ L m s₁ I oI C oC D oD S (fun _ news' => KCiNo news l r news') v { s₁ with heap := h', toks := tk } :=
  LCg.CompEnd.intro F N news (fun _ hp => hp) off hS (kci_no e rfl)
theorem end_el {h₀ : Heap} {L I C D : Addr} {m : Str → Option Value} {s₁ : Shared} {oI oC oD : Obj} {S : List (Addr × Obj) → Prop} {a : Int} {t : Tok} {h' : Heap} {tk : Nat} {news : List (Addr × Obj)} {l r : List Int}
    (F : Fr h₀ L h' m) (N : News h₀ L h' ((I, oI) :: (C, oC) :: (D, oD) :: news)) (off : LCg.Off3 I C D news) (hS : S news) (e : r = l ++ [a]) :
    LCg.CompEnd h₀ L m s₁ I oI C oC D oD S (fun y news' => KCiEl news l r y news') (.int a t) { s₁ with heap := h', toks := tk } :=
  LCg.CompEnd.intro F N news (fun _ hp => hp) off hS (kci_el e rfl rfl)
local macro_rules | `(tactic| walk_at "CompEnd") => `(tactic| (k_dflt (first
  | ((refine' end_no ?k1 ?k2 ?k3 ?k4 ?ke); (case k1 => assumption); (case k2 => assumption); (case k3 => assumption); (case k4 => lcg_src); (case ke => (kpf_tidy; kpf_eq)))
  | ((refine' end_el ?k1 ?k2 ?k3 ?k4 ?ke); (case k1 => assumption); (case k2 => assumption); (case k3 => assumption); (case k4 => lcg_src); (case ke => (kpf_tidy; kpf_eq))))))
theorem bare_use {w : World} {mean : ExcName → Option Value} {mg mb : Str → Option Value} {news : List (Addr × Obj)} {x : Str} {t : Tok}
    {dp un : Nat} {gd : Option (List Code)} {cn : Str} {cs : Scope} {a : Addr} {ccd : Value} {cl : List (Str × Addr)} {outer : List Env} {A₀ : Around} {base h₀ : Heap} {L : Addr} {m : Str → Option Value} {s : Shared} {Q E : Value → Shared → Prop}
    (B : Below A₀ base outer h₀) (F : Fr h₀ L s.heap m) (X : (hd.heap_39 w.params).In h₀) (N : News h₀ L s.heap news) (T : Top hd.view_39 (looseW hd.view_39 []) mean mg mb h₀) (hk : cs.kind = .function)
    (hx : x.length ≤ 100) (hd : dp + 5 < recursionLimit) (hu : un + 200 < cLine)
    (ret : ∀ (t : Tok) (h' : Heap) (tk' : Nat), Fr h₀ L h' m → News h₀ L h' news → Q (.str (bareS x) t) { s with heap := h', toks := tk' }) :
    wpAny (model PySem.Challenge.rw_dp0018_01.row.prog w) (ktrTop dp un gd cn cs L a ccd cl outer) (call (.ref 38) [.str x t]) Q E s := by
  revert X; k_fill; intro X
  w_on
  refine wpAny_call ?_
  k_dflt cell_enter
  repeat' (first | ((fail_if_success (with_reducible show wpAny _ _ (compareOp CmpOp.NotEq (Value.ref _) (Value.ref _)) _ _ _)); first | (k_unfold; (try dsimp only)) | (k_end; wrow_close) | walk1 | (dsimp only; walk1) | (leave1; walk_say "STEP leave1"; try dsimp only) | fail "no step"))
  rename IntsAre _ _ => hI
  rename News _ _ _ _ => hN
  have hI2 : IntsAre _ (keptL x) := ints_kept hI rfl (by
    intro l k
    have e := len_item x k
    cases hb : blankC ((Txt.charAt x k).getD 0) <;> simp [e])
  clear hI
  refine ne_intsK (News.isList hN (by k_mem)) hI2 (News.isList hN (by k_mem)) .nil (by ktr_units) ?_
  rcases hl : keptL x with _ | ⟨a, r⟩
  · k_steps
    all_goals exact cb_retS ret (by simp only [bareS, hl]) (by k_asm) (by first | k_asm | (refine' cb_drop ?cbN ?cbS; (case cbN => assumption); (case cbS => kcj_all)))
  · rw [hl] at hI2
    rw [show (!decide (a :: r = ([] : List Int))) = true from by simp]
    k_steps
    all_goals exact cb_retS ret (by simp only [bareS, hl]) (by k_asm) (by first | k_asm | (refine' cb_drop ?cbN ?cbS; (case cbN => assumption); (case cbS => kcj_all)))
end

section
/- _law_text -/
def codeF (k : Int) : Int := if k.fmod 16 < 14 then ([59, 59, 32, 9, 10, 13, 31, 133, 160, 8203, 12288, 65, 97, 34] : List Int).getD (k.fmod 16).toNat 0 else (k.fdiv 16).fmod 1114112
def chrF (k : Int) : Str := ⟨#[(if 55296 ≤ k ∧ k < 57344 then k - 55296 else k).toNat]⟩
theorem menu_bound (i : Nat) : 0 ≤ ([59, 59, 32, 9, 10, 13, 31, 133, 160, 8203, 12288, 65, 97, 34] : List Int).getD i 0 ∧ ([59, 59, 32, 9, 10, 13, 31, 133, 160, 8203, 12288, 65, 97, 34] : List Int).getD i 0 < 1114112 := by
  by_cases h : i < 14
  · have : ∀ j, j < 14 → (0 ≤ ([59, 59, 32, 9, 10, 13, 31, 133, 160, 8203, 12288, 65, 97, 34] : List Int).getD j 0 ∧ ([59, 59, 32, 9, 10, 13, 31, 133, 160, 8203, 12288, 65, 97, 34] : List Int).getD j 0 < 1114112) := by decide +kernel
    exact this i h
  · rw [List.getD_eq_getElem?_getD, List.getElem?_eq_none (by simpa using h)]
    decide
theorem code_bound {ns : List Int} {k : Int} (h : k ∈ ns.map codeF) : 0 ≤ k ∧ k < 1114112 := by
  obtain ⟨x, _, rfl⟩ := List.mem_map.mp h
  unfold codeF
  split
  · exact menu_bound _
  · exact ⟨Int.fmod_nonneg_of_pos _ (by decide), Int.fmod_lt_of_pos _ (by decide)⟩
theorem chr_ok {ns : List Int} : ∀ a ∈ (ns.map codeF).map chrF, PyData.strOk a = true := by
  intro a ha
  obtain ⟨k, hk, rfl⟩ := List.mem_map.mp ha
  have hb := code_bound hk
  unfold chrF
  refine ok_one ?_
  split <;> omega
theorem ints_codes {G : Int → Int} {ns : List Int} {ys : List Value} (hI : IntsAre ys (ns.map G)) (hG : ∀ k, G k = codeF k) : IntsAre ys (ns.map codeF) := by
  rwa [List.map_congr_left fun k _ => hG k] at hI
local macro_rules | `(tactic| cell_enter) => `(tactic| (refine' code_defC ?k1 ?k2 ?k3 ?k4 ?k5 ?kA ?kF ?kK ?k6 ?k7 ?k8 ?k9 ?kB ?kD ?_ ?c2 ?c3 ?c4; (case kA => exact rfl); (case kF => exact rfl); (case kK => assumption); (case k1 => k_asm); (case k2 => k_asm); (case k3 => k_asm); (case k4 => k_asm); (case k5 => k_asm); (case k6 => k_is); (case k7 => k_is); (case k8 => ktr_room); (case k9 => exact BindsTo.of_eq rfl); (case kB => exact rfl); (case kD => decide +kernel); (case c2 => exact rfl); (case c3 => exact rfl); (case c4 => exact rfl); k_whole; intro g' L' h' tk' cells' FG' F' N' Y' B' X' T' l1; (try k_lt l1); k_cells Y'; (try simp only [List.cons_append, List.nil_append] at N'); (try dsimp only); (try k_lift B'); (try k_fold)))
theorem text_use {w : World} {mean : ExcName → Option Value} {mg mb : Str → Option Value} {c0 : Addr} {o0 : Obj} {l : Addr} {vs : List Value} {ns : List Int}
    {dp un : Nat} {gd : Option (List Code)} {cn : Str} {cs : Scope} {a : Addr} {ccd : Value} {cl : List (Str × Addr)} {outer : List Env} {A₀ : Around} {base h₀ : Heap} {L : Addr} {m : Str → Option Value} {s : Shared} {Q E : Value → Shared → Prop}
    (B : Below A₀ base outer h₀) (F : Fr h₀ L s.heap m) (X : (hd.heap_39 w.params).In h₀) (N : News h₀ L s.heap [(c0, o0)]) (T : Top hd.view_39 (looseW hd.view_39 []) mean mg mb h₀) (hk : cs.kind = .function)
    (hl : base.IsList l vs.toArray) (hi : IntsAre vs ns) (hn : ns.length ≤ 63) (hd : dp + 5 < recursionLimit) (hu : un + 200 < cLine)
    (ret : ∀ (T : Str), T.length ≤ 63 → PyData.strOk T = true → ∀ (t : Tok) (h' : Heap) (tk' : Nat), Fr h₀ L h' m → News h₀ L h' [(c0, o0)] → Q (.str T t) { s with heap := h', toks := tk' }) :
    wpAny (model PySem.Challenge.rw_dp0018_01.row.prog w) (ktrTop dp un gd cn cs L a ccd cl outer) (call (.ref 26) [.ref l]) Q E s := by
  revert X; k_fill; intro X
  w_on
  refine wpAny_call ?_
  k_dflt cell_enter
  repeat' (first | ((fail_if_success (with_reducible show wpAny _ _ (eval (Expr.ListComp _ _ _ _) _) _ _ _)); first | (k_unfold; (try dsimp only)) | (k_end; wrow_close) | walk1 | (dsimp only; walk1) | (leave1; walk_say "STEP leave1"; try dsimp only) | fail "no step"))
  rename IntsAre _ (List.map _ _) => hI
  have hI2 := ints_codes hI (by
    intro k
    have h1 := Int.fmod_nonneg_of_pos k (b := 16) (by decide)
    have h2 := Int.fmod_lt_of_pos k (b := 16) (by decide)
    unfold codeF
    by_cases h : k.fmod 16 < 14
    · rw [if_pos ⟨h, h1, h2⟩, if_pos h]
    · rw [if_neg (fun q => h q.1), if_pos h, if_neg h])
  have hlen := hI2.length
  rw [List.length_map] at hlen
  k_dflt (refine LCg.ListComp_U (F₀ := by k_asm) (by with_unfolding_all rfl) (by decide) (by rfl) (by decide) (by rfl) ?_)
  walk1
  clear hI
  k_dflt (refine LCg.CompSrc.ledger (by rfl) (by k_asm) (by k_asm) (by k_mem) (by rw [PySem.sizeLine_eq]; simp only [List.size_toArray]; omega) ?_)
  intro g'
  refine' kct_list chrF hI2 (fun k' t' I' oI' C' oC' D' m' ys' h' tk' E' hk' hC' hx' F' N' off' ne' mk' => ?_) ?_
  · have hb := code_bound hk'
    obtain ⟨hb1, hb2⟩ := hb
    clear hk'
    simp only [LCg.Off3, and_true] at off'
    (try k_fold)
    k_steps
    all_goals exact kct_el (by unfold chrF; first | rw [if_pos ⟨by omega, by omega⟩] | rw [if_neg (by omega)]) rfl rfl
  · k_steps
    rename CarriedAll _ _ => hC
    rename News _ _ _ _ => hN
    refine KT.join_1 (News.isList hN (by k_mem)) hC (fun _ _ => rfl) (by rw [List.length_map]; omega) ?_
    intro t' k' hlT
    rw [List.length_map] at hlT
    k_steps
    all_goals exact ret _ (by omega) (ok_join (by decide +kernel) _ chr_ok) _ _ _ (by k_asm) (by first | k_asm | (refine' cb_drop ?cbN ?cbS; (case cbN => assumption); (case cbS => kcj_all)))
end

section
/- the plain laws -/
open PySem.Builtin PySem.Builtin.Str
/-- the model's blanks are the 29 signs of the law -/
theorem space_blank (c : Nat) : Unicode.isSpace c = blankC c := by
  rw [Bool.eq_iff_iff]
  simp only [Unicode.isSpace, UnicodeData.space, UnicodeData.space0, Unicode.within, blankC, decide_eq_true_eq]
  repeat' split
  all_goals simp only [Bool.or_eq_true, decide_eq_true_eq, Bool.false_eq_true, or_false, false_iff]
  all_goals omega
/-- the whole numbers of a filtered range: first, last, what lies in it -/
theorem range_head {p : Int → Bool} {n : Nat} {a : Int} {r : List Int} (h : (rangeKs 0 n).filter p = a :: r) :
    0 ≤ a ∧ a < n ∧ p a = true ∧ ∀ k : Int, 0 ≤ k → k < a → p k = false := by
  have hm : a ∈ (rangeKs 0 n).filter p := by rw [h]; exact List.mem_cons_self
  have hm' := List.mem_filter.mp hm
  have hb := mem_rangeKs hm'.1
  refine ⟨hb.1, by omega, hm'.2, fun k h0 h1 => ?_⟩
  cases hp : p k with
  | false => rfl
  | true =>
    have hk : k ∈ (rangeKs 0 n).filter p := List.mem_filter.mpr ⟨by
      unfold rangeKs
      exact List.mem_map.mpr ⟨k.toNat, List.mem_range.mpr (by omega), by omega⟩, hp⟩
    have hs : ((rangeKs 0 n).filter p).Pairwise (· < ·) := by
      refine List.Pairwise.filter _ ?_
      unfold rangeKs
      rw [List.pairwise_map]
      exact List.pairwise_lt_range.imp (by intro x y h; omega)
    rw [h] at hk hs
    rcases List.mem_cons.mp hk with e | e
    · omega
    · have := (List.pairwise_cons.mp hs).1 k e
      omega
theorem range_last {p : Int → Bool} {n : Nat} {a : Int} {r : List Int} (h : (rangeKs 0 n).filter p = a :: r) :
    let b := (a :: r).getD (-1 + ((a :: r).length : Int)).toNat 0
    0 ≤ b ∧ b < n ∧ p b = true ∧ ∀ k : Int, b < k → k < n → p k = false := by
  intro b
  have e : b = (a :: r).getLast (by simp) := by
    show (a :: r).getD (-1 + ((a :: r).length : Int)).toNat 0 = _
    have e1 : (-1 + ((a :: r).length : Int)).toNat = (a :: r).length - 1 := by simp only [List.length_cons]; omega
    rw [e1, List.getLast_eq_getElem, List.getD_eq_getElem?_getD, List.getElem?_eq_getElem (by simp)]
    rfl
  have hm : b ∈ (rangeKs 0 n).filter p := by rw [h, e]; exact List.getLast_mem _
  have hm' := List.mem_filter.mp hm
  have hb := mem_rangeKs hm'.1
  refine ⟨hb.1, by omega, hm'.2, fun k h0 h1 => ?_⟩
  cases hp : p k with
  | false => rfl
  | true =>
    have hk : k ∈ (rangeKs 0 n).filter p := List.mem_filter.mpr ⟨by
      unfold rangeKs
      exact List.mem_map.mpr ⟨k.toNat, List.mem_range.mpr (by omega), by omega⟩, hp⟩
    have hs : ((rangeKs 0 n).filter p).Pairwise (· < ·) := by
      refine List.Pairwise.filter _ ?_
      unfold rangeKs
      rw [List.pairwise_map]
      exact List.pairwise_lt_range.imp (by intro x y h; omega)
    rw [h] at hk hs
    have hd := List.dropLast_concat_getLast (l := a :: r) (by simp)
    rw [← hd] at hk hs
    rw [List.pairwise_append] at hs
    rcases List.mem_append.mp hk with q | q
    · have := hs.2.2 k q _ (List.mem_singleton.mpr rfl)
      omega
    · have := List.mem_singleton.mp q
      omega
theorem range_none {p : Int → Bool} {n : Nat} (h : (rangeKs 0 n).filter p = []) (k : Nat) (hk : k < n) : p k = false := by
  have := List.filter_eq_nil_iff.mp h (k : Int) (by
    unfold rangeKs
    exact List.mem_map.mpr ⟨k, List.mem_range.mpr hk, by omega⟩)
  simpa using this
theorem charAt_nat {x : Str} {k : Nat} (h : k < x.length) : (Txt.charAt x (k : Int)).getD 0 = x.cps.getD k 0 := by
  unfold Txt.charAt seqIndex?
  have h' : k < x.cps.size := h
  simp [h, h', show ¬ ((k : Int) < 0) by omega]
theorem ext_list {x y : Str} (h : x.cps.toList = y.cps.toList) : x = y := Str.ext' (Array.toList_inj.mp h)
/-- what the law strips off by hand is what strip() strips off -/
theorem bare_strip (x : Str) : bareS x = Txt.strip x := by
  have es : Txt.strip x = strSub x (stripLo Unicode.isSpace true x) (stripHi Unicode.isSpace true x (stripLo Unicode.isSpace true x)) := PyProof.Rows.stripBy_eq _ _ _ _
  obtain ⟨l1, l2, l3⟩ := lo_facts Unicode.isSpace x
  obtain ⟨h1, h2, h3, h4⟩ := hi_facts Unicode.isSpace x _ l1
  rw [es]
  generalize stripLo Unicode.isSpace true x = lo at *
  generalize stripHi Unicode.isSpace true x lo = hi at *
  simp only [space_blank] at l2 l3 h3 h4
  unfold bareS
  rcases hl : keptL x with _ | ⟨a, r⟩
  · have hall : ∀ k, k < x.length → blankC (x.cps.getD k 0) = true := fun k hk => by
      have := range_none (p := fun k => !blankC ((Txt.charAt x k).getD 0)) hl k hk
      rw [charAt_nat hk] at this
      simpa using this
    have e1 : lo = x.length := by
      rcases l3 with e | e
      · exact e
      · by_cases q : lo < x.length
        · rw [hall lo q] at e; cases e
        · omega
    refine ext_list ?_
    rw [StrLaws.strSub_toList]
    have e2 : hi - lo = 0 := by omega
    rw [e2, List.take_zero]
    rfl
  · have ha := range_head (p := fun k => !blankC ((Txt.charAt x k).getD 0)) hl
    have hb := range_last (p := fun k => !blankC ((Txt.charAt x k).getD 0)) hl
    dsimp only at hb
    have e0 : (a :: r).getD (Int.toNat 0) 0 = a := rfl
    dsimp only
    rw [e0]
    generalize (a :: r).getD (-1 + ((a :: r).length : Int)).toNat 0 = b at hb ⊢
    obtain ⟨a0, a1, a2, a3⟩ := ha
    obtain ⟨b0, b1, b2, b3⟩ := hb
    have nb : ∀ k : Nat, k < x.length → (Txt.charAt x (k : Int)).getD 0 = x.cps.getD k 0 := fun k hk => charAt_nat hk
    obtain ⟨a, rfl⟩ : ∃ a' : Nat, a = a' := ⟨a.toNat, by omega⟩
    obtain ⟨b, rfl⟩ : ∃ b' : Nat, b = b' := ⟨b.toNat, by omega⟩
    rw [nb a (by omega)] at a2
    rw [nb b (by omega)] at b2
    have ea : lo = a := by
      rcases Nat.lt_trichotomy lo a with q | q | q
      · rcases l3 with e | e
        · omega
        · have := a3 lo (by omega) (by omega)
          rw [nb lo (by omega), e] at this
          cases this
      · exact q
      · have := l2 a q
        rw [this] at a2
        cases a2
    have hah : a < hi := by
      rcases Nat.lt_or_ge a hi with q | q
      · exact q
      · have := h3 a q (by omega)
        rw [this] at a2
        cases a2
    have eb : hi = b + 1 := by
      rcases Nat.lt_trichotomy hi (b + 1) with q | q | q
      · have := h3 b (by omega) (by omega)
        rw [this] at b2
        cases b2
      · exact q
      · rcases h4 with e | e
        · omega
        · have := b3 (hi - 1 : Nat) (by omega) (by omega)
          rw [nb (hi - 1) (by omega), e] at this
          cases this
    subst ea eb
    rw [beq_iff_eq.mp (slice_closesL (x := x) (i := (lo : Int)) (j := (b : Int) + 1) (by omega) (by omega) (by omega))]
    refine ext_list ?_
    rw [StrLaws.strSub_toList]
    have q1 : ((lo : Int)).toNat = lo := by omega
    have q2 : ((b : Int) + 1 - (lo : Int)).toNat = b + 1 - lo := by omega
    rw [q1, q2]
def semi : Str := Str.ofString ";"
/-- the places of ; in a text -/
def cutsL (x : Str) : List Int := (rangeKs 0 x.length).filter fun k => Txt.item x k == semi
theorem semi_is : semi = ⟨#[59]⟩ := by decide +kernel
theorem item_semi {x : Str} {k : Nat} (h : k < x.length) : (Txt.item x (k : Int) == semi) = decide (x.cps.getD k 0 = 59) := by
  rw [Bool.eq_iff_iff, beq_iff_eq, decide_eq_true_eq, semi_is]
  unfold Txt.item
  rw [charAt_nat h]
  constructor
  · intro e
    have := congrArg (fun s : Str => s.cps.getD 0 0) e
    simpa using this
  · intro e
    rw [e]
theorem at_semi {x : Str} {i : Nat} : StrLaws.At x ⟨#[59]⟩ x.length i ↔ i < x.length ∧ x.cps.getD i 0 = 59 := by
  unfold StrLaws.At
  rw [StrLaws.subAt_one]
  have hn : x.cps.toList.length = x.length := by simp [Str.length]
  constructor
  · intro h
    have hi : i < x.cps.toList.length := by
      rcases Nat.lt_or_ge i x.cps.toList.length with q | q
      · exact q
      · rw [List.getElem?_eq_none q] at h; cases h
    refine ⟨by omega, ?_⟩
    rw [← getD_list, List.getD_eq_getElem?_getD, h]
    rfl
  · intro h
    have hi : i < x.cps.toList.length := by omega
    have e := h.2
    rw [← getD_list, List.getD_eq_getElem?_getD, List.getElem?_eq_getElem hi] at e
    rw [List.getElem?_eq_getElem hi]
    exact congrArg some e
theorem part_none {x : Str} (h : cutsL x = []) : Txt.partition x semi = (x, Str.empty, Str.empty) := by
  rcases partition_whole x semi with ⟨e, _⟩ | ⟨i, _, hi, _⟩
  · exact e
  · rw [semi_is] at hi
    have hi' := at_semi.mp hi
    have := range_none (p := fun k => Txt.item x k == semi) h i hi'.1
    rw [item_semi hi'.1, hi'.2] at this
    cases this
theorem part_some {x : Str} {i : Int} {r : List Int} (h : cutsL x = i :: r) : Txt.partition x semi = (Txt.slice x none (some i), semi, Txt.slice x (some (i + 1)) none) := by
  obtain ⟨a0, a1, a2, a3⟩ := range_head (p := fun k => Txt.item x k == semi) h
  obtain ⟨i, rfl⟩ : ∃ i' : Nat, i = i' := ⟨i.toNat, by omega⟩
  rw [item_semi (by omega)] at a2
  rcases partition_whole x semi with ⟨_, hn⟩ | ⟨j, e, hj, hn⟩
  · exact absurd (by rw [semi_is]; exact at_semi.mpr ⟨by omega, by simpa using a2⟩) (hn i)
  · rw [semi_is] at hj hn
    have hj' := at_semi.mp hj
    have ej : j = i := by
      rcases Nat.lt_trichotomy j i with q | q | q
      · have := a3 j (by omega) (by omega)
        rw [item_semi hj'.1, hj'.2] at this
        cases this
      · exact q
      · exact absurd (at_semi.mpr ⟨by omega, by simpa using a2⟩) (hn i q)
    subst ej
    rw [e]
    have q1 : strSub x 0 j = Txt.slice x none (some (j : Int)) := by
      rw [beq_iff_eq.mp (slice_closes_toL (x := x) (j := (j : Int)) (by omega) (by omega))]
      refine ext_list ?_
      rw [StrLaws.strSub_toList]
      simp
    have q2 : strSub x (j + semi.length) x.length = Txt.slice x (some ((j : Int) + 1)) none := by
      rw [slice_from_eq (x := x) (i := (j : Int) + 1) (b := x.length) (by omega) (by omega) rfl]
      refine ext_list ?_
      rw [StrLaws.strSub_toList]
      have e1 : semi.length = 1 := by decide +kernel
      have e2 : ((j : Int) + 1).toNat = j + 1 := by omega
      have e3 : ((x.length : Int) - ((j : Int) + 1)).toNat = x.length - (j + 1) := by omega
      rw [e1, e2, e3]
    rw [q1, q2]
end

section
/- _splitparam of a text -/
theorem allLt_mem {d : Addr} : ∀ {l : List (Addr × Obj)}, AllLt d l → ∀ p ∈ l, p.1 < d
  | [], _, _, h => nomatch h
  | q :: r, h, p, hp => by
    rcases List.mem_cons.mp hp with e | e
    · subst e; exact h.1
    · exact allLt_mem h.2 p e
abbrev tupN (x : Str) (t : Tok) : Obj := { cls := .type "tuple", data := .seq #[.str x t, .none] }
abbrev tupS (x y : Str) (t u : Tok) : Obj := { cls := .type "tuple", data := .seq #[.str x t, .str y u] }
theorem split_use {w : World} {mean : ExcName → Option Value} {mg mb : Str → Option Value} {news : List (Addr × Obj)} {x : Str} {t : Tok}
    {dp un : Nat} {gd : Option (List Code)} {cn : Str} {cs : Scope} {a : Addr} {ccd : Value} {cl : List (Str × Addr)} {outer : List Env} {A₀ : Around} {base h₀ : Heap} {L : Addr} {m : Str → Option Value} {s : Shared} {Q E : Value → Shared → Prop}
    (B : Below A₀ base outer h₀) (F : Fr h₀ L s.heap m) (X : (hd.heap_39 w.params).In h₀) (N : News h₀ L s.heap news) (T : Top hd.view_39 (looseW hd.view_39 []) mean mg mb h₀) (hk : cs.kind = .function)
    (hx : x.length ≤ 100) (hd : dp + 5 < recursionLimit) (hu : un + 200 < cLine)
    (retN : cutsL x = [] → ∀ (D : Addr) (t : Tok) (h' : Heap) (tk' : Nat), Fr h₀ L h' m → News h₀ L h' ((D, tupN (Txt.strip x) t) :: news) → (∀ p ∈ news, p.1 < D) → Q (.ref D) { s with heap := h', toks := tk' })
    (retS : ∀ i r, cutsL x = i :: r → ∀ (D : Addr) (t u : Tok) (h' : Heap) (tk' : Nat), Fr h₀ L h' m → News h₀ L h' ((D, tupS (Txt.strip (Txt.slice x none (some i))) (Txt.strip (Txt.slice x (some (i + 1)) none)) t u) :: news) → (∀ p ∈ news, p.1 < D) → Q (.ref D) { s with heap := h', toks := tk' }) :
    wpAny (model PySem.Challenge.rw_dp0018_01.row.prog w) (ktrTop dp un gd cn cs L a ccd cl outer) (call (.ref 21) [.str x t]) Q E s := by
  revert X; k_fill; intro X
  w_on
  refine wpAny_call ?_
  k_dflt cell_enter
  k_steps
  · rename _ ∧ AllLt _ _ => hlt
    rename News h₀ L _ _ => hN
    rename Fr h₀ L _ _ => hF
    rename ((Txt.partition x (Str.ofString ";")).2.1.length : Int) ≠ 0 => hne
    rcases hc : cutsL x with _ | ⟨i, r⟩
    · have e := part_none hc
      unfold semi at e
      rw [e] at hne
      exact absurd rfl hne
    · have e := part_some hc
      unfold semi at e
      rw [e] at hN
      exact retS i r hc _ _ _ _ _ hF (cb_drop hN (by kcj_all)) (allLt_mem hlt.2)
  · rename _ ∧ AllLt _ _ => hlt
    rename News h₀ L _ _ => hN
    rename Fr h₀ L _ _ => hF
    rename ((Txt.partition x (Str.ofString ";")).2.1.length : Int) = 0 => hne
    rcases hc : cutsL x with _ | ⟨i, r⟩
    · have e := part_none hc
      unfold semi at e
      rw [e] at hN
      exact retN hc _ _ _ _ hF (cb_drop hN (by kcj_all)) (allLt_mem hlt.2)
    · have e := part_some hc
      unfold semi at e
      rw [e] at hne
      exact absurd (show ((Str.ofString ";").length : Int) = 0 from hne) (by decide +kernel)
end

section
/- _splitparam of a small whole number -/
theorem int_texts : ∀ i, i < 128 → Txt.partition (Str.ofString (toString ((i : Nat) - 64 : Int))) (Str.ofString ";") = (Str.ofString (toString ((i : Nat) - 64 : Int)), Str.ofString "", Str.ofString "") ∧ Txt.strip (Str.ofString (toString ((i : Nat) - 64 : Int))) = Str.ofString (toString ((i : Nat) - 64 : Int)) := by decide +kernel
theorem int_oks : ∀ i, i < 128 → PyData.strOk (Str.ofString (toString ((i : Nat) - 64 : Int))) = true := by decide +kernel
theorem int_ok {n : Int} (hlo : -64 ≤ n) (hhi : n ≤ 63) : PyData.strOk (Str.ofString (toString n)) = true := by
  have := int_oks (n + 64).toNat (by omega)
  rwa [show (((n + 64).toNat : Nat) - 64 : Int) = n by omega] at this
theorem int_part {n : Int} (hlo : -64 ≤ n) (hhi : n ≤ 63) : Txt.partition (Str.ofString (toString n)) (Str.ofString ";") = (Str.ofString (toString n), Str.ofString "", Str.ofString "") := by
  have := (int_texts (n + 64).toNat (by omega)).1
  rwa [show (((n + 64).toNat : Nat) - 64 : Int) = n by omega] at this
theorem int_strip {n : Int} (hlo : -64 ≤ n) (hhi : n ≤ 63) : Txt.strip (Str.ofString (toString n)) = Str.ofString (toString n) := by
  have := (int_texts (n + 64).toNat (by omega)).2
  rwa [show (((n + 64).toNat : Nat) - 64 : Int) = n by omega] at this
theorem splitI_use {w : World} {mean : ExcName → Option Value} {mg mb : Str → Option Value} {news : List (Addr × Obj)} {n : Int} {t : Tok}
    {dp un : Nat} {gd : Option (List Code)} {cn : Str} {cs : Scope} {a : Addr} {ccd : Value} {cl : List (Str × Addr)} {outer : List Env} {A₀ : Around} {base h₀ : Heap} {L : Addr} {m : Str → Option Value} {s : Shared} {Q E : Value → Shared → Prop}
    (B : Below A₀ base outer h₀) (F : Fr h₀ L s.heap m) (X : (hd.heap_39 w.params).In h₀) (N : News h₀ L s.heap news) (T : Top hd.view_39 (looseW hd.view_39 []) mean mg mb h₀) (hk : cs.kind = .function)
    (hlo : -64 ≤ n) (hhi : n ≤ 63) (hd : dp + 5 < recursionLimit) (hu : un + 200 < cLine)
    (ret : ∀ (D : Addr) (t : Tok) (h' : Heap) (tk' : Nat), Fr h₀ L h' m → News h₀ L h' ((D, tupN (Str.ofString (toString n)) t) :: news) → (∀ p ∈ news, p.1 < D) → Q (.ref D) { s with heap := h', toks := tk' }) :
    wpAny (model PySem.Challenge.rw_dp0018_01.row.prog w) (ktrTop dp un gd cn cs L a ccd cl outer) (call (.ref 21) [.int n t]) Q E s := by
  revert X; k_fill; intro X
  w_on
  refine wpAny_call ?_
  k_dflt cell_enter
  k_steps
  rename Fr _ _ _ _ => hF
  rename News _ _ _ _ => hN
  simp only [int_part hlo hhi] at hF hN ⊢
  k_steps
  rename _ ∧ AllLt _ _ => hlt
  rename News h₀ L _ _ => hN2
  rename Fr h₀ L _ _ => hF2
  rw [int_strip hlo hhi] at hN2
  exact ret _ _ _ _ hF2 (cb_drop hN2 (by kcj_all)) (allLt_mem hlt.2)
end

section
/- the pieces of the law -/
theorem strip_use {w : World} {mean : ExcName → Option Value} {mg mb : Str → Option Value} {news : List (Addr × Obj)} {x : Str} {t : Tok}
    {dp un : Nat} {gd : Option (List Code)} {cn : Str} {cs : Scope} {a : Addr} {ccd : Value} {cl : List (Str × Addr)} {outer : List Env} {A₀ : Around} {base h₀ : Heap} {L : Addr} {m : Str → Option Value} {s : Shared} {Q E : Value → Shared → Prop}
    (B : Below A₀ base outer h₀) (F : Fr h₀ L s.heap m) (X : (hd.heap_39 w.params).In h₀) (N : News h₀ L s.heap news) (T : Top hd.view_39 (looseW hd.view_39 []) mean mg mb h₀) (hk : cs.kind = .function)
    (hx : x.length ≤ 100) (hd : dp + 5 < recursionLimit) (hu : un + 200 < cLine)
    (ret : ∀ (t : Tok) (h' : Heap) (tk' : Nat), Fr h₀ L h' m → News h₀ L h' news → Q (.str (Txt.strip x) t) { s with heap := h', toks := tk' }) :
    wpAny (model PySem.Challenge.rw_dp0018_01.row.prog w) (ktrTop dp un gd cn cs L a ccd cl outer) (call (.ref 38) [.str x t]) Q E s :=
  bare_use B F X N T hk hx hd hu fun t h' tk' F' N' => by rw [bare_strip]; exact ret t h' tk' F' N'
theorem splitN_use {w : World} {mean : ExcName → Option Value} {mg mb : Str → Option Value} {news : List (Addr × Obj)} {x : Str} {t : Tok}
    {dp un : Nat} {gd : Option (List Code)} {cn : Str} {cs : Scope} {a : Addr} {ccd : Value} {cl : List (Str × Addr)} {outer : List Env} {A₀ : Around} {base h₀ : Heap} {L : Addr} {m : Str → Option Value} {s : Shared} {Q E : Value → Shared → Prop}
    (B : Below A₀ base outer h₀) (F : Fr h₀ L s.heap m) (X : (hd.heap_39 w.params).In h₀) (N : News h₀ L s.heap news) (T : Top hd.view_39 (looseW hd.view_39 []) mean mg mb h₀) (hk : cs.kind = .function)
    (hx : x.length ≤ 100) (hc : cutsL x = []) (hd : dp + 5 < recursionLimit) (hu : un + 200 < cLine)
    (ret : ∀ (D : Addr) (t : Tok) (h' : Heap) (tk' : Nat), Fr h₀ L h' m → News h₀ L h' ((D, { cls := .type "tuple", data := .seq #[.str (Txt.strip x) t, .none] }) :: news) → (∀ p ∈ news, p.1 < D) → Q (.ref D) { s with heap := h', toks := tk' }) :
    wpAny (model PySem.Challenge.rw_dp0018_01.row.prog w) (ktrTop dp un gd cn cs L a ccd cl outer) (call (.ref 21) [.str x t]) Q E s :=
  split_use B F X N T hk hx hd hu (fun _ => ret) fun i r e => by rw [hc] at e; cases e
theorem splitS_use {w : World} {mean : ExcName → Option Value} {mg mb : Str → Option Value} {news : List (Addr × Obj)} {x : Str} {t : Tok} {i : Int} {r : List Int}
    {dp un : Nat} {gd : Option (List Code)} {cn : Str} {cs : Scope} {a : Addr} {ccd : Value} {cl : List (Str × Addr)} {outer : List Env} {A₀ : Around} {base h₀ : Heap} {L : Addr} {m : Str → Option Value} {s : Shared} {Q E : Value → Shared → Prop}
    (B : Below A₀ base outer h₀) (F : Fr h₀ L s.heap m) (X : (hd.heap_39 w.params).In h₀) (N : News h₀ L s.heap news) (T : Top hd.view_39 (looseW hd.view_39 []) mean mg mb h₀) (hk : cs.kind = .function)
    (hx : x.length ≤ 100) (hc : cutsL x = i :: r) (hd : dp + 5 < recursionLimit) (hu : un + 200 < cLine)
    (ret : ∀ (D : Addr) (t u : Tok) (h' : Heap) (tk' : Nat), Fr h₀ L h' m → News h₀ L h' ((D, { cls := .type "tuple", data := .seq #[.str (Txt.strip (Txt.slice x none (some ((i :: r).getD (Int.toNat 0) 0)))) t, .str (Txt.strip (Txt.slice x (some ((i :: r).getD (Int.toNat 0) 0 + 1)) none)) u] }) :: news) → (∀ p ∈ news, p.1 < D) → Q (.ref D) { s with heap := h', toks := tk' }) :
    wpAny (model PySem.Challenge.rw_dp0018_01.row.prog w) (ktrTop dp un gd cn cs L a ccd cl outer) (call (.ref 21) [.str x t]) Q E s :=
  split_use B F X N T hk hx hd hu (fun e => by rw [hc] at e; cases e) fun j q e => by
    rw [hc] at e
    obtain ⟨rfl, rfl⟩ := List.cons.inj e
    exact ret
theorem ints_cuts {G : List Int → Int → List Int} {ys : List Value} {x : Str} {e : Int} (hI : IntsAre ys ((rangeKs 0 (e - 0).toNat).foldl G [])) (he : e = x.length) (h : ∀ l k, G l k = if Txt.item x k = Str.ofString ";" then l ++ [k] else l) : IntsAre ys (cutsL x) :=
  ints_kept hI he fun l k => by
    rw [h]
    by_cases q : Txt.item x k = Str.ofString ";"
    · have e : (Txt.item x k == semi) = true := beq_iff_eq.mpr q
      rw [if_pos q]
      exact (if_pos e).symm
    · have e : ¬ (Txt.item x k == semi) = true := fun c => q (beq_iff_eq.mp c)
      rw [if_neg q]
      exact (if_neg e).symm
theorem ne_tupN {prog : Program} {w : World} {A : Around} {E : Value → Shared → Prop} {s : Shared} {D1 D2 : Addr} {x : Str} {t u : Tok} {Q : Value → Shared → Prop}
    (h1 : s.heap.get? D1 = some { cls := .type "tuple", data := .seq #[.str x t, .none] }) (h2 : s.heap.get? D2 = some { cls := .type "tuple", data := .seq #[.str x u, .none] })
    (hx : PyData.strOk x = true) (hu : A.units + 64 < cLine) (h : Q (.bool false) s) : wpAny (model prog w) A (compareOp .NotEq (.ref D1) (.ref D2)) Q E s :=
  ne_dataH_same (da := .tuple [.str x, .none]) (db := .tuple [.str x, .none]) (reads_tuple_at h1 rfl rfl (.cons (.str _ _) (.cons .none .nil))) (reads_tuple_at h2 rfl rfl (.cons (.str _ _) (.cons .none .nil)))
    (by simp [SeqAt.shaped, PyData.canLay0, PyData.canLayAll0, PyData.depth, PyData.depthAll, hx]) (by simp [SeqAt.shaped, PyData.canLay0, PyData.canLayAll0, PyData.depth, PyData.depthAll, hx]) hu
    (by simp [SeqAt.noMix, SeqAt.noMixAll]) (by rw [PySem.Spec.same_self]; exact h)
theorem ne_tupS {prog : Program} {w : World} {A : Around} {E : Value → Shared → Prop} {s : Shared} {D1 D2 : Addr} {x y : Str} {t u t' u' : Tok} {Q : Value → Shared → Prop}
    (h1 : s.heap.get? D1 = some { cls := .type "tuple", data := .seq #[.str x t, .str y u] }) (h2 : s.heap.get? D2 = some { cls := .type "tuple", data := .seq #[.str x t', .str y u'] })
    (hx : PyData.strOk x = true) (hy : PyData.strOk y = true) (hu : A.units + 64 < cLine) (h : Q (.bool false) s) : wpAny (model prog w) A (compareOp .NotEq (.ref D1) (.ref D2)) Q E s :=
  ne_dataH_same (da := .tuple [.str x, .str y]) (db := .tuple [.str x, .str y]) (reads_tuple_at h1 rfl rfl (.cons (.str _ _) (.cons (.str _ _) .nil))) (reads_tuple_at h2 rfl rfl (.cons (.str _ _) (.cons (.str _ _) .nil)))
    (by simp [SeqAt.shaped, PyData.canLay0, PyData.canLayAll0, PyData.depth, PyData.depthAll, hx, hy]) (by simp [SeqAt.shaped, PyData.canLay0, PyData.canLayAll0, PyData.depth, PyData.depthAll, hx, hy]) hu
    (by simp [SeqAt.noMix, SeqAt.noMixAll]) (by rw [PySem.Spec.same_self]; exact h)
section
variable {prog : Program} {w : World} {A : Around} {E : Value → Shared → Prop} {h₀ : Heap} {env : Env} {target : Expr} {body : List Stmt} {Q : Flow → Shared → Prop} {s : Shared} {ws : List (Addr × String)} {keep : List (Addr × Obj)}
/-- a loop over written values by an invariant over the frame and the ledger -/
theorem items_inv (Inv : (Str → Option Value) → List (Addr × Obj) → Prop) (P : Value → Prop)
    (turn : ∀ v, P v → ∀ r m news, Inv m news → (∀ m' news', Inv m' news' → ItemsRest prog w A E h₀ env target body Q s ws keep r m' news') → ItemsRest prog w A E h₀ env target body Q s ws keep (.val v :: r) m news)
    (fin : ∀ m news, Inv m news → ItemsRest prog w A E h₀ env target body Q s ws keep [] m news) :
    ∀ (vs : List Value), (∀ v ∈ vs, P v) → ∀ m news, Inv m news → ItemsRest prog w A E h₀ env target body Q s ws keep (vs.map .val) m news
  | [], _, m, news, h => fin m news h
  | v :: r, hv, m, news, h => turn v (hv v List.mem_cons_self) _ m news h fun m' news' h' => items_inv Inv P turn fin r (fun u hu => hv u (List.mem_cons_of_mem _ hu)) m' news' h'
theorem items_inv3 (Inv : (Str → Option Value) → List (Addr × Obj) → Prop) (P : Value → Prop) {v1 v2 v3 : Value} {m₀ : Str → Option Value} {news₀ : List (Addr × Obj)}
    (hv1 : P v1) (hv2 : P v2) (hv3 : P v3) (h0 : Inv m₀ news₀)
    (turn : ∀ v, P v → ∀ r m news, Inv m news → (∀ m' news', Inv m' news' → ItemsRest prog w A E h₀ env target body Q s ws keep r m' news') → ItemsRest prog w A E h₀ env target body Q s ws keep (.val v :: r) m news)
    (fin : ∀ m news, Inv m news → ItemsRest prog w A E h₀ env target body Q s ws keep [] m news) : ItemsRest prog w A E h₀ env target body Q s ws keep [.val v1, .val v2, .val v3] m₀ news₀ :=
  items_inv Inv P turn fin [v1, v2, v3] (by
    intro v hv
    rcases List.mem_cons.mp hv with e | hv
    · rw [e]; exact hv1
    rcases List.mem_cons.mp hv with e | hv
    · rw [e]; exact hv2
    rcases List.mem_cons.mp hv with e | hv
    · rw [e]; exact hv3
    · cases hv) m₀ news₀ h0
theorem items_law {l D c : Addr} {tup o₀ : Obj} {v₀ : Option Value} {x1 x2 x3 : Str} {t1 t2 t3 : Tok} {m₀ : Str → Option Value}
    (h1 : x1.length ≤ 100 ∧ PyData.strOk x1 = true) (h2 : x2.length ≤ 100 ∧ PyData.strOk x2 = true) (h3 : x3.length ≤ 100 ∧ PyData.strOk x3 = true) (hs : m₀ (Str.ofString "script") = some (.ref l)) (ho : o₀.data = .cell v₀)
    (turn : ∀ (x : Str) (t : Tok) (r : List Itm) (m : Str → Option Value) (o : Obj) (v : Option Value), x.length ≤ 100 → PyData.strOk x = true → o.data = .cell v → m (Str.ofString "script") = some (.ref l) →
      (∀ (m' : Str → Option Value) (o' : Obj) (v' : Option Value), o'.data = .cell v' → m' (Str.ofString "script") = some (.ref l) → ItemsRest prog w A E h₀ env target body Q s ws keep r m' [(D, tup), (c, o')]) →
      ItemsRest prog w A E h₀ env target body Q s ws keep (.val (.str x t) :: r) m [(D, tup), (c, o)])
    (fin : ∀ (g : Str → Option Value) (o : Obj) (v : Option Value), o.data = .cell v → ItemsRest prog w A E h₀ env target body Q s ws keep [] (fun y => if y = Str.ofString "script" then some (.ref l) else g y) [(D, tup), (c, o)]) :
    ItemsRest prog w A E h₀ env target body Q s ws keep [.val (.str x1 t1), .val (.str x2 t2), .val (.str x3 t3)] m₀ [(D, tup), (c, o₀)] := by
  refine items_inv3 (fun m news => ∃ o v, o.data = .cell v ∧ m (Str.ofString "script") = some (.ref l) ∧ news = [(D, tup), (c, o)]) (fun v => ∃ x t, v = .str x t ∧ x.length ≤ 100 ∧ PyData.strOk x = true) ⟨_, _, rfl, h1⟩ ⟨_, _, rfl, h2⟩ ⟨_, _, rfl, h3⟩ ⟨_, _, ho, hs, rfl⟩ ?_ ?_
  · rintro v ⟨x, t, rfl, hx, hok⟩ r m news ⟨o, v, hd, hm, rfl⟩ rest
    exact turn x t r m o v hx hok hd hm fun m' o' v' hd' hm' => rest m' _ ⟨o', v', hd', hm', rfl⟩
  · rintro m news ⟨o, v, hd, hm, rfl⟩
    have e : m = fun y => if y = Str.ofString "script" then some (.ref l) else m y := by
      funext y
      by_cases h : y = Str.ofString "script"
      · rw [if_pos h, h]; exact hm
      · rw [if_neg h]
    rw [e]
    exact fin m o v hd
end
end

section
/- the law -/
local macro_rules | `(tactic| walk_at "call ref") => `(tactic| (k_here; (with_reducible show wpAny _ _ (call (Value.ref 26) [Value.ref _]) _ _ _); k_dflt (refine' text_use ?k1 ?k2 ?k3 ?k4 ?k5 ?k6 ?k7 ?k8 ?k9 ?kd ?ku ?_; (case k1 => k_asm); (case k2 => k_asm); (case k3 => k_asm); (case k4 => k_asm); (case k5 => k_asm); (case k6 => first | exact rfl | assumption); (case k7 => k_asm); (case k8 => l_ints); (case k9 => omega); (case kd => ktr_room); (case ku => ktr_units)); intro T9 hT9 hOk9 t9 h9 tk9 F9 N9; (try dsimp only); (try k_fold)))
local macro_rules | `(tactic| walk_at "call ref") => `(tactic| (k_here; (with_reducible show wpAny _ _ (call (Value.ref 38) [Value.str _ _]) _ _ _); k_dflt (refine' strip_use ?k1 ?k2 ?k3 ?k4 ?k5 ?k6 ?k7 ?kd ?ku ?_; (case k1 => k_asm); (case k2 => k_asm); (case k3 => k_asm); (case k4 => k_asm); (case k5 => k_asm); (case k6 => first | exact rfl | assumption); (case k7 => first | assumption | omega); (case kd => ktr_room); (case ku => ktr_units)); intro t9 h9 tk9 F9 N9; (try dsimp only); (try k_fold)))
local macro_rules | `(tactic| walk_at "call ref") => `(tactic| (k_here; (with_reducible show wpAny _ _ (call (Value.ref 21) [Value.str _ _]) _ _ _); k_dflt (first
  | (refine' splitN_use ?k1 ?k2 ?k3 ?k4 ?k5 ?k6 ?k7 ?kc ?kd ?ku ?_; (case kc => assumption); (case k1 => k_asm); (case k2 => k_asm); (case k3 => k_asm); (case k4 => k_asm); (case k5 => k_asm); (case k6 => first | exact rfl | assumption); (case k7 => first | assumption | omega); (case kd => ktr_room); (case ku => ktr_units); intro D9 t9 h9 tk9 F9 N9 l9)
  | (refine' splitS_use ?k1 ?k2 ?k3 ?k4 ?k5 ?k6 ?k7 ?kc ?kd ?ku ?_; (case kc => assumption); (case k1 => k_asm); (case k2 => k_asm); (case k3 => k_asm); (case k4 => k_asm); (case k5 => k_asm); (case k6 => first | exact rfl | assumption); (case k7 => first | assumption | omega); (case kd => ktr_room); (case ku => ktr_units); intro D9 t9 u9 h9 tk9 F9 N9 l9)); (try k_lt l9); (try dsimp only); (try k_fold)))
local macro_rules | `(tactic| walk_at "compareOp NotEq ref ref") => `(tactic| (k_here; (with_reducible show wpAny _ _ (compareOp CmpOp.NotEq (Value.ref _) (Value.ref _)) _ _ _); k_dflt (first
  | (refine' ne_tupN ?k1 ?k2 ?kx ?ku ?_; (case k1 => exact News.get (by k_asm) (by k_mem)); (case k2 => exact News.get (by k_asm) (by k_mem)); (case kx => first | assumption | exact ok_strip (by assumption) | exact ok_strip (ok_slice (by assumption) _ _) | exact int_ok (by omega) (by omega)); (case ku => ktr_units))
  | (refine' ne_tupS ?k1 ?k2 ?kx ?ky ?ku ?_; (case k1 => exact News.get (by k_asm) (by k_mem)); (case k2 => exact News.get (by k_asm) (by k_mem)); (case kx => first | assumption | exact ok_strip (by assumption) | exact ok_strip (ok_slice (by assumption) _ _) | exact int_ok (by omega) (by omega)); (case ky => first | assumption | exact ok_strip (by assumption) | exact ok_strip (ok_slice (by assumption) _ _) | exact int_ok (by omega) (by omega)); (case ku => ktr_units)))))
local macro_rules | `(tactic| walk_at "call ref") => `(tactic| (k_here; (with_reducible show wpAny _ _ (call (Value.ref 21) [Value.int _ _]) _ _ _); k_dflt (refine' splitI_use ?k1 ?k2 ?k3 ?k4 ?k5 ?k6 ?k7 ?k8 ?kd ?ku ?_; (case k1 => k_asm); (case k2 => k_asm); (case k3 => k_asm); (case k4 => k_asm); (case k5 => k_asm); (case k6 => first | exact rfl | assumption); (case k7 => omega); (case k8 => omega); (case kd => ktr_room); (case ku => ktr_units); intro D9 t9 h9 tk9 F9 N9 l9); (try k_lt l9); (try dsimp only); (try k_fold)))
theorem law_holds : PySem.Challenge.rw_dp0018_01.Holds := hd (by
  w_on
  k_go0
  all_goals try k_fold
  repeat' (first | ((fail_if_success (with_reducible show ItemsRest _ _ _ _ _ _ _ _ _ _ _ _ _ _ _)); first | (k_unfold; (try dsimp only)) | (k_end; wrow_close) | walk1 | (dsimp only; walk1) | (leave1; walk_say "STEP leave1"; try dsimp only) | fail "no step"))
  have q1 : (Str.ofString " A").length = 2 := by decide +kernel
  have q2 : (Str.ofString "; b;c ").length = 6 := by decide +kernel
  refine' items_law ?h1 ?h2 ?h3 ?hs ?ho ?turn ?fin
  case h1 => exact ⟨by omega, by assumption⟩
  case h2 => exact ⟨by omega, ok_app (by decide +kernel) (by assumption)⟩
  case h3 => exact ⟨by omega, ok_app (by assumption) (by decide +kernel)⟩
  case hs => exact rfl
  case ho => assumption
  case turn =>
    intro x t r m o v hx hok hd hs rest
    repeat' (first | ((fail_if_success (with_reducible show wpAny _ _ (call (Value.ref 38) _) _ _ _)); first | (k_unfold; (try dsimp only)) | (k_end; wrow_close) | walk1 | (dsimp only; walk1) | (leave1; walk_say "STEP leave1"; try dsimp only) | fail "no step"))
    rename IntsAre _ (List.foldl _ _ _) => hI
    have hI2 := ints_cuts (x := x) hI rfl (by
      intro l k
      have e := len_item x k
      by_cases q : Txt.item x k = Str.ofString ";"
      · rw [if_pos ⟨⟨by omega, by omega⟩, q⟩, if_pos q]
      · rw [if_neg (fun c => q c.2), ite_self, if_neg q])
    clear hI
    rcases hc : cutsL x with _ | ⟨i, rr⟩
    · rw [hc] at hI2
      repeat' (first | ((fail_if_success (with_reducible show wpAny _ _ (compareOp CmpOp.NotEq (Value.ref _) (Value.ref _)) _ _ _)); first | (k_unfold; (try dsimp only)) | (k_end; wrow_close) | walk1 | (dsimp only; walk1) | (leave1; walk_say "STEP leave1"; try dsimp only) | fail "no step"))
      walk1
      repeat' (first | ((fail_if_success (with_reducible show wpAny _ _ (compareOp CmpOp.NotEq (Value.ref _) (Value.ref _)) _ _ _)); first | (k_unfold; (try dsimp only)) | (k_end; wrow_close) | walk1 | (dsimp only; walk1) | (leave1; walk_say "STEP leave1"; try dsimp only) | fail "no step"))
      walk1
      repeat' (first | ((fail_if_success (with_reducible show UnrEndW _ _ _ _ _ _)); first | (k_unfold; (try dsimp only)) | (k_end; wrow_close) | walk1 | (dsimp only; walk1) | (leave1; walk_say "STEP leave1"; try dsimp only) | fail "no step"))
      refine' UnrEndW.intro ?e1 ?e2 _ ?e3 ?e4 ?e5 ⟨?e6, rest _ _ _ ?e7 ?e8⟩
      case e7 => assumption
      case e1 => assumption
      case e2 => assumption
      case e3 => k_subL
      case e4 => k_subL
      case e5 => ktu_offL
      case e6 => k_subL
      case e8 => exact hs
    · rw [hc] at hI2
      repeat' (first | ((fail_if_success (with_reducible show wpAny _ _ (compareOp CmpOp.NotEq (Value.ref _) (Value.ref _)) _ _ _)); first | (k_unfold; (try dsimp only)) | (k_end; wrow_close) | walk1 | (dsimp only; walk1) | (leave1; walk_say "STEP leave1"; try dsimp only) | fail "no step"))
      walk1
      rw [show (!decide (i :: rr = ([] : List Int))) = true from by simp]
      repeat' (first | ((fail_if_success (with_reducible show wpAny _ _ (compareOp CmpOp.NotEq (Value.ref _) (Value.ref _)) _ _ _)); first | (k_unfold; (try dsimp only)) | (k_end; wrow_close) | walk1 | (dsimp only; walk1) | (leave1; walk_say "STEP leave1"; try dsimp only) | fail "no step"))
      rename News _ _ _ _ => hN9
      refine ne_tupS (News.get hN9 (by k_mem)) (News.get hN9 (by k_mem)) (ok_strip (ok_slice hok _ _)) (ok_strip (ok_slice hok _ _)) (by ktr_units) ?_
      repeat' (first | ((fail_if_success (with_reducible show UnrEndW _ _ _ _ _ _)); first | (k_unfold; (try dsimp only)) | (k_end; wrow_close) | walk1 | (dsimp only; walk1) | (leave1; walk_say "STEP leave1"; try dsimp only) | fail "no step"))
      refine' UnrEndW.intro ?e1 ?e2 _ ?e3 ?e4 ?e5 ⟨?e6, rest _ _ _ ?e7 ?e8⟩
      case e7 => assumption
      case e1 => assumption
      case e2 => assumption
      case e3 => k_subL
      case e4 => k_subL
      case e5 => ktu_offL
      case e6 => k_subL
      case e8 => exact hs
  case fin =>
    intro g o v hd
    repeat' (first | ((fail_if_success (with_reducible show wpAny _ _ (call (Value.ref 21) _) _ _ _)); first | (k_unfold; (try dsimp only)) | (k_end; wrow_close) | walk1 | (dsimp only; walk1) | (leave1; walk_say "STEP leave1"; try dsimp only) | fail "no step"))
    repeat' (first | ((fail_if_success (with_reducible show wpAny _ _ (compareOp CmpOp.NotEq (Value.ref _) (Value.ref _)) _ _ _)); first | (k_unfold; (try dsimp only)) | (k_end; wrow_close) | walk1 | (dsimp only; walk1) | (leave1; walk_say "STEP leave1"; try dsimp only) | fail "no step"))
    rename News _ _ _ _ => hN9
    refine ne_tupN (News.get hN9 (by k_mem)) (News.get hN9 (by k_mem)) (int_ok (by omega) (by omega)) (by ktr_units) ?_
    repeat' (first | ((fail_if_success (with_reducible show wpAny _ _ (compareOp CmpOp.NotEq (Value.ref _) (Value.ref _)) _ _ _)); first | (k_unfold; (try dsimp only)) | (k_end; wrow_close) | walk1 | (dsimp only; walk1) | (leave1; walk_say "STEP leave1"; try dsimp only) | fail "no step"))
    rename News _ _ _ _ => hN9
    refine ne_tupN (News.get hN9 (by k_mem)) (News.get hN9 (by k_mem)) (int_ok (by omega) (by omega)) (by ktr_units) ?_
    k_steps)
end
end Mine

theorem PySem.Challenge.cw_dp0018_01_holds : PySem.Challenge.rw_dp0018_01.Holds := by
  exact Mine.law_holds
