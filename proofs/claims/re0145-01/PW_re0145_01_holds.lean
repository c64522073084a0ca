import PyProof.Rows.All
import Wide.All
import OpenK.AllK
import Wide.FinOn
import Lean
import PySem.Challenge.RW_re0145_01
set_option Elab.async false
set_option linter.unusedVariables false
set_option linter.unusedSimpArgs false
section
open PySem PySem.W PyProof.Rows
namespace Mine
theorem same_find : @PySem.Manifest.find? = @PySem.Manifest.find? := rfl
end Mine
/- Why these rows: open_top lays a fast twin (tw.., te..) for each of its terms, and the proof of a twin's equation grows with the square of the term's length.
   For the twenty longest terms the twin's name is taken here by the kit's own name_quick; open_top then leaves these twins out and takes the terms as they stand.
   The compiled file is some 17 MiB smaller; the head's build takes the same time. Nothing else rests on these names. -/
name_quick tw8075568018651887793 for PySem.Manifest.find? by Mine.same_find
name_quick tw14979626087600564940 for PySem.Manifest.find? by Mine.same_find
name_quick tw371068403877175688 for PySem.Manifest.find? by Mine.same_find
name_quick tw5234513190987205363 for PySem.Manifest.find? by Mine.same_find
name_quick tw7695134704397734373 for PySem.Manifest.find? by Mine.same_find
name_quick tw12887172600443883199 for PySem.Manifest.find? by Mine.same_find
name_quick tw17612500589515189474 for PySem.Manifest.find? by Mine.same_find
name_quick tw17000155066101142889 for PySem.Manifest.find? by Mine.same_find
name_quick tw10227693086864044499 for PySem.Manifest.find? by Mine.same_find
name_quick tw8376441433122354887 for PySem.Manifest.find? by Mine.same_find
name_quick tw8603108125212654177 for PySem.Manifest.find? by Mine.same_find
name_quick tw7304268236622374541 for PySem.Manifest.find? by Mine.same_find
name_quick tw1537898542681612871 for PySem.Manifest.find? by Mine.same_find
name_quick tw4933834842325187142 for PySem.Manifest.find? by Mine.same_find
name_quick tw5596329374482053843 for PySem.Manifest.find? by Mine.same_find
name_quick tw14487725735874088081 for PySem.Manifest.find? by Mine.same_find
name_quick tw14891183629231038608 for PySem.Manifest.find? by Mine.same_find
name_quick tw16981483081396284153 for PySem.Manifest.find? by Mine.same_find
name_quick tw2862820112641550484 for PySem.Manifest.find? by Mine.same_find
name_quick tw8783367066174898617 for PySem.Manifest.find? by Mine.same_find
namespace Mine
set_option maxRecDepth 100000 in
set_option maxHeartbeats 8000000 in
open_top hd for PySem.Challenge.rw_re0145_01
end Mine
end
local macro_rules | `(tactic| walk_at $s:str) => `(tactic| k_extra $s)
section
open PySem PySem.W PyProof.Rows PySem.Calls PySem.Builtin PySem.Builtin.Str
namespace Mine

/-- str.find with both bounds -/
def find4 (x y : Str) (i j : Int) : Int := match occurrences x y (fromIndex x.length i) (min (fromIndex x.length j) x.length) 1 with | k :: _ => (k : Int) | [] => -1
theorem gives_find4 (x y : Str) (i j : Int) (t u v v' : Tok) : Gives («str.find» ⟨[.str x t, .str y u, .int i v, .int j v'], []⟩) (.int (find4 x y i j)) := by
  show Gives (match occurrences x y (fromIndex x.length i) (min (fromIndex x.length j) x.length) 1 with | k :: _ => retInt k | [] => (do rule "str.find.not-found"; retInt (-1))) _
  unfold find4
  cases occurrences x y (fromIndex x.length i) (min (fromIndex x.length j) x.length) 1 with
  | nil => exact .rule (.of_eq rfl)
  | cons k _ => exact .of_eq rfl
section
variable {prog : Program} {w : World} {A : Around} {E : Value → Shared → Prop} {s : Shared} {x y : Str} {t u v v' : Tok} {i j : Int} {Q : Value → Shared → Prop}
theorem call_find4 (hq : Q (.int (find4 x y i j) s.toks) { s with toks := s.toks + 1 }) : wpAny (model prog w) A (call (.builtin "str.find") [.str x t, .str y u, .int i v, .int j v']) Q E s :=
  call_gives F.slot_str_find (typeIs_str _ _ _) F.entry_str_find (F.args_str_find_4 _ _ _ _) (gives_find4 x y i j t u v v') hq
end

/-- the frames and ledgers that a contract speaks of; P: what the caller is given back -/
abbrev Cl (w : World) (r : Nat) (f : Addr) (news : List (Addr × Obj)) (vs : List Value) (P : Heap → Addr → (Str → Option Value) → Shared → (Value → Shared → Prop) → Prop) : Prop :=
  ∀ (mean : ExcName → Option Value) (mg mb : Str → Option Value) (loose : List Str) (dp un : Nat) (gd : Option (List Code)) (cn : Str) (cs : Scope) (a : Addr) (ccd : Value) (cl : List (Str × Addr)) (outer : List Env) (A₀ : Around) (base h₀ : Heap) (L : Addr) (m : Str → Option Value) (s : Shared) (Q E : Value → Shared → Prop),
    Below A₀ base outer h₀ → Fr h₀ L s.heap m → (hd.heap_39 w.params).In h₀ → News h₀ L s.heap news → Top hd.view_39 loose mean mg mb h₀ → cs.kind = .function →
    dp + r < recursionLimit → un + 10 * r < cLine → P h₀ L m s Q →
      wpAny (model PySem.Challenge.rw_re0145_01.row.prog w) (ktrTop dp un gd cn cs L a ccd cl outer) (call (.ref f) vs) Q E s
abbrev RV (news : List (Addr × Obj)) (R : Tok → Value) (h₀ : Heap) (L : Addr) (m : Str → Option Value) (s : Shared) (Q : Value → Shared → Prop) : Prop :=
  ∀ (t : Tok) (h' : Heap) (tk' : Nat), Fr h₀ L h' m → News h₀ L h' news → Q (R t) { s with heap := h', toks := tk' }
/-- a contract taken up: the caller's facts first -/
theorem cl_go {w : World} {r : Nat} {f : Addr} {news : List (Addr × Obj)} {vs : List Value} {P : Heap → Addr → (Str → Option Value) → Shared → (Value → Shared → Prop) → Prop} {mean : ExcName → Option Value} {mg mb : Str → Option Value} {loose : List Str} {dp un : Nat} {gd : Option (List Code)} {cn : Str} {cs : Scope} {a : Addr} {ccd : Value} {cl : List (Str × Addr)} {outer : List Env} {A₀ : Around} {base h₀ : Heap} {L : Addr} {m : Str → Option Value} {s : Shared} {Q E : Value → Shared → Prop}
    (B : Below A₀ base outer h₀) (F : Fr h₀ L s.heap m) (X : (hd.heap_39 w.params).In h₀) (N : News h₀ L s.heap news) (T : Top hd.view_39 loose mean mg mb h₀) (hk : cs.kind = .function) (hdp : dp + r < recursionLimit) (hun : un + 10 * r < cLine) (c : Cl w r f news vs P) (q : P h₀ L m s Q) :
    wpAny (model PySem.Challenge.rw_re0145_01.row.prog w) (ktrTop dp un gd cn cs L a ccd cl outer) (call (.ref f) vs) Q E s := c mean mg mb loose dp un gd cn cs a ccd cl outer A₀ base h₀ L m s Q E B F X N T hk hdp hun q
end Mine
end
section
open PySem PySem.W PyProof.Rows PySem.Calls PySem.Builtin PySem.Builtin.Str
namespace Mine
/-- the single signs of a text, as texts -/
def singles (x : Str) : List Str := x.cps.toList.map fun c => ⟨#[c]⟩
theorem singles_len (x : Str) : (singles x).length = x.length := by simp [singles, Str.length]
section
variable {prog : Program} {w : World} {A : Around} {E : Value → Shared → Prop} {s : Shared} {h₀ : Heap} {L D : Addr} {m : Str → Option Value} {news news' : List (Addr × Obj)} {n : Nat} {Q : Value → Shared → Prop}
theorem strsAre_of_get : ∀ {ss : List Str} {ys : List Value}, ys.length = ss.length → (∀ (j : Nat) (x : Str), ss[j]? = some x → ∃ t, ys[j]? = some (Value.str x t)) → StrsAre ys ss
  | [], ys, hl, _ => by
    obtain rfl : ys = [] := List.length_eq_zero_iff.mp hl
    exact .nil
  | x :: ss, ys, hl, h => by
    match ys, hl with
    | v :: ys, hl =>
      obtain ⟨t, e⟩ := h 0 x rfl
      obtain rfl : v = .str x t := by simpa using e
      exact .cons x t (strsAre_of_get (by simpa using hl) fun j y hj => by simpa using h (j + 1) y (by simpa using hj))
/-- list(text) -/
theorem list_strK {x : Str} {t : Tok} (hh : A.handled = none) (F : Fr h₀ L s.heap m) (N : News h₀ L s.heap news) (hsz : x.length ≤ sizeLine)
    (h : ∀ D c' us h' tk, Fr h₀ L h' m → News h₀ L h' ((D, listOf us.toArray c') :: news) → StrsAre us (singles x) → (∀ p ∈ news, p.1 < D) → Q (.ref D) { s with heap := h', toks := tk }) :
    wpAny (model prog w) A (call (.type "list") [.str x t]) Q E s := by
  refine call_list_str hh x t (hn := hsz) fun h' tk acc' c' hk hS' hacc => ?_
  have hlt : ∀ p ∈ news, p.1 < s.heap.objs.size := fun p hp => Heap.lt_size (N p hp).1
  refine h s.heap.objs.size c' acc'.toList h' tk (F.keeps hk) (fun p hp => ?_) (strsAre_of_get ?_ fun j y hj => ?_) hlt
  · rcases List.mem_cons.mp hp with rfl | hp
    · refine ⟨?_, ?_, ?_⟩
      · simpa using hS'
      · exact fun e => absurd (F.ns.lt) (by rw [← e]; exact Nat.lt_irrefl _)
      · cases e : h₀.get? s.heap.objs.size with
        | none => rfl
        | some o => exact absurd (Heap.lt_size (F.keep _ _ e)) (Nat.lt_irrefl _)
    · exact ⟨hk _ _ (N p hp).1, (N p hp).2⟩
  · simp [hacc.1, singles]
  · have hj' : j < acc'.toList.length := by
      have h1 : j < (singles x).length := by
        rcases Nat.lt_or_ge j (singles x).length with h | h
        · exact h
        · rw [List.getElem?_eq_none h] at hj; cases hj
      simpa [hacc.1, singles] using h1
    obtain ⟨c, u, hc, e⟩ := hacc.2 j acc'.toList[j] (by rw [← Array.getElem?_toList]; exact List.getElem?_eq_getElem hj')
    refine ⟨u, ?_⟩
    have e2 : y = ⟨#[c]⟩ := by
      have : (singles x)[j]? = some ⟨#[c]⟩ := by simp [singles, hc]
      exact Option.some.inj (hj.symm.trans this)
    rw [List.getElem?_eq_getElem hj', e, e2]
theorem kl_cut_of : ∀ {us : List Value} {k : Nat} {y : Value}, us[k]? = some y → kl_cut us k = some (us.take k, y, us.drop (k + 1))
  | [], k, y, h => by simp at h
  | x :: r, 0, y, h => by
    obtain rfl : x = y := by simpa using h
    rfl
  | x :: r, k + 1, y, h => by
    have ih := kl_cut_of (us := r) (k := k) (y := y) (by simpa using h)
    simp only [kl_cut, ih]
    rfl
theorem strsAre_eraseIdx : ∀ {us : List Value} {ss : List Str}, StrsAre us ss → ∀ k, StrsAre (us.eraseIdx k) (ss.eraseIdx k)
  | _, _, .nil, k => by simpa using StrsAre.nil
  | _, _, .cons y t r, 0 => by simpa using r
  | _, _, .cons y t r, k + 1 => by simpa using StrsAre.cons y t (strsAre_eraseIdx r k)
/-- list.pop(k) of a list of texts -/
theorem pop_strs {us : List Value} {ss : List Str} {k : Int} {u : Tok} (F : Fr h₀ L s.heap m) (N : News h₀ L s.heap news) (hi : StrsAre us ss) (h0 : 0 ≤ k) (h1 : k < ss.length) (hz : ss.length ≤ 1000)
    (U : Upd D (listOf us.toArray n) (listOf (us.eraseIdx k.toNat).toArray (n + 1)) news news')
    (h : ∀ h' t, Fr h₀ L h' m → News h₀ L h' news' → StrsAre (us.eraseIdx k.toNat) (ss.eraseIdx k.toNat) → ss.getD k.toNat Str.empty ∈ ss → Q (.str (ss.getD k.toNat Str.empty) t) { s with heap := h' }) :
    wpAny (model prog w) A (call (.builtin "list.pop") [.ref D, .int k u]) Q E s := by
  have hk : k.toNat < ss.length := by omega
  obtain ⟨t, e⟩ := hi.get k.toNat (ss.getD k.toNat Str.empty) (by simp [List.getD, hk])
  have hl := hi.length
  refine kl_popAt (n := n) (news' := news') F N (k := k.toNat) (p := us.take k.toNat) (q := us.drop (k.toNat + 1)) (y := .str (ss.getD k.toNat Str.empty) t) ?_ ?_ (kl_cut_of (by simpa using e)) ?_ ?_ ?_
  · simp only [Builtin.List.listFitsIndex, Bool.and_eq_true, decide_eq_true_eq]; omega
  · simp only [seqIndex?, List.size_toArray]
    have e1 : ¬ k < 0 := by omega
    have e2 : k < (us.length : Int) := by omega
    simp [e1, h0, e2]
  · rw [← List.eraseIdx_eq_take_drop_succ]; exact U
  · simp only [hl]; exact Nat.le_trans hz (by decide)
  · exact fun h' F' N' => h h' t F' N' (strsAre_eraseIdx hi _) (by simp [List.getD, hk])
end

theorem offOf {I : Addr} {news : List (Addr × Obj)} (h : ∀ p ∈ news, p.1 < I) : ∀ p ∈ news, p.1 ≠ I := fun p hp => Nat.ne_of_lt (h p hp)
theorem offAll {I : Addr} : ∀ {news : List (Addr × Obj)}, AllLt I news → ∀ p ∈ news, p.1 ≠ I
  | [], _, _, h => nomatch h
  | q :: r, h, p, hp => by
    rcases List.mem_cons.mp hp with rfl | hp
    · exact Nat.ne_of_lt h.1
    · exact offAll h.2 p hp

section
variable {prog : Program} {w : World} {A : Around} {E : Value → Shared → Prop} {s : Shared} {env : Env} {h₀ : Heap} {xi xc : Str} {body : List Stmt} {Q : Flow → Shared → Prop}
/-- a loop over enumerate(..), by what holds between the turns -/
theorem kst_enum {σ α : Type} {K : ItemKind α} {as : List α} {xv : Value} {m₀ : Str → Option Value} (Led : σ → List (Addr × Obj)) (ps : σ → List (Str × Value)) (Facts : σ → Prop) (stored : List Str) (P : List Int → σ → Prop) (c₀ : σ)
    (S : PairSrcL prog w A E h₀ env.locals K as xv s m₀ (Led c₀)) (hf : Facts c₀) (hk : ∀ p ∈ ps c₀, m₀ p.1 = some p.2) (hp : P [] c₀)
    (turn : ∀ (c : σ) (pre : List Int) (i : Nat) a v t (u : Str → Option Value) h tk own, pre.length = i → as[i]? = some a → K.is a v → OwnOff own ((Led c₀).map (·.1)) → Facts c → P pre c →
      Fr h₀ env.locals h (fun y => if y = xc then some v else if y = xi then some (.int (i : Int) t) else kstB (fun z => if stored.contains z then u z else m₀ z) (ps c) y) → News h₀ env.locals h (Led c ++ own) →
      wpAny (model prog w) A (execs body env) (InvPostN h₀ env.locals (KstS Led ps Facts xc stored m₀ P (pre ++ [(i : Int)])) own ((Led c₀).map (·.1)) { s with heap := h, toks := tk } Q) E { s with heap := h, toks := tk })
    (done : ∀ (c : σ) (pre : List Int) (u : Str → Option Value) h tk, pre.length = as.length → Facts c → P pre c → Fr h₀ env.locals h (fun y => if y = xc then u y else kstB (fun z => if stored.contains z then u z else m₀ z) (ps c) y) → News h₀ env.locals h (Led c) → Q .next { s with heap := h, toks := tk }) :
    wpAny (model prog w) A (pyIter xv) (fun it s₂ => PairAt3 prog w A h₀ env xi xc body Q E it s₂) E s := by
  refine S env rfl xi xc body Q (fun i m nx => ∃ pre : List Int, pre.length = i ∧ KstS Led ps Facts xc stored m₀ P pre m nx) ⟨[], rfl, c₀, rfl, hf, hk, fun _ _ _ _ => rfl, hp⟩ ?_ ?_
  · rintro i a t v m₁ news₁ s₁ own ⟨h, tk, rfl⟩ ha hv ⟨pre, hl, c, rfl, hf', h1, h2, hp'⟩ hadr hoff F₁ N₁
    have em : (fun y => if y = xc then some v else if y = xi then some (.int (i : Int) t) else kstB (fun z => if stored.contains z then m₁ z else m₀ z) (ps c) y) = fun y => if y = xc then some v else if y = xi then some (.int (i : Int) t) else m₁ y := by
      funext y
      by_cases hy : y = xc
      · rw [if_pos hy, if_pos hy]
      · rw [if_neg hy, if_neg hy]
        by_cases hz : y = xi
        · rw [if_pos hz, if_pos hz]
        · rw [if_neg hz, if_neg hz]
          exact kst_off h1 h2 hy
    rw [← em] at F₁
    have hoff' : OwnOff own ((Led c₀).map (·.1)) := fun p hp b hb => by
      obtain ⟨q, hq, rfl⟩ := List.mem_map.mp hb
      exact hoff p hp q hq
    have N₂ : News h₀ env.locals h (Led c ++ own) := fun p hp => N₁ p ((List.mem_append.mp hp).elim (fun h => List.mem_append.mpr (.inr h)) fun h => List.mem_append.mpr (.inl h))
    refine wpAny_mono (turn c pre i a v t m₁ h tk own hl ha hv hoff' hf' hp' F₁ N₂) (fun f s₂ p => ?_) fun _ _ x => x
    have fin : InvEndN h₀ env.locals (KstS Led ps Facts xc stored m₀ P (pre ++ [(i : Int)])) own ((Led c₀).map (·.1)) { s with heap := h, toks := tk } s₂ →
        LoopStep2 h₀ env.locals own (Led c) (fun m nx => ∃ pre : List Int, pre.length = i + 1 ∧ KstS Led ps Facts xc stored m₀ P pre m nx) { s with heap := h, toks := tk } .next s₂ := by
      rintro ⟨h', tk', m', news', nx, e, F', N', hn', ho', ha', hJ⟩
      exact ⟨rfl, h', tk', m', nx, e, F', fun p hp => N' p ((List.mem_append.mp hp).elim (ho' p) (hn' p)), ha'.trans hadr.symm, _, by simp [hl], hJ⟩
    cases f with
    | ret v => exact p
    | brk => exact p
    | next => exact fin p
    | cont => exact fin p
  · rintro h' tk m' news' F' N' hadr ⟨pre, hl, c, rfl, hf', h1, h2, hp'⟩
    exact done c pre m' h' tk hl hf' hp' (kst_frOut h1 h2 F') N'
end

theorem eq_of_beqS {x y : Str} (h : (x == y) = true) : x = y := eq_of_beq h
theorem slice_to {x : Str} {j : Nat} (h : j ≤ x.length) : Txt.slice x none (some (j : Int)) = ⟨(x.cps.toList.take j).toArray⟩ := by
  have e := eq_of_beqS (slice_closes_toL (x := x) (j := (j : Int)) (by omega) (by omega))
  simpa using e
theorem slice_mid {x : Str} {i j : Nat} (hi : i ≤ x.length) (hj : j ≤ x.length) : Txt.slice x (some (i : Int)) (some (j : Int)) = ⟨((x.cps.toList.drop i).take (j - i)).toArray⟩ := by
  rcases Nat.le_total i j with h | h
  · have e := eq_of_beqS (slice_closesL (x := x) (i := (i : Int)) (j := (j : Int)) (by omega) (by omega) (by omega))
    rw [e]
    congr 3
    omega
  · have e0 : j - i = 0 := by omega
    rw [e0, List.take_zero]
    unfold Txt.slice strSliceIndices
    have h1 : ¬ (i : Int) < 0 := by omega
    have h2 : ¬ (j : Int) < 0 := by omega
    have h3 : max 0 (min (i : Int) (x.length : Int)) = (i : Int) := by omega
    have h4 : max 0 (min (j : Int) (x.length : Int)) = (j : Int) := by omega
    simp only [h1, h2, if_false, show (1 : Int) > 0 by decide, if_true, h3, h4, sliceRange_one, e0, List.range_zero, List.map_nil, List.length_nil, List.filterMap_nil]
    split
    · rename_i hz
      have hz' : 0 = x.length := by simpa using hz
      apply Str.ext'
      apply Array.eq_empty_of_size_eq_zero
      exact hz'.symm
    · rfl
theorem codes_mk (l : List Nat) : KStt.codes ⟨l.toArray⟩ = l.map fun (c : Nat) => (c : Int) := by simp [KStt.codes]

section
variable {prog : Program} {w : World} {A : Around} {E : Value → Shared → Prop} {s : Shared} {h₀ : Heap} {L D : Addr} {m : Str → Option Value} {news news' : List (Addr × Obj)} {n : Nat} {Q : Value → Shared → Prop}
/-- list.append of a text -/
theorem append_strs {us : List Value} {ss : List Str} {y : Str} {t : Tok} (F : Fr h₀ L s.heap m) (N : News h₀ L s.heap news) (U : Upd D (listOf us.toArray n) (listOf (us ++ [Value.str y t]).toArray (n + 1)) news news') (hi : StrsAre us ss) (hz : ss.length ≤ 1000)
    (h : ∀ h', Fr h₀ L h' m → News h₀ L h' news' → StrsAre (us ++ [Value.str y t]) (ss ++ [y]) → Q .none { s with heap := h' }) :
    wpAny (model prog w) A (call (.builtin "list.append") [.ref D, .str y t]) Q E s := by
  have e : (us ++ [Value.str y t]).toArray = us.toArray.push (.str y t) := by simp
  rw [e] at U
  refine append_K F N U (fun h' F' N' => h h' F' N' (hi.append' (.cons _ _ .nil))) ?_
  rw [List.size_toArray, hi.length]
  exact Nat.le_trans hz (by decide)
end

theorem map_toNat_codes (l : List Nat) : (l.map fun (c : Nat) => (c : Int)).map Int.toNat = l := by
  rw [List.map_map]
  exact (List.map_congr_left (g := _root_.id) fun c _ => Int.toNat_natCast c).trans (List.map_id _)
theorem slice_from {x : Str} {i : Nat} (h : i ≤ x.length) : Txt.slice x (some (i : Int)) none = ⟨(x.cps.toList.drop i).toArray⟩ := by
  rw [slice_from_eq (x := x) (i := (i : Int)) (b := (x.length : Int)) (by omega) (by omega) rfl]
  congr 2
  rw [List.take_of_length_le]
  · simp
  · simp only [List.length_drop, Array.length_toList, Str.length, Int.toNat_natCast]; omega
theorem mk_append (a b : List Nat) : (⟨a.toArray⟩ : Str) ++ ⟨b.toArray⟩ = ⟨(a ++ b).toArray⟩ := by
  apply Str.ext'
  rw [Str.cps_append]
  simp
end Mine
end
section
open PySem PySem.W PyProof.Rows PySem.Calls PySem.Builtin PySem.Builtin.Str
namespace Mine
/-- the rows of EXACT_TOKEN_TYPES -/
def tokRows : List (Str × PyData) := [(Str.ofString "!", .int 54), (Str.ofString "!=", .int 28), (Str.ofString "%", .int 24), (Str.ofString "%=", .int 40), (Str.ofString "&", .int 19), (Str.ofString "&=", .int 41), (Str.ofString "(", .int 7), (Str.ofString ")", .int 8), (Str.ofString "*", .int 16), (Str.ofString "**", .int 35), (Str.ofString "**=", .int 46), (Str.ofString "*=", .int 38), (Str.ofString "+", .int 14), (Str.ofString "+=", .int 36), (Str.ofString ",", .int 12), (Str.ofString "-", .int 15), (Str.ofString "-=", .int 37), (Str.ofString "->", .int 51), (Str.ofString ".", .int 23), (Str.ofString "...", .int 52), (Str.ofString "/", .int 17), (Str.ofString "//", .int 47), (Str.ofString "//=", .int 48), (Str.ofString "/=", .int 39), (Str.ofString ":", .int 11), (Str.ofString ":=", .int 53), (Str.ofString ";", .int 13), (Str.ofString "<", .int 20), (Str.ofString "<<", .int 33), (Str.ofString "<<=", .int 44), (Str.ofString "<=", .int 29), (Str.ofString "=", .int 22), (Str.ofString "==", .int 27), (Str.ofString ">", .int 21), (Str.ofString ">=", .int 30), (Str.ofString ">>", .int 34), (Str.ofString ">>=", .int 45), (Str.ofString "@", .int 49), (Str.ofString "@=", .int 50), (Str.ofString "[", .int 9), (Str.ofString "]", .int 10), (Str.ofString "^", .int 32), (Str.ofString "^=", .int 43), (Str.ofString "{", .int 25), (Str.ofString "|", .int 18), (Str.ofString "|=", .int 42), (Str.ofString "}", .int 26), (Str.ofString "~", .int 31)]
def tokD : List (PyData × PyData) := tokRows.map fun p => (PyData.str p.1, p.2)
set_option maxRecDepth 100000 in
theorem tokTab (w : World) {h : Heap} (X : (hd.heap_39 w.params).In h) : StrTab PySem.Challenge.rw_re0145_01.row.prog w h 95 tokD :=
  kt_tab_in _ w X (by kernel_rfl) (by decide) (by kernel_rfl)
/-- a sign's number, 0 where it has none -/
def tokP (c : Nat) : Int := if c = 43 then 14 else if c = 45 then 15 else if c = 42 then 16 else if c = 47 then 17 else if c = 124 then 18 else if c = 38 then 19 else if c = 60 then 20 else if c = 62 then 21 else if c = 61 then 22 else if c = 37 then 24 else if c = 94 then 32 else if c = 64 then 49 else 0
def menuL : List Nat := [43, 45, 42, 47, 124, 38, 60, 62, 61, 37, 94, 64]
theorem menu_eq : (Str.ofString "+-*/|&<>=%^@") = ⟨menuL.toArray⟩ := by decide
set_option maxRecDepth 100000 in
theorem tok_ok : ∀ c ∈ menuL, PySem.Spec.lookup (.str ⟨#[c]⟩) tokD = some (.int (tokP c)) := by
  intro c hc
  simp only [menuL, List.mem_cons, List.not_mem_nil, or_false] at hc
  rcases hc with rfl | rfl | rfl | rfl | rfl | rfl | rfl | rfl | rfl | rfl | rfl | rfl <;> kernel_rfl
theorem menu_dot : ∀ c ∈ menuL, c ≠ 46 := by decide
section
variable {prog : Program} {w : World} {A : Around} {E : Value → Shared → Prop} {s : Shared} {h₀ : Heap} {L : Addr} {m : Str → Option Value} {news : List (Addr × Obj)}
theorem paired_ints (d : Nat → Int) : ∀ {cs : List Nat} {vs ys : List Value}, vs.length = cs.length → (∀ (j : Nat) (v : Value), vs[j]? = some v → ∃ c u, cs[j]? = some c ∧ v = .str ⟨#[c]⟩ u) →
    Paired (fun (v y : Value) => ∀ c u, v = .str ⟨#[c]⟩ u → ∃ t, y = .int (d c) t) vs ys → IntsAre ys (cs.map d)
  | [], vs, ys, hl, _, hp => by
    obtain rfl : vs = [] := List.length_eq_zero_iff.mp hl
    cases hp
    exact .nil
  | c :: cs, v :: vs, ys, hl, hg, hp => by
    cases hp with
    | cons ha hr =>
      obtain ⟨c', u, e1, rfl⟩ := hg 0 v rfl
      obtain rfl : c = c' := by simpa using e1
      obtain ⟨t, rfl⟩ := ha c u rfl
      exact .cons _ t (paired_ints d (by simpa using hl) (fun j v hj => by simpa using hg (j + 1) v (by simpa using hj)) hr)
/-- [f(sign) for sign in text]: ints by what each sign gives -/
theorem comp_toks {env : Env} {elt : Expr} {x : Str} {scope : Scope} {Q : Value → Shared → Prop} {y : Str} {t : Tok} (d : Nat → Int) (hh : A.handled = none) (F : Fr h₀ L s.heap m) (N : News h₀ L s.heap news) (hsz : y.length ≤ sizeLine)
    (g : ∀ C c u s₃ m₃ E', c ∈ y.cps.toList → s₃.heap.Ns C m₃ → m₃ x = some (.str ⟨#[c]⟩ u) → (∀ b o, h₀.get? b = some o → s₃.heap.get? b = some o) →
      wpAny (model prog w) A (eval elt (compEnv scope C env)) (fun r s₄ => (∃ t, r = .int (d c) t) ∧ Keeps s₃ s₄) E' s₃)
    (k : ∀ D n ys h' tk, Fr h₀ L h' m → News h₀ L h' ((D, listOf ys.toArray n) :: news) → IntsAre ys (y.cps.toList.map d) → (∀ p ∈ news, p.1 ≠ D) → Q (.ref D) { s with heap := h', toks := tk }) :
    wpAny (model prog w) A (pyIter (.str y t)) (CompPost prog w A env scope x [] elt Q) E s := by
  unfold CompPost
  refine wpAny_pyIter_str fun o St W hst => ?_
  have up : ∀ (h' : Heap), (∀ b o', b ∉ [s.heap.objs.size] → (s.heap.push o).get? b = some o' → h'.get? b = some o') → ∀ b o', s.heap.get? b = some o' → h'.get? b = some o' :=
    fun h' hk b o' e => hk b o' (old_not_new e) (Heap.get?_push_of_some _ e)
  refine ⟨fun _ => true, fun v y => ∀ c u, v = .str ⟨#[c]⟩ u → ∃ t, y = .int (d c) t, s.heap.objs.size, [s.heap.objs.size], [s.heap.objs.size], y.cps.size, SignAt y, St, rfl, W A hh, hsz, hst, ?_, ⟨?_, ?_⟩, ?_⟩
  · intro b hb
    show b < (s.heap.push o).objs.size
    rw [Heap.size_push, List.mem_singleton.mp hb]
    exact Nat.lt_succ_self _
  · intro C i v s₃ m₃ E' hP hn hm _ htk
    exact wpAny_pure ⟨rfl, s₃.heap, s₃.toks, rfl, fun _ _ e => e⟩
  · intro C i v s₃ m₃ E' hP hp hn hm hk htk
    obtain ⟨c, u, hc, rfl⟩ := hP
    have hcm : c ∈ y.cps.toList := by
      have : y.cps.toList[i]? = some c := by simpa using hc
      exact List.mem_of_getElem? this
    refine wpAny_mono (g C c u s₃ m₃ E' hcm hn hm fun b o' e => up _ hk b o' (F.keep b o' e)) (fun r s₄ h₄ => ⟨fun c' u' e => ?_, h₄.2⟩) fun _ _ e => e
    obtain ⟨t, rfl⟩ := h₄.1
    cases e
    exact ⟨t, rfl⟩
  · intro D h' tk ys vs hnew hlD hplD hlen hP hF hk
    obtain ⟨n, hD⟩ := hplD
    have hDold : s.heap.get? D = none := by
      cases e : s.heap.get? D with
      | none => rfl
      | some o' => rw [Heap.get?_push_of_some _ e] at hnew; cases hnew
    have hne : ∀ p ∈ news, p.1 ≠ D := fun p hp e => by rw [← e, (N p hp).1] at hDold; cases hDold
    refine k D n ys.toList h' tk (F.keeps (up h' hk)) (fun p hp => ?_) ?_ hne
    · rcases List.mem_cons.mp hp with rfl | hp
      · refine ⟨by simpa using hD, ?_, ?_⟩
        · rintro rfl
          obtain ⟨oL, _, _, hL, _⟩ := F.ns
          rw [hL] at hDold; cases hDold
        · cases e : h₀.get? D with
          | none => rfl
          | some o' => rw [F.keep _ _ e] at hDold; cases hDold
      · exact (N.grown (up h' hk)) p hp
    · have hF' : Paired (fun (v y : Value) => ∀ c u, v = .str ⟨#[c]⟩ u → ∃ t, y = .int (d c) t) vs ys.toList := by
        have e : vs.filter (fun _ => true) = vs := List.filter_eq_self.mpr fun _ _ => rfl
        rw [e] at hF
        exact hF
      refine paired_ints d (by simpa using hlen) (fun j v hj => ?_) hF'
      obtain ⟨c, u, hc, e⟩ := hP j v hj
      exact ⟨c, u, by simpa using hc, e⟩
end
end Mine
end
section
open PySem PySem.W PyProof.Rows PySem.Calls PySem.Builtin PySem.Builtin.Str
namespace Mine
section
variable {prog : Program} {w : World} {A : Around} {E : Value → Shared → Prop} {s : Shared} {h₀ : Heap} {L : Addr} {m : Str → Option Value} {news all : List (Addr × Obj)}
/-- enumerate of a list that the call has made -/
theorem enum_made {α : Type} {K : ItemKind α} {as : List α} {l : Addr} {vs : List Value} {n : Nat} {Q : Value → Shared → Prop} (hh : A.handled = none) (F : Fr h₀ L s.heap m) (N : News h₀ L s.heap all) (hm : (l, listOf vs.toArray n) ∈ all) (hi : AreOf K vs as)
    (hsub : ∀ p ∈ news, p ∈ all) (hoff : ∀ p ∈ news, p.1 ≠ l)
    (h : ∀ h' e, Fr h₀ L h' m → News h₀ L h' news → PairSrcL prog w A E h₀ L K as (.ref e) { s with heap := h' } m news → Q (.ref e) { s with heap := h' }) :
    wpAny (model prog w) A (call (.type "enumerate") [.ref l]) Q E s := by
  have hg := (N _ hm).1
  have hls : s.heap.IsList l vs.toArray := ⟨_, hg, rfl, n, rfl⟩
  have hLs : L < s.heap.objs.size := F.ns.lt
  have hab : h₀.objs.size ≤ L := F.above
  have hl2 : l < s.heap.objs.size := Heap.lt_size hg
  have hLl : l ≠ L := (N _ hm).2.1
  refine call_enumerate_list hls fun h' he hit hsz hk => ?_
  have F' : Fr h₀ L h' m := ⟨F.ns.keeps hk, fun b o e => hk b o (F.keep b o e), F.above⟩
  have N' : News h₀ L h' news := fun p hp => ⟨hk _ _ (N p (hsub p hp)).1, (N p (hsub p hp)).2⟩
  refine h h' _ F' N' fun env hL => ?_
  subst hL
  refine enumSrc (Draws.list (A := A.in1) hh s.heap.objs.size l (Nat.ne_of_lt hl2) vs.toArray) he ⟨hit, hls.at fun o e => hk l o e⟩ (Nat.succ_ne_self _) ?_ (by simp) ?_
    (Heap.get?_none_of_le (Nat.le_trans hab (Nat.le_of_lt (Nat.lt_succ_of_lt hLs)))) (Heap.get?_none_of_le (Nat.le_trans hab (Nat.le_of_lt hLs))) ?_ (by simp [hi.length]) (fun i x hx => hi.get i x (by simpa using hx)) F' N'
  · intro hm
    rcases List.mem_cons.mp hm with e | hm
    · exact Nat.succ_ne_self _ e
    · exact Nat.ne_of_gt (Nat.lt_succ_of_lt hl2) (List.mem_singleton.mp hm)
  · intro hm
    rcases List.mem_cons.mp hm with e | hm
    · exact Nat.ne_of_lt (Nat.lt_succ_of_lt hLs) e
    · rcases List.mem_cons.mp hm with e | hm
      · exact Nat.ne_of_lt hLs e
      · exact hLl (List.mem_singleton.mp hm).symm
  · intro b hb q hq e
    have hq1 : q.1 < s.heap.objs.size := Heap.lt_size (N q (hsub q hq)).1
    rcases List.mem_cons.mp hb with e1 | hb
    · exact Nat.ne_of_gt (Nat.lt_succ_of_lt hq1) (e1.symm.trans e)
    · rcases List.mem_cons.mp hb with e1 | hb
      · exact Nat.ne_of_gt hq1 (e1.symm.trans e)
      · exact hoff q hq (e.symm.trans (List.mem_singleton.mp hb))
end

section
variable {prog : Program} {w : World} {A : Around} {E : Value → Shared → Prop} {s : Shared} {x : Str} {t u : Tok} {i : Int} {Q : Value → Shared → Prop}
theorem mul_str (hx : x.length ≤ 16) (hlo : -1000 ≤ i) (hhi : i ≤ 1000) (h : ∀ t' k, Q (.str (Txt.mul x i) t') { s with toks := k }) :
    wpAny (model prog w) A (binaryOp .Mult (.str x t) (.int i u)) Q E s :=
  SB.mul (mulOk_of 16 1000 hx hhi (by omega) (by decide) (by decide)) h
end
theorem mul_len {x : Str} {n : Int} {a b : Nat} (hx : x.length ≤ a) (hn : n ≤ (b : Int)) : (Txt.mul x n).length ≤ a * b := by
  have h := len_mul x n
  by_cases h0 : n < 0
  · rw [if_pos (decide_eq_true h0), Int.mul_zero] at h
    omega
  · rw [if_neg (fun c => h0 (of_decide_eq_true c))] at h
    have h1 : (x.length : Int) * n ≤ (a : Int) * (b : Int) := Int.mul_le_mul (by omega) hn (by omega) (by omega)
    have h2 : ((Txt.mul x n).length : Int) ≤ ((a * b : Nat) : Int) := by rw [h, Int.natCast_mul]; exact h1
    omega
end Mine
end
section
open PySem PySem.W PyProof.Rows PySem.Calls PySem.Builtin PySem.Builtin.Str
namespace Mine
section
variable {prog : Program} {w : World} {A : Around} {E : Value → Shared → Prop} {s : Shared} {env : Env} {h₀ : Heap} {x : Str} {body : List Stmt} {Q : Flow → Shared → Prop}
theorem text_walk {o : Obj} {St : Nat → Heap → Prop} {xt : Str} {m₀ : Str → Option Value} {news : List (Addr × Obj)} (J : Nat → (Str → Option Value) → List (Addr × Obj) → Prop)
    (W : Walks prog w A s.heap.objs.size [s.heap.objs.size] [s.heap.objs.size] xt.cps.size (SignAt xt) St) (hIo : ∀ i h, St i h → ∃ o, h.get? s.heap.objs.size = some o) (hst : St 0 (s.heap.push o))
    (F : Fr h₀ env.locals s.heap m₀) (N : News h₀ env.locals s.heap news) (hj : J 0 m₀ news)
    (turn : ∀ I it i c t m₁ news₁ h tk, xt.cps.toList[i]? = some c → J i m₁ news₁ → (∀ p ∈ news₁, p.1 ≠ I) → Fr h₀ env.locals h (fun y => if y = x then some (.str ⟨#[c]⟩ t) else m₁ y) → News h₀ env.locals h ((I, it) :: news₁) →
      wpAny (model prog w) A (execs body env) (UnrPost h₀ env.locals { s with heap := h, toks := tk } I it (J (i + 1)) Q) E { s with heap := h, toks := tk })
    (done : ∀ m₁ news₁ h tk, J xt.length m₁ news₁ → Fr h₀ env.locals h m₁ → News h₀ env.locals h news₁ → Q .next { s with heap := h, toks := tk }) :
    LoopAtV prog w A h₀ env x body Q E (.ref s.heap.objs.size) { s with heap := s.heap.push o } := by
  have hnew := next_is_new F
  refine ⟨_, _, _, xt.cps.size, _, _, m₀, news, J, rfl, W, ?_, ?_, ?_, hst, F.push _, (fun p hp => ⟨Heap.get?_push_of_some _ (N p hp).1, (N p hp).2⟩), hj, ?_, ?_⟩
  · intro hm
    exact absurd F.ns.lt ((List.mem_singleton.mp hm) ▸ Nat.lt_irrefl _)
  · intro b hb
    rw [List.mem_singleton.mp hb]
    exact hnew
  · intro p hp hI
    exact absurd (Heap.lt_size (N p hp).1) ((List.mem_singleton.mp hI) ▸ Nat.lt_irrefl _)
  · rintro i v m₁ news₁ s₁ own ⟨hh', tk', rfl⟩ hin hP hJ hoff hown hget hall hst' F₁ N₁
    obtain ⟨it, hit⟩ := hIo _ _ hst'
    have hmemI := hall s.heap.objs.size (List.mem_singleton.mpr rfl) hnew _ hit
    obtain ⟨c, t, hc, rfl⟩ := hP
    have N₂ : News h₀ env.locals hh' ((s.heap.objs.size, it) :: news₁) := fun p hp => by
      rcases List.mem_cons.mp hp with rfl | hp
      · exact N₁ _ (List.mem_append_left _ hmemI)
      · exact N₁ _ (List.mem_append_right _ hp)
    refine wpAny_mono (turn s.heap.objs.size it i c t m₁ news₁ hh' tk' (by simpa using hc) hJ (fun p hp e => hoff p hp (by rw [e]; exact List.mem_singleton.mpr rfl)) F₁ N₂) (fun f s₂ p => ?_) fun _ _ e => e
    have fin : UnrEnd h₀ env.locals { s with heap := hh', toks := tk' } s.heap.objs.size it (J (i + 1)) s₂ → LoopStepU h₀ env.locals [s.heap.objs.size] own (J (i + 1)) { s with heap := hh', toks := tk' } .next s₂ := by
      rintro ⟨h', tk, m', news', e, F', N', ho, r⟩
      refine ⟨rfl, h', tk, m', news', e, F', fun p hp => ?_, fun p hp hI => ho p hp (List.mem_singleton.mp hI), r⟩
      rcases List.mem_append.mp hp with hp | hp
      · have h1 : p.1 = s.heap.objs.size := List.mem_singleton.mp (hown p hp)
        have h2 : hh'.get? p.1 = some p.2 := hget p hp
        have h3 : p = (s.heap.objs.size, it) := by
          rw [h1, hit] at h2
          exact Prod.ext h1 (Option.some.inj h2).symm
        rw [h3]; exact N' _ (List.mem_cons_self ..)
      · exact N' _ (List.mem_cons_of_mem _ hp)
    cases f with
    | ret v => exact .ret p
    | brk => exact .brk p
    | next => exact .next (fin p)
    | cont => exact .cont (fin p)
  · rintro h' tk m' news' F' N' _ hJ
    exact done m' news' h' tk hJ F' N'
/-- a loop over a text, by what holds between the turns; the turn may make objects that stay -/
theorem text_unr {xt : Str} {tx : Tok} {m₀ : Str → Option Value} {news : List (Addr × Obj)} (J : Nat → (Str → Option Value) → List (Addr × Obj) → Prop)
    (hh : A.handled = none) (F : Fr h₀ env.locals s.heap m₀) (N : News h₀ env.locals s.heap news) (hj : J 0 m₀ news)
    (turn : ∀ I it i c t m₁ news₁ h tk, xt.cps.toList[i]? = some c → J i m₁ news₁ → (∀ p ∈ news₁, p.1 ≠ I) → Fr h₀ env.locals h (fun y => if y = x then some (.str ⟨#[c]⟩ t) else m₁ y) → News h₀ env.locals h ((I, it) :: news₁) →
      wpAny (model prog w) A (execs body env) (UnrPost h₀ env.locals { s with heap := h, toks := tk } I it (J (i + 1)) Q) E { s with heap := h, toks := tk })
    (done : ∀ m₁ news₁ h tk, J xt.length m₁ news₁ → Fr h₀ env.locals h m₁ → News h₀ env.locals h news₁ → Q .next { s with heap := h, toks := tk }) :
    wpAny (model prog w) A (pyIter (.str xt tx)) (fun it s₂ => LoopAtV prog w A h₀ env x body Q E it s₂) E s := by
  cases ha : xt.cps.all (· < 128)
  · exact wpAny_pyIter_wide ha (text_walk J (Walks.strWide hh _ xt tx) (fun i h ⟨o, e, _⟩ => ⟨o, e⟩) ⟨_, Heap.get?_push_size _ rfl, rfl, rfl⟩ F N hj turn done)
  · exact wpAny_pyIter_ascii ha (text_walk J (Walks.strAscii hh _ xt tx) (fun i h ⟨o, e, _⟩ => ⟨o, e⟩) ⟨_, Heap.get?_push_size _ rfl, rfl, rfl⟩ F N hj turn done)
end
/-- a name's value, said at the head of the frame's map -/
theorem fr_known {h₀ h : Heap} {L : Addr} {m : Str → Option Value} {x : Str} {v : Value} (F : Fr h₀ L h m) (e : m x = some v) : Fr h₀ L h (fun y => if y = x then some v else m y) := by
  have em : (fun y => if y = x then some v else m y) = m := by
    funext y
    by_cases hy : y = x
    · rw [if_pos hy, hy, e]
    · rw [if_neg hy]
  rw [em]
  exact F
end Mine
end
section
open PySem PySem.W PyProof.Rows PySem.Calls PySem.Builtin PySem.Builtin.Str
namespace Mine
def bumpP (cnt : List Int) (b : Nat) : List Int :=
  let c := if cnt.length ≤ b then cnt ++ List.replicate (b - cnt.length + 1) 0 else cnt
  c.set b (c.getD b 0 + 1)
/-- what Whitespace.__init__ reads off a text: count, b, n, nt -/
def wsGo : List Nat → List Int → Nat → Nat → Nat → List Int × Nat × Nat × Nat
  | [], cnt, b, n, nt => (cnt, b, n, nt)
  | c :: cs, cnt, b, n, nt => if c = 32 then wsGo cs cnt (b + 1) (n + 1) nt else if c = 9 then wsGo cs (bumpP cnt b) 0 (n + 1) (nt + 1) else (cnt, b, n, nt)
def wsP (ws : Str) : List Int × Nat × Nat × Nat := wsGo ws.cps.toList [] 0 0 0
abbrev rawD (w : World) (ws : Str) (kt t1 : Tok) : Obj := dictOf [⟨PyData.keyHash w.params (Str.ofString "raw"), .str (Str.ofString "raw") kt, .str ws t1⟩] 1
def WsJ (w : World) (ws : Str) (t1 : Tok) (x dx : Addr) (news : List (Addr × Obj)) (i : Nat) (m : Str → Option Value) (nx : List (Addr × Obj)) : Prop :=
  ∃ (D : Addr) (us : List Value) (k : Nat) (kt : Tok) (cnt : List Int) (b n nt : Nat) (tb tn tt tS tT : Tok),
    nx = (D, listOf us.toArray k) :: (x, instObj 90 dx) :: (dx, rawD w ws kt t1) :: news ∧ IntsAre us cnt ∧ (@LT.lt Nat _ x D ∧ @LT.lt Nat _ dx D ∧ AllLt D news) ∧
    m (Str.ofString "count") = some (.ref D) ∧ m (Str.ofString "b") = some (.int (b : Int) tb) ∧ m (Str.ofString "n") = some (.int (n : Int) tn) ∧ m (Str.ofString "nt") = some (.int (nt : Int) tt) ∧
    m (Str.ofString "S") = some (.str (Str.ofString " ") tS) ∧ m (Str.ofString "T") = some (.str (Str.ofString "\t") tT) ∧ m (Str.ofString "self") = some (.ref x) ∧
    wsGo (ws.cps.toList.drop i) cnt b n nt = wsP ws ∧ b ≤ i ∧ n ≤ i ∧ nt ≤ i ∧ cnt.length ≤ i
theorem ws_drop {ws : Str} {i c : Nat} (hc : ws.cps.toList[i]? = some c) : ws.cps.toList.drop i = c :: ws.cps.toList.drop (i + 1) := by
  have hlt := (List.getElem?_eq_some_iff.mp hc).1
  rw [List.drop_eq_getElem_cons hlt]
  congr 1
  exact Option.some.inj ((List.getElem?_eq_getElem hlt).symm.trans hc)
theorem one_eq {c d : Nat} {y : Str} (hy : y = ⟨#[d]⟩) : (((⟨#[c]⟩ : Str) == y) = true ↔ c = d) := by
  subst hy
  constructor
  · intro h
    have e := eq_of_beqS h
    have e2 : (#[c] : Array Nat) = #[d] := congrArg Str.cps e
    simpa using e2
  · rintro rfl; simp
theorem sp_is : (Str.ofString " ") = ⟨#[32]⟩ := by decide
theorem tab_is : (Str.ofString "\t") = ⟨#[9]⟩ := by decide
theorem ws_sp {ws : Str} {i c : Nat} {cnt : List Int} {b n nt : Nat} (hc : ws.cps.toList[i]? = some c) (h : ((⟨#[c]⟩ : Str) == Str.ofString " ") = true) (hgo : wsGo (ws.cps.toList.drop i) cnt b n nt = wsP ws) :
    wsGo (ws.cps.toList.drop (i + 1)) cnt (b + 1) (n + 1) nt = wsP ws := by
  have e := (one_eq sp_is).mp h
  rw [ws_drop hc, wsGo, if_pos e] at hgo
  exact hgo
theorem ws_tab {ws : Str} {i c : Nat} {cnt : List Int} {b n nt : Nat} (hc : ws.cps.toList[i]? = some c) (h0 : ((⟨#[c]⟩ : Str) == Str.ofString " ") = false) (h : ((⟨#[c]⟩ : Str) == Str.ofString "\t") = true) (hgo : wsGo (ws.cps.toList.drop i) cnt b n nt = wsP ws) :
    wsGo (ws.cps.toList.drop (i + 1)) (bumpP cnt b) 0 (n + 1) (nt + 1) = wsP ws := by
  have e := (one_eq tab_is).mp h
  have e0 : ¬ c = 32 := fun e => by rw [(one_eq sp_is).mpr e] at h0; cases h0
  rw [ws_drop hc, wsGo, if_neg e0, if_pos e] at hgo
  exact hgo
theorem ws_brk {ws : Str} {i c : Nat} {cnt : List Int} {b n nt : Nat} (hc : ws.cps.toList[i]? = some c) (h0 : ((⟨#[c]⟩ : Str) == Str.ofString " ") = false) (h : ((⟨#[c]⟩ : Str) == Str.ofString "\t") = false) (hgo : wsGo (ws.cps.toList.drop i) cnt b n nt = wsP ws) :
    (cnt, b, n, nt) = wsP ws := by
  have e : ¬ c = 9 := fun e => by rw [(one_eq tab_is).mpr e] at h; cases h
  have e0 : ¬ c = 32 := fun e => by rw [(one_eq sp_is).mpr e] at h0; cases h0
  rw [ws_drop hc, wsGo, if_neg e0, if_neg e] at hgo
  exact hgo
theorem bump_new {cnt : List Int} {b : Nat} (h : (cnt.length : Int) ≤ (b : Int)) :
    (cnt ++ (List.replicate ((b : Int) - (cnt.length : Int) + 1).toNat [(0 : Int)]).flatten).set ((b : Nat) : Int).toNat ((cnt ++ (List.replicate ((b : Int) - (cnt.length : Int) + 1).toNat [(0 : Int)]).flatten).getD ((b : Nat) : Int).toNat 0 + 1) = bumpP cnt b := by
  have e : ((b : Int) - (cnt.length : Int) + 1).toNat = b - cnt.length + 1 := by omega
  rw [krep_flat, e]
  unfold bumpP
  rw [if_pos (by omega)]
  rfl
theorem bump_old {cnt : List Int} {b : Nat} (h : ¬ (cnt.length : Int) ≤ (b : Int)) :
    cnt.set ((b : Nat) : Int).toNat (cnt.getD ((b : Nat) : Int).toNat 0 + 1) = bumpP cnt b := by
  unfold bumpP
  rw [if_neg (by omega)]
  rfl
theorem bump_len {cnt : List Int} {b i : Nat} (hb : b ≤ i) (hc : cnt.length ≤ i) : (bumpP cnt b).length ≤ i + 1 := by
  unfold bumpP
  rw [List.length_set]
  split
  · rw [List.length_append, List.length_replicate]; omega
  · omega
theorem ints_eq {us : List Value} {l l' : List Int} (e : l = l') (h : IntsAre us l) : IntsAre us l' := e ▸ h
theorem fit_us {us : List Value} {cnt : List Int} (h : IntsAre us cnt) (hl : cnt.length ≤ 1000) : us.toArray.size ≤ 16384 := by
  rw [List.size_toArray, h.length]; omega
theorem kw_ws0 : True := by
  k_with_none
  k_with "call type:tuple" => (k_here; (with_reducible show wpAny _ _ (call (Value.type _) [Value.ref _]) _ _ _); k_dflt (refine kde_tupleOf (by k_asm) (by k_asm) (News.isList (by k_asm) (by k_mem)) (fit_us (by assumption) (by omega)) (by rfl) ?_); intro DqW9 hqW9 FqW9 NqW9 l1W9; (try k_lt l1W9); (try k_sweep))
  exact trivial
abbrev tupOf (vs : List Value) : Obj := { cls := .type "tuple", data := .seq vs.toArray }
abbrev wsD (w : World) (ws : Str) (t1 : Tok) (n nt : Nat) (T : Addr) (sb : Bool) (k1 k2 k3 k4 k5 tn tt : Tok) : Obj :=
  dictOf [⟨PyData.keyHash w.params (Str.ofString "raw"), .str (Str.ofString "raw") k1, .str ws t1⟩, ⟨PyData.keyHash w.params (Str.ofString "n"), .str (Str.ofString "n") k2, .int (n : Int) tn⟩,
    ⟨PyData.keyHash w.params (Str.ofString "nt"), .str (Str.ofString "nt") k3, .int (nt : Int) tt⟩, ⟨PyData.keyHash w.params (Str.ofString "norm"), .str (Str.ofString "norm") k4, .ref T⟩,
    ⟨PyData.keyHash w.params (Str.ofString "is_simple"), .str (Str.ofString "is_simple") k5, .bool sb⟩] 5
abbrev RW (w : World) (ws : Str) (t1 : Tok) (v : List Int × Nat × Nat × Nat) (news : List (Addr × Obj)) (h₀ : Heap) (L : Addr) (m : Str → Option Value) (s : Shared) (Q : Value → Shared → Prop) : Prop :=
  ∀ (x dx T U : Addr) (us : List Value) (k1 k2 k3 k4 k5 tn tt tb : Tok) (h' : Heap) (tk' : Nat), Fr h₀ L h' m →
    News h₀ L h' ((T, tupOf [.ref U, .int (v.2.1 : Int) tb]) :: (U, tupOf us) :: (x, instObj 90 dx) :: (dx, wsD w ws t1 v.2.2.1 v.2.2.2 T (decide ((v.1.length : Int) ≤ 1)) k1 k2 k3 k4 k5 tn tt) :: news) →
    IntsAre us v.1 → (@LT.lt Nat _ dx x ∧ @LT.lt Nat _ x U ∧ @LT.lt Nat _ U T) → (∀ p ∈ news, p.1 < dx) → Q (.ref x) { s with heap := h', toks := tk' }
theorem drop_snd {h₀ h : Heap} {L : Addr} {a b : Addr × Obj} {r : List (Addr × Obj)} (N : News h₀ L h (a :: b :: r)) : News h₀ L h (a :: r) := fun p hp => N p ((List.mem_cons.mp hp).elim (fun e => e ▸ .head _) fun h => .tail _ (.tail _ h))
set_option maxRecDepth 100000 in
set_option maxHeartbeats 4000000 in
theorem c_ws (w : World) (ws : Str) (t1 : Tok) (news : List (Addr × Obj)) (hs : ws.length ≤ 100) :
   Cl w 30 90 news [.str ws t1] (RW w ws t1 (wsP ws) news) := by
  dsimp only [Cl, RW]
  k_fill
  intro mean mg mb loose dp un gd cn cs a ccd cl outer A₀ base h₀ L m s Q E B F X N T hk hdp hun hret
  k_here
  k_dflt (refine' call_cls ?k1 ?k2 ?k3 ?k4 ?k5 ?k6 ?_; (case k1 => k_asm); (case k2 => k_asm); (case k3 => k_asm); (case k4 => k_is); (case k5 => k_is); (case k6 => k_is); k_whole)
  intro x dx h1 F1 N1 l1 l2
  k_lt2 l2
  k_dflt cell_enter
  repeat' ((fail_if_success (with_reducible show wpAny _ _ (pyIter _) _ _ _)); (first | (k_unfold; (try dsimp only)) | (k_end; wrow_close) | walk1 | (dsimp only; walk1) | (leave1; walk_say "STEP leave1"; try dsimp only) | fail "no step"))
  rename Fr _ _ _ _ => F2
  rename News _ _ _ _ => N2
  rename _ ∧ _ => l4
  have N3 := drop_snd N2
  clear N2
  with_unfolding_all refine text_unr (WsJ w ws t1 x dx news) (by rfl) F2 N3 ?_ ?_ ?_
  · refine ⟨_, [], 0, _, [], 0, 0, 0, _, _, _, _, _, rfl, .nil, ⟨l4.2.1, l4.2.2.1, l4.2.2.2⟩, by with_unfolding_all rfl, by with_unfolding_all rfl, by with_unfolding_all rfl, by with_unfolding_all rfl, by with_unfolding_all rfl, by with_unfolding_all rfl, by with_unfolding_all rfl, rfl, by decide, by decide, by decide, by decide⟩
  · rintro I it i c t m₁ news₁ h tk hc ⟨D, us, k, kt, cnt, b, n, nt, tb, tn, tt, tS, tT, rfl, hI, ⟨hl1, hl2, hl3⟩, e1, e2, e3, e4, e5, e6, e7, hgo, hb, hn, hnt, hcl⟩ hoff F3 N3
    have F4 := fr_known F3 (x := Str.ofString "count") (by with_unfolding_all exact e1)
    have F5 := fr_known F4 (x := Str.ofString "b") (by with_unfolding_all exact e2)
    have F6 := fr_known F5 (x := Str.ofString "n") (by with_unfolding_all exact e3)
    have F7 := fr_known F6 (x := Str.ofString "nt") (by with_unfolding_all exact e4)
    have F8 := fr_known F7 (x := Str.ofString "S") (by with_unfolding_all exact e5)
    have F9 := fr_known F8 (x := Str.ofString "T") (by with_unfolding_all exact e6)
    have Fa := fr_known F9 (x := Str.ofString "self") (by with_unfolding_all exact e7)
    clear F3 F4 F5 F6 F7 F8 F9 F2
    have hil : i < ws.length := by
      have := (List.getElem?_eq_some_iff.mp hc).1
      exact Nat.lt_of_lt_of_eq this (by simp [Str.length])
    have o1 : @Ne Nat D I := hoff _ (.head _)
    have o2 : @Ne Nat x I := hoff _ (.tail _ (.head _))
    have o3 : @Ne Nat dx I := hoff _ (.tail _ (.tail _ (.head _)))
    have o4 : ∀ p ∈ news, p.1 ≠ I := fun p hp => hoff p (.tail _ (.tail _ (.tail _ hp)))
    dsimp only
    k_steps
    · refine UnrEnd.intro (by assumption) (by assumption) _ (fun p hp => hp) hoff ⟨D, us, k, kt, cnt, b + 1, n + 1, nt, _, _, _, _, _, rfl, hI, ⟨hl1, hl2, hl3⟩, by with_unfolding_all rfl, by with_unfolding_all rfl, by with_unfolding_all rfl, by with_unfolding_all rfl, by with_unfolding_all rfl, by with_unfolding_all rfl, by with_unfolding_all rfl, ws_sp hc (by assumption) hgo, by omega, by omega, by omega, by omega⟩
    · have hbn := bump_new (cnt := cnt) (b := b) (by assumption)
      have hbl := bump_len hb hcl
      refine UnrEnd.intro (by assumption) (by assumption) ((_, listOf (List.toArray _) _) :: (x, instObj 90 dx) :: (dx, rawD w ws kt t1) :: news) (by kcj_all) (List.forall_mem_cons.mpr ⟨by k_ne, List.forall_mem_cons.mpr ⟨by k_ne, List.forall_mem_cons.mpr ⟨by k_ne, o4⟩⟩⟩)
        ⟨_, _, _, kt, bumpP cnt b, 0, n + 1, nt + 1, _, _, _, _, _, rfl, ints_eq hbn (by assumption), ⟨by omega, by omega, And.right (And.right (And.right (And.right (And.right (And.right (by assumption))))))⟩, by with_unfolding_all rfl, by with_unfolding_all rfl, by with_unfolding_all rfl, by with_unfolding_all rfl, by with_unfolding_all rfl, by with_unfolding_all rfl, by with_unfolding_all rfl, ws_tab hc (by assumption) (by assumption) hgo, by omega, by omega, by omega, hbl⟩
    · have hbn := bump_old (cnt := cnt) (b := b) (by assumption)
      have hbl := bump_len hb hcl
      refine UnrEnd.intro (by assumption) (by assumption) _ (fun p hp => hp) (List.forall_mem_cons.mpr ⟨by k_ne, List.forall_mem_cons.mpr ⟨by k_ne, List.forall_mem_cons.mpr ⟨by k_ne, o4⟩⟩⟩)
        ⟨D, _, _, kt, bumpP cnt b, 0, n + 1, nt + 1, _, _, _, _, _, rfl, ints_eq hbn (by assumption), ⟨hl1, hl2, hl3⟩, by with_unfolding_all rfl, by with_unfolding_all rfl, by with_unfolding_all rfl, by with_unfolding_all rfl, by with_unfolding_all rfl, by with_unfolding_all rfl, by with_unfolding_all rfl, ws_tab hc (by assumption) (by assumption) hgo, by omega, by omega, by omega, hbl⟩
    · have hP := (ws_brk hc (by assumption) (by assumption) hgo).symm
      rw [hP] at hret
      dsimp only at hret
      refine hret x dx _ _ us _ _ _ _ _ _ _ _ _ _ (by assumption) (cb_drop (by assumption) (by kcj_all)) hI ⟨l2, by omega, by omega⟩ l1
  · rintro m₁ news₁ h tk ⟨D, us, k, kt, cnt, b, n, nt, tb, tn, tt, tS, tT, rfl, hI, ⟨hl1, hl2, hl3⟩, e1, e2, e3, e4, e5, e6, e7, hgo, hb, hn, hnt, hcl⟩ F3 N3
    have F4 := fr_known F3 (x := Str.ofString "count") (by with_unfolding_all exact e1)
    have F5 := fr_known F4 (x := Str.ofString "b") (by with_unfolding_all exact e2)
    have F6 := fr_known F5 (x := Str.ofString "n") (by with_unfolding_all exact e3)
    have F7 := fr_known F6 (x := Str.ofString "nt") (by with_unfolding_all exact e4)
    have Fa := fr_known F7 (x := Str.ofString "self") (by with_unfolding_all exact e7)
    clear F3 F4 F5 F6 F7 F2
    have hP : wsP ws = (cnt, b, n, nt) := by
      rw [List.drop_of_length_le (by simp [Str.length]), wsGo] at hgo
      exact hgo.symm
    dsimp only
    k_steps
    rw [hP] at hret
    dsimp only at hret
    refine hret x dx _ _ us _ _ _ _ _ _ _ _ _ _ (by assumption) (cb_drop (by assumption) (by kcj_all)) hI ⟨l2, by omega, by omega⟩ l1
end Mine
end
section
open PySem PySem.W PyProof.Rows PySem.Calls PySem.Builtin PySem.Builtin.Str
namespace Mine
/-- what _ellipsis_match says of a text that is cut in four at the marker: nothing, x, y, nothing -/
def emP (got x y : Str) : Bool :=
  let n : Int := got.length
  let i0 := find4 got ⟨#[]⟩ 0 n
  if i0 < 0 then false else
  let p0 := i0 + ((⟨#[]⟩ : Str).length : Int)
  let i1 := find4 got x p0 n
  if i1 < 0 then false else
  let p1 := i1 + (x.length : Int)
  let i2 := find4 got y p1 n
  if i2 < 0 then false else
  let p2 := i2 + (y.length : Int)
  let i3 := find4 got ⟨#[]⟩ p2 n
  if i3 < 0 then false else true
section
variable {prog : Program} {w : World} {A : Around} {E : Value → Shared → Prop} {s : Shared} {h₀ : Heap} {L : Addr} {m : PySem.Str → Option Value} {news : List (Addr × Obj)} {x y : PySem.Str} {t u : Tok} {Q : Value → Shared → Prop}
theorem split4 {p q r z : Str} (hs : Txt.split x y = [p, q, r, z]) (hF : Fr h₀ L s.heap m) (hN : News h₀ L s.heap news) (hy : (y.length == 0) = false) (hsz : x.length + 2 ≤ sizeLine)
    (h : ∀ D t1 t2 t3 t4 h' k, Fr h₀ L h' m → News h₀ L h' ((D, listOf [.str p t1, .str q t2, .str r t3, .str z t4].toArray 0) :: news) → (∀ p ∈ news, p.1 < D) → Q (.ref D) { s with heap := h', toks := k }) :
    wpAny (model prog w) A (call (.builtin "str.split") [.str x t, .str y u]) Q E s := by
  refine KSpl.split1 hF hN hy ?_ hsz
  intro D l h' k e' a' F' N' l1
  rw [hs] at e'
  obtain ⟨t1, l1', rfl, e2⟩ := KSpl.cons_of e'
  obtain ⟨t2, l2', rfl, e3⟩ := KSpl.cons_of e2
  obtain ⟨t3, l3', rfl, e4⟩ := KSpl.cons_of e3
  obtain ⟨t4, l4', rfl, e5⟩ := KSpl.cons_of e4
  obtain rfl := KSpl.nil_of e5
  exact h D t1 t2 t3 t4 h' k F' N' l1
end
theorem size100 {n : Nat} (h : n ≤ 100) : n + 2 ≤ sizeLine := Nat.le_trans (by omega) (show 102 ≤ sizeLine by decide)
theorem kw_em0 : True := by
  k_with_none
  k_with "call builtin:str.split" => (k_here; (with_reducible show wpAny _ _ (call (Value.builtin "str.split") _) _ _ _); (refine split4 (by assumption) (by k_asm) (by k_asm) (by decide) (size100 (by assumption)) ?_); (intro DW9 t1W9 t2W9 t3W9 t4W9 hqW9 kW9 FqW9 NqW9 l1W9); (try k_lt l1W9))
  k_with "call builtin:len" => (k_here; (with_reducible show wpAny _ _ (call (Value.builtin "len") [Value.str _ _]) _ _ _); (refine P.len_str (by first | omega | decide) ?_))
  k_with "call builtin:str.find" => (k_here; (refine call_find4 ?_))
  k_with "UnrEnd" => (refine UnrEnd.intro (by assumption) (by assumption) _ (fun p hp => hp) (by assumption) ⟨by k_mem, ?_⟩)
  exact trivial
set_option maxRecDepth 100000 in
set_option maxHeartbeats 4000000 in
theorem c_em (w : World) (want got x y : Str) (t1 t2 : Tok) (news : List (Addr × Obj)) (hw : want.length ≤ 100) (hg : got.length ≤ 100) (hx : x.length ≤ 100) (hy : y.length ≤ 100)
   (hs : Txt.split want (Str.ofString "...") = [⟨#[]⟩, x, y, ⟨#[]⟩]) (hc : (occurrences want (Str.ofString "...") 0 want.length 1).isEmpty = false) :
   Cl w 10 28 news [.str want t1, .str got t2] (RV news fun _ => .bool (emP got x y)) := by
  dsimp only [Cl, RV]
  k_fill
  intro mean mg mb loose dp un gd cn cs a ccd cl outer A₀ base h₀ L m s Q E B F X N T hk hdp hun hret
  refine wpAny_call ?_
  k_dflt cell_enter
  k_steps
  rename Fr _ _ _ _ => F'
  rename News _ _ _ _ => N'
  with_unfolding_all refine' For_invVF F' (by rfl) (by rfl) ?_
  walk1
  with_unfolding_all refine iter_listUnr (vs := [_, _, _, _]) (by rfl) F' N' (List.Mem.tail _ (List.Mem.head _)) (by rfl) (by rfl) ?_
  clear F' N'
  intro I' l1
  have l2 := offOf l1
  k_steps
  all_goals (refine cb_retB hret ?e ?F ?N; (case F => assumption); (case N => exact cb_drop (by assumption) (by kcj_all)); (case e => (simp only [emP]; (repeat' split) <;> first | rfl | (exfalso; omega) | (simp_all; done))))
end Mine
end
section
open PySem PySem.W PyProof.Rows PySem.Calls PySem.Builtin PySem.Builtin.Str PySem.StrLaws
namespace Mine
theorem dots_eq : (Str.ofString "...") = ⟨#[46, 46, 46]⟩ := by decide
theorem want2_eq (c d : Nat) : Str.ofString "..." ++ ⟨#[c]⟩ ++ Str.ofString "..." ++ ⟨#[d]⟩ ++ Str.ofString "..." = ⟨#[46, 46, 46, c, 46, 46, 46, d, 46, 46, 46]⟩ := by
  rw [dots_eq]; rfl
theorem want3_eq (c d e : Nat) : Str.ofString "..." ++ ⟨#[c]⟩ ++ ⟨#[d]⟩ ++ Str.ofString "..." ++ ⟨#[e]⟩ ++ Str.ofString "..." = ⟨#[46, 46, 46, c, d, 46, 46, 46, e, 46, 46, 46]⟩ := by
  rw [dots_eq]; rfl
theorem kind_ge (x : Str) : ¬ Builtin.Str.strKind x < Builtin.Str.strKind ⟨#[46, 46, 46]⟩ := by
  have h : Builtin.Str.strKind ⟨#[46, 46, 46]⟩ = 1 := by decide +kernel
  rw [h]; unfold Builtin.Str.strKind; split <;> (try split) <;> omega
theorem occ2 (c d : Nat) (hc : c ≠ 46) (hd : d ≠ 46) (n : Nat) : occurrences ⟨#[46, 46, 46, c, 46, 46, 46, d, 46, 46, 46]⟩ ⟨#[46, 46, 46]⟩ 0 11 12 = [0, 4, 8] := by
  rw [occ_eq]
  simp [occBody, List.range', subAt, Str.length, hc, hd]
theorem occ21 (c d : Nat) : occurrences ⟨#[46, 46, 46, c, 46, 46, 46, d, 46, 46, 46]⟩ ⟨#[46, 46, 46]⟩ 0 11 1 = [0] := by
  rw [occ_eq]
  simp [occBody, List.range', subAt, Str.length]
theorem occ3 (c d e : Nat) (hc : c ≠ 46) (hd : d ≠ 46) (he : e ≠ 46) : occurrences ⟨#[46, 46, 46, c, d, 46, 46, 46, e, 46, 46, 46]⟩ ⟨#[46, 46, 46]⟩ 0 12 13 = [0, 5, 9] := by
  rw [occ_eq]
  simp [occBody, List.range', subAt, Str.length, hc, hd, he]
theorem occ31 (c d e : Nat) : occurrences ⟨#[46, 46, 46, c, d, 46, 46, 46, e, 46, 46, 46]⟩ ⟨#[46, 46, 46]⟩ 0 12 1 = [0] := by
  rw [occ_eq]
  simp [occBody, List.range', subAt, Str.length]
theorem split2 (c d : Nat) (hc : c ≠ 46) (hd : d ≠ 46) : Txt.split (Str.ofString "..." ++ ⟨#[c]⟩ ++ Str.ofString "..." ++ ⟨#[d]⟩ ++ Str.ofString "...") (Str.ofString "...") = [⟨#[]⟩, ⟨#[c]⟩, ⟨#[d]⟩, ⟨#[]⟩] := by
  rw [want2_eq, dots_eq]
  unfold Txt.split
  rw [if_neg (by simp [kind_ge, Str.length])]
  show (if (occurrences _ _ 0 11 12).isEmpty = true then _ else partsBetween _ (occurrences _ _ 0 11 12) 3) = _
  rw [occ2 c d hc hd 0]
  rfl
theorem split3 (c d e : Nat) (hc : c ≠ 46) (hd : d ≠ 46) (he : e ≠ 46) : Txt.split (Str.ofString "..." ++ ⟨#[c]⟩ ++ ⟨#[d]⟩ ++ Str.ofString "..." ++ ⟨#[e]⟩ ++ Str.ofString "...") (Str.ofString "...") = [⟨#[]⟩, ⟨#[c, d]⟩, ⟨#[e]⟩, ⟨#[]⟩] := by
  rw [want3_eq, dots_eq]
  unfold Txt.split
  rw [if_neg (by simp [kind_ge, Str.length])]
  show (if (occurrences _ _ 0 12 13).isEmpty = true then _ else partsBetween _ (occurrences _ _ 0 12 13) 3) = _
  rw [occ3 c d e hc hd he]
  rfl
theorem c_em2 (w : World) (got : Str) (c d : Nat) (t1 t2 : Tok) (news : List (Addr × Obj)) (hg : got.length ≤ 100) (hc : c ≠ 46) (hd : d ≠ 46) :
    Cl w 10 28 news [.str (Str.ofString "..." ++ ⟨#[c]⟩ ++ Str.ofString "..." ++ ⟨#[d]⟩ ++ Str.ofString "...") t1, .str got t2] (RV news fun _ => .bool (emP got ⟨#[c]⟩ ⟨#[d]⟩)) := by
  refine c_em w _ got _ _ t1 t2 news ?_ hg (by simp [Str.length]) (by simp [Str.length]) (split2 c d hc hd) ?_
  · rw [want2_eq]; simp [Str.length]
  · rw [want2_eq, dots_eq]
    show (occurrences _ _ 0 11 1).isEmpty = false
    rw [occ21]; rfl
theorem c_em3 (w : World) (got : Str) (c d e : Nat) (t1 t2 : Tok) (news : List (Addr × Obj)) (hg : got.length ≤ 100) (hc : c ≠ 46) (hd : d ≠ 46) (he : e ≠ 46) :
    Cl w 10 28 news [.str (Str.ofString "..." ++ ⟨#[c]⟩ ++ ⟨#[d]⟩ ++ Str.ofString "..." ++ ⟨#[e]⟩ ++ Str.ofString "...") t1, .str got t2] (RV news fun _ => .bool (emP got ⟨#[c, d]⟩ ⟨#[e]⟩)) := by
  refine c_em w _ got _ _ t1 t2 news ?_ hg (by simp [Str.length]) (by simp [Str.length]) (split3 c d e hc hd he) ?_
  · rw [want3_eq]; simp [Str.length]
  · rw [want3_eq, dots_eq]
    show (occurrences _ _ 0 12 1).isEmpty = false
    rw [occ31]; rfl
end Mine
end
section
open PySem PySem.W PyProof.Rows PySem.Calls PySem.Builtin PySem.Builtin.Str
namespace Mine
def ordStep (st : List Str × Str × Int) (size : Int) : List Str × Str × Int :=
  (st.1.eraseIdx (st.2.2.fmod size).toNat, st.2.1 ++ st.1.getD (st.2.2.fmod size).toNat Str.empty, st.2.2.fdiv size)
def orderP (signs : Str) (number : Int) : Str := ((downKs (signs.length : Int) ((signs.length : Int) - 0).toNat).foldl ordStep (singles signs, Str.empty, number)).2.1
def OrdW (signs : Str) (number₀ : Int) (pre : List Int) (left : List Str) (order : Str) (number : Int) : Prop :=
  (left, order, number) = pre.foldl ordStep (singles signs, Str.empty, number₀) ∧ left.length + pre.length = signs.length ∧ order.length = pre.length ∧ ∀ x ∈ left, x.length = 1
theorem ordW_zero (signs : Str) (number₀ : Int) : OrdW signs number₀ [] (singles signs) Str.empty number₀ := by
  refine ⟨rfl, by simp [singles_len], rfl, fun x hx => ?_⟩
  simp only [singles, List.mem_map] at hx
  obtain ⟨c, _, rfl⟩ := hx
  rfl
theorem ord_pop {signs : Str} {number₀ : Int} {pre : List Int} {left : List Str} {order : Str} {number kN : Int} (h : OrdW signs number₀ pre left order number) (e : kN = (signs.length : Int) - (pre.length : Int)) (hl : pre.length < ((signs.length : Int) - 0).toNat) :
    0 ≤ number.fmod kN ∧ number.fmod kN < left.length := by
  obtain ⟨_, h2, _⟩ := h
  have hk : kN = left.length := by omega
  have h3 : 0 < kN := by omega
  refine ⟨Int.fmod_nonneg_of_pos _ h3, ?_⟩
  rw [← hk]
  exact Int.fmod_lt_of_pos _ h3
theorem ordW_turn {signs : Str} {number₀ : Int} {pre : List Int} {left : List Str} {order : Str} {number kN : Int} (h : OrdW signs number₀ pre left order number) (e : kN = (signs.length : Int) - (pre.length : Int)) (hl : pre.length < ((signs.length : Int) - 0).toNat) :
    OrdW signs number₀ (pre ++ [kN]) (left.eraseIdx (number.fmod kN).toNat) (order ++ left.getD (number.fmod kN).toNat Str.empty) (number.fdiv kN) := by
  have hp := ord_pop h e hl
  obtain ⟨h1, h2, h3, h4⟩ := h
  have hk : (number.fmod kN).toNat < left.length := by omega
  refine ⟨by rw [List.foldl_append, ← h1]; rfl, ?_, ?_, fun x hx => h4 x (List.mem_of_mem_eraseIdx hx)⟩
  · rw [List.length_eraseIdx_of_lt hk, List.length_append, List.length_singleton]; omega
  · have : (left.getD (number.fmod kN).toNat Str.empty).length = 1 := h4 _ (by simp [List.getD, hk])
    rw [Str.length_append, this, List.length_append, h3]; rfl
theorem ord_size {signs : Str} {number₀ : Int} {pre : List Int} {left : List Str} {order : Str} {number : Int} (h : OrdW signs number₀ pre left order number) (hs : signs.length ≤ 10) : left.length ≤ 1000 := by
  obtain ⟨_, h2, _⟩ := h
  omega
theorem ordW_end {signs : Str} {number₀ : Int} {left : List Str} {order : Str} {number : Int} (h : OrdW signs number₀ (downKs (signs.length : Int) ((signs.length : Int) - 0).toNat) left order number) : order = orderP signs number₀ := by
  unfold orderP
  rw [← h.1]
theorem ord_fit {signs : Str} {number₀ : Int} {pre : List Int} {left : List Str} {order : Str} {number kN : Int} (h : OrdW signs number₀ pre left order number) (e : kN = (signs.length : Int) - (pre.length : Int)) (hl : pre.length < ((signs.length : Int) - 0).toNat) (hs : signs.length ≤ 10) :
    order.length + (left.getD (number.fmod kN).toNat Str.empty).length ≤ sizeLine := by
  have hp := ord_pop h e hl
  obtain ⟨_, h2, h3, h4⟩ := h
  have : (left.getD (number.fmod kN).toNat Str.empty).length = 1 := h4 _ (by simp [List.getD, show (number.fmod kN).toNat < left.length by omega])
  rw [this, h3]
  exact Nat.le_trans (by omega) (show 20 ≤ sizeLine by decide)
theorem kw_order0 : True := by
  k_with_none
  k_with "inplaceOp Add str str" => (k_here; k_dflt (refine iadd_str ?_ (ord_fit (by assumption) (by assumption) (by assumption) (by assumption))); intro _ _)
  exact trivial
local macro_rules | `(tactic| k_all) => `(tactic| first | exact offOf (by assumption) | exact offAll (by assumption) | exact offAll (And.right (by assumption)))
theorem kw_order1 : True := by
  k_with "call builtin:list.pop" => (k_here; k_dflt (refine pop_strs (by k_asm) (by k_asm) (by assumption) ((ord_pop (by assumption) (by assumption) (by assumption)).1) ((ord_pop (by assumption) (by assumption) (by assumption)).2) (ord_size (by assumption) (by assumption)) (by k_upd) ?_); intro hqW9 tqW9 FqW9 NqW9 SqW9 hMqW9)
  k_with "call type:list" => (k_here; (with_reducible show wpAny _ _ (call (Value.type "list") [Value.str _ _]) _ _ _); k_dflt (refine list_strK (by rfl) (by k_asm) (by k_asm) (Nat.le_trans (by assumption) (show 10 ≤ sizeLine by decide)) ?_); (intro DW9 cqW9 usW9 hqW9 tkW9 FqW9 NqW9 hSW9 l1W9); (try k_lt l1W9))
  exact trivial
set_option maxRecDepth 100000 in
set_option maxHeartbeats 4000000 in
theorem c_order (w : World) (signs : Str) (number₀ : Int) (t1 t2 : Tok) (news : List (Addr × Obj)) (hs : signs.length ≤ 10) (h0 : 0 ≤ number₀) :
   Cl w 10 111 news [.str signs t1, .int number₀ t2] (RV news fun t => .str (orderP signs number₀) t) := by
  dsimp only [Cl, RV]
  k_fill
  intro mean mg mb loose dp un gd cn cs a ccd cl outer A₀ base h₀ L m s Q E B F X N T hk hdp hun hret
  refine wpAny_call ?_
  k_dflt cell_enter
  k_with "state" => first | exact ordW_zero _ _ | exact ordW_turn (by assumption) (by assumption) (by assumption)
  k_with "pyIter ref" => k_state (fun pre left order number => OrdW signs number₀ pre left order number) "left$" "order" "number"
  k_steps
  refine cb_retS hret ?e ?F ?N
  case F => assumption
  case N => exact cb_drop (by assumption) (by kcj_all)
  case e => exact ordW_end (by assumption)
end Mine
end
section
open PySem PySem.W PyProof.Rows PySem.Calls PySem.Builtin PySem.Builtin.Str
namespace Mine
/-- the pairs that stand turned: high ahead of one of lows -/
def turnedRow (order : Str) (c : Nat) (lows : List Nat) : List Str := (lows.filter fun d => emP order ⟨#[c]⟩ ⟨#[d]⟩).map fun d => ⟨#[c, d]⟩
def turnedUpTo (signs order : Str) (k : Nat) : List Str := (List.range k).flatMap fun i => turnedRow order (signs.cps.toList.getD i 0) (signs.cps.toList.take i)
def turnedP (signs order : Str) : List Str := turnedUpTo signs order signs.length
theorem trow_zero {signs order : Str} {c : Nat} {ss : List Str} {pre : List Int} {i : Nat} (h : ss = turnedUpTo signs order pre.length) (hi : pre.length = i) : ss = turnedUpTo signs order i ++ turnedRow order c (([] : List Int).map Int.toNat) := by
  subst hi; rw [h]; simp [turnedRow]
theorem trow_hit {A : List Str} {order : Str} {c n : Nat} {ss : List Str} {pre : List Int} (h : ss = A ++ turnedRow order c (pre.map Int.toNat)) (e : emP order ⟨#[c]⟩ ⟨#[n]⟩ = true) : ss ++ [⟨#[c]⟩ ++ ⟨#[n]⟩] = A ++ turnedRow order c ((pre ++ [(n : Int)]).map Int.toNat) := by
  rw [h, List.append_assoc]
  congr 1
  simp [turnedRow, List.filter_append, e]
  rfl
theorem trow_miss {A : List Str} {order : Str} {c n : Nat} {ss : List Str} {pre : List Int} (h : ss = A ++ turnedRow order c (pre.map Int.toNat)) (e : emP order ⟨#[c]⟩ ⟨#[n]⟩ = false) : ss = A ++ turnedRow order c ((pre ++ [(n : Int)]).map Int.toNat) := by
  rw [h]
  congr 1
  simp [turnedRow, List.filter_append, e]
theorem tup_next {signs order : Str} {c : Nat} {ss : List Str} {pre : List Int} {i : Nat} (h : ss = turnedUpTo signs order i ++ turnedRow order c ((KStt.codes ⟨(signs.cps.toList.take i).toArray⟩).map Int.toNat)) (hi : pre.length = i) (hc : signs.cps.toList[i]? = some c) : ss = turnedUpTo signs order (pre ++ [(i : Int)]).length := by
  rw [h, codes_mk, map_toNat_codes]
  have e : (pre ++ [(i : Int)]).length = i + 1 := by simp [hi]
  have e2 : signs.cps.toList.getD i 0 = c := by rw [List.getD_eq_getElem?_getD, hc]; rfl
  rw [e]
  unfold turnedUpTo
  rw [List.range_succ, List.flatMap_append, List.flatMap_singleton, e2]
theorem row_len (order : Str) (c : Nat) (l : List Nat) : (turnedRow order c l).length ≤ l.length := by
  unfold turnedRow; rw [List.length_map]; exact List.length_filter_le _ _
theorem upTo_len (signs order : Str) : ∀ k, (turnedUpTo signs order k).length ≤ k * signs.length
  | 0 => by simp [turnedUpTo]
  | k + 1 => by
    have ih := upTo_len signs order k
    have e : turnedUpTo signs order (k + 1) = turnedUpTo signs order k ++ turnedRow order (signs.cps.toList.getD k 0) (signs.cps.toList.take k) := by
      unfold turnedUpTo
      rw [List.range_succ, List.flatMap_append, List.flatMap_singleton]
    have h1 := row_len order (signs.cps.toList.getD k 0) (signs.cps.toList.take k)
    have h2 : (signs.cps.toList.take k).length ≤ signs.length := by rw [List.length_take]; exact Nat.min_le_right _ _
    rw [e, List.length_append, Nat.add_mul, Nat.one_mul]
    omega
theorem trow_size {signs order : Str} {c n : Nat} {ss : List Str} {pre post : List Int} {i : Nat} (h : ss = turnedUpTo signs order i ++ turnedRow order c (pre.map Int.toNat)) (hs : signs.length ≤ 10) (hi : i ≤ signs.length) (e : (signs.cps.toList.take i).map (fun (c : Nat) => (c : Int)) = pre ++ (n : Int) :: post) : ss.length ≤ 1000 := by
  have h1 := upTo_len signs order i
  have h2 := row_len order c (pre.map Int.toNat)
  have h3 := congrArg List.length e
  simp only [List.length_map, List.length_take, List.length_append, List.length_cons] at h3 h2
  have h4 : i * signs.length ≤ 10 * 10 := Nat.mul_le_mul (Nat.le_trans hi hs) hs
  rw [h, List.length_append]
  omega
theorem kw_turned0 : True := by
  k_with_none
  k_with "call builtin:list.append" => (k_here; k_dflt (refine append_strs (by k_asm) (by k_asm) (by k_upd) (by assumption) (trow_size (by assumption) (by assumption) (by assumption) (by assumption)) ?_); intro hqW9 FqW9 NqW9 SqW9)
  k_with "call ref" => (k_here; (with_reducible show wpAny _ _ (call (Value.ref 28) _) _ _ _); k_dflt (refine cl_go (by k_asm) (by k_asm) (by k_asm) (by k_asm) (by k_asm) (by first | exact rfl | assumption) (by ktr_room) (by ktr_units) (c_em2 _ _ _ _ _ _ _ (by omega) (by assumption) (by assumption)) ?_); intro _ _ _ _ _; (try dsimp only))
  k_with "binaryOp Add str str" => (k_here; k_dflt (refine add_str ?_ (by simp only [Str.length_append]; exact Nat.le_of_ble_eq_true rfl)); intro _ _)
  k_with "exec For Name Subscript cons nil" => (k_here; (rename Fr _ _ _ _ => lF'); k_dflt (with_unfolding_all refine For_invVF lF' (by exact rfl) (by exact rfl) ?_; k_whole))
  exact trivial
set_option maxRecDepth 100000 in
set_option maxHeartbeats 4000000 in
theorem c_turned (w : World) (signs order : Str) (t1 t2 : Tok) (news : List (Addr × Obj)) (hs : signs.length ≤ 10) (ho : order.length ≤ 10) (hdot : ∀ c ∈ signs.cps.toList, c ≠ 46) :
   Cl w 20 125 news [.str signs t1, .str order t2] (fun h₀ L m s Q => ∀ (D : Addr) (us : List Value) (n : Nat) (h' : Heap) (tk' : Nat), Fr h₀ L h' m → News h₀ L h' ((D, listOf us.toArray n) :: news) → StrsAre us (turnedP signs order) → (∀ p ∈ news, p.1 < D) → Q (.ref D) { s with heap := h', toks := tk' }) := by
  dsimp only [Cl]
  k_fill
  intro mean mg mb loose dp un gd cn cs a ccd cl outer A₀ base h₀ L m s Q E B F X N T hk hdp hun hret
  refine wpAny_call ?_
  k_dflt cell_enter
  k_with "state" => first | exact trow_zero (by assumption) (by assumption) | exact trow_hit (by assumption) (by assumption) | exact trow_miss (by assumption) (by assumption) | exact tup_next (by assumption) (by assumption) (by assumption)
  k_steps
  rename_i D h1 l1 h2 _ _ h3 e F3 N3 S3
  refine kst_enum (σ := List Value × List Str × Nat) (fun c => (D, listOf c.1.toArray c.2.2) :: news) (fun c => []) (fun c => StrsAre c.1 c.2.1) [Str.ofString "place", Str.ofString "low"] (fun pre c => c.2.1 = turnedUpTo signs order pre.length) ([], [], 0) S3 .nil (fun _ h => nomatch h) rfl ?_ ?_
  · rintro ⟨us, ss, n⟩ pre i x v t u h tk own hi hx hv hoff hf hp F' N'
    obtain ⟨c, hc, rfl⟩ : ∃ c, signs.cps.toList[i]? = some c ∧ x = ⟨#[c]⟩ := by
      simp only [PyProof.Rows.signs, List.getElem?_map, Option.map_eq_some_iff] at hx
      obtain ⟨c, h1, h2⟩ := hx
      exact ⟨c, h1, h2.symm⟩
    obtain ⟨tv, rfl⟩ := ItemKind.str_is hv
    have hcm : c ≠ 46 := hdot c (List.mem_of_getElem? hc)
    dsimp only at hf hp F' N'
    dsimp only [kstB] at F'
    repeat' ((fail_if_success (with_reducible show wpAny _ _ (pyIter _) _ _ _)); (first | (k_unfold; (try dsimp only)) | walk1 | (dsimp only; walk1)))
    have hile : i ≤ signs.length := by
      have := (List.getElem?_eq_some_iff.mp hc).1
      simp at this; exact Nat.le_of_lt this
    rw [slice_to hile]
    k_state (fun pre turned => turned = turnedUpTo signs order i ++ turnedRow order c (pre.map Int.toNat)) "turned$"
    · have hcd := codes_mk (signs.cps.toList.take i)
      rw [hcd] at kEq
      have hnd : kN ≠ 46 := by
        have hm : (kN : Int) ∈ (signs.cps.toList.take i).map fun (c : Nat) => (c : Int) := by rw [kEq]; simp
        obtain ⟨c', h1, h2⟩ := List.mem_map.mp hm
        obtain rfl : c' = kN := by omega
        exact hdot _ (List.mem_of_mem_take h1)
      k_steps
    · k_steps
  · rintro ⟨us, ss, n⟩ pre u h tk hl hf hp F' N'
    dsimp only at hf hp F' N'
    dsimp only [kstB] at F'
    k_steps
    refine hret _ _ _ _ _ (by assumption) (by assumption) ?_ (by assumption)
    have e : pre.length = signs.length := by rw [hl]; simp [PyProof.Rows.signs, Str.length]
    rw [hp, e] at hf
    exact hf
end Mine
end
section
open PySem PySem.W PyProof.Rows PySem.Calls PySem.Builtin PySem.Builtin.Str
namespace Mine
def idxP (signs : Str) (c : Nat) : Nat := (occurrences signs ⟨#[c]⟩ 0 signs.length 1).headD 0
def freeP (signs order : Str) (hi lo : Nat) : Bool := ((signs.cps.toList.drop (idxP signs lo + 1)).take (idxP signs hi - (idxP signs lo + 1))).any fun s => emP order ⟨#[hi, lo]⟩ ⟨#[s]⟩
def leastStep (signs : Str) (st : Str × Nat) : Str × Nat :=
  if freeP signs st.1 (st.1.cps.toList.getD st.2 0) (st.1.cps.toList.getD (st.2 + 1) 0) then
    (⟨(st.1.cps.toList.take st.2 ++ [st.1.cps.toList.getD (st.2 + 1) 0, st.1.cps.toList.getD st.2 0] ++ st.1.cps.toList.drop (st.2 + 2)).toArray⟩, 0)
  else (st.1, st.2 + 1)
def leastRun (signs : Str) : Nat → Str × Nat → Option Str
  | 0, _ => none
  | f + 1, st => if st.2 + 1 < st.1.length then leastRun signs f (leastStep signs st) else some st.1
def leastCount (signs : Str) : Nat → Str × Nat → Nat
  | 0, _ => 0
  | f + 1, st => if st.2 + 1 < st.1.length then leastCount signs f (leastStep signs st) + 1 else 0
theorem leastRun_mono {signs r : Str} : ∀ {f : Nat} {st : Str × Nat}, leastRun signs f st = some r → leastRun signs (f + 1) st = some r
  | 0, _, h => nomatch h
  | f + 1, st, h => by
    unfold leastRun at h ⊢
    split
    · rename_i hc
      rw [if_pos hc] at h
      exact leastRun_mono h
    · rename_i hc
      rw [if_neg hc] at h
      exact h
theorem leastCount_mono {signs r : Str} : ∀ {f : Nat} {st : Str × Nat}, leastRun signs f st = some r → leastCount signs (f + 1) st = leastCount signs f st
  | 0, _, h => nomatch h
  | f + 1, st, h => by
    unfold leastRun at h
    rw [leastCount]
    conv => rhs; rw [leastCount]
    split
    · rename_i hc
      rw [if_pos hc] at h
      rw [leastCount_mono h]
    · rfl
def LeastW (signs r order : Str) (p : Int) : Prop :=
  ∃ k : Nat, p = (k : Int) ∧ leastRun signs 100 (order, k) = some r ∧ order.length ≤ 10 ∧ ∀ c ∈ order.cps.toList, c ∈ signs.cps.toList
theorem leastW_zero {signs r order : Str} (h : leastRun signs 100 (order, 0) = some r) (ho : order.length ≤ 10) (hc : ∀ c ∈ order.cps.toList, c ∈ signs.cps.toList) : LeastW signs r order 0 := ⟨0, rfl, h, ho, hc⟩
theorem least_step {signs r order : Str} {k : Nat} (h : leastRun signs 100 (order, k) = some r) (hk : k + 1 < order.length) :
    leastRun signs 100 (leastStep signs (order, k)) = some r ∧ leastCount signs 100 (leastStep signs (order, k)) < leastCount signs 100 (order, k) := by
  have e : leastRun signs 99 (leastStep signs (order, k)) = some r := by
    unfold leastRun at h
    rw [if_pos hk] at h
    exact h
  refine ⟨leastRun_mono e, ?_⟩
  rw [leastCount_mono e]
  conv => rhs; rw [leastCount]
  rw [if_pos hk]
  omega
section
variable {prog : Program} {w : World} {A : Around} {E : Value → Shared → Prop} {s : Shared} {value slice : Expr} {x : Str} {t u : Tok} {Q : Value → Shared → Prop}
/-- text[k] at a place whose sign is known -/
theorem item_code {i : Int} {k c : Nat} (hi : i = (k : Int)) (hc : x.cps.toList[k]? = some c) (hz : x.length ≤ 1000) (h : ∀ t' tk, Q (.str ⟨#[c]⟩ t') { s with toks := tk })
    (hs : subscripted slice false (.str x t) (.int i u) = operate [.str x t, .int i u] (getItem (.str x t) (.int i u)) := by with_unfolding_all rfl)
    (ht : ∀ r, letTemporaryGo value (.str x t) r = pure () := by intro _; with_unfolding_all rfl) :
    wpAny (model prog w) A (subscriptTail value slice (.str x t) (.int i u)) Q E s := by
  have hk : k < x.length := by
    have := (List.getElem?_eq_some_iff.mp hc).1
    exact Nat.lt_of_lt_of_eq this (by simp [Str.length])
  have e : Txt.item x i = ⟨#[c]⟩ := by
    subst hi
    have e1 : seqIndex? (k : Int) x.length = some k := by
      have h1 : ¬ (k : Int) < 0 := by omega
      have h2 : (k : Int) < (x.length : Int) := by omega
      simp only [seqIndex?, h1, if_false, h2]
      simp
    have e2 : x.cps[k]? = some c := by rw [← hc]; simp
    unfold Txt.item Txt.charAt
    rw [e1, Option.bind_some, e2]
    rfl
  refine item_str (fitsSsize_of (N := 9223372036854775808) (by omega) (by omega) (Int.le_refl _)) (by omega) (by omega) (fun _ => ?_) hs ht
  rw [e]
  exact h _ _
/-- text.index of a sign that is there -/
theorem index_code {c : Nat} (hc : c ∈ x.cps.toList) (h : ∀ t' tk, Q (.int (idxP x c : Nat) t') { s with toks := tk }) :
    wpAny (model prog w) A (call (.builtin "str.index") [.str x t, .str ⟨#[c]⟩ u]) Q E s := by
  have hf := StrLaws.found_one x c
  unfold idxP at h
  cases ho : occurrences x ⟨#[c]⟩ 0 x.length 1 with
  | nil =>
    rw [ho] at hf
    simp [hc] at hf
  | cons i rest =>
    rw [ho] at h
    exact SC.index ho (h _ _)
end

theorem idxP_lt {x : Str} {c : Nat} (hc : c ∈ x.cps.toList) : idxP x c < x.length := by
  have h0 : idxP x c = (Txt.find3 x ⟨#[c]⟩ 0).toNat := by
    unfold idxP Txt.find3
    have e : fromIndex x.length 0 = 0 := by simp [fromIndex]
    rw [e]
    cases occurrences x ⟨#[c]⟩ 0 x.length 1 <;> rfl
  rw [h0]
  rcases StrLaws.find3_spec x c 0 with ⟨_, h⟩ | ⟨k, h, _, hk, _⟩
  · exfalso
    obtain ⟨i, hi, e⟩ := List.getElem_of_mem hc
    have hi' : i < x.length := Nat.lt_of_lt_of_eq hi (by simp [Str.length])
    refine h i (by simp [fromIndex]) hi' ?_
    rw [← e]
    simp [Array.getD, show i < x.cps.size from hi']
  · rw [h]; simpa using hk
theorem len1 (c : Nat) : (⟨#[c]⟩ : Str).length = 1 := rfl
theorem len_dots : (Str.ofString "...").length = 3 := by decide
theorem sz_fit {n : Nat} (h : n ≤ 1000) : n ≤ sizeLine := Nat.le_trans h (by decide)
theorem any_zero {signs order : Str} {hi lo : Nat} : false = (([] : List Int).map Int.toNat).any (fun s => emP order ⟨#[hi, lo]⟩ ⟨#[s]⟩) := rfl
theorem any_hit {order : Str} {hi lo n : Nat} {pre : List Int} (e : emP order ⟨#[hi, lo]⟩ ⟨#[n]⟩ = true) : true = ((pre ++ [(n : Int)]).map Int.toNat).any (fun s => emP order ⟨#[hi, lo]⟩ ⟨#[s]⟩) := by
  rw [List.map_append, List.any_append]
  simp [e]
theorem any_miss {order : Str} {hi lo n : Nat} {pre : List Int} {b : Bool} (h : b = (pre.map Int.toNat).any (fun s => emP order ⟨#[hi, lo]⟩ ⟨#[s]⟩)) (e : emP order ⟨#[hi, lo]⟩ ⟨#[n]⟩ = false) : b = ((pre ++ [(n : Int)]).map Int.toNat).any (fun s => emP order ⟨#[hi, lo]⟩ ⟨#[s]⟩) := by
  rw [List.map_append, List.any_append, ← h]
  simp [e]

theorem free_eq {signs ord : Str} {hi lo : Nat} {b : Bool} (h : b = ((KStt.codes ⟨((signs.cps.toList.drop (idxP signs lo + 1)).take (idxP signs hi - (idxP signs lo + 1))).toArray⟩).map Int.toNat).any (fun s => emP ord ⟨#[hi, lo]⟩ ⟨#[s]⟩)) : freeP signs ord hi lo = b := by
  rw [h, codes_mk, map_toNat_codes]; rfl
theorem getD_of {l : List Nat} {k c : Nat} (h : l[k]? = some c) : l.getD k 0 = c := by rw [List.getD_eq_getElem?_getD, h]; rfl
theorem step_hit {signs ord : Str} {k hi lo : Nat} {b : Bool} (hc : k + 1 < ord.length) (hhi : ord.cps.toList[k]? = some hi) (hlo : ord.cps.toList[k + 1]? = some lo) (hb : b = true)
    (h : b = ((KStt.codes ⟨((signs.cps.toList.drop (idxP signs lo + 1)).take (idxP signs hi - (idxP signs lo + 1))).toArray⟩).map Int.toNat).any (fun s => emP ord ⟨#[hi, lo]⟩ ⟨#[s]⟩)) :
    leastStep signs (ord, k) = (Txt.slice ord none (some (k : Int)) ++ ⟨#[lo]⟩ ++ ⟨#[hi]⟩ ++ Txt.slice ord (some ((k : Int) + 2)) none, 0) := by
  have hf := free_eq h
  unfold leastStep
  simp only [getD_of hhi, getD_of hlo, hf, hb, if_true]
  rw [slice_to (by omega), show (k : Int) + 2 = ((k + 2 : Nat) : Int) from rfl, slice_from (by omega)]
  have e1 : (⟨#[lo]⟩ : Str) = ⟨[lo].toArray⟩ := rfl
  have e2 : (⟨#[hi]⟩ : Str) = ⟨[hi].toArray⟩ := rfl
  rw [e1, e2, mk_append, mk_append, mk_append]
  simp
theorem step_miss {signs ord : Str} {k hi lo : Nat} {b : Bool} (hhi : ord.cps.toList[k]? = some hi) (hlo : ord.cps.toList[k + 1]? = some lo) (hb : b = false)
    (h : b = ((KStt.codes ⟨((signs.cps.toList.drop (idxP signs lo + 1)).take (idxP signs hi - (idxP signs lo + 1))).toArray⟩).map Int.toNat).any (fun s => emP ord ⟨#[hi, lo]⟩ ⟨#[s]⟩)) :
    leastStep signs (ord, k) = (ord, k + 1) := by
  have hf := free_eq h
  unfold leastStep
  simp only [getD_of hhi, getD_of hlo, hf, hb]
  rfl
theorem swap_facts {signs ord : Str} {k hi lo : Nat} (hc : k + 1 < ord.length) (h3 : ord.length ≤ 10) (h4 : ∀ c ∈ ord.cps.toList, c ∈ signs.cps.toList) (hlm : lo ∈ signs.cps.toList) (hhm : hi ∈ signs.cps.toList) :
    (Txt.slice ord none (some (k : Int)) ++ ⟨#[lo]⟩ ++ ⟨#[hi]⟩ ++ Txt.slice ord (some ((k : Int) + 2)) none).length ≤ 10 ∧ ∀ c ∈ (Txt.slice ord none (some (k : Int)) ++ ⟨#[lo]⟩ ++ ⟨#[hi]⟩ ++ Txt.slice ord (some ((k : Int) + 2)) none).cps.toList, c ∈ signs.cps.toList := by
  rw [slice_to (by omega), show (k : Int) + 2 = ((k + 2 : Nat) : Int) from rfl, slice_from (by omega)]
  have e1 : (⟨#[lo]⟩ : Str) = ⟨[lo].toArray⟩ := rfl
  have e2 : (⟨#[hi]⟩ : Str) = ⟨[hi].toArray⟩ := rfl
  rw [e1, e2, mk_append, mk_append, mk_append]
  constructor
  · simp only [Str.length, List.size_toArray, List.length_append, List.length_take, List.length_drop, Array.length_toList, List.length_cons, List.length_nil] at hc h3 ⊢
    omega
  · intro c hm
    simp only [List.mem_append, List.mem_singleton] at hm
    rcases hm with ((hm | rfl) | rfl) | hm
    · exact h4 _ (List.mem_of_mem_take hm)
    · exact hlm
    · exact hhm
    · exact h4 _ (List.mem_of_mem_drop hm)
theorem leastW_hit {signs r ord : Str} {k hi lo : Nat} {b : Bool} (h2 : leastRun signs 100 (ord, k) = some r) (h3 : ord.length ≤ 10) (h4 : ∀ c ∈ ord.cps.toList, c ∈ signs.cps.toList) (hc : k + 1 < ord.length) (hhi : ord.cps.toList[k]? = some hi) (hlo : ord.cps.toList[k + 1]? = some lo) (hb : b = true)
    (h : b = ((KStt.codes ⟨((signs.cps.toList.drop (idxP signs lo + 1)).take (idxP signs hi - (idxP signs lo + 1))).toArray⟩).map Int.toNat).any (fun s => emP ord ⟨#[hi, lo]⟩ ⟨#[s]⟩)) :
    LeastW signs r (Txt.slice ord none (some (k : Int)) ++ ⟨#[lo]⟩ ++ ⟨#[hi]⟩ ++ Txt.slice ord (some ((k : Int) + 2)) none) 0 := by
  have hs := (least_step h2 hc).1
  rw [step_hit hc hhi hlo hb h] at hs
  have hf := swap_facts (signs := signs) (k := k) hc h3 h4 (h4 _ (List.mem_of_getElem? hlo)) (h4 _ (List.mem_of_getElem? hhi))
  exact ⟨0, rfl, hs, hf.1, hf.2⟩
theorem leastM_hit {signs r ord : Str} {k hi lo : Nat} {b : Bool} (h2 : leastRun signs 100 (ord, k) = some r) (hc : k + 1 < ord.length) (hhi : ord.cps.toList[k]? = some hi) (hlo : ord.cps.toList[k + 1]? = some lo) (hb : b = true)
    (h : b = ((KStt.codes ⟨((signs.cps.toList.drop (idxP signs lo + 1)).take (idxP signs hi - (idxP signs lo + 1))).toArray⟩).map Int.toNat).any (fun s => emP ord ⟨#[hi, lo]⟩ ⟨#[s]⟩)) :
    leastCount signs 100 (Txt.slice ord none (some (k : Int)) ++ ⟨#[lo]⟩ ++ ⟨#[hi]⟩ ++ Txt.slice ord (some ((k : Int) + 2)) none, (0 : Int).toNat) < leastCount signs 100 (ord, ((k : Nat) : Int).toNat) := by
  have hs := (least_step h2 hc).2
  rw [step_hit hc hhi hlo hb h] at hs
  exact hs
theorem leastW_miss {signs r ord : Str} {k hi lo : Nat} {b : Bool} (h2 : leastRun signs 100 (ord, k) = some r) (h3 : ord.length ≤ 10) (h4 : ∀ c ∈ ord.cps.toList, c ∈ signs.cps.toList) (hc : k + 1 < ord.length) (hhi : ord.cps.toList[k]? = some hi) (hlo : ord.cps.toList[k + 1]? = some lo) (hb : b = false)
    (h : b = ((KStt.codes ⟨((signs.cps.toList.drop (idxP signs lo + 1)).take (idxP signs hi - (idxP signs lo + 1))).toArray⟩).map Int.toNat).any (fun s => emP ord ⟨#[hi, lo]⟩ ⟨#[s]⟩)) :
    LeastW signs r ord ((k : Int) + 1) := by
  have hs := (least_step h2 hc).1
  rw [step_miss hhi hlo hb h] at hs
  exact ⟨k + 1, rfl, hs, h3, h4⟩
theorem leastM_miss {signs r ord : Str} {k hi lo : Nat} {b : Bool} (h2 : leastRun signs 100 (ord, k) = some r) (hc : k + 1 < ord.length) (hhi : ord.cps.toList[k]? = some hi) (hlo : ord.cps.toList[k + 1]? = some lo) (hb : b = false)
    (h : b = ((KStt.codes ⟨((signs.cps.toList.drop (idxP signs lo + 1)).take (idxP signs hi - (idxP signs lo + 1))).toArray⟩).map Int.toNat).any (fun s => emP ord ⟨#[hi, lo]⟩ ⟨#[s]⟩)) :
    leastCount signs 100 (ord, ((k : Int) + 1).toNat) < leastCount signs 100 (ord, ((k : Nat) : Int).toNat) := by
  have hs := (least_step h2 hc).2
  rw [step_miss hhi hlo hb h] at hs
  exact hs
theorem least_done {signs r ord : Str} {k : Nat} (h2 : leastRun signs 100 (ord, k) = some r) (hc : ¬ k + 1 < ord.length) : ord = r := by
  unfold leastRun at h2
  rw [if_neg hc] at h2
  exact Option.some.inj h2

theorem kw_least0 : True := by
  k_with_none
  k_with "call ref" => (k_here; (with_reducible show wpAny _ _ (call (Value.ref 28) _) _ _ _); k_dflt (refine cl_go (by k_asm) (by k_asm) (by k_asm) (by k_asm) (by k_asm) (by first | exact rfl | assumption) (by ktr_room) (by ktr_units) (c_em3 _ _ _ _ _ _ _ _ (by omega) (by assumption) (by assumption) (by assumption)) ?_); intro _ _ _ _ _; (try dsimp only))
  k_with "binaryOp Add str str" => (k_here; k_dflt (refine add_str ?_ (sz_fit (by simp only [Str.length_append, len1, len_dots]; omega))); intro _ _)
  k_with "call builtin:str.index" => (k_here; k_dflt (refine index_code (by assumption) ?_); intro _ _)
  k_with "subscriptTail Name Name str int" => (k_here; k_dflt (refine item_code (by first | rfl | exact (Int.natCast_add _ 1).symm) (by assumption) (by omega) ?_); intro _ _)
  k_with "subscriptTail Name BinOp str int" => (k_here; k_dflt (refine item_code (by first | rfl | exact (Int.natCast_add _ 1).symm) (by assumption) (by omega) ?_); intro _ _)
  k_with "exec For Name Subscript cons nil" => (k_here; (rename Fr _ _ _ _ => lF'); k_dflt (with_unfolding_all refine For_invVF lF' (by exact rfl) (by exact rfl) ?_; k_whole))
  exact trivial
set_option maxRecDepth 100000 in
set_option maxHeartbeats 4000000 in
theorem c_least (w : World) (signs order₀ r : Str) (t1 t2 : Tok) (news : List (Addr × Obj)) (hs : signs.length ≤ 10) (ho : order₀.length ≤ 10) (hdot : ∀ c ∈ signs.cps.toList, c ≠ 46) (hin : ∀ c ∈ order₀.cps.toList, c ∈ signs.cps.toList) (hr : leastRun signs 100 (order₀, 0) = some r) :
   Cl w 20 118 news [.str signs t1, .str order₀ t2] (RV news fun t => .str r t) := by
  dsimp only [Cl, RV]
  k_fill
  intro mean mg mb loose dp un gd cn cs a ccd cl outer A₀ base h₀ L m s Q E B F X N T hk hdp hun hret
  refine wpAny_call ?_
  k_dflt cell_enter
  repeat' ((fail_if_success (with_reducible show wpAny _ _ (PySem.exec (Stmt.While _ _ _ _) _) _ _ _)); (first | (k_unfold; (try dsimp only)) | (k_end; wrow_close) | walk1 | (dsimp only; walk1) | (leave1; walk_say "STEP leave1"; try dsimp only) | fail "no step"))
  k_with "state" => first | exact leastW_zero hr ho hin 
  k_while (fun _ order place => LeastW signs r order place) (fun _ order place => leastCount signs 100 (order, place.toNat)) "order" "place"
  rename_i ord to pl tp
  obtain ⟨k, hk1, hk2, hk3, hk4⟩ := kInv
  subst hk1
  by_cases hc : k + 1 < ord.length
  · have hl : ord.cps.toList.length = ord.length := by simp [Str.length]
    obtain ⟨hi, hhi⟩ : ∃ c, ord.cps.toList[k]? = some c := ⟨_, List.getElem?_eq_getElem (by omega)⟩
    obtain ⟨lo, hlo⟩ : ∃ c, ord.cps.toList[k + 1]? = some c := ⟨_, List.getElem?_eq_getElem (by omega)⟩
    have hhm := hk4 _ (List.mem_of_getElem? hhi)
    have hlm := hk4 _ (List.mem_of_getElem? hlo)
    have hhd := hdot _ hhm
    have hld := hdot _ hlm
    repeat' ((fail_if_success (with_reducible show wpAny _ _ (pyIter _) _ _ _)); (first | (k_unfold; (try dsimp only)) | (k_end; wrow_close) | walk1 | (dsimp only; walk1) | (leave1; walk_say "STEP leave1"; try dsimp only) | fail "no step"))
    have hll := idxP_lt hlm
    have hlh := idxP_lt hhm
    rw [show ((idxP signs lo : Nat) : Int) + 1 = ((idxP signs lo + 1 : Nat) : Int) from rfl, slice_mid (by omega) (by omega)]
    k_with "state" => first | exact any_zero | exact any_hit (by assumption) | exact any_miss (by assumption) (by assumption)
    k_state (fun pre free => free = (pre.map Int.toNat).any (fun s => emP ord ⟨#[hi, lo]⟩ ⟨#[s]⟩)) "free"
    · have hcd := codes_mk ((signs.cps.toList.drop (idxP signs lo + 1)).take (idxP signs hi - (idxP signs lo + 1)))
      rw [hcd] at kEq
      have hnd : kN ≠ 46 := by
        have hm : (kN : Int) ∈ ((signs.cps.toList.drop (idxP signs lo + 1)).take (idxP signs hi - (idxP signs lo + 1))).map fun (c : Nat) => (c : Int) := by rw [kEq]; simp
        obtain ⟨c', h1, h2⟩ := List.mem_map.mp hm
        obtain rfl : c' = kN := by omega
        exact hdot _ (List.mem_of_mem_drop (List.mem_of_mem_take h1))
      k_steps
    · k_with "state" => first | exact leastW_hit (by assumption) (by assumption) (by assumption) (by assumption) (by assumption) (by assumption) (by assumption) (by assumption) | exact leastW_miss (by assumption) (by assumption) (by assumption) (by assumption) (by assumption) (by assumption) (by assumption) (by assumption)
      k_with "measure" => first | exact leastM_hit (by assumption) (by assumption) (by assumption) (by assumption) (by assumption) (by assumption) | exact leastM_miss (by assumption) (by assumption) (by assumption) (by assumption) (by assumption) (by assumption)
      k_steps
  · k_steps
    exact cb_retS hret (least_done hk2 hc) (by assumption) (by assumption)
end Mine
end
section
open PySem PySem.W PyProof.Rows PySem.Calls PySem.Builtin PySem.Builtin.Str
namespace Mine
section
variable {prog : Program} {w : World} {A : Around} {s : Shared} {h₀ : Heap} {mg mb : Str → Option Value} {mean : ExcName → Option Value} {loose : List Str} {env : Env} {scope : Scope}
theorem tok_elt {C : Addr} {c : Nat} {u : Tok} {m₃ : Str → Option Value} {E' : Value → Shared → Prop} {p1 p2 p3 : Pos} (hc : c ∈ menuL) (X : (hd.heap_39 w.params).In h₀) (T : Top hd.view_39 loose mean mg mb h₀)
    (hmg : mg (Str.ofString "EXACT_TOKEN_TYPES") = some (.ref 95)) (hg : env.globals = mainGlobals)
    (hn : s.heap.Ns C m₃) (hm : m₃ (Str.ofString "sign") = some (.str ⟨#[c]⟩ u)) (hk : ∀ b o, h₀.get? b = some o → s.heap.get? b = some o)
    (hs : scope = { kind := ScopeKind.function, names := [(Str.ofString ".0", NameKind.local), (Str.ofString "sign", NameKind.local), (Str.ofString "EXACT_TOKEN_TYPES", NameKind.globalImplicit)], isGenerator := false, isCoroutine := false, more := [] }) :
    wpAny (model PySem.Challenge.rw_re0145_01.row.prog w) A (eval (.Subscript (.Name (Str.ofString "EXACT_TOKEN_TYPES") p1) (.Name (Str.ofString "sign") p2) p3) (compEnv scope C env)) (fun r s₄ => (∃ t, r = .int (tokP c) t) ∧ Keeps s s₄) E' s := by
  subst hs
  refine Subscript_ ?_
  refine Calls.Name_function_global rfl rfl ?_
  refine Calls.loadGlobal_global (mg := mg) ?_ hmg ?_
  · show s.heap.Ns env.globals mg
    rw [hg]
    exact T.g.keeps hk
  refine wpAny_Name (wpAny_loadName_local rfl rfl hn hm ?_)
  have TT : StrTab PySem.Challenge.rw_re0145_01.row.prog w s.heap 95 tokD := (tokTab w (X.keeps hk))
  refine item_strTab TT (tok_ok c hc) (fun v hv => ?_)
  cases hv s.heap with
  | int i t => exact ⟨⟨t, rfl⟩, s.heap, s.toks + 1, rfl, fun _ _ e => e⟩
end
def insP (x : Int) : List Int → List Int
  | [] => [x]
  | y :: r => if x ≤ y then x :: y :: r else y :: insP x r
def sortP : List Int → List Int
  | [] => []
  | x :: r => insP x (sortP r)
theorem insP_perm (x : Int) : ∀ l, (insP x l).Perm (x :: l)
  | [] => .refl _
  | y :: r => by
    unfold insP
    split
    · exact .refl _
    · exact ((insP_perm x r).cons y).trans (.swap x y r)
theorem sortP_perm : ∀ l, (sortP l).Perm l
  | [] => .refl _
  | x :: r => (insP_perm x _).trans ((sortP_perm r).cons x)
theorem insP_sorted (x : Int) : ∀ l : List Int, l.Pairwise (· ≤ ·) → (insP x l).Pairwise (· ≤ ·)
  | [], _ => by simp [insP]
  | y :: r, h => by
    unfold insP
    split
    · rename_i hxy
      refine List.Pairwise.cons (fun z hz => ?_) h
      rcases List.mem_cons.mp hz with rfl | hz
      · exact hxy
      · exact Int.le_trans hxy (List.rel_of_pairwise_cons h hz)
    · rename_i hxy
      refine List.Pairwise.cons (fun z hz => ?_) (insP_sorted x r (List.Pairwise.of_cons h))
      rcases List.mem_cons.mp ((insP_perm x r).mem_iff.mp hz) with rfl | hz
      · omega
      · exact List.rel_of_pairwise_cons h hz
theorem sortP_sorted : ∀ l, (sortP l).Pairwise (· ≤ ·)
  | [] => .nil
  | x :: r => insP_sorted x _ (sortP_sorted r)
theorem sz_fit1 {n : Nat} (h : n ≤ 1000) : n ≤ sizeLine := Nat.le_trans h (by decide)
section
variable {prog : Program} {w : World} {A : Around} {E : Value → Shared → Prop} {s : Shared} {h₀ : Heap} {L D : Addr} {m : Str → Option Value} {news news' : List (Addr × Obj)} {n : Nat} {Q : Value → Shared → Prop}
/-- list.index of an int that is there -/
theorem index_ints {vs : List Value} {ns : List Int} {k : Int} {t : Tok} (N : News h₀ L s.heap news) (hm : (D, listOf vs.toArray n) ∈ news) (hi : IntsAre vs ns) (hz : ns.length ≤ 1000) (hk : k ∈ ns)
    (h : ∀ t' tk, Q (.int (ns.idxOf k : Nat) t') { s with toks := tk }) : wpAny (model prog w) A (call (.builtin "list.index") [.ref D, .int k t]) Q E s := by
  have hlen := hi.length
  have hj : ns.idxOf k < ns.length := List.idxOf_lt_length_iff.mpr hk
  have ho : s.heap.get? D = some (listOf vs.toArray n) := (N _ hm).1
  refine call_meets PySem.F.slot_list_index ⟨_, ho, rfl⟩ PySem.F.entry_list_index (PySem.F.args_list_index_2 _ _)
    (SeqAt.list_indexAt D vs.toArray n none #[] (.int k t) (isInt k) (ns.idxOf k) (by simpa [hlen] using hj) (by omega) ?_ ?_) (And.intro ho (And.intro (fun y hy => (eq_isInt k t hi y (by simpa using hy)).at _ _) (h _ _)))
  · show isInt k vs[ns.idxOf k] = true
    rw [isInt_at k hi _ (by omega) hj]
    simpa using List.getElem_idxOf hj
  · intro j hjs hlt
    show isInt k vs[j] = false
    rw [isInt_at k hi j (by simpa using hjs) (by omega)]
    exact ne_of_lt_idxOf hlt _
end
/-- how far the done ones go behind a place -/
def farP (row : List Int) (i : Nat) : Nat := i + ((row.drop i).takeWhile fun x => decide (256 ≤ x)).length
def toldStep (st : List Int × List Int) (c : Nat) : List Int × List Int :=
  let p := st.1.idxOf (tokP c)
  (st.1.set p (st.1.getD p 0 + 256), st.2.set p ((farP st.1 (p + 1) : Int) - (p : Int) - 1))
def toldRun (n : Nat) : List Nat → List Int × List Int → Option (List Int)
  | [], st => some st.2
  | c :: cs, st => if tokP c ∈ st.1 ∧ st.1.idxOf (tokP c) < n ∧ st.1.length = n + 1 ∧ st.2.length = n ∧ st.1.getD n 0 = 0 then toldRun n cs (toldStep st c) else none
def toldP (order : Str) : Option (List Int) := toldRun order.length order.cps.toList (sortP (order.cps.toList.map tokP) ++ [0], List.replicate order.length 0)
def ToldW (order : Str) (r : List Int) (pre row told : List Int) : Prop := toldRun order.length (order.cps.toList.drop pre.length) (row, told) = some r
theorem told_zero {order : Str} {r R : List Int} (hR : sortP (order.cps.toList.map tokP) = R) (hr : toldP order = some r) : ToldW order r [] (R ++ [0]) ((List.replicate ((order.length : Nat) : Int).toNat [(0 : Int)]).flatten) := by
  unfold ToldW
  rw [krep_flat, ← hR, Int.toNat_natCast]
  exact hr
theorem told_turn {order : Str} {r pre row told : List Int} {c : Nat} {post : List Int} (h : ToldW order r pre row told) (e : KStt.codes order = pre ++ (c : Int) :: post) :
    c ∈ order.cps.toList ∧ tokP c ∈ row ∧ row.idxOf (tokP c) < order.length ∧ row.length = order.length + 1 ∧ told.length = order.length ∧ row.getD order.length 0 = 0 ∧
    ToldW order r (pre ++ [(c : Int)]) (row.set (row.idxOf (tokP c)) (row.getD (row.idxOf (tokP c)) 0 + 256)) (told.set (row.idxOf (tokP c)) ((farP row (row.idxOf (tokP c) + 1) : Int) - (row.idxOf (tokP c) : Int) - 1)) := by
  have e1 : (KStt.codes order)[pre.length]? = some (c : Int) := by rw [e]; simp
  have hc : order.cps.toList[pre.length]? = some c := by
    unfold KStt.codes at e1
    rw [List.getElem?_map, Option.map_eq_some_iff] at e1
    obtain ⟨c', h1, h2⟩ := e1
    obtain rfl : c' = c := by omega
    exact h1
  have hlt : pre.length < order.cps.toList.length := (List.getElem?_eq_some_iff.mp hc).1
  have hd : order.cps.toList.drop pre.length = c :: order.cps.toList.drop (pre.length + 1) := by
    rw [List.drop_eq_getElem_cons hlt]
    congr 1
    exact Option.some.inj ((List.getElem?_eq_getElem hlt).symm.trans hc)
  unfold ToldW at h
  rw [hd, toldRun] at h
  split at h
  · rename_i hcnd
    obtain ⟨a1, a2, a3, a4, a5⟩ := hcnd
    refine ⟨List.mem_of_getElem? hc, a1, a2, a3, a4, a5, ?_⟩
    unfold ToldW
    rw [List.length_append, List.length_singleton]
    exact h
  · cases h
theorem told_end {order : Str} {r row told : List Int} (h : ToldW order r (KStt.codes order) row told) : told = r := by
  unfold ToldW at h
  rw [KStt.codes_length, List.drop_of_length_le (by simp [Str.length])] at h
  exact Option.some.inj h
/-- between the turns of the while -/
def FarW (n p : Nat) (row : List Int) (far : Int) : Prop := ∃ k : Nat, far = (k : Int) ∧ p + 1 ≤ k ∧ k ≤ n ∧ farP row k = farP row (p + 1)
theorem farW_zero {n p : Nat} {row : List Int} (h : p < n) : FarW n p row ((p : Int) + 1) := ⟨p + 1, rfl, Nat.le_refl _, h, rfl⟩
theorem farP_hit {row : List Int} {k : Nat} (hk : k < row.length) (h : 256 ≤ row.getD k 0) : farP row (k + 1) = farP row k := by
  unfold farP
  have e : row.drop k = row.getD k 0 :: row.drop (k + 1) := by
    rw [List.drop_eq_getElem_cons hk]
    congr 1
    rw [List.getD_eq_getElem?_getD, List.getElem?_eq_getElem hk]; rfl
  rw [e, List.takeWhile_cons_of_pos (by simpa using h), List.length_cons]
  omega
theorem farP_stop {row : List Int} {k : Nat} (hk : k < row.length) (h : ¬ 256 ≤ row.getD k 0) : farP row k = k := by
  unfold farP
  have e : row.drop k = row.getD k 0 :: row.drop (k + 1) := by
    rw [List.drop_eq_getElem_cons hk]
    congr 1
    rw [List.getD_eq_getElem?_getD, List.getElem?_eq_getElem hk]; rfl
  rw [e, List.takeWhile_cons_of_neg (by simpa using h)]
  rfl
theorem farW_step {n p k : Nat} {row : List Int} (h2 : p + 1 ≤ k) (h3 : k ≤ n) (h4 : farP row k = farP row (p + 1)) (hl : row.length = n + 1) (hz : row.getD n 0 = 0) (h : 256 ≤ row.getD k 0) : FarW n p row ((k : Int) + 1) := by
  have hn : k ≠ n := by rintro rfl; omega
  exact ⟨k + 1, rfl, by omega, by omega, (farP_hit (by omega) h).trans h4⟩
theorem told_close {order : Str} {r pre row told : List Int} {p k n : Nat} (h : ToldW order r pre (row.set p (row.getD p 0 + 256)) (told.set p ((farP row (p + 1) : Int) - (p : Int) - 1))) (h4 : farP row k = farP row (p + 1)) (h3 : k ≤ n) (hl : row.length = n + 1) (hs : ¬ 256 ≤ row.getD ((k : Nat) : Int).toNat 0) :
    ToldW order r pre (row.set ((p : Nat) : Int).toNat (row.getD ((p : Nat) : Int).toNat 0 + 256)) (told.set ((p : Nat) : Int).toNat ((k : Int) - (p : Int) - 1)) := by
  have e : farP row (p + 1) = k := h4.symm.trans (farP_stop (by omega) hs)
  rw [e] at h
  exact h
theorem farM_step {n k : Nat} {row : List Int} (h3 : k ≤ n) (hl : row.length = n + 1) (hz : row.getD n 0 = 0) (h : 256 ≤ row.getD k 0) : n - ((k : Int) + 1).toNat < n - ((k : Nat) : Int).toNat := by
  have hn : k ≠ n := by rintro rfl; omega
  omega
theorem kw_told0 : True := by
  k_with_none
  k_with "binaryOp Add ref ref" => (k_here; (with_reducible show wpAny _ _ (binaryOp _ (Value.ref _) (Value.ref _)) _ _ _); k_dflt (refine kmk_add_ints (by k_asm) (by k_asm) (by kmk_list) (by kmk_list) (by l_ints) (by l_ints) ?_ (sz_fit1 (by simp only [List.length_cons, List.length_nil]; omega))); intro DqW9 wsqW9 hqW9 FqW9 NqW9 l1W9 hIqW9; (try k_lt l1W9); (try k_sweep))
  k_with "subscriptTail Name Name ref str" => (k_here; (with_reducible show wpAny _ _ (subscriptTail _ _ (Value.ref 95) (Value.str _ _)) _ _ _); k_dflt (refine item_strTab (tokTab _ (by k_in)) (tok_ok _ (by assumption)) ?_); intro vqW9 hvqW9; cases hvqW9 default)
  k_with "call builtin:list.index" => (k_here; k_dflt (refine index_ints (by k_asm) (by k_mem) (by assumption) (by omega) (by assumption) ?_); intro _ _)
  k_with "exec For Name Name cons nil" => (k_here; (rename Fr _ _ _ _ => lF'); k_dflt (with_unfolding_all refine For_invVF lF' (by exact rfl) (by exact rfl) ?_; k_whole))
  exact trivial
set_option maxRecDepth 100000 in
set_option maxHeartbeats 4000000 in
theorem c_nt (w : World) (x : Int) (t1 : Tok) (news : List (Addr × Obj)) :
   Cl w 10 104 news [.int x t1] (RV news fun _ => .bool (decide (256 ≤ x))) := by
  dsimp only [Cl, RV]
  k_fill
  intro mean mg mb loose dp un gd cn cs a ccd cl outer A₀ base h₀ L m s Q E B F X N T hk hdp hun hret
  refine wpAny_call ?_
  k_dflt cell_enter
  k_steps
  refine cb_retB hret ?e ?F ?N
  case F => assumption
  case N => assumption
  case e => rfl
theorem kw_told1 : True := by
  k_with "call ref" => (k_here; (with_reducible show wpAny _ _ (call (Value.ref 104) _) _ _ _); k_dflt (refine cl_go (by k_asm) (by k_asm) (by k_asm) (by k_asm) (by k_asm) (by first | exact rfl | assumption) (by ktr_room) (by ktr_units) (c_nt _ _ _ _) ?_); intro _ _ _ _ _; (try dsimp only))
  exact trivial
set_option maxRecDepth 100000 in
set_option maxHeartbeats 4000000 in
theorem c_told (w : World) (order : Str) (t1 : Tok) (news : List (Addr × Obj)) (ho : order.length ≤ 10) (hmenu : ∀ c ∈ order.cps.toList, c ∈ menuL) (r : List Int) (hr : toldP order = some r) :
   Cl w 20 130 news [.str order t1] (fun h₀ L m s Q => ∀ (D : Addr) (us : List Value) (n : Nat) (h' : Heap) (tk' : Nat), Fr h₀ L h' m → News h₀ L h' ((D, listOf us.toArray n) :: news) → IntsAre us r → (∀ p ∈ news, p.1 < D) → Q (.ref D) { s with heap := h', toks := tk' }) := by
  dsimp only [Cl]
  k_fill
  intro mean mg mb loose dp un gd cn cs a ccd cl outer A₀ base h₀ L m s Q E B F X N T hk hdp hun hret
  refine wpAny_call ?_
  k_dflt cell_enter
  rename_i g' L' h' FG F1 N1 B1 X1 T1
  have hmg : mg (Str.ofString "EXACT_TOKEN_TYPES") = some (.ref 95) := mg_of X1 T1.g (by k_is)
  repeat' ((fail_if_success (with_reducible show wpAny _ _ (pyIter _) _ _ _)); (first | (k_unfold; (try dsimp only)) | (k_end; wrow_close) | walk1 | (dsimp only; walk1) | (leave1; walk_say "STEP leave1"; try dsimp only) | fail "no step"))
  refine comp_toks tokP (by rfl) (by k_asm) (by k_asm) (Nat.le_trans ho (by decide)) (fun C c u s₃ m₃ E' hc hn hm hk => tok_elt (hmenu c hc) X1 T1 hmg rfl hn hm hk rfl) ?_
  intro D n ys h2 tk2 F2 N2 hI hne
  dsimp only
  repeat' ((fail_if_success (with_reducible show wpAny _ _ (call (Value.builtin "sorted") _) _ _ _)); (first | (k_unfold; (try dsimp only)) | (k_end; wrow_close) | walk1 | (dsimp only; walk1) | (leave1; walk_say "STEP leave1"; try dsimp only) | fail "no step"))
  with_unfolding_all refine' kso_sorted (vs := ys) ?k1 ?k2 ?k3 ?k4 ?k5 ?_
  case k1 => exact F2
  case k2 => exact N2
  case k3 => exact kso_isList (its := ys.toArray) N2 (.head _) rfl
  case k4 => exact hI
  case k5 => simp only [List.length_map, Array.length_toList]; exact Nat.lt_of_le_of_lt ho (by decide)
  intro S vs ns c2 h3 F3 N3 l3 hIs hel hperm hsrt hb
  obtain rfl : ns = sortP (order.cps.toList.map tokP) := ksm_same (hperm.trans (sortP_perm _).symm) hsrt (sortP_sorted _)
  dsimp only
  clear hb hperm hsrt
  have hRl : (sortP (order.cps.toList.map tokP)).length ≤ 10 := by rw [hel, List.length_map, Array.length_toList]; exact ho
  clear hel
  generalize hR : sortP (order.cps.toList.map tokP) = R at hIs hRl
  repeat' ((fail_if_success (with_reducible show wpAny _ _ (pyIter (Value.str _ _)) _ _ _)); (first | (k_unfold; (try dsimp only)) | (k_end; wrow_close) | walk1 | (dsimp only; walk1) | (leave1; walk_say "STEP leave1"; try dsimp only) | fail "no step"))
  k_with "state" => first | exact told_zero hR hr
  k_state (fun pre row told => ToldW order r pre row told) "row" "told"
  · rename_i rv row rn tv told tn hiR hiT k1 k2 k3 k4 k5 k6
    obtain ⟨b1, b2, b3, b4, b5, b6, b7⟩ := told_turn kInv kEq
    have b8 := hmenu _ b1
    repeat' ((fail_if_success (with_reducible show wpAny _ _ (PySem.exec (Stmt.While _ _ _ _) _) _ _ _)); (first | (k_unfold; (try dsimp only)) | (k_end; wrow_close) | walk1 | (dsimp only; walk1) | (leave1; walk_say "STEP leave1"; try dsimp only) | fail "no step"))
    k_with "state" => first | exact farW_zero b3 | exact farW_step (by assumption) (by assumption) (by assumption) (by assumption) (by assumption) (by assumption) | exact told_close b7 (by assumption) (by assumption) b4 (by assumption)
    k_with "measure" => exact farM_step (by assumption) (by assumption) (by assumption) (by assumption)
    k_while (fun _ far => FarW order.length (row.idxOf (tokP kN)) row far) (fun _ far => order.length - far.toNat) "far"
    rename_i far ft
    obtain ⟨k, hk1, hk2, hk3, hk4⟩ := kInv
    subst hk1
    k_steps
  · rename_i rv row rn tv told tn hiR hiT k1 k2 k3 k4 k5
    k_steps
    refine hret _ tv tn _ _ (by assumption) ?_ ?_ ?_
    · exact cb_drop (by assumption) (by kcj_all)
    · exact told_end kInv ▸ hiT
    · exact kst_ltOf (And.right (And.right (And.right (And.right (And.right (by assumption))))))
end Mine
end
section
open PySem PySem.W PyProof.Rows PySem.Calls PySem.Builtin PySem.Builtin.Str
namespace Mine
theorem kw_lead0 : True := by
  k_with_none
  k_with "call ref" => (k_here; (with_reducible show wpAny _ _ (call (Value.ref 130) _) _ _ _); k_dflt (refine cl_go (by k_asm) (by k_asm) (by k_asm) (by k_asm) (by k_asm) (by first | exact rfl | assumption) (by ktr_room) (by ktr_units) (c_told _ _ _ _ (by omega) (by assumption) _ (by assumption)) ?_); intro D9 u9 n9 h9 tk9 F9 N9 I9 l9; (try dsimp only))
  exact trivial
def blockP (n i : Nat) (t : Int) : Str :=
  Txt.mul (Txt.mul (Str.ofString " ") ([2, 3, 5, 7].getD i 0) ++ Str.ofString "\t") t ++ Txt.mul (Txt.mul (Str.ofString " ") ([2, 3, 5, 7].getD i 0 - 1) ++ Str.ofString "\t") ((n : Int) - 1 - (i : Int) - t)
def leadUpTo (n : Nat) (r : List Int) (k : Nat) : Str := (List.range k).foldl (fun acc i => acc ++ blockP n i (r.getD i 0)) (Str.ofString "")
def leadP (n : Nat) (r : List Int) : Str := leadUpTo n r (r.length - 1)
theorem run_len {P : Int} (h : P ≤ 7) : (Txt.mul (Str.ofString " ") P ++ Str.ofString "\t").length ≤ 8 := by
  have h1 := mul_len (x := Str.ofString " ") (n := P) (a := 1) (b := 7) (by decide) h
  have h2 : (Str.ofString "\t").length = 1 := by decide
  rw [Str.length_append, h2]; omega
theorem block_len {A B : Str} {x y : Int} (hA : A.length ≤ 8) (hB : B.length ≤ 8) (hx : x ≤ 10) (hy : y ≤ 10) : (Txt.mul A x).length + (Txt.mul B y).length ≤ 160 := by
  have h1 := mul_len (b := 10) hA (by omega : x ≤ ((10 : Nat) : Int))
  have h2 := mul_len (b := 10) hB (by omega : y ≤ ((10 : Nat) : Int))
  omega
theorem prime_le (i : Nat) : 0 ≤ ([2, 3, 5, 7] : List Int).getD i 0 ∧ ([2, 3, 5, 7] : List Int).getD i 0 ≤ 7 := by
  match i with
  | 0 => decide
  | 1 => decide
  | 2 => decide
  | 3 => decide
  | k + 4 => simp
theorem blockP_len {n i : Nat} {t : Int} (hn : n ≤ 5) (h0 : 0 ≤ t) (h1 : t ≤ 10) : (blockP n i t).length ≤ 160 := by
  unfold blockP
  rw [Str.length_append]
  have hp := prime_le i
  exact block_len (run_len hp.2) (run_len (by omega)) h1 (by omega)
theorem leadUpTo_len {n : Nat} {r : List Int} (hn : n ≤ 5) (hr : ∀ x ∈ r, 0 ≤ x ∧ x ≤ 10) : ∀ k, (leadUpTo n r k).length ≤ 160 * k
  | 0 => by
    show (Str.ofString "").length ≤ 160 * 0
    decide
  | k + 1 => by
    have ih := leadUpTo_len hn hr k
    have e : leadUpTo n r (k + 1) = leadUpTo n r k ++ blockP n k (r.getD k 0) := by
      unfold leadUpTo
      rw [List.range_succ, List.foldl_append]; rfl
    have hx : 0 ≤ r.getD k 0 ∧ r.getD k 0 ≤ 10 := by
      rw [List.getD_eq_getElem?_getD]
      cases h : r[k]? with
      | none => simp
      | some v => exact hr v (List.mem_of_getElem? h)
    have hb := blockP_len (n := n) (i := k) hn hx.1 hx.2
    rw [e, Str.length_append]
    omega
theorem fit_a {P : Int} (h : P ≤ 7) : (Txt.mul (Str.ofString " ") P).length + (Str.ofString "\t").length ≤ sizeLine := by
  have h1 := run_len h
  rw [Str.length_append] at h1
  exact Nat.le_trans h1 (by decide)
theorem fit_b {A B : Str} {x y : Int} (hA : A.length ≤ 8) (hB : B.length ≤ 8) (hx : x ≤ 10) (hy : y ≤ 10) : (Txt.mul A x).length + (Txt.mul B y).length ≤ sizeLine := Nat.le_trans (block_len hA hB hx hy) (by decide)
theorem fit_c {n : Nat} {r : List Int} {pre : List Int} {ld A B : Str} {x y : Int} (hn : n ≤ 5) (hr : ∀ x ∈ r, 0 ≤ x ∧ x ≤ 10) (h : ld = leadUpTo n r pre.length) (hl : pre.length ≤ 10) (hA : A.length ≤ 8) (hB : B.length ≤ 8) (hx : x ≤ 10) (hy : y ≤ 10) : ld.length + (Txt.mul A x ++ Txt.mul B y).length ≤ sizeLine := by
  have h1 := block_len hA hB hx hy
  have h2 := leadUpTo_len hn hr pre.length
  rw [Str.length_append, h]
  exact Nat.le_trans (by omega : _ ≤ 2000) (by decide)
theorem lead_turn {n i : Nat} {r pre : List Int} {ld : Str} {x : Int} {m : Nat} (h : ld = leadUpTo n r pre.length) (hi : pre.length = i) (hx : (r.take m)[i]? = some x) :
    ld ++ (Txt.mul (Txt.mul (Str.ofString " ") (([2, 3, 5, 7] : List Int).getD ((i : Nat) : Int).toNat 0) ++ Str.ofString "\t") x ++ Txt.mul (Txt.mul (Str.ofString " ") (([2, 3, 5, 7] : List Int).getD ((i : Nat) : Int).toNat 0 - 1) ++ Str.ofString "\t") ((n : Int) - 1 - (i : Int) - x)) = leadUpTo n r (pre ++ [(i : Int)]).length := by
  have e1 : r.getD i 0 = x := by
    have : r[i]? = some x := by
      rw [List.getElem?_take] at hx
      split at hx
      · exact hx
      · cases hx
    rw [List.getD_eq_getElem?_getD, this]; rfl
  rw [List.length_append, List.length_singleton, hi]
  unfold leadUpTo
  rw [List.range_succ, List.foldl_append, h, hi]
  show _ = leadUpTo n r i ++ blockP n i (r.getD i 0)
  rw [e1]
  rfl
theorem kw_lead1 : True := by
  k_with "binaryOp Mult str int" => (k_here; k_dflt (refine mul_str (by first | decide | (exact Nat.le_trans (run_len (by omega)) (by decide))) (by omega) (by omega) ?_); intro _ _)
  k_with "binaryOp Add str str" => (k_here; k_dflt (refine add_str ?_ (by first | exact fit_a (by omega) | exact fit_b (run_len (by omega)) (run_len (by omega)) (by omega) (by omega))); intro _ _)
  k_with "inplaceOp Add str str" => (k_here; k_dflt (refine iadd_str ?_ (fit_c (by assumption) (by assumption) (by assumption) (by omega) (run_len (by omega)) (run_len (by omega)) (by omega) (by omega))); intro _ _)
  exact trivial
set_option maxRecDepth 100000 in
set_option maxHeartbeats 4000000 in
theorem c_lead (w : World) (order : Str) (t1 : Tok) (news : List (Addr × Obj)) (ho : order.length ≤ 5) (hmenu : ∀ c ∈ order.cps.toList, c ∈ menuL) (r : List Int) (hr : toldP order = some r) (hr2 : ∀ x ∈ r, 0 ≤ x ∧ x ≤ 10) (hrl : r.length = order.length) :
   Cl w 30 137 news [.str order t1] (RV news fun t => .str (leadP order.length r) t) := by
  dsimp only [Cl, RV]
  k_fill
  intro mean mg mb loose dp un gd cn cs a ccd cl outer A₀ base h₀ L m s Q E B F X N T hk hdp hun hret
  refine wpAny_call ?_
  k_dflt cell_enter
  repeat' ((fail_if_success (with_reducible show wpAny _ _ (call (Value.type "enumerate") _) _ _ _)); (first | (k_unfold; (try dsimp only)) | (k_end; wrow_close) | walk1 | (dsimp only; walk1) | (leave1; walk_say "STEP leave1"; try dsimp only) | fail "no step"))
  rename_i h1 D w h2 F2 N2 hI hC hL l2
  with_unfolding_all refine enum_made (K := ItemKind.int) (news := news) (by rfl) F2 N2 (List.Mem.head _) (IntsAre.areOf hI) (fun p hp => .tail _ (.tail _ hp)) (offAll l2.2) ?_
  intro h3 e F3 N3 S3
  dsimp only
  with_unfolding_all refine' kst_enum (σ := Str × Nat) (fun c => news) (fun c => [(Str.ofString "lead", Value.str c.1 c.2)]) (fun c => True) [Str.ofString "place", Str.ofString "prime", Str.ofString "runs"] (fun pre c => c.1 = leadUpTo order.length r pre.length) (_, _) S3 trivial ?hk ?hp ?_ ?_
  case hk => exact List.forall_mem_cons.mpr ⟨by with_unfolding_all rfl, List.forall_mem_nil _⟩
  case hp => rfl
  · rintro ⟨ld, lt⟩ pre i x v t u h tk own hi hx hv hoff hf hp F' N'
    obtain ⟨tv, rfl⟩ := ItemKind.int_is hv
    dsimp only at hf hp F' N'
    dsimp only [kstB] at F'
    have hx0 := hr2 x (List.mem_of_mem_take (List.mem_of_getElem? hx))
    have hi4 : i < r.length - 1 := by
      have := (List.getElem?_eq_some_iff.mp hx).1
      rw [List.length_take] at this
      omega
    have hP := prime_le ((i : Nat) : Int).toNat
    k_with "state" => exact lead_turn hp hi hx
    k_steps
  · rintro ⟨ld, lt⟩ pre u h tk hl hf hp F' N'
    dsimp only at hf hp F' N'
    dsimp only [kstB] at F'
    k_steps
    refine cb_retS hret ?e ?F ?N
    case F => assumption
    case N => exact cb_drop (by assumption) (by kcj_all)
    case e =>
      rw [List.length_take] at hl
      rw [hp, show pre.length = r.length - 1 by omega]
      rfl
end Mine
end
section
open PySem PySem.W PyProof.Rows PySem.Calls PySem.Builtin PySem.Builtin.Str
namespace Mine
/-- the ledger bears a Whitespace of these counts at x -/
def WsIn (w : World) (news : List (Addr × Obj)) (x : Addr) (v : List Int × Nat × Nat × Nat) : Prop :=
  ∃ (dx T U : Addr) (us : List Value) (ws : Str) (t1 k1 k2 k3 k4 k5 tn tt tb : Tok), (x, instObj 90 dx) ∈ news ∧ (dx, wsD w ws t1 v.2.2.1 v.2.2.2 T (decide ((v.1.length : Int) ≤ 1)) k1 k2 k3 k4 k5 tn tt) ∈ news ∧
    (T, tupOf [.ref U, .int (v.2.1 : Int) tb]) ∈ news ∧ (U, tupOf us) ∈ news ∧ IntsAre us v.1
theorem tup_at {h₀ h : Heap} {L T : Addr} {news : List (Addr × Obj)} {vs : List Value} (N : News h₀ L h news) (m : (T, tupOf vs) ∈ news) : IsTup h T vs.toArray := News.isTup N m
theorem reads_ints {h : Heap} {vs : List Value} {ns : List Int} (hi : IntsAre vs ns) : ReadsAll h vs (ns.map PyData.int) [] := readsAll_of_ints hi
theorem eqv_norm (c c' : List Int) (b b' : Nat) : PyData.eqv (.tuple [.tuple (c.map .int), .int (b : Int)]) (.tuple [.tuple (c'.map .int), .int (b' : Int)]) = decide (c = c' ∧ b = b') := by
  have e : ((b : Int) = (b' : Int)) ↔ b = b' := by omega
  simp only [PyData.eqv, PyData.eqvAll, ked_eqvAll]
  by_cases h1 : c = c' <;> by_cases h2 : b = b' <;> simp [h1, h2, e]
theorem shaped_norm (c : List Int) (b : Nat) : SeqAt.shaped (.tuple [.tuple (c.map .int), .int (b : Int)]) = true := by
  simp [SeqAt.shaped, PyData.canLay0, PyData.canLayAll0, PyData.depth, PyData.depthAll, ke_canLayAll0, ke_depthAll]
section
variable {prog : Program} {w : World} {A : Around} {E : Value → Shared → Prop} {s : Shared} {h₀ : Heap} {L : Addr} {m : Str → Option Value} {news : List (Addr × Obj)} {Q : Value → Shared → Prop}
theorem eq_norm {T T' U U' : Addr} {us us' : List Value} {c c' : List Int} {b b' : Nat} {tb tb' : Tok} (N : News h₀ L s.heap news) (m3 : (T, tupOf [.ref U, .int (b : Int) tb]) ∈ news) (m4 : (U, tupOf us) ∈ news) (hI : IntsAre us c)
    (m3' : (T', tupOf [.ref U', .int (b' : Int) tb']) ∈ news) (m4' : (U', tupOf us') ∈ news) (hI' : IntsAre us' c') (hu : A.units + 64 < cLine) (h : Q (.bool (decide (c = c' ∧ b = b'))) s) :
    wpAny (model prog w) A (compareOp .Eq (.ref T) (.ref T')) Q E s := by
  have r1 : Reads s.heap (.ref U) (.tuple (c.map .int)) [] := .tuple (N.get m4) rfl rfl (reads_ints hI)
  have r2 : Reads s.heap (.ref U') (.tuple (c'.map .int)) [] := .tuple (N.get m4') rfl rfl (reads_ints hI')
  have r3 : Reads s.heap (.ref T) (.tuple [.tuple (c.map .int), .int (b : Int)]) _ := .tuple (N.get m3) rfl rfl (.cons r1 (.cons (.int _ tb) .nil))
  have r4 : Reads s.heap (.ref T') (.tuple [.tuple (c'.map .int), .int (b' : Int)]) _ := .tuple (N.get m3') rfl rfl (.cons r2 (.cons (.int _ tb') .nil))
  refine eq_dataH r3 r4 (shaped_norm c b) (shaped_norm c' b') hu ?_
  rw [eqv_norm]
  exact h
theorem len_tup {T : Addr} {us : List Value} {c : List Int} (N : News h₀ L s.heap news) (m : (T, tupOf us) ∈ news) (hI : IntsAre us c) (hz : c.length ≤ 1000) (h : ∀ t tk, Q (.int (c.length : Int) t) { s with toks := tk }) :
    wpAny (model prog w) A (call (.builtin "len") [.ref T]) Q E s := by
  have e : us.toArray.size = c.length := by rw [List.size_toArray, hI.length]
  refine PyProof.Rows.len_tuple (tup_at N m) (by rw [e]; omega) ?_
  rw [e]
  exact h _ _
end
def runP (v : List Int × Nat × Nat × Nat) : Int := if (v.2.1 : Int) > (v.1.length : Int) - 1 then (v.2.1 : Int) else (v.1.length : Int) - 1
theorem kw_meth0 : True := by
  k_with_none
  k_with "call builtin:len" => (k_here; (with_reducible show wpAny _ _ (call (Value.builtin "len") [Value.ref _]) _ _ _); k_dflt (refine len_tup (by k_asm) (by assumption) (by assumption) (by omega) ?_); intro _ _)
  k_with "compareOp Eq ref ref" => (k_here; k_dflt (refine eq_norm (by k_asm) (by assumption) (by assumption) (by assumption) (by assumption) (by assumption) (by assumption) (by ktr_units) ?_))
  exact trivial
set_option maxRecDepth 100000 in
set_option maxHeartbeats 4000000 in
theorem c_run (w : World) (x : Addr) (v : List Int × Nat × Nat × Nat) (news : List (Addr × Obj)) (hx : WsIn w news x v) (hl : v.1.length ≤ 100) (hb : v.2.1 ≤ 100) :
   Cl w 10 52 news [.ref x] (RV news fun t => .int (runP v) t) := by
  obtain ⟨dx, T, U, us, ws, t1, k1, k2, k3, k4, k5, tn, tt, tb, m1, m2, m3, m4, hI⟩ := hx
  obtain ⟨cnt, b, n, nt⟩ := v
  dsimp only at m2 m3 hI hl hb
  dsimp only [Cl, RV]
  k_fill
  intro mean mg mb loose dp un gd cn cs a ccd cl outer A₀ base h₀ L m s Q E B F X N TT hk hdp hun hret
  refine wpAny_call ?_
  k_dflt cell_enter
  k_steps
  refine cb_retI hret ?e ?F ?N
  case F => assumption
  case N => assumption
  case e => rfl
set_option maxRecDepth 100000 in
set_option maxHeartbeats 4000000 in
theorem c_equal (w : World) (x y : Addr) (v v' : List Int × Nat × Nat × Nat) (news : List (Addr × Obj)) (hx : WsIn w news x v) (hy : WsIn w news y v') :
   Cl w 10 66 news [.ref x, .ref y] (RV news fun t => .bool (decide (v.1 = v'.1 ∧ v.2.1 = v'.2.1))) := by
  obtain ⟨dx, T, U, us, ws, t1, k1, k2, k3, k4, k5, tn, tt, tb, m1, m2, m3, m4, hI⟩ := hx
  obtain ⟨cnt, b, n, nt⟩ := v
  obtain ⟨dx', T', U', us', ws', t1', k1', k2', k3', k4', k5', tn', tt', tb', m1', m2', m3', m4', hI'⟩ := hy
  obtain ⟨cnt', b', n', nt'⟩ := v'
  dsimp only at m2 m3 hI m2' m3' hI'
  dsimp only [Cl, RV]
  k_fill
  intro mean mg mb loose dp un gd cn cs a ccd cl outer A₀ base h₀ L m s Q E B F X N TT hk hdp hun hret
  refine wpAny_call ?_
  k_dflt cell_enter
  k_steps
  refine cb_retB hret ?e ?F ?N
  case F => assumption
  case N => assumption
  case e => rfl
def ilStep (cnt : List Int) (ts : Int) (a i : Int) : Int := a + i.fdiv ts * cnt.getD i.toNat 0
def ilP (cnt : List Int) (ts : Int) : Int := (rangeKs ts ((cnt.length : Int) - ts).toNat).foldl (ilStep cnt ts) 0
def indentP (v : List Int × Nat × Nat × Nat) (ts : Int) : Int := (v.2.1 : Int) + ts * (ilP v.1 ts + (v.2.2.2 : Int))
def IlW (cnt : List Int) (ts : Int) (pre : List Int) (il : Int) : Prop := il = pre.foldl (ilStep cnt ts) 0 ∧ 0 ≤ il ∧ il ≤ 10000 * (pre.length : Int)
theorem il_zero (cnt : List Int) (ts : Int) : IlW cnt ts [] 0 := ⟨rfl, by simp, by simp⟩
theorem getD_bd {cnt : List Int} (hc : ∀ c ∈ cnt, 0 ≤ c ∧ c ≤ 100) (k : Nat) : 0 ≤ cnt.getD k 0 ∧ cnt.getD k 0 ≤ 100 := by
  rw [List.getD_eq_getElem?_getD]
  cases h : cnt[k]? with
  | none => simp
  | some c => exact hc c (List.mem_of_getElem? h)
theorem fdiv_bd {i ts : Int} (h2 : 2 ≤ ts) (hi : 0 ≤ i) (h1 : i ≤ 100) : 0 ≤ i.fdiv ts ∧ i.fdiv ts ≤ 100 := by
  rw [Int.fdiv_eq_ediv_of_nonneg _ (by omega)]
  refine ⟨Int.ediv_nonneg hi (by omega), Int.le_trans (Int.ediv_le_self _ hi) h1⟩
theorem mul_bd {a b A B : Int} (h1 : 0 ≤ a ∧ a ≤ A) (h2 : 0 ≤ b ∧ b ≤ B) : 0 ≤ a * b ∧ a * b ≤ A * B :=
  ⟨Int.mul_nonneg h1.1 h2.1, Int.mul_le_mul h1.2 h2.2 h2.1 (Int.le_trans h1.1 h1.2)⟩
theorem il_turn {cnt : List Int} {ts : Int} {pre : List Int} {il k : Int} (hc : ∀ c ∈ cnt, 0 ≤ c ∧ c ≤ 100) (hl : cnt.length ≤ 100) (h2 : 2 ≤ ts) (h : IlW cnt ts pre il) (e : k = ts + (pre.length : Int)) (hp : pre.length < ((cnt.length : Int) - ts).toNat) :
    IlW cnt ts (pre ++ [k]) (il + k.fdiv ts * cnt.getD k.toNat 0) := by
  obtain ⟨h1, h3, h4⟩ := h
  have hb := mul_bd (fdiv_bd h2 (show 0 ≤ k by omega) (by omega)) (getD_bd hc k.toNat)
  refine ⟨by rw [List.foldl_append, ← h1]; rfl, by omega, ?_⟩
  rw [List.length_append, List.length_singleton]
  omega
theorem mul_ok_bd {a b : Int} (h1 : 0 ≤ a ∧ a ≤ 10000000) : IntMulOk a b := IntMulOk.of_left (PySem.intBits_le_64 (by omega) (by omega))
theorem il_mul {cnt : List Int} {ts : Int} {pre : List Int} {k b : Int} (hl : cnt.length ≤ 100) (h2 : 2 ≤ ts) (e : k = ts + (pre.length : Int)) (hp : pre.length < ((cnt.length : Int) - ts).toNat) : IntMulOk (k.fdiv ts) b := by
  have := fdiv_bd h2 (show 0 ≤ k by omega) (by omega)
  exact mul_ok_bd (by omega)
theorem il_item {cnt : List Int} {ts : Int} {pre : List Int} {k : Int} (h2 : 2 ≤ ts) (e : k = ts + (pre.length : Int)) (hp : pre.length < ((cnt.length : Int) - ts).toNat) : 0 ≤ k ∧ k < cnt.length := by omega
theorem il_end {v : List Int × Nat × Nat × Nat} {ts il : Int} (h : IlW v.1 ts (rangeKs ts ((v.1.length : Int) - ts).toNat) il) : (v.2.1 : Int) + ts * (il + (v.2.2.2 : Int)) = indentP v ts := by
  unfold indentP ilP
  rw [← h.1]
theorem kw_meth1 : True := by
  k_with "binaryOp Mult int int" => (k_here; k_dflt (refine mul_int ?_ (by first | exact il_mul (by assumption) (by assumption) (by assumption) (by assumption) | exact mul_ok_bd (by omega))))
  exact trivial
set_option maxRecDepth 100000 in
set_option maxHeartbeats 4000000 in
theorem c_indent (w : World) (x : Addr) (ts : Int) (tts : Tok) (v : List Int × Nat × Nat × Nat) (news : List (Addr × Obj)) (hx : WsIn w news x v) (hl : v.1.length ≤ 100) (hb : v.2.1 ≤ 100) (hnt : v.2.2.2 ≤ 100) (hc : ∀ c ∈ v.1, 0 ≤ c ∧ c ≤ 100) (h2 : 2 ≤ ts) (h3 : ts ≤ 200) :
   Cl w 10 59 news [.ref x, .int ts tts] (RV news fun t => .int (indentP v ts) t) := by
  obtain ⟨dx, T, U, us, ws, t1, k1, k2, k3, k4, k5, tn, tt, tb, m1, m2, m3, m4, hI⟩ := hx
  obtain ⟨cnt, b, n, nt⟩ := v
  dsimp only at m2 m3 hI hl hb hnt hc
  dsimp only [Cl, RV]
  k_fill
  intro mean mg mb loose dp un gd cn cs a ccd cl outer A₀ base h₀ L m s Q E B F X N TT hk hdp hun hret
  refine wpAny_call ?_
  k_dflt cell_enter
  k_with "state" => first | exact il_zero _ _ | exact il_turn hc hl h2 (by assumption) (by assumption) (by assumption)
  k_with "pyIter ref" => k_state (fun pre il => IlW cnt ts pre il) "il"
  k_steps
  refine cb_retI hret ?e ?F ?N
  case F => assumption
  case N => assumption
  case e => exact il_end (v := (cnt, b, n, nt)) (by assumption)
theorem run_bd {v : List Int × Nat × Nat × Nat} (hl : v.1.length ≤ 100) (hb : v.2.1 ≤ 100) : runP v ≤ 100 := by
  unfold runP
  split <;> omega
def topP (v v' : List Int × Nat × Nat × Nat) : Int := if runP v' > runP v then runP v' else runP v
def lessP (v v' : List Int × Nat × Nat × Nat) : Bool :=
  if v.2.2.1 ≥ v'.2.2.1 then false else
  if v.1.length ≤ 1 ∧ v'.1.length ≤ 1 then decide (v.2.2.2 ≤ v'.2.2.2) else
  (rangeKs 2 (topP v v' + 1 + 1 - 2).toNat).all (fun ts => decide (indentP v ts < indentP v' ts))
def LessW (v v' : List Int × Nat × Nat × Nat) (pre : List Int) : Prop := ∀ ts ∈ pre, indentP v ts < indentP v' ts
theorem lw_zero (v v' : List Int × Nat × Nat × Nat) : LessW v v' [] := fun _ h => nomatch h
theorem lw_turn {v v' : List Int × Nat × Nat × Nat} {pre : List Int} {k : Int} (h : LessW v v' pre) (h1 : ¬ indentP v' k ≤ indentP v k) : LessW v v' (pre ++ [k]) := by
  intro ts ht
  rcases List.mem_append.mp ht with ht | ht
  · exact h ts ht
  · rw [List.mem_singleton.mp ht]; omega
theorem less_f1 {v v' : List Int × Nat × Nat × Nat} (h : (v'.2.2.1 : Int) ≤ (v.2.2.1 : Int)) : false = lessP v v' := by
  unfold lessP
  rw [if_pos (by omega)]
theorem less_b2 {v v' : List Int × Nat × Nat × Nat} (h : ¬ (v'.2.2.1 : Int) ≤ (v.2.2.1 : Int)) (h1 : (v.1.length : Int) ≤ 1) (h2 : (v'.1.length : Int) ≤ 1) : decide ((v.2.2.2 : Int) ≤ (v'.2.2.2 : Int)) = lessP v v' := by
  unfold lessP
  rw [if_neg (by omega), if_pos (by omega)]
  exact decide_eq_decide.mpr (by omega)
theorem less_f3 {v v' : List Int × Nat × Nat × Nat} {k : Int} {i : Nat} (h : ¬ (v'.2.2.1 : Int) ≤ (v.2.2.1 : Int)) (h1 : ¬ ((v.1.length : Int) ≤ 1 ∧ (v'.1.length : Int) ≤ 1)) (e : k = 2 + (i : Int)) (hl : i < (topP v v' + 1 + 1 - 2).toNat) (hk : indentP v' k ≤ indentP v k) : false = lessP v v' := by
  unfold lessP
  rw [if_neg (by omega), if_neg (by omega)]
  symm
  rw [List.all_eq_false]
  refine ⟨k, ?_, by simp; omega⟩
  simp only [rangeKs, List.mem_map, List.mem_range]
  exact ⟨i, hl, by omega⟩
theorem less_t3 {v v' : List Int × Nat × Nat × Nat} (h : ¬ (v'.2.2.1 : Int) ≤ (v.2.2.1 : Int)) (h1 : ¬ ((v.1.length : Int) ≤ 1 ∧ (v'.1.length : Int) ≤ 1)) (hk : LessW v v' (rangeKs 2 (topP v v' + 1 + 1 - 2).toNat)) : true = lessP v v' := by
  unfold lessP
  rw [if_neg (by omega), if_neg (by omega)]
  symm
  rw [List.all_eq_true]
  intro x hx
  exact decide_eq_true (hk x hx)
theorem run_nn (v : List Int × Nat × Nat × Nat) : 0 ≤ runP v := by
  unfold runP
  split <;> omega
theorem top_bd {v v' : List Int × Nat × Nat × Nat} (hr : runP v ≤ 100) (hr' : runP v' ≤ 100) : (if runP v' > runP v then runP v' else runP v) ≤ 100 ∧ 0 ≤ (if runP v' > runP v then runP v' else runP v) := by
  have := run_nn v
  have := run_nn v'
  split <;> exact ⟨by assumption, by assumption⟩
theorem less_ts {v v' : List Int × Nat × Nat × Nat} {k : Int} {i : Nat} (hl : i < ((if runP v' > runP v then runP v' else runP v) + 1 + 1 - 2).toNat) (e : k = 2 + (i : Int)) (hr : runP v ≤ 100) (hr' : runP v' ≤ 100) : k ≤ 200 := by
  have : (if runP v' > runP v then runP v' else runP v) ≤ 100 := by split <;> assumption
  omega
theorem WsIn.app {w : World} {news own : List (Addr × Obj)} {x : Addr} {v : List Int × Nat × Nat × Nat} (h : WsIn w news x v) : WsIn w (news ++ own) x v := by
  obtain ⟨dx, T, U, us, ws, t1, k1, k2, k3, k4, k5, tn, tt, tb, m1, m2, m3, m4, hI⟩ := h
  exact ⟨dx, T, U, us, ws, t1, k1, k2, k3, k4, k5, tn, tt, tb, List.mem_append.mpr (.inl m1), List.mem_append.mpr (.inl m2), List.mem_append.mpr (.inl m3), List.mem_append.mpr (.inl m4), hI⟩
theorem kw_meth2 : True := by
  k_with "call ref" => (k_here; (with_reducible show wpAny _ _ (call (Value.ref 52) _) _ _ _); k_dflt (refine cl_go (by k_asm) (by k_asm) (by k_asm) (by k_asm) (by k_asm) (by first | exact rfl | assumption) (by ktr_room) (by ktr_units) (c_run _ _ _ _ (by first | assumption | exact WsIn.app (by assumption)) (by assumption) (by assumption)) ?_); intro _ _ _ _ _; (try dsimp only))
  k_with "call ref" => (k_here; (with_reducible show wpAny _ _ (call (Value.ref 59) _) _ _ _); k_dflt (refine cl_go (by k_asm) (by k_asm) (by k_asm) (by k_asm) (by k_asm) (by first | exact rfl | assumption) (by ktr_room) (by ktr_units) (c_indent _ _ _ _ _ _ (by first | assumption | exact WsIn.app (by assumption)) (by assumption) (by assumption) (by assumption) (by assumption) (by omega) (less_ts (by assumption) (by assumption) (by assumption) (by assumption))) ?_); intro _ _ _ _ _; (try dsimp only))
  exact trivial
set_option maxRecDepth 100000 in
set_option maxHeartbeats 4000000 in
theorem c_less (w : World) (x y : Addr) (v v' : List Int × Nat × Nat × Nat) (news : List (Addr × Obj)) (hx : WsIn w news x v) (hl : v.1.length ≤ 100) (hb : v.2.1 ≤ 100) (hnt : v.2.2.2 ≤ 100) (hc : ∀ c ∈ v.1, 0 ≤ c ∧ c ≤ 100)
   (hx' : WsIn w news y v') (hl' : v'.1.length ≤ 100) (hb' : v'.2.1 ≤ 100) (hnt' : v'.2.2.2 ≤ 100) (hc' : ∀ c ∈ v'.1, 0 ≤ c ∧ c ≤ 100) (hn : v.2.2.1 ≤ 100) (hn' : v'.2.2.1 ≤ 100) :
   Cl w 20 80 news [.ref x, .ref y] (RV news fun t => .bool (lessP v v')) := by
  have hx0 := hx
  have hx0' := hx'
  have hr := run_bd hl hb
  have hr' := run_bd hl' hb'
  obtain ⟨dx, T, U, us, ws, t1, k1, k2, k3, k4, k5, tn, tt, tb, m1, m2, m3, m4, hI⟩ := hx
  obtain ⟨dx', T', U', us', ws', t1', k1', k2', k3', k4', k5', tn', tt', tb', m1', m2', m3', m4', hI'⟩ := hx'
  dsimp only [Cl, RV]
  k_fill
  intro mean mg mb loose dp un gd cn cs a ccd cl outer A₀ base h₀ L m s Q E B F X N TT hk hdp hun hret
  refine wpAny_call ?_
  k_dflt cell_enter
  k_with "state" => first | exact lw_zero _ _ | exact lw_turn (by assumption) (by assumption)
  have hT := top_bd hr hr'
  k_with "pyIter ref" => k_dflt ((rename Fr _ _ _ _ => lF'); (rename News _ _ _ _ => lN'); (rename IsRange _ _ _ _ _ _ _ _ => rgX); (with_unfolding_all refine' kst_range (σ := Unit) (fun _ => news) (fun _ => []) (fun _ => True) [] (fun pre _ => LessW v v' pre) () (by rfl) (by assumption) (by exact small_one (by omega) (by omega) (by omega) (by omega)) (by exact rangeSize_nat _ _) lF' ?kn ?kf ?kk ?kp ?_ ?_); (case kn => exact lN'); (case kf => trivial); (case kk => exact fun _ h => nomatch h); (case kp => exact lw_zero _ _); rotate_left; (intro c9 kU kH kTk kFacts kInv kFr kNews; dsimp only at kInv kFr kNews; dsimp only [kstB] at kFr); rotate_left; (intro c9 kPre kN kT kU kH kTk kOwn kEq kLt kOff kFacts kInv kFr kNews; dsimp only at kInv kFr kNews; dsimp only [kstB] at kFr); (all_goals (try clear lF' lN')))
  k_steps
  all_goals first | (refine cb_retB hret ?e ?F ?N; (case F => k_asm); (case N => first | k_asm | exact cb_drop (by assumption) (fun _ h => List.mem_append.mpr (.inl h))); (case e => first | exact less_f1 (by assumption) | exact less_b2 (by assumption) (by assumption) (by assumption) | exact less_f3 (by assumption) (by omega) (by assumption) (by assumption) (by assumption) | exact less_t3 (by assumption) (by omega) (by assumption)))
end Mine
end
section
open PySem PySem.W PyProof.Rows PySem.Calls PySem.Builtin PySem.Builtin.Str
namespace Mine
section
variable {M : Model} {A : Around} {E : Value → Shared → Prop} {env : Env} {Q : Flow → Shared → Prop}
/-- a row of statements in two parts, with what holds between them -/
theorem cut_app {rest : List Stmt} {R : Shared → Prop} {pre : List Stmt} {s : Shared} (h1 : wpAny M A (execs pre env) (fun f s' => f = .next ∧ R s') E s) (h2 : ∀ s', R s' → wpAny M A (execs rest env) Q E s') : wpAny M A (execs (pre ++ rest) env) Q E s := by
  intro Γ p hΓ
  have go : ∀ (pre : List Stmt) p s, Sem.wp M Γ (execs pre env) (fun f _ s' => f = .next ∧ R s') (fun e _ s' => E e s') p s → Sem.wp M Γ (execs (pre ++ rest) env) (fun f _ s' => Q f s') (fun e _ s' => E e s') p s := by
    intro pre
    induction pre with
    | nil => exact fun p s h => h2 s h.2 Γ p hΓ
    | cons st pre ih =>
      intro p s h
      show Sem.wp M Γ (execs (st :: (pre ++ rest)) env) _ _ p s
      rw [execs_cons, Sem.wp_bind'] at h ⊢
      refine Sem.wp_mono M Γ _ (fun f p' s' h' => ?_) (fun _ _ _ h' => h') _ _ h
      cases f with
      | next => exact ih p' s' h'
      | brk => exact Flow.noConfusion h'.1
      | cont => exact Flow.noConfusion h'.1
      | ret v => exact Flow.noConfusion h'.1
  exact go pre p s (h1 Γ p hΓ)
end
end Mine
end
section
open PySem PySem.W PyProof.Rows PySem.Calls PySem.Builtin PySem.Builtin.Str
namespace Mine
section
variable {prog : Program} {w : World} {A : Around} {E : Value → Shared → Prop} {s : Shared} {h₀ : Heap} {L a₀ c r : Addr} {cn : Str} {cs : Scope} {ccd : Value} {cl : List (Str × Addr)} {x : Str} {px : Pos} {body : List Stmt} {R : Result → Shared → Prop}
  {a b : Int} {n : Nat} {t u v : Tok} {m : Str → Option Value} {co : Obj} {rest : List (Addr × Obj)} {v₀ : Option Value}
/-- a loop over a range whose own name is a cell: what a turn makes is dropped at its end -/
theorem for_cell (K : (Str → Option Value) → Prop) (hh : A.handled = none) (hr : IsRange s.heap r a b 1 t u v) (hsm : Builtin.Range.small a b 1 = true) (hn : Builtin.Range.rangeSize a b 1 = (n : Int))
    (F : Fr h₀ L s.heap m) (N : News h₀ L s.heap ((c, co) :: rest)) (hd : co.data = .cell v₀) (hoff : ∀ p ∈ rest, p.1 ≠ c) (hk : K m)
    (hkind : cs.kind = .function) (hx : (envX cn cs L a₀ ccd cl).kindOf x = some .cell) (hc : cl.lookup x = some c)
    (step : ∀ i I it h tk m co t, i < n → Fr h₀ L h m → K m → News h₀ L h ((I, it) :: (c, co) :: rest) → co.data = .cell (some (.int (a + (i : Int)) t)) → (∀ p ∈ (c, co) :: rest, p.1 ≠ I) →
      wpAny (model prog w) A (execs body (envX cn cs L a₀ ccd cl)) (fun f s₂ => f = .next ∧ ∃ h' tk' m', s₂ = { s with heap := h', toks := tk' } ∧ Fr h₀ L h' m' ∧ K m' ∧ News h₀ L h' ((I, it) :: (c, co) :: rest))
        (notedBy (model prog w) A (envX cn cs L a₀ ccd cl) fun e s' => R (.error e) s') { s with heap := h, toks := tk })
    (done : ∀ h tk m co, Fr h₀ L h m → K m → News h₀ L h ((c, co) :: rest) → R (.ok .next) { s with heap := h, toks := tk }) :
    wpAny (model prog w) A (pyIter (.ref r)) (fun it s₂ => codeAny (model prog w) A (.forLoop (.Name x px) it body [] (envX cn cs L a₀ ccd cl)) R s₂) E s := by
  refine wpAny_pyIter_range hr hsm ?_
  have up : ∀ q o, s.heap.get? q = some o → (s.heap.push { cls := .type "range_iterator", data := .fields #[rawInt a, rawInt (Builtin.Range.rangeSize a b 1), rawInt 1] }).get? q = some o := fun q o e => Heap.get?_push_of_some _ e
  generalize hI : s.heap.objs.size = I
  have W := LCg.range_walks (prog := prog) (w := w) (A := A) (I := I) hh a n
  have hIL : L ≠ I := by rw [← hI]; exact Nat.ne_of_lt F.ns.lt
  have hI0 : h₀.get? I = none := by rw [← hI]; exact next_is_new F
  have hIn : ∀ p ∈ (c, co) :: rest, p.1 ≠ I := fun p hp => by rw [← hI]; exact Nat.ne_of_lt (Heap.lt_size (N p hp).1)
  have hcI : c ≠ I := hIn _ (.head _)
  have hrI : ∀ p ∈ rest, p.1 ≠ I := fun p hp => hIn p (.tail _ hp)
  refine codeAny_forLoop (fun k s' => ∃ h tk m co i v, s' = { s with heap := h, toks := tk } ∧ i ≤ n ∧ k = n + 1 - i ∧ IsRangeIter h I (a + (i : Nat) * 1) ((n : Int) - (i : Nat)) 1 ∧ Fr h₀ L h m ∧ K m ∧ News h₀ L h ((c, co) :: rest) ∧ co.data = .cell v) ?_ (n + 1)
    ⟨_, s.toks, m, co, 0, v₀, rfl, Nat.zero_le _, rfl, ?_, F.keeps up, hk, N.grown up, hd⟩
  · rintro k s' ⟨h, tk, m, co, i, v, rfl, hi, rfl, hst, F', hk', N', hd'⟩
    by_cases hlt : i < n
    · refine W.item i _ _ _ hlt hst fun v' h₂ tk₂ hP hst₂ hk₂ => ?_
      obtain ⟨t', rfl⟩ := hP
      have F₂ : Fr h₀ L h₂ m := LCg.fr_but F' hk₂ hIL hI0
      have N₂ : News h₀ L h₂ ((c, co) :: rest) := LCg.news_but N' hk₂ (fun p hp => by
        rcases List.mem_cons.mp hp with rfl | hp
        · exact hcI
        · exact hrI p hp)
      have N₃ : News h₀ L h₂ ((I, _) :: (c, co) :: rest) := fun p hp => by
        rcases List.mem_cons.mp hp with rfl | hp
        · exact ⟨hst₂, Ne.symm hIL, hI0⟩
        · exact N₂ p hp
      have hmem := N₂ (c, co) (.head _)
      refine wpAny_assign_Name (wpAny_storeName_cell hkind hx hc ⟨co, hmem.1, hd'⟩ fun h₃ hv hs => ?_)
      obtain ⟨o', ho', hd₃⟩ := hv
      have N₄ : News h₀ L h₃ ((I, _) :: (c, o') :: rest) := News.setAt (own := [(I, _)]) N₃ (fun p hp => by rw [List.mem_singleton.mp hp]; exact Ne.symm hcI) hoff hs ho'
      have F₄ : Fr h₀ L h₃ m := ⟨F₂.ns.sameBut hs (Ne.symm hmem.2.1), fun b ob e => (hs.2 b (fun q => by rw [q, hmem.2.2] at e; cases e)).trans (F₂.keep b ob e), F₂.above⟩
      refine wpAny_mono (step i I _ h₃ tk₂ m o' t' hlt F₄ hk' N₄ hd₃ (fun p hp => by
        rcases List.mem_cons.mp hp with rfl | hp
        · exact hcI
        · exact hrI p hp)) (fun f s₂ hp => ?_) fun _ _ e => e
      obtain ⟨rfl, h', tk', m', rfl, F₅, hk₅, N₅⟩ := hp
      refine ⟨n + 1 - (i + 1), by omega, h', tk', m', o', i + 1, _, rfl, hlt, rfl, ?_, F₅, hk₅, fun p hp => N₅ p (.tail _ hp), hd₃⟩
      exact (N₅ _ (.head _)).1
    · obtain rfl : i = n := Nat.le_antisymm hi (Nat.not_lt.mp hlt)
      refine W.done _ _ _ hst fun h₂ tk₂ hk₂ => ?_
      refine wpAny_execs_nil ?_
      exact done h₂ tk₂ m co (LCg.fr_but F' hk₂ hIL hI0) hk' (LCg.news_but N' hk₂ (fun p hp => by
        rcases List.mem_cons.mp hp with rfl | hp
        · exact hcI
        · exact hrI p hp))
  · subst hI
    show IsRangeIter _ _ _ _ _
    rw [hn]
    simpa using Heap.get?_push_size _ rfl
end
end Mine
end
section
open PySem PySem.W PyProof.Rows PySem.Calls PySem.Builtin PySem.Builtin.Str
namespace Mine
section
variable {prog : Program} {w : World} {A : Around} {E : Value → Shared → Prop} {s : Shared} {h₀ : Heap} {L : Addr} {m : Str → Option Value} {env : Env}
/-- [x for x in texts if test]: texts that are kept by a function of theirs -/
theorem comp_test {iter test : Expr} {x : Str} {px py : Pos} {scope : Scope} {cl : List (Str × Addr)} {pos : Pos} {Q : Value → Shared → Prop} (pz : Str → Bool) (F₀ : Fr h₀ L s.heap m)
    (hh : A.handled = none) (hclos : closureFor scope env = pure cl) (hcell : ∀ y ∈ scope.names, y.2 ≠ .cell) (hkind : scope.kind = .function)
    (hnames : ∀ y ∈ scope.names, y.2 = .local → scope.names.lookup y.1 = some .local) (hx : scope.names.lookup x = some .local) (hdx : (x == ("__debug__" : Str)) = false)
    (h : wpAny (model prog w) A (eval iter env) (fun xv s₁ => ∃ (news : List (Addr × Obj)) (ax : Addr) (vs : List Value) (k : Nat) (as : List Str), xv = .ref ax ∧ Fr h₀ L s₁.heap m ∧ News h₀ L s₁.heap news ∧ (ax, listOf vs.toArray k) ∈ news ∧ StrsAre vs as ∧ as.length ≤ 1000 ∧
      (∀ C a u s₂ m₂ E', a ∈ as → s₂.heap.Ns C m₂ → m₂ x = some (.str a u) → Fr h₀ L s₂.heap m → News h₀ L s₂.heap news →
        wpAny (model prog w) A (isTrue test (compEnvC scope cl C env) (eval test (compEnvC scope cl C env))) (fun ok s₃ => ok = pz a ∧ Keeps s₂ s₃) E' s₂) ∧
      (∀ D (ys : List Value) n h' tk, Fr h₀ L h' m → News h₀ L h' ((D, listOf ys.toArray n) :: news) → StrsAre ys (as.filter pz) → (∀ p ∈ news, p.1 ≠ D) → Q (.ref D) { s₁ with heap := h', toks := tk })) E s)
    (hs : ∀ x, foldedSetIterable iter env x = pure x) :
    wpAny (model prog w) A (eval (.ListComp (.Name x py) [⟨.Name x px, iter, [test], 0⟩] scope pos) env) Q E s := by
  refine ListComp_DCn (K := ItemKind.str) (h₀ := h₀) (L := L) (m := m) (pz := pz) (d := PyData.str) hh hclos hcell hkind hnames hx (wpAny_mono h (fun xv s₁ h₁ => ?_) fun _ _ e => e) hs
  obtain ⟨news, ax, vs, k, as, rfl, F, N, hm, hi, hsz, htest, hQ⟩ := h₁
  refine ⟨news, ax, vs, as, rfl, News.isList N hm, hi.areOf, Nat.le_trans hsz (by decide), F, N, ?_, ?_, ?_⟩
  · intro C a v s₂ m₂ E' hC ha hv hn hmx hk
    obtain ⟨u, rfl⟩ := ItemKind.str_is hv
    exact wpAny_tests_one (htest C a u s₂ m₂ E' ha hn hmx (F.keeps hk) (N.grown hk))
  · intro C a v s₂ m₂ E' hC ha hv hp hn hmx hk
    obtain ⟨u, rfl⟩ := ItemKind.str_is hv
    exact ldVarK hn hmx ⟨.str a u, s₂.heap, s₂.toks, rfl, fun _ _ e => e⟩ (by simp [compEnvC, relabel, hkind]) (lookup_relabel_local hx) hdx
  · intro D ys h' tk F' N' h0 hl hp hc
    obtain ⟨⟨n, hg⟩, hne⟩ := hp
    refine hQ D ys n h' tk F' (fun p hp => ?_) ?_ hne
    · rcases List.mem_cons.mp hp with rfl | hp
      · refine ⟨hg, ?_, h0⟩
        exact NewPlain.ne_locals ⟨⟨n, hg⟩, hne⟩ F'
      · exact N' p hp
    · have := CarriedAll.strsOf (f := fun a : Str => a) (as := as.filter pz) hc
      simpa using this
/-- a list of texts against the empty list -/
theorem eq_nil {D D' : Addr} {ys : List Value} {ss : List Str} {k k' : Nat} {news : List (Addr × Obj)} {Q : Value → Shared → Prop} (N : News h₀ L s.heap news) (hm : (D, listOf ys.toArray k) ∈ news) (hm' : (D', listOf #[] k') ∈ news) (hi : StrsAre ys ss) (hu : A.units < cLine)
    (h : Q (.bool (decide (ss = []))) s) : wpAny (model prog w) A (compareOp .Eq (.ref D) (.ref D')) Q E s := by
  have hl : s.heap.IsList D ys.toArray := News.isList N hm
  have hl' : s.heap.IsList D' #[] := News.isList N hm'
  cases hi with
  | nil =>
    refine SeqAt.eq_listAt (e := fun _ => true) hl hl' rfl hu (fun j h1 _ => absurd h1 (Nat.not_lt_zero _)) ?_
    simpa using h
  | cons y t r =>
    refine SeqAt.eq_list_lengthsAt hl hl' (by simp) hu ?_
    simpa using h
end
end Mine
end
section
open PySem PySem.W PyProof.Rows PySem.Calls PySem.Builtin PySem.Builtin.Str
namespace Mine
theorem draws3 (ns : List Int) : ∃ d0 d1 d2, ns.take 3 ++ List.drop (((ns.take 3).length : Int)).toNat [3, 11, 4] = [d0, d1, d2] ∧ (¬ 1 < ns.length → d2 = 4) := by
  rcases ns with _ | ⟨a, _ | ⟨b, _ | ⟨c, r⟩⟩⟩
  · exact ⟨3, 11, 4, rfl, fun _ => rfl⟩
  · exact ⟨a, 11, 4, rfl, fun _ => rfl⟩
  · exact ⟨a, b, 4, rfl, fun _ => rfl⟩
  · exact ⟨a, b, c, by simp, fun h => by simp at h⟩
theorem ints3 {us : List Value} {ns : List Int} (h : IntsAre us (ns.take 3 ++ List.drop (((ns.take 3).length : Int)).toNat [3, 11, 4])) :
    ∃ d0 d1 d2 t0 t1 t2, us = [.int d0 t0, .int d1 t1, .int d2 t2] ∧ ns.take 3 ++ List.drop (((ns.take 3).length : Int)).toNat [3, 11, 4] = [d0, d1, d2] ∧ (¬ 1 < ns.length → d2 = 4) := by
  obtain ⟨d0, d1, d2, e, h4⟩ := draws3 ns
  have e' := e
  rw [e] at h
  obtain ⟨t0, v1, e1, h⟩ := IntsAre.cons_inv h
  obtain ⟨t1, v2, e2, h⟩ := IntsAre.cons_inv h
  obtain ⟨t2, v3, e3, h⟩ := IntsAre.cons_inv h
  cases h
  exact ⟨d0, d1, d2, t0, t1, t2, by rw [e1, e2, e3], e', h4⟩
theorem drop_5 {h₀ h : Heap} {L : Addr} {a b c d e f : Addr × Obj} {r : List (Addr × Obj)} (N : News h₀ L h (a :: b :: c :: d :: e :: f :: r)) : News h₀ L h (a :: r) :=
  fun p hp => N p ((List.mem_cons.mp hp).elim (fun e => by rw [e]; exact List.mem_cons_self ..) fun e => .tail _ (.tail _ (.tail _ (.tail _ (.tail _ (.tail _ e))))))
def sgK (i n : Nat) : Str := ⟨((menuL.drop i).take n).toArray⟩
def SgIs (sg : Str) (x : Int) (n : Nat) : Prop := sg = sgK (x.fmod 8).toNat n ∧ sg.length = n
theorem sg_slice {x : Int} {n : Nat} (hn : n ≤ 5) : SgIs (Txt.slice (Str.ofString "+-*/|&<>=%^@") (some (x.fmod 8)) (some (x.fmod 8 + (n : Int)))) x n := by
  have h0 := Int.fmod_nonneg_of_pos x (show (0 : Int) < 8 by decide)
  have h8 := Int.fmod_lt_of_pos x (show (0 : Int) < 8 by decide)
  obtain ⟨k, hk⟩ := Int.eq_ofNat_of_zero_le h0
  have hl : (Str.ofString "+-*/|&<>=%^@").length = 12 := by decide
  rw [hk, show ((k : Nat) : Int) + (n : Int) = ((k + n : Nat) : Int) from rfl]
  have e : Txt.slice (Str.ofString "+-*/|&<>=%^@") (some (k : Int)) (some ((k + n : Nat) : Int)) = sgK k n := by
    rw [slice_mid (by omega) (by omega)]
    have : (Str.ofString "+-*/|&<>=%^@").cps.toList = menuL := by decide
    rw [this, Nat.add_sub_cancel_left]
    rfl
  refine ⟨by rw [e, hk]; rfl, ?_⟩
  rw [e]
  simp only [sgK, Str.length, List.size_toArray, List.length_take, List.length_drop, menuL, List.length_cons, List.length_nil]
  omega
section
variable {prog : Program} {w : World} {A : Around} {E : Value → Shared → Prop} {s : Shared} {h₀ : Heap} {L : Addr} {m : Str → Option Value} {news : List (Addr × Obj)} {Q : Value → Shared → Prop}
theorem slice_sg {value slice : Expr} {t : Tok} {x : Int} {n : Nat} {i j : Int} {ui uj : Tok} (hn : n ≤ 5) (hi : i = x.fmod 8) (hj : j = x.fmod 8 + (n : Int)) (hF : Fr h₀ L s.heap m) (hN : News h₀ L s.heap news) (h : ∀ sg h' t' k, Fr h₀ L h' m → News h₀ L h' news → SgIs sg x n → Q (.str sg t') { s with heap := h', toks := k })
    (hs : subscripted slice false (.str (Str.ofString "+-*/|&<>=%^@") t) (.ref s.heap.objs.size) = operate [.ref s.heap.objs.size, .str (Str.ofString "+-*/|&<>=%^@") t] (getItem (.str (Str.ofString "+-*/|&<>=%^@") t) (.ref s.heap.objs.size)))
    (ht : ∀ r, letTemporaryGo value (.str (Str.ofString "+-*/|&<>=%^@") t) r = pure ()) :
    wpAny (model prog w) A (subscriptTail value slice (.str (Str.ofString "+-*/|&<>=%^@") t) (.ref s.heap.objs.size)) Q E { s with heap := s.heap.push { cls := .type "slice", data := .fields #[.int i ui, .int j uj, .none] } } := by
  subst hi hj
  exact slice_strN_ss hF hN (fun h' t' k a b => h _ h' t' k a b (sg_slice hn)) hs ht (by exact Nat.le_of_ble_eq_true rfl)
end
/-- the five cells: signs, orders, turned, leads, k -/
abbrev cellsOf (L : Addr) (o1 o2 o3 o4 o5 : Obj) : List (Addr × Obj) := [(L + 1 + 1 + 1 + 1 + 1, o5), (L + 1 + 1 + 1 + 1, o4), (L + 1 + 1 + 1, o3), (L + 1 + 1, o2), (L + 1, o1)]
/-- behind the draws and the size -/
def RA (h₀ : Heap) (L : Addr) (cells : List (Addr × Obj)) (s s' : Shared) : Prop :=
  ∃ (d0 d1 d2 : Int) (t0 t1 t2 tn : Tok) (D : Addr) (c n : Nat) (h : Heap) (tk : Nat) (m : Str → Option Value), s' = { s with heap := h, toks := tk } ∧ Fr h₀ L h m ∧ m (Str.ofString "draws") = some (.ref D) ∧ m (Str.ofString "size") = some (.int (n : Int) tn) ∧
    News h₀ L h ((D, listOf #[.int d0 t0, .int d1 t1, .int d2 t2] c) :: cells) ∧ (n = 5 ∨ n = 4 ∧ d2 = 4) ∧ (∀ p ∈ cells, p.1 < D)
/-- behind start, signs, shortest -/
def RB (h₀ : Heap) (L D : Addr) (oD o2 o3 o4 o5 : Obj) (d2 : Int) (n : Nat) (s s' : Shared) : Prop :=
  ∃ (sg : Str) (ts tt : Tok) (sh : Int) (o1 : Obj) (h : Heap) (tk : Nat) (m : Str → Option Value), s' = { s with heap := h, toks := tk } ∧ Fr h₀ L h m ∧ m (Str.ofString "draws") = some (.ref D) ∧ m (Str.ofString "shortest") = some (.int sh ts) ∧
    News h₀ L h ((D, oD) :: cellsOf L o1 o2 o3 o4 o5) ∧ o1.data = .cell (some (.str sg tt)) ∧ SgIs sg d2 n ∧ sh = (if n = 5 then 34 else 17)
/-- the ledger: the five cells, and the rest -/
abbrev cellsR (L : Addr) (c1 c2 c3 c4 c5 : Obj) (R : List (Addr × Obj)) : List (Addr × Obj) := (L + 1 + 1 + 1 + 1 + 1, c5) :: (L + 1 + 1 + 1 + 1, c4) :: (L + 1 + 1 + 1, c3) :: (L + 1 + 1, c2) :: (L + 1, c1) :: R
/-- the rest is off the cells that are still stored into -/
def OffC (L : Addr) (R : List (Addr × Obj)) : Prop := ∀ p ∈ R, @Ne Nat p.1 (L + 1 + 1 + 1) ∧ @Ne Nat p.1 (L + 1 + 1 + 1 + 1) ∧ @Ne Nat p.1 (L + 1 + 1 + 1 + 1 + 1)
theorem OffC.a {L : Addr} {R : List (Addr × Obj)} (h : OffC L R) : ∀ p ∈ R, p.1 ≠ L + 1 + 1 + 1 := fun p hp => (h p hp).1
theorem OffC.b {L : Addr} {R : List (Addr × Obj)} (h : OffC L R) : ∀ p ∈ R, p.1 ≠ L + 1 + 1 + 1 + 1 := fun p hp => (h p hp).2.1
theorem OffC.c {L : Addr} {R : List (Addr × Obj)} (h : OffC L R) : ∀ p ∈ R, p.1 ≠ L + 1 + 1 + 1 + 1 + 1 := fun p hp => (h p hp).2.2
theorem OffC.nil {L : Addr} : OffC L [] := fun _ h => nomatch h
theorem OffC.cons {L : Addr} {R : List (Addr × Obj)} {p : Addr × Obj} (h : OffC L R) (a : @Ne Nat p.1 (L + 1 + 1 + 1)) (b : @Ne Nat p.1 (L + 1 + 1 + 1 + 1)) (c : @Ne Nat p.1 (L + 1 + 1 + 1 + 1 + 1)) : OffC L (p :: R) := fun q hq => (List.mem_cons.mp hq).elim (fun e => e ▸ ⟨a, b, c⟩) (h q)
section
variable {h₀ h : Heap} {L : Addr} {a b c d e x y z : Addr × Obj} {c1 c2 c3 c4 c5 : Obj} {R : List (Addr × Obj)}
theorem toR1 (N : News h₀ L h (x :: cellsR L c1 c2 c3 c4 c5 R)) : News h₀ L h (cellsR L c1 c2 c3 c4 c5 (x :: R)) := fun p hp => N p (by
  simp only [cellsR, List.mem_cons] at hp ⊢
  rcases hp with h | h | h | h | h | h | h <;> simp [h])
theorem toR3 (N : News h₀ L h (x :: y :: z :: cellsR L c1 c2 c3 c4 c5 R)) : News h₀ L h (cellsR L c1 c2 c3 c4 c5 (x :: y :: z :: R)) := fun p hp => N p (by
  simp only [cellsR, List.mem_cons] at hp ⊢
  rcases hp with h | h | h | h | h | h | h | h | h <;> simp [h])
theorem drop_2 (N : News h₀ L h (a :: b :: c :: cellsR L c1 c2 c3 c4 c5 R)) : News h₀ L h (cellsR L c1 c2 c3 c4 c5 (a :: R)) := fun p hp => N p (by
  simp only [cellsR, List.mem_cons] at hp ⊢
  rcases hp with h | h | h | h | h | h | h <;> simp [h])
end
section
variable {h₀ h' : Heap} {L I C D A : Addr} {m : Str → Option Value} {s₁ : Shared} {oI oC oD o : Obj} {S : List (Addr × Obj) → Prop} {rest : Value → List (Addr × Obj) → Prop} {y : Value} {tk : Nat} {news : List (Addr × Obj)}
theorem compEnd1 (F : Fr h₀ L h' m) (N : News h₀ L h' ((A, o) :: (I, oI) :: (C, oC) :: (D, oD) :: news)) (l : ∀ p ∈ (I, oI) :: (C, oC) :: (D, oD) :: news, p.1 < A) (off : LCg.Off3 I C D news) (hS : S ((A, o) :: news)) (r : rest y ((A, o) :: news)) :
    LCg.CompEnd h₀ L m s₁ I oI C oC D oD S rest y { s₁ with heap := h', toks := tk } :=
  LCg.CompEnd.intro F N ((A, o) :: news) (fun p hp => by
      simp only [List.mem_cons] at hp ⊢
      rcases hp with h | h | h | h | h <;> simp [h])
    ⟨⟨Nat.ne_of_gt (l _ (.head _)), Nat.ne_of_gt (l _ (.tail _ (.head _))), Nat.ne_of_gt (l _ (.tail _ (.tail _ (.head _))))⟩, off⟩ hS r
end
theorem len_sp : (Str.ofString " ").length = 1 := by decide
theorem c_wsV (w : World) (ws : Str) (t1 : Tok) (news : List (Addr × Obj)) (v : List Int × Nat × Nat × Nat) (hs : ws.length ≤ 100) (hv : wsP ws = v) : Cl w 30 90 news [.str ws t1] (RW w ws t1 v news) := hv ▸ c_ws w ws t1 news hs
section
variable {h₀ h' : Heap} {L I C D T U X G : Addr} {m : Str → Option Value} {s₁ : Shared} {oI oC oD oT oU oX oG : Obj} {S : List (Addr × Obj) → Prop} {rest : Value → List (Addr × Obj) → Prop} {y : Value} {tk : Nat} {news : List (Addr × Obj)}
theorem compEnd4 (F : Fr h₀ L h' m) (N : News h₀ L h' ((T, oT) :: (U, oU) :: (X, oX) :: (G, oG) :: (I, oI) :: (C, oC) :: (D, oD) :: news)) (o : @LT.lt Nat _ G X ∧ @LT.lt Nat _ X U ∧ @LT.lt Nat _ U T) (l : ∀ p ∈ (I, oI) :: (C, oC) :: (D, oD) :: news, p.1 < G) (off : LCg.Off3 I C D news)
    (hS : S ((T, oT) :: (U, oU) :: (X, oX) :: (G, oG) :: news)) (r : rest y ((T, oT) :: (U, oU) :: (X, oX) :: (G, oG) :: news)) :
    LCg.CompEnd h₀ L m s₁ I oI C oC D oD S rest y { s₁ with heap := h', toks := tk } := by
  have i1 : @LT.lt Nat _ I G := l _ (.head _)
  have i2 : @LT.lt Nat _ C G := l _ (.tail _ (.head _))
  have i3 : @LT.lt Nat _ D G := l _ (.tail _ (.tail _ (.head _)))
  exact LCg.CompEnd.intro F N ((T, oT) :: (U, oU) :: (X, oX) :: (G, oG) :: news) (fun p hp => by
      simp only [List.mem_cons] at hp ⊢
      rcases hp with h | h | h | h | h | h | h | h <;> simp [h])
    ⟨⟨neN (by omega), neN (by omega), neN (by omega)⟩, ⟨neN (by omega), neN (by omega), neN (by omega)⟩, ⟨neN (by omega), neN (by omega), neN (by omega)⟩, ⟨neN (by omega), neN (by omega), neN (by omega)⟩, off⟩ hS r
end
theorem WsIn.mono {w : World} {news news' : List (Addr × Obj)} {x : Addr} {v : List Int × Nat × Nat × Nat} (h : WsIn w news x v) (s : ∀ p ∈ news, p ∈ news') : WsIn w news' x v := by
  obtain ⟨dx, T, U, us, ws, t1, k1, k2, k3, k4, k5, tn, tt, tb, m1, m2, m3, m4, hI⟩ := h
  exact ⟨dx, T, U, us, ws, t1, k1, k2, k3, k4, k5, tn, tt, tb, s _ m1, s _ m2, s _ m3, s _ m4, hI⟩
theorem toR9 {h₀ h : Heap} {L : Addr} {z a1 a2 a3 a4 b1 b2 b3 b4 : Addr × Obj} {c1 c2 c3 c4 c5 : Obj} {R : List (Addr × Obj)} (N : News h₀ L h (z :: a1 :: a2 :: a3 :: a4 :: b1 :: b2 :: b3 :: b4 :: cellsR L c1 c2 c3 c4 c5 R)) : News h₀ L h (cellsR L c1 c2 c3 c4 c5 (z :: a1 :: a2 :: a3 :: a4 :: b1 :: b2 :: b3 :: b4 :: R)) := fun p hp => N p (by
  simp only [cellsR, List.mem_cons] at hp ⊢
  rcases hp with h | h | h | h | h | h | h | h | h | h | h | h | h | h | h <;> simp [h])
section
variable {prog : Program} {w : World} {A : Around} {E : Value → Shared → Prop} {s : Shared} {h₀ : Heap} {L D : Addr} {m : Str → Option Value} {news : List (Addr × Obj)} {Q : Value → Shared → Prop} {value slice : Expr} {v0 v1 x : Value} {k : Nat} {i : Int} {u : Tok}
/-- an item of a list of two -/
theorem item2 (N : News h₀ L s.heap news) (hm : (D, listOf #[v0, v1] k) ∈ news) (hi : i = 0 ∧ x = v0 ∨ i = 1 ∧ x = v1) (h : Q x s)
    (hs : subscripted slice false (.ref D) (.int i u) = operate [.ref D, .int i u] (getItem (.ref D) (.int i u))) (hg : ∀ r, letTemporaryGo value (.ref D) r = pure ()) :
    wpAny (model prog w) A (subscriptTail value slice (.ref D) (.int i u)) Q E s := by
  have hl : s.heap.IsList D #[v0, v1] := News.isList N hm
  rcases hi with ⟨rfl, rfl⟩ | ⟨rfl, rfl⟩
  · exact PyProof.Rows.item_list hl (by decide) (by decide) rfl h hs hg
  · exact PyProof.Rows.item_list hl (by decide) (by decide) rfl h hs hg
end
theorem offC4 {L T U X G : Addr} {oT oU oX oG : Obj} {R : List (Addr × Obj)} (h : OffC L R) (o : @LT.lt Nat _ G X ∧ @LT.lt Nat _ X U ∧ @LT.lt Nat _ U T) (l : @LT.lt Nat _ (L + 1 + 1 + 1 + 1 + 1) G) : OffC L ((T, oT) :: (U, oU) :: (X, oX) :: (G, oG) :: R) := by
  refine OffC.cons (OffC.cons (OffC.cons (OffC.cons h ?_ ?_ ?_) ?_ ?_ ?_) ?_ ?_ ?_) ?_ ?_ ?_ <;> (dsimp only; omega)
theorem sub9 {z a1 a2 a3 a4 b1 b2 b3 b4 : Addr × Obj} {R : List (Addr × Obj)} : ∀ p ∈ R, p ∈ z :: a1 :: a2 :: a3 :: a4 :: b1 :: b2 :: b3 :: b4 :: R := fun p hp => by simp [hp]
section
variable {w : World} {X G T U : Addr} {us : List Value} {ws : Str} {t1 k1 k2 k3 k4 k5 tn tt tb : Tok} {v : List Int × Nat × Nat × Nat} {z a1 a2 a3 a4 : Addr × Obj} {R : List (Addr × Obj)}
theorem wsIn1 (hI : IntsAre us v.1) : WsIn w (z :: (T, tupOf [.ref U, .int (v.2.1 : Int) tb]) :: (U, tupOf us) :: (X, instObj 90 G) :: (G, wsD w ws t1 v.2.2.1 v.2.2.2 T (decide ((v.1.length : Int) ≤ 1)) k1 k2 k3 k4 k5 tn tt) :: R) X v :=
  ⟨G, T, U, us, ws, t1, k1, k2, k3, k4, k5, tn, tt, tb, .tail _ (.tail _ (.tail _ (.head _))), .tail _ (.tail _ (.tail _ (.tail _ (.head _)))), .tail _ (.head _), .tail _ (.tail _ (.head _)), hI⟩
theorem wsIn2 (hI : IntsAre us v.1) : WsIn w (z :: a1 :: a2 :: a3 :: a4 :: (T, tupOf [.ref U, .int (v.2.1 : Int) tb]) :: (U, tupOf us) :: (X, instObj 90 G) :: (G, wsD w ws t1 v.2.2.1 v.2.2.2 T (decide ((v.1.length : Int) ≤ 1)) k1 k2 k3 k4 k5 tn tt) :: R) X v :=
  ⟨G, T, U, us, ws, t1, k1, k2, k3, k4, k5, tn, tt, tb, .tail _ (.tail _ (.tail _ (.tail _ (.tail _ (.tail _ (.tail _ (.head _))))))), .tail _ (.tail _ (.tail _ (.tail _ (.tail _ (.tail _ (.tail _ (.tail _ (.head _)))))))), .tail _ (.tail _ (.tail _ (.tail _ (.tail _ (.head _))))), .tail _ (.tail _ (.tail _ (.tail _ (.tail _ (.tail _ (.head _)))))), hI⟩
end
section
variable {prog : Program} {w : World} {A : Around} {h₀ : Heap} {L : Addr} {m : Str → Option Value} {env : Env}
theorem srcAtL {ax : Addr} {its : Array Value} {k : Nat} {news : List (Addr × Obj)} (hm : (ax, listOf its k) ∈ news) : LCg.SrcAt h₀ ax its news := Or.inr ⟨_, hm, rfl, _, rfl⟩
theorem compSrcL {elt : Expr} {x : Str} {scope : Scope} {cl : List (Str × Addr)} {Fin : Shared → List Value → List (Addr × Obj) → Prop} {ax : Addr} {its : Array Value} {k : Nat} {news : List (Addr × Obj)} {s₁ : Shared}
    (hh : A.handled = none) (F : Fr h₀ L s₁.heap m) (N : News h₀ L s₁.heap news) (hm : (ax, listOf its k) ∈ news) (hsz : its.size ≤ sizeLine)
    (h : ∀ g, LCg.CompRest prog w A h₀ L m env elt x scope cl { s₁ with heap := g } (LCg.SrcAt h₀ ax its) (fun i v => its[i]? = some v) (Fin { s₁ with heap := g }) its.size 0 [] news) :
    LCg.CompSrc prog w A h₀ L m env elt x scope cl Fin (.ref ax) s₁ := LCg.CompSrc.ledger hh F N hm hsz h
end
theorem wsIn0 {w : World} {X G T U : Addr} {us : List Value} {ws : Str} {t1 k1 k2 k3 k4 k5 tn tt tb : Tok} {v : List Int × Nat × Nat × Nat} {R : List (Addr × Obj)} (hI : IntsAre us v.1) :
    WsIn w ((T, tupOf [.ref U, .int (v.2.1 : Int) tb]) :: (U, tupOf us) :: (X, instObj 90 G) :: (G, wsD w ws t1 v.2.2.1 v.2.2.2 T (decide ((v.1.length : Int) ≤ 1)) k1 k2 k3 k4 k5 tn tt) :: R) X v :=
  ⟨G, T, U, us, ws, t1, k1, k2, k3, k4, k5, tn, tt, tb, .tail _ (.tail _ (.head _)), .tail _ (.tail _ (.tail _ (.head _))), .head _, .tail _ (.head _), hI⟩
theorem c_equalS (w : World) (x y : Addr) (v : List Int × Nat × Nat × Nat) (news : List (Addr × Obj)) (hx : WsIn w news x v) (hy : WsIn w news y v) : Cl w 10 66 news [.ref x, .ref y] (RV news fun _ => .bool true) := by
  have h := c_equal w x y v v news hx hy
  simpa using h
section
variable {prog : Program} {w : World} {A : Around} {E : Value → Shared → Prop} {s : Shared} {h₀ : Heap} {L D : Addr} {news : List (Addr × Obj)} {Q : Value → Shared → Prop}
theorem ne_same {i j : Int} {t u : Tok} (e : i = j) (h : Q (.bool false) s) : wpAny (model prog w) A (compareOp .NotEq (.int i t) (.int j u)) Q E s := by
  subst e
  refine PyProof.Rows.ne_int ?_
  simpa using h
theorem isnot_same {x y : Bool} (e : x = y) (h : Q (.bool false) s) : wpAny (model prog w) A (compareOp .IsNot (.bool x) (.bool y)) Q E s := by
  subst e
  exact wpAny_isNot_self (by rfl) h
theorem is_same {x y : Bool} (e : x = y) (h : Q (.bool true) s) : wpAny (model prog w) A (compareOp .Is (.bool x) (.bool y)) Q E s := by
  subst e
  exact wpAny_is_self (by rfl) h
theorem notin_strsL {us : List Value} {ss : List Str} {k : Nat} {p : Str} {t : Tok} (N : News h₀ L s.heap news) (hm : (D, listOf us.toArray k) ∈ news) (hi : StrsAre us ss) (h : Q (.bool (!(ss.any (· == p)))) s) :
    wpAny (model prog w) A (compareOp .NotIn (.str p t) (.ref D)) Q E s := notin_list_strs (News.isList N hm) hi h
theorem len_strsL {us : List Value} {ss : List Str} {k : Nat} (N : News h₀ L s.heap news) (hm : (D, listOf us.toArray k) ∈ news) (hi : StrsAre us ss) (hz : ss.length ≤ 1000) (h : ∀ t tk, Q (.int (ss.length : Int) t) { s with toks := tk }) :
    wpAny (model prog w) A (call (.builtin "len") [.ref D]) Q E s := by
  have hl : s.heap.IsList D us.toArray := News.isList N hm
  have e : us.toArray.size = ss.length := by rw [List.size_toArray, hi.length]
  refine PyProof.Rows.len_list hl (by rw [e]; omega) ?_
  rw [e]
  exact h _ _
end
/-- behind orders -/
def RC (sg o0 o1 : Str) (sh : Int) (h₀ : Heap) (L : Addr) (s s' : Shared) : Prop :=
  ∃ (ts tg t0 t1 : Tok) (O : Addr) (c : Nat) (c1 c2 c3 c4 c5 : Obj) (v3 v4 v5 : Option Value) (R : List (Addr × Obj)) (h : Heap) (tk : Nat) (m : Str → Option Value), s' = { s with heap := h, toks := tk } ∧ Fr h₀ L h m ∧ m (Str.ofString "shortest") = some (.int sh ts) ∧
    News h₀ L h (cellsR L c1 c2 c3 c4 c5 R) ∧ c1.data = .cell (some (.str sg tg)) ∧ c2.data = .cell (some (.ref O)) ∧ c3.data = .cell v3 ∧ c4.data = .cell v4 ∧ c5.data = .cell v5 ∧ (O, listOf #[.str o0 t0, .str o1 t1] c) ∈ R ∧ OffC L R
/-- behind least -/
def RD (r0 r1 : Str) (sh : Int) (c1 c2 c3 c4 c5 : Obj) (R : List (Addr × Obj)) (h₀ : Heap) (L : Addr) (s s' : Shared) : Prop :=
  ∃ (ts t0 t1 : Tok) (U : Addr) (c : Nat) (h : Heap) (tk : Nat) (m : Str → Option Value), s' = { s with heap := h, toks := tk } ∧ Fr h₀ L h m ∧ m (Str.ofString "shortest") = some (.int sh ts) ∧ m (Str.ofString "least") = some (.ref U) ∧
    News h₀ L h (cellsR L c1 c2 c3 c4 c5 ((U, listOf #[.str r0 t0, .str r1 t1] c) :: R)) ∧ OffC L ((U, listOf #[.str r0 t0, .str r1 t1] c) :: R)
/-- behind turned -/
def RE (T0 T1 : List Str) (sh : Int) (U : Addr) (c1 c2 c4 c5 : Obj) (R : List (Addr × Obj)) (h₀ : Heap) (L : Addr) (s s' : Shared) : Prop :=
  ∃ (ts : Tok) (X A0 A1 : Addr) (k k0 k1 : Nat) (u0 u1 : List Value) (c3 : Obj) (h : Heap) (tk : Nat) (m : Str → Option Value), s' = { s with heap := h, toks := tk } ∧ Fr h₀ L h m ∧ m (Str.ofString "shortest") = some (.int sh ts) ∧ m (Str.ofString "least") = some (.ref U) ∧
    News h₀ L h (cellsR L c1 c2 c3 c4 c5 ((X, listOf #[.ref A0, .ref A1] k) :: (A1, listOf u1.toArray k1) :: (A0, listOf u0.toArray k0) :: R)) ∧ c3.data = .cell (some (.ref X)) ∧ StrsAre u0 T0 ∧ StrsAre u1 T1 ∧
    OffC L ((X, listOf #[.ref A0, .ref A1] k) :: (A1, listOf u1.toArray k1) :: (A0, listOf u0.toArray k0) :: R)
/-- behind leads -/
def RF (l0 l1 : Str) (sh : Int) (U : Addr) (c1 c2 c3 c5 : Obj) (R : List (Addr × Obj)) (h₀ : Heap) (L : Addr) (s s' : Shared) : Prop :=
  ∃ (ts t0 t1 : Tok) (Y : Addr) (c : Nat) (c4 : Obj) (h : Heap) (tk : Nat) (m : Str → Option Value), s' = { s with heap := h, toks := tk } ∧ Fr h₀ L h m ∧ m (Str.ofString "shortest") = some (.int sh ts) ∧ m (Str.ofString "least") = some (.ref U) ∧
    News h₀ L h (cellsR L c1 c2 c3 c4 c5 ((Y, listOf #[.str l0 t0, .str l1 t1] c) :: R)) ∧ c4.data = .cell (some (.ref Y)) ∧ OffC L ((Y, listOf #[.str l0 t0, .str l1 t1] c) :: R)
/-- behind lines -/
def RG (Va Vb : List Int × Nat × Nat × Nat) (sh : Int) (U : Addr) (c1 c2 c3 c4 c5 : Obj) (R : List (Addr × Obj)) (w : World) (h₀ : Heap) (L : Addr) (s s' : Shared) : Prop :=
  ∃ (ts : Tok) (Z x0 x1 : Addr) (k : Nat) (R' : List (Addr × Obj)) (h : Heap) (tk : Nat) (m : Str → Option Value), s' = { s with heap := h, toks := tk } ∧ Fr h₀ L h m ∧ m (Str.ofString "shortest") = some (.int sh ts) ∧ m (Str.ofString "least") = some (.ref U) ∧ m (Str.ofString "lines") = some (.ref Z) ∧
    News h₀ L h (cellsR L c1 c2 c3 c4 c5 R') ∧ (∀ p ∈ R, p ∈ R') ∧ (Z, listOf #[.ref x0, .ref x1] k) ∈ R' ∧ WsIn w R' x0 Va ∧ WsIn w R' x1 Vb ∧ OffC L R'
/-- behind above -/
def RH (Wa Wb : List Int × Nat × Nat × Nat) (sh : Int) (U Z : Addr) (c1 c2 c3 c4 c5 : Obj) (R : List (Addr × Obj)) (w : World) (h₀ : Heap) (L : Addr) (s s' : Shared) : Prop :=
  ∃ (ts : Tok) (B x0 x1 : Addr) (k : Nat) (R' : List (Addr × Obj)) (h : Heap) (tk : Nat) (m : Str → Option Value), s' = { s with heap := h, toks := tk } ∧ Fr h₀ L h m ∧ m (Str.ofString "shortest") = some (.int sh ts) ∧ m (Str.ofString "least") = some (.ref U) ∧ m (Str.ofString "lines") = some (.ref Z) ∧ m (Str.ofString "above") = some (.ref B) ∧
    News h₀ L h (cellsR L c1 c2 c3 c4 c5 R') ∧ (∀ p ∈ R, p ∈ R') ∧ (B, listOf #[.ref x0, .ref x1] k) ∈ R' ∧ WsIn w R' x0 Wa ∧ WsIn w R' x1 Wb ∧ OffC L R'
section
variable {prog : Program} {w : World} {A : Around} {E : Value → Shared → Prop} {env : Env} {Q : Flow → Shared → Prop} {pre rest : List Stmt} {s : Shared} {h₀ : Heap} {L D : Addr} {m₀ : Str → Option Value} {cells : List (Addr × Obj)} {oD o1 o2 o3 o4 o5 : Obj}
theorem cutA (F : Fr h₀ L s.heap m₀) (N : News h₀ L s.heap cells)
    (h1 : wpAny (model prog w) A (execs pre env) (fun f s' => f = .next ∧ RA h₀ L cells s s') E s) (h2 : ∀ s', RA h₀ L cells s s' → wpAny (model prog w) A (execs rest env) Q E s') : wpAny (model prog w) A (execs (pre ++ rest) env) Q E s := cut_app h1 h2
theorem cutB (d2 : Int) (n : Nat) (F : Fr h₀ L s.heap m₀) (N : News h₀ L s.heap ((D, oD) :: cellsOf L o1 o2 o3 o4 o5))
    (h1 : wpAny (model prog w) A (execs pre env) (fun f s' => f = .next ∧ RB h₀ L D oD o2 o3 o4 o5 d2 n s s') E s) (h2 : ∀ s', RB h₀ L D oD o2 o3 o4 o5 d2 n s s' → wpAny (model prog w) A (execs rest env) Q E s') : wpAny (model prog w) A (execs (pre ++ rest) env) Q E s := cut_app h1 h2
theorem cutR (R : Heap → Addr → Shared → Shared → Prop) (F : Fr h₀ L s.heap m₀)
    (h1 : wpAny (model prog w) A (execs pre env) (fun f s' => f = .next ∧ R h₀ L s s') E s) (h2 : ∀ s', R h₀ L s s' → wpAny (model prog w) A (execs rest env) Q E s') : wpAny (model prog w) A (execs (pre ++ rest) env) Q E s := cut_app h1 h2
theorem cutW (R : World → Heap → Addr → Shared → Shared → Prop) (F : Fr h₀ L s.heap m₀)
    (h1 : wpAny (model prog w) A (execs pre env) (fun f s' => f = .next ∧ R w h₀ L s s') E s) (h2 : ∀ s', R w h₀ L s s' → wpAny (model prog w) A (execs rest env) Q E s') : wpAny (model prog w) A (execs (pre ++ rest) env) Q E s := cut_app h1 h2
theorem cutN (R : List (Addr × Obj) → Heap → Addr → Shared → Shared → Prop) (F : Fr h₀ L s.heap m₀) (N : News h₀ L s.heap cells)
    (h1 : wpAny (model prog w) A (execs pre env) (fun f s' => f = .next ∧ R cells h₀ L s s') E s) (h2 : ∀ s', R cells h₀ L s s' → wpAny (model prog w) A (execs rest env) Q E s') : wpAny (model prog w) A (execs (pre ++ rest) env) Q E s := cut_app h1 h2
end
/-- what the plain law says of one order: its least one r, what it tells t, the turned pairs T, the counts V of a line and W of a line with a blank more -/
structure PRow where
  r : Str
  t : List Int
  T : List Str
  V : List Int × Nat × Nat × Nat
  W : List Int × Nat × Nat × Nat
def VOk (v : List Int × Nat × Nat × Nat) : Prop := v.1.length ≤ 100 ∧ v.2.1 ≤ 100 ∧ v.2.2.1 ≤ 100 ∧ v.2.2.2 ≤ 100 ∧ ∀ c ∈ v.1, 0 ≤ c ∧ c ≤ 100
theorem VOk.a {v : List Int × Nat × Nat × Nat} (h : VOk v) : v.1.length ≤ 100 := h.1
theorem VOk.b {v : List Int × Nat × Nat × Nat} (h : VOk v) : v.2.1 ≤ 100 := h.2.1
theorem VOk.c {v : List Int × Nat × Nat × Nat} (h : VOk v) : v.2.2.1 ≤ 100 := h.2.2.1
theorem VOk.d {v : List Int × Nat × Nat × Nat} (h : VOk v) : v.2.2.2 ≤ 100 := h.2.2.2.1
theorem VOk.e {v : List Int × Nat × Nat × Nat} (h : VOk v) : ∀ c ∈ v.1, 0 ≤ c ∧ c ≤ 100 := h.2.2.2.2
structure OrdOk (sg : Str) (n : Nat) (sh : Int) (o : Str) (a : PRow) : Prop where
  ol : o.length = n
  oin : ∀ c ∈ o.cps.toList, c ∈ sg.cps.toList
  run : leastRun sg 100 (o, 0) = some a.r
  told : toldP o = some a.t
  rl : a.r.length = n
  rin : ∀ c ∈ a.r.cps.toList, c ∈ sg.cps.toList
  rtold : toldP a.r = some a.t
  turned : turnedP sg a.r = a.T
  tl : a.t.length = n
  tb : ∀ x ∈ a.t, 0 ≤ x ∧ x ≤ 10
  ll : (leadP n a.t).length ≤ 50
  v : wsP (leadP n a.t ++ o) = a.V
  vr : wsP (leadP n a.t ++ a.r) = a.V
  ww : wsP (leadP n a.t ++ Str.ofString " " ++ o) = a.W
  vok : VOk a.V
  wok : VOk a.W
  vn : (a.V.2.2.1 : Int) = sh + (a.T.length : Int)
def notIn (x y : List Str) : List Str := x.filter fun p => !(y.any (· == p))
structure PairOk (a b : PRow) : Prop where
  less : lessP a.V b.W = decide (notIn a.T b.T = [])
  same : decide (a.V.1 = b.V.1 ∧ a.V.2.1 = b.V.2.1) = (a.r == b.r)
def Plain : Prop := ∀ (sg : Str) (x d0 d1 sh : Int) (n : Nat), SgIs sg x n → (n = 5 ∨ n = 4 ∧ x = 4) → sh = (if n = 5 then 34 else 17) → (∀ c ∈ sg.cps.toList, c ∈ menuL) ∧
  ∃ a b, OrdOk sg n sh (orderP sg (d0.fmod 120)) a ∧ OrdOk sg n sh (orderP sg (d1.fmod 120)) b ∧ PairOk a b ∧ PairOk b a
theorem kw_lx0 : True := by
  k_with_none
  k_with "call ref" => (k_here; (with_reducible show wpAny _ _ (call (Value.ref 125) _) _ _ _); k_dflt (refine cl_go (by k_asm) (by k_asm) (by k_asm) (by k_asm) (by k_asm) (by first | exact rfl | assumption) (by ktr_room) (by ktr_units) (c_turned _ _ _ _ _ _ (by first | assumption | omega) (by omega) (by with_reducible assumption)) ?_); intro D9 u9 n9 h9 tk9 F9 N9 S9 l9; (have l9k := l9); (k_lt l9k); (try dsimp only))
  k_with "call ref" => (k_here; (with_reducible show wpAny _ _ (call (Value.ref 137) _) _ _ _); k_dflt (refine cl_go (by k_asm) (by k_asm) (by k_asm) (by k_asm) (by k_asm) (by first | exact rfl | assumption) (by ktr_room) (by ktr_units) (c_lead _ _ _ _ (by omega) (by with_reducible assumption) _ (by with_reducible assumption) (by with_reducible assumption) (by with_reducible assumption)) ?_); intro _ _ _ _ _; (try dsimp only))
  k_with "call ref" => (k_here; (with_reducible show wpAny _ _ (call (Value.ref 90) _) _ _ _); k_dflt (refine cl_go (by k_asm) (by k_asm) (by k_asm) (by k_asm) (by k_asm) (by first | exact rfl | assumption) (by ktr_room) (by ktr_units) (c_wsV _ _ _ _ _ (by (simp only [Str.length_append, len_sp]; omega)) (by with_reducible assumption)) ?_); intro x9W9 g9W9 T9W9 U9W9 us9W9 k19W9 k29W9 k39W9 k49W9 k59W9 tn9W9 tt9W9 tb9W9 h9 tk9 F9 N9 I9 o9W9 l9; (have l9k := l9); (k_lt l9k); (try dsimp only))
  k_with "call ref" => (k_here; (with_reducible show wpAny _ _ (call (Value.ref 66) _) _ _ _); k_dflt (refine cl_go (by k_asm) (by k_asm) (by k_asm) (by k_asm) (by k_asm) (by first | exact rfl | assumption) (by ktr_room) (by ktr_units) (c_equal _ _ _ _ _ _ (WsIn.mono (by with_reducible assumption) (by intro pW9 hpW9; repeat' (first | (with_reducible assumption) | refine List.mem_cons_of_mem _ ?_))) (WsIn.mono (by with_reducible assumption) (by intro pW9 hpW9; repeat' (first | (with_reducible assumption) | refine List.mem_cons_of_mem _ ?_)))) ?_); intro _ _ _ _ _; (try dsimp only))
  k_with "call ref" => (k_here; (with_reducible show wpAny _ _ (call (Value.ref 66) _) _ _ _); k_dflt (refine cl_go (by k_asm) (by k_asm) (by k_asm) (by k_asm) (by k_asm) (by first | exact rfl | assumption) (by ktr_room) (by ktr_units) (c_equalS _ _ _ _ _ (WsIn.mono (by with_reducible assumption) (by intro pW9 hpW9; repeat' (first | (with_reducible assumption) | refine List.mem_cons_of_mem _ ?_))) (wsIn0 (by with_reducible assumption))) ?_); intro _ _ _ _ _; (try dsimp only))
  k_with "call ref" => (k_here; (with_reducible show wpAny _ _ (call (Value.ref 80) _) _ _ _); k_dflt (refine cl_go (by k_asm) (by k_asm) (by k_asm) (by k_asm) (by k_asm) (by first | exact rfl | assumption) (by ktr_room) (by ktr_units) (c_less _ _ _ _ _ _ (WsIn.mono (by with_reducible assumption) (by intro pW9 hpW9; repeat' (first | (with_reducible assumption) | refine List.mem_cons_of_mem _ ?_))) (VOk.a (by with_reducible assumption)) (VOk.b (by with_reducible assumption)) (VOk.d (by with_reducible assumption)) (VOk.e (by with_reducible assumption)) (WsIn.mono (by with_reducible assumption) (by intro pW9 hpW9; repeat' (first | (with_reducible assumption) | refine List.mem_cons_of_mem _ ?_))) (VOk.a (by with_reducible assumption)) (VOk.b (by with_reducible assumption)) (VOk.d (by with_reducible assumption)) (VOk.e (by with_reducible assumption)) (VOk.c (by with_reducible assumption)) (VOk.c (by with_reducible assumption))) ?_); intro _ _ _ _ _; (try dsimp only))
  k_with "call ref" => (k_here; (with_reducible show wpAny _ _ (call (Value.ref 118) _) _ _ _); k_dflt (refine cl_go (by k_asm) (by k_asm) (by k_asm) (by k_asm) (by k_asm) (by first | exact rfl | assumption) (by ktr_room) (by ktr_units) (c_least _ _ _ _ _ _ _ (by first | assumption | omega) (by omega) (by with_reducible assumption) (by with_reducible assumption) (by with_reducible assumption)) ?_); intro _ _ _ _ _; (try dsimp only))
  k_with "call ref" => (k_here; (with_reducible show wpAny _ _ (call (Value.ref 111) _) _ _ _); k_dflt (refine cl_go (by k_asm) (by k_asm) (by k_asm) (by k_asm) (by k_asm) (by first | exact rfl | assumption) (by ktr_room) (by ktr_units) (c_order _ _ _ _ _ _ (by first | assumption | omega) (Int.fmod_nonneg_of_pos _ (by decide))) ?_); intro _ _ _ _ _; (try dsimp only))
  k_with "CompRest" => (with_unfolding_all first
    | (refine LCg.CompRest.succ ?_; intro vqW9 IqW9 oIqW9 CqW9 oCqW9 DqW9 mqW9 hqW9 tkqW9 EqW9 hvqW9 hCqW9 hxqW9 FqW9 NqW9 offqW9 neqW9; (first | lcg_open hvqW9 | (obtain ⟨t9', hv9'⟩ := hvqW9; subst hv9')))
    | refine LCg.CompRest.zero ?_)
  k_with "CompEnd" => k_dflt (refine LCg.CompEnd.intro (by with_reducible assumption) (by with_reducible assumption) _ (fun p hp => hp) (by with_reducible assumption) (by lcg_src) ?_)
  k_with "CompEnd" => k_dflt (refine compEnd4 (by with_reducible assumption) (by with_reducible assumption) (by with_reducible assumption) (by with_reducible assumption) (by with_reducible assumption) (by lcg_src) ?_)
  k_with "CompEnd" => k_dflt (refine compEnd1 (by with_reducible assumption) (by with_reducible assumption) (by with_reducible assumption) (by with_reducible assumption) (by lcg_src) ?_)
  k_with "subscriptTail Name Name ref int" => (k_here; k_dflt (first | (refine item2 (by k_asm) (by repeat' (first | (with_reducible assumption) | (with_reducible exact List.mem_cons_self) | refine List.mem_cons_of_mem _ ?_)) (.inl ⟨by decide, rfl⟩) ?_ (by with_unfolding_all rfl) (by intro _; with_unfolding_all rfl)) | (refine item2 (by k_asm) (by repeat' (first | (with_reducible assumption) | (with_reducible exact List.mem_cons_self) | refine List.mem_cons_of_mem _ ?_)) (.inr ⟨by decide, rfl⟩) ?_ (by with_unfolding_all rfl) (by intro _; with_unfolding_all rfl))))
  k_with "subscriptTail Name BinOp ref int" => (k_here; k_dflt (first | (refine item2 (by k_asm) (by repeat' (first | (with_reducible assumption) | (with_reducible exact List.mem_cons_self) | refine List.mem_cons_of_mem _ ?_)) (.inl ⟨by decide, rfl⟩) ?_ (by with_unfolding_all rfl) (by intro _; with_unfolding_all rfl)) | (refine item2 (by k_asm) (by repeat' (first | (with_reducible assumption) | (with_reducible exact List.mem_cons_self) | refine List.mem_cons_of_mem _ ?_)) (.inr ⟨by decide, rfl⟩) ?_ (by with_unfolding_all rfl) (by intro _; with_unfolding_all rfl))))
  k_with "subscriptTail Name Constant ref int" => (k_here; k_dflt (first | (refine item2 (by k_asm) (by repeat' (first | (with_reducible assumption) | (with_reducible exact List.mem_cons_self) | refine List.mem_cons_of_mem _ ?_)) (.inl ⟨by decide, rfl⟩) ?_ (by with_unfolding_all rfl) (by intro _; with_unfolding_all rfl)) | (refine item2 (by k_asm) (by repeat' (first | (with_reducible assumption) | (with_reducible exact List.mem_cons_self) | refine List.mem_cons_of_mem _ ?_)) (.inr ⟨by decide, rfl⟩) ?_ (by with_unfolding_all rfl) (by intro _; with_unfolding_all rfl))))
  k_with "getMethod ref" => (k_here; k_dflt (refine method_inst (by k_asm) (by k_asm) (InstAt.of_news (by k_asm) (by repeat' (first | (with_reducible assumption) | (with_reducible exact List.mem_cons_self) | refine List.mem_cons_of_mem _ ?_)) (by repeat' (first | (with_reducible assumption) | (with_reducible exact List.mem_cons_self) | refine List.mem_cons_of_mem _ ?_))) (by k_is) (by k_is) (by k_is) (by k_get) ?_; k_whole))
  k_with "getAttr ref" => (k_here; k_dflt (refine get_own (by k_asm) (by k_asm) (InstAt.of_news (by k_asm) (by repeat' (first | (with_reducible assumption) | (with_reducible exact List.mem_cons_self) | refine List.mem_cons_of_mem _ ?_)) (by repeat' (first | (with_reducible assumption) | (with_reducible exact List.mem_cons_self) | refine List.mem_cons_of_mem _ ?_))) (by k_is) (by k_is) (by k_is) (by k_is) (by k_get) (by k_handed) ?_; k_whole))
  k_with "call builtin:len" => (k_here; (with_reducible show wpAny _ _ (call (Value.builtin "len") [Value.ref _]) _ _ _); k_dflt (refine len_strsL (by k_asm) (by repeat' (first | (with_reducible assumption) | (with_reducible exact List.mem_cons_self) | refine List.mem_cons_of_mem _ ?_)) (by with_reducible assumption) (by omega) ?_); intro _ _)
  k_with "compareOp Eq ref ref" => (k_here; k_dflt (refine eq_nil (by k_asm) (by repeat' (first | (with_reducible assumption) | (with_reducible exact List.mem_cons_self) | refine List.mem_cons_of_mem _ ?_)) (by repeat' (first | (with_reducible assumption) | (with_reducible exact List.mem_cons_self) | refine List.mem_cons_of_mem _ ?_)) (by with_reducible assumption) (by ktr_units) ?_))
  k_with "compareOp NotEq int int" => (k_here; k_dflt (refine ne_same (by with_reducible assumption) ?_))
  k_with "compareOp Is bool bool" => (k_here; k_dflt (refine is_same (by first | rfl | with_reducible assumption) ?_))
  k_with "compareOp IsNot bool bool" => (k_here; k_dflt (refine isnot_same (by first | rfl | with_reducible assumption) ?_))
  k_with "compareOp NotIn str ref" => (k_here; k_dflt (refine notin_strsL (by k_asm) (by repeat' (first | (with_reducible assumption) | (with_reducible exact List.mem_cons_self) | refine List.mem_cons_of_mem _ ?_)) (by with_reducible assumption) ?_))
  k_with "binaryOp Add str str" => (k_here; k_dflt (refine add_str ?_ (sz_fit (by simp only [Str.length_append, len_sp]; omega))); intro _ _)
  exact trivial
local macro_rules | `(tactic| lcg_src) => `(tactic| first | exact True.intro | exact srcAtL (by repeat' (first | (with_reducible assumption) | (with_reducible exact List.mem_cons_self) | refine List.mem_cons_of_mem _ ?_)))
local macro_rules | `(tactic| k_all) => `(tactic| first | exact OffC.a (by assumption) | exact OffC.b (by assumption) | exact OffC.c (by assumption))
theorem kw_lx1 : True := by
  k_with "CompSrc" => (k_here; k_dflt (first | (refine compSrcL (by rfl) (by k_asm) (by k_asm) (by repeat' (first | (with_reducible assumption) | (with_reducible exact List.mem_cons_self) | refine List.mem_cons_of_mem _ ?_)) (by exact Nat.le_of_ble_eq_true rfl) ?_; intro gqW9; lcg_lit) | (refine LCg.CompSrc.range (by rfl) (by k_asm) (by k_asm) (by assumption) (by first | decide | rfl) (by first | rfl | decide) (by exact Nat.le_of_ble_eq_true rfl) ?_; intro gqW9; lcg_lit)))
  exact trivial
set_option maxRecDepth 100000 in
set_option maxHeartbeats 40000000 in
theorem lawX (plain : Plain) : PySem.Challenge.rw_re0145_01.Holds := hd (by
  k_go0
  all_goals try k_fold
  rename Fr _ _ _ _ => F0
  rename News _ _ _ _ => N0
  refine cutA (pre := [_, _]) F0 N0 ?_ ?_
  · skip
    repeat' ((fail_if_success (with_reducible show wpAny _ _ (subscriptTail _ (Expr.Slice (some _) none none _) _ _) _ _ _)); (first | (k_unfold; (try dsimp only)) | (k_end; wrow_close) | walk1 | (dsimp only; walk1) | (leave1; walk_say "STEP leave1"; try dsimp only) | fail "no step"))
    k_dflt (refine kba_turn (value' := PySem.Expr.Name (PySem.Str.ofString "_") ⟨0, 0, 0, 0⟩) (fun _ => rfl) ?_)
    k_here
    k_dflt (refine' kmk_slice_ints (ns := [3, 11, 4]) ?sF ?sN ?sl ?sp ?sq ?si ?sm ?sc ?_ ?ss ?st ?sz)
    case sF => k_asm
    case sN => k_asm
    case sl => kmk_list
    case sp => kmk_part
    case sq => kmk_part
    case si => exact .cons _ _ (.cons _ _ (.cons _ _ .nil))
    case sm => exact kmk_from (.cons _ _ (.cons _ _ (.cons _ _ .nil))) (Int.natCast_nonneg _)
    case sc => kmk_len
    case ss => with_unfolding_all rfl
    case st => kmk_pure
    case sz => exact Nat.le_of_ble_eq_true rfl
    intro D' ws' h' F' N' l1 hI' hC' hL'; (try k_lt l1)
    repeat' ((fail_if_success (with_reducible show wpAny _ _ (storeName _ _ _) _ _ _)); (first | (k_unfold; (try dsimp only)) | (k_end; wrow_close) | walk1 | (dsimp only; walk1) | (leave1; walk_say "STEP leave1"; try dsimp only) | fail "no step"))
    rename IntsAre _ (List.take 3 _ ++ _) => hq
    obtain ⟨d0, d1, d2, t0, t1, t2, rfl, hdr, hd4⟩ := ints3 hq
    rw [hdr] at hq
    rename News _ _ _ _ => Nq
    have Nr := drop_5 Nq
    clear Nq
    k_steps
    · refine ⟨d0, d1, d2, t0, t1, t2, _, _, _, 5, _, _, _, rfl, by assumption, by with_unfolding_all rfl, by with_unfolding_all rfl, by assumption, .inl rfl, ?_⟩
      repeat' (first | exact List.forall_mem_nil _ | refine List.forall_mem_cons.mpr ⟨ltN (by dsimp only; omega), ?_⟩)
    · refine ⟨d0, d1, d2, t0, t1, t2, _, _, _, 4, _, _, _, rfl, by assumption, by with_unfolding_all rfl, by with_unfolding_all rfl, by assumption, .inr ⟨rfl, hd4 (by omega)⟩, ?_⟩
      repeat' (first | exact List.forall_mem_nil _ | refine List.forall_mem_cons.mpr ⟨ltN (by dsimp only; omega), ?_⟩)
  clear F0 N0
  rintro s' ⟨d0, d1, d2, t0, t1, t2, tn, D, c, n, h, tk, m, rfl, F1, e1, e2, N1, hn, l1⟩
  have F2 := fr_known F1 (x := Str.ofString "draws") (by with_unfolding_all exact e1)
  have F3 := fr_known F2 (x := Str.ofString "size") (by with_unfolding_all exact e2)
  clear F1 F2 e1 e2
  k_lt l1
  dsimp only
  have hn5 : n ≤ 5 := by omega
  refine cutB (pre := [_, _, _]) d2 n F3 N1 ?_ ?_
  · skip
    repeat' ((fail_if_success (with_reducible show wpAny _ _ (subscriptTail _ (Expr.Slice (some _) (some _) none _) _ _) _ _ _)); (first | (k_unfold; (try dsimp only)) | (k_end; wrow_close) | walk1 | (dsimp only; walk1) | (leave1; walk_say "STEP leave1"; try dsimp only) | fail "no step"))
    rename Fr _ _ _ _ => lF
    rename News _ _ _ _ => lN
    k_dflt (refine slice_sg (n := n) (x := d2) hn5 (by rfl) (by rfl) lF lN ?_ (by with_unfolding_all rfl) (by intro _; with_unfolding_all rfl))
    intro sg h7 t7 k7 F7 N7 hsg
    clear lF lN
    have hsl : sg.length ≤ 10 := by rw [hsg.2]; omega
    repeat' ((fail_if_success (with_reducible show wpAny _ _ (storeName _ _ _) _ _ _)); (first | (k_unfold; (try dsimp only)) | (k_end; wrow_close) | walk1 | (dsimp only; walk1) | (leave1; walk_say "STEP leave1"; try dsimp only) | fail "no step"))
    k_here
    k_dflt (refine' storeX_C ?zF ?zN ?zc ?zU ?zd ?_ ?za ?zb)
    case za => rfl
    case zb => rfl
    case zF => k_asm
    case zN => k_asm
    case zc => rfl
    case zU => k_updF
    case zd => k_asm
    intro h' o' F' N' d'
    try dsimp only at N'
    try dsimp only
    k_steps
    · exact ⟨sg, _, _, 34, _, _, _, _, rfl, by assumption, by with_unfolding_all rfl, by with_unfolding_all rfl, by assumption, d', hsg, by rw [if_pos (by omega)]⟩
    · exact ⟨sg, _, _, 17, _, _, _, _, rfl, by assumption, by with_unfolding_all rfl, by with_unfolding_all rfl, by assumption, d', hsg, by rw [if_neg (by omega)]⟩
  clear F3 N1
  rintro s' ⟨sg, ts, tt, sh, c1, h1, tk1, m1, rfl, F1, e1, e2, N1, dsg, hsg, hsh⟩
  have F2 := fr_known F1 (x := Str.ofString "draws") (by with_unfolding_all exact e1)
  have F3 := fr_known F2 (x := Str.ofString "shortest") (by with_unfolding_all exact e2)
  clear F1 F2 e1 e2
  dsimp only [cellsOf] at N1
  dsimp only
  have hsl : sg.length ≤ 10 := by rw [hsg.2]; omega
  obtain ⟨hmn, a, b, ha, hb, hab, hba⟩ := plain sg d2 d0 d1 sh n hsg hn hsh
  obtain ⟨o0, eo0⟩ : ∃ o0, orderP sg (d0.fmod 120) = o0 := ⟨_, rfl⟩
  obtain ⟨o1, eo1⟩ : ∃ o1, orderP sg (d1.fmod 120) = o1 := ⟨_, rfl⟩
  rw [eo0] at ha
  rw [eo1] at hb
  have hdt : ∀ c ∈ sg.cps.toList, c ≠ 46 := fun c hc => menu_dot c (hmn c hc)
  refine cutR (pre := [_]) (RC sg o0 o1 sh) F3 ?_ ?_
  · skip
    repeat' ((fail_if_success (with_reducible show wpAny _ _ (exec (Stmt.Assign _ _ _) _) _ _ _)); (first | (k_unfold; (try dsimp only)) | (k_end; wrow_close) | walk1 | (dsimp only; walk1) | (leave1; walk_say "STEP leave1"; try dsimp only) | fail "no step"))
    walk1
    k_dflt (refine LCg.ListComp_U (F₀ := by k_asm) (by with_unfolding_all rfl) (by decide) (by rfl) (by decide) (by rfl) ?_)
    repeat' ((fail_if_success (with_reducible show wpAny _ _ (subscriptTail _ (Expr.Slice none (some _) none _) _ _) _ _ _)); (first | (k_unfold; (try dsimp only)) | (k_end; wrow_close) | walk1 | (dsimp only; walk1) | (leave1; walk_say "STEP leave1"; try dsimp only) | fail "no step"))
    k_here
    k_dflt (refine' kmk_slice_lit (zs := [.int d0 t0, .int d1 t1]) ?yF ?yN ?yl ?yp ?yq ?ye ?_ ?ys ?yt ?yz)
    case yF => k_asm
    case yN => k_asm
    case yl => kmk_list
    case yp => kmk_part
    case yq => kmk_part
    case ye => rfl
    case ys => with_unfolding_all rfl
    case yt => kmk_pure
    case yz => exact Nat.le_of_ble_eq_true rfl
    intro D8 h8 F8 N8 l8
    k_lt l8
    repeat' ((fail_if_success (with_reducible show wpAny _ _ (storeName _ _ _) _ _ _)); (first | (k_unfold; (try dsimp only)) | (k_end; wrow_close) | walk1 | (dsimp only; walk1) | (leave1; walk_say "STEP leave1"; try dsimp only) | fail "no step"))
    k_here
    k_dflt (refine' storeX_C ?xF ?xN ?xc ?xU ?xd ?_ ?xa ?xb)
    case xa => rfl
    case xb => rfl
    case xF => k_asm
    case xN => k_asm
    case xc => rfl
    case xU => k_updF
    case xd => k_asm
    intro h' o' F' N' d'
    try dsimp only at N'
    try dsimp only
    k_steps
    rw [eo0, eo1] at N'
    exact ⟨_, _, _, _, _, _, _, _, _, _, _, _, _, _, _, _, _, _, rfl, by assumption, by with_unfolding_all rfl, drop_2 (R := []) N', dsg, d', by assumption, by assumption, by assumption, .head _, OffC.cons OffC.nil (by omega) (by omega) (by omega)⟩
  clear F3 N1 dsg l1 eo0 eo1 hdt
  rintro s' ⟨ts, tg, t0, t1, O, c, c1, c2, c3, c4, c5, v3, v4, v5, R, h2, tk2, m2, rfl, F1, e1, N1, dg, do2, do3, do4, do5, mO, oR⟩
  have F2 := fr_known F1 (x := Str.ofString "shortest") (by with_unfolding_all exact e1)
  clear F1 e1
  dsimp only [cellsR] at N1
  dsimp only
  refine cutR (pre := [_]) (RD a.r b.r sh c1 c2 c3 c4 c5 R) F2 ?_ ?_
  · skip
    have hdt : ∀ c ∈ sg.cps.toList, c ≠ 46 := fun c hc => menu_dot c (hmn c hc)
    have hr0 := ha.run
    have hr1 := hb.run
    have hl0 := ha.ol
    have hl1 := hb.ol
    have hi0 := ha.oin
    have hi1 := hb.oin
    k_steps
    exact ⟨_, _, _, _, _, _, _, _, rfl, by assumption, by with_unfolding_all rfl, by with_unfolding_all rfl, toR1 (by assumption), OffC.cons oR (by omega) (by omega) (by omega)⟩
  clear F2 N1
  rintro s' ⟨ts2, tr0, tr1, U, cU, h3, tk3, m3, rfl, F1, e1, e2, N1, oR2⟩
  have F2 := fr_known F1 (x := Str.ofString "shortest") (by with_unfolding_all exact e1)
  have F3 := fr_known F2 (x := Str.ofString "least") (by with_unfolding_all exact e2)
  clear F1 F2 e1 e2
  have mU : (U, listOf #[.str a.r tr0, .str b.r tr1] cU) ∈ (U, listOf #[.str a.r tr0, .str b.r tr1] cU) :: R := .head _
  replace mO := List.mem_cons_of_mem (U, listOf #[.str a.r tr0, .str b.r tr1] cU) mO
  generalize (U, listOf #[.str a.r tr0, .str b.r tr1] cU) :: R = R2 at N1 oR2 mU mO
  clear oR R
  dsimp only [cellsR] at N1
  dsimp only
  refine cutR (pre := [_]) (RE a.T b.T sh U c1 c2 c4 c5 R2) F3 ?_ ?_
  · skip
    have hdt : ∀ c ∈ sg.cps.toList, c ≠ 46 := fun c hc => menu_dot c (hmn c hc)
    have hl0 := ha.rl
    have hl1 := hb.rl
    repeat' ((fail_if_success (with_reducible show wpAny _ _ (storeName _ _ _) _ _ _)); (first | (k_unfold; (try dsimp only)) | (k_end; wrow_close) | walk1 | (dsimp only; walk1) | (leave1; walk_say "STEP leave1"; try dsimp only) | fail "no step"))
    k_here
    k_dflt (refine' storeX_C ?xF ?xN ?xc ?xU ?xd ?_ ?xa ?xb)
    case xa => rfl
    case xb => rfl
    case xF => k_asm
    case xN => k_asm
    case xc => rfl
    case xU => k_updF
    case xd => k_asm
    intro h' o' F' N' d'
    try dsimp only at N'
    try dsimp only
    k_steps
    exact ⟨_, _, _, _, _, _, _, _, _, _, _, _, _, rfl, by assumption, by with_unfolding_all rfl, by with_unfolding_all rfl, toR3 N', d', by rw [← ha.turned]; assumption, by rw [← hb.turned]; assumption, OffC.cons (OffC.cons (OffC.cons oR2 (by omega) (by omega) (by omega)) (by omega) (by omega) (by omega)) (by omega) (by omega) (by omega)⟩
  clear F3 N1 do3 c3
  rintro s' ⟨ts3, X, A0, A1, kX, k0, k1, u0, u1, c3, h4, tk4, m4, rfl, F1, e1, e2, N1, do3, sT0, sT1, oR3⟩
  have F2 := fr_known F1 (x := Str.ofString "shortest") (by with_unfolding_all exact e1)
  have F3 := fr_known F2 (x := Str.ofString "least") (by with_unfolding_all exact e2)
  clear F1 F2 e1 e2
  have mX : (X, listOf #[.ref A0, .ref A1] kX) ∈ (X, listOf #[.ref A0, .ref A1] kX) :: (A1, listOf u1.toArray k1) :: (A0, listOf u0.toArray k0) :: R2 := .head _
  have mA1 : (A1, listOf u1.toArray k1) ∈ (X, listOf #[.ref A0, .ref A1] kX) :: (A1, listOf u1.toArray k1) :: (A0, listOf u0.toArray k0) :: R2 := .tail _ (.head _)
  have mA0 : (A0, listOf u0.toArray k0) ∈ (X, listOf #[.ref A0, .ref A1] kX) :: (A1, listOf u1.toArray k1) :: (A0, listOf u0.toArray k0) :: R2 := .tail _ (.tail _ (.head _))
  replace mO : _ ∈ (X, listOf #[.ref A0, .ref A1] kX) :: (A1, listOf u1.toArray k1) :: (A0, listOf u0.toArray k0) :: R2 := .tail _ (.tail _ (.tail _ mO))
  replace mU : _ ∈ (X, listOf #[.ref A0, .ref A1] kX) :: (A1, listOf u1.toArray k1) :: (A0, listOf u0.toArray k0) :: R2 := .tail _ (.tail _ (.tail _ mU))
  generalize (X, listOf #[.ref A0, .ref A1] kX) :: (A1, listOf u1.toArray k1) :: (A0, listOf u0.toArray k0) :: R2 = R3 at N1 oR3 mX mA0 mA1 mU mO
  clear oR2 R2
  dsimp only [cellsR] at N1
  dsimp only
  refine cutR (pre := [_]) (RF (leadP n a.t) (leadP n b.t) sh U c1 c2 c3 c5 R3) F3 ?_ ?_
  · skip
    have hm0 : ∀ c ∈ o0.cps.toList, c ∈ menuL := fun c hc => hmn c (ha.oin c hc)
    have hm1 : ∀ c ∈ o1.cps.toList, c ∈ menuL := fun c hc => hmn c (hb.oin c hc)
    have hl0 := ha.ol
    have hl1 := hb.ol
    have ht0 := ha.told
    have ht1 := hb.told
    have hb0 := ha.tb
    have hb1 := hb.tb
    have hx0 : a.t.length = o0.length := ha.tl.trans ha.ol.symm
    have hx1 : b.t.length = o1.length := hb.tl.trans hb.ol.symm
    repeat' ((fail_if_success (with_reducible show wpAny _ _ (storeName _ _ _) _ _ _)); (first | (k_unfold; (try dsimp only)) | (k_end; wrow_close) | walk1 | (dsimp only; walk1) | (leave1; walk_say "STEP leave1"; try dsimp only) | fail "no step"))
    k_here
    k_dflt (refine' storeX_C ?xF ?xN ?xc ?xU ?xd ?_ ?xa ?xb)
    case xa => rfl
    case xb => rfl
    case xF => k_asm
    case xN => k_asm
    case xc => rfl
    case xU => k_updF
    case xd => k_asm
    intro h' o' F' N' d'
    try dsimp only at N'
    try dsimp only
    k_steps
    rw [hl0, hl1] at N'
    exact ⟨_, _, _, _, _, _, _, _, _, rfl, by assumption, by with_unfolding_all rfl, by with_unfolding_all rfl, toR1 N', d', OffC.cons oR3 (by omega) (by omega) (by omega)⟩
  clear F3 N1 do4 c4
  rintro s' ⟨ts4, tl0, tl1, Y, kY, c4, h5, tk5, m5, rfl, F1, e1, e2, N1, do4, oR4⟩
  have F2 := fr_known F1 (x := Str.ofString "shortest") (by with_unfolding_all exact e1)
  have F3 := fr_known F2 (x := Str.ofString "least") (by with_unfolding_all exact e2)
  clear F1 F2 e1 e2
  have mY : (Y, listOf #[.str (leadP n a.t) tl0, .str (leadP n b.t) tl1] kY) ∈ (Y, listOf #[.str (leadP n a.t) tl0, .str (leadP n b.t) tl1] kY) :: R3 := .head _
  replace mO : _ ∈ (Y, listOf #[.str (leadP n a.t) tl0, .str (leadP n b.t) tl1] kY) :: R3 := .tail _ mO
  replace mU : _ ∈ (Y, listOf #[.str (leadP n a.t) tl0, .str (leadP n b.t) tl1] kY) :: R3 := .tail _ mU
  replace mX : _ ∈ (Y, listOf #[.str (leadP n a.t) tl0, .str (leadP n b.t) tl1] kY) :: R3 := .tail _ mX
  replace mA0 : _ ∈ (Y, listOf #[.str (leadP n a.t) tl0, .str (leadP n b.t) tl1] kY) :: R3 := .tail _ mA0
  replace mA1 : _ ∈ (Y, listOf #[.str (leadP n a.t) tl0, .str (leadP n b.t) tl1] kY) :: R3 := .tail _ mA1
  generalize (Y, listOf #[.str (leadP n a.t) tl0, .str (leadP n b.t) tl1] kY) :: R3 = R4 at N1 oR4 mX mA0 mA1 mU mO mY
  clear oR3 R3
  dsimp only [cellsR] at N1
  dsimp only
  refine cutW (pre := [_]) (RG a.V b.V sh U c1 c2 c3 c4 c5 R4) F3 ?_ ?_
  · skip
    have hl0 := ha.ol
    have hl1 := hb.ol
    have hk0 := ha.ll
    have hk1 := hb.ll
    have hv0 := ha.v
    have hv1 := hb.v
    k_steps
    rename News _ _ _ _ => Nz
    rename Fr _ _ _ _ => Fz
    have Nz' := toR9 Nz
    exact ⟨_, _, _, _, _, _, _, _, _, rfl, Fz, by with_unfolding_all rfl, by with_unfolding_all rfl, by with_unfolding_all rfl, Nz', sub9, .head _, wsIn2 (by assumption), wsIn1 (by assumption), OffC.cons (offC4 (offC4 oR4 (by assumption) (by omega)) (by assumption) (by omega)) (by omega) (by omega) (by omega)⟩
  clear F3 N1 oR4
  rintro s' ⟨ts5, Z, x0, x1, kZ, R5, h6, tk6, m6, rfl, F1, e1, e2, e3, N1, sub, mZ, wx0, wx1, oR5⟩
  have F2 := fr_known F1 (x := Str.ofString "shortest") (by with_unfolding_all exact e1)
  have F3 := fr_known F2 (x := Str.ofString "least") (by with_unfolding_all exact e2)
  have F4 := fr_known F3 (x := Str.ofString "lines") (by with_unfolding_all exact e3)
  clear F1 F2 F3 e1 e2 e3
  replace mO := sub _ mO
  replace mU := sub _ mU
  replace mX := sub _ mX
  replace mA0 := sub _ mA0
  replace mA1 := sub _ mA1
  replace mY := sub _ mY
  clear sub R4
  dsimp only [cellsR] at N1
  dsimp only
  refine cutW (pre := [_]) (RH a.W b.W sh U Z c1 c2 c3 c4 c5 R5) F4 ?_ ?_
  · skip
    have hl0 := ha.ol
    have hl1 := hb.ol
    have hk0 := ha.ll
    have hk1 := hb.ll
    have hv0 := ha.ww
    have hv1 := hb.ww
    k_steps
    rename News _ _ _ _ => Nz
    rename Fr _ _ _ _ => Fz
    have Nz' := toR9 Nz
    exact ⟨_, _, _, _, _, _, _, _, _, rfl, Fz, by with_unfolding_all rfl, by with_unfolding_all rfl, by with_unfolding_all rfl, by with_unfolding_all rfl, Nz', sub9, .head _, wsIn2 (by assumption), wsIn1 (by assumption), OffC.cons (offC4 (offC4 oR5 (by assumption) (by omega)) (by assumption) (by omega)) (by omega) (by omega) (by omega)⟩
  clear F4 N1 oR5
  rintro s' ⟨ts6, B, y0, y1, kB, R6, h7, tk7, m7, rfl, F1, e1, e2, e3, e4, N1, sub, mB, wy0, wy1, oR6⟩
  have F2 := fr_known F1 (x := Str.ofString "shortest") (by with_unfolding_all exact e1)
  have F3 := fr_known F2 (x := Str.ofString "least") (by with_unfolding_all exact e2)
  have F4 := fr_known F3 (x := Str.ofString "lines") (by with_unfolding_all exact e3)
  have F5 := fr_known F4 (x := Str.ofString "above") (by with_unfolding_all exact e4)
  clear F1 F2 F3 F4 e1 e2 e3 e4
  replace wx0 := wx0.mono sub
  replace wx1 := wx1.mono sub
  replace mO := sub _ mO
  replace mU := sub _ mU
  replace mX := sub _ mX
  replace mA0 := sub _ mA0
  replace mA1 := sub _ mA1
  replace mY := sub _ mY
  replace mZ := sub _ mZ
  clear sub R5
  dsimp only [cellsR] at N1
  dsimp only
  have hrl0 := ha.rl
  have hrl1 := hb.rl
  have hm0 : ∀ c ∈ a.r.cps.toList, c ∈ menuL := fun c hc => hmn c (ha.rin c hc)
  have hm1 : ∀ c ∈ b.r.cps.toList, c ∈ menuL := fun c hc => hmn c (hb.rin c hc)
  have ht0 := ha.rtold
  have ht1 := hb.rtold
  have hb0 := ha.tb
  have hb1 := hb.tb
  have hx0 : a.t.length = a.r.length := ha.tl.trans ha.rl.symm
  have hx1 : b.t.length = b.r.length := hb.tl.trans hb.rl.symm
  have hv0 : wsP (leadP a.r.length a.t ++ a.r) = a.V := by rw [ha.rl]; exact ha.vr
  have hv1 : wsP (leadP b.r.length b.t ++ b.r) = b.V := by rw [hb.rl]; exact hb.vr
  have hk0 : (leadP a.r.length a.t).length ≤ 50 := by rw [ha.rl]; exact ha.ll
  have hk1 : (leadP b.r.length b.t).length ≤ 50 := by rw [hb.rl]; exact hb.ll
  have hsh0 : 0 ≤ sh := by
    rw [hsh]; split <;> omega
  have hz0 : a.T.length ≤ 1000 := by
    have q1 := ha.vok.c
    have q2 := ha.vn
    omega
  have hz1 : b.T.length ≤ 1000 := by
    have q1 := hb.vok.c
    have q2 := hb.vn
    omega
  have hle0 : lessP a.V b.W = decide ((a.T.filter fun p => !(b.T.any (· == p))) = []) := hab.less
  have hle1 : lessP b.V a.W = decide ((b.T.filter fun p => !(a.T.any (· == p))) = []) := hba.less
  have va0 := ha.vok
  have va1 := hb.vok
  have wa0 := ha.wok
  have wa1 := hb.wok
  have hn0 := ha.vn
  have hn1 := hb.vn
  repeat' ((fail_if_success (with_reducible show wpAny _ _ (PySem.exec (Stmt.For _ _ _ _ _) _) _ _ _)); (first | (k_unfold; (try dsimp only)) | (k_end; wrow_close) | walk1 | (dsimp only; walk1) | (leave1; walk_say "STEP leave1"; try dsimp only) | fail "no step"))
  k_dflt (refine wpAny_For ?_ (by intro _; rfl))
  repeat' ((fail_if_success (with_reducible show wpAny _ _ (pyIter _) _ _ _)); (first | (k_unfold; (try dsimp only)) | (k_end; wrow_close) | walk1 | (dsimp only; walk1) | (leave1; walk_say "STEP leave1"; try dsimp only) | fail "no step"))
  rename Fr _ _ _ _ => Ff
  rename News _ _ _ _ => Nf
  rename IsRange _ _ _ _ _ _ _ _ => rgX
  k_dflt (refine for_cell (n := 2) (fun m => m (Str.ofString "shortest") = some (.int sh ts6) ∧ m (Str.ofString "least") = some (.ref U) ∧ m (Str.ofString "lines") = some (.ref Z) ∧ m (Str.ofString "above") = some (.ref B)) (by rfl) rgX (by first | decide | rfl) (by first | rfl | decide) Ff Nf do5 (List.forall_mem_cons.mpr ⟨neN (by dsimp only; omega), List.forall_mem_cons.mpr ⟨neN (by dsimp only; omega), List.forall_mem_cons.mpr ⟨neN (by dsimp only; omega), List.forall_mem_cons.mpr ⟨neN (by dsimp only; omega), OffC.c oR6⟩⟩⟩⟩) ⟨by with_unfolding_all rfl, by with_unfolding_all rfl, by with_unfolding_all rfl, by with_unfolding_all rfl⟩ (by rfl) (by rfl) (by rfl) ?_ ?_)
  · clear Ff Nf rgX do5
    try clear F5
    try clear N1
    intro i I it h8 tk8 m8 co t8 hi F1 hK Nb hco hIn
    obtain ⟨e1, e2, e3, e4⟩ := hK
    have F2 := fr_known F1 (x := Str.ofString "shortest") (by with_unfolding_all exact e1)
    have F3 := fr_known F2 (x := Str.ofString "least") (by with_unfolding_all exact e2)
    have F4 := fr_known F3 (x := Str.ofString "lines") (by with_unfolding_all exact e3)
    have F5 := fr_known F4 (x := Str.ofString "above") (by with_unfolding_all exact e4)
    clear F1 F2 F3 F4 e1 e2 e3 e4
    rcases (by omega : i = 0 ∨ i = 1) with rfl | rfl
    · skip
      obtain ⟨gx, Tx, Ux, usx, wsx, tx1, kx1, kx2, kx3, kx4, kx5, txn, txt, txb, qx1, qx2, qx3, qx4, qx5⟩ := id wx0
      clear qx3 qx4 qx5
      repeat' ((fail_if_success (with_reducible show wpAny _ _ (PySem.eval (Expr.ListComp _ _ _ _) _) _ _ _)); (first | (k_unfold; (try dsimp only)) | (k_end; wrow_close) | walk1 | (dsimp only; walk1) | (leave1; walk_say "STEP leave1"; try dsimp only) | fail "no step"))
      k_dflt (refine comp_test (fun p => !(b.T.any (· == p))) (by k_asm) (by rfl) (by with_unfolding_all rfl) (by decide) (by rfl) (by decide) (by rfl) (by decide) ?_ (by intro _; rfl))
      repeat' ((fail_if_success (with_reducible show Exists (α := List (Addr × Obj)) _)); (first | (k_unfold; (try dsimp only)) | (k_end; wrow_close) | walk1 | (dsimp only; walk1) | (leave1; walk_say "STEP leave1"; try dsimp only) | fail "no step"))
      refine ⟨_, A0, u0, k0, a.T, rfl, by k_asm, by k_asm, (by repeat' (first | (with_reducible assumption) | (with_reducible exact List.mem_cons_self) | refine List.mem_cons_of_mem _ ?_)), sT0, hz0, ?_, ?_⟩
      · intro C p up s₂ m₂ E₂ hp hn hm F₂ N₂
        repeat' ((fail_if_success (with_reducible show PySem.Keeps _ _)); (first | (k_unfold; (try dsimp only)) | (k_end; wrow_close) | walk1 | (dsimp only; walk1) | (leave1; walk_say "STEP leave1"; try dsimp only) | fail "no step"))
        exact ⟨_, _, rfl, fun _ _ e => e⟩
      · intro D9 ys9 n9 h9 tk9 F9 N9 S9 ne9
        dsimp only
        repeat' ((fail_if_success (with_reducible show Exists (α := Heap) _)); (first | (k_unfold; (try dsimp only)) | (k_end; wrow_close) | walk1 | (dsimp only; walk1) | (leave1; walk_say "STEP leave1"; try dsimp only) | fail "no step"))
        rename News _ _ _ _ => Nz
        rename Fr _ _ _ _ => Fz
        refine ⟨_, _, _, rfl, Fz, ⟨by with_unfolding_all rfl, by with_unfolding_all rfl, by with_unfolding_all rfl, by with_unfolding_all rfl⟩, fun p hp => Nz p ?_⟩
        repeat' (first | (with_reducible assumption) | refine List.mem_cons_of_mem _ ?_)
    · skip
      obtain ⟨gx, Tx, Ux, usx, wsx, tx1, kx1, kx2, kx3, kx4, kx5, txn, txt, txb, qx1, qx2, qx3, qx4, qx5⟩ := id wx1
      clear qx3 qx4 qx5
      repeat' ((fail_if_success (with_reducible show wpAny _ _ (PySem.eval (Expr.ListComp _ _ _ _) _) _ _ _)); (first | (k_unfold; (try dsimp only)) | (k_end; wrow_close) | walk1 | (dsimp only; walk1) | (leave1; walk_say "STEP leave1"; try dsimp only) | fail "no step"))
      k_dflt (refine comp_test (fun p => !(a.T.any (· == p))) (by k_asm) (by rfl) (by with_unfolding_all rfl) (by decide) (by rfl) (by decide) (by rfl) (by decide) ?_ (by intro _; rfl))
      repeat' ((fail_if_success (with_reducible show Exists (α := List (Addr × Obj)) _)); (first | (k_unfold; (try dsimp only)) | (k_end; wrow_close) | walk1 | (dsimp only; walk1) | (leave1; walk_say "STEP leave1"; try dsimp only) | fail "no step"))
      refine ⟨_, A1, u1, k1, b.T, rfl, by k_asm, by k_asm, (by repeat' (first | (with_reducible assumption) | (with_reducible exact List.mem_cons_self) | refine List.mem_cons_of_mem _ ?_)), sT1, hz1, ?_, ?_⟩
      · intro C p up s₂ m₂ E₂ hp hn hm F₂ N₂
        repeat' ((fail_if_success (with_reducible show PySem.Keeps _ _)); (first | (k_unfold; (try dsimp only)) | (k_end; wrow_close) | walk1 | (dsimp only; walk1) | (leave1; walk_say "STEP leave1"; try dsimp only) | fail "no step"))
        exact ⟨_, _, rfl, fun _ _ e => e⟩
      · intro D9 ys9 n9 h9 tk9 F9 N9 S9 ne9
        dsimp only
        repeat' ((fail_if_success (with_reducible show Exists (α := Heap) _)); (first | (k_unfold; (try dsimp only)) | (k_end; wrow_close) | walk1 | (dsimp only; walk1) | (leave1; walk_say "STEP leave1"; try dsimp only) | fail "no step"))
        rename News _ _ _ _ => Nz
        rename Fr _ _ _ _ => Fz
        refine ⟨_, _, _, rfl, Fz, ⟨by with_unfolding_all rfl, by with_unfolding_all rfl, by with_unfolding_all rfl, by with_unfolding_all rfl⟩, fun p hp => Nz p ?_⟩
        repeat' (first | (with_reducible assumption) | refine List.mem_cons_of_mem _ ?_)
  · skip
    intro h8 tk8 m8 co F1 hK Nb
    obtain ⟨e1, e2, e3, e4⟩ := hK
    have F2 := fr_known F1 (x := Str.ofString "shortest") (by with_unfolding_all exact e1)
    have F3 := fr_known F2 (x := Str.ofString "least") (by with_unfolding_all exact e2)
    have F4 := fr_known F3 (x := Str.ofString "lines") (by with_unfolding_all exact e3)
    try clear Ff
    try clear Nf
    try clear F5
    try clear N1
    clear F1 F2 F3 e1 e2 e3 e4
    have hsm := hab.same
    obtain ⟨gx, Tx, Ux, usx, wsx, tx1, kx1, kx2, kx3, kx4, kx5, txn, txt, txb, qx1, qx2, qx3, qx4, qx5⟩ := id wx0
    clear qx3 qx4 qx5
    dsimp only
    k_steps
)
end Mine
end
section
open PySem PySem.W PyProof.Rows PySem.Builtin PySem.Builtin.Str PySem.StrLaws
namespace Mine
/-- where y stands first in a list -/
def findGo (y : List Nat) : List Nat → Nat → Option Nat
  | [], _ => none
  | c :: r, k => if y.isPrefixOf (c :: r) then some k else findGo y r (k + 1)
theorem findGo_spec {y : List Nat} (hy : y ≠ []) : ∀ (l : List Nat) (k : Nat), (findGo y l k = none ∧ ∀ i, ¬ y <+: l.drop i) ∨ ∃ j, findGo y l k = some (k + j) ∧ y <+: l.drop j ∧ ∀ i, i < j → ¬ y <+: l.drop i
  | [], k => .inl ⟨rfl, fun i h => hy (by simpa using h)⟩
  | c :: r, k => by
    unfold findGo
    by_cases h : y <+: c :: r
    · rw [if_pos (List.isPrefixOf_iff_prefix.mpr h)]
      exact .inr ⟨0, rfl, h, fun i hi => absurd hi (Nat.not_lt_zero _)⟩
    · rw [if_neg (fun e => h (List.isPrefixOf_iff_prefix.mp e))]
      rcases findGo_spec hy r (k + 1) with ⟨e, hn⟩ | ⟨j, e, hj, hn⟩
      · refine .inl ⟨e, fun i => ?_⟩
        cases i with
        | zero => exact h
        | succ i => exact hn i
      · refine .inr ⟨j + 1, by rw [e]; congr 1; omega, hj, fun i hi => ?_⟩
        cases i with
        | zero => exact h
        | succ i => exact hn i (by omega)
theorem at_iff {l y : List Nat} {i : Nat} (hy : y ≠ []) : At ⟨l.toArray⟩ ⟨y.toArray⟩ l.length i ↔ y <+: l.drop i := by
  have e : (subAt ⟨l.toArray⟩ ⟨y.toArray⟩ i = true) ↔ (l.drop i).take y.length = y := by
    unfold subAt Str.length
    simp only [List.size_toArray, List.extract_toArray, beq_iff_eq]
    rw [Array.mk.injEq, List.extract_eq_take_drop, Nat.add_sub_cancel_left]
  unfold At
  rw [e, List.prefix_iff_eq_take]
  constructor
  · rintro ⟨_, h⟩; exact h.symm
  · intro h
    refine ⟨?_, h.symm⟩
    have h1 := congrArg List.length h
    have h2 : 0 < y.length := List.length_pos_iff.mpr hy
    simp only [List.length_take, List.length_drop] at h1
    show i + y.length ≤ l.length
    omega
theorem from_nat (n p : Nat) : fromIndex n (p : Int) = p := by
  have h : ¬ (p : Int) < 0 := by omega
  simp [fromIndex, h]
theorem find4_go {l y : List Nat} {p : Nat} (hy : y ≠ []) : find4 ⟨l.toArray⟩ ⟨y.toArray⟩ (p : Int) (l.length : Int) = match findGo y (l.drop p) p with | some k => (k : Int) | none => -1 := by
  unfold find4
  have e1 : (⟨l.toArray⟩ : Str).length = l.length := by simp [Str.length]
  rw [e1, from_nat, from_nat, Nat.min_self]
  have hh := occ_head_from ⟨l.toArray⟩ ⟨y.toArray⟩ p 1 (Nat.le_refl 1)
  rw [e1] at hh
  rcases hh with ⟨e, hn⟩ | ⟨i, r, e, hp, hi, hn⟩
  · rw [e]
    rcases findGo_spec hy (l.drop p) p with ⟨e', _⟩ | ⟨j, e', hj, _⟩
    · rw [e']
    · rw [List.drop_drop] at hj
      exact absurd ((at_iff hy).mpr hj) (hn _ (by omega))
  · rw [e]
    rcases findGo_spec hy (l.drop p) p with ⟨e', hn'⟩ | ⟨j, e', hj, hn'⟩
    · refine absurd ((at_iff hy).mp hi) ?_
      have := hn' (i - p)
      rw [List.drop_drop, show p + (i - p) = i by omega] at this
      exact this
    · rw [e']
      rw [List.drop_drop] at hj
      have h1 : ¬ i < p + j := fun c => by
        have := hn' (i - p) (by omega)
        rw [List.drop_drop, show p + (i - p) = i by omega] at this
        exact this ((at_iff hy).mp hi)
      have h2 : ¬ p + j < i := fun c => hn _ (by omega) c ((at_iff hy).mpr hj)
      show (i : Int) = ((p + j : Nat) : Int)
      omega
theorem find4_nil {l : List Nat} {p : Nat} (hp : p ≤ l.length) : find4 ⟨l.toArray⟩ ⟨#[]⟩ (p : Int) (l.length : Int) = (p : Int) := by
  unfold find4
  have e1 : (⟨l.toArray⟩ : Str).length = l.length := by simp [Str.length]
  rw [e1, from_nat, from_nat, Nat.min_self]
  have hh := occ_head_from ⟨l.toArray⟩ ⟨#[]⟩ p 1 (Nat.le_refl 1)
  rw [e1] at hh
  have ha : At ⟨l.toArray⟩ ⟨#[]⟩ l.length p := ⟨by simpa [Str.length] using hp, by simp [subAt, Str.length]⟩
  rcases hh with ⟨e, hn⟩ | ⟨i, r, e, hq, hi, hn⟩
  · exact absurd ha (hn _ (Nat.le_refl _))
  · rw [e]
    have : ¬ p < i := fun c => hn p (Nat.le_refl _) c ha
    show (i : Int) = (p : Int)
    omega
def emL (l x y : List Nat) : Bool := match findGo x l 0 with | none => false | some k => (findGo y (l.drop (k + x.length)) (k + x.length)).isSome
theorem emP_L {l x y : List Nat} (hx : x ≠ []) (hy : y ≠ []) : emP ⟨l.toArray⟩ ⟨x.toArray⟩ ⟨y.toArray⟩ = emL l x y := by
  have e1 : (⟨l.toArray⟩ : Str).length = l.length := by simp [Str.length]
  have e2 : (⟨x.toArray⟩ : Str).length = x.length := by simp [Str.length]
  have e3 : (⟨y.toArray⟩ : Str).length = y.length := by simp [Str.length]
  have e4 : (⟨#[]⟩ : Str).length = 0 := rfl
  unfold emP
  simp only [e1, e2, e3, e4]
  have z0 := find4_nil (l := l) (p := 0) (Nat.zero_le _)
  rw [show ((0 : Nat) : Int) = 0 from rfl] at z0
  rw [z0]
  simp only [show ((0 : Nat) : Int) = 0 from rfl, Int.add_zero]
  rw [if_neg (by omega)]
  have z1 := find4_go (l := l) (p := 0) hx
  rw [show ((0 : Nat) : Int) = 0 from rfl, List.drop_zero] at z1
  rw [z1]
  unfold emL
  cases hf : findGo x l 0 with
  | none => simp
  | some k =>
    simp only
    rw [if_neg (by omega), show (k : Int) + (x.length : Int) = ((k + x.length : Nat) : Int) from rfl, find4_go hy]
    rcases findGo_spec hy (l.drop (k + x.length)) (k + x.length) with ⟨e, _⟩ | ⟨j, e, hj, _⟩
    · rw [e]; simp
    · rw [e]
      simp only [Option.isSome_some]
      rw [if_neg (by omega), show ((k + x.length + j : Nat) : Int) + (y.length : Int) = ((k + x.length + j + y.length : Nat) : Int) from rfl, find4_nil, if_neg (by omega)]
      rw [List.drop_drop] at hj
      have := hj.length_le
      have h2 : 0 < y.length := List.length_pos_iff.mpr hy
      rw [List.length_drop] at this
      omega
def idxL (sg : List Nat) (c : Nat) : Nat := (findGo [c] sg 0).getD 0
theorem mkLen (l : List Nat) : (⟨l.toArray⟩ : Str).length = l.length := by simp [Str.length]
theorem idxP_L (sg : List Nat) (c : Nat) : idxP ⟨sg.toArray⟩ c = idxL sg c := by
  have h := find4_go (l := sg) (y := [c]) (p := 0) (by simp)
  unfold find4 at h
  rw [mkLen, from_nat, from_nat, Nat.min_self, List.drop_zero] at h
  unfold idxP idxL
  rw [mkLen]
  have e : (⟨#[c]⟩ : Str) = ⟨[c].toArray⟩ := rfl
  rw [e]
  cases ho : occurrences ⟨sg.toArray⟩ ⟨[c].toArray⟩ 0 sg.length 1 with
  | nil =>
    rw [ho] at h
    cases hf : findGo [c] sg 0 with
    | none => rfl
    | some k =>
      rw [hf] at h
      simp only at h
      omega
  | cons i r =>
    rw [ho] at h
    cases hf : findGo [c] sg 0 with
    | none =>
      rw [hf] at h
      simp only at h
      omega
    | some k =>
      rw [hf] at h
      simp only at h
      show i = k
      omega
def freeL (sg ord : List Nat) (hi lo : Nat) : Bool := ((sg.drop (idxL sg lo + 1)).take (idxL sg hi - (idxL sg lo + 1))).any fun s => emL ord [hi, lo] [s]
theorem freeP_L (sg ord : List Nat) (hi lo : Nat) : freeP ⟨sg.toArray⟩ ⟨ord.toArray⟩ hi lo = freeL sg ord hi lo := by
  unfold freeP freeL
  rw [idxP_L, idxP_L]
  show ((sg.drop (idxL sg lo + 1)).take (idxL sg hi - (idxL sg lo + 1))).any _ = _
  congr 1
  funext s
  exact emP_L (x := [hi, lo]) (y := [s]) (by simp) (by simp)
def leastStepL (sg : List Nat) (st : List Nat × Nat) : List Nat × Nat :=
  if freeL sg st.1 (st.1.getD st.2 0) (st.1.getD (st.2 + 1) 0) then
    (st.1.take st.2 ++ [st.1.getD (st.2 + 1) 0, st.1.getD st.2 0] ++ st.1.drop (st.2 + 2), 0)
  else (st.1, st.2 + 1)
def leastRunL (sg : List Nat) : Nat → List Nat × Nat → Option (List Nat)
  | 0, _ => none
  | f + 1, st => if st.2 + 1 < st.1.length then leastRunL sg f (leastStepL sg st) else some st.1
theorem leastStep_L (sg ord : List Nat) (k : Nat) : leastStep ⟨sg.toArray⟩ (⟨ord.toArray⟩, k) = (⟨(leastStepL sg (ord, k)).1.toArray⟩, (leastStepL sg (ord, k)).2) := by
  unfold leastStep leastStepL
  simp only [freeP_L]
  split <;> rfl
theorem leastRun_L (sg : List Nat) : ∀ (f : Nat) (ord : List Nat) (k : Nat), leastRun ⟨sg.toArray⟩ f (⟨ord.toArray⟩, k) = (leastRunL sg f (ord, k)).map fun l => ⟨l.toArray⟩
  | 0, _, _ => rfl
  | f + 1, ord, k => by
    unfold leastRun leastRunL
    simp only [mkLen]
    split
    · rw [leastStep_L, leastRun_L sg f]
    · rfl
def turnedL (sg ord : List Nat) : List (List Nat) := (List.range sg.length).flatMap fun i => ((sg.take i).filter fun d => emL ord [sg.getD i 0] [d]).map fun d => [sg.getD i 0, d]
theorem turnedP_L (sg ord : List Nat) : turnedP ⟨sg.toArray⟩ ⟨ord.toArray⟩ = (turnedL sg ord).map fun l => ⟨l.toArray⟩ := by
  unfold turnedP turnedUpTo turnedL
  rw [mkLen, List.map_flatMap]
  congr 1
  funext i
  unfold turnedRow
  rw [List.map_map]
  show List.map _ (List.filter _ (sg.take i)) = _
  have e : (fun d => emP ⟨ord.toArray⟩ ⟨#[sg.getD i 0]⟩ ⟨#[d]⟩) = fun d => emL ord [sg.getD i 0] [d] := by
    funext d
    exact emP_L (x := [sg.getD i 0]) (y := [d]) (by simp) (by simp)
  rw [show (({ cps := sg.toArray } : Str).cps.toList.getD i 0) = sg.getD i 0 from rfl, e]
  rfl
theorem wsGo_stop {c : Nat} {rest : List Nat} (h1 : c ≠ 32) (h2 : c ≠ 9) : ∀ (l : List Nat) (cnt : List Int) (b n nt : Nat), wsGo (l ++ c :: rest) cnt b n nt = wsGo l cnt b n nt
  | [], cnt, b, n, nt => by
    simp only [List.nil_append, wsGo, if_neg h1, if_neg h2]
  | d :: l, cnt, b, n, nt => by
    show wsGo (d :: (l ++ c :: rest)) cnt b n nt = _
    rw [wsGo, wsGo]
    rw [wsGo_stop h1 h2 l, wsGo_stop h1 h2 l]
end Mine
end
section
open PySem PySem.W PyProof.Rows PySem.Builtin PySem.Builtin.Str PySem.StrLaws
namespace Mine
/-- a row: the least order by the signs' places, what it tells, the turned pairs, the counts of a line and of a line with a blank more -/
abbrev RowT := List Nat × List Int × List (List Nat) × (List Int × Nat × Nat × Nat) × (List Int × Nat × Nat × Nat)
def rowOf5 : List Nat := [0, 1, 2, 3, 4, 2, 5, 6, 7, 8, 3, 7, 9, 10, 11, 4, 8, 11, 12, 13, 3, 7, 9, 10, 11, 9, 14, 15, 16, 17, 10, 16, 18, 19, 20, 11, 17, 20, 21, 22, 4, 8, 11, 12, 13, 11, 17, 20, 21, 22, 12, 21, 23, 24, 25, 13, 22, 25, 26, 27, 4, 8, 11, 12, 13, 11, 17, 20, 21, 22, 12, 21, 23, 24, 25, 13, 22, 25, 26, 27, 12, 21, 23, 24, 25, 23, 28, 29, 30, 31, 24, 30, 32, 33, 34, 25, 31, 34, 35, 36, 13, 22, 25, 26, 27, 25, 31, 34, 35, 36, 26, 35, 37, 38, 39, 27, 36, 39, 40, 41]
def rows5 : List RowT := [
  ([0, 1, 2, 3, 4], [0, 0, 0, 0, 0], [], ([0, 4, 3, 0, 2, 0, 1], 0, 34, 10), ([0, 4, 3, 0, 2, 0, 1], 1, 35, 10)),
  ([1, 0, 2, 3, 4], [1, 0, 0, 0, 0], [[1, 0]], ([0, 3, 4, 0, 2, 0, 1], 0, 35, 10), ([0, 3, 4, 0, 2, 0, 1], 1, 36, 10)),
  ([0, 2, 1, 3, 4], [0, 1, 0, 0, 0], [[2, 1]], ([0, 4, 2, 1, 2, 0, 1], 0, 35, 10), ([0, 4, 2, 1, 2, 0, 1], 1, 36, 10)),
  ([0, 1, 3, 2, 4], [0, 0, 1, 0, 0], [[3, 2]], ([0, 4, 3, 0, 1, 1, 1], 0, 35, 10), ([0, 4, 3, 0, 1, 1, 1], 1, 36, 10)),
  ([0, 1, 2, 4, 3], [0, 0, 0, 1, 0], [[4, 3]], ([0, 4, 3, 0, 2, 0, 0, 1], 0, 35, 10), ([0, 4, 3, 0, 2, 0, 0, 1], 1, 36, 10)),
  ([1, 2, 0, 3, 4], [2, 0, 0, 0, 0], [[1, 0], [2, 0]], ([0, 2, 5, 0, 2, 0, 1], 0, 36, 10), ([0, 2, 5, 0, 2, 0, 1], 1, 37, 10)),
  ([2, 1, 0, 3, 4], [2, 1, 0, 0, 0], [[1, 0], [2, 0], [2, 1]], ([0, 2, 4, 1, 2, 0, 1], 0, 37, 10), ([0, 2, 4, 1, 2, 0, 1], 1, 38, 10)),
  ([1, 0, 3, 2, 4], [1, 0, 1, 0, 0], [[1, 0], [3, 2]], ([0, 3, 4, 0, 1, 1, 1], 0, 36, 10), ([0, 3, 4, 0, 1, 1, 1], 1, 37, 10)),
  ([1, 0, 2, 4, 3], [1, 0, 0, 1, 0], [[1, 0], [4, 3]], ([0, 3, 4, 0, 2, 0, 0, 1], 0, 36, 10), ([0, 3, 4, 0, 2, 0, 0, 1], 1, 37, 10)),
  ([0, 2, 3, 1, 4], [0, 2, 0, 0, 0], [[2, 1], [3, 1]], ([0, 4, 1, 2, 2, 0, 1], 0, 36, 10), ([0, 4, 1, 2, 2, 0, 1], 1, 37, 10)),
  ([0, 3, 2, 1, 4], [0, 2, 1, 0, 0], [[2, 1], [3, 1], [3, 2]], ([0, 4, 1, 2, 1, 1, 1], 0, 37, 10), ([0, 4, 1, 2, 1, 1, 1], 1, 38, 10)),
  ([0, 2, 1, 4, 3], [0, 1, 0, 1, 0], [[2, 1], [4, 3]], ([0, 4, 2, 1, 2, 0, 0, 1], 0, 36, 10), ([0, 4, 2, 1, 2, 0, 0, 1], 1, 37, 10)),
  ([0, 1, 3, 4, 2], [0, 0, 2, 0, 0], [[3, 2], [4, 2]], ([0, 4, 3, 0, 0, 2, 1], 0, 36, 10), ([0, 4, 3, 0, 0, 2, 1], 1, 37, 10)),
  ([0, 1, 4, 3, 2], [0, 0, 2, 1, 0], [[3, 2], [4, 2], [4, 3]], ([0, 4, 3, 0, 0, 2, 0, 1], 0, 37, 10), ([0, 4, 3, 0, 0, 2, 0, 1], 1, 38, 10)),
  ([1, 2, 3, 0, 4], [3, 0, 0, 0, 0], [[1, 0], [2, 0], [3, 0]], ([0, 1, 6, 0, 2, 0, 1], 0, 37, 10), ([0, 1, 6, 0, 2, 0, 1], 1, 38, 10)),
  ([2, 1, 3, 0, 4], [3, 1, 0, 0, 0], [[1, 0], [2, 0], [2, 1], [3, 0]], ([0, 1, 5, 1, 2, 0, 1], 0, 38, 10), ([0, 1, 5, 1, 2, 0, 1], 1, 39, 10)),
  ([1, 3, 2, 0, 4], [3, 0, 1, 0, 0], [[1, 0], [2, 0], [3, 0], [3, 2]], ([0, 1, 6, 0, 1, 1, 1], 0, 38, 10), ([0, 1, 6, 0, 1, 1, 1], 1, 39, 10)),
  ([1, 2, 0, 4, 3], [2, 0, 0, 1, 0], [[1, 0], [2, 0], [4, 3]], ([0, 2, 5, 0, 2, 0, 0, 1], 0, 37, 10), ([0, 2, 5, 0, 2, 0, 0, 1], 1, 38, 10)),
  ([2, 3, 1, 0, 4], [3, 2, 0, 0, 0], [[1, 0], [2, 0], [2, 1], [3, 0], [3, 1]], ([0, 1, 4, 2, 2, 0, 1], 0, 39, 10), ([0, 1, 4, 2, 2, 0, 1], 1, 40, 10)),
  ([3, 2, 1, 0, 4], [3, 2, 1, 0, 0], [[1, 0], [2, 0], [2, 1], [3, 0], [3, 1], [3, 2]], ([0, 1, 4, 2, 1, 1, 1], 0, 40, 10), ([0, 1, 4, 2, 1, 1, 1], 1, 41, 10)),
  ([2, 1, 0, 4, 3], [2, 1, 0, 1, 0], [[1, 0], [2, 0], [2, 1], [4, 3]], ([0, 2, 4, 1, 2, 0, 0, 1], 0, 38, 10), ([0, 2, 4, 1, 2, 0, 0, 1], 1, 39, 10)),
  ([1, 0, 3, 4, 2], [1, 0, 2, 0, 0], [[1, 0], [3, 2], [4, 2]], ([0, 3, 4, 0, 0, 2, 1], 0, 37, 10), ([0, 3, 4, 0, 0, 2, 1], 1, 38, 10)),
  ([1, 0, 4, 3, 2], [1, 0, 2, 1, 0], [[1, 0], [3, 2], [4, 2], [4, 3]], ([0, 3, 4, 0, 0, 2, 0, 1], 0, 38, 10), ([0, 3, 4, 0, 0, 2, 0, 1], 1, 39, 10)),
  ([0, 2, 3, 4, 1], [0, 3, 0, 0, 0], [[2, 1], [3, 1], [4, 1]], ([0, 4, 0, 3, 2, 0, 1], 0, 37, 10), ([0, 4, 0, 3, 2, 0, 1], 1, 38, 10)),
  ([0, 3, 2, 4, 1], [0, 3, 1, 0, 0], [[2, 1], [3, 1], [3, 2], [4, 1]], ([0, 4, 0, 3, 1, 1, 1], 0, 38, 10), ([0, 4, 0, 3, 1, 1, 1], 1, 39, 10)),
  ([0, 2, 4, 3, 1], [0, 3, 0, 1, 0], [[2, 1], [3, 1], [4, 1], [4, 3]], ([0, 4, 0, 3, 2, 0, 0, 1], 0, 38, 10), ([0, 4, 0, 3, 2, 0, 0, 1], 1, 39, 10)),
  ([0, 3, 4, 2, 1], [0, 3, 2, 0, 0], [[2, 1], [3, 1], [3, 2], [4, 1], [4, 2]], ([0, 4, 0, 3, 0, 2, 1], 0, 39, 10), ([0, 4, 0, 3, 0, 2, 1], 1, 40, 10)),
  ([0, 4, 3, 2, 1], [0, 3, 2, 1, 0], [[2, 1], [3, 1], [3, 2], [4, 1], [4, 2], [4, 3]], ([0, 4, 0, 3, 0, 2, 0, 1], 0, 40, 10), ([0, 4, 0, 3, 0, 2, 0, 1], 1, 41, 10)),
  ([1, 2, 3, 4, 0], [4, 0, 0, 0, 0], [[1, 0], [2, 0], [3, 0], [4, 0]], ([0, 0, 7, 0, 2, 0, 1], 0, 38, 10), ([0, 0, 7, 0, 2, 0, 1], 1, 39, 10)),
  ([2, 1, 3, 4, 0], [4, 1, 0, 0, 0], [[1, 0], [2, 0], [2, 1], [3, 0], [4, 0]], ([0, 0, 6, 1, 2, 0, 1], 0, 39, 10), ([0, 0, 6, 1, 2, 0, 1], 1, 40, 10)),
  ([1, 3, 2, 4, 0], [4, 0, 1, 0, 0], [[1, 0], [2, 0], [3, 0], [3, 2], [4, 0]], ([0, 0, 7, 0, 1, 1, 1], 0, 39, 10), ([0, 0, 7, 0, 1, 1, 1], 1, 40, 10)),
  ([1, 2, 4, 3, 0], [4, 0, 0, 1, 0], [[1, 0], [2, 0], [3, 0], [4, 0], [4, 3]], ([0, 0, 7, 0, 2, 0, 0, 1], 0, 39, 10), ([0, 0, 7, 0, 2, 0, 0, 1], 1, 40, 10)),
  ([2, 3, 1, 4, 0], [4, 2, 0, 0, 0], [[1, 0], [2, 0], [2, 1], [3, 0], [3, 1], [4, 0]], ([0, 0, 5, 2, 2, 0, 1], 0, 40, 10), ([0, 0, 5, 2, 2, 0, 1], 1, 41, 10)),
  ([3, 2, 1, 4, 0], [4, 2, 1, 0, 0], [[1, 0], [2, 0], [2, 1], [3, 0], [3, 1], [3, 2], [4, 0]], ([0, 0, 5, 2, 1, 1, 1], 0, 41, 10), ([0, 0, 5, 2, 1, 1, 1], 1, 42, 10)),
  ([2, 1, 4, 3, 0], [4, 1, 0, 1, 0], [[1, 0], [2, 0], [2, 1], [3, 0], [4, 0], [4, 3]], ([0, 0, 6, 1, 2, 0, 0, 1], 0, 40, 10), ([0, 0, 6, 1, 2, 0, 0, 1], 1, 41, 10)),
  ([1, 3, 4, 2, 0], [4, 0, 2, 0, 0], [[1, 0], [2, 0], [3, 0], [3, 2], [4, 0], [4, 2]], ([0, 0, 7, 0, 0, 2, 1], 0, 40, 10), ([0, 0, 7, 0, 0, 2, 1], 1, 41, 10)),
  ([1, 4, 3, 2, 0], [4, 0, 2, 1, 0], [[1, 0], [2, 0], [3, 0], [3, 2], [4, 0], [4, 2], [4, 3]], ([0, 0, 7, 0, 0, 2, 0, 1], 0, 41, 10), ([0, 0, 7, 0, 0, 2, 0, 1], 1, 42, 10)),
  ([2, 3, 4, 1, 0], [4, 3, 0, 0, 0], [[1, 0], [2, 0], [2, 1], [3, 0], [3, 1], [4, 0], [4, 1]], ([0, 0, 4, 3, 2, 0, 1], 0, 41, 10), ([0, 0, 4, 3, 2, 0, 1], 1, 42, 10)),
  ([3, 2, 4, 1, 0], [4, 3, 1, 0, 0], [[1, 0], [2, 0], [2, 1], [3, 0], [3, 1], [3, 2], [4, 0], [4, 1]], ([0, 0, 4, 3, 1, 1, 1], 0, 42, 10), ([0, 0, 4, 3, 1, 1, 1], 1, 43, 10)),
  ([2, 4, 3, 1, 0], [4, 3, 0, 1, 0], [[1, 0], [2, 0], [2, 1], [3, 0], [3, 1], [4, 0], [4, 1], [4, 3]], ([0, 0, 4, 3, 2, 0, 0, 1], 0, 42, 10), ([0, 0, 4, 3, 2, 0, 0, 1], 1, 43, 10)),
  ([3, 4, 2, 1, 0], [4, 3, 2, 0, 0], [[1, 0], [2, 0], [2, 1], [3, 0], [3, 1], [3, 2], [4, 0], [4, 1], [4, 2]], ([0, 0, 4, 3, 0, 2, 1], 0, 43, 10), ([0, 0, 4, 3, 0, 2, 1], 1, 44, 10)),
  ([4, 3, 2, 1, 0], [4, 3, 2, 1, 0], [[1, 0], [2, 0], [2, 1], [3, 0], [3, 1], [3, 2], [4, 0], [4, 1], [4, 2], [4, 3]], ([0, 0, 4, 3, 0, 2, 0, 1], 0, 44, 10), ([0, 0, 4, 3, 0, 2, 0, 1], 1, 45, 10))]
def rowOf4 : List Nat := [0, 1, 2, 3, 2, 4, 5, 6, 3, 6, 7, 8, 3, 6, 7, 8, 7, 9, 10, 11, 8, 11, 12, 13, 0, 1, 2, 3, 2, 4, 5, 6, 3, 6, 7, 8, 3, 6, 7, 8, 7, 9, 10, 11, 8, 11, 12, 13, 0, 1, 2, 3, 2, 4, 5, 6, 3, 6, 7, 8, 3, 6, 7, 8, 7, 9, 10, 11, 8, 11, 12, 13, 0, 1, 2, 3, 2, 4, 5, 6, 3, 6, 7, 8, 3, 6, 7, 8, 7, 9, 10, 11, 8, 11, 12, 13, 0, 1, 2, 3, 2, 4, 5, 6, 3, 6, 7, 8, 3, 6, 7, 8, 7, 9, 10, 11, 8, 11, 12, 13]
def rows4 : List RowT := [
  ([0, 1, 2, 3], [0, 0, 0, 0], [], ([0, 3, 2, 0, 1], 0, 17, 6), ([0, 3, 2, 0, 1], 1, 18, 6)),
  ([1, 0, 2, 3], [1, 0, 0, 0], [[1, 0]], ([0, 2, 3, 0, 1], 0, 18, 6), ([0, 2, 3, 0, 1], 1, 19, 6)),
  ([0, 2, 1, 3], [0, 1, 0, 0], [[2, 1]], ([0, 3, 1, 1, 1], 0, 18, 6), ([0, 3, 1, 1, 1], 1, 19, 6)),
  ([0, 1, 3, 2], [0, 0, 1, 0], [[3, 2]], ([0, 3, 2, 0, 0, 1], 0, 18, 6), ([0, 3, 2, 0, 0, 1], 1, 19, 6)),
  ([1, 2, 0, 3], [2, 0, 0, 0], [[1, 0], [2, 0]], ([0, 1, 4, 0, 1], 0, 19, 6), ([0, 1, 4, 0, 1], 1, 20, 6)),
  ([2, 1, 0, 3], [2, 1, 0, 0], [[1, 0], [2, 0], [2, 1]], ([0, 1, 3, 1, 1], 0, 20, 6), ([0, 1, 3, 1, 1], 1, 21, 6)),
  ([1, 0, 3, 2], [1, 0, 1, 0], [[1, 0], [3, 2]], ([0, 2, 3, 0, 0, 1], 0, 19, 6), ([0, 2, 3, 0, 0, 1], 1, 20, 6)),
  ([0, 2, 3, 1], [0, 2, 0, 0], [[2, 1], [3, 1]], ([0, 3, 0, 2, 1], 0, 19, 6), ([0, 3, 0, 2, 1], 1, 20, 6)),
  ([0, 3, 2, 1], [0, 2, 1, 0], [[2, 1], [3, 1], [3, 2]], ([0, 3, 0, 2, 0, 1], 0, 20, 6), ([0, 3, 0, 2, 0, 1], 1, 21, 6)),
  ([1, 2, 3, 0], [3, 0, 0, 0], [[1, 0], [2, 0], [3, 0]], ([0, 0, 5, 0, 1], 0, 20, 6), ([0, 0, 5, 0, 1], 1, 21, 6)),
  ([2, 1, 3, 0], [3, 1, 0, 0], [[1, 0], [2, 0], [2, 1], [3, 0]], ([0, 0, 4, 1, 1], 0, 21, 6), ([0, 0, 4, 1, 1], 1, 22, 6)),
  ([1, 3, 2, 0], [3, 0, 1, 0], [[1, 0], [2, 0], [3, 0], [3, 2]], ([0, 0, 5, 0, 0, 1], 0, 21, 6), ([0, 0, 5, 0, 0, 1], 1, 22, 6)),
  ([2, 3, 1, 0], [3, 2, 0, 0], [[1, 0], [2, 0], [2, 1], [3, 0], [3, 1]], ([0, 0, 3, 2, 1], 0, 22, 6), ([0, 0, 3, 2, 1], 1, 23, 6)),
  ([3, 2, 1, 0], [3, 2, 1, 0], [[1, 0], [2, 0], [2, 1], [3, 0], [3, 1], [3, 2]], ([0, 0, 3, 2, 0, 1], 0, 23, 6), ([0, 0, 3, 2, 0, 1], 1, 24, 6))]


def rowsN (n : Nat) : List RowT := if n = 5 then rows5 else rows4
def rowOfN (n : Nat) : List Nat := if n = 5 then rowOf5 else rowOf4
def row0 : RowT := ([], [], [], ([], 0, 0, 0), ([], 0, 0, 0))
def sgL (i n : Nat) : List Nat := (menuL.drop i).take n
def pick (sg : List Nat) (l : List Nat) : List Nat := l.map fun p => sg.getD p 0
def okRow (sg : List Nat) (n : Nat) (r : RowT) : Bool :=
  (r.1.length == n) && r.1.all (fun p => decide (p < n)) && (toldP ⟨(pick sg r.1).toArray⟩ == some r.2.1) && (turnedL sg (pick sg r.1) == r.2.2.1.map (pick sg)) && r.2.2.1.all (fun l => l.all fun p => decide (p < n))
def okOrd (sg : List Nat) (n k : Nat) : Bool :=
  let o := (orderP ⟨sg.toArray⟩ (k : Int)).cps.toList
  let r := (rowsN n).getD ((rowOfN n).getD k 0) row0
  (o.length == n) && o.all (fun c => sg.contains c) && (leastRunL sg 100 (o, 0) == some (pick sg r.1)) && (toldP ⟨o.toArray⟩ == some r.2.1) && decide ((rowOfN n).getD k 0 < (rowsN n).length)
def okNum (n : Nat) (r : RowT) : Bool :=
  (r.2.1.length == n) && r.2.1.all (fun x => decide (0 ≤ x ∧ x ≤ 10)) && (wsP (leadP n r.2.1) == r.2.2.2.1) && (wsP (leadP n r.2.1 ++ Str.ofString " ") == r.2.2.2.2) && decide ((leadP n r.2.1).length ≤ 50) &&
   (r.2.2.2.1.2.2.1 == (if n = 5 then 34 else 17) + r.2.2.1.length)
def vOk (v : List Int × Nat × Nat × Nat) : Bool := decide (v.1.length ≤ 100) && decide (v.2.1 ≤ 100) && decide (v.2.2.1 ≤ 100) && decide (v.2.2.2 ≤ 100) && v.1.all (fun c => decide (0 ≤ c ∧ c ≤ 100))
def okPair (a b : RowT) : Bool :=
  (lessP a.2.2.2.1 b.2.2.2.2 == (a.2.2.1.all fun x => b.2.2.1.contains x)) && (((a.2.2.2.1.1 == b.2.2.2.1.1) && (a.2.2.2.1.2.1 == b.2.2.2.1.2.1)) == (a.1 == b.1))
def okInj (sg : List Nat) (n : Nat) : Bool := (List.range n).all fun p => (List.range n).all fun q => (sg.getD p 0 != sg.getD q 0) || p == q
def okMenu (sg : List Nat) : Bool := sg.all fun c => menuL.contains c
theorem num5_0 : (rows5.take 14).all (okNum 5) = true := by decide +kernel
theorem num5_1 : ((rows5.drop 14).take 14).all (okNum 5) = true := by decide +kernel
theorem num5_2 : (rows5.drop 28).all (okNum 5) = true := by decide +kernel
theorem num4 : rows4.all (okNum 4) = true := by decide +kernel
theorem v5 : rows5.all (fun r => vOk r.2.2.2.1 && vOk r.2.2.2.2) = true := by decide +kernel
theorem v4 : rows4.all (fun r => vOk r.2.2.2.1 && vOk r.2.2.2.2) = true := by decide +kernel
theorem inj5 : (List.range 8).all (fun i => okInj (sgL i 5) 5 && okMenu (sgL i 5)) = true := by decide +kernel
theorem inj4 : (okInj (sgL 4 4) 4 && okMenu (sgL 4 4)) = true := by decide +kernel
theorem row5_0 : rows5.all (okRow (sgL 0 5) 5) = true := by decide +kernel
theorem row5_1 : rows5.all (okRow (sgL 1 5) 5) = true := by decide +kernel
theorem row5_2 : rows5.all (okRow (sgL 2 5) 5) = true := by decide +kernel
theorem row5_3 : rows5.all (okRow (sgL 3 5) 5) = true := by decide +kernel
theorem row5_4 : rows5.all (okRow (sgL 4 5) 5) = true := by decide +kernel
theorem row5_5 : rows5.all (okRow (sgL 5 5) 5) = true := by decide +kernel
theorem row5_6 : rows5.all (okRow (sgL 6 5) 5) = true := by decide +kernel
theorem row5_7 : rows5.all (okRow (sgL 7 5) 5) = true := by decide +kernel
theorem row4 : rows4.all (okRow (sgL 4 4) 4) = true := by decide +kernel
theorem pair4 : rows4.all (fun a => rows4.all fun b => okPair a b) = true := by decide +kernel
theorem pair5_0 : (rows5.take 14).all (fun a => rows5.all fun b => okPair a b) = true := by decide +kernel
theorem pair5_1 : ((rows5.drop 14).take 14).all (fun a => rows5.all fun b => okPair a b) = true := by decide +kernel
theorem pair5_2 : (rows5.drop 28).all (fun a => rows5.all fun b => okPair a b) = true := by decide +kernel
theorem rows5_cut : rows5 = rows5.take 14 ++ ((rows5.drop 14).take 14 ++ rows5.drop 28) := rfl
theorem all_rows5 {f : RowT → Bool} (h0 : (rows5.take 14).all f = true) (h1 : ((rows5.drop 14).take 14).all f = true) (h2 : (rows5.drop 28).all f = true) : rows5.all f = true := by
  have e : rows5.all f = (rows5.take 14 ++ ((rows5.drop 14).take 14 ++ rows5.drop 28)).all f := congrArg (fun l => List.all l f) rows5_cut
  rw [e, List.all_append, List.all_append, h0, h1, h2]
  rfl
theorem num5 : rows5.all (okNum 5) = true := all_rows5 num5_0 num5_1 num5_2
theorem pair5 : rows5.all (fun a => rows5.all fun b => okPair a b) = true := all_rows5 pair5_0 pair5_1 pair5_2
theorem range_cut : List.range 120 = List.range' 0 30 ++ (List.range' 30 30 ++ (List.range' 60 30 ++ List.range' 90 30)) := by decide
theorem all_cut {f : Nat → Bool} (h0 : (List.range' 0 30).all f = true) (h1 : (List.range' 30 30).all f = true) (h2 : (List.range' 60 30).all f = true) (h3 : (List.range' 90 30).all f = true) : (List.range 120).all f = true := by
  rw [range_cut, List.all_append, List.all_append, List.all_append, h0, h1, h2, h3]
  rfl
theorem ord4_p0 : (List.range' 0 30).all (okOrd (sgL 4 4) 4) = true := by decide +kernel
theorem ord4_p1 : (List.range' 30 30).all (okOrd (sgL 4 4) 4) = true := by decide +kernel
theorem ord4_p2 : (List.range' 60 30).all (okOrd (sgL 4 4) 4) = true := by decide +kernel
theorem ord4_p3 : (List.range' 90 30).all (okOrd (sgL 4 4) 4) = true := by decide +kernel
theorem ord4 : (List.range 120).all (okOrd (sgL 4 4) 4) = true := all_cut ord4_p0 ord4_p1 ord4_p2 ord4_p3
theorem ord5_0_p0 : (List.range' 0 30).all (okOrd (sgL 0 5) 5) = true := by decide +kernel
theorem ord5_0_p1 : (List.range' 30 30).all (okOrd (sgL 0 5) 5) = true := by decide +kernel
theorem ord5_0_p2 : (List.range' 60 30).all (okOrd (sgL 0 5) 5) = true := by decide +kernel
theorem ord5_0_p3 : (List.range' 90 30).all (okOrd (sgL 0 5) 5) = true := by decide +kernel
theorem ord5_0 : (List.range 120).all (okOrd (sgL 0 5) 5) = true := all_cut ord5_0_p0 ord5_0_p1 ord5_0_p2 ord5_0_p3
theorem ord5_1_p0 : (List.range' 0 30).all (okOrd (sgL 1 5) 5) = true := by decide +kernel
theorem ord5_1_p1 : (List.range' 30 30).all (okOrd (sgL 1 5) 5) = true := by decide +kernel
theorem ord5_1_p2 : (List.range' 60 30).all (okOrd (sgL 1 5) 5) = true := by decide +kernel
theorem ord5_1_p3 : (List.range' 90 30).all (okOrd (sgL 1 5) 5) = true := by decide +kernel
theorem ord5_1 : (List.range 120).all (okOrd (sgL 1 5) 5) = true := all_cut ord5_1_p0 ord5_1_p1 ord5_1_p2 ord5_1_p3
theorem ord5_2_p0 : (List.range' 0 30).all (okOrd (sgL 2 5) 5) = true := by decide +kernel
theorem ord5_2_p1 : (List.range' 30 30).all (okOrd (sgL 2 5) 5) = true := by decide +kernel
theorem ord5_2_p2 : (List.range' 60 30).all (okOrd (sgL 2 5) 5) = true := by decide +kernel
theorem ord5_2_p3 : (List.range' 90 30).all (okOrd (sgL 2 5) 5) = true := by decide +kernel
theorem ord5_2 : (List.range 120).all (okOrd (sgL 2 5) 5) = true := all_cut ord5_2_p0 ord5_2_p1 ord5_2_p2 ord5_2_p3
theorem ord5_3_p0 : (List.range' 0 30).all (okOrd (sgL 3 5) 5) = true := by decide +kernel
theorem ord5_3_p1 : (List.range' 30 30).all (okOrd (sgL 3 5) 5) = true := by decide +kernel
theorem ord5_3_p2 : (List.range' 60 30).all (okOrd (sgL 3 5) 5) = true := by decide +kernel
theorem ord5_3_p3 : (List.range' 90 30).all (okOrd (sgL 3 5) 5) = true := by decide +kernel
theorem ord5_3 : (List.range 120).all (okOrd (sgL 3 5) 5) = true := all_cut ord5_3_p0 ord5_3_p1 ord5_3_p2 ord5_3_p3
theorem ord5_4_p0 : (List.range' 0 30).all (okOrd (sgL 4 5) 5) = true := by decide +kernel
theorem ord5_4_p1 : (List.range' 30 30).all (okOrd (sgL 4 5) 5) = true := by decide +kernel
theorem ord5_4_p2 : (List.range' 60 30).all (okOrd (sgL 4 5) 5) = true := by decide +kernel
theorem ord5_4_p3 : (List.range' 90 30).all (okOrd (sgL 4 5) 5) = true := by decide +kernel
theorem ord5_4 : (List.range 120).all (okOrd (sgL 4 5) 5) = true := all_cut ord5_4_p0 ord5_4_p1 ord5_4_p2 ord5_4_p3
theorem ord5_5_p0 : (List.range' 0 30).all (okOrd (sgL 5 5) 5) = true := by decide +kernel
theorem ord5_5_p1 : (List.range' 30 30).all (okOrd (sgL 5 5) 5) = true := by decide +kernel
theorem ord5_5_p2 : (List.range' 60 30).all (okOrd (sgL 5 5) 5) = true := by decide +kernel
theorem ord5_5_p3 : (List.range' 90 30).all (okOrd (sgL 5 5) 5) = true := by decide +kernel
theorem ord5_5 : (List.range 120).all (okOrd (sgL 5 5) 5) = true := all_cut ord5_5_p0 ord5_5_p1 ord5_5_p2 ord5_5_p3
theorem ord5_6_p0 : (List.range' 0 30).all (okOrd (sgL 6 5) 5) = true := by decide +kernel
theorem ord5_6_p1 : (List.range' 30 30).all (okOrd (sgL 6 5) 5) = true := by decide +kernel
theorem ord5_6_p2 : (List.range' 60 30).all (okOrd (sgL 6 5) 5) = true := by decide +kernel
theorem ord5_6_p3 : (List.range' 90 30).all (okOrd (sgL 6 5) 5) = true := by decide +kernel
theorem ord5_6 : (List.range 120).all (okOrd (sgL 6 5) 5) = true := all_cut ord5_6_p0 ord5_6_p1 ord5_6_p2 ord5_6_p3
theorem ord5_7_p0 : (List.range' 0 30).all (okOrd (sgL 7 5) 5) = true := by decide +kernel
theorem ord5_7_p1 : (List.range' 30 30).all (okOrd (sgL 7 5) 5) = true := by decide +kernel
theorem ord5_7_p2 : (List.range' 60 30).all (okOrd (sgL 7 5) 5) = true := by decide +kernel
theorem ord5_7_p3 : (List.range' 90 30).all (okOrd (sgL 7 5) 5) = true := by decide +kernel
theorem ord5_7 : (List.range 120).all (okOrd (sgL 7 5) 5) = true := all_cut ord5_7_p0 ord5_7_p1 ord5_7_p2 ord5_7_p3
end Mine
end
section
open PySem PySem.W PyProof.Rows PySem.Builtin PySem.Builtin.Str PySem.StrLaws
namespace Mine
/-- a text out of a row's places -/
def mkS (sg l : List Nat) : Str := ⟨(pick sg l).toArray⟩
def prow (sg : List Nat) (r : RowT) : PRow := ⟨mkS sg r.1, r.2.1, r.2.2.1.map (mkS sg), r.2.2.2.1, r.2.2.2.2⟩
theorem pick_inj {sg : List Nat} {n : Nat} (h : okInj sg n = true) : ∀ {l l' : List Nat}, (∀ p ∈ l, p < n) → (∀ p ∈ l', p < n) → pick sg l = pick sg l' → l = l'
  | [], [], _, _, _ => rfl
  | [], q :: l', _, _, e => by simp [pick] at e
  | p :: l, [], _, _, e => by simp [pick] at e
  | p :: l, q :: l', h1, h2, e => by
    simp only [pick, List.map_cons, List.cons.injEq] at e
    have hp := h1 p (List.mem_cons_self ..)
    have hq := h2 q (List.mem_cons_self ..)
    have h' := h
    simp only [okInj, List.all_eq_true, List.mem_range, Bool.or_eq_true, bne_iff_ne, beq_iff_eq] at h'
    have hpq : p = q := (h' p hp q hq).resolve_left fun c => c e.1
    rw [hpq, pick_inj h (fun x hx => h1 x (List.mem_cons_of_mem _ hx)) (fun x hx => h2 x (List.mem_cons_of_mem _ hx)) e.2]
theorem mkS_inj {sg : List Nat} {n : Nat} (h : okInj sg n = true) {l l' : List Nat} (h1 : ∀ p ∈ l, p < n) (h2 : ∀ p ∈ l', p < n) : mkS sg l = mkS sg l' ↔ l = l' := by
  constructor
  · intro e
    have e2 : (pick sg l).toArray = (pick sg l').toArray := congrArg Str.cps e
    exact pick_inj h h1 h2 (by simpa using e2)
  · rintro rfl; rfl
theorem notIn_all {sg : List Nat} {n : Nat} (h : okInj sg n = true) {x y : List (List Nat)} (hx : ∀ l ∈ x, ∀ p ∈ l, p < n) (hy : ∀ l ∈ y, ∀ p ∈ l, p < n) :
    (x.all fun l => y.contains l) = decide (notIn (x.map (mkS sg)) (y.map (mkS sg)) = []) := by
  rw [Bool.eq_iff_iff, decide_eq_true_iff]
  unfold notIn
  rw [List.filter_eq_nil_iff, List.all_eq_true]
  constructor
  · intro hc a ha
    obtain ⟨l, hl, rfl⟩ := List.mem_map.mp ha
    have hm : l ∈ y := by simpa using hc l hl
    simp only [Bool.not_eq_true', Bool.not_eq_false, List.any_eq_true]
    exact ⟨mkS sg l, List.mem_map_of_mem hm, by simp⟩
  · intro hc l hl
    have h1 := hc (mkS sg l) (List.mem_map_of_mem hl)
    simp only [Bool.not_eq_true', Bool.not_eq_false, List.any_eq_true] at h1
    obtain ⟨z, hz, e⟩ := h1
    obtain ⟨l', hl', rfl⟩ := List.mem_map.mp hz
    have e' : mkS sg l' = mkS sg l := eq_of_beq e
    have := (mkS_inj h (hy l' hl') (hx l hl)).mp e'
    rw [← this]
    simpa using hl'
theorem pair_ok {sg : List Nat} {n : Nat} (h : okInj sg n = true) {a b : RowT} (ha : okRow sg n a = true) (hb : okRow sg n b = true) (hp : okPair a b = true) : PairOk (prow sg a) (prow sg b) := by
  simp only [okRow, Bool.and_eq_true, List.all_eq_true, decide_eq_true_iff] at ha hb
  simp only [okPair, Bool.and_eq_true, beq_iff_eq] at hp
  obtain ⟨h1, h2⟩ := hp
  refine ⟨?_, ?_⟩
  · show lessP a.2.2.2.1 b.2.2.2.2 = _
    rw [h1]
    exact notIn_all h ha.2 hb.2
  · show decide (a.2.2.2.1.1 = b.2.2.2.1.1 ∧ a.2.2.2.1.2.1 = b.2.2.2.1.2.1) = (mkS sg a.1 == mkS sg b.1)
    have e1 : decide (a.2.2.2.1.1 = b.2.2.2.1.1 ∧ a.2.2.2.1.2.1 = b.2.2.2.1.2.1) = (a.1 == b.1) := by
      rw [← h2, Bool.eq_iff_iff]
      simp
    rw [e1, Bool.eq_iff_iff, beq_iff_eq, beq_iff_eq]
    exact (mkS_inj h ha.1.1.1.2 hb.1.1.1.2).symm
theorem ws_first {l o : List Nat} (h0 : o ≠ []) (hm : ∀ c ∈ o, c ∈ menuL) : wsGo (l ++ o) [] 0 0 0 = wsGo l [] 0 0 0 := by
  cases o with
  | nil => exact absurd rfl h0
  | cons c rest =>
    have hc : c ∈ menuL := hm c (List.mem_cons_self ..)
    have h1 : ∀ c ∈ menuL, c ≠ 32 ∧ c ≠ 9 := by decide
    exact wsGo_stop (h1 c hc).1 (h1 c hc).2 l [] 0 0 0
theorem wsP_app {x o : Str} (h0 : o.cps.toList ≠ []) (hm : ∀ c ∈ o.cps.toList, c ∈ menuL) : wsP (x ++ o) = wsP x := by
  unfold wsP
  rw [Str.cps_append, Array.toList_append]
  exact ws_first h0 hm
theorem vok_of {v : List Int × Nat × Nat × Nat} (h : vOk v = true) : VOk v := by
  simp only [vOk, Bool.and_eq_true, List.all_eq_true, decide_eq_true_iff] at h
  exact ⟨h.1.1.1.1, h.1.1.1.2, h.1.1.2, h.1.2, h.2⟩
theorem str_eta (o : Str) : (⟨o.cps.toList.toArray⟩ : Str) = o := rfl
theorem ord_ok {sg : List Nat} {n k : Nat} {sh : Int} (hn : 1 ≤ n) (hmenu : okMenu sg = true) (hsh : sh = (if n = 5 then 34 else 17)) (ho : okOrd sg n k = true)
    (hr : okRow sg n ((rowsN n).getD ((rowOfN n).getD k 0) row0) = true) (hq : okNum n ((rowsN n).getD ((rowOfN n).getD k 0) row0) = true)
    (hv : vOk ((rowsN n).getD ((rowOfN n).getD k 0) row0).2.2.2.1 = true) (hw : vOk ((rowsN n).getD ((rowOfN n).getD k 0) row0).2.2.2.2 = true) (hin : ∀ p, p < n → sg.getD p 0 ∈ sg) :
    OrdOk ⟨sg.toArray⟩ n sh (orderP ⟨sg.toArray⟩ (k : Int)) (prow sg ((rowsN n).getD ((rowOfN n).getD k 0) row0)) := by
  have hob := ho
  simp only [okOrd, Bool.and_eq_true, beq_iff_eq, List.all_eq_true, decide_eq_true_iff] at hob
  generalize (rowsN n).getD ((rowOfN n).getD k 0) row0 = r at *
  generalize orderP ⟨sg.toArray⟩ (k : Int) = o at *
  obtain ⟨⟨⟨⟨o1, o2⟩, o3⟩, o4⟩, _⟩ := hob
  simp only [okRow, Bool.and_eq_true, beq_iff_eq, List.all_eq_true, decide_eq_true_iff] at hr
  obtain ⟨⟨⟨⟨r1, r2⟩, r3⟩, r4⟩, r5⟩ := hr
  simp only [okNum, Bool.and_eq_true, beq_iff_eq, List.all_eq_true, decide_eq_true_iff] at hq
  obtain ⟨⟨⟨⟨⟨q1, q2⟩, q3⟩, q4⟩, q5⟩, q6⟩ := hq
  simp only [okMenu, List.all_eq_true] at hmenu
  have hm : ∀ c ∈ sg, c ∈ menuL := fun c hc => by simpa using hmenu c hc
  have oin : ∀ c ∈ o.cps.toList, c ∈ sg := fun c hc => by simpa using o2 c hc
  have one : o.cps.toList ≠ [] := fun e => by rw [e] at o1; simp at o1; omega
  have rin : ∀ c ∈ pick sg r.1, c ∈ sg := fun c hc => by
    obtain ⟨p, hp, rfl⟩ := List.mem_map.mp hc
    exact hin p (r2 p hp)
  have rlen : (pick sg r.1).length = n := by simp [pick, r1]
  have rne : pick sg r.1 ≠ [] := fun e => by rw [e] at rlen; simp at rlen; omega
  exact {
    ol := by rw [← o1]; simp [Str.length]
    oin := oin
    run := by
      have e := leastRun_L sg 100 o.cps.toList 0
      rw [str_eta, o3] at e
      exact e
    told := o4
    rl := by show (⟨(pick sg r.1).toArray⟩ : Str).length = n; rw [mkLen]; exact rlen
    rin := rin
    rtold := r3
    turned := by
      show turnedP ⟨sg.toArray⟩ ⟨(pick sg r.1).toArray⟩ = r.2.2.1.map (mkS sg)
      rw [turnedP_L, r4, List.map_map]
      rfl
    tl := q1
    tb := q2
    ll := q5
    v := (wsP_app one fun c hc => hm c (oin c hc)).trans q3
    vr := (wsP_app (o := mkS sg r.1) rne fun c hc => hm c (rin c hc)).trans q3
    ww := (wsP_app one fun c hc => hm c (oin c hc)).trans q4
    vok := vok_of hv
    wok := vok_of hw
    vn := by
      show ((r.2.2.2.1.2.2.1 : Nat) : Int) = sh + ((r.2.2.1.map (mkS sg)).length : Int)
      rw [q6, List.length_map, hsh]
      split <;> omega }
end Mine
end
section
open PySem PySem.W PyProof.Rows PySem.Builtin PySem.Builtin.Str PySem.StrLaws
namespace Mine
theorem getD_memD {α : Type} {l : List α} {d : α} {p : Nat} (h : p < l.length) : l.getD p d ∈ l := by
  rw [List.getD_eq_getElem?_getD, List.getElem?_eq_getElem h]
  exact List.getElem_mem h
theorem fmod_nat (d : Int) : ∃ k : Nat, k < 120 ∧ d.fmod 120 = (k : Int) := by
  have h0 := Int.fmod_nonneg_of_pos d (show (0 : Int) < 120 by decide)
  have h1 := Int.fmod_lt_of_pos d (show (0 : Int) < 120 by decide)
  exact ⟨(d.fmod 120).toNat, by omega, by omega⟩
theorem plain_core {sg : List Nat} {n : Nat} (hn : 1 ≤ n) (hlen : sg.length = n) (hinj : okInj sg n = true) (hmenu : okMenu sg = true) (hrows : (rowsN n).all (okRow sg n) = true) (hnum : (rowsN n).all (okNum n) = true)
    (hv : (rowsN n).all (fun r => vOk r.2.2.2.1 && vOk r.2.2.2.2) = true) (hpair : (rowsN n).all (fun a => (rowsN n).all fun b => okPair a b) = true) (hord : (List.range 120).all (okOrd sg n) = true)
    (d0 d1 sh : Int) (hsh : sh = (if n = 5 then 34 else 17)) :
    (∀ c ∈ sg, c ∈ menuL) ∧ ∃ a b, OrdOk ⟨sg.toArray⟩ n sh (orderP ⟨sg.toArray⟩ (d0.fmod 120)) a ∧ OrdOk ⟨sg.toArray⟩ n sh (orderP ⟨sg.toArray⟩ (d1.fmod 120)) b ∧ PairOk a b ∧ PairOk b a := by
  have hm := hmenu
  simp only [okMenu, List.all_eq_true] at hm
  refine ⟨fun c hc => by simpa using hm c hc, ?_⟩
  have hin : ∀ p, p < n → sg.getD p 0 ∈ sg := fun p hp => getD_memD (by omega)
  rw [List.all_eq_true] at hrows hnum hv hpair hord
  have hk : ∀ k : Nat, k < 120 → (rowsN n).getD ((rowOfN n).getD k 0) row0 ∈ rowsN n := fun k hk => by
    have h := hord k (List.mem_range.mpr hk)
    simp only [okOrd, Bool.and_eq_true, decide_eq_true_iff] at h
    exact getD_memD h.2
  have hO : ∀ k : Nat, k < 120 → OrdOk ⟨sg.toArray⟩ n sh (orderP ⟨sg.toArray⟩ (k : Int)) (prow sg ((rowsN n).getD ((rowOfN n).getD k 0) row0)) := fun k hk' => by
    have hv' := hv _ (hk k hk')
    rw [Bool.and_eq_true] at hv'
    exact ord_ok hn hmenu hsh (hord k (List.mem_range.mpr hk')) (hrows _ (hk k hk')) (hnum _ (hk k hk')) hv'.1 hv'.2 hin
  have hP : ∀ k k' : Nat, k < 120 → k' < 120 → PairOk (prow sg ((rowsN n).getD ((rowOfN n).getD k 0) row0)) (prow sg ((rowsN n).getD ((rowOfN n).getD k' 0) row0)) := fun k k' h1 h2 => by
    have hp := hpair _ (hk k h1)
    rw [List.all_eq_true] at hp
    exact pair_ok hinj (hrows _ (hk k h1)) (hrows _ (hk k' h2)) (hp _ (hk k' h2))
  obtain ⟨k0, h0, e0⟩ := fmod_nat d0
  obtain ⟨k1, h1, e1⟩ := fmod_nat d1
  rw [e0, e1]
  exact ⟨_, _, hO k0 h0, hO k1 h1, hP k0 k1 h0 h1, hP k1 k0 h1 h0⟩
theorem ord5_all : ∀ i, i < 8 → (List.range 120).all (okOrd (sgL i 5) 5) = true
  | 0, _ => ord5_0
  | 1, _ => ord5_1
  | 2, _ => ord5_2
  | 3, _ => ord5_3
  | 4, _ => ord5_4
  | 5, _ => ord5_5
  | 6, _ => ord5_6
  | 7, _ => ord5_7
  | k + 8, h => absurd h (by omega)
theorem row5_all : ∀ i, i < 8 → rows5.all (okRow (sgL i 5) 5) = true
  | 0, _ => row5_0
  | 1, _ => row5_1
  | 2, _ => row5_2
  | 3, _ => row5_3
  | 4, _ => row5_4
  | 5, _ => row5_5
  | 6, _ => row5_6
  | 7, _ => row5_7
  | k + 8, h => absurd h (by omega)
theorem plain_holds : Plain := by
  intro sg x d0 d1 sh n hsg hn hsh
  obtain ⟨rfl, hlen⟩ := hsg
  have h0 := Int.fmod_nonneg_of_pos x (show (0 : Int) < 8 by decide)
  have h8 := Int.fmod_lt_of_pos x (show (0 : Int) < 8 by decide)
  rcases hn with rfl | ⟨rfl, rfl⟩
  · obtain ⟨i, hi⟩ : ∃ i, (x.fmod 8).toNat = i := ⟨_, rfl⟩
    rw [hi] at hlen ⊢
    have hi8 : i < 8 := by omega
    have e := List.all_eq_true.mp inj5 i (List.mem_range.mpr hi8)
    rw [Bool.and_eq_true] at e
    have hl : (sgL i 5).length = 5 := (mkLen (sgL i 5)).symm.trans hlen
    exact plain_core (sg := sgL i 5) (n := 5) (by decide) hl e.1 e.2 (row5_all i hi8) num5 v5 pair5 (ord5_all i hi8) d0 d1 sh hsh
  · have e := inj4
    rw [Bool.and_eq_true] at e
    have hi : ((4 : Int).fmod 8).toNat = 4 := by decide
    rw [hi] at hlen ⊢
    exact plain_core (sg := sgL 4 4) (n := 4) (by decide) (by decide) e.1 e.2 row4 num4 v4 pair4 ord4 d0 d1 sh hsh
end Mine
end
theorem PySem.Challenge.cw_re0145_01_holds : PySem.Challenge.rw_re0145_01.Holds := by
  exact Mine.lawX Mine.plain_holds
