import PyProof.Rows.All
import Wide.All
import OpenK.AllK
import Wide.FinOn
import PySem.Challenge.RW_uq0012_01
open PySem PySem.W PySem.Spec PySem.Calls PyProof.Rows
set_option Elab.async false
set_option maxRecDepth 100000
set_option maxHeartbeats 8000000
set_option linter.all false
set_option genSizeOf false
set_option genInjectivity false
namespace Mine
open_top hd for PySem.Challenge.rw_uq0012_01
noncomputable abbrev Led := List (Addr × Obj)
/-- what a call of the def at f with vs hands back: R news v, news laid ahead of the ledger -/
noncomputable abbrev Says (bd bu : Nat) (w : World) (mean : ExcName → Option Value) (mg mb : Str → Option Value) (f : Addr) (vs : List Value) (need : Led) (R : Led → Value → Prop) : Prop :=
  ∀ (dp un : Nat) (gd : Option (List Code)) (cn : Str) (cs : Scope) (a : Addr) (ccd : Value) (cl : List (Str × Addr)) (outer : List Env) (A₀ : Around) (base h₀ : Heap) (L : Addr) (m : Str → Option Value) (news : Led) (s : Shared) (Q E : Value → Shared → Prop),
    Below A₀ base outer h₀ → Fr h₀ L s.heap m → (hd.heap_39 w.params).In h₀ → News h₀ L s.heap news → Top hd.view_39 (looseW hd.view_39 [Str.ofString "bisect_left", Str.ofString "Whitespace"]) mean mg mb h₀ → cs.kind = .function →
    (∀ p ∈ need, p ∈ news) → dp + bd < recursionLimit → un + bu < cLine →
    (∀ (v : Value) (new : Led) (h' : Heap) (tk' : Nat), Fr h₀ L h' m → News h₀ L h' (new ++ news) → (∀ q ∈ news, ∀ p ∈ new, q.1 < p.1) → R new v → Q v { s with heap := h', toks := tk' }) →
    wpAny (model PySem.Challenge.rw_uq0012_01.row.prog w) (ktrTop dp un gd cn cs L a ccd cl outer) (call (.ref f) vs) Q E s
theorem need_on {h₀ h : Heap} {L : Addr} {need news : Led} (N : News h₀ L h news) (hn : ∀ p ∈ need, p ∈ news) : News h₀ L h (need ++ news) := fun p hp => N p ((List.mem_append.mp hp).elim (hn p) id)
theorem led_drop {h₀ h : Heap} {L : Addr} {news news' : Led} (N : News h₀ L h news') (hs : ∀ p ∈ news, p ∈ news') : News h₀ L h news := fun p hp => N p (hs p hp)
theorem len_open : (Str.ofString "(").length = 1 := by decide +kernel
theorem len_shut : (Str.ofString ")").length = 1 := by decide +kernel
theorem len_tab : (Str.ofString "\t").length = 1 := by decide +kernel
theorem len_blank : (Str.ofString " ").length = 1 := by decide +kernel
theorem len_back : (Str.ofString "\\").length = 1 := by decide +kernel
theorem gen_toks {α : Type} {M : Model} {A : Around} {c : Sem α} {Q : α → Shared → Prop} {E : Value → Shared → Prop} {h : Heap} {g : Array GenState} {d : Drawn} {o : OsState} {tk : Tok} (H : ∀ tk, wpAny M A c Q E { heap := h, gens := g, drawn := d, toks := tk, os := o }) : wpAny M A c Q E { heap := h, gens := g, drawn := d, toks := tk, os := o } := H tk
theorem lookN {g h : Heap} {L : Addr} {l l' : List (Str × Value)} (e : l = l') (F : Fr g L h (fun y => List.lookup y l)) : Fr g L h (fun y => List.lookup y l') := e ▸ F
theorem allNe {d : Addr} {news : Led} (h : AllLt d news) : ∀ p ∈ news, p.1 ≠ d := fun p hp => Nat.ne_of_lt (kst_ltOf h p hp)
theorem appNe {news own : Led} {d : Addr} {r : List Addr} (h : AllLt d news) (o : OwnOff own r) (hd : d ∈ r) : ∀ p ∈ news ++ own, p.1 ≠ d := List.forall_mem_append.mpr ⟨allNe h, OwnOff.ne o hd⟩
theorem allLt_le {d e : Nat} (hde : d ≤ e) : ∀ {news : Led}, AllLt d news → AllLt e news
  | [], _ => trivial
  | _ :: _, h => ⟨Nat.lt_of_lt_of_le h.1 hde, allLt_le hde h.2⟩
theorem allLt_succ {d : Nat} {news : Led} (h : AllLt d news) : AllLt (d + 1) news := allLt_le (Nat.le_succ d) h
theorem cut_at : ∀ (us : List Value) (k : Nat) (y : Value), us[k]? = some y → kl_cut us k = some (us.take k, y, us.drop (k + 1)) := by
  intro us
  induction us with
  | nil => intro k y h; simp at h
  | cons x r ih =>
    intro k y h
    cases k with
    | zero => simp at h; subst h; rfl
    | succ k =>
      have := ih k y (by simpa using h)
      simp [kl_cut, this]
theorem ints_erase {us : List Value} {ns : List Int} (hi : IntsAre us ns) : ∀ k, IntsAre (us.eraseIdx k) (ns.eraseIdx k) := by
  induction hi with
  | nil => intro k; exact .nil
  | cons a t r ih =>
    intro k
    cases k with
    | zero => exact r
    | succ k => exact .cons a t (ih k)
section
variable {prog : Program} {w : World} {A : Around} {E : Value → Shared → Prop} {s : Shared} {h₀ : Heap} {L D : Addr} {m : Str → Option Value} {news news' : Led} {n : Nat}
theorem my_pop {us : List Value} {ns : List Int} {i : Int} {k : Nat} {u : Tok} {Q : Value → Shared → Prop} (F : Fr h₀ L s.heap m) (N : News h₀ L s.heap news) (hi : IntsAre us ns) (hik : i = (k : Int)) (h1 : k < ns.length) (hb : ns.length < 1000)
    (U : Upd D (listOf us.toArray n) (listOf (us.eraseIdx k).toArray (n + 1)) news news')
    (h : ∀ h' t, Fr h₀ L h' m → News h₀ L h' news' → IntsAre (us.eraseIdx k) (ns.eraseIdx k) → Q (.int (ns.getD k 0) t) { s with heap := h' }) :
    wpAny (model prog w) A (call (.builtin "list.pop") [.ref D, .int i u]) Q E s := by
  subst hik
  have hl := hi.length
  obtain ⟨t, hy⟩ := hi.get k (ns[k]) (by simp [h1])
  have e2 : us.take k ++ us.drop (k + 1) = us.eraseIdx k := (List.eraseIdx_eq_take_drop_succ us k).symm
  refine kl_popAt (p := us.take k) (q := us.drop (k + 1)) (y := .int (ns[k]) t) (k := k) F N ?_ ?_ (cut_at us _ _ hy) (by rw [e2]; exact U) ?_ fun h' F' N' => ?_
  · unfold Builtin.List.listFitsIndex
    simp only [Bool.and_eq_true, decide_eq_true_eq]
    constructor <;> omega
  · unfold seqIndex?
    rw [List.size_toArray]
    have : (k : Int) < (us.length : Int) := by omega
    have hn : ¬ (k : Int) < 0 := by omega
    simp [hn]
    omega
  · show us.length ≤ _
    rw [sizeLine_eq]; omega
  · have := h h' t F' N' (ints_erase hi _)
    simpa [List.getD_eq_getElem?_getD, h1] using this
theorem ints_snoc {us : List Value} {ns : List Int} (hi : IntsAre us ns) (i : Int) (t : Tok) : IntsAre (us ++ [.int i t]) (ns ++ [i]) := by
  induction hi with
  | nil => exact .cons i t .nil
  | cons a t' r ih => exact .cons a t' ih
theorem my_append {us : List Value} {ns : List Int} {i : Int} {t : Tok} {Q : Value → Shared → Prop} (F : Fr h₀ L s.heap m) (N : News h₀ L s.heap news) (hi : IntsAre us ns) (hb : ns.length < 1000)
    (U : Upd D (listOf us.toArray n) (listOf (us ++ [Value.int i t]).toArray (n + 1)) news news')
    (h : ∀ h', Fr h₀ L h' m → News h₀ L h' news' → IntsAre (us ++ [Value.int i t]) (ns ++ [i]) → Q .none { s with heap := h' }) :
    wpAny (model prog w) A (call (.builtin "list.append") [.ref D, .int i t]) Q E s := by
  have hl := hi.length
  refine append_K (its := us.toArray) (n := n) (news' := news') F N ?_ (fun h' F' N' => h h' F' N' (ints_snoc hi i t)) ?_
  · rw [show us.toArray.push (Value.int i t) = (us ++ [Value.int i t]).toArray by simp]; exact U
  · show us.toArray.size ≤ _
    rw [List.size_toArray, sizeLine_eq]; omega
end
noncomputable abbrev Asc (xs : List Int) : Prop := xs.Pairwise (· ≤ ·)
theorem asc_get {xs : List Int} (h : Asc xs) (i j : Nat) (hij : i ≤ j) (hj : j < xs.length) : xs.getD i 0 ≤ xs.getD j 0 := by
  have hi : i < xs.length := by omega
  rcases Nat.eq_or_lt_of_le hij with e | e
  · subst e; exact Int.le_refl _
  · have := List.pairwise_iff_getElem.mp h i j hi hj e
    simpa [List.getD_eq_getElem?_getD, hi, hj] using this
theorem asc_erase {xs : List Int} (h : Asc xs) (k : Nat) : Asc (xs.eraseIdx k) := h.sublist (List.eraseIdx_sublist xs k)
theorem asc_range (n : Nat) : Asc (rangeKs 0 n) := by
  unfold rangeKs
  rw [Asc, List.pairwise_map]
  refine List.Pairwise.imp ?_ List.pairwise_lt_range
  intro a b h
  omega
structure BS where
  lo : Int
  hi : Int
  t1 : Tok
  t2 : Tok
structure BInv (xs : List Int) (x : Int) (c : BS) : Prop where
  p1 : 0 ≤ c.lo
  p2 : c.lo ≤ c.hi
  p3 : c.hi ≤ xs.length
  p4 : ∀ i : Nat, (i : Int) < c.lo → xs.getD i 0 < x
  p5 : ∀ i : Nat, c.hi ≤ (i : Int) → i < xs.length → x ≤ xs.getD i 0
/-- the place where x goes -/
noncomputable def bl : List Int → Int → Nat
  | [], _ => 0
  | y :: r, x => if y < x then bl r x + 1 else 0
theorem bl_is : ∀ (xs : List Int) (x : Int) (k : Nat), k ≤ xs.length → (∀ i : Nat, i < k → xs.getD i 0 < x) → (∀ i : Nat, k ≤ i → i < xs.length → x ≤ xs.getD i 0) → bl xs x = k
  | [], x, k, h, _, _ => by simp at h; subst h; rfl
  | y :: r, x, 0, h, h1, h2 => by
    have := h2 0 (Nat.le_refl _) (by simp)
    simp at this
    simp [bl]; omega
  | y :: r, x, k + 1, h, h1, h2 => by
    have h0 := h1 0 (by omega)
    simp at h0
    have := bl_is r x k (by simpa using h) (fun i hi => by simpa using h1 (i + 1) (by omega)) (fun i hi hl => by simpa using h2 (i + 1) (by omega) (by simpa using hl))
    simp [bl, h0, this]
theorem mid_of {l h : Int} (h0 : 0 ≤ l) (hlt : l < h) : l ≤ (l + h).fdiv 2 ∧ (l + h).fdiv 2 < h := by
  rw [Int.fdiv_eq_ediv_of_nonneg _ (by decide)]
  exact ⟨by omega, by omega⟩
theorem bisect_step1 {xs : List Int} {x : Int} {c : BS} {t1 : Tok} (ha : Asc xs) (hI : BInv xs x c) (hlt : c.lo < c.hi) (h : xs.getD ((c.lo + c.hi).fdiv 2).toNat 0 < x) : BInv xs x ⟨(c.lo + c.hi).fdiv 2 + 1, c.hi, t1, c.t2⟩ := by
  obtain ⟨m1, m2⟩ := mid_of hI.p1 hlt
  have m0 := Int.le_trans hI.p1 m1
  refine ⟨Int.le_add_one m0, m2, hI.p3, fun i hi => Int.lt_of_le_of_lt (asc_get ha i _ ?_ ?_) h, hI.p5⟩
  · exact (Int.le_toNat m0).mpr (Int.lt_add_one_iff.mp hi)
  · exact (Int.toNat_lt m0).mpr (Int.lt_of_lt_of_le m2 hI.p3)
theorem bisect_step2 {xs : List Int} {x : Int} {c : BS} {t1 : Tok} (ha : Asc xs) (hI : BInv xs x c) (hlt : c.lo < c.hi) (h : ¬ xs.getD ((c.lo + c.hi).fdiv 2).toNat 0 < x) : BInv xs x ⟨c.lo, (c.lo + c.hi).fdiv 2, c.t1, t1⟩ := by
  obtain ⟨m1, m2⟩ := mid_of hI.p1 hlt
  exact ⟨hI.p1, m1, Int.le_trans (Int.le_of_lt m2) hI.p3, hI.p4, fun i hi hl => Int.le_trans (Int.not_lt.mp h) (asc_get ha _ i (Int.toNat_le.mpr hi) hl)⟩
theorem bisect_end {xs : List Int} {x : Int} {c : BS} (hI : BInv xs x c) (h : ¬ c.lo < c.hi) : c.lo = (bl xs x : Int) := by
  have e : c.lo = c.hi := Int.le_antisymm hI.p2 (Int.not_lt.mp h)
  obtain ⟨k, hk⟩ := Int.eq_ofNat_of_zero_le hI.p1
  have p3 := hI.p3
  have p4 := hI.p4
  have p5 := hI.p5
  rw [← e, hk] at p3 p5
  rw [hk] at p4 ⊢
  rw [bl_is xs x k (Int.ofNat_le.mp p3) (fun i hi => p4 i (Int.ofNat_lt.mpr hi)) (fun i hi hl => p5 i (Int.ofNat_le.mpr hi) hl)]
theorem bisect_says (w mean mg mb) (l : Addr) (vs : List Value) (n : Nat) (xs : List Int) (x : Int) (tx : Tok) (hi : IntsAre vs xs) (hn : xs.length < 1000) (ha : Asc xs) :
    Says 10 100 w mean mg mb 51 [.ref l, .int x tx] [(l, listOf vs.toArray n)] (fun new v => new = [] ∧ ∃ t, v = .int (bl xs x) t) := by
  w_on
  unfold Says
  k_fill
  intro dp un gd cn cs a ccd cl outer A₀ base h₀ L m news s Q E B F X N T hk hneed hd hu hret
  have N0 := need_on N hneed
  clear N
  simp only [List.cons_append, List.nil_append] at N0
  refine wpAny_call ?_
  ((k_dflt (refine' code_def ?k1 ?k2 ?k3 ?k4 ?k5 ?kA ?kF ?kK ?k6 ?k7 ?k8 ?k9 ?kB ?_ ?c2 ?c3 ?c4 ?c5; (case kA => exact rfl); (case kF => exact rfl); (case kK => first | exact rfl | assumption); (case k1 => k_asm); (case k2 => k_asm); (case k3 => k_asm); (case k4 => k_asm); (case k5 => k_asm); (case k6 => k_is); (case k7 => k_is); (case k8 => ktr_room); (case k9 => first | exact BindsTo.of_eq rfl | (refine' kp_binds ?kx ?ke; (case kx => k_in); (case ke => exact fun _ => rfl)) | exact binds_K (by k_in) rfl (by k_is) rfl rfl rfl | fail "enter: no rule for these arguments"); (case c5 => decide); (case kB => exact locs rfl); (case c2 => exact rfl); (case c3 => exact rfl); (case c4 => exact rfl); k_whole; intro g' L' h' FG' F' N' B' X' T'; (try dsimp only); (try k_lift B'); (try k_fold); (try (refine gen_toks ?_; intro tk9)))))
  (repeat' ((fail_if_success (with_reducible show wpAny _ _ (exec (Stmt.While _ _ _ _) _) _ _ _)); (fail_if_success (with_reducible show wpAny _ _ (exec (Stmt.For _ _ _ _ _) _) _ _ _)); (first | ((with_reducible show wpAny _ _ (exec _ _) _ _ _); k_fold; (try (refine gen_toks ?_; intro tk9))) | (k_unfold; (try dsimp only)) | (walk1 <;> try dsimp only) | (dsimp only; walk1) | (leave1; walk_say "STEP leave1"; try dsimp only))))
  rename Fr _ _ _ _ => F1
  rename News _ _ _ _ => N1
  refine' ksw_while (σ := BS) (fun _ => (l, listOf vs.toArray n) :: news) (fun c => [(Str.ofString "lo", .int c.lo c.t1), (Str.ofString "hi", .int c.hi c.t2)]) (fun _ => True) [Str.ofString "mid"] (BInv xs x) (fun c => (c.hi - c.lo).toNat) ⟨_, _, _, _⟩ F1 N1 trivial ?hk ?hp ?turn
  case hk => with_unfolding_all kst_all
  case hp => exact ⟨by dsimp only; omega, by dsimp only; omega, by dsimp only; omega, fun i h => by dsimp only at h; omega, fun i h1 h2 => by dsimp only at h1; omega⟩
  case turn =>
    clear F1 N1
    intro c u h tk _ hI F1 N1
    have p1 := hI.p1; have p2 := hI.p2; have p3 := hI.p3
    (repeat' ((fail_if_success (with_reducible show wpAny _ _ (exec (Stmt.While _ _ _ _) _) _ _ _)); (fail_if_success (with_reducible show wpAny _ _ (exec (Stmt.For _ _ _ _ _) _) _ _ _)); (first | ((with_reducible show wpAny _ _ (exec _ _) _ _ _); k_fold; (try (refine gen_toks ?_; intro tk9))) | (k_unfold; (try dsimp only)) | (walk1 <;> try dsimp only) | (dsimp only; walk1) | (leave1; walk_say "STEP leave1"; try dsimp only))))
    · refine' ksw_end ⟨_, _, _, _⟩ (by assumption) (by assumption) (fun _ hp => hp) trivial ?hk ?hr ?hp ?hm
      case hk => with_unfolding_all kst_all
      case hr => ((intro z h2 h3; (try dsimp only at h2 h3); (simp only [List.forall_mem_cons, List.not_mem_nil, false_implies, implies_true, and_true, ne_eq] at h2); (simp only [List.contains_cons, List.contains_nil, Bool.or_false, Bool.or_eq_false_iff, beq_eq_false_iff_ne, ne_eq] at h3); (simp [kstB, h2, h3]; done)))
      case hp => exact bisect_step1 ha hI (by assumption) (by assumption)
      case hm =>
        have e : (c.lo + c.hi).fdiv 2 = (c.lo + c.hi) / 2 := Int.fdiv_eq_ediv_of_nonneg _ (by omega)
        dsimp only; rw [e]; omega
    · refine' ksw_end ⟨_, _, _, _⟩ (by assumption) (by assumption) (fun _ hp => hp) trivial ?hk ?hr ?hp ?hm
      case hk => with_unfolding_all kst_all
      case hr => ((intro z h2 h3; (try dsimp only at h2 h3); (simp only [List.forall_mem_cons, List.not_mem_nil, false_implies, implies_true, and_true, ne_eq] at h2); (simp only [List.contains_cons, List.contains_nil, Bool.or_false, Bool.or_eq_false_iff, beq_eq_false_iff_ne, ne_eq] at h3); (simp [kstB, h2, h3]; done)))
      case hp => exact bisect_step2 ha hI (by assumption) (by assumption)
      case hm =>
        have e : (c.lo + c.hi).fdiv 2 = (c.lo + c.hi) / 2 := Int.fdiv_eq_ediv_of_nonneg _ (by omega)
        dsimp only; rw [e]; omega
    · rename Fr h₀ _ _ _ => F2
      rename News h₀ _ _ _ => N2
      exact hret _ [] _ _ F2 (led_drop N2 (by intro p hp; simp at hp; simp [hp])) (by simp) ⟨rfl, _, by rw [bisect_end hI (by assumption)]⟩
local macro_rules | `(tactic| k_all) => `(tactic| exact allNe ‹_›)
local macro_rules | `(tactic| k_all) => `(tactic| exact appNe ‹_› ‹_› (by k_memK))
noncomputable def rstep (c : List Int × List Int) (x : Int) : List Int × List Int :=
  let k := if bl c.2 x = c.2.length then 0 else bl c.2 x
  (c.1 ++ [c.2.getD k 0], c.2.eraseIdx k)
structure RS where
  gv : List Value
  gs : List Int
  gn : Nat
  fv : List Value
  fs : List Int
  fn : Nat
noncomputable abbrev RLed (got fr l : Addr) (vs : List Value) (n : Nat) (news : Led) (c : RS) : Led := (got, listOf c.gv.toArray c.gn) :: (fr, listOf c.fv.toArray c.fn) :: (l, listOf vs.toArray n) :: news
noncomputable abbrev RP (N : Nat) (pre : List Int) (c : RS) : Prop := (c.gs, c.fs) = pre.foldl rstep ([], rangeKs 0 N) ∧ c.fs.length + pre.length = N ∧ Asc c.fs ∧ c.gs.length = pre.length
noncomputable abbrev RF (c : RS) : Prop := IntsAre c.gv c.gs ∧ IntsAre c.fv c.fs
theorem bl_le : ∀ (xs : List Int) (x : Int), bl xs x ≤ xs.length
  | [], _ => by simp [bl]
  | y :: r, x => by have := bl_le r x; simp only [bl, List.length_cons]; split <;> omega
theorem round_step1 {N : Nat} {pre : List Int} {gs fs : List Int} {x : Int} (h1 : (gs, fs) = pre.foldl rstep ([], rangeKs 0 N)) (h2 : fs.length + pre.length = N) (h3 : Asc fs) (h4 : gs.length = pre.length) (hlt : 0 < fs.length) (hb : bl fs x = fs.length) {gv fv gn fn} :
    RP N (pre ++ [x]) ⟨gv, gs ++ [fs.getD 0 0], gn, fv, fs.eraseIdx 0, fn⟩ := by
  refine ⟨?_, ?_, asc_erase h3 _, by simp [h4]⟩
  · rw [List.foldl_append, ← h1]
    simp [rstep, hb]
  · have := List.length_eraseIdx_of_lt (l := fs) (i := 0) hlt
    simp only [List.length_append, List.length_cons, List.length_nil]
    omega
theorem round_step2 {N : Nat} {pre : List Int} {gs fs : List Int} {x : Int} (h1 : (gs, fs) = pre.foldl rstep ([], rangeKs 0 N)) (h2 : fs.length + pre.length = N) (h3 : Asc fs) (h4 : gs.length = pre.length) (hb : bl fs x < fs.length) {gv fv gn fn} :
    RP N (pre ++ [x]) ⟨gv, gs ++ [fs.getD (bl fs x) 0], gn, fv, fs.eraseIdx (bl fs x), fn⟩ := by
  refine ⟨?_, ?_, asc_erase h3 _, by simp [h4]⟩
  · rw [List.foldl_append, ← h1]
    simp [rstep, Nat.ne_of_lt hb]
  · have := List.length_eraseIdx_of_lt (l := fs) (i := bl fs x) hb
    simp only [List.length_append, List.length_cons, List.length_nil]
    omega
theorem round_news {h₀ h : Heap} {L tup got fr l : Addr} {vs : List Value} {n : Nat} {news : Led} {c : RS} {o : Obj} (N : News h₀ L h ((tup, o) :: RLed got fr l vs n news c)) : News h₀ L h ([(tup, o), (got, listOf c.gv.toArray c.gn)] ++ news) := by
  refine led_drop N fun p hp => ?_
  simp only [List.cons_append, List.nil_append, RLed, List.mem_cons] at hp ⊢
  rcases hp with hp | hp | hp
  · exact .inl hp
  · exact .inr (.inl hp)
  · exact .inr (.inr (.inr (.inr hp)))
theorem round_says (w mean mg mb) (l : Addr) (vs : List Value) (n : Nat) (xs : List Int) (hi : IntsAre vs xs) (hn : xs.length < 900) :
    Says 20 200 w mean mg mb 145 [.ref l] [(l, listOf vs.toArray n)] (fun new v => ∃ (tup got : Addr) (gv : List Value) (gs : List Int) (gn : Nat) (y : Int) (t : Tok), v = .ref tup ∧ (tup, ({ cls := .type "tuple", data := .seq #[.ref got, .int y t] } : Obj)) ∈ new ∧ (got, listOf gv.toArray gn) ∈ new ∧ IntsAre gv gs ∧ (gs, [y]) = xs.foldl rstep ([], rangeKs 0 (xs.length + 1))) := by
  w_on
  unfold Says
  k_fill
  intro dp un gd cn cs a ccd cl outer A₀ base h₀ L m news s Q E B F X N T hk hneed hd hu hret
  have N0 := need_on N hneed
  clear N
  simp only [List.cons_append, List.nil_append] at N0
  refine wpAny_call ?_
  ((k_dflt (refine' code_def ?k1 ?k2 ?k3 ?k4 ?k5 ?kA ?kF ?kK ?k6 ?k7 ?k8 ?k9 ?kB ?_ ?c2 ?c3 ?c4 ?c5; (case kA => exact rfl); (case kF => exact rfl); (case kK => first | exact rfl | assumption); (case k1 => k_asm); (case k2 => k_asm); (case k3 => k_asm); (case k4 => k_asm); (case k5 => k_asm); (case k6 => k_is); (case k7 => k_is); (case k8 => ktr_room); (case k9 => first | exact BindsTo.of_eq rfl | (refine' kp_binds ?kx ?ke; (case kx => k_in); (case ke => exact fun _ => rfl)) | exact binds_K (by k_in) rfl (by k_is) rfl rfl rfl | fail "enter: no rule for these arguments"); (case c5 => decide); (case kB => exact locs rfl); (case c2 => exact rfl); (case c3 => exact rfl); (case c4 => exact rfl); k_whole; intro g' L' h' FG' F' N' B' X' T'; (try dsimp only); (try k_lift B'); (try k_fold); (try (refine gen_toks ?_; intro tk9)))))
  rename Fr _ _ _ _ => F0
  replace F0 := lookN (l' := [(Str.ofString "wishes", _)]) rfl F0
  (repeat' ((fail_if_success (with_reducible show wpAny _ _ (exec (Stmt.While _ _ _ _) _) _ _ _)); (fail_if_success (with_reducible show wpAny _ _ (exec (Stmt.For _ _ _ _ _) _) _ _ _)); (fail_if_success (with_reducible show wpAny _ _ (execs (Stmt.For _ _ _ _ _ :: _) _) _ _ _)); (fail_if_success (with_reducible show wpAny _ _ (call (Value.ref _) _ _) _ _ _)); (fail_if_success (with_reducible show wpAny _ _ (pyIter _) _ _ _)); (first | ((with_reducible show wpAny _ _ (exec _ _) _ _ _); k_fold; (try (refine gen_toks ?_; intro tk9))) | (k_unfold; (try dsimp only)) | (walk1 <;> try dsimp only) | (dsimp only; walk1) | (leave1; walk_say "STEP leave1"; try dsimp only))))
  refine wpAny_execs_cons ?_
  rename Fr _ _ _ _ => lF'
  with_unfolding_all refine' For_invVF lF' ?k1 ?k2 ?_
  case k1 => exact rfl
  case k2 => exact rfl
  (repeat' ((fail_if_success (with_reducible show wpAny _ _ (exec (Stmt.While _ _ _ _) _) _ _ _)); (fail_if_success (with_reducible show wpAny _ _ (exec (Stmt.For _ _ _ _ _) _) _ _ _)); (fail_if_success (with_reducible show wpAny _ _ (execs (Stmt.For _ _ _ _ _ :: _) _) _ _ _)); (fail_if_success (with_reducible show wpAny _ _ (call (Value.ref _) _ _) _ _ _)); (fail_if_success (with_reducible show wpAny _ _ (pyIter _) _ _ _)); (first | ((with_reducible show wpAny _ _ (exec _ _) _ _ _); k_fold; (try (refine gen_toks ?_; intro tk9))) | (k_unfold; (try dsimp only)) | (walk1 <;> try dsimp only) | (dsimp only; walk1) | (leave1; walk_say "STEP leave1"; try dsimp only))))
  rename Fr _ _ _ _ => F1
  rename News _ _ _ _ => N1
  rename IntsAre _ (rangeKs _ _) => hIf
  rename IntsAre vs xs => hi
  rw [show ((xs.length : Int) + 1 - 0).toNat = xs.length + 1 from by omega] at hIf
  rename _ ∧ _ ∧ AllLt _ news => lG
  rename _ ∧ AllLt _ news => lD
  obtain ⟨lG1, lG2, lG3⟩ := lG
  obtain ⟨lD1, lD2⟩ := lD
  refine' kst_listL (σ := RS) (RLed _ _ l vs n news) (fun _ => []) RF [Str.ofString "k"] (RP (xs.length + 1)) ⟨[], [], 0, _, _, _⟩ rfl ?hl hi F1 N1 ⟨.nil, hIf⟩ ?hk ?hp ?turn ?done
  case hl => exact fun c => .tail _ (.tail _ (.head _))
  case hk => intro p hp; cases hp
  case hp =>
    refine ⟨?_, ?_, ?_, rfl⟩
    · rfl
    · simp [rangeKs_length]
    · exact asc_range _
  case done =>
    intro c u h tk hf hp F2 N2
    obtain ⟨hf1, hf2⟩ := hf
    obtain ⟨hp1, hp2, hp3, hpg⟩ := hp
    obtain ⟨gv, gs, gn, fv, fs, fn⟩ := c
    dsimp only at hf1 hf2 hp1 hp2 hp3 hpg N2
    obtain ⟨y, rfl⟩ := List.length_eq_one_iff.mp (show fs.length = 1 by omega)
    cases hf2 with | cons _ ty hf2 => ?_
    cases hf2
    (repeat' ((fail_if_success (with_reducible show wpAny _ _ (exec (Stmt.While _ _ _ _) _) _ _ _)); (fail_if_success (with_reducible show wpAny _ _ (exec (Stmt.For _ _ _ _ _) _) _ _ _)); (fail_if_success (with_reducible show wpAny _ _ (execs (Stmt.For _ _ _ _ _ :: _) _) _ _ _)); (fail_if_success (with_reducible show wpAny _ _ (call (Value.ref _) _ _) _ _ _)); (fail_if_success (with_reducible show wpAny _ _ (pyIter _) _ _ _)); (first | ((with_reducible show wpAny _ _ (exec _ _) _ _ _); k_fold; (try (refine gen_toks ?_; intro tk9))) | (k_unfold; (try dsimp only)) | (walk1 <;> try dsimp only) | (dsimp only; walk1) | (leave1; walk_say "STEP leave1"; try dsimp only))))
    rename Fr h₀ _ _ _ => F3
    rename News h₀ _ _ _ => N3
    refine hret _ _ _ _ F3 (round_news N3) ?_ ⟨_, _, gv, gs, gn, y, _, rfl, .head _, .tail _ (.head _), hf1, hp1⟩
    rename _ ∧ _ ∧ _ ∧ AllLt _ news => lT
    obtain ⟨_, _, _, lT⟩ := lT
    intro q hq p hp
    simp only [List.mem_cons, List.not_mem_nil, or_false] at hp
    rcases hp with rfl | rfl
    · exact kst_ltOf lT q hq
    · exact kst_ltOf (by assumption) q hq
  case turn =>
    intro c pre post x t u h tk own hxs hmem hoff hf hp F2 N2
    obtain ⟨hf1, hf2⟩ := hf
    obtain ⟨hp1, hp2, hp3, hpg⟩ := hp
    have hxl : pre.length < xs.length := by rw [hxs]; simp
    simp only [RLed, List.cons_append] at N2
    (repeat' ((fail_if_success (with_reducible show wpAny _ _ (exec (Stmt.While _ _ _ _) _) _ _ _)); (fail_if_success (with_reducible show wpAny _ _ (exec (Stmt.For _ _ _ _ _) _) _ _ _)); (fail_if_success (with_reducible show wpAny _ _ (execs (Stmt.For _ _ _ _ _ :: _) _) _ _ _)); (fail_if_success (with_reducible show wpAny _ _ (call (Value.ref _) _ _) _ _ _)); (fail_if_success (with_reducible show wpAny _ _ (pyIter _) _ _ _)); (first | ((with_reducible show wpAny _ _ (exec _ _) _ _ _); k_fold; (try (refine gen_toks ?_; intro tk9))) | (k_unfold; (try dsimp only)) | (walk1 <;> try dsimp only) | (dsimp only; walk1) | (leave1; walk_say "STEP leave1"; try dsimp only))))
    refine' bisect_says w mean mg mb _ _ _ c.fs x _ hf2 ?b1 ?b2 _ _ _ _ _ _ _ _ _ _ _ _ _ _ _ _ _ _ ?k1 ?k2 ?k3 ?k4 ?k5 ?kK ?kn ?kd ?ku ?kR
    case b1 => omega
    case b2 => exact hp3
    (((case k1 => k_asm); (case k2 => k_asm); (case k3 => k_asm); (case k4 => k_asm); (case k5 => k_asm); (case kK => first | exact rfl | assumption); (case kd => ktr_room); (case ku => ktr_units); (case kn => (simp only [List.forall_mem_cons, List.not_mem_nil, false_implies, implies_true, and_true]; (try refine ⟨?_, ?_⟩) <;> k_mem))))
    case kR =>
      rintro v new h9 tk9 F9 N9 - ⟨rfl, t9, rfl⟩
      simp only [List.nil_append] at N9
      clear F2 N2 F1 N1
      have hble := bl_le c.fs x
      (repeat' ((fail_if_success (with_reducible show wpAny _ _ (exec (Stmt.While _ _ _ _) _) _ _ _)); (fail_if_success (with_reducible show wpAny _ _ (exec (Stmt.For _ _ _ _ _) _) _ _ _)); (fail_if_success (with_reducible show wpAny _ _ (execs (Stmt.For _ _ _ _ _ :: _) _) _ _ _)); (fail_if_success (with_reducible show wpAny _ _ (call (Value.ref _) _ _) _ _ _)); (fail_if_success (with_reducible show wpAny _ _ (pyIter _) _ _ _)); (first | ((with_reducible show wpAny _ _ (exec _ _) _ _ _); k_fold; (try (refine gen_toks ?_; intro tk9))) | (k_unfold; (try dsimp only)) | (walk1 <;> try dsimp only) | (dsimp only; walk1) | (leave1; walk_say "STEP leave1"; try dsimp only))))
      · refine' my_pop (ns := c.fs) (k := 0) ?F ?N hf2 ?h0 ?h1 ?hb ?U ?_
        case F => k_asm
        case N => k_asm
        case h0 => rfl
        case h1 => omega
        case hb => omega
        case U => k_upd
        intro h' t' F' N' hI'
        (repeat' ((fail_if_success (with_reducible show wpAny _ _ (exec (Stmt.While _ _ _ _) _) _ _ _)); (fail_if_success (with_reducible show wpAny _ _ (exec (Stmt.For _ _ _ _ _) _) _ _ _)); (fail_if_success (with_reducible show wpAny _ _ (execs (Stmt.For _ _ _ _ _ :: _) _) _ _ _)); (fail_if_success (with_reducible show wpAny _ _ (call (Value.ref _) _ _) _ _ _)); (fail_if_success (with_reducible show wpAny _ _ (pyIter _) _ _ _)); (first | ((with_reducible show wpAny _ _ (exec _ _) _ _ _); k_fold; (try (refine gen_toks ?_; intro tk9))) | (k_unfold; (try dsimp only)) | (walk1 <;> try dsimp only) | (dsimp only; walk1) | (leave1; walk_say "STEP leave1"; try dsimp only))))
        refine' my_append ?F ?N hf1 ?hb ?U ?_
        case F => k_asm
        case N => k_asm
        case hb => omega
        case U => k_upd
        intro h' F' N' hJ'
        (repeat' ((fail_if_success (with_reducible show wpAny _ _ (exec (Stmt.While _ _ _ _) _) _ _ _)); (fail_if_success (with_reducible show wpAny _ _ (exec (Stmt.For _ _ _ _ _) _) _ _ _)); (fail_if_success (with_reducible show wpAny _ _ (execs (Stmt.For _ _ _ _ _ :: _) _) _ _ _)); (fail_if_success (with_reducible show wpAny _ _ (call (Value.ref _) _ _) _ _ _)); (fail_if_success (with_reducible show wpAny _ _ (pyIter _) _ _ _)); (first | ((with_reducible show wpAny _ _ (exec _ _) _ _ _); k_fold; (try (refine gen_toks ?_; intro tk9))) | (k_unfold; (try dsimp only)) | (walk1 <;> try dsimp only) | (dsimp only; walk1) | (leave1; walk_say "STEP leave1"; try dsimp only))))
        refine' kst_end (σ := RS) ⟨c.gv ++ [Value.int (c.fs.getD 0 0) t'], c.gs ++ [c.fs.getD 0 0], c.gn + 1, c.fv.eraseIdx 0, c.fs.eraseIdx 0, c.fn + 1⟩ (by assumption) (by assumption) ?hn ?ho ?ha ⟨hJ', hI'⟩ ?hk ?hr ?hp
        case hn => exact fun p hp => List.mem_append_left own hp
        case ho => exact fun p hp => List.mem_append_right (RLed _ _ l vs n news ⟨_, [], _, _, [], _⟩) hp
        case ha => rfl
        case hk => intro p hp; cases hp
        case hr => ((intro z h1 h2 h3; (try dsimp only at h1 h2 h3); (simp only [List.forall_mem_cons, List.not_mem_nil, false_implies, implies_true, and_true, ne_eq] at h2); (simp only [List.contains_cons, List.contains_nil, Bool.or_false, Bool.or_eq_false_iff, beq_eq_false_iff_ne, ne_eq] at h3); (simp [kstB, h1, h2, h3]; done)))
        case hp => exact round_step1 hp1 hp2 hp3 hpg (by omega) (by omega)
      · refine' my_pop (ns := c.fs) (k := bl c.fs x) ?F ?N hf2 ?h0 ?h1 ?hb ?U ?_
        case F => k_asm
        case N => k_asm
        case h0 => rfl
        case h1 => omega
        case hb => omega
        case U => k_upd
        intro h' t' F' N' hI'
        (repeat' ((fail_if_success (with_reducible show wpAny _ _ (exec (Stmt.While _ _ _ _) _) _ _ _)); (fail_if_success (with_reducible show wpAny _ _ (exec (Stmt.For _ _ _ _ _) _) _ _ _)); (fail_if_success (with_reducible show wpAny _ _ (execs (Stmt.For _ _ _ _ _ :: _) _) _ _ _)); (fail_if_success (with_reducible show wpAny _ _ (call (Value.ref _) _ _) _ _ _)); (fail_if_success (with_reducible show wpAny _ _ (pyIter _) _ _ _)); (first | ((with_reducible show wpAny _ _ (exec _ _) _ _ _); k_fold; (try (refine gen_toks ?_; intro tk9))) | (k_unfold; (try dsimp only)) | (walk1 <;> try dsimp only) | (dsimp only; walk1) | (leave1; walk_say "STEP leave1"; try dsimp only))))
        refine' my_append ?F ?N hf1 ?hb ?U ?_
        case F => k_asm
        case N => k_asm
        case hb => omega
        case U => k_upd
        intro h' F' N' hJ'
        (repeat' ((fail_if_success (with_reducible show wpAny _ _ (exec (Stmt.While _ _ _ _) _) _ _ _)); (fail_if_success (with_reducible show wpAny _ _ (exec (Stmt.For _ _ _ _ _) _) _ _ _)); (fail_if_success (with_reducible show wpAny _ _ (execs (Stmt.For _ _ _ _ _ :: _) _) _ _ _)); (fail_if_success (with_reducible show wpAny _ _ (call (Value.ref _) _ _) _ _ _)); (fail_if_success (with_reducible show wpAny _ _ (pyIter _) _ _ _)); (first | ((with_reducible show wpAny _ _ (exec _ _) _ _ _); k_fold; (try (refine gen_toks ?_; intro tk9))) | (k_unfold; (try dsimp only)) | (walk1 <;> try dsimp only) | (dsimp only; walk1) | (leave1; walk_say "STEP leave1"; try dsimp only))))
        refine' kst_end (σ := RS) ⟨c.gv ++ [Value.int (c.fs.getD (bl c.fs x) 0) t'], c.gs ++ [c.fs.getD (bl c.fs x) 0], c.gn + 1, c.fv.eraseIdx (bl c.fs x), c.fs.eraseIdx (bl c.fs x), c.fn + 1⟩ (by assumption) (by assumption) ?hn ?ho ?ha ⟨hJ', hI'⟩ ?hk ?hr ?hp
        case hn => exact fun p hp => List.mem_append_left own hp
        case ho => exact fun p hp => List.mem_append_right (RLed _ _ l vs n news ⟨_, [], _, _, [], _⟩) hp
        case ha => rfl
        case hk => intro p hp; cases hp
        case hr => ((intro z h1 h2 h3; (try dsimp only at h1 h2 h3); (simp only [List.forall_mem_cons, List.not_mem_nil, false_implies, implies_true, and_true, ne_eq] at h2); (simp only [List.contains_cons, List.contains_nil, Bool.or_false, Bool.or_eq_false_iff, beq_eq_false_iff_ne, ne_eq] at h3); (simp [kstB, h1, h2, h3]; done)))
        case hp => exact round_step2 hp1 hp2 hp3 hpg (by omega)
noncomputable def strF : List Int → List Int → List Int → Option (List Int)
  | gs, _, [] => some gs
  | gs, fs, x :: r => if bl fs x = fs.length then none else strF (gs ++ [fs.getD (bl fs x) 0]) (fs.eraseIdx (bl fs x)) r
noncomputable abbrev SP (N : Nat) (xs pre : List Int) (c : RS) : Prop := (∀ post, xs = pre ++ post → strF [] (rangeKs 0 N) xs = strF c.gs c.fs post) ∧ c.fs.length + pre.length = N ∧ Asc c.fs ∧ c.gs.length = pre.length
theorem str_none {N : Nat} {xs pre post : List Int} {x : Int} {c : RS} (hp : ∀ post, xs = pre ++ post → strF [] (rangeKs 0 N) xs = strF c.gs c.fs post) (hxs : xs = pre ++ x :: post) (hb : bl c.fs x = c.fs.length) : strF [] (rangeKs 0 N) xs = none := by
  rw [hp _ hxs, strF, if_pos hb]
theorem str_step {N : Nat} {xs pre : List Int} {gs fs : List Int} {x : Int} (h1 : ∀ post, xs = pre ++ post → strF [] (rangeKs 0 N) xs = strF gs fs post) (h2 : fs.length + pre.length = N) (h3 : Asc fs) (h4 : gs.length = pre.length) (hb : bl fs x < fs.length) {gv fv gn fn} :
    SP N xs (pre ++ [x]) ⟨gv, gs ++ [fs.getD (bl fs x) 0], gn, fv, fs.eraseIdx (bl fs x), fn⟩ := by
  refine ⟨fun post h => ?_, ?_, asc_erase h3 _, by simp [h4]⟩
  · rw [h1 (x :: post) (by rw [h]; simp), strF, if_neg (Nat.ne_of_lt hb)]
  · have := List.length_eraseIdx_of_lt (l := fs) (i := bl fs x) hb
    simp only [List.length_append, List.length_cons, List.length_nil]
    omega
theorem str_news {h₀ h : Heap} {L got fr l : Addr} {vs : List Value} {n : Nat} {news : Led} {c : RS} (N : News h₀ L h (RLed got fr l vs n news c)) : News h₀ L h ([(got, listOf c.gv.toArray c.gn)] ++ news) := by
  refine led_drop N fun p hp => ?_
  simp only [List.cons_append, List.nil_append, RLed, List.mem_cons] at hp ⊢
  rcases hp with hp | hp
  · exact .inl hp
  · exact .inr (.inr (.inr hp))
theorem straight_says (w mean mg mb) (l : Addr) (vs : List Value) (n : Nat) (xs : List Int) (hi : IntsAre vs xs) (hn : xs.length < 900) :
    Says 20 200 w mean mg mb 152 [.ref l] [(l, listOf vs.toArray n)] (fun new v => (new = [] ∧ v = .none ∧ strF [] (rangeKs 0 xs.length) xs = none) ∨ ∃ (got : Addr) (gv : List Value) (gs : List Int) (gn : Nat), v = .ref got ∧ new = [(got, listOf gv.toArray gn)] ∧ IntsAre gv gs ∧ strF [] (rangeKs 0 xs.length) xs = some gs) := by
  w_on
  unfold Says
  k_fill
  intro dp un gd cn cs a ccd cl outer A₀ base h₀ L m news s Q E B F X N T hk hneed hd hu hret
  have N0 := need_on N hneed
  clear N
  simp only [List.cons_append, List.nil_append] at N0
  refine wpAny_call ?_
  ((k_dflt (refine' code_def ?k1 ?k2 ?k3 ?k4 ?k5 ?kA ?kF ?kK ?k6 ?k7 ?k8 ?k9 ?kB ?_ ?c2 ?c3 ?c4 ?c5; (case kA => exact rfl); (case kF => exact rfl); (case kK => first | exact rfl | assumption); (case k1 => k_asm); (case k2 => k_asm); (case k3 => k_asm); (case k4 => k_asm); (case k5 => k_asm); (case k6 => k_is); (case k7 => k_is); (case k8 => ktr_room); (case k9 => first | exact BindsTo.of_eq rfl | (refine' kp_binds ?kx ?ke; (case kx => k_in); (case ke => exact fun _ => rfl)) | exact binds_K (by k_in) rfl (by k_is) rfl rfl rfl | fail "enter: no rule for these arguments"); (case c5 => decide); (case kB => exact locs rfl); (case c2 => exact rfl); (case c3 => exact rfl); (case c4 => exact rfl); k_whole; intro g' L' h' FG' F' N' B' X' T'; (try dsimp only); (try k_lift B'); (try k_fold); (try (refine gen_toks ?_; intro tk9)))))
  rename Fr _ _ _ _ => F0
  replace F0 := lookN (l' := [(Str.ofString "wishes", _)]) rfl F0
  (repeat' ((fail_if_success (with_reducible show wpAny _ _ (exec (Stmt.While _ _ _ _) _) _ _ _)); (fail_if_success (with_reducible show wpAny _ _ (exec (Stmt.For _ _ _ _ _) _) _ _ _)); (fail_if_success (with_reducible show wpAny _ _ (execs (Stmt.For _ _ _ _ _ :: _) _) _ _ _)); (fail_if_success (with_reducible show wpAny _ _ (call (Value.ref _) _ _) _ _ _)); (fail_if_success (with_reducible show wpAny _ _ (pyIter _) _ _ _)); (first | ((with_reducible show wpAny _ _ (exec _ _) _ _ _); k_fold; (try (refine gen_toks ?_; intro tk9))) | (k_unfold; (try dsimp only)) | (walk1 <;> try dsimp only) | (dsimp only; walk1) | (leave1; walk_say "STEP leave1"; try dsimp only))))
  refine wpAny_execs_cons ?_
  rename Fr _ _ _ _ => lF'
  with_unfolding_all refine' For_invVF lF' ?k1 ?k2 ?_
  case k1 => exact rfl
  case k2 => exact rfl
  (repeat' ((fail_if_success (with_reducible show wpAny _ _ (exec (Stmt.While _ _ _ _) _) _ _ _)); (fail_if_success (with_reducible show wpAny _ _ (exec (Stmt.For _ _ _ _ _) _) _ _ _)); (fail_if_success (with_reducible show wpAny _ _ (execs (Stmt.For _ _ _ _ _ :: _) _) _ _ _)); (fail_if_success (with_reducible show wpAny _ _ (call (Value.ref _) _ _) _ _ _)); (fail_if_success (with_reducible show wpAny _ _ (pyIter _) _ _ _)); (first | ((with_reducible show wpAny _ _ (exec _ _) _ _ _); k_fold; (try (refine gen_toks ?_; intro tk9))) | (k_unfold; (try dsimp only)) | (walk1 <;> try dsimp only) | (dsimp only; walk1) | (leave1; walk_say "STEP leave1"; try dsimp only))))
  rename Fr _ _ _ _ => F1
  rename News _ _ _ _ => N1
  rename IntsAre _ (rangeKs _ _) => hIf
  rename IntsAre vs xs => hi
  rw [show ((xs.length : Int) - 0).toNat = xs.length from by omega] at hIf
  rename _ ∧ _ ∧ AllLt _ news => lG
  rename _ ∧ AllLt _ news => lD
  obtain ⟨lG1, lG2, lG3⟩ := lG
  obtain ⟨lD1, lD2⟩ := lD
  refine' kst_listL (σ := RS) (RLed _ _ l vs n news) (fun _ => []) RF [Str.ofString "k"] (SP xs.length xs) ⟨[], [], 0, _, _, _⟩ rfl ?hl hi F1 N1 ⟨.nil, hIf⟩ ?hk ?hp ?turn ?done
  case hl => exact fun c => .tail _ (.tail _ (.head _))
  case hk => intro p hp; cases hp
  case hp =>
    refine ⟨fun post h => ?_, ?_, ?_, rfl⟩
    · rw [List.nil_append] at h
      subst h
      rfl
    · simp [rangeKs_length]
    · exact asc_range _
  case done =>
    intro c u h tk hf hp F2 N2
    obtain ⟨hf1, hf2⟩ := hf
    obtain ⟨hp1, hp2, hp3, hpg⟩ := hp
    (repeat' ((fail_if_success (with_reducible show wpAny _ _ (exec (Stmt.While _ _ _ _) _) _ _ _)); (fail_if_success (with_reducible show wpAny _ _ (exec (Stmt.For _ _ _ _ _) _) _ _ _)); (fail_if_success (with_reducible show wpAny _ _ (execs (Stmt.For _ _ _ _ _ :: _) _) _ _ _)); (fail_if_success (with_reducible show wpAny _ _ (call (Value.ref _) _ _) _ _ _)); (fail_if_success (with_reducible show wpAny _ _ (pyIter _) _ _ _)); (first | ((with_reducible show wpAny _ _ (exec _ _) _ _ _); k_fold; (try (refine gen_toks ?_; intro tk9))) | (k_unfold; (try dsimp only)) | (walk1 <;> try dsimp only) | (dsimp only; walk1) | (leave1; walk_say "STEP leave1"; try dsimp only))))
    rename Fr h₀ _ _ _ => F3
    rename News h₀ _ _ _ => N3
    refine hret _ _ _ _ F3 (str_news N3) ?_ (.inr ⟨_, _, _, _, rfl, rfl, hf1, (hp1 [] (by simp)).trans rfl⟩)
    intro q hq p hp
    simp only [List.mem_cons, List.not_mem_nil, or_false] at hp
    subst hp
    exact kst_ltOf lG3 q hq
  case turn =>
    intro c pre post x t u h tk own hxs hmem hoff hf hp F2 N2
    obtain ⟨hf1, hf2⟩ := hf
    obtain ⟨hp1, hp2, hp3, hpg⟩ := hp
    have hxl : pre.length < xs.length := by rw [hxs]; simp
    simp only [RLed, List.cons_append] at N2
    (repeat' ((fail_if_success (with_reducible show wpAny _ _ (exec (Stmt.While _ _ _ _) _) _ _ _)); (fail_if_success (with_reducible show wpAny _ _ (exec (Stmt.For _ _ _ _ _) _) _ _ _)); (fail_if_success (with_reducible show wpAny _ _ (execs (Stmt.For _ _ _ _ _ :: _) _) _ _ _)); (fail_if_success (with_reducible show wpAny _ _ (call (Value.ref _) _ _) _ _ _)); (fail_if_success (with_reducible show wpAny _ _ (pyIter _) _ _ _)); (first | ((with_reducible show wpAny _ _ (exec _ _) _ _ _); k_fold; (try (refine gen_toks ?_; intro tk9))) | (k_unfold; (try dsimp only)) | (walk1 <;> try dsimp only) | (dsimp only; walk1) | (leave1; walk_say "STEP leave1"; try dsimp only))))
    refine' bisect_says w mean mg mb _ _ _ c.fs x _ hf2 ?b1 ?b2 _ _ _ _ _ _ _ _ _ _ _ _ _ _ _ _ _ _ ?k1 ?k2 ?k3 ?k4 ?k5 ?kK ?kn ?kd ?ku ?kR
    case b1 => omega
    case b2 => exact hp3
    (((case k1 => k_asm); (case k2 => k_asm); (case k3 => k_asm); (case k4 => k_asm); (case k5 => k_asm); (case kK => first | exact rfl | assumption); (case kd => ktr_room); (case ku => ktr_units); (case kn => (simp only [List.forall_mem_cons, List.not_mem_nil, false_implies, implies_true, and_true]; (try refine ⟨?_, ?_⟩) <;> k_mem))))
    case kR =>
      rintro v new h9 tk9 F9 N9 - ⟨rfl, t9, rfl⟩
      simp only [List.nil_append] at N9
      clear F2 N2 F1 N1
      have hble := bl_le c.fs x
      (repeat' ((fail_if_success (with_reducible show wpAny _ _ (exec (Stmt.While _ _ _ _) _) _ _ _)); (fail_if_success (with_reducible show wpAny _ _ (exec (Stmt.For _ _ _ _ _) _) _ _ _)); (fail_if_success (with_reducible show wpAny _ _ (execs (Stmt.For _ _ _ _ _ :: _) _) _ _ _)); (fail_if_success (with_reducible show wpAny _ _ (call (Value.ref _) _ _) _ _ _)); (fail_if_success (with_reducible show wpAny _ _ (pyIter _) _ _ _)); (first | ((with_reducible show wpAny _ _ (exec _ _) _ _ _); k_fold; (try (refine gen_toks ?_; intro tk9))) | (k_unfold; (try dsimp only)) | (walk1 <;> try dsimp only) | (dsimp only; walk1) | (leave1; walk_say "STEP leave1"; try dsimp only))))
      · rename Fr h₀ _ _ _ => F3
        rename News h₀ _ _ _ => N3
        refine hret _ [] _ _ F3 (led_drop N3 ?_) (by simp) (.inl ⟨rfl, rfl, str_none hp1 hxs (by omega)⟩)
        intro p hp
        simp only [List.nil_append] at hp
        simp [hp]
      · refine' my_pop (ns := c.fs) (k := bl c.fs x) ?F ?N hf2 ?h0 ?h1 ?hb ?U ?_
        case F => k_asm
        case N => k_asm
        case h0 => rfl
        case h1 => omega
        case hb => omega
        case U => k_upd
        intro h' t' F' N' hI'
        (repeat' ((fail_if_success (with_reducible show wpAny _ _ (exec (Stmt.While _ _ _ _) _) _ _ _)); (fail_if_success (with_reducible show wpAny _ _ (exec (Stmt.For _ _ _ _ _) _) _ _ _)); (fail_if_success (with_reducible show wpAny _ _ (execs (Stmt.For _ _ _ _ _ :: _) _) _ _ _)); (fail_if_success (with_reducible show wpAny _ _ (call (Value.ref _) _ _) _ _ _)); (fail_if_success (with_reducible show wpAny _ _ (pyIter _) _ _ _)); (first | ((with_reducible show wpAny _ _ (exec _ _) _ _ _); k_fold; (try (refine gen_toks ?_; intro tk9))) | (k_unfold; (try dsimp only)) | (walk1 <;> try dsimp only) | (dsimp only; walk1) | (leave1; walk_say "STEP leave1"; try dsimp only))))
        refine' my_append ?F ?N hf1 ?hb ?U ?_
        case F => k_asm
        case N => k_asm
        case hb => omega
        case U => k_upd
        intro h' F' N' hJ'
        (repeat' ((fail_if_success (with_reducible show wpAny _ _ (exec (Stmt.While _ _ _ _) _) _ _ _)); (fail_if_success (with_reducible show wpAny _ _ (exec (Stmt.For _ _ _ _ _) _) _ _ _)); (fail_if_success (with_reducible show wpAny _ _ (execs (Stmt.For _ _ _ _ _ :: _) _) _ _ _)); (fail_if_success (with_reducible show wpAny _ _ (call (Value.ref _) _ _) _ _ _)); (fail_if_success (with_reducible show wpAny _ _ (pyIter _) _ _ _)); (first | ((with_reducible show wpAny _ _ (exec _ _) _ _ _); k_fold; (try (refine gen_toks ?_; intro tk9))) | (k_unfold; (try dsimp only)) | (walk1 <;> try dsimp only) | (dsimp only; walk1) | (leave1; walk_say "STEP leave1"; try dsimp only))))
        refine' kst_end (σ := RS) ⟨c.gv ++ [Value.int (c.fs.getD (bl c.fs x) 0) t'], c.gs ++ [c.fs.getD (bl c.fs x) 0], c.gn + 1, c.fv.eraseIdx (bl c.fs x), c.fs.eraseIdx (bl c.fs x), c.fn + 1⟩ (by assumption) (by assumption) ?hn ?ho ?ha ⟨hJ', hI'⟩ ?hk ?hr ?hp
        case hn => exact fun p hp => List.mem_append_left own hp
        case ho => exact fun p hp => List.mem_append_right (RLed _ _ l vs n news ⟨_, [], _, _, [], _⟩) hp
        case ha => rfl
        case hk => intro p hp; cases hp
        case hr => ((intro z h1 h2 h3; (try dsimp only at h1 h2 h3); (simp only [List.forall_mem_cons, List.not_mem_nil, false_implies, implies_true, and_true, ne_eq] at h2); (simp only [List.contains_cons, List.contains_nil, Bool.or_false, Bool.or_eq_false_iff, beq_eq_false_iff_ne, ne_eq] at h3); (simp [kstB, h1, h2, h3]; done)))
        case hp => exact str_step hp1 hp2 hp3 hpg (by omega)
structure TS where
  row : Str
  t : Tok
noncomputable abbrev sOpen : Str := Str.ofString "("
noncomputable abbrev sShut : Str := Str.ofString ")"
noncomputable def rowTurn (ws : List Int) (ps : List Str) (place : Int) (row : Str) (i : Nat) : Str := if ws.getD i 0 = place then row ++ sOpen ++ ps.getD i Str.empty else row
noncomputable def rowIn (ws : List Int) (ps : List Str) (place : Int) (row : Str) (k : Nat) : Str := (List.range k).foldl (rowTurn ws ps place) row
noncomputable def rowPlace (ws : List Int) (ps : List Str) (row : Str) (place : Nat) : Str := let r := rowIn ws ps place row ws.length; if place < ws.length then r ++ sShut else r
noncomputable def rowTo (ws : List Int) (ps : List Str) (k : Nat) : Str := (List.range k).foldl (rowPlace ws ps) (Str.ofString "")
theorem rowIn_succ (ws : List Int) (ps : List Str) (place : Int) (row : Str) (k : Nat) : rowIn ws ps place row (k + 1) = rowTurn ws ps place (rowIn ws ps place row k) k := by
  simp [rowIn, List.range_succ]
theorem rowTo_succ (ws : List Int) (ps : List Str) (k : Nat) : rowTo ws ps (k + 1) = rowPlace ws ps (rowTo ws ps k) k := by
  simp [rowTo, List.range_succ]
theorem piece_len {ps : List Str} (hp : ∀ p ∈ ps, p.length ≤ 10) (i : Nat) : (ps.getD i Str.empty).length ≤ 10 := by
  rw [List.getD_eq_getElem?_getD]
  cases h : ps[i]? with
  | none => simp [Str.empty, Str.length]
  | some p => exact hp p (List.mem_of_getElem? h)
theorem rowIn_len {ws : List Int} {ps : List Str} (hp : ∀ p ∈ ps, p.length ≤ 10) (place : Int) (row : Str) : ∀ k, (rowIn ws ps place row k).length ≤ row.length + 11 * k
  | 0 => by simp [rowIn]
  | k + 1 => by
    have := rowIn_len (ws := ws) hp place row k
    have hl := piece_len hp k
    rw [rowIn_succ, rowTurn]
    split
    · rw [Str.length_append, Str.length_append]
      have : (sOpen).length = 1 := by decide +kernel
      omega
    · omega
theorem rowTo_len {ws : List Int} {ps : List Str} (hp : ∀ p ∈ ps, p.length ≤ 10) (hw : ws.length < 10) : ∀ k, (rowTo ws ps k).length ≤ 100 * k
  | 0 => by simp [rowTo]; decide +kernel
  | k + 1 => by
    have := rowTo_len hp hw k
    have hi := rowIn_len (ws := ws) hp k (rowTo ws ps k) ws.length
    rw [rowTo_succ]
    unfold rowPlace
    simp only
    split
    · rw [Str.length_append]
      have : (sShut).length = 1 := by decide +kernel
      omega
    · omega
theorem row_says (w mean mg mb) (l pl : Addr) (vs pvs : List Value) (n pn : Nat) (xs : List Int) (ps : List Str) (hi : IntsAre vs xs) (hps : StrsAre pvs ps) (hn : xs.length < 10) (hl : ps.length = xs.length) (hpl : ∀ p ∈ ps, p.length ≤ 10) :
    Says 20 200 w mean mg mb 159 [.ref l, .ref pl] [(l, listOf vs.toArray n), (pl, listOf pvs.toArray pn)] (fun new v => new = [] ∧ ∃ t, v = .str (rowTo xs ps (xs.length + 1)) t) := by
  w_on
  unfold Says
  k_fill
  intro dp un gd cn cs a ccd cl outer A₀ base h₀ L m news s Q E B F X N T hk hneed hd hu hret
  have N0 := need_on N hneed
  clear N
  simp only [List.cons_append, List.nil_append] at N0
  refine wpAny_call ?_
  ((k_dflt (refine' code_def ?k1 ?k2 ?k3 ?k4 ?k5 ?kA ?kF ?kK ?k6 ?k7 ?k8 ?k9 ?kB ?_ ?c2 ?c3 ?c4 ?c5; (case kA => exact rfl); (case kF => exact rfl); (case kK => first | exact rfl | assumption); (case k1 => k_asm); (case k2 => k_asm); (case k3 => k_asm); (case k4 => k_asm); (case k5 => k_asm); (case k6 => k_is); (case k7 => k_is); (case k8 => ktr_room); (case k9 => first | exact BindsTo.of_eq rfl | (refine' kp_binds ?kx ?ke; (case kx => k_in); (case ke => exact fun _ => rfl)) | exact binds_K (by k_in) rfl (by k_is) rfl rfl rfl | fail "enter: no rule for these arguments"); (case c5 => decide); (case kB => exact locs rfl); (case c2 => exact rfl); (case c3 => exact rfl); (case c4 => exact rfl); k_whole; intro g' L' h' FG' F' N' B' X' T'; (try dsimp only); (try k_lift B'); (try k_fold); (try (refine gen_toks ?_; intro tk9)))))
  rename Fr _ _ _ _ => F0
  replace F0 := lookN (l' := [(Str.ofString "pieces", _), (Str.ofString "wishes", _)]) rfl F0
  (repeat' ((fail_if_success (with_reducible show wpAny _ _ (exec (Stmt.While _ _ _ _) _) _ _ _)); (fail_if_success (with_reducible show wpAny _ _ (exec (Stmt.For _ _ _ _ _) _) _ _ _)); (fail_if_success (with_reducible show wpAny _ _ (execs (Stmt.For _ _ _ _ _ :: _) _) _ _ _)); (fail_if_success (with_reducible show wpAny _ _ (call (Value.ref _) _ _) _ _ _)); (fail_if_success (with_reducible show wpAny _ _ (pyIter _) _ _ _)); (first | ((with_reducible show wpAny _ _ (exec _ _) _ _ _); k_fold; (try (refine gen_toks ?_; intro tk9))) | (((with_reducible show wpAny _ _ (binaryOp Operator.Add (Value.str _ _) (Value.str _ _)) _ _ _); refine PyProof.Rows.add_str (hsz := ?hsz) ?_; (case hsz => (((try simp only [Str.length_append, len_open, len_shut, len_tab, len_blank, len_back, Int.toNat_natCast]); rw [sizeLine_eq]; omega))); intro _ _)) | (k_unfold; (try dsimp only)) | (walk1 <;> try dsimp only) | (dsimp only; walk1) | (leave1; walk_say "STEP leave1"; try dsimp only))))
  refine wpAny_execs_cons ?_
  rename Fr _ _ _ _ => lF'
  with_unfolding_all refine' For_invVF lF' ?k1 ?k2 ?_
  case k1 => exact rfl
  case k2 => exact rfl
  (repeat' ((fail_if_success (with_reducible show wpAny _ _ (exec (Stmt.While _ _ _ _) _) _ _ _)); (fail_if_success (with_reducible show wpAny _ _ (exec (Stmt.For _ _ _ _ _) _) _ _ _)); (fail_if_success (with_reducible show wpAny _ _ (execs (Stmt.For _ _ _ _ _ :: _) _) _ _ _)); (fail_if_success (with_reducible show wpAny _ _ (call (Value.ref _) _ _) _ _ _)); (fail_if_success (with_reducible show wpAny _ _ (pyIter _) _ _ _)); (first | ((with_reducible show wpAny _ _ (exec _ _) _ _ _); k_fold; (try (refine gen_toks ?_; intro tk9))) | (((with_reducible show wpAny _ _ (binaryOp Operator.Add (Value.str _ _) (Value.str _ _)) _ _ _); refine PyProof.Rows.add_str (hsz := ?hsz) ?_; (case hsz => (((try simp only [Str.length_append, len_open, len_shut, len_tab, len_blank, len_back, Int.toNat_natCast]); rw [sizeLine_eq]; omega))); intro _ _)) | (k_unfold; (try dsimp only)) | (walk1 <;> try dsimp only) | (dsimp only; walk1) | (leave1; walk_say "STEP leave1"; try dsimp only))))
  rename Fr _ _ _ _ => F1
  rename News _ _ _ _ => N1
  rename IntsAre vs xs => hi
  refine' kst_range (σ := TS) (n := xs.length + 1) (fun _ => (l, listOf vs.toArray n) :: (pl, listOf pvs.toArray pn) :: news) (fun c => [(Str.ofString "row", .str c.row c.t)]) (fun _ => True) [Str.ofString "i"] (fun pre c => c.row = rowTo xs ps pre.length) ⟨_, _⟩ rfl (by assumption) ?hsm ?hrs F1 N1 trivial ?hk ?hp ?turn ?done
  case hsm => exact small_one (by omega) (by omega) (by omega) (by omega)
  case hrs => rw [rangeSize_nat]; omega
  case hk => with_unfolding_all kst_all
  case hp => rfl
  case done =>
    intro c u h tk _ hp F2 N2
    clear F1 N1
    rw [rangeKs_length] at hp
    (repeat' ((fail_if_success (with_reducible show wpAny _ _ (exec (Stmt.While _ _ _ _) _) _ _ _)); (fail_if_success (with_reducible show wpAny _ _ (exec (Stmt.For _ _ _ _ _) _) _ _ _)); (fail_if_success (with_reducible show wpAny _ _ (execs (Stmt.For _ _ _ _ _ :: _) _) _ _ _)); (fail_if_success (with_reducible show wpAny _ _ (call (Value.ref _) _ _) _ _ _)); (fail_if_success (with_reducible show wpAny _ _ (pyIter _) _ _ _)); (first | ((with_reducible show wpAny _ _ (exec _ _) _ _ _); k_fold; (try (refine gen_toks ?_; intro tk9))) | (((with_reducible show wpAny _ _ (binaryOp Operator.Add (Value.str _ _) (Value.str _ _)) _ _ _); refine PyProof.Rows.add_str (hsz := ?hsz) ?_; (case hsz => (((try simp only [Str.length_append, len_open, len_shut, len_tab, len_blank, len_back, Int.toNat_natCast]); rw [sizeLine_eq]; omega))); intro _ _)) | (k_unfold; (try dsimp only)) | (walk1 <;> try dsimp only) | (dsimp only; walk1) | (leave1; walk_say "STEP leave1"; try dsimp only))))
    rename Fr h₀ _ _ _ => F3
    rename News h₀ _ _ _ => N3
    refine hret _ [] _ _ F3 (led_drop N3 ?_) (by simp) ⟨rfl, _, by rw [hp]⟩
    intro p hp
    simp only [List.nil_append] at hp
    simp [hp]
  case turn =>
    intro c pre k t u h tk own hkk hlt hoff _ hpo F2 N2
    clear F1 N1
    simp only [List.cons_append] at N2
    have hk0 : k = (pre.length : Int) := by omega
    subst hk0
    have hcl := rowTo_len (ws := xs) (ps := ps) hpl hn pre.length
    rw [← hpo] at hcl
    refine wpAny_execs_cons ?_
    rename Fr _ _ _ _ => lF'
    with_unfolding_all refine' For_invVF lF' ?k1 ?k2 ?_
    case k1 => exact rfl
    case k2 => exact rfl
    (repeat' ((fail_if_success (with_reducible show wpAny _ _ (exec (Stmt.While _ _ _ _) _) _ _ _)); (fail_if_success (with_reducible show wpAny _ _ (exec (Stmt.For _ _ _ _ _) _) _ _ _)); (fail_if_success (with_reducible show wpAny _ _ (execs (Stmt.For _ _ _ _ _ :: _) _) _ _ _)); (fail_if_success (with_reducible show wpAny _ _ (call (Value.ref _) _ _) _ _ _)); (fail_if_success (with_reducible show wpAny _ _ (pyIter _) _ _ _)); (first | ((with_reducible show wpAny _ _ (exec _ _) _ _ _); k_fold; (try (refine gen_toks ?_; intro tk9))) | (((with_reducible show wpAny _ _ (binaryOp Operator.Add (Value.str _ _) (Value.str _ _)) _ _ _); refine PyProof.Rows.add_str (hsz := ?hsz) ?_; (case hsz => (((try simp only [Str.length_append, len_open, len_shut, len_tab, len_blank, len_back, Int.toNat_natCast]); rw [sizeLine_eq]; omega))); intro _ _)) | (k_unfold; (try dsimp only)) | (walk1 <;> try dsimp only) | (dsimp only; walk1) | (leave1; walk_say "STEP leave1"; try dsimp only))))
    rename Fr _ _ _ _ => F1
    rename News _ _ _ _ => N1
    refine' kst_range (σ := TS) (n := xs.length) (fun _ => (l, listOf vs.toArray n) :: (pl, listOf pvs.toArray pn) :: (news ++ own)) (fun c => [(Str.ofString "row", .str c.row c.t)]) (fun _ => True) [] (fun qre d => d.row = rowIn xs ps pre.length c.row qre.length) ⟨_, _⟩ rfl (by assumption) ?hsm ?hrs F1 N1 trivial ?hk ?hp ?turn ?done
    case hsm => exact small_one (by omega) (by omega) (by omega) (by omega)
    case hrs => rw [rangeSize_nat]; omega
    case hk => with_unfolding_all kst_all
    case hp => rfl
    case done =>
      intro d u h tk _ hp F2 N2
      clear F1 N1
      rw [rangeKs_length] at hp
      have hdl := rowIn_len (ws := xs) (ps := ps) hpl pre.length c.row xs.length
      rw [← hp] at hdl
      (repeat' ((fail_if_success (with_reducible show wpAny _ _ (exec (Stmt.While _ _ _ _) _) _ _ _)); (fail_if_success (with_reducible show wpAny _ _ (exec (Stmt.For _ _ _ _ _) _) _ _ _)); (fail_if_success (with_reducible show wpAny _ _ (execs (Stmt.For _ _ _ _ _ :: _) _) _ _ _)); (fail_if_success (with_reducible show wpAny _ _ (call (Value.ref _) _ _) _ _ _)); (fail_if_success (with_reducible show wpAny _ _ (pyIter _) _ _ _)); (first | ((with_reducible show wpAny _ _ (exec _ _) _ _ _); k_fold; (try (refine gen_toks ?_; intro tk9))) | (((with_reducible show wpAny _ _ (binaryOp Operator.Add (Value.str _ _) (Value.str _ _)) _ _ _); refine PyProof.Rows.add_str (hsz := ?hsz) ?_; (case hsz => (((try simp only [Str.length_append, len_open, len_shut, len_tab, len_blank, len_back, Int.toNat_natCast]); rw [sizeLine_eq]; omega))); intro _ _)) | (k_unfold; (try dsimp only)) | (walk1 <;> try dsimp only) | (dsimp only; walk1) | (leave1; walk_say "STEP leave1"; try dsimp only))))
      · refine' kst_end (σ := TS) ⟨d.row ++ sShut, _⟩ (by assumption) (by assumption) ?hn ?ho ?ha trivial ?hk ?hr ?hp
        case ha => rfl
        case hn => exact fun p hp => List.mem_append_left own hp
        case ho => exact fun p hp => List.mem_append_right ((l, listOf vs.toArray n) :: (pl, listOf pvs.toArray pn) :: news) hp
        case hk => with_unfolding_all kst_all
        case hr => ((intro z h1 h2 h3; (try dsimp only at h1 h2 h3); (simp only [List.forall_mem_cons, List.not_mem_nil, false_implies, implies_true, and_true, ne_eq] at h2); (simp only [List.contains_cons, List.contains_nil, Bool.or_false, Bool.or_eq_false_iff, beq_eq_false_iff_ne, ne_eq] at h3); (simp [kstB, h1, h2, h3]; done)))
        case hp =>
          dsimp only
          rw [List.length_append, List.length_singleton, rowTo_succ, rowPlace, ← hpo, ← hp, if_pos (by omega)]
      · refine' kst_end (σ := TS) ⟨d.row, _⟩ (by assumption) (by assumption) ?hn ?ho ?ha trivial ?hk ?hr ?hp
        case ha => rfl
        case hn => exact fun p hp => List.mem_append_left own hp
        case ho => exact fun p hp => List.mem_append_right ((l, listOf vs.toArray n) :: (pl, listOf pvs.toArray pn) :: news) hp
        case hk => with_unfolding_all kst_all
        case hr => ((intro z h1 h2 h3; (try dsimp only at h1 h2 h3); (simp only [List.forall_mem_cons, List.not_mem_nil, false_implies, implies_true, and_true, ne_eq] at h2); (simp only [List.contains_cons, List.contains_nil, Bool.or_false, Bool.or_eq_false_iff, beq_eq_false_iff_ne, ne_eq] at h3); (simp [kstB, h1, h2, h3]; done)))
        case hp =>
          dsimp only
          rw [List.length_append, List.length_singleton, rowTo_succ, rowPlace, ← hpo, ← hp, if_neg (by omega)]
    case turn =>
      intro d qre k t u h tk own2 hkk hlt2 hoff2 _ hq F2 N2
      clear F1 N1
      have hk0 : k = (qre.length : Int) := by omega
      subst hk0
      have hdl := rowIn_len (ws := xs) (ps := ps) hpl pre.length c.row qre.length
      rw [← hq] at hdl
      have hpc := piece_len hpl qre.length
      have hlt3 : (qre.length : Int) < xs.length := by omega
      (repeat' ((fail_if_success (with_reducible show wpAny _ _ (exec (Stmt.While _ _ _ _) _) _ _ _)); (fail_if_success (with_reducible show wpAny _ _ (exec (Stmt.For _ _ _ _ _) _) _ _ _)); (fail_if_success (with_reducible show wpAny _ _ (execs (Stmt.For _ _ _ _ _ :: _) _) _ _ _)); (fail_if_success (with_reducible show wpAny _ _ (call (Value.ref _) _ _) _ _ _)); (fail_if_success (with_reducible show wpAny _ _ (pyIter _) _ _ _)); (first | ((with_reducible show wpAny _ _ (exec _ _) _ _ _); k_fold; (try (refine gen_toks ?_; intro tk9))) | (((with_reducible show wpAny _ _ (binaryOp Operator.Add (Value.str _ _) (Value.str _ _)) _ _ _); refine PyProof.Rows.add_str (hsz := ?hsz) ?_; (case hsz => (((try simp only [Str.length_append, len_open, len_shut, len_tab, len_blank, len_back, Int.toNat_natCast]); rw [sizeLine_eq]; omega))); intro _ _)) | (k_unfold; (try dsimp only)) | (walk1 <;> try dsimp only) | (dsimp only; walk1) | (leave1; walk_say "STEP leave1"; try dsimp only))))
      · refine' kst_end (σ := TS) ⟨d.row ++ sOpen ++ ps.getD qre.length Str.empty, _⟩ (by assumption) (by assumption) ?hn ?ho ?ha trivial ?hk ?hr ?hp
        case ha => rfl
        case hn => exact fun p hp => List.mem_append_left own2 hp
        case ho => exact fun p hp => List.mem_append_right ((l, listOf vs.toArray n) :: (pl, listOf pvs.toArray pn) :: (news ++ own)) hp
        case hk => with_unfolding_all kst_all
        case hr => ((intro z h1 h2 h3; (try dsimp only at h1 h2 h3); (simp only [List.forall_mem_cons, List.not_mem_nil, false_implies, implies_true, and_true, ne_eq] at h2); (simp only [List.contains_cons, List.contains_nil, Bool.or_false, Bool.or_eq_false_iff, beq_eq_false_iff_ne, ne_eq] at h3); (simp [kstB, h1, h2, h3]; done)))
        case hp =>
          dsimp only
          rw [List.length_append, List.length_singleton, rowIn_succ, rowTurn, ← hq, if_pos (by assumption)]
      · refine' kst_end (σ := TS) ⟨d.row, _⟩ (by assumption) (by assumption) ?hn ?ho ?ha trivial ?hk ?hr ?hp
        case ha => rfl
        case hn => exact fun p hp => List.mem_append_left own2 hp
        case ho => exact fun p hp => List.mem_append_right ((l, listOf vs.toArray n) :: (pl, listOf pvs.toArray pn) :: (news ++ own)) hp
        case hk => with_unfolding_all kst_all
        case hr => ((intro z h1 h2 h3; (try dsimp only at h1 h2 h3); (simp only [List.forall_mem_cons, List.not_mem_nil, false_implies, implies_true, and_true, ne_eq] at h2); (simp only [List.contains_cons, List.contains_nil, Bool.or_false, Bool.or_eq_false_iff, beq_eq_false_iff_ne, ne_eq] at h3); (simp [kstB, h1, h2, h3]; done)))
        case hp =>
          dsimp only
          rw [List.length_append, List.length_singleton, rowIn_succ, rowTurn, ← hq, if_neg (by assumption)]
noncomputable def leadTo (m : Int) (pre : List Int) : Str := pre.foldl (fun r x => r ++ Txt.mul (Str.ofString " ") (m - 1 + x) ++ Str.ofString "\t") (Str.ofString "")
theorem leadTo_snoc (m : Int) (pre : List Int) (x : Int) : leadTo m (pre ++ [x]) = leadTo m pre ++ Txt.mul (Str.ofString " ") (m - 1 + x) ++ Str.ofString "\t" := by simp [leadTo]
theorem lead_says (w mean mg mb) (l : Addr) (vs : List Value) (n : Nat) (xs : List Int) (hi : IntsAre vs xs) (hn : xs.length < 10) (hw : ∀ x ∈ xs, 0 ≤ x ∧ x < 10) :
    Says 20 200 w mean mg mb 166 [.ref l] [(l, listOf vs.toArray n)] (fun new v => new = [] ∧ ∃ t, v = .str (leadTo xs.length xs) t ∧ (leadTo xs.length xs).length ≤ 300) := by
  w_on
  unfold Says
  k_fill
  intro dp un gd cn cs a ccd cl outer A₀ base h₀ L m news s Q E B F X N T hk hneed hd hu hret
  have N0 := need_on N hneed
  clear N
  simp only [List.cons_append, List.nil_append] at N0
  refine wpAny_call ?_
  ((k_dflt (refine' code_def ?k1 ?k2 ?k3 ?k4 ?k5 ?kA ?kF ?kK ?k6 ?k7 ?k8 ?k9 ?kB ?_ ?c2 ?c3 ?c4 ?c5; (case kA => exact rfl); (case kF => exact rfl); (case kK => first | exact rfl | assumption); (case k1 => k_asm); (case k2 => k_asm); (case k3 => k_asm); (case k4 => k_asm); (case k5 => k_asm); (case k6 => k_is); (case k7 => k_is); (case k8 => ktr_room); (case k9 => first | exact BindsTo.of_eq rfl | (refine' kp_binds ?kx ?ke; (case kx => k_in); (case ke => exact fun _ => rfl)) | exact binds_K (by k_in) rfl (by k_is) rfl rfl rfl | fail "enter: no rule for these arguments"); (case c5 => decide); (case kB => exact locs rfl); (case c2 => exact rfl); (case c3 => exact rfl); (case c4 => exact rfl); k_whole; intro g' L' h' FG' F' N' B' X' T'; (try dsimp only); (try k_lift B'); (try k_fold); (try (refine gen_toks ?_; intro tk9)))))
  rename Fr _ _ _ _ => F0
  replace F0 := lookN (l' := [(Str.ofString "wishes", _)]) rfl F0
  (repeat' ((fail_if_success (with_reducible show wpAny _ _ (exec (Stmt.While _ _ _ _) _) _ _ _)); (fail_if_success (with_reducible show wpAny _ _ (exec (Stmt.For _ _ _ _ _) _) _ _ _)); (fail_if_success (with_reducible show wpAny _ _ (execs (Stmt.For _ _ _ _ _ :: _) _) _ _ _)); (fail_if_success (with_reducible show wpAny _ _ (call (Value.ref _) _ _) _ _ _)); (fail_if_success (with_reducible show wpAny _ _ (pyIter _) _ _ _)); (first | ((with_reducible show wpAny _ _ (exec _ _) _ _ _); k_fold; (try (refine gen_toks ?_; intro tk9))) | (((with_reducible show wpAny _ _ (binaryOp Operator.Add (Value.str _ _) (Value.str _ _)) _ _ _); refine PyProof.Rows.add_str (hsz := ?hsz) ?_; (case hsz => (((try simp only [Str.length_append, len_open, len_shut, len_tab, len_blank, len_back, Int.toNat_natCast]); rw [sizeLine_eq]; omega))); intro _ _)) | (k_unfold; (try dsimp only)) | (walk1 <;> try dsimp only) | (dsimp only; walk1) | (leave1; walk_say "STEP leave1"; try dsimp only))))
  refine wpAny_execs_cons ?_
  rename Fr _ _ _ _ => lF'
  with_unfolding_all refine' For_invVF lF' ?k1 ?k2 ?_
  case k1 => exact rfl
  case k2 => exact rfl
  (repeat' ((fail_if_success (with_reducible show wpAny _ _ (exec (Stmt.While _ _ _ _) _) _ _ _)); (fail_if_success (with_reducible show wpAny _ _ (exec (Stmt.For _ _ _ _ _) _) _ _ _)); (fail_if_success (with_reducible show wpAny _ _ (execs (Stmt.For _ _ _ _ _ :: _) _) _ _ _)); (fail_if_success (with_reducible show wpAny _ _ (call (Value.ref _) _ _) _ _ _)); (fail_if_success (with_reducible show wpAny _ _ (pyIter _) _ _ _)); (first | ((with_reducible show wpAny _ _ (exec _ _) _ _ _); k_fold; (try (refine gen_toks ?_; intro tk9))) | (((with_reducible show wpAny _ _ (binaryOp Operator.Add (Value.str _ _) (Value.str _ _)) _ _ _); refine PyProof.Rows.add_str (hsz := ?hsz) ?_; (case hsz => (((try simp only [Str.length_append, len_open, len_shut, len_tab, len_blank, len_back, Int.toNat_natCast]); rw [sizeLine_eq]; omega))); intro _ _)) | (k_unfold; (try dsimp only)) | (walk1 <;> try dsimp only) | (dsimp only; walk1) | (leave1; walk_say "STEP leave1"; try dsimp only))))
  rename Fr _ _ _ _ => F1
  rename News _ _ _ _ => N1
  rename IntsAre vs xs => hi
  refine' kst_listL (σ := TS) (fun _ => (l, listOf vs.toArray n) :: news) (fun c => [(Str.ofString "lead", .str c.row c.t)]) (fun _ => True) [] (fun pre c => c.row = leadTo xs.length pre ∧ c.row.length ≤ 30 * pre.length) ⟨_, _⟩ rfl ?hl hi F1 N1 trivial ?hk ?hp ?turn ?done
  case hl => exact fun c => .head _
  case hk => with_unfolding_all kst_all
  case hp => exact ⟨rfl, by show (Str.ofString "").length ≤ 0; decide +kernel⟩
  case done =>
    intro c u h tk _ hp F2 N2
    clear F1 N1
    (repeat' ((fail_if_success (with_reducible show wpAny _ _ (exec (Stmt.While _ _ _ _) _) _ _ _)); (fail_if_success (with_reducible show wpAny _ _ (exec (Stmt.For _ _ _ _ _) _) _ _ _)); (fail_if_success (with_reducible show wpAny _ _ (execs (Stmt.For _ _ _ _ _ :: _) _) _ _ _)); (fail_if_success (with_reducible show wpAny _ _ (call (Value.ref _) _ _) _ _ _)); (fail_if_success (with_reducible show wpAny _ _ (pyIter _) _ _ _)); (first | ((with_reducible show wpAny _ _ (exec _ _) _ _ _); k_fold; (try (refine gen_toks ?_; intro tk9))) | (((with_reducible show wpAny _ _ (binaryOp Operator.Add (Value.str _ _) (Value.str _ _)) _ _ _); refine PyProof.Rows.add_str (hsz := ?hsz) ?_; (case hsz => (((try simp only [Str.length_append, len_open, len_shut, len_tab, len_blank, len_back, Int.toNat_natCast]); rw [sizeLine_eq]; omega))); intro _ _)) | (k_unfold; (try dsimp only)) | (walk1 <;> try dsimp only) | (dsimp only; walk1) | (leave1; walk_say "STEP leave1"; try dsimp only))))
    rename Fr h₀ _ _ _ => F3
    rename News h₀ _ _ _ => N3
    refine hret _ [] _ _ F3 (led_drop N3 fun p hp => .tail _ hp) (by simp) ⟨rfl, _, by rw [hp.1], by have := hp.2; rw [hp.1] at this; omega⟩
  case turn =>
    intro c pre post x t u h tk own hxs hmem hoff _ hp F2 N2
    clear F1 N1
    simp only [List.cons_append] at N2
    have hx := hw x hmem
    have hpl : pre.length < xs.length := by rw [hxs]; simp
    obtain ⟨hp1, hp2⟩ := hp
    (repeat' ((fail_if_success (with_reducible show wpAny _ _ (exec (Stmt.While _ _ _ _) _) _ _ _)); (fail_if_success (with_reducible show wpAny _ _ (exec (Stmt.For _ _ _ _ _) _) _ _ _)); (fail_if_success (with_reducible show wpAny _ _ (execs (Stmt.For _ _ _ _ _ :: _) _) _ _ _)); (fail_if_success (with_reducible show wpAny _ _ (call (Value.ref _) _ _) _ _ _)); (fail_if_success (with_reducible show wpAny _ _ (pyIter _) _ _ _)); (first | ((with_reducible show wpAny _ _ (exec _ _) _ _ _); k_fold; (try (refine gen_toks ?_; intro tk9))) | (((with_reducible show wpAny _ _ (binaryOp Operator.Add (Value.str _ _) (Value.str _ _)) _ _ _); refine PyProof.Rows.add_str (hsz := ?hsz) ?_; (case hsz => (((try simp only [Str.length_append, len_open, len_shut, len_tab, len_blank, len_back, Int.toNat_natCast]); rw [sizeLine_eq]; omega))); intro _ _)) | (k_unfold; (try dsimp only)) | (walk1 <;> try dsimp only) | (dsimp only; walk1) | (leave1; walk_say "STEP leave1"; try dsimp only))))
    refine' kst_end (σ := TS) ⟨c.row ++ Txt.mul (Str.ofString " ") (xs.length - 1 + x) ++ Str.ofString "\t", _⟩ (by assumption) (by assumption) ?hn ?ho ?ha trivial ?hk ?hr ?hp
    case ha => rfl
    case hn => exact fun p hp => List.mem_append_left own hp
    case ho => exact fun p hp => List.mem_append_right ((l, listOf vs.toArray n) :: news) hp
    case hk => with_unfolding_all kst_all
    case hr => ((intro z h1 h2 h3; (try dsimp only at h1 h2 h3); (simp only [List.forall_mem_cons, List.not_mem_nil, false_implies, implies_true, and_true, ne_eq] at h2); (simp only [List.contains_cons, List.contains_nil, Bool.or_false, Bool.or_eq_false_iff, beq_eq_false_iff_ne, ne_eq] at h3); (simp [kstB, h1, h2, h3]; done)))
    case hp =>
      refine ⟨?_, ?_⟩
      · dsimp only
        rw [leadTo_snoc, hp1]
      · simp only [Str.length_append, len_tab, List.length_append, List.length_cons, List.length_nil]
        omega
noncomputable def MyEnd (h₀ : Heap) (L : Addr) (G : Array GenState → Prop) (J : (Str → Option Value) → Led → Prop) (own : Led) (s₁ s₂ : Shared) : Prop :=
  ∃ h' tk gs m' news' nx, s₂ = { s₁ with heap := h', toks := tk, gens := gs } ∧ G gs ∧ Fr h₀ L h' m' ∧ News h₀ L h' news' ∧ (∀ p ∈ nx, p ∈ news') ∧ (∀ p ∈ own, p ∈ news') ∧ OwnOff own (nx.map (·.1)) ∧ J m' nx
noncomputable def MyPost (h₀ : Heap) (L : Addr) (G : Array GenState → Prop) (J : (Str → Option Value) → Led → Prop) (own : Led) (s₁ : Shared) (Q : Flow → Shared → Prop) (f : Flow) (s₂ : Shared) : Prop :=
  match f with
  | .ret v => Q (.ret v) s₂
  | .brk => Q .next s₂
  | _ => MyEnd h₀ L G J own s₁ s₂
theorem MyEnd.intro {h₀ : Heap} {L : Addr} {G : Array GenState → Prop} {J : (Str → Option Value) → Led → Prop} {own news' : Led} {s₁ : Shared} {h' : Heap} {tk : Nat} {gs : Array GenState} {m' : Str → Option Value} (nx : Led)
    (F : Fr h₀ L h' m') (N : News h₀ L h' news') (hg : G gs) (hn : ∀ p ∈ nx, p ∈ news') (ho : ∀ p ∈ own, p ∈ news') (ha : OwnOff own (nx.map (·.1))) (hj : J m' nx) :
    MyEnd h₀ L G J own s₁ { s₁ with heap := h', toks := tk, gens := gs } := ⟨h', tk, gs, m', news', nx, rfl, hg, F, N, hn, ho, ha, hj⟩
section
variable {prog : Program} {w : World} {A : Around} {E : Value → Shared → Prop} {s : Shared} {env : Env} {h₀ : Heap} {target : Expr} {body : List Stmt} {Q : Flow → Shared → Prop}
theorem my_lenTup {L t : Addr} {news : Led} {vs : List Value} {ns : List Int} {Q : Value → Shared → Prop} (N : News h₀ L s.heap news) (hm : (t, ({ cls := .type "tuple", data := .seq vs.toArray } : Obj)) ∈ news) (hi : IntsAre vs ns) (hb : ns.length < 1000)
    (h : Q (.int ns.length (s.toks + 1)) { s with toks := s.toks + 1 + 1 }) : wpAny (model prog w) A (call (.builtin "len") [.ref t]) Q E s := by
  have hl := hi.length
  refine len_tuple (items := vs.toArray) (News.isTup N hm) ?_ ?_
  · rw [List.size_toArray]; omega
  · rw [List.size_toArray, hl]; exact h
theorem my_forWalks {I : Addr} {n : Nat} {P : Nat → Value → Prop} {St : Nat → Heap → Prop} {m₀ : Str → Option Value} {news : Led} (J : Nat → (Str → Option Value) → Led → Prop) (G : Array GenState → Prop)
    (W : Walks prog w A I [I] [I] n P St) (hsome : ∀ i h, St i h → ∃ o, h.get? I = some o) (hLI : env.locals ≠ I) (hI0 : h₀.get? I = none) (haI : ∀ p ∈ news, p.1 ≠ I)
    (hst : St 0 s.heap) (F : Fr h₀ env.locals s.heap m₀) (N : News h₀ env.locals s.heap news) (hG : G s.gens) (hj : J 0 m₀ news)
    (hT : ∀ it v, letOwnedTupleGo target it v = pure ())
    (turn : ∀ i v m₁ news₁ h tk gs own, i < n → P i v → G gs → OwnOff own (news₁.map (·.1)) → J i m₁ news₁ → Fr h₀ env.locals h m₁ → News h₀ env.locals h (news₁ ++ own) →
      wpAny (model prog w) A (assign target env v) (fun _ s₂ => wpAny (model prog w) A (execs body env) (MyPost h₀ env.locals G (J (i + 1)) own s Q) E s₂) E { s with heap := h, toks := tk, gens := gs })
    (done : ∀ m₁ news₁ h tk gs, J n m₁ news₁ → G gs → Fr h₀ env.locals h m₁ → News h₀ env.locals h news₁ → Q .next { s with heap := h, toks := tk, gens := gs })
    (hE : PassesOwn (model prog w) A env E := by passes_own) :
    codeAny (model prog w) A (.forLoop target (.ref I) body [] env) (fun r s' => match r with | .ok f => Q f s' | .error e => cameBackBy (model prog w) A env E e s') s := by
  have hnI : ∀ b o, h₀.get? b = some o → b ≠ I := fun b o e q => by
    rw [q, hI0] at e; cases e
  refine codeAny_forLoop_any
    (fun k s' => ∃ h tk gs m' nx i, s' = { s with heap := h, toks := tk, gens := gs } ∧ G gs ∧ St i h ∧ Fr h₀ env.locals h m' ∧ News h₀ env.locals h nx ∧ (∀ p ∈ nx, p.1 ≠ I) ∧ J i m' nx ∧ i ≤ n ∧ k = n + 1 - i) ?_ (n + 1)
    ⟨_, _, _, m₀, news, 0, rfl, hG, hst, F, N, haI, hj, Nat.zero_le _, rfl⟩
  rintro k s' ⟨h, tk, gs, m', nx, i, rfl, hg, hst, F', N', hxI, hJ, hi, rfl⟩
  have next : ∀ h₁ : Heap, (∀ b o, b ∉ [I] → h.get? b = some o → h₁.get? b = some o) → Fr h₀ env.locals h₁ m' ∧ News h₀ env.locals h₁ nx := fun h₁ hk₁ =>
    ⟨⟨F'.ns.at' fun o e => hk₁ _ o (by simp [hLI]) e, fun b o e => hk₁ b o (by simp [hnI b o e]) (F'.keep b o e), F'.above⟩, fun p hp => ⟨hk₁ _ _ (by simp [hxI p hp]) (N' p hp).1, (N' p hp).2⟩⟩
  by_cases hlt : i < n
  · refine W.item i _ _ _ hlt hst fun v h₁ tk₁ hP hst₁ hk₁ => ?_
    obtain ⟨F₁, N₁⟩ := next h₁ hk₁
    dsimp only
    rw [hT]
    refine wpAny_pure ?_
    obtain ⟨o, ho⟩ := hsome _ _ hst₁
    have hown : OwnOff [(I, o)] (nx.map (·.1)) := by
      intro p hp b hb
      simp only [List.mem_singleton] at hp
      subst hp
      obtain ⟨p', hp', rfl⟩ := List.mem_map.mp hb
      exact fun q => hxI p' hp' q.symm
    have N₂ : News h₀ env.locals h₁ (nx ++ [(I, o)]) := fun p hp => by
      rcases List.mem_append.mp hp with hp | hp
      · exact N₁ p hp
      · simp only [List.mem_singleton] at hp
        subst hp
        exact ⟨ho, fun q => hLI q.symm, hI0⟩
    refine wpAny_passesOwn hE (wpAny_mono (turn i v m' nx h₁ tk₁ gs [(I, o)] hlt hP hg hown hJ F₁ N₂) (fun _ s₂ h₂ => ?_) fun _ _ x => x)
    refine wpAny_passesOwn hE (wpAny_mono h₂ (fun f s₃ h₃ => ?_) fun _ _ x => x)
    have fin : MyEnd h₀ env.locals G (J (i + 1)) [(I, o)] s s₃ → ∃ m, m < n + 1 - i ∧ ∃ h tk gs m' nx i, s₃ = { s with heap := h, toks := tk, gens := gs } ∧ G gs ∧ St i h ∧ Fr h₀ env.locals h m' ∧ News h₀ env.locals h nx ∧ (∀ p ∈ nx, p.1 ≠ I) ∧ J i m' nx ∧ i ≤ n ∧ m = n + 1 - i := by
      rintro ⟨h', tk', gs', m₂, news', nx', e, hg', F₂, N₂', hnx, ho', ha', hJ'⟩
      refine ⟨n + 1 - (i + 1), by omega, h', tk', gs', m₂, nx', i + 1, e, hg', ?_, F₂, fun p hp => N₂' p (hnx p hp), ?_, hJ', hlt, rfl⟩
      · refine W.frame (i + 1) h₁ h' hst₁ fun b hb o' eo => ?_
        simp only [List.mem_singleton] at hb
        subst hb
        rw [ho] at eo
        cases eo
        exact (N₂' _ (ho' _ (.head _))).1
      · intro p hp q
        exact ha' (I, o) (.head _) p.1 (List.mem_map_of_mem hp) q.symm
    cases f with
    | ret v => exact h₃
    | brk => exact h₃
    | next => exact fin h₃
    | cont => exact fin h₃
  · have hin : i = n := by omega
    subst hin
    refine W.done _ _ _ hst fun h₁ tk₁ hk₁ => wpAny_execs_nil ?_
    obtain ⟨F₁, N₁⟩ := next h₁ hk₁
    exact done m' nx h₁ tk₁ gs hJ hg F₁ N₁
theorem my_forRange {r : Addr} {b₀ : Int} {t₀ u₀ v₀ : Tok} {n : Nat} {m₀ : Str → Option Value} {news : Led} (J : Nat → (Str → Option Value) → Led → Prop) (G : Array GenState → Prop)
    (hh : A.handled = none) (hr : IsRange s.heap r 0 b₀ 1 t₀ u₀ v₀) (hsmall : Builtin.Range.small 0 b₀ 1 = true) (hn : Builtin.Range.rangeSize 0 b₀ 1 = (n : Int)) (F : Fr h₀ env.locals s.heap m₀) (N : News h₀ env.locals s.heap news) (hG : G s.gens) (hj : J 0 m₀ news)
    (hT : ∀ it v, letOwnedTupleGo target it v = pure ())
    (turn : ∀ i t m₁ news₁ h tk gs own, i < n → G gs → OwnOff own (news₁.map (·.1)) → J i m₁ news₁ → Fr h₀ env.locals h m₁ → News h₀ env.locals h (news₁ ++ own) →
      wpAny (model prog w) A (assign target env (.int (i : Nat) t)) (fun _ s₂ => wpAny (model prog w) A (execs body env) (MyPost h₀ env.locals G (J (i + 1)) own s Q) E s₂) E { s with heap := h, toks := tk, gens := gs })
    (done : ∀ m₁ news₁ h tk gs, J n m₁ news₁ → G gs → Fr h₀ env.locals h m₁ → News h₀ env.locals h news₁ → Q .next { s with heap := h, toks := tk, gens := gs })
    (hE : PassesOwn (model prog w) A env E := by passes_own) :
    wpAny (model prog w) A (pyIter (.ref r)) (fun it s₂ => codeAny (model prog w) A (.forLoop target it body [] env) (fun r s' => match r with | .ok f => Q f s' | .error e => cameBackBy (model prog w) A env E e s') s₂) E s := by
  refine wpAny_pyIter_range hr hsmall ?_
  have W : Walks prog w A s.heap.objs.size [s.heap.objs.size] [s.heap.objs.size] n (fun i v => i < n ∧ ∃ t, v = .int (0 + i * 1) t)
      (fun i h => IsRangeIter h s.heap.objs.size (0 + (i : Nat) * 1) ((n : Int) - (i : Nat)) 1) := (Walks.range hh _ 0 1 n).bound
  refine my_forWalks J G W (fun i h st => ⟨_, st⟩) (Nat.ne_of_lt F.ns.lt) (next_is_new F) (fun p hp => Nat.ne_of_lt (Heap.lt_size (N p hp).1)) (by show IsRangeIter _ _ _ _ _; rw [hn]; simpa using Heap.get?_push_size _ rfl) (F.push _) (fun p hp => ⟨Heap.get?_push_of_some _ (N p hp).1, (N p hp).2⟩) hG hj hT ?_ done hE
  rintro i v m₁ news₁ h tk gs own hi ⟨_, t, rfl⟩ hg ho hJ F₁ N₁
  have e1 : (0 + (i : Int) * 1) = ((i : Nat) : Int) := by omega
  rw [e1]
  exact turn i t m₁ news₁ h tk gs own hi hg ho hJ F₁ N₁
theorem my_forText {xt : Str} {tx : Tok} {m₀ : Str → Option Value} {news : Led} (J : Nat → (Str → Option Value) → Led → Prop) (G : Array GenState → Prop)
    (hh : A.handled = none) (F : Fr h₀ env.locals s.heap m₀) (N : News h₀ env.locals s.heap news) (hG : G s.gens) (hj : J 0 m₀ news)
    (hT : ∀ it v, letOwnedTupleGo target it v = pure ())
    (turn : ∀ i n t m₁ news₁ h tk gs own, xt.cps.toList[i]? = some n → G gs → OwnOff own (news₁.map (·.1)) → J i m₁ news₁ → Fr h₀ env.locals h m₁ → News h₀ env.locals h (news₁ ++ own) →
      wpAny (model prog w) A (assign target env (.str ⟨#[n]⟩ t)) (fun _ s₂ => wpAny (model prog w) A (execs body env) (MyPost h₀ env.locals G (J (i + 1)) own s Q) E s₂) E { s with heap := h, toks := tk, gens := gs })
    (done : ∀ m₁ news₁ h tk gs, J xt.cps.size m₁ news₁ → G gs → Fr h₀ env.locals h m₁ → News h₀ env.locals h news₁ → Q .next { s with heap := h, toks := tk, gens := gs })
    (hE : PassesOwn (model prog w) A env E := by passes_own) :
    wpAny (model prog w) A (pyIter (.str xt tx)) (fun it s₂ => codeAny (model prog w) A (.forLoop target it body [] env) (fun r s' => match r with | .ok f => Q f s' | .error e => cameBackBy (model prog w) A env E e s') s₂) E s := by
  have go : ∀ (T : String) (St : Nat → Heap → Prop), (∀ i h, St i h → ∃ o, h.get? s.heap.objs.size = some o) → Walks prog w A s.heap.objs.size [s.heap.objs.size] [s.heap.objs.size] xt.cps.size (SignAt xt) St →
      St 0 (s.heap.push { cls := .type T, data := .fields #[.str xt tx, .int 0 0] }) →
      codeAny (model prog w) A (.forLoop target (.ref s.heap.objs.size) body [] env) (fun r s' => match r with | .ok f => Q f s' | .error e => cameBackBy (model prog w) A env E e s') { s with heap := s.heap.push { cls := .type T, data := .fields #[.str xt tx, .int 0 0] } } := by
    intro T St hsome W hst
    refine my_forWalks J G W hsome (Nat.ne_of_lt F.ns.lt) (next_is_new F) (fun p hp => Nat.ne_of_lt (Heap.lt_size (N p hp).1)) hst (F.push _) (fun p hp => ⟨Heap.get?_push_of_some _ (N p hp).1, (N p hp).2⟩) hG hj hT ?_ done hE
    rintro i v m₁ news₁ h tk gs own hi ⟨n, t, hn, rfl⟩ hg ho hJ F₁ N₁
    exact turn i n t m₁ news₁ h tk gs own (by simpa using hn) hg ho hJ F₁ N₁
  cases ha : xt.cps.all (· < 128)
  · exact wpAny_pyIter_wide ha (go _ _ (fun i h st => let ⟨o, ho, _⟩ := st; ⟨o, ho⟩) (Walks.strWide hh _ _ _) ⟨_, Heap.get?_push_size _ rfl, rfl, rfl⟩)
  · exact wpAny_pyIter_ascii ha (go _ _ (fun i h st => let ⟨o, ho, _⟩ := st; ⟨o, ho⟩) (Walks.strAscii hh _ _ _) ⟨_, Heap.get?_push_size _ rfl, rfl, rfl⟩)
end
theorem isterm_says (w mean mg mb) (x : Int) (tx : Tok) :
    Says 5 50 w mean mg mb 124 [.int x tx] [] (fun new v => new = [] ∧ v = .bool (decide (x < 256))) := by
  w_on
  unfold Says
  k_fill
  intro dp un gd cn cs a ccd cl outer A₀ base h₀ L m news s Q E B F X N T hk hneed hd hu hret
  refine wpAny_call ?_
  ((k_dflt (refine' code_def ?k1 ?k2 ?k3 ?k4 ?k5 ?kA ?kF ?kK ?k6 ?k7 ?k8 ?k9 ?kB ?_ ?c2 ?c3 ?c4 ?c5; (case kA => exact rfl); (case kF => exact rfl); (case kK => first | exact rfl | assumption); (case k1 => k_asm); (case k2 => k_asm); (case k3 => k_asm); (case k4 => k_asm); (case k5 => k_asm); (case k6 => k_is); (case k7 => k_is); (case k8 => ktr_room); (case k9 => first | exact BindsTo.of_eq rfl | (refine' kp_binds ?kx ?ke; (case kx => k_in); (case ke => exact fun _ => rfl)) | exact binds_K (by k_in) rfl (by k_is) rfl rfl rfl | fail "enter: no rule for these arguments"); (case c5 => decide); (case kB => exact locs rfl); (case c2 => exact rfl); (case c3 => exact rfl); (case c4 => exact rfl); k_whole; intro g' L' h' FG' F' N' B' X' T'; (try dsimp only); (try k_lift B'); (try k_fold); (try (refine gen_toks ?_; intro tk9)))))
  (repeat' ((fail_if_success (with_reducible show wpAny _ _ (exec (Stmt.While _ _ _ _) _) _ _ _)); (fail_if_success (with_reducible show wpAny _ _ (exec (Stmt.For _ _ _ _ _) _) _ _ _)); (fail_if_success (with_reducible show wpAny _ _ (execs (Stmt.For _ _ _ _ _ :: _) _) _ _ _)); (fail_if_success (with_reducible show wpAny _ _ (call (Value.ref _) _ _) _ _ _)); (fail_if_success (with_reducible show wpAny _ _ (pyIter _) _ _ _)); (first | ((with_reducible show wpAny _ _ (exec _ _) _ _ _); k_fold; (try (refine gen_toks ?_; intro tk9))) | (((with_reducible show wpAny _ _ (binaryOp Operator.Add (Value.str _ _) (Value.str _ _)) _ _ _); refine PyProof.Rows.add_str (hsz := ?hsz) ?_; (case hsz => (((try simp only [Str.length_append, len_open, len_shut, len_tab, len_blank, len_back, Int.toNat_natCast]); rw [sizeLine_eq]; omega))); intro _ _)) | (k_unfold; (try dsimp only)) | (walk1 <;> try dsimp only) | (dsimp only; walk1) | (leave1; walk_say "STEP leave1"; try dsimp only))))
  rename Fr h₀ _ _ _ => F3
  rename News h₀ _ _ _ => N3
  exact hret _ [] _ _ F3 N3 (by simp) ⟨rfl, rfl⟩
theorem isnont_says (w mean mg mb) (x : Int) (tx : Tok) :
    Says 5 50 w mean mg mb 131 [.int x tx] [] (fun new v => new = [] ∧ v = .bool (decide (256 ≤ x))) := by
  w_on
  unfold Says
  k_fill
  intro dp un gd cn cs a ccd cl outer A₀ base h₀ L m news s Q E B F X N T hk hneed hd hu hret
  refine wpAny_call ?_
  ((k_dflt (refine' code_def ?k1 ?k2 ?k3 ?k4 ?k5 ?kA ?kF ?kK ?k6 ?k7 ?k8 ?k9 ?kB ?_ ?c2 ?c3 ?c4 ?c5; (case kA => exact rfl); (case kF => exact rfl); (case kK => first | exact rfl | assumption); (case k1 => k_asm); (case k2 => k_asm); (case k3 => k_asm); (case k4 => k_asm); (case k5 => k_asm); (case k6 => k_is); (case k7 => k_is); (case k8 => ktr_room); (case k9 => first | exact BindsTo.of_eq rfl | (refine' kp_binds ?kx ?ke; (case kx => k_in); (case ke => exact fun _ => rfl)) | exact binds_K (by k_in) rfl (by k_is) rfl rfl rfl | fail "enter: no rule for these arguments"); (case c5 => decide); (case kB => exact locs rfl); (case c2 => exact rfl); (case c3 => exact rfl); (case c4 => exact rfl); k_whole; intro g' L' h' FG' F' N' B' X' T'; (try dsimp only); (try k_lift B'); (try k_fold); (try (refine gen_toks ?_; intro tk9)))))
  (repeat' ((fail_if_success (with_reducible show wpAny _ _ (exec (Stmt.While _ _ _ _) _) _ _ _)); (fail_if_success (with_reducible show wpAny _ _ (exec (Stmt.For _ _ _ _ _) _) _ _ _)); (fail_if_success (with_reducible show wpAny _ _ (execs (Stmt.For _ _ _ _ _ :: _) _) _ _ _)); (fail_if_success (with_reducible show wpAny _ _ (call (Value.ref _) _ _) _ _ _)); (fail_if_success (with_reducible show wpAny _ _ (pyIter _) _ _ _)); (first | ((with_reducible show wpAny _ _ (exec _ _) _ _ _); k_fold; (try (refine gen_toks ?_; intro tk9))) | (((with_reducible show wpAny _ _ (binaryOp Operator.Add (Value.str _ _) (Value.str _ _)) _ _ _); refine PyProof.Rows.add_str (hsz := ?hsz) ?_; (case hsz => (((try simp only [Str.length_append, len_open, len_shut, len_tab, len_blank, len_back, Int.toNat_natCast]); rw [sizeLine_eq]; omega))); intro _ _)) | (k_unfold; (try dsimp only)) | (walk1 <;> try dsimp only) | (dsimp only; walk1) | (leave1; walk_say "STEP leave1"; try dsimp only))))
  rename Fr h₀ _ _ _ => F3
  rename News h₀ _ _ _ => N3
  exact hret _ [] _ _ F3 N3 (by simp) ⟨rfl, rfl⟩
theorem iseof_says (w mean mg mb) (x : Int) (tx : Tok) :
    Says 5 50 w mean mg mb 138 [.int x tx] [] (fun new v => new = [] ∧ v = .bool (decide (x = 0))) := by
  w_on
  unfold Says
  k_fill
  intro dp un gd cn cs a ccd cl outer A₀ base h₀ L m news s Q E B F X N T hk hneed hd hu hret
  refine wpAny_call ?_
  ((k_dflt (refine' code_def ?k1 ?k2 ?k3 ?k4 ?k5 ?kA ?kF ?kK ?k6 ?k7 ?k8 ?k9 ?kB ?_ ?c2 ?c3 ?c4 ?c5; (case kA => exact rfl); (case kF => exact rfl); (case kK => first | exact rfl | assumption); (case k1 => k_asm); (case k2 => k_asm); (case k3 => k_asm); (case k4 => k_asm); (case k5 => k_asm); (case k6 => k_is); (case k7 => k_is); (case k8 => ktr_room); (case k9 => first | exact BindsTo.of_eq rfl | (refine' kp_binds ?kx ?ke; (case kx => k_in); (case ke => exact fun _ => rfl)) | exact binds_K (by k_in) rfl (by k_is) rfl rfl rfl | fail "enter: no rule for these arguments"); (case c5 => decide); (case kB => exact locs rfl); (case c2 => exact rfl); (case c3 => exact rfl); (case c4 => exact rfl); k_whole; intro g' L' h' FG' F' N' B' X' T'; (try dsimp only); (try k_lift B'); (try k_fold); (try (refine gen_toks ?_; intro tk9)))))
  (repeat' ((fail_if_success (with_reducible show wpAny _ _ (exec (Stmt.While _ _ _ _) _) _ _ _)); (fail_if_success (with_reducible show wpAny _ _ (exec (Stmt.For _ _ _ _ _) _) _ _ _)); (fail_if_success (with_reducible show wpAny _ _ (execs (Stmt.For _ _ _ _ _ :: _) _) _ _ _)); (fail_if_success (with_reducible show wpAny _ _ (call (Value.ref _) _ _) _ _ _)); (fail_if_success (with_reducible show wpAny _ _ (pyIter _) _ _ _)); (first | ((with_reducible show wpAny _ _ (exec _ _) _ _ _); k_fold; (try (refine gen_toks ?_; intro tk9))) | (((with_reducible show wpAny _ _ (binaryOp Operator.Add (Value.str _ _) (Value.str _ _)) _ _ _); refine PyProof.Rows.add_str (hsz := ?hsz) ?_; (case hsz => (((try simp only [Str.length_append, len_open, len_shut, len_tab, len_blank, len_back, Int.toNat_natCast]); rw [sizeLine_eq]; omega))); intro _ _)) | (k_unfold; (try dsimp only)) | (walk1 <;> try dsimp only) | (dsimp only; walk1) | (leave1; walk_say "STEP leave1"; try dsimp only))))
  rename Fr h₀ _ _ _ => F3
  rename News h₀ _ _ _ => N3
  exact hret _ [] _ _ F3 N3 (by simp) ⟨rfl, rfl⟩
noncomputable def wsym (ws : List Int) (p : Nat) : Int := if (ws.filter (fun x => x == (p : Int))).length = 0 then 255 - 50 * (p : Int) else 255 + ((ws.filter (fun x => x == (p : Int))).length : Int)
noncomputable def wordTo (ws : List Int) (k : Nat) : List Int := (List.range k).map (wsym ws)
theorem wordTo_succ (ws : List Int) (k : Nat) : wordTo ws (k + 1) = wordTo ws k ++ [wsym ws k] := by simp [wordTo, List.range_succ]
noncomputable abbrev TJ (wd ce l : Addr) (vs : List Value) (n : Nat) (news : Led) (xs : List Int) (m₀ : Str → Option Value) (i : Nat) (m : Str → Option Value) (nx : Led) : Prop :=
  ∃ (wv : List Value) (wn : Nat) (oc : Obj) (cv : Option Value), nx = (wd, listOf wv.toArray wn) :: (ce, oc) :: (l, listOf vs.toArray n) :: news ∧ IntsAre wv (wordTo xs i) ∧ oc.data = .cell cv ∧ ∀ z, z ≠ Str.ofString "parts" → m z = m₀ z
theorem pin_parts {h₀ h : Heap} {L : Addr} {m m₀ : Str → Option Value} (F : Fr h₀ L h m) (hm : ∀ z, z ≠ Str.ofString "parts" → m z = m₀ z) : Fr h₀ L h (fun z => if z = Str.ofString "parts" then m z else m₀ z) := by
  have e : (fun z => if z = Str.ofString "parts" then m z else m₀ z) = m := by
    funext z
    by_cases hz : z = Str.ofString "parts"
    · rw [if_pos hz]
    · rw [if_neg hz, hm z hz]
  rw [e]; exact F
structure WS where
  w : Int
  t : Tok
noncomputable def treeF : Int → List Int → Option Bool
  | _, [] => none
  | w, s :: r => if s = 0 then some (decide (w = 0)) else if w = 0 then some false else treeF (if 256 ≤ s then w - 1 + s - 255 else w - 1) r
noncomputable def treeV (o : Option Bool) : Value := match o with | some b => .bool b | none => .none
theorem tree_end {h₀ h' : Heap} {L wd ce l : Addr} {vs wv : List Value} {n wn tk i : Nat} {news own : Led} {xs : List Int} {m₀ m' : Str → Option Value} {gs gs0 : Array GenState} {oc : Obj} {cv : Option Value} {s₁ : Shared}
    (F : Fr h₀ L h' m') (N : News h₀ L h' ((wd, listOf wv.toArray wn) :: (ce, oc) :: (l, listOf vs.toArray n) :: (news ++ own))) (hg : gs = gs0) (hw : IntsAre wv (wordTo xs (i + 1))) (hoc : oc.data = .cell cv) (hm : ∀ z, z ≠ Str.ofString "parts" → m' z = m₀ z) (ha : OwnOff own (wd :: ce :: l :: news.map (·.1))) :
    MyEnd h₀ L (fun g => g = gs0) (TJ wd ce l vs n news xs m₀ (i + 1)) own s₁ { s₁ with heap := h', toks := tk, gens := gs } :=
  MyEnd.intro ((wd, listOf wv.toArray wn) :: (ce, oc) :: (l, listOf vs.toArray n) :: news) F N hg (fun p hp => List.mem_append_left own hp) (fun p hp => List.mem_append_right ((wd, listOf wv.toArray wn) :: (ce, oc) :: (l, listOf vs.toArray n) :: news) hp) ha ⟨wv, wn, oc, cv, rfl, hw, hoc, hm⟩
theorem both_no (x : Int) : (decide (x < 256) == decide (256 ≤ x)) = false := by
  by_cases h : x < 256
  · have : ¬ 256 ≤ x := by omega
    simp [h, this]
  · have : 256 ≤ x := by omega
    simp [h, this]
theorem tree_says (w mean mg mb) (l : Addr) (vs : List Value) (n : Nat) (xs : List Int) (hi : IntsAre vs xs) (hn : xs.length < 6) :
    Says 20 200 w mean mg mb 171 [.ref l] [(l, listOf vs.toArray n)] (fun new v => new = [] ∧ v = treeV (treeF 1 (wordTo xs (xs.length + 1) ++ [0]))) := by
  w_on
  unfold Says
  k_fill
  intro dp un gd cn cs a ccd cl outer A₀ base h₀ L m news s Q E B F X N T hk hneed hd hu hret
  have N0 := need_on N hneed
  clear N
  simp only [List.cons_append, List.nil_append] at N0
  refine wpAny_call ?_
  ((k_dflt (refine' code_defC ?k1 ?k2 ?k3 ?k4 ?k5 ?kA ?kF ?kK ?k6 ?k7 ?k8 ?k9 ?kB ?kD ?_ ?c2 ?c3 ?c4; (case kA => exact rfl); (case kF => exact rfl); (case kK => first | exact rfl | assumption); (case k1 => k_asm); (case k2 => k_asm); (case k3 => k_asm); (case k4 => k_asm); (case k5 => k_asm); (case k6 => k_is); (case k7 => k_is); (case k8 => ktr_room); (case k9 => exact BindsTo.of_eq rfl); (case kB => exact rfl); (case kD => decide +kernel); (case c2 => exact rfl); (case c3 => exact rfl); (case c4 => exact rfl); k_whole; intro g' L' h' tk' cells' FG' F' N' Y' B' X' T' l1; (try k_lt l1); k_cells Y'; (try simp only [List.cons_append, List.nil_append] at N'); (try dsimp only); (try k_lift B'); (try k_fold); (try (refine gen_toks ?_; intro tk9)))))
  (repeat' ((fail_if_success (with_reducible show wpAny _ _ (exec (Stmt.While _ _ _ _) _) _ _ _)); (fail_if_success (with_reducible show wpAny _ _ (exec (Stmt.For _ _ _ _ _) _) _ _ _)); (fail_if_success (with_reducible show wpAny _ _ (execs (Stmt.For _ _ _ _ _ :: _) _) _ _ _)); (fail_if_success (with_reducible show wpAny _ _ (call (Value.ref _) _ _) _ _ _)); (fail_if_success (with_reducible show wpAny _ _ (pyIter _) _ _ _)); (first | ((with_reducible show wpAny _ _ (exec _ _) _ _ _); k_fold; (try (refine gen_toks ?_; intro tk9))) | (((with_reducible show wpAny _ _ (binaryOp Operator.Add (Value.str _ _) (Value.str _ _)) _ _ _); refine PyProof.Rows.add_str (hsz := ?hsz) ?_; (case hsz => (((try simp only [Str.length_append, len_open, len_shut, len_tab, len_blank, len_back, Int.toNat_natCast]); rw [sizeLine_eq]; omega))); intro _ _)) | (k_unfold; (try dsimp only)) | (walk1 <;> try dsimp only) | (dsimp only; walk1) | (leave1; walk_say "STEP leave1"; try dsimp only))))
  refine wpAny_execs_cons ?_
  refine wpAny_For ?_ ?_
  case refine_2 => intro x; rfl
  (repeat' ((fail_if_success (with_reducible show wpAny _ _ (exec (Stmt.While _ _ _ _) _) _ _ _)); (fail_if_success (with_reducible show wpAny _ _ (exec (Stmt.For _ _ _ _ _) _) _ _ _)); (fail_if_success (with_reducible show wpAny _ _ (execs (Stmt.For _ _ _ _ _ :: _) _) _ _ _)); (fail_if_success (with_reducible show wpAny _ _ (call (Value.ref _) _ _) _ _ _)); (fail_if_success (with_reducible show wpAny _ _ (pyIter _) _ _ _)); (first | ((with_reducible show wpAny _ _ (exec _ _) _ _ _); k_fold; (try (refine gen_toks ?_; intro tk9))) | (((with_reducible show wpAny _ _ (binaryOp Operator.Add (Value.str _ _) (Value.str _ _)) _ _ _); refine PyProof.Rows.add_str (hsz := ?hsz) ?_; (case hsz => (((try simp only [Str.length_append, len_open, len_shut, len_tab, len_blank, len_back, Int.toNat_natCast]); rw [sizeLine_eq]; omega))); intro _ _)) | (k_unfold; (try dsimp only)) | (walk1 <;> try dsimp only) | (dsimp only; walk1) | (leave1; walk_say "STEP leave1"; try dsimp only))))
  rename Fr _ _ _ _ => F1
  rename News _ _ _ _ => N1
  rename IntsAre vs xs => hi
  rename Obj.data _ = _ => hd1
  rename _ ∧ _ ∧ AllLt _ news => lG
  rename _ ∧ AllLt _ news => lD
  obtain ⟨lG1, lG2, lG3⟩ := lG
  obtain ⟨lD1, lD2⟩ := lD
  have lC := allLt_succ lD2
  refine' my_forRange (n := xs.length + 1) (TJ _ _ l vs n news xs _) (fun gs => gs = s.gens) rfl (by assumption) ?hsm ?hrs F1 N1 rfl ⟨[], 0, _, _, rfl, .nil, hd1, fun _ _ => rfl⟩ ?hT ?turn ?done
  case hsm => exact small_one (by omega) (by omega) (by omega) (by omega)
  case hrs => rw [rangeSize_nat]; omega
  case hT => intro it v; rfl
  case done =>
    rintro m₁ nx h tk gs ⟨wv, wn, oc, cv, rfl, hwv, hoc, hm₁⟩ rfl F2 N2
    have F3 := pin_parts F2 hm₁
    clear F1 N1 F2
    (repeat' ((fail_if_success (with_reducible show wpAny _ _ (exec (Stmt.While _ _ _ _) _) _ _ _)); (fail_if_success (with_reducible show wpAny _ _ (exec (Stmt.For _ _ _ _ _) _) _ _ _)); (fail_if_success (with_reducible show wpAny _ _ (execs (Stmt.For _ _ _ _ _ :: _) _) _ _ _)); (fail_if_success (with_reducible show wpAny _ _ (call (Value.ref _) _ _) _ _ _)); (fail_if_success (with_reducible show wpAny _ _ (pyIter _) _ _ _)); (first | ((with_reducible show wpAny _ _ (exec _ _) _ _ _); k_fold; (try (refine gen_toks ?_; intro tk9))) | (((with_reducible show wpAny _ _ (binaryOp Operator.Add (Value.str _ _) (Value.str _ _)) _ _ _); refine PyProof.Rows.add_str (hsz := ?hsz) ?_; (case hsz => (((try simp only [Str.length_append, len_open, len_shut, len_tab, len_blank, len_back, Int.toNat_natCast]); rw [sizeLine_eq]; omega))); intro _ _)) | (k_unfold; (try dsimp only)) | (walk1 <;> try dsimp only) | (dsimp only; walk1) | (leave1; walk_say "STEP leave1"; try dsimp only))))
    refine wpAny_execs_cons ?_
    rename Fr _ _ _ _ => lF'
    with_unfolding_all refine' For_invVF lF' ?k1 ?k2 ?_
    case k1 => exact rfl
    case k2 => exact rfl
    (repeat' ((fail_if_success (with_reducible show wpAny _ _ (exec (Stmt.While _ _ _ _) _) _ _ _)); (fail_if_success (with_reducible show wpAny _ _ (exec (Stmt.For _ _ _ _ _) _) _ _ _)); (fail_if_success (with_reducible show wpAny _ _ (execs (Stmt.For _ _ _ _ _ :: _) _) _ _ _)); (fail_if_success (with_reducible show wpAny _ _ (call (Value.ref _) _ _) _ _ _)); (fail_if_success (with_reducible show wpAny _ _ (pyIter _) _ _ _)); (first | ((with_reducible show wpAny _ _ (exec _ _) _ _ _); k_fold; (try (refine gen_toks ?_; intro tk9))) | (((with_reducible show wpAny _ _ (binaryOp Operator.Add (Value.str _ _) (Value.str _ _)) _ _ _); refine PyProof.Rows.add_str (hsz := ?hsz) ?_; (case hsz => (((try simp only [Str.length_append, len_open, len_shut, len_tab, len_blank, len_back, Int.toNat_natCast]); rw [sizeLine_eq]; omega))); intro _ _)) | (k_unfold; (try dsimp only)) | (walk1 <;> try dsimp only) | (dsimp only; walk1) | (leave1; walk_say "STEP leave1"; try dsimp only))))
    refine' kmk_add_ints (ns := wordTo xs (xs.length + 1)) (ms := [0]) ?F ?N ?qa ?qb hwv ?qj ?_ ?qz
    case F => k_asm
    case N => k_asm
    case qa => kmk_list
    case qb => kmk_list
    case qj => exact .cons 0 _ .nil
    case qz => simp [wordTo, sizeLine_eq]; omega
    intro D us h' F4 N4 l1 hus
    (repeat' ((fail_if_success (with_reducible show wpAny _ _ (exec (Stmt.While _ _ _ _) _) _ _ _)); (fail_if_success (with_reducible show wpAny _ _ (exec (Stmt.For _ _ _ _ _) _) _ _ _)); (fail_if_success (with_reducible show wpAny _ _ (execs (Stmt.For _ _ _ _ _ :: _) _) _ _ _)); (fail_if_success (with_reducible show wpAny _ _ (call (Value.ref _) _ _) _ _ _)); (fail_if_success (with_reducible show wpAny _ _ (pyIter _) _ _ _)); (first | ((with_reducible show wpAny _ _ (exec _ _) _ _ _); k_fold; (try (refine gen_toks ?_; intro tk9))) | (((with_reducible show wpAny _ _ (binaryOp Operator.Add (Value.str _ _) (Value.str _ _)) _ _ _); refine PyProof.Rows.add_str (hsz := ?hsz) ?_; (case hsz => (((try simp only [Str.length_append, len_open, len_shut, len_tab, len_blank, len_back, Int.toNat_natCast]); rw [sizeLine_eq]; omega))); intro _ _)) | (k_unfold; (try dsimp only)) | (walk1 <;> try dsimp only) | (dsimp only; walk1) | (leave1; walk_say "STEP leave1"; try dsimp only))))
    rename Fr _ _ _ _ => F5
    rename News _ _ _ _ => N5
    refine' kst_listL (σ := WS) (nn := 0) (fun _ => _) (fun c => [(Str.ofString "wanted", .int c.w c.t)]) (fun _ => True) [] (fun pre c => ∀ post, wordTo xs (xs.length + 1) ++ [0] = pre ++ post → treeF 1 (wordTo xs (xs.length + 1) ++ [0]) = treeF c.w post) ⟨1, _⟩ rfl ?hl2 hus F5 N5 trivial ?hk2 ?hp2 ?turn2 ?done2
    case hk2 => with_unfolding_all kst_all
    case hl2 => exact fun c => .head _
    case hp2 =>
      intro post h
      rw [List.nil_append] at h
      subst h
      rfl
    case done2 =>
      intro c u h tk _ hp F6 N6
      clear F5 N5
      (repeat' ((fail_if_success (with_reducible show wpAny _ _ (exec (Stmt.While _ _ _ _) _) _ _ _)); (fail_if_success (with_reducible show wpAny _ _ (exec (Stmt.For _ _ _ _ _) _) _ _ _)); (fail_if_success (with_reducible show wpAny _ _ (execs (Stmt.For _ _ _ _ _ :: _) _) _ _ _)); (fail_if_success (with_reducible show wpAny _ _ (call (Value.ref _) _ _) _ _ _)); (fail_if_success (with_reducible show wpAny _ _ (pyIter _) _ _ _)); (first | ((with_reducible show wpAny _ _ (exec _ _) _ _ _); k_fold; (try (refine gen_toks ?_; intro tk9))) | (((with_reducible show wpAny _ _ (binaryOp Operator.Add (Value.str _ _) (Value.str _ _)) _ _ _); refine PyProof.Rows.add_str (hsz := ?hsz) ?_; (case hsz => (((try simp only [Str.length_append, len_open, len_shut, len_tab, len_blank, len_back, Int.toNat_natCast]); rw [sizeLine_eq]; omega))); intro _ _)) | (k_unfold; (try dsimp only)) | (walk1 <;> try dsimp only) | (dsimp only; walk1) | (leave1; walk_say "STEP leave1"; try dsimp only))))
      rename Fr h₀ _ _ _ => F3
      rename News h₀ _ _ _ => N3
      refine hret _ [] _ _ F3 (led_drop N3 fun p hp => by simp only [List.nil_append] at hp; simp [hp]) (by simp) ⟨rfl, ?_⟩
      rw [hp [] (by simp)]
      rfl
    case turn2 =>
      intro c pre post x t u h tk own hxs hmem hoff _ hp F6 N6
      clear F5 N5
      have hp0 := hp (x :: post) hxs
      simp only [List.cons_append] at N6
      (repeat' ((fail_if_success (with_reducible show wpAny _ _ (exec (Stmt.While _ _ _ _) _) _ _ _)); (fail_if_success (with_reducible show wpAny _ _ (exec (Stmt.For _ _ _ _ _) _) _ _ _)); (fail_if_success (with_reducible show wpAny _ _ (execs (Stmt.For _ _ _ _ _ :: _) _) _ _ _)); (fail_if_success (with_reducible show wpAny _ _ (call (Value.ref _) _ _) _ _ _)); (fail_if_success (with_reducible show wpAny _ _ (pyIter _) _ _ _)); (first | ((with_reducible show wpAny _ _ (exec _ _) _ _ _); k_fold; (try (refine gen_toks ?_; intro tk9))) | (((with_reducible show wpAny _ _ (binaryOp Operator.Add (Value.str _ _) (Value.str _ _)) _ _ _); refine PyProof.Rows.add_str (hsz := ?hsz) ?_; (case hsz => (((try simp only [Str.length_append, len_open, len_shut, len_tab, len_blank, len_back, Int.toNat_natCast]); rw [sizeLine_eq]; omega))); intro _ _)) | (k_unfold; (try dsimp only)) | (walk1 <;> try dsimp only) | (dsimp only; walk1) | (leave1; walk_say "STEP leave1"; try dsimp only))))
      refine' iseof_says w mean mg mb x _ _ _ _ _ _ _ _ _ _ _ _ _ _ _ _ _ _ _ ?k1 ?k2 ?k3 ?k4 ?k5 ?kK ?kn ?kd ?ku ?kR
      (((case k1 => k_asm); (case k2 => k_asm); (case k3 => k_asm); (case k4 => k_asm); (case k5 => k_asm); (case kK => first | exact rfl | assumption); (case kd => ktr_room); (case ku => ktr_units); (case kn => first | exact fun _ h => nomatch h | (simp only [List.forall_mem_cons, List.not_mem_nil, false_implies, implies_true, and_true]; (try refine ⟨?_, ?_⟩) <;> k_mem))))
      case kR =>
        rintro v new h9 tk9 F9 N9 - ⟨rfl, rfl⟩
        clear F6 N6
        simp only [List.nil_append] at N9
        (repeat' ((fail_if_success (with_reducible show wpAny _ _ (exec (Stmt.While _ _ _ _) _) _ _ _)); (fail_if_success (with_reducible show wpAny _ _ (exec (Stmt.For _ _ _ _ _) _) _ _ _)); (fail_if_success (with_reducible show wpAny _ _ (execs (Stmt.For _ _ _ _ _ :: _) _) _ _ _)); (fail_if_success (with_reducible show wpAny _ _ (call (Value.ref _) _ _) _ _ _)); (fail_if_success (with_reducible show wpAny _ _ (pyIter _) _ _ _)); (first | ((with_reducible show wpAny _ _ (exec _ _) _ _ _); k_fold; (try (refine gen_toks ?_; intro tk9))) | (((with_reducible show wpAny _ _ (binaryOp Operator.Add (Value.str _ _) (Value.str _ _)) _ _ _); refine PyProof.Rows.add_str (hsz := ?hsz) ?_; (case hsz => (((try simp only [Str.length_append, len_open, len_shut, len_tab, len_blank, len_back, Int.toNat_natCast]); rw [sizeLine_eq]; omega))); intro _ _)) | (k_unfold; (try dsimp only)) | (walk1 <;> try dsimp only) | (dsimp only; walk1) | (leave1; walk_say "STEP leave1"; try dsimp only))))
        · rename Fr h₀ _ _ _ => F3
          rename News h₀ _ _ _ => N3
          have hx : x = 0 := by first | assumption | exact of_decide_eq_true (by assumption)
          refine hret _ [] _ _ F3 (led_drop N3 fun p hp => by simp only [List.nil_append] at hp; simp [hp]) (by simp) ⟨rfl, ?_⟩
          rw [hp0, treeF, if_pos hx]
          rfl
        have hx' : ¬ x = 0 := by first | assumption | exact of_decide_eq_false (by assumption)
        rw [treeF, if_neg hx'] at hp0
        refine' isterm_says w mean mg mb x _ _ _ _ _ _ _ _ _ _ _ _ _ _ _ _ _ _ _ ?k1 ?k2 ?k3 ?k4 ?k5 ?kK ?kn ?kd ?ku ?kR
        (((case k1 => k_asm); (case k2 => k_asm); (case k3 => k_asm); (case k4 => k_asm); (case k5 => k_asm); (case kK => first | exact rfl | assumption); (case kd => ktr_room); (case ku => ktr_units); (case kn => first | exact fun _ h => nomatch h | (simp only [List.forall_mem_cons, List.not_mem_nil, false_implies, implies_true, and_true]; (try refine ⟨?_, ?_⟩) <;> k_mem))))
        case kR =>
        rintro v new h9 tk9 F9 N9 - ⟨rfl, rfl⟩
        simp only [List.nil_append] at N9
        (repeat' ((fail_if_success (with_reducible show wpAny _ _ (exec (Stmt.While _ _ _ _) _) _ _ _)); (fail_if_success (with_reducible show wpAny _ _ (exec (Stmt.For _ _ _ _ _) _) _ _ _)); (fail_if_success (with_reducible show wpAny _ _ (execs (Stmt.For _ _ _ _ _ :: _) _) _ _ _)); (fail_if_success (with_reducible show wpAny _ _ (call (Value.ref _) _ _) _ _ _)); (fail_if_success (with_reducible show wpAny _ _ (pyIter _) _ _ _)); (first | ((with_reducible show wpAny _ _ (exec _ _) _ _ _); k_fold; (try (refine gen_toks ?_; intro tk9))) | (((with_reducible show wpAny _ _ (binaryOp Operator.Add (Value.str _ _) (Value.str _ _)) _ _ _); refine PyProof.Rows.add_str (hsz := ?hsz) ?_; (case hsz => (((try simp only [Str.length_append, len_open, len_shut, len_tab, len_blank, len_back, Int.toNat_natCast]); rw [sizeLine_eq]; omega))); intro _ _)) | (k_unfold; (try dsimp only)) | (walk1 <;> try dsimp only) | (dsimp only; walk1) | (leave1; walk_say "STEP leave1"; try dsimp only))))
        refine' isnont_says w mean mg mb x _ _ _ _ _ _ _ _ _ _ _ _ _ _ _ _ _ _ _ ?k1 ?k2 ?k3 ?k4 ?k5 ?kK ?kn ?kd ?ku ?kR
        (((case k1 => k_asm); (case k2 => k_asm); (case k3 => k_asm); (case k4 => k_asm); (case k5 => k_asm); (case kK => first | exact rfl | assumption); (case kd => ktr_room); (case ku => ktr_units); (case kn => first | exact fun _ h => nomatch h | (simp only [List.forall_mem_cons, List.not_mem_nil, false_implies, implies_true, and_true]; (try refine ⟨?_, ?_⟩) <;> k_mem))))
        case kR =>
        rintro v new h9 tk9 F9 N9 - ⟨rfl, rfl⟩
        simp only [List.nil_append] at N9
        (repeat' ((fail_if_success (with_reducible show wpAny _ _ (exec (Stmt.While _ _ _ _) _) _ _ _)); (fail_if_success (with_reducible show wpAny _ _ (exec (Stmt.For _ _ _ _ _) _) _ _ _)); (fail_if_success (with_reducible show wpAny _ _ (execs (Stmt.For _ _ _ _ _ :: _) _) _ _ _)); (fail_if_success (with_reducible show wpAny _ _ (call (Value.ref _) _ _) _ _ _)); (fail_if_success (with_reducible show wpAny _ _ (pyIter _) _ _ _)); (first | ((with_reducible show wpAny _ _ (exec _ _) _ _ _); k_fold; (try (refine gen_toks ?_; intro tk9))) | (((with_reducible show wpAny _ _ (binaryOp Operator.Add (Value.str _ _) (Value.str _ _)) _ _ _); refine PyProof.Rows.add_str (hsz := ?hsz) ?_; (case hsz => (((try simp only [Str.length_append, len_open, len_shut, len_tab, len_blank, len_back, Int.toNat_natCast]); rw [sizeLine_eq]; omega))); intro _ _)) | (k_unfold; (try dsimp only)) | (walk1 <;> try dsimp only) | (dsimp only; walk1) | (leave1; walk_say "STEP leave1"; try dsimp only))))
        · have hno : (decide (x < 256) == decide (256 ≤ x)) = true := by assumption
          rw [both_no] at hno
          cases hno
        · have hw0 : c.w = 0 := by assumption
          rename Fr h₀ _ _ _ => F3
          rename News h₀ _ _ _ => N3
          refine hret _ [] _ _ F3 (led_drop N3 fun p hp => by simp only [List.nil_append] at hp; simp [hp]) (by simp) ⟨rfl, ?_⟩
          rw [hp0, if_pos hw0]
          rfl
        have hw0 : ¬ c.w = 0 := by assumption
        rw [if_neg hw0] at hp0
        refine' isnont_says w mean mg mb x _ _ _ _ _ _ _ _ _ _ _ _ _ _ _ _ _ _ _ ?k1 ?k2 ?k3 ?k4 ?k5 ?kK ?kn ?kd ?ku ?kR
        (((case k1 => k_asm); (case k2 => k_asm); (case k3 => k_asm); (case k4 => k_asm); (case k5 => k_asm); (case kK => first | exact rfl | assumption); (case kd => ktr_room); (case ku => ktr_units); (case kn => first | exact fun _ h => nomatch h | (simp only [List.forall_mem_cons, List.not_mem_nil, false_implies, implies_true, and_true]; (try refine ⟨?_, ?_⟩) <;> k_mem))))
        case kR =>
        rintro v new h9 tk9 F9 N9 - ⟨rfl, rfl⟩
        simp only [List.nil_append] at N9
        (repeat' ((fail_if_success (with_reducible show wpAny _ _ (exec (Stmt.While _ _ _ _) _) _ _ _)); (fail_if_success (with_reducible show wpAny _ _ (exec (Stmt.For _ _ _ _ _) _) _ _ _)); (fail_if_success (with_reducible show wpAny _ _ (execs (Stmt.For _ _ _ _ _ :: _) _) _ _ _)); (fail_if_success (with_reducible show wpAny _ _ (call (Value.ref _) _ _) _ _ _)); (fail_if_success (with_reducible show wpAny _ _ (pyIter _) _ _ _)); (first | ((with_reducible show wpAny _ _ (exec _ _) _ _ _); k_fold; (try (refine gen_toks ?_; intro tk9))) | (((with_reducible show wpAny _ _ (binaryOp Operator.Add (Value.str _ _) (Value.str _ _)) _ _ _); refine PyProof.Rows.add_str (hsz := ?hsz) ?_; (case hsz => (((try simp only [Str.length_append, len_open, len_shut, len_tab, len_blank, len_back, Int.toNat_natCast]); rw [sizeLine_eq]; omega))); intro _ _)) | (k_unfold; (try dsimp only)) | (walk1 <;> try dsimp only) | (dsimp only; walk1) | (leave1; walk_say "STEP leave1"; try dsimp only))))
        · have hc : 256 ≤ x := by first | assumption | exact of_decide_eq_true (by assumption) | exact of_decide_eq_false (by assumption)
          refine' kst_end (σ := WS) ⟨c.w - 1 + x - 255, _⟩ (by assumption) (by assumption) ?hn ?ho ?ha trivial ?hk ?hr ?hp
          case ha => rfl
          case hn => exact fun p hp => List.mem_append_left own hp
          case ho => exact fun p hp => List.mem_append_right (_ :: _ :: _ :: _ :: (l, listOf vs.toArray n) :: news) hp
          case hk => with_unfolding_all kst_all
          case hr => ((intro z h1 h2 h3; (try dsimp only at h1 h2 h3); (simp only [List.forall_mem_cons, List.not_mem_nil, false_implies, implies_true, and_true, ne_eq] at h2); (simp only [List.contains_cons, List.contains_nil, Bool.or_false, Bool.or_eq_false_iff, beq_eq_false_iff_ne, ne_eq] at h3); (simp [kstB, h1, h2, h3]; done)))
          case hp =>
            intro post' h'
            rw [hxs, List.append_assoc] at h'
            have hpp : post' = post := by simpa using (List.append_cancel_left h').symm
            rw [hp0, hpp, if_pos hc]
        · have hc : ¬ 256 ≤ x := by first | assumption | exact of_decide_eq_true (by assumption) | exact of_decide_eq_false (by assumption)
          refine' kst_end (σ := WS) ⟨c.w - 1, _⟩ (by assumption) (by assumption) ?hn ?ho ?ha trivial ?hk ?hr ?hp
          case ha => rfl
          case hn => exact fun p hp => List.mem_append_left own hp
          case ho => exact fun p hp => List.mem_append_right (_ :: _ :: _ :: _ :: (l, listOf vs.toArray n) :: news) hp
          case hk => with_unfolding_all kst_all
          case hr => ((intro z h1 h2 h3; (try dsimp only at h1 h2 h3); (simp only [List.forall_mem_cons, List.not_mem_nil, false_implies, implies_true, and_true, ne_eq] at h2); (simp only [List.contains_cons, List.contains_nil, Bool.or_false, Bool.or_eq_false_iff, beq_eq_false_iff_ne, ne_eq] at h3); (simp [kstB, h1, h2, h3]; done)))
          case hp =>
            intro post' h'
            rw [hxs, List.append_assoc] at h'
            have hpp : post' = post := by simpa using (List.append_cancel_left h').symm
            rw [hp0, hpp, if_neg hc]
  case turn =>
    rintro i t m₁ nx h tk gs own hin rfl hoff ⟨wv, wn, oc, cv, rfl, hwv, hoc, hm₁⟩ F2 N2
    have F3 := pin_parts F2 hm₁
    clear F1 N1 F2
    simp only [List.cons_append] at N2
    (repeat' ((fail_if_success (with_reducible show wpAny _ _ (exec (Stmt.While _ _ _ _) _) _ _ _)); (fail_if_success (with_reducible show wpAny _ _ (exec (Stmt.For _ _ _ _ _) _) _ _ _)); (fail_if_success (with_reducible show wpAny _ _ (execs (Stmt.For _ _ _ _ _ :: _) _) _ _ _)); (fail_if_success (with_reducible show wpAny _ _ (call (Value.ref _) _ _) _ _ _)); (fail_if_success (with_reducible show wpAny _ _ (pyIter _) _ _ _)); (first | ((with_reducible show wpAny _ _ (exec _ _) _ _ _); k_fold; (try (refine gen_toks ?_; intro tk9))) | (((with_reducible show wpAny _ _ (binaryOp Operator.Add (Value.str _ _) (Value.str _ _)) _ _ _); refine PyProof.Rows.add_str (hsz := ?hsz) ?_; (case hsz => (((try simp only [Str.length_append, len_open, len_shut, len_tab, len_blank, len_back, Int.toNat_natCast]); rw [sizeLine_eq]; omega))); intro _ _)) | (k_unfold; (try dsimp only)) | (walk1 <;> try dsimp only) | (dsimp only; walk1) | (leave1; walk_say "STEP leave1"; try dsimp only))))
    all_goals (try k_data)
    refine len_list_made (by assumption) (by assumption) ?hb ?_
    case hb =>
      simp only [List.length_map]
      exact Nat.le_trans (List.length_filter_le _ _) (by omega)
    simp only [List.length_map]
    have hwl : (wordTo xs i).length = i := by simp [wordTo]
    (repeat' ((fail_if_success (with_reducible show wpAny _ _ (exec (Stmt.While _ _ _ _) _) _ _ _)); (fail_if_success (with_reducible show wpAny _ _ (exec (Stmt.For _ _ _ _ _) _) _ _ _)); (fail_if_success (with_reducible show wpAny _ _ (execs (Stmt.For _ _ _ _ _ :: _) _) _ _ _)); (fail_if_success (with_reducible show wpAny _ _ (call (Value.ref _) _ _) _ _ _)); (fail_if_success (with_reducible show wpAny _ _ (pyIter _) _ _ _)); (first | ((with_reducible show wpAny _ _ (exec _ _) _ _ _); k_fold; (try (refine gen_toks ?_; intro tk9))) | (((with_reducible show wpAny _ _ (binaryOp Operator.Add (Value.str _ _) (Value.str _ _)) _ _ _); refine PyProof.Rows.add_str (hsz := ?hsz) ?_; (case hsz => (((try simp only [Str.length_append, len_open, len_shut, len_tab, len_blank, len_back, Int.toNat_natCast]); rw [sizeLine_eq]; omega))); intro _ _)) | (k_unfold; (try dsimp only)) | (walk1 <;> try dsimp only) | (dsimp only; walk1) | (leave1; walk_say "STEP leave1"; try dsimp only))))
    · refine' my_append ?F ?N hwv ?hb ?U ?_
      case F => k_asm
      case N => k_asm
      case hb => omega
      case U => k_upd
      intro h' F' N' hJ'
      (repeat' ((fail_if_success (with_reducible show wpAny _ _ (exec (Stmt.While _ _ _ _) _) _ _ _)); (fail_if_success (with_reducible show wpAny _ _ (exec (Stmt.For _ _ _ _ _) _) _ _ _)); (fail_if_success (with_reducible show wpAny _ _ (execs (Stmt.For _ _ _ _ _ :: _) _) _ _ _)); (fail_if_success (with_reducible show wpAny _ _ (call (Value.ref _) _ _) _ _ _)); (fail_if_success (with_reducible show wpAny _ _ (pyIter _) _ _ _)); (first | ((with_reducible show wpAny _ _ (exec _ _) _ _ _); k_fold; (try (refine gen_toks ?_; intro tk9))) | (((with_reducible show wpAny _ _ (binaryOp Operator.Add (Value.str _ _) (Value.str _ _)) _ _ _); refine PyProof.Rows.add_str (hsz := ?hsz) ?_; (case hsz => (((try simp only [Str.length_append, len_open, len_shut, len_tab, len_blank, len_back, Int.toNat_natCast]); rw [sizeLine_eq]; omega))); intro _ _)) | (k_unfold; (try dsimp only)) | (walk1 <;> try dsimp only) | (dsimp only; walk1) | (leave1; walk_say "STEP leave1"; try dsimp only))))
      refine tree_end F' N' rfl ?_ (by assumption) (by intro z hz; simp [hz]) hoff
      rw [wordTo_succ, wsym, if_pos (by omega)]
      exact hJ'
    · refine' my_append ?F ?N hwv ?hb ?U ?_
      case F => k_asm
      case N => k_asm
      case hb => omega
      case U => k_upd
      intro h' F' N' hJ'
      (repeat' ((fail_if_success (with_reducible show wpAny _ _ (exec (Stmt.While _ _ _ _) _) _ _ _)); (fail_if_success (with_reducible show wpAny _ _ (exec (Stmt.For _ _ _ _ _) _) _ _ _)); (fail_if_success (with_reducible show wpAny _ _ (execs (Stmt.For _ _ _ _ _ :: _) _) _ _ _)); (fail_if_success (with_reducible show wpAny _ _ (call (Value.ref _) _ _) _ _ _)); (fail_if_success (with_reducible show wpAny _ _ (pyIter _) _ _ _)); (first | ((with_reducible show wpAny _ _ (exec _ _) _ _ _); k_fold; (try (refine gen_toks ?_; intro tk9))) | (((with_reducible show wpAny _ _ (binaryOp Operator.Add (Value.str _ _) (Value.str _ _)) _ _ _); refine PyProof.Rows.add_str (hsz := ?hsz) ?_; (case hsz => (((try simp only [Str.length_append, len_open, len_shut, len_tab, len_blank, len_back, Int.toNat_natCast]); rw [sizeLine_eq]; omega))); intro _ _)) | (k_unfold; (try dsimp only)) | (walk1 <;> try dsimp only) | (dsimp only; walk1) | (leave1; walk_say "STEP leave1"; try dsimp only))))
      refine tree_end F' N' rfl ?_ (by assumption) (by intro z hz; simp [hz]) hoff
      rw [wordTo_succ, wsym, if_neg (by omega)]
      exact hJ'
structure WSt where
  n : Int
  nt : Int
  b : Int
  cnt : List Int
noncomputable def bump (cnt : List Int) (b : Int) : List Int :=
  let c := if (cnt.length : Int) ≤ b then cnt ++ (List.replicate (b - cnt.length + 1).toNat [0]).flatten else cnt
  c.set b.toNat (c.getD b.toNat 0 + 1)
noncomputable def wsStep (s : WSt) (c : Nat) : WSt := if c = 32 then ⟨s.n + 1, s.nt, s.b + 1, s.cnt⟩ else ⟨s.n + 1, s.nt + 1, 0, bump s.cnt s.b⟩
noncomputable def wsRun (cs : List Nat) : WSt := cs.foldl wsStep ⟨0, 0, 0, []⟩
theorem wsRun_snoc (cs : List Nat) (c : Nat) : wsRun (cs ++ [c]) = wsStep (wsRun cs) c := by simp [wsRun]
theorem bump_pos {cnt : List Int} {b : Int} (h : (cnt.length : Int) ≤ b) : bump cnt b = (cnt ++ (List.replicate (b - cnt.length + 1).toNat [0]).flatten).set b.toNat ((cnt ++ (List.replicate (b - cnt.length + 1).toNat [0]).flatten).getD b.toNat 0 + 1) := by
  unfold bump
  simp only [if_pos h]
theorem bump_neg {cnt : List Int} {b : Int} (h : ¬ (cnt.length : Int) ≤ b) : bump cnt b = cnt.set b.toNat (cnt.getD b.toNat 0 + 1) := by
  unfold bump
  simp only [if_neg h]
theorem rep_one (n : Nat) : (List.replicate n [(0 : Int)]).flatten = List.replicate n 0 := by
  induction n with
  | zero => rfl
  | succ n ih => rw [List.replicate_succ, List.flatten_cons, ih, List.replicate_succ]; rfl
theorem bump_len1 (a k : Nat) (h : a ≤ k) : a + ((k : Int) - (a : Int) + 1).toNat = max a ((k : Int).toNat + 1) := by
  obtain ⟨d, rfl⟩ := Nat.exists_eq_add_of_le h
  have e : ((a + d : Nat) : Int) - (a : Int) + 1 = ((d + 1 : Nat) : Int) := by
    rw [Int.natCast_add, Int.add_comm (a : Int), Int.add_sub_cancel]; rfl
  rw [e, Int.toNat_natCast, Int.toNat_natCast, Nat.max_eq_right (Nat.le_succ_of_le h)]
  rfl
theorem bump_length (c : List Int) (b : Int) (hb : 0 ≤ b) : (bump c b).length = max c.length (b.toNat + 1) := by
  obtain ⟨k, rfl⟩ := Int.eq_ofNat_of_zero_le hb
  unfold bump
  rw [List.length_set]
  by_cases h : (c.length : Int) ≤ (k : Int)
  · rw [if_pos h, rep_one, List.length_append, List.length_replicate]
    exact bump_len1 _ _ (Int.ofNat_le.mp h)
  · rw [if_neg h]
    exact (Nat.max_eq_left (Nat.not_le.mp fun q => h (Int.ofNat_le.mpr q))).symm
theorem wsRun_bnd (cs : List Nat) : 0 ≤ (wsRun cs).b ∧ (wsRun cs).b ≤ cs.length ∧ (wsRun cs).cnt.length ≤ cs.length + 1 := by
  have : ∀ (cs : List Nat) (s : WSt) (k : Nat), 0 ≤ s.b → s.b ≤ k → s.cnt.length ≤ k + 1 → 0 ≤ (cs.foldl wsStep s).b ∧ (cs.foldl wsStep s).b ≤ (k + cs.length : Nat) ∧ (cs.foldl wsStep s).cnt.length ≤ k + cs.length + 1 := by
    intro cs
    induction cs with
    | nil => intro s k h1 h2 h3; exact ⟨h1, h2, h3⟩
    | cons c r ih =>
      intro s k h1 h2 h3
      rw [List.foldl_cons, List.length_cons, Nat.add_comm r.length, ← Nat.add_assoc]
      unfold wsStep
      by_cases hc : c = 32
      · rw [if_pos hc]
        exact ih _ (k + 1) (Int.le_trans h1 (Int.le_add_one (Int.le_refl _))) (Int.add_le_add_right h2 1) (Nat.le_succ_of_le h3)
      · rw [if_neg hc]
        refine ih _ (k + 1) (Int.le_refl 0) (Int.natCast_nonneg _) ?_
        rw [bump_length _ _ h1]
        exact Nat.max_le.mpr ⟨Nat.le_succ_of_le h3, Nat.succ_le_succ (Nat.le_succ_of_le (Int.toNat_le.mpr h2))⟩
  have := this cs ⟨0, 0, 0, []⟩ 0 (Int.le_refl 0) (Int.le_refl 0) (Nat.zero_le _)
  rwa [Nat.zero_add] at this
theorem wsRun_bnd400 (x : Str) (hl : x.length < 400) (i : Nat) : 0 ≤ (wsRun (x.cps.toList.take i)).b ∧ (wsRun (x.cps.toList.take i)).b ≤ 400 ∧ (wsRun (x.cps.toList.take i)).cnt.length ≤ 401 := by
  have h := wsRun_bnd (x.cps.toList.take i)
  have hs : (x.cps.toList.take i).length ≤ 400 := Nat.le_trans (List.length_take_le' _ _) (Nat.le_of_lt hl)
  exact ⟨h.1, Int.le_trans h.2.1 (Int.ofNat_le.mpr hs), Nat.le_trans h.2.2 (Nat.succ_le_succ hs)⟩
noncomputable abbrev sN : Str := Str.ofString "n"
noncomputable abbrev sNt : Str := Str.ofString "nt"
noncomputable abbrev sB : Str := Str.ofString "b"
noncomputable abbrev sCnt : Str := Str.ofString "count"
noncomputable abbrev sCh : Str := Str.ofString "ch"
noncomputable abbrev WJ (D x d : Addr) (oD ox od : Obj) (news : Led) (xt : Str) (m₀ : Str → Option Value) (i : Nat) (m : Str → Option Value) (nx : Led) : Prop :=
  ∃ (ca : Addr) (cv : List Value) (cn : Nat) (t1 t2 t3 : Tok), nx = (ca, listOf cv.toArray cn) :: (D, oD) :: (x, ox) :: (d, od) :: news ∧ D < ca ∧ x < ca ∧ d < ca ∧ AllLt ca news ∧ IntsAre cv (wsRun (xt.cps.toList.take i)).cnt ∧
    m sN = some (.int (wsRun (xt.cps.toList.take i)).n t1) ∧ m sNt = some (.int (wsRun (xt.cps.toList.take i)).nt t2) ∧ m sB = some (.int (wsRun (xt.cps.toList.take i)).b t3) ∧ m sCnt = some (.ref ca) ∧
    ∀ z, z ≠ sN → z ≠ sNt → z ≠ sB → z ≠ sCnt → z ≠ sCh → m z = m₀ z
theorem pin_ws {h₀ h : Heap} {L : Addr} {m m₀ : Str → Option Value} {v1 v2 v3 v4 : Value} (F : Fr h₀ L h m) (h1 : m sN = some v1) (h2 : m sNt = some v2) (h3 : m sB = some v3) (h4 : m sCnt = some v4) (hm : ∀ z, z ≠ sN → z ≠ sNt → z ≠ sB → z ≠ sCnt → z ≠ sCh → m z = m₀ z) :
    Fr h₀ L h (fun z => if z = sN then some v1 else if z = sNt then some v2 else if z = sB then some v3 else if z = sCnt then some v4 else if z = sCh then m z else m₀ z) := by
  have e : (fun z => if z = sN then some v1 else if z = sNt then some v2 else if z = sB then some v3 else if z = sCnt then some v4 else if z = sCh then m z else m₀ z) = m := by
    funext z
    by_cases z1 : z = sN
    · rw [if_pos z1, z1, h1]
    rw [if_neg z1]
    by_cases z2 : z = sNt
    · rw [if_pos z2, z2, h2]
    rw [if_neg z2]
    by_cases z3 : z = sB
    · rw [if_pos z3, z3, h3]
    rw [if_neg z3]
    by_cases z4 : z = sCnt
    · rw [if_pos z4, z4, h4]
    rw [if_neg z4]
    by_cases z5 : z = sCh
    · rw [if_pos z5]
    rw [if_neg z5, hm z z1 z2 z3 z4 z5]
  rw [e]; exact F
theorem wsRun_take {l : List Nat} {i c : Nat} (h : l[i]? = some c) : wsRun (l.take (i + 1)) = wsStep (wsRun (l.take i)) c := by
  rw [List.take_add_one, h]
  exact wsRun_snoc _ _
theorem drop3 {h₀ h : Heap} {L : Addr} {p a b c : Addr × Obj} {r : Led} (N : News h₀ L h (p :: a :: b :: c :: r)) : News h₀ L h (p :: r) := by
  refine led_drop N fun q hq => ?_
  simp only [List.mem_cons] at hq ⊢
  rcases hq with hq | hq
  · exact .inl hq
  · exact .inr (.inr (.inr (.inr hq)))
theorem allLt_app {d : Nat} : ∀ {a b : Led}, AllLt d (a ++ b) → AllLt d a ∧ AllLt d b
  | [], _, h => ⟨trivial, h⟩
  | _ :: _, _, h => ⟨⟨h.1, (allLt_app h.2).1⟩, (allLt_app h.2).2⟩
theorem off_new {own : Led} {d ca : Addr} {r : List Addr} (h : OwnOff own (ca :: r)) (hd : AllLt d own) : OwnOff own (d :: r) := by
  intro p hp b hb
  rcases List.mem_cons.mp hb with rfl | hb
  · exact allNe hd p hp
  · exact h p hp b (.tail _ hb)
theorem ws_end {h₀ h' : Heap} {L D x d ca : Addr} {oD ox od : Obj} {cv : List Value} {cn tk i : Nat} {t1 t2 t3 : Tok} {news own : Led} {xt : Str} {m₀ m' : Str → Option Value} {gs gs0 : Array GenState} {s₁ : Shared} {st : WSt} (hst : wsRun (xt.cps.toList.take (i + 1)) = st)
    (F : Fr h₀ L h' m') (N : News h₀ L h' ((ca, listOf cv.toArray cn) :: (D, oD) :: (x, ox) :: (d, od) :: (news ++ own))) (hg : gs = gs0) (l1 : D < ca) (l2 : x < ca) (l3 : d < ca) (l4 : AllLt ca news) (hcv : IntsAre cv st.cnt)
    (m1 : m' sN = some (.int st.n t1)) (m2 : m' sNt = some (.int st.nt t2)) (m3 : m' sB = some (.int st.b t3)) (m4 : m' sCnt = some (.ref ca)) (hm : ∀ z, z ≠ sN → z ≠ sNt → z ≠ sB → z ≠ sCnt → z ≠ sCh → m' z = m₀ z) (ha : OwnOff own (ca :: D :: x :: d :: news.map (·.1))) :
    MyEnd h₀ L (fun g => g = gs0) (WJ D x d oD ox od news xt m₀ (i + 1)) own s₁ { s₁ with heap := h', toks := tk, gens := gs } :=
  MyEnd.intro ((ca, listOf cv.toArray cn) :: (D, oD) :: (x, ox) :: (d, od) :: news) F N hg (fun p hp => List.mem_append_left own hp) (fun p hp => List.mem_append_right ((ca, listOf cv.toArray cn) :: (D, oD) :: (x, ox) :: (d, od) :: news) hp) ha
    ⟨ca, cv, cn, t1, t2, t3, rfl, l1, l2, l3, l4, by rw [hst]; exact hcv, by rw [hst]; exact m1, by rw [hst]; exact m2, by rw [hst]; exact m3, m4, hm⟩
noncomputable abbrev tupObj (vs : List Value) : Obj := { cls := .type "tuple", data := .seq vs.toArray }
noncomputable abbrev wsEs (w : World) (x : Str) (st : WSt) (no : Addr) (tx k1 k2 k3 k4 k5 t2 t3 : Tok) : List DictEntry :=
  [⟨PyData.keyHash w.params (Str.ofString "raw"), .str (Str.ofString "raw") k1, .str x tx⟩,
   ⟨PyData.keyHash w.params (Str.ofString "n"), .str (Str.ofString "n") k2, .int st.n t2⟩,
   ⟨PyData.keyHash w.params (Str.ofString "nt"), .str (Str.ofString "nt") k3, .int st.nt t3⟩,
   ⟨PyData.keyHash w.params (Str.ofString "norm"), .str (Str.ofString "norm") k4, .ref no⟩,
   ⟨PyData.keyHash w.params (Str.ofString "is_simple"), .str (Str.ofString "is_simple") k5, .bool (decide ((st.cnt.length : Int) ≤ 1))⟩]
noncomputable abbrev wsLed (w : World) (x : Str) (st : WSt) (ia dx no tc : Addr) (cv : List Value) (tx k1 k2 k3 k4 k5 t2 t3 tb : Tok) : Led :=
  [(no, tupObj [.ref tc, .int st.b tb]), (tc, tupObj cv), (ia, instObj 113 dx), (dx, dictOf (wsEs w x st no tx k1 k2 k3 k4 k5 t2 t3) 5)]
noncomputable def IsWs (w : World) (x : Str) (st : WSt) (v : Value) (new : Led) : Prop :=
  ∃ (ia dx no tc : Addr) (cv : List Value) (tx k1 k2 k3 k4 k5 t2 t3 tb : Tok), v = .ref ia ∧ new = wsLed w x st ia dx no tc cv tx k1 k2 k3 k4 k5 t2 t3 tb ∧ IntsAre cv st.cnt
theorem ws_news {h₀ h : Heap} {L : Addr} {news : Led} {p1 p2 p3 p4 p5 p6 : Addr × Obj} (N : News h₀ L h (p1 :: p2 :: p3 :: p4 :: p5 :: p6 :: news)) : News h₀ L h ([p1, p2, p5, p6] ++ news) := by
  refine led_drop N fun p hp => ?_
  simp only [List.cons_append, List.nil_append, List.mem_cons] at hp ⊢
  rcases hp with hp | hp | hp | hp | hp
  · exact .inl hp
  · exact .inr (.inl hp)
  · exact .inr (.inr (.inr (.inr (.inl hp))))
  · exact .inr (.inr (.inr (.inr (.inr (.inl hp)))))
  · exact .inr (.inr (.inr (.inr (.inr (.inr hp)))))
theorem ws_says (w mean mg mb) (x : Str) (tx : Tok) (hx : ∀ c ∈ x.cps.toList, c = 32 ∨ c = 9) (hl : x.length < 400) :
    Says 20 200 w mean mg mb 113 [.str x tx] [] (fun new v => IsWs w x (wsRun x.cps.toList) v new) := by
  w_on
  unfold Says
  k_fill
  intro dp un gd cn cs a ccd cl outer A₀ base h₀ L m news s Q E B F X N T hk hneed hd hu hret
  ((k_dflt (refine' call_cls ?k1 ?k2 ?k3 ?k4 ?k5 ?k6 ?_; (case k1 => k_asm); (case k2 => k_asm); (case k3 => k_asm); (case k4 => k_is); (case k5 => k_is); (case k6 => k_is); k_whole; intro x' d' h' F' N' l1 l2; (try k_lt l1); (try k_lt2 l2); (try k_sweep))))
  rename _ < _ => ldx
  ((k_dflt (refine' code_def ?k1 ?k2 ?k3 ?k4 ?k5 ?kA ?kF ?kK ?k6 ?k7 ?k8 ?k9 ?kB ?_ ?c2 ?c3 ?c4 ?c5; (case kA => exact rfl); (case kF => exact rfl); (case kK => first | exact rfl | assumption); (case k1 => k_asm); (case k2 => k_asm); (case k3 => k_asm); (case k4 => k_asm); (case k5 => k_asm); (case k6 => k_is); (case k7 => k_is); (case k8 => ktr_room); (case k9 => first | exact BindsTo.of_eq rfl | (refine' kp_binds ?kx ?ke; (case kx => k_in); (case ke => exact fun _ => rfl)) | exact binds_K (by k_in) rfl (by k_is) rfl rfl rfl | fail "enter: no rule for these arguments"); (case c5 => decide); (case kB => exact locs rfl); (case c2 => exact rfl); (case c3 => exact rfl); (case c4 => exact rfl); k_whole; intro g' L' h' FG' F' N' B' X' T'; (try dsimp only); (try k_lift B'); (try k_fold); (try (refine gen_toks ?_; intro tk9)))))
  rename Fr _ _ _ _ => F0
  replace F0 := lookN (l' := [(Str.ofString "ws", _), (Str.ofString "self", _)]) rfl F0
  (repeat' ((fail_if_success (with_reducible show wpAny _ _ (exec (Stmt.While _ _ _ _) _) _ _ _)); (fail_if_success (with_reducible show wpAny _ _ (exec (Stmt.For _ _ _ _ _) _) _ _ _)); (fail_if_success (with_reducible show wpAny _ _ (execs (Stmt.For _ _ _ _ _ :: _) _) _ _ _)); (fail_if_success (with_reducible show wpAny _ _ (call (Value.ref _) _ _) _ _ _)); (fail_if_success (with_reducible show wpAny _ _ (pyIter _) _ _ _)); (fail_if_success (with_reducible show wpAny _ _ (call (Value.type "tuple") [Value.ref _] _) _ _ _)); (first | ((with_reducible show wpAny _ _ (exec _ _) _ _ _); k_fold; (try (refine gen_toks ?_; intro tk9))) | (((with_reducible show wpAny _ _ (binaryOp Operator.Add (Value.str _ _) (Value.str _ _)) _ _ _); refine PyProof.Rows.add_str (hsz := ?hsz) ?_; (case hsz => (((try simp only [Str.length_append, len_open, len_shut, len_tab, len_blank, len_back, Int.toNat_natCast]); rw [sizeLine_eq]; omega))); intro _ _)) | (k_unfold; (try dsimp only)) | (walk1 <;> try dsimp only) | (dsimp only; walk1) | (leave1; walk_say "STEP leave1"; try dsimp only))))
  rename ∀ p ∈ news, p.1 < _ => lDd
  have lDd := allLt_of lDd
  rename _ ∧ _ ∧ _ ∧ AllLt _ news => lG
  rename _ ∧ _ ∧ AllLt _ news => lD
  obtain ⟨lG1, lG2, lG3, lG4⟩ := lG
  obtain ⟨lD1, lD2, lD3⟩ := lD
  refine wpAny_execs_cons ?_
  refine wpAny_For ?_ ?_
  case refine_2 => intro x; rfl
  (repeat' ((fail_if_success (with_reducible show wpAny _ _ (exec (Stmt.While _ _ _ _) _) _ _ _)); (fail_if_success (with_reducible show wpAny _ _ (exec (Stmt.For _ _ _ _ _) _) _ _ _)); (fail_if_success (with_reducible show wpAny _ _ (execs (Stmt.For _ _ _ _ _ :: _) _) _ _ _)); (fail_if_success (with_reducible show wpAny _ _ (call (Value.ref _) _ _) _ _ _)); (fail_if_success (with_reducible show wpAny _ _ (pyIter _) _ _ _)); (fail_if_success (with_reducible show wpAny _ _ (call (Value.type "tuple") [Value.ref _] _) _ _ _)); (first | ((with_reducible show wpAny _ _ (exec _ _) _ _ _); k_fold; (try (refine gen_toks ?_; intro tk9))) | (((with_reducible show wpAny _ _ (binaryOp Operator.Add (Value.str _ _) (Value.str _ _)) _ _ _); refine PyProof.Rows.add_str (hsz := ?hsz) ?_; (case hsz => (((try simp only [Str.length_append, len_open, len_shut, len_tab, len_blank, len_back, Int.toNat_natCast]); rw [sizeLine_eq]; omega))); intro _ _)) | (k_unfold; (try dsimp only)) | (walk1 <;> try dsimp only) | (dsimp only; walk1) | (leave1; walk_say "STEP leave1"; try dsimp only))))
  rename Fr _ _ _ _ => F1
  rename News _ _ _ _ => N1
  refine' my_forText (WJ _ _ _ _ _ _ news x _) (fun gs => gs = s.gens) rfl F1 N1 rfl ⟨_, [], _, _, _, _, rfl, lG1, lG2, lG3, lG4, .nil, rfl, rfl, rfl, rfl, fun _ _ _ _ _ _ => rfl⟩ ?hT ?turn ?done
  case hT => intro it v; rfl
  case done =>
    rintro m₁ nx h tk gs ⟨ca, cv, cn, t1, t2, t3, rfl, l1, l2, l3, l4, hcv, m1, m2, m3, m4, hm₁⟩ rfl F2 N2
    have F3 := pin_ws F2 m1 m2 m3 m4 hm₁
    replace l1 := ltN l1
    replace l2 := ltN l2
    replace l3 := ltN l3
    clear F1 N1 F2
    obtain ⟨hb1, hb2, hb3⟩ := wsRun_bnd400 x hl x.cps.size
    have ht : x.cps.toList.take x.cps.size = x.cps.toList := List.take_of_length_le (by simp)
    simp only [ht] at hcv hb1 hb2 hb3 F3
    have hc3 := hcv.length
    (repeat' ((fail_if_success (with_reducible show wpAny _ _ (exec (Stmt.While _ _ _ _) _) _ _ _)); (fail_if_success (with_reducible show wpAny _ _ (exec (Stmt.For _ _ _ _ _) _) _ _ _)); (fail_if_success (with_reducible show wpAny _ _ (execs (Stmt.For _ _ _ _ _ :: _) _) _ _ _)); (fail_if_success (with_reducible show wpAny _ _ (call (Value.ref _) _ _) _ _ _)); (fail_if_success (with_reducible show wpAny _ _ (pyIter _) _ _ _)); (fail_if_success (with_reducible show wpAny _ _ (call (Value.type "tuple") [Value.ref _] _) _ _ _)); (first | ((with_reducible show wpAny _ _ (exec _ _) _ _ _); k_fold; (try (refine gen_toks ?_; intro tk9))) | (((with_reducible show wpAny _ _ (binaryOp Operator.Add (Value.str _ _) (Value.str _ _)) _ _ _); refine PyProof.Rows.add_str (hsz := ?hsz) ?_; (case hsz => (((try simp only [Str.length_append, len_open, len_shut, len_tab, len_blank, len_back, Int.toNat_natCast]); rw [sizeLine_eq]; omega))); intro _ _)) | (k_unfold; (try dsimp only)) | (walk1 <;> try dsimp only) | (dsimp only; walk1) | (leave1; walk_say "STEP leave1"; try dsimp only))))
    refine' kde_tupleOf (zs := cv) ?F ?N ?hl ?hz ?he ?_
    case F => k_asm
    case N => k_asm
    case hl => exact News.isList (by k_asm) (by k_mem)
    case hz => rw [List.size_toArray]; omega
    case he => simp
    intro D h' F' N' l5
    have l5 := allLt_of l5
    simp only [AllLt] at l5
    (repeat' ((fail_if_success (with_reducible show wpAny _ _ (exec (Stmt.While _ _ _ _) _) _ _ _)); (fail_if_success (with_reducible show wpAny _ _ (exec (Stmt.For _ _ _ _ _) _) _ _ _)); (fail_if_success (with_reducible show wpAny _ _ (execs (Stmt.For _ _ _ _ _ :: _) _) _ _ _)); (fail_if_success (with_reducible show wpAny _ _ (call (Value.ref _) _ _) _ _ _)); (fail_if_success (with_reducible show wpAny _ _ (pyIter _) _ _ _)); (fail_if_success (with_reducible show wpAny _ _ (call (Value.type "tuple") [Value.ref _] _) _ _ _)); (first | ((with_reducible show wpAny _ _ (exec _ _) _ _ _); k_fold; (try (refine gen_toks ?_; intro tk9))) | (((with_reducible show wpAny _ _ (binaryOp Operator.Add (Value.str _ _) (Value.str _ _)) _ _ _); refine PyProof.Rows.add_str (hsz := ?hsz) ?_; (case hsz => (((try simp only [Str.length_append, len_open, len_shut, len_tab, len_blank, len_back, Int.toNat_natCast]); rw [sizeLine_eq]; omega))); intro _ _)) | (k_unfold; (try dsimp only)) | (walk1 <;> try dsimp only) | (dsimp only; walk1) | (leave1; walk_say "STEP leave1"; try dsimp only))))
    rename Fr h₀ _ _ _ => F5
    rename News h₀ _ _ _ => N5
    refine hret _ _ _ _ F5 (ws_news N5) ?_ ⟨_, _, _, _, cv, _, _, _, _, _, _, _, _, _, rfl, rfl, hcv⟩
    rename _ ∧ _ ∧ _ ∧ _ ∧ _ ∧ AllLt _ news => l6
    have hd5 := l5.2.2.2.2
    have hd6 := l6.2.2.2.2.2
    have hd7 := allLt_le (Nat.le_of_lt ldx) lDd
    intro q hq p hp
    simp only [List.mem_cons, List.not_mem_nil, or_false] at hp
    rcases hp with rfl | rfl | rfl | rfl
    · exact kst_ltOf hd6 q hq
    · exact kst_ltOf hd5 q hq
    · exact kst_ltOf hd7 q hq
    · exact kst_ltOf lDd q hq
  case turn =>
    rintro i c t m₁ nx h tk gs own hin rfl hoff ⟨ca, cv, cn, t1, t2, t3, rfl, l1, l2, l3, l4, hcv, m1, m2, m3, m4, hm₁⟩ F2 N2
    have F3 := pin_ws F2 m1 m2 m3 m4 hm₁
    replace l1 := ltN l1
    replace l2 := ltN l2
    replace l3 := ltN l3
    obtain ⟨hb1, hb2, hb3⟩ := wsRun_bnd400 x hl i
    have hc3 := hcv.length
    clear F1 N1 F2
    simp only [List.cons_append] at N2
    have hq := wsRun_take hin
    rcases hx c (List.mem_of_getElem? hin) with rfl | rfl
    · (repeat' ((fail_if_success (with_reducible show wpAny _ _ (exec (Stmt.While _ _ _ _) _) _ _ _)); (fail_if_success (with_reducible show wpAny _ _ (exec (Stmt.For _ _ _ _ _) _) _ _ _)); (fail_if_success (with_reducible show wpAny _ _ (execs (Stmt.For _ _ _ _ _ :: _) _) _ _ _)); (fail_if_success (with_reducible show wpAny _ _ (call (Value.ref _) _ _) _ _ _)); (fail_if_success (with_reducible show wpAny _ _ (pyIter _) _ _ _)); (fail_if_success (with_reducible show wpAny _ _ (call (Value.type "tuple") [Value.ref _] _) _ _ _)); (first | ((with_reducible show wpAny _ _ (exec _ _) _ _ _); k_fold; (try (refine gen_toks ?_; intro tk9))) | (((with_reducible show wpAny _ _ (binaryOp Operator.Add (Value.str _ _) (Value.str _ _)) _ _ _); refine PyProof.Rows.add_str (hsz := ?hsz) ?_; (case hsz => (((try simp only [Str.length_append, len_open, len_shut, len_tab, len_blank, len_back, Int.toNat_natCast]); rw [sizeLine_eq]; omega))); intro _ _)) | (k_unfold; (try dsimp only)) | (walk1 <;> try dsimp only) | (dsimp only; walk1) | (leave1; walk_say "STEP leave1"; try dsimp only))))
      rename Fr _ _ _ _ => F9
      rename News _ _ _ _ => N9
      exact ws_end (hq.trans rfl) F9 N9 rfl l1 l2 l3 l4 hcv rfl rfl rfl rfl (by intro z z1 z2 z3 z4 z5; simp [z1, z2, z3, z4, z5]) hoff
    · (repeat' ((fail_if_success (with_reducible show wpAny _ _ (exec (Stmt.While _ _ _ _) _) _ _ _)); (fail_if_success (with_reducible show wpAny _ _ (exec (Stmt.For _ _ _ _ _) _) _ _ _)); (fail_if_success (with_reducible show wpAny _ _ (execs (Stmt.For _ _ _ _ _ :: _) _) _ _ _)); (fail_if_success (with_reducible show wpAny _ _ (call (Value.ref _) _ _) _ _ _)); (fail_if_success (with_reducible show wpAny _ _ (pyIter _) _ _ _)); (fail_if_success (with_reducible show wpAny _ _ (call (Value.type "tuple") [Value.ref _] _) _ _ _)); (first | ((with_reducible show wpAny _ _ (exec _ _) _ _ _); k_fold; (try (refine gen_toks ?_; intro tk9))) | (((with_reducible show wpAny _ _ (binaryOp Operator.Add (Value.str _ _) (Value.str _ _)) _ _ _); refine PyProof.Rows.add_str (hsz := ?hsz) ?_; (case hsz => (((try simp only [Str.length_append, len_open, len_shut, len_tab, len_blank, len_back, Int.toNat_natCast]); rw [sizeLine_eq]; omega))); intro _ _)) | (k_unfold; (try dsimp only)) | (walk1 <;> try dsimp only) | (dsimp only; walk1) | (leave1; walk_say "STEP leave1"; try dsimp only))))
      · rename Fr _ _ _ _ => F9
        rename News _ _ _ _ => N9
        rename _ ∧ _ ∧ _ ∧ _ ∧ _ ∧ _ ∧ AllLt _ (news ++ own) => l6
        have l7 := allLt_app l6.2.2.2.2.2.2
        rename IntsAre _ _ => hset
        have hle : ((wsRun (List.take i x.cps.toList)).cnt.length : Int) ≤ (wsRun (List.take i x.cps.toList)).b := by assumption
        refine ws_end (st := ⟨_, _, 0, bump _ _⟩) (hq.trans (by rw [wsStep, if_neg (by decide)])) F9 (drop3 N9) rfl l6.2.2.2.1 l6.2.2.2.2.1 l6.2.2.2.2.2.1 l7.1 ?_ rfl rfl rfl rfl (by intro z z1 z2 z3 z4 z5; simp [z1, z2, z3, z4, z5]) (off_new hoff l7.2)
        rw [bump_pos hle]
        exact hset
      · rename Fr _ _ _ _ => F9
        rename News _ _ _ _ => N9
        rename IntsAre _ _ => hset
        have hle : ¬ ((wsRun (List.take i x.cps.toList)).cnt.length : Int) ≤ (wsRun (List.take i x.cps.toList)).b := by assumption
        refine ws_end (st := ⟨_, _, 0, bump _ _⟩) (hq.trans (by rw [wsStep, if_neg (by decide)])) F9 N9 rfl l1 l2 l3 l4 ?_ rfl rfl rfl rfl (by intro z z1 z2 z3 z4 z5; simp [z1, z2, z3, z4, z5]) hoff
        rw [bump_neg hle]
        exact hset
noncomputable abbrev WsNeed (w : World) (x : Str) (st : WSt) (ia dx no tc : Addr) (cv : List Value) (tx k1 k2 k3 k4 k5 t2 t3 tb : Tok) : Led := wsLed w x st ia dx no tc cv tx k1 k2 k3 k4 k5 t2 t3 tb
theorem longest_says (w mean mg mb) {x : Str} {st : WSt} {ia dx no tc : Addr} {cv : List Value} {tx k1 k2 k3 k4 k5 t2 t3 tb : Tok} (hcv : IntsAre cv st.cnt) (hl : st.cnt.length < 500) :
    Says 10 100 w mean mg mb 75 [.ref ia] (wsLed w x st ia dx no tc cv tx k1 k2 k3 k4 k5 t2 t3 tb) (fun new v => new = [] ∧ ∃ t, v = .int (max ((st.cnt.length : Int) - 1) st.b) t) := by
  w_on
  unfold Says
  k_fill
  intro dp un gd cn cs a ccd cl outer A₀ base h₀ L m news s Q E B F X N T hk hneed hd hu hret
  have N0 := need_on N hneed
  clear N
  simp only [wsLed, wsEs, List.cons_append, List.nil_append] at N0
  refine wpAny_call ?_
  ((k_dflt (refine' code_def ?k1 ?k2 ?k3 ?k4 ?k5 ?kA ?kF ?kK ?k6 ?k7 ?k8 ?k9 ?kB ?_ ?c2 ?c3 ?c4 ?c5; (case kA => exact rfl); (case kF => exact rfl); (case kK => first | exact rfl | assumption); (case k1 => k_asm); (case k2 => k_asm); (case k3 => k_asm); (case k4 => k_asm); (case k5 => k_asm); (case k6 => k_is); (case k7 => k_is); (case k8 => ktr_room); (case k9 => first | exact BindsTo.of_eq rfl | (refine' kp_binds ?kx ?ke; (case kx => k_in); (case ke => exact fun _ => rfl)) | exact binds_K (by k_in) rfl (by k_is) rfl rfl rfl | fail "enter: no rule for these arguments"); (case c5 => decide); (case kB => exact locs rfl); (case c2 => exact rfl); (case c3 => exact rfl); (case c4 => exact rfl); k_whole; intro g' L' h' FG' F' N' B' X' T'; (try dsimp only); (try k_lift B'); (try k_fold); (try (refine gen_toks ?_; intro tk9)))))
  rename Fr _ _ _ _ => F0
  replace F0 := lookN (l' := [(Str.ofString "self", _)]) rfl F0
  have hc3 := hcv.length
  (repeat' ((fail_if_success (with_reducible show wpAny _ _ (exec (Stmt.While _ _ _ _) _) _ _ _)); (fail_if_success (with_reducible show wpAny _ _ (exec (Stmt.For _ _ _ _ _) _) _ _ _)); (fail_if_success (with_reducible show wpAny _ _ (execs (Stmt.For _ _ _ _ _ :: _) _) _ _ _)); (fail_if_success (with_reducible show wpAny _ _ (call (Value.ref _) _ _) _ _ _)); (fail_if_success (with_reducible show wpAny _ _ (pyIter _) _ _ _)); (fail_if_success (with_reducible show wpAny _ _ (call (Value.type "tuple") [Value.ref _] _) _ _ _)); (first | ((with_reducible show wpAny _ _ (exec _ _) _ _ _); k_fold; (try (refine gen_toks ?_; intro tk9))) | (((with_reducible show wpAny _ _ (binaryOp Operator.Add (Value.str _ _) (Value.str _ _)) _ _ _); refine PyProof.Rows.add_str (hsz := ?hsz) ?_; (case hsz => (((try simp only [Str.length_append, len_open, len_shut, len_tab, len_blank, len_back, Int.toNat_natCast]); rw [sizeLine_eq]; omega))); intro _ _)) | (((with_reducible show wpAny _ _ (call (Value.builtin "len") [Value.ref _]) _ _ _); (refine' my_lenTup ?qN ?qm ?qi ?qb ?_; (case qN => k_asm); (case qm => k_mem); (case qi => assumption); (case qb => omega)))) | (k_unfold; (try dsimp only)) | (walk1 <;> try dsimp only) | (dsimp only; walk1) | (leave1; walk_say "STEP leave1"; try dsimp only))))
  rename Fr h₀ _ _ _ => F3
  rename News h₀ _ _ _ => N3
  rw [show (if st.b > (st.cnt.length : Int) - 1 then st.b else (st.cnt.length : Int) - 1) = max ((st.cnt.length : Int) - 1) st.b from by split <;> omega]
  exact hret _ [] _ _ F3 (led_drop N3 fun p hp => by simp only [List.nil_append] at hp; simp [hp]) (by simp) ⟨rfl, _, rfl⟩
structure IS where
  il : Int
  t : Tok
noncomputable def ilTo (cnt : List Int) (ts : Int) (k : Nat) : Int := (List.range k).foldl (fun a (j : Nat) => a + (ts + j).fdiv ts * cnt.getD (ts + j).toNat 0) 0
theorem ilTo_succ (cnt : List Int) (ts : Int) (k : Nat) : ilTo cnt ts (k + 1) = ilTo cnt ts k + (ts + k).fdiv ts * cnt.getD (ts + k).toNat 0 := by simp [ilTo, List.range_succ]
theorem indent_says (w mean mg mb) {x : Str} {st : WSt} {ia dx no tc : Addr} {cv : List Value} {tx k1 k2 k3 k4 k5 t2 t3 tb tt : Tok} {ts : Int} (hcv : IntsAre cv st.cnt) (hl : st.cnt.length < 500) (ht : 2 ≤ ts) (ht2 : ts < 500) :
    Says 10 100 w mean mg mb 82 [.ref ia, .int ts tt] (wsLed w x st ia dx no tc cv tx k1 k2 k3 k4 k5 t2 t3 tb) (fun new v => new = [] ∧ ∃ t, v = .int (st.b + ts * (ilTo st.cnt ts (st.cnt.length - ts).toNat + st.nt)) t) := by
  w_on
  unfold Says
  k_fill
  intro dp un gd cn cs a ccd cl outer A₀ base h₀ L m news s Q E B F X N T hk hneed hd hu hret
  have N0 := need_on N hneed
  clear N
  simp only [wsLed, wsEs, List.cons_append, List.nil_append] at N0
  refine wpAny_call ?_
  ((k_dflt (refine' code_def ?k1 ?k2 ?k3 ?k4 ?k5 ?kA ?kF ?kK ?k6 ?k7 ?k8 ?k9 ?kB ?_ ?c2 ?c3 ?c4 ?c5; (case kA => exact rfl); (case kF => exact rfl); (case kK => first | exact rfl | assumption); (case k1 => k_asm); (case k2 => k_asm); (case k3 => k_asm); (case k4 => k_asm); (case k5 => k_asm); (case k6 => k_is); (case k7 => k_is); (case k8 => ktr_room); (case k9 => first | exact BindsTo.of_eq rfl | (refine' kp_binds ?kx ?ke; (case kx => k_in); (case ke => exact fun _ => rfl)) | exact binds_K (by k_in) rfl (by k_is) rfl rfl rfl | fail "enter: no rule for these arguments"); (case c5 => decide); (case kB => exact locs rfl); (case c2 => exact rfl); (case c3 => exact rfl); (case c4 => exact rfl); k_whole; intro g' L' h' FG' F' N' B' X' T'; (try dsimp only); (try k_lift B'); (try k_fold); (try (refine gen_toks ?_; intro tk9)))))
  rename Fr _ _ _ _ => F0
  replace F0 := lookN (l' := [(Str.ofString "tabsize", _), (Str.ofString "self", _)]) rfl F0
  have hc3 := hcv.length
  (repeat' ((fail_if_success (with_reducible show wpAny _ _ (exec (Stmt.While _ _ _ _) _) _ _ _)); (fail_if_success (with_reducible show wpAny _ _ (exec (Stmt.For _ _ _ _ _) _) _ _ _)); (fail_if_success (with_reducible show wpAny _ _ (execs (Stmt.For _ _ _ _ _ :: _) _) _ _ _)); (fail_if_success (with_reducible show wpAny _ _ (call (Value.ref _) _ _) _ _ _)); (fail_if_success (with_reducible show wpAny _ _ (pyIter _) _ _ _)); (fail_if_success (with_reducible show wpAny _ _ (call (Value.type "tuple") [Value.ref _] _) _ _ _)); (first | ((with_reducible show wpAny _ _ (exec _ _) _ _ _); k_fold; (try (refine gen_toks ?_; intro tk9))) | (((with_reducible show wpAny _ _ (binaryOp Operator.Add (Value.str _ _) (Value.str _ _)) _ _ _); refine PyProof.Rows.add_str (hsz := ?hsz) ?_; (case hsz => (((try simp only [Str.length_append, len_open, len_shut, len_tab, len_blank, len_back, Int.toNat_natCast]); rw [sizeLine_eq]; omega))); intro _ _)) | (((with_reducible show wpAny _ _ (call (Value.builtin "len") [Value.ref _]) _ _ _); (refine' my_lenTup ?qN ?qm ?qi ?qb ?_; (case qN => k_asm); (case qm => k_mem); (case qi => assumption); (case qb => omega)))) | (k_unfold; (try dsimp only)) | (walk1 <;> try dsimp only) | (dsimp only; walk1) | (leave1; walk_say "STEP leave1"; try dsimp only))))
  refine wpAny_execs_cons ?_
  rename Fr _ _ _ _ => lF'
  with_unfolding_all refine' For_invVF lF' ?k1 ?k2 ?_
  case k1 => exact rfl
  case k2 => exact rfl
  (repeat' ((fail_if_success (with_reducible show wpAny _ _ (exec (Stmt.While _ _ _ _) _) _ _ _)); (fail_if_success (with_reducible show wpAny _ _ (exec (Stmt.For _ _ _ _ _) _) _ _ _)); (fail_if_success (with_reducible show wpAny _ _ (execs (Stmt.For _ _ _ _ _ :: _) _) _ _ _)); (fail_if_success (with_reducible show wpAny _ _ (call (Value.ref _) _ _) _ _ _)); (fail_if_success (with_reducible show wpAny _ _ (pyIter _) _ _ _)); (fail_if_success (with_reducible show wpAny _ _ (call (Value.type "tuple") [Value.ref _] _) _ _ _)); (first | ((with_reducible show wpAny _ _ (exec _ _) _ _ _); k_fold; (try (refine gen_toks ?_; intro tk9))) | (((with_reducible show wpAny _ _ (binaryOp Operator.Add (Value.str _ _) (Value.str _ _)) _ _ _); refine PyProof.Rows.add_str (hsz := ?hsz) ?_; (case hsz => (((try simp only [Str.length_append, len_open, len_shut, len_tab, len_blank, len_back, Int.toNat_natCast]); rw [sizeLine_eq]; omega))); intro _ _)) | (((with_reducible show wpAny _ _ (call (Value.builtin "len") [Value.ref _]) _ _ _); (refine' my_lenTup ?qN ?qm ?qi ?qb ?_; (case qN => k_asm); (case qm => k_mem); (case qi => assumption); (case qb => omega)))) | (k_unfold; (try dsimp only)) | (walk1 <;> try dsimp only) | (dsimp only; walk1) | (leave1; walk_say "STEP leave1"; try dsimp only))))
  rename Fr _ _ _ _ => F1
  rename News _ _ _ _ => N1
  rename IntsAre cv _ => hcv
  refine' kst_range (σ := IS) (n := (st.cnt.length - ts).toNat) (fun _ => _) (fun c => [(Str.ofString "il", .int c.il c.t)]) (fun _ => True) [] (fun pre c => c.il = ilTo st.cnt ts pre.length) ⟨_, _⟩ rfl (by assumption) ?hsm ?hrs F1 N1 trivial ?hk ?hp ?turn ?done
  case hsm => exact small_one (by omega) (by omega) (by omega) (by omega)
  case hrs => rw [rangeSize_nat]
  case hk => with_unfolding_all kst_all
  case hp => rfl
  case done =>
    intro c u h tk _ hp F2 N2
    clear F1 N1
    rw [rangeKs_length] at hp
    (repeat' ((fail_if_success (with_reducible show wpAny _ _ (exec (Stmt.While _ _ _ _) _) _ _ _)); (fail_if_success (with_reducible show wpAny _ _ (exec (Stmt.For _ _ _ _ _) _) _ _ _)); (fail_if_success (with_reducible show wpAny _ _ (execs (Stmt.For _ _ _ _ _ :: _) _) _ _ _)); (fail_if_success (with_reducible show wpAny _ _ (call (Value.ref _) _ _) _ _ _)); (fail_if_success (with_reducible show wpAny _ _ (pyIter _) _ _ _)); (fail_if_success (with_reducible show wpAny _ _ (call (Value.type "tuple") [Value.ref _] _) _ _ _)); (first | ((with_reducible show wpAny _ _ (exec _ _) _ _ _); k_fold; (try (refine gen_toks ?_; intro tk9))) | (((with_reducible show wpAny _ _ (binaryOp Operator.Add (Value.str _ _) (Value.str _ _)) _ _ _); refine PyProof.Rows.add_str (hsz := ?hsz) ?_; (case hsz => (((try simp only [Str.length_append, len_open, len_shut, len_tab, len_blank, len_back, Int.toNat_natCast]); rw [sizeLine_eq]; omega))); intro _ _)) | (((with_reducible show wpAny _ _ (call (Value.builtin "len") [Value.ref _]) _ _ _); (refine' my_lenTup ?qN ?qm ?qi ?qb ?_; (case qN => k_asm); (case qm => k_mem); (case qi => assumption); (case qb => omega)))) | (k_unfold; (try dsimp only)) | (walk1 <;> try dsimp only) | (dsimp only; walk1) | (leave1; walk_say "STEP leave1"; try dsimp only))))
    rename Fr h₀ _ _ _ => F3
    rename News h₀ _ _ _ => N3
    rw [hp]
    exact hret _ [] _ _ F3 (led_drop N3 fun p hp => by simp only [List.nil_append] at hp; simp [hp]) (by simp) ⟨rfl, _, rfl⟩
  case turn =>
    intro c pre k t u h tk own hkk hlt hoff _ hp F2 N2
    clear F1 N1
    have hk1 : k < st.cnt.length := by omega
    have hk0 : 0 ≤ k := by omega
    simp only [List.cons_append] at N2
    have hfd : 0 ≤ k.fdiv ts ∧ k.fdiv ts ≤ 500 := by
      rw [Int.fdiv_eq_ediv_of_nonneg _ (by omega)]
      exact ⟨Int.ediv_nonneg hk0 (by omega), Int.le_trans (Int.ediv_le_self _ hk0) (by omega)⟩
    (repeat' ((fail_if_success (with_reducible show wpAny _ _ (exec (Stmt.While _ _ _ _) _) _ _ _)); (fail_if_success (with_reducible show wpAny _ _ (exec (Stmt.For _ _ _ _ _) _) _ _ _)); (fail_if_success (with_reducible show wpAny _ _ (execs (Stmt.For _ _ _ _ _ :: _) _) _ _ _)); (fail_if_success (with_reducible show wpAny _ _ (call (Value.ref _) _ _) _ _ _)); (fail_if_success (with_reducible show wpAny _ _ (pyIter _) _ _ _)); (fail_if_success (with_reducible show wpAny _ _ (call (Value.type "tuple") [Value.ref _] _) _ _ _)); (first | ((with_reducible show wpAny _ _ (exec _ _) _ _ _); k_fold; (try (refine gen_toks ?_; intro tk9))) | (((with_reducible show wpAny _ _ (binaryOp Operator.Add (Value.str _ _) (Value.str _ _)) _ _ _); refine PyProof.Rows.add_str (hsz := ?hsz) ?_; (case hsz => (((try simp only [Str.length_append, len_open, len_shut, len_tab, len_blank, len_back, Int.toNat_natCast]); rw [sizeLine_eq]; omega))); intro _ _)) | (((with_reducible show wpAny _ _ (call (Value.builtin "len") [Value.ref _]) _ _ _); (refine' my_lenTup ?qN ?qm ?qi ?qb ?_; (case qN => k_asm); (case qm => k_mem); (case qi => assumption); (case qb => omega)))) | (k_unfold; (try dsimp only)) | (walk1 <;> try dsimp only) | (dsimp only; walk1) | (leave1; walk_say "STEP leave1"; try dsimp only))))
    refine' kst_end (σ := IS) ⟨c.il + k.fdiv ts * st.cnt.getD k.toNat 0, _⟩ (by assumption) (by assumption) ?hn ?ho ?ha trivial ?hk ?hr ?hp
    case ha => rfl
    case hn => exact fun p hp => List.mem_append_left own hp
    case ho => exact fun p hp => List.mem_append_right (_ :: _ :: _ :: _ :: news) hp
    case hk => with_unfolding_all kst_all
    case hr => ((intro z h1 h2 h3; (try dsimp only at h1 h2 h3); (simp only [List.forall_mem_cons, List.not_mem_nil, false_implies, implies_true, and_true, ne_eq] at h2); (simp only [List.contains_cons, List.contains_nil, Bool.or_false, Bool.or_eq_false_iff, beq_eq_false_iff_ne, ne_eq] at h3); (simp [kstB, h1, h2, h3]; done)))
    case hp =>
      dsimp only
      rw [List.length_append, List.length_singleton, ilTo_succ, ← hp, hkk]
noncomputable def lvl (st : WSt) (ts : Int) : Int := st.b + ts * (ilTo st.cnt ts (st.cnt.length - ts).toNat + st.nt)
noncomputable def lrun (st : WSt) : Int := max ((st.cnt.length : Int) - 1) st.b
noncomputable def lessF (a b : WSt) : Bool := if a.n ≥ b.n then false else (List.range (max (lrun a) (lrun b)).toNat).all fun (j : Nat) => decide (lvl a (2 + j) < lvl b (2 + j))
theorem lrun_bnd {st : WSt} (hl : st.cnt.length < 450) (hb : 0 ≤ st.b) (hB : st.b < 450) : 0 ≤ lrun st ∧ lrun st ≤ 450 :=
  ⟨Int.le_trans hb (Int.le_max_right _ _), Int.max_le.mpr ⟨Int.le_trans (Int.sub_le_self _ (by decide)) (Int.ofNat_le.mpr (Nat.le_of_lt hl)), Int.le_of_lt hB⟩⟩
theorem lrun_small {v : Int} (h : 0 ≤ v ∧ v ≤ 450) : -(2 ^ 62) ≤ v + 1 + 1 ∧ v + 1 + 1 < 2 ^ 62 := by omega
theorem lrun_if (a b : Int) : ((if b > a then b else a) + 1 + 1 - 2) = max a b := by
  rw [show ∀ v : Int, v + 1 + 1 - 2 = v from fun v => by omega]
  by_cases h : b > a
  · rw [if_pos h, Int.max_eq_right (Int.le_of_lt h)]
  · rw [if_neg h, Int.max_eq_left (Int.not_lt.mp h)]
theorem less_says (w mean mg mb) {x1 : Str} {st1 : WSt} {ia1 dx1 no1 tc1 : Addr} {cv1 : List Value} {a0 a1 a2 a3 a4 a5 a6 a7 a8 : Tok} {x2 : Str} {st2 : WSt} {ia2 dx2 no2 tc2 : Addr} {cv2 : List Value} {b0 b1 b2 b3 b4 b5 b6 b7 b8 : Tok} (hc1 : IntsAre cv1 st1.cnt) (hc2 : IntsAre cv2 st2.cnt) (hl1 : st1.cnt.length < 450) (hl2 : st2.cnt.length < 450) (hg1 : 1 < st1.cnt.length) (hg2 : 1 < st2.cnt.length) (hb1 : 0 ≤ st1.b) (hb2 : 0 ≤ st2.b) (hB1 : st1.b < 450) (hB2 : st2.b < 450) :
    Says 20 200 w mean mg mb 103 [.ref ia1, .ref ia2] ((wsLed w x1 st1 ia1 dx1 no1 tc1 cv1 a0 a1 a2 a3 a4 a5 a6 a7 a8) ++ (wsLed w x2 st2 ia2 dx2 no2 tc2 cv2 b0 b1 b2 b3 b4 b5 b6 b7 b8)) (fun new v => new = [] ∧ v = .bool (lessF st1 st2)) := by
  w_on
  unfold Says
  k_fill
  intro dp un gd cn cs a ccd cl outer A₀ base h₀ L m news s Q E B F X N T hk hneed hd hu hret
  have N0 := need_on N hneed
  clear N
  have hsm1 : ¬ (st1.cnt.length : Int) ≤ 1 := by omega
  have hsm2 : ¬ (st2.cnt.length : Int) ≤ 1 := by omega
  simp only [wsLed, wsEs, List.cons_append, List.nil_append, decide_eq_false hsm1, decide_eq_false hsm2] at N0
  refine wpAny_call ?_
  ((k_dflt (refine' code_def ?k1 ?k2 ?k3 ?k4 ?k5 ?kA ?kF ?kK ?k6 ?k7 ?k8 ?k9 ?kB ?_ ?c2 ?c3 ?c4 ?c5; (case kA => exact rfl); (case kF => exact rfl); (case kK => first | exact rfl | assumption); (case k1 => k_asm); (case k2 => k_asm); (case k3 => k_asm); (case k4 => k_asm); (case k5 => k_asm); (case k6 => k_is); (case k7 => k_is); (case k8 => ktr_room); (case k9 => first | exact BindsTo.of_eq rfl | (refine' kp_binds ?kx ?ke; (case kx => k_in); (case ke => exact fun _ => rfl)) | exact binds_K (by k_in) rfl (by k_is) rfl rfl rfl | fail "enter: no rule for these arguments"); (case c5 => decide); (case kB => exact locs rfl); (case c2 => exact rfl); (case c3 => exact rfl); (case c4 => exact rfl); k_whole; intro g' L' h' FG' F' N' B' X' T'; (try dsimp only); (try k_lift B'); (try k_fold); (try (refine gen_toks ?_; intro tk9)))))
  rename Fr _ _ _ _ => F0
  replace F0 := lookN (l' := [(Str.ofString "other", _), (Str.ofString "self", _)]) rfl F0
  (repeat' ((fail_if_success (with_reducible show wpAny _ _ (exec (Stmt.While _ _ _ _) _) _ _ _)); (fail_if_success (with_reducible show wpAny _ _ (exec (Stmt.For _ _ _ _ _) _) _ _ _)); (fail_if_success (with_reducible show wpAny _ _ (execs (Stmt.For _ _ _ _ _ :: _) _) _ _ _)); (fail_if_success (with_reducible show wpAny _ _ (call (Value.ref _) _ _) _ _ _)); (fail_if_success (with_reducible show wpAny _ _ (pyIter _) _ _ _)); (fail_if_success (with_reducible show InvEndN _ _ _ _ _ _ _)); (fail_if_success (with_reducible show wpAny _ _ (call (Value.type "tuple") [Value.ref _] _) _ _ _)); (first | ((with_reducible show wpAny _ _ (exec _ _) _ _ _); k_fold; (try (refine gen_toks ?_; intro tk9))) | (((with_reducible show wpAny _ _ (binaryOp Operator.Add (Value.str _ _) (Value.str _ _)) _ _ _); refine PyProof.Rows.add_str (hsz := ?hsz) ?_; (case hsz => (((try simp only [Str.length_append, len_open, len_shut, len_tab, len_blank, len_back, Int.toNat_natCast]); rw [sizeLine_eq]; omega))); intro _ _)) | (((with_reducible show wpAny _ _ (call (Value.builtin "len") [Value.ref _]) _ _ _); (refine' my_lenTup ?qN ?qm ?qi ?qb ?_; (case qN => k_asm); (case qm => k_mem); (case qi => assumption); (case qb => omega)))) | (k_unfold; (try dsimp only)) | (walk1 <;> try dsimp only) | (dsimp only; walk1) | (leave1; walk_say "STEP leave1"; try dsimp only))))
  · rename Fr h₀ _ _ _ => F3
    rename News h₀ _ _ _ => N3
    have hge : st1.n ≥ st2.n := by assumption
    exact hret _ [] _ _ F3 (led_drop N3 fun p hp => by simp only [List.nil_append] at hp; simp [hp]) (by simp) ⟨rfl, by rw [lessF, if_pos hge]⟩
  have hge : ¬ st1.n ≥ st2.n := by assumption
  refine' longest_says w mean mg mb (x := x1) (st := st1) (ia := ia1) (dx := dx1) (no := no1) (tc := tc1) (cv := cv1) (tx := a0) (k1 := a1) (k2 := a2) (k3 := a3) (k4 := a4) (k5 := a5) (t2 := a6) (t3 := a7) (tb := a8) hc1 (by omega) _ _ _ _ _ _ _ _ _ _ _ _ _ _ _ _ _ _ ?k1 ?k2 ?k3 ?k4 ?k5 ?kK ?kn ?kd ?ku ?kR
  (((case k1 => k_asm); (case k2 => k_asm); (case k3 => k_asm); (case k4 => k_asm); (case k5 => k_asm); (case kK => first | exact rfl | assumption); (case kd => ktr_room); (case ku => ktr_units)))
  case kn =>
    intro p hp
    simp only [wsLed, wsEs, decide_eq_false hsm1, decide_eq_false hsm2] at hp
    exact List.mem_append_left _ hp
  case kR =>
  rintro v new h9 tk9 F9 N9 - ⟨rfl, t9, rfl⟩
  simp only [List.nil_append] at N9
  (repeat' ((fail_if_success (with_reducible show wpAny _ _ (exec (Stmt.While _ _ _ _) _) _ _ _)); (fail_if_success (with_reducible show wpAny _ _ (exec (Stmt.For _ _ _ _ _) _) _ _ _)); (fail_if_success (with_reducible show wpAny _ _ (execs (Stmt.For _ _ _ _ _ :: _) _) _ _ _)); (fail_if_success (with_reducible show wpAny _ _ (call (Value.ref _) _ _) _ _ _)); (fail_if_success (with_reducible show wpAny _ _ (pyIter _) _ _ _)); (fail_if_success (with_reducible show InvEndN _ _ _ _ _ _ _)); (fail_if_success (with_reducible show wpAny _ _ (call (Value.type "tuple") [Value.ref _] _) _ _ _)); (first | ((with_reducible show wpAny _ _ (exec _ _) _ _ _); k_fold; (try (refine gen_toks ?_; intro tk9))) | (((with_reducible show wpAny _ _ (binaryOp Operator.Add (Value.str _ _) (Value.str _ _)) _ _ _); refine PyProof.Rows.add_str (hsz := ?hsz) ?_; (case hsz => (((try simp only [Str.length_append, len_open, len_shut, len_tab, len_blank, len_back, Int.toNat_natCast]); rw [sizeLine_eq]; omega))); intro _ _)) | (((with_reducible show wpAny _ _ (call (Value.builtin "len") [Value.ref _]) _ _ _); (refine' my_lenTup ?qN ?qm ?qi ?qb ?_; (case qN => k_asm); (case qm => k_mem); (case qi => assumption); (case qb => omega)))) | (k_unfold; (try dsimp only)) | (walk1 <;> try dsimp only) | (dsimp only; walk1) | (leave1; walk_say "STEP leave1"; try dsimp only))))
  refine' longest_says w mean mg mb (x := x2) (st := st2) (ia := ia2) (dx := dx2) (no := no2) (tc := tc2) (cv := cv2) (tx := b0) (k1 := b1) (k2 := b2) (k3 := b3) (k4 := b4) (k5 := b5) (t2 := b6) (t3 := b7) (tb := b8) hc2 (by omega) _ _ _ _ _ _ _ _ _ _ _ _ _ _ _ _ _ _ ?k1 ?k2 ?k3 ?k4 ?k5 ?kK ?kn ?kd ?ku ?kR
  (((case k1 => k_asm); (case k2 => k_asm); (case k3 => k_asm); (case k4 => k_asm); (case k5 => k_asm); (case kK => first | exact rfl | assumption); (case kd => ktr_room); (case ku => ktr_units)))
  case kn =>
    intro p hp
    simp only [wsLed, wsEs, decide_eq_false hsm1, decide_eq_false hsm2] at hp
    exact List.mem_append_right [_, _, _, _] (List.mem_append_left _ hp)
  case kR =>
  rintro v new h9 tk9 F9 N9 - ⟨rfl, t9, rfl⟩
  simp only [List.nil_append] at N9
  (repeat' ((fail_if_success (with_reducible show wpAny _ _ (exec (Stmt.While _ _ _ _) _) _ _ _)); (fail_if_success (with_reducible show wpAny _ _ (exec (Stmt.For _ _ _ _ _) _) _ _ _)); (fail_if_success (with_reducible show wpAny _ _ (execs (Stmt.For _ _ _ _ _ :: _) _) _ _ _)); (fail_if_success (with_reducible show wpAny _ _ (call (Value.ref _) _ _) _ _ _)); (fail_if_success (with_reducible show wpAny _ _ (pyIter _) _ _ _)); (fail_if_success (with_reducible show InvEndN _ _ _ _ _ _ _)); (fail_if_success (with_reducible show wpAny _ _ (call (Value.type "tuple") [Value.ref _] _) _ _ _)); (first | ((with_reducible show wpAny _ _ (exec _ _) _ _ _); k_fold; (try (refine gen_toks ?_; intro tk9))) | (((with_reducible show wpAny _ _ (binaryOp Operator.Add (Value.str _ _) (Value.str _ _)) _ _ _); refine PyProof.Rows.add_str (hsz := ?hsz) ?_; (case hsz => (((try simp only [Str.length_append, len_open, len_shut, len_tab, len_blank, len_back, Int.toNat_natCast]); rw [sizeLine_eq]; omega))); intro _ _)) | (((with_reducible show wpAny _ _ (call (Value.builtin "len") [Value.ref _]) _ _ _); (refine' my_lenTup ?qN ?qm ?qi ?qb ?_; (case qN => k_asm); (case qm => k_mem); (case qi => assumption); (case qb => omega)))) | (k_unfold; (try dsimp only)) | (walk1 <;> try dsimp only) | (dsimp only; walk1) | (leave1; walk_say "STEP leave1"; try dsimp only))))
  refine wpAny_execs_cons ?_
  rename Fr _ _ _ _ => lF'
  with_unfolding_all refine' For_invVF lF' ?k1 ?k2 ?_
  case k1 => exact rfl
  case k2 => exact rfl
  (repeat' ((fail_if_success (with_reducible show wpAny _ _ (exec (Stmt.While _ _ _ _) _) _ _ _)); (fail_if_success (with_reducible show wpAny _ _ (exec (Stmt.For _ _ _ _ _) _) _ _ _)); (fail_if_success (with_reducible show wpAny _ _ (execs (Stmt.For _ _ _ _ _ :: _) _) _ _ _)); (fail_if_success (with_reducible show wpAny _ _ (call (Value.ref _) _ _) _ _ _)); (fail_if_success (with_reducible show wpAny _ _ (pyIter _) _ _ _)); (fail_if_success (with_reducible show InvEndN _ _ _ _ _ _ _)); (fail_if_success (with_reducible show wpAny _ _ (call (Value.type "tuple") [Value.ref _] _) _ _ _)); (first | ((with_reducible show wpAny _ _ (exec _ _) _ _ _); k_fold; (try (refine gen_toks ?_; intro tk9))) | (((with_reducible show wpAny _ _ (binaryOp Operator.Add (Value.str _ _) (Value.str _ _)) _ _ _); refine PyProof.Rows.add_str (hsz := ?hsz) ?_; (case hsz => (((try simp only [Str.length_append, len_open, len_shut, len_tab, len_blank, len_back, Int.toNat_natCast]); rw [sizeLine_eq]; omega))); intro _ _)) | (((with_reducible show wpAny _ _ (call (Value.builtin "len") [Value.ref _]) _ _ _); (refine' my_lenTup ?qN ?qm ?qi ?qb ?_; (case qN => k_asm); (case qm => k_mem); (case qi => assumption); (case qb => omega)))) | (k_unfold; (try dsimp only)) | (walk1 <;> try dsimp only) | (dsimp only; walk1) | (leave1; walk_say "STEP leave1"; try dsimp only))))
  rename Fr _ _ _ _ => F1
  rename News _ _ _ _ => N1
  have lb1 := lrun_bnd hl1 hb1 hB1
  have lb2 := lrun_bnd hl2 hb2 hB2
  have hK : (max (lrun st1) (lrun st2)).toNat ≤ 450 := Int.toNat_le.mpr (Int.max_le.mpr ⟨lb1.2, lb2.2⟩)
  refine' kst_range (σ := Unit) (a₀ := 2) (n := (max (lrun st1) (lrun st2)).toNat) (fun _ => _) (fun _ => []) (fun _ => True) [] (fun pre _ => ∀ j : Nat, j < pre.length → lvl st1 (2 + j) < lvl st2 (2 + j)) () rfl (by assumption) ?hsm ?hrs F1 N1 trivial ?hk ?hp ?turn ?done
  case hsm =>
    have hs : ∀ c : Prop, ∀ _ : Decidable c, -(2 ^ 62) ≤ (if c then lrun st2 else lrun st1) + 1 + 1 ∧ (if c then lrun st2 else lrun st1) + 1 + 1 < 2 ^ 62 := fun c _ => by
      by_cases q : c
      · rw [if_pos q]; exact lrun_small lb2
      · rw [if_neg q]; exact lrun_small lb1
    exact small_one (by decide) (by decide) (hs _ _).1 (hs _ _).2
  case hrs =>
    rw [rangeSize_nat]
    exact congrArg (fun v : Int => ((v.toNat : Nat) : Int)) (lrun_if (lrun st1) (lrun st2))
  case hk => intro p hp; cases hp
  case hp => intro j hj; exact absurd hj (Nat.not_lt_zero _)
  case done =>
    intro c u h tk _ hp F2 N2
    clear F1 N1
    rw [rangeKs_length] at hp
    (repeat' ((fail_if_success (with_reducible show wpAny _ _ (exec (Stmt.While _ _ _ _) _) _ _ _)); (fail_if_success (with_reducible show wpAny _ _ (exec (Stmt.For _ _ _ _ _) _) _ _ _)); (fail_if_success (with_reducible show wpAny _ _ (execs (Stmt.For _ _ _ _ _ :: _) _) _ _ _)); (fail_if_success (with_reducible show wpAny _ _ (call (Value.ref _) _ _) _ _ _)); (fail_if_success (with_reducible show wpAny _ _ (pyIter _) _ _ _)); (fail_if_success (with_reducible show InvEndN _ _ _ _ _ _ _)); (fail_if_success (with_reducible show wpAny _ _ (call (Value.type "tuple") [Value.ref _] _) _ _ _)); (first | ((with_reducible show wpAny _ _ (exec _ _) _ _ _); k_fold; (try (refine gen_toks ?_; intro tk9))) | (((with_reducible show wpAny _ _ (binaryOp Operator.Add (Value.str _ _) (Value.str _ _)) _ _ _); refine PyProof.Rows.add_str (hsz := ?hsz) ?_; (case hsz => (((try simp only [Str.length_append, len_open, len_shut, len_tab, len_blank, len_back, Int.toNat_natCast]); rw [sizeLine_eq]; omega))); intro _ _)) | (((with_reducible show wpAny _ _ (call (Value.builtin "len") [Value.ref _]) _ _ _); (refine' my_lenTup ?qN ?qm ?qi ?qb ?_; (case qN => k_asm); (case qm => k_mem); (case qi => assumption); (case qb => omega)))) | (k_unfold; (try dsimp only)) | (walk1 <;> try dsimp only) | (dsimp only; walk1) | (leave1; walk_say "STEP leave1"; try dsimp only))))
    rename Fr h₀ _ _ _ => F3
    rename News h₀ _ _ _ => N3
    refine hret _ [] _ _ F3 (led_drop N3 fun p hp => by simp only [List.nil_append] at hp; simp [hp]) (by simp) ⟨rfl, ?_⟩
    rw [lessF, if_neg hge, List.all_eq_true.mpr (fun j hj => decide_eq_true (hp j (List.mem_range.mp hj)))]
  case turn =>
    intro c pre k t u h tk own hkk hlt hoff _ hp F2 N2
    clear F1 N1
    simp only [List.cons_append] at N2
    (repeat' ((fail_if_success (with_reducible show wpAny _ _ (exec (Stmt.While _ _ _ _) _) _ _ _)); (fail_if_success (with_reducible show wpAny _ _ (exec (Stmt.For _ _ _ _ _) _) _ _ _)); (fail_if_success (with_reducible show wpAny _ _ (execs (Stmt.For _ _ _ _ _ :: _) _) _ _ _)); (fail_if_success (with_reducible show wpAny _ _ (call (Value.ref _) _ _) _ _ _)); (fail_if_success (with_reducible show wpAny _ _ (pyIter _) _ _ _)); (fail_if_success (with_reducible show InvEndN _ _ _ _ _ _ _)); (fail_if_success (with_reducible show wpAny _ _ (call (Value.type "tuple") [Value.ref _] _) _ _ _)); (first | ((with_reducible show wpAny _ _ (exec _ _) _ _ _); k_fold; (try (refine gen_toks ?_; intro tk9))) | (((with_reducible show wpAny _ _ (binaryOp Operator.Add (Value.str _ _) (Value.str _ _)) _ _ _); refine PyProof.Rows.add_str (hsz := ?hsz) ?_; (case hsz => (((try simp only [Str.length_append, len_open, len_shut, len_tab, len_blank, len_back, Int.toNat_natCast]); rw [sizeLine_eq]; omega))); intro _ _)) | (((with_reducible show wpAny _ _ (call (Value.builtin "len") [Value.ref _]) _ _ _); (refine' my_lenTup ?qN ?qm ?qi ?qb ?_; (case qN => k_asm); (case qm => k_mem); (case qi => assumption); (case qb => omega)))) | (k_unfold; (try dsimp only)) | (walk1 <;> try dsimp only) | (dsimp only; walk1) | (leave1; walk_say "STEP leave1"; try dsimp only))))
    refine' indent_says w mean mg mb (x := x1) (st := st1) (ia := ia1) (dx := dx1) (no := no1) (tc := tc1) (cv := cv1) (tx := a0) (k1 := a1) (k2 := a2) (k3 := a3) (k4 := a4) (k5 := a5) (t2 := a6) (t3 := a7) (tb := a8) (ts := k) (tt := t) hc1 (by omega) (by omega) (by omega) _ _ _ _ _ _ _ _ _ _ _ _ _ _ _ _ _ _ ?k1 ?k2 ?k3 ?k4 ?k5 ?kK ?kn ?kd ?ku ?kR
    (((case k1 => k_asm); (case k2 => k_asm); (case k3 => k_asm); (case k4 => k_asm); (case k5 => k_asm); (case kK => first | exact rfl | assumption); (case kd => ktr_room); (case ku => ktr_units)))
    case kn =>
      intro p hp
      simp only [wsLed, wsEs, decide_eq_false hsm1, decide_eq_false hsm2] at hp
      exact List.mem_append_left _ hp
    case kR =>
    rintro v new h9 tk9 F9 N9 - ⟨rfl, t9, rfl⟩
    simp only [List.nil_append] at N9
    (repeat' ((fail_if_success (with_reducible show wpAny _ _ (exec (Stmt.While _ _ _ _) _) _ _ _)); (fail_if_success (with_reducible show wpAny _ _ (exec (Stmt.For _ _ _ _ _) _) _ _ _)); (fail_if_success (with_reducible show wpAny _ _ (execs (Stmt.For _ _ _ _ _ :: _) _) _ _ _)); (fail_if_success (with_reducible show wpAny _ _ (call (Value.ref _) _ _) _ _ _)); (fail_if_success (with_reducible show wpAny _ _ (pyIter _) _ _ _)); (fail_if_success (with_reducible show InvEndN _ _ _ _ _ _ _)); (fail_if_success (with_reducible show wpAny _ _ (call (Value.type "tuple") [Value.ref _] _) _ _ _)); (first | ((with_reducible show wpAny _ _ (exec _ _) _ _ _); k_fold; (try (refine gen_toks ?_; intro tk9))) | (((with_reducible show wpAny _ _ (binaryOp Operator.Add (Value.str _ _) (Value.str _ _)) _ _ _); refine PyProof.Rows.add_str (hsz := ?hsz) ?_; (case hsz => (((try simp only [Str.length_append, len_open, len_shut, len_tab, len_blank, len_back, Int.toNat_natCast]); rw [sizeLine_eq]; omega))); intro _ _)) | (((with_reducible show wpAny _ _ (call (Value.builtin "len") [Value.ref _]) _ _ _); (refine' my_lenTup ?qN ?qm ?qi ?qb ?_; (case qN => k_asm); (case qm => k_mem); (case qi => assumption); (case qb => omega)))) | (k_unfold; (try dsimp only)) | (walk1 <;> try dsimp only) | (dsimp only; walk1) | (leave1; walk_say "STEP leave1"; try dsimp only))))
    rename IntsAre cv2 _ => hc2
    refine' indent_says w mean mg mb (x := x2) (st := st2) (ia := ia2) (dx := dx2) (no := no2) (tc := tc2) (cv := cv2) (tx := b0) (k1 := b1) (k2 := b2) (k3 := b3) (k4 := b4) (k5 := b5) (t2 := b6) (t3 := b7) (tb := b8) (ts := k) (tt := t) hc2 (by omega) (by omega) (by omega) _ _ _ _ _ _ _ _ _ _ _ _ _ _ _ _ _ _ ?k1 ?k2 ?k3 ?k4 ?k5 ?kK ?kn ?kd ?ku ?kR
    (((case k1 => k_asm); (case k2 => k_asm); (case k3 => k_asm); (case k4 => k_asm); (case k5 => k_asm); (case kK => first | exact rfl | assumption); (case kd => ktr_room); (case ku => ktr_units)))
    case kn =>
      intro p hp
      simp only [wsLed, wsEs, decide_eq_false hsm1, decide_eq_false hsm2] at hp
      exact List.mem_append_right [_, _, _, _] (List.mem_append_left _ hp)
    case kR =>
    rintro v new h9 tk9 F9 N9 - ⟨rfl, t9, rfl⟩
    simp only [List.nil_append] at N9
    (repeat' ((fail_if_success (with_reducible show wpAny _ _ (exec (Stmt.While _ _ _ _) _) _ _ _)); (fail_if_success (with_reducible show wpAny _ _ (exec (Stmt.For _ _ _ _ _) _) _ _ _)); (fail_if_success (with_reducible show wpAny _ _ (execs (Stmt.For _ _ _ _ _ :: _) _) _ _ _)); (fail_if_success (with_reducible show wpAny _ _ (call (Value.ref _) _ _) _ _ _)); (fail_if_success (with_reducible show wpAny _ _ (pyIter _) _ _ _)); (fail_if_success (with_reducible show InvEndN _ _ _ _ _ _ _)); (fail_if_success (with_reducible show wpAny _ _ (call (Value.type "tuple") [Value.ref _] _) _ _ _)); (first | ((with_reducible show wpAny _ _ (exec _ _) _ _ _); k_fold; (try (refine gen_toks ?_; intro tk9))) | (((with_reducible show wpAny _ _ (binaryOp Operator.Add (Value.str _ _) (Value.str _ _)) _ _ _); refine PyProof.Rows.add_str (hsz := ?hsz) ?_; (case hsz => (((try simp only [Str.length_append, len_open, len_shut, len_tab, len_blank, len_back, Int.toNat_natCast]); rw [sizeLine_eq]; omega))); intro _ _)) | (((with_reducible show wpAny _ _ (call (Value.builtin "len") [Value.ref _]) _ _ _); (refine' my_lenTup ?qN ?qm ?qi ?qb ?_; (case qN => k_asm); (case qm => k_mem); (case qi => assumption); (case qb => omega)))) | (k_unfold; (try dsimp only)) | (walk1 <;> try dsimp only) | (dsimp only; walk1) | (leave1; walk_say "STEP leave1"; try dsimp only))))
    · rename Fr h₀ _ _ _ => F3
      rename News h₀ _ _ _ => N3
      rename (_ ≥ _) => hge2
      refine hret _ [] _ _ F3 (led_drop N3 fun p hp => by simp only [List.nil_append] at hp; simp [hp]) (by simp) ⟨rfl, ?_⟩
      have hfalse : ¬ lvl st1 (2 + (pre.length : Nat)) < lvl st2 (2 + (pre.length : Nat)) := by
        have e : k = 2 + (pre.length : Int) := hkk
        rw [e] at hge2
        exact Int.not_lt.mpr hge2
      rw [lessF, if_neg hge, List.all_eq_false.mpr ⟨pre.length, List.mem_range.mpr hlt, by simpa using hfalse⟩]
    · rename (¬ _ ≥ _) => hge2
      refine' kst_end (σ := Unit) () (by assumption) (by assumption) ?hn ?ho ?ha trivial ?hk ?hr ?hp
      case ha => rfl
      case hn => exact fun p hp => List.mem_append_left own hp
      case ho => exact fun p hp => List.mem_append_right (_ :: _ :: _ :: _ :: _ :: _ :: _ :: _ :: news) hp
      case hk => intro p hp; cases hp
      case hr => ((intro z h1 h2 h3; (try dsimp only at h1 h2 h3); (simp only [List.forall_mem_cons, List.not_mem_nil, false_implies, implies_true, and_true, ne_eq] at h2); (simp only [List.contains_cons, List.contains_nil, Bool.or_false, Bool.or_eq_false_iff, beq_eq_false_iff_ne, ne_eq] at h3); (simp [kstB, h1, h2, h3]; done)))
      case hp =>
        intro j hj
        rw [List.length_append, List.length_singleton] at hj
        by_cases e : j < pre.length
        · exact hp j e
        · have e2 : j = pre.length := by omega
          subst e2
          have e3 : k = 2 + (pre.length : Int) := hkk
          rw [e3] at hge2
          exact Int.not_le.mp hge2
section
variable {M : Model} {A : Around} {R : GenEnd} {Y : Protocol} {n : Nat} {s₀ : Shared} {c : Code} {fs : List Frame} {s : Shared} {env : Env}
  {K : Flow → Sem Fin} {H : Value → Sem Fin} {gd : Bool → Bool} {lv : List Value → List Value}
theorem seg_If {test : Expr} {body orelse : List Stmt} {pos : Pos}
    (h : wpAny M (A.over c fs) (isTrue test env (eval test env)) (fun b s' => if b = true then Seg M A R Y n s₀ c ((execs body env).wrap K H gd lv) fs s' else Seg M A R Y n s₀ c ((execs orelse env).wrap K H gd lv) fs s')
      (fun x s' => Seg M A R Y n s₀ c (H x) fs s') s) :
    Seg M A R Y n s₀ c ((exec (.If test body orelse pos) env).wrap K H gd lv) fs s := by
  rw [exec_If]
  refine seg_bind_wrap (wpAny_standAt ?_)
  refine seg_bind_wrap (wpAny_mono h (fun b s' hb => ?_) fun _ _ e => e)
  cases b with
  | true => simpa using hb
  | false => simpa using hb
/-- what a loop's end is handed to -/
noncomputable abbrev forK (env : Env) (K : Flow → Sem Fin) (H : Value → Sem Fin) (gd : Bool → Bool) (lv : List Value → List Value) : Result → Sem Fin := fun r => ((match r with | .ok f => (.pure f : Sem Flow) | .error e => .raise e).onRaise fun (x : Value) => do
        if (← field x 1) == Value.none then unsupported "frame.own-activation:exception-without-traceback"
        setFlight x env.frame).wrap K H gd lv
theorem seg_For {target iter : Expr} {body orelse : List Stmt} {pos : Pos} (hs : ∀ x, foldedSetIterable iter env x = pure x)
    (h : wpAny M (A.over c fs) (eval iter env) (fun xv s₁ => wpAny M (A.over c fs) (pyIter xv) (fun it s₂ => ∀ p, Seg M A R Y n s₀ (.forLoop target it body orelse env) (M.den (.forLoop target it body orelse env))
      (.ret (forK env K H gd lv) none (gd false) (lv []) c p [] :: fs) s₂) (fun x s' => Seg M A R Y n s₀ c (H x) fs s') s₁) (fun x s' => Seg M A R Y n s₀ c (H x) fs s') s) :
    Seg M A R Y n s₀ c ((exec (.For target iter body orelse pos) env).wrap K H gd lv) fs s := by
  rw [exec_For]
  refine seg_bind_wrap (wpAny_standAt ?_)
  refine seg_bind_wrap (wpAny_mono h (fun xv s₁ h₁ => ?_) fun _ _ e => e)
  refine seg_bind_wrap (wpAny_of_eq (hs xv) ?_)
  refine seg_bind_wrap (wpAny_standAt ?_)
  refine seg_bind_wrap (wpAny_holding (wpAny_mono h₁ (fun it s₂ h₂ => ?_) fun _ _ e => e))
  exact seg_call h₂
end
section
variable {prog : Program} {w : World} {A : Around} {R : GenEnd} {Y : Protocol} {n : Nat} {s₀ : Shared} {fs : List Frame} {s : Shared} {env : Env}
noncomputable abbrev turnK (target : Expr) (it : Value) (body : List Stmt) (env : Env) : Flow → Sem Fin := fun f => match f with
  | .next | .cont => .pure (.again (.forLoop target it body [] env))
  | .brk => .pure (.done .next)
  | .ret v => .pure (.done (.ret v))
noncomputable abbrev turnH (env : Env) : Value → Sem Fin := fun e => (do noteFrame e env; theTreesLotGoes e : Sem Unit).wrap (fun _ => .raise e) .raise id id
theorem seg_forLoop {target : Expr} {it : Value} {body : List Stmt}
    (h : wpAny (model prog w) (A.over (.forLoop target it body [] env) fs) (pyNext it) (fun r s₁ => match r with
        | none => Seg (model prog w) A R Y n s₀ (.forLoop target it body [] env) (.pure (.again (.block [] env))) fs s₁
        | some v => wpAny (model prog w) (A.over (.forLoop target it body [] env) fs) (letOwnedTupleGo target it v) (fun _ s₂ => wpAny (model prog w) (A.over (.forLoop target it body [] env) fs) (assign target env v) (fun _ s₃ =>
            Seg (model prog w) A R Y n s₀ (.forLoop target it body [] env) ((execs body env).wrap (turnK target it body env) (turnH env) id id) fs s₃) (fun _ _ => False) s₂) (fun _ _ => False) s₁) (fun _ _ => False) s) :
    Seg (model prog w) A R Y n s₀ (.forLoop target it body [] env) ((model prog w).den (.forLoop target it body [] env)) fs s := by
  show Seg _ A R Y n s₀ _ ((forTurn target it body [] env).onRaise (fun x => do noteFrame x env; theTreesLotGoes x)) fs s
  unfold forTurn
  rw [Sem.onRaise_eq_wrap]
  refine seg_bind_wrap (wpAny_standAt ?_)
  refine seg_bind_wrap (wpAny_onRaise (wpAny_mono h (fun r s₁ h₁ => ?_) fun _ _ e => e.elim))
  cases r with
  | none => exact h₁
  | some v =>
    refine seg_bind_wrap (wpAny_mono h₁ (fun _ s₂ h₂ => ?_) fun _ _ e => e.elim)
    refine seg_bind_wrap (wpAny_mono h₂ (fun _ s₃ h₃ => ?_) fun _ _ e => e.elim)
    rw [Sem.bind_eq_wrap', Sem.wrap_wrap]
    rw [Sem.wrap_congr (execs body env) _ _ (K' := turnK target it body env) (H' := turnH env) (fun f => by cases f <;> rfl)
      (fun e => by first | exact Sem.bind_eq_wrap _ _ | (show (do noteFrame e env; theTreesLotGoes e : Sem Unit).bind (fun _ => .raise e) = _; rw [Sem.bind_eq_wrap]))]
    exact h₃
theorem seg_loopEnd {c : Code} {k : Result → Sem Fin} {h : Option Value} {g : Bool} {l : List Value} {c₁ : Code} {p₁ : Pos} {kp : List Value} (hk : Seg (model prog w) A R Y n s₀ c₁ (k (.ok .next)) fs s) :
    Seg (model prog w) A R Y n s₀ c (.pure (.again (.block [] env))) (.ret k h g l c₁ p₁ kp :: fs) s := by
  refine seg_again rfl ?_
  show Seg _ A R Y n s₀ _ ((execs [] env).onRaise (fun x => do noteFrame x env; theTreesLotGoes x) >>= fun f => pure (.done f)) _ s
  exact seg_leaf (.ok .next) hk
end
noncomputable abbrev sBack : Str := Str.ofString "\\"
noncomputable def escF : Bool → Nat → List Nat → List (Nat × Str)
  | e, i, [] => if e then [(i - 1, sBack)] else []
  | e, i, c :: r => if e then (i, sBack ++ ⟨#[c]⟩) :: escF false (i + 1) r else if c = 92 then escF true (i + 1) r else (i, ⟨#[c]⟩) :: escF false (i + 1) r
noncomputable def Kp (S0 : Nat) (ga : Addr) (h h' : Heap) : Prop := (∀ b o, b < S0 → h.get? b = some o → h'.get? b = some o) ∧ ∀ o, h.get? ga = some o → h'.get? ga = some o
theorem Kp.refl (S0 : Nat) (ga : Addr) (h : Heap) : Kp S0 ga h h := ⟨fun _ _ _ e => e, fun _ e => e⟩
theorem Kp.trans {S0 : Nat} {ga : Addr} {h h' h'' : Heap} (a : Kp S0 ga h h') (b : Kp S0 ga h' h'') : Kp S0 ga h h'' := ⟨fun x o hx e => b.1 x o hx (a.1 x o hx e), fun o e => b.2 o (a.2 o e)⟩
noncomputable def GSince (S0 : Nat) (ga : Addr) (s₀ s : Shared) : Prop := ∃ h' tk, s = { s₀ with heap := h', toks := tk } ∧ Kp S0 ga s₀.heap h' ∧ ∃ o, h'.get? ga = some o
noncomputable def Held (S0 : Nat) (fp : List Addr) (h : Heap) : Prop := ∀ b ∈ fp, S0 ≤ b ∧ ∃ o, h.get? b = some o
noncomputable def escY (h₀ : Heap) (S0 : Nat) (ga : Addr) (T : List (Nat × Str)) : Protocol := fun m s₀ v s kap =>
  (∃ (pos : Nat) (str : Str) (ta : Addr) (t1 t2 : Tok), T[T.length - 1 - m]? = some (pos, str) ∧ v = .ref ta ∧ S0 ≤ ta ∧ s.heap.get? ta = some (tupObj [.int pos t1, .str str t2])) ∧ GSince S0 ga s₀ s ∧
    ∃ fp, Held S0 fp s.heap ∧ ∀ s'' : Shared, (∀ b o, h₀.get? b = some o → s''.heap.get? b = some o) → (∀ b ∈ fp, ∀ o, s.heap.get? b = some o → s''.heap.get? b = some o) → kap (.send .none) s''
noncomputable abbrev escR (S0 : Nat) (ga : Addr) : GenEnd := fun n s₀ r s₁ => r = .ok (.ret .none) ∧ (n = 0 ∧ GSince S0 ga s₀ s₁)
noncomputable def EscAt (w : World) (A : Around) (h₀ : Heap) (S0 : Nat) (ga : Addr) (g : Nat) (T : List (Nat × Str)) (j : Nat) (s : Shared) : Prop :=
  s.heap.IsGen ga g ∧ ∃ gs fp, s.gens[g]? = some gs ∧ Held S0 (ga :: fp) s.heap ∧ ∀ s'' : Shared, (∀ b o, h₀.get? b = some o → s''.heap.get? b = some o) → (∀ b ∈ fp, ∀ o, s.heap.get? b = some o → s''.heap.get? b = some o) →
    gs.Goes (model PySem.Challenge.rw_uq0012_01.row.prog w) A.in1 (escR S0 ga) (escY h₀ S0 ga T) (T.length - j) (.send .none) s''
noncomputable abbrev sPos : Str := Str.ofString "pos"
noncomputable abbrev sEsc : Str := Str.ofString "escape"
structure EC (h₀ : Heap) (S0 : Nat) (ga ee ii : Addr) (T : List (Nat × Str)) (x : Str) (tx : Tok) (i : Nat) (e : Bool) (n : Nat) (s₀ s : Shared) (m : Str → Option Value) : Prop where
  F : Fr h₀ S0 s.heap m
  esc : m sEsc = some (.bool e)
  pos : e = true → ∃ t, m sPos = some (.int ((i : Int) - 1) t)
  i1 : e = true → 1 ≤ i
  en : ∃ old, IsEnum s.heap ee ii i old
  it : s.heap.IsStrIter ii (strIterType x) x tx i
  gs : GSince S0 ga s₀ s
  hn : n = (escF e i (x.cps.toList.drop i)).length
  hT : T.drop (T.length - n) = escF e i (x.cps.toList.drop i)
theorem GSince.step {S0 : Nat} {ga : Addr} {s₀ s : Shared} (g : GSince S0 ga s₀ s) {h' : Heap} {tk : Nat} (k : Kp S0 ga s.heap h') : GSince S0 ga s₀ { s with heap := h', toks := tk } := by
  obtain ⟨h₁, tk₁, rfl, k₁, o, ho⟩ := g
  exact ⟨h', tk, rfl, k₁.trans k, o, k.2 o ho⟩
theorem GSince.has {S0 : Nat} {ga : Addr} {s₀ s : Shared} (g : GSince S0 ga s₀ s) : ∃ o, s.heap.get? ga = some o := by
  obtain ⟨h₁, tk₁, rfl, k₁, o, ho⟩ := g
  exact ⟨o, ho⟩
theorem drawsStr {prog : Program} {w : World} {A : Around} (hh : A.handled = none) (it : Addr) (x : Str) (t : Tok) :
    Draws prog w A it [it] x.cps.size (fun i v => ∃ c u, x.cps[i]? = some c ∧ v = .str ⟨#[c]⟩ u) (fun i h => h.IsStrIter it (strIterType x) x t i) := by
  cases ha : x.cps.all (· < 128)
  · have e : strIterType x = "str_iterator" := by simp [strIterType, ha]
    rw [e]; exact Draws.strWide hh it x t
  · have e : strIterType x = "str_ascii_iterator" := by simp [strIterType, ha]
    rw [e]; exact Draws.strAscii hh it x t
theorem ns_has {h : Heap} {L : Addr} {m : Str → Option Value} (n : h.Ns L m) : ∃ o, h.get? L = some o := by
  obtain ⟨o, _, _, ho, _⟩ := n
  exact ⟨o, ho⟩
theorem it_keep {h h' : Heap} {ii : Addr} {k : String} {x : Str} {tx : Tok} {n : Nat} (i : h.IsStrIter ii k x tx n) (f : ∀ o, h.get? ii = some o → h'.get? ii = some o) : h'.IsStrIter ii k x tx n := by
  obtain ⟨o, ho, r⟩ := i
  exact ⟨o, f o ho, r⟩
theorem notin2 {b ee ii : Nat} (h1 : b < ee) (h2 : b < ii) : b ∉ [ee, ii] := by simp; omega
theorem esc_loop {w : World} {A : Around} {h₀ : Heap} {S0 : Nat} {ga ee ii : Addr} {T : List (Nat × Str)} {x : Str} {tx : Tok} {env : Env} {fs : List Frame} {p1 p2 p3 : Pos} {k1 : Nat} {body : List Stmt}
    (hh : A.handled = none) (hL : env.locals = S0) (hne : ee ≠ ii) (h1 : S0 < ee) (h2 : S0 < ii) (h3 : ga ≠ ee) (h4 : ga ≠ ii) (h5 : S0 < ga) (hab : h₀.objs.size ≤ S0)
    (hfh : (A.over (.forLoop (.Tuple [.Name sPos p1, .Name (Str.ofString "ch") p2] k1 p3) (.ref ee) body [] env) fs).handled = none)
    (hxi : env.kindOf sPos = some .local) (hxc : env.kindOf (Str.ofString "ch") = some .local)
    (hp : (env.scope.kind == .class || (env.scope.kind == .module && env.locals != env.globals)) = false)
    (turn : ∀ (i c : Nat) (e : Bool) (n : Nat) (s₀ s : Shared) (m : Str → Option Value) (t1 t2 : Tok), x.cps.toList[i]? = some c → Fr h₀ S0 s.heap (fun z => if z = Str.ofString "ch" then some (.str ⟨#[c]⟩ t2) else if z = sPos then some (.int (i : Nat) t1) else m z) →
      m sEsc = some (.bool e) → (∃ old, IsEnum s.heap ee ii ((i : Nat) + 1 : Nat) old) → s.heap.IsStrIter ii (strIterType x) x tx (i + 1) → GSince S0 ga s₀ s →
      n = (escF e i (c :: x.cps.toList.drop (i + 1))).length → T.drop (T.length - n) = escF e i (c :: x.cps.toList.drop (i + 1)) →
      (∀ (e' : Bool) (n' : Nat) (s₀' s' : Shared) (m' : Str → Option Value), EC h₀ S0 ga ee ii T x tx (i + 1) e' n' s₀' s' m' →
        Seg (model PySem.Challenge.rw_uq0012_01.row.prog w) A (escR S0 ga) (escY h₀ S0 ga T) n' s₀' (.forLoop (.Tuple [.Name sPos p1, .Name (Str.ofString "ch") p2] k1 p3) (.ref ee) body [] env) (.pure (.again (.forLoop (.Tuple [.Name sPos p1, .Name (Str.ofString "ch") p2] k1 p3) (.ref ee) body [] env))) fs s') →
      Seg (model PySem.Challenge.rw_uq0012_01.row.prog w) A (escR S0 ga) (escY h₀ S0 ga T) n s₀ (.forLoop (.Tuple [.Name sPos p1, .Name (Str.ofString "ch") p2] k1 p3) (.ref ee) body [] env) ((execs body env).wrap (turnK (.Tuple [.Name sPos p1, .Name (Str.ofString "ch") p2] k1 p3) (.ref ee) body env) (turnH env) id id) fs s)
    (fin : ∀ (e : Bool) (n : Nat) (s₀ s : Shared) (m : Str → Option Value), Fr h₀ S0 s.heap m → m sEsc = some (.bool e) → (e = true → ∃ t, m sPos = some (.int ((x.cps.size : Int) - 1) t)) → (e = true → 1 ≤ x.cps.size) → GSince S0 ga s₀ s → n = (escF e x.cps.size []).length → T.drop (T.length - n) = escF e x.cps.size [] →
      Seg (model PySem.Challenge.rw_uq0012_01.row.prog w) A (escR S0 ga) (escY h₀ S0 ga T) n s₀ (.forLoop (.Tuple [.Name sPos p1, .Name (Str.ofString "ch") p2] k1 p3) (.ref ee) body [] env) (.pure (.again (.block [] env))) fs s) :
    ∀ (k i : Nat) (e : Bool) (n : Nat) (s₀ s : Shared) (m : Str → Option Value), x.cps.size - i = k → i ≤ x.cps.size → EC h₀ S0 ga ee ii T x tx i e n s₀ s m →
      Seg (model PySem.Challenge.rw_uq0012_01.row.prog w) A (escR S0 ga) (escY h₀ S0 ga T) n s₀ (.forLoop (.Tuple [.Name sPos p1, .Name (Str.ofString "ch") p2] k1 p3) (.ref ee) body [] env) ((model PySem.Challenge.rw_uq0012_01.row.prog w).den (.forLoop (.Tuple [.Name sPos p1, .Name (Str.ofString "ch") p2] k1 p3) (.ref ee) body [] env)) fs s := by
  have W := WalksT.enumerateD (drawsStr (prog := PySem.Challenge.rw_uq0012_01.row.prog) (w := w) (A := (A.over (.forLoop (.Tuple [.Name sPos p1, .Name (Str.ofString "ch") p2] k1 p3) (.ref ee) body [] env) fs).in1) hfh ii x tx) ee hne (by simp [hne]) (by simp)
  have kp0 : ∀ h h' : Heap, (∀ b o, b ∉ [ee, ii] → h.get? b = some o → h'.get? b = some o) → Kp S0 ga h h' := fun h h' hk => ⟨fun b o hb e => hk b o (notin2 (Nat.lt_trans hb h1) (Nat.lt_trans hb h2)) e, fun o e => hk ga o (by simp [h3, h4]) e⟩
  intro k
  induction k with
  | zero =>
    intro i e n s₀ s m hk hi C
    have hin : i = x.cps.size := Nat.le_antisymm hi (Nat.le_of_sub_eq_zero hk)
    subst hin
    refine seg_forLoop ?_
    refine W.done s _ _ ⟨C.en, C.it⟩ fun h' tk hk' => ?_
    have hd : x.cps.toList.drop x.cps.size = [] := List.drop_of_length_le (by simp)
    have hn := C.hn
    have hT := C.hT
    rw [hd] at hn hT
    refine fin e n s₀ _ m ⟨C.F.ns.at' fun o q => hk' _ o (notin2 h1 h2) q, fun b o q => hk' b o (notin2 (Nat.lt_trans (Nat.lt_of_lt_of_le (Heap.lt_size q) hab) h1) (Nat.lt_trans (Nat.lt_of_lt_of_le (Heap.lt_size q) hab) h2)) (C.F.keep b o q), C.F.above⟩ C.esc C.pos C.i1 (C.gs.step (kp0 _ _ hk')) hn hT
  | succ k ih =>
    intro i e n s₀ s m hk hi C
    have hlt : i < x.cps.size := Nat.lt_of_sub_eq_succ hk
    refine seg_forLoop ?_
    refine W.item i s _ _ hlt ⟨C.en, C.it⟩ fun Tu vals h₁ tk₁ hPt hge hTu hMid hk₁ => ?_
    obtain ⟨t1, v, ⟨c, t2, hc, rfl⟩, rfl⟩ := hPt
    refine W.go _ k1 p3 i Tu _ _ _ hMid fun h₂ hst₂ hk₂ => ?_
    have ht₂ : h₂.IsTuple Tu #[.int i t1, .str ⟨#[c]⟩ t2] := hTu.at fun o e => hk₂ Tu o (W.apart i Tu h₁ hMid) e
    refine wpAny_assign_Tuple hfh ht₂ rfl rfl fun h₃ hx₃ => ?_
    replace hx₃ : Heap.ExtBut h₂.objs.size h₂ h₃ := hx₃
    have up₃ : ∀ b o, h₂.get? b = some o → h₃.get? b = some o := fun b o x => hx₃ b o (Nat.ne_of_lt (Heap.lt_size x)) x
    have all₃ : ∀ b o, b ∉ [ee, ii] → s.heap.get? b = some o → h₃.get? b = some o := fun b o hb q => up₃ b o (hk₂ b o hb (hk₁ b o hb q))
    have F₃ : Fr h₀ S0 h₃ m := ⟨C.F.ns.at' fun o q => all₃ _ o (notin2 h1 h2) q, fun b o q => all₃ b o (notin2 (Nat.lt_trans (Nat.lt_of_lt_of_le (Heap.lt_size q) hab) h1) (Nat.lt_trans (Nat.lt_of_lt_of_le (Heap.lt_size q) hab) h2)) (C.F.keep b o q), C.F.above⟩
    have hst₃ := W.frame _ _ _ hst₂ fun b _ o q => up₃ b o q
    show wpAny _ _ (do holding [_] (assign (.Name sPos p1) env _); holding [] (assign (.Name _ p2) env _); pure ()) _ _ _
    refine wpAny_bind (wpAny_holding (wpAny_assign_Name (wpAny_storeName_local hxi (by rw [hL]; exact F₃.ns) (fun h₄ hn₄ hs₄ => ?_) hp)))
    rw [hL] at hn₄ hs₄
    have F₄ := F₃.set hn₄ hs₄
    refine wpAny_bind (wpAny_holding (wpAny_assign_Name (wpAny_storeName_local hxc (by rw [hL]; exact F₄.ns) (fun h₅ hn₅ hs₅ => wpAny_pure ?_) hp)))
    rw [hL] at hn₅ hs₅
    have F₅ := F₄.set hn₅ hs₅
    have two : ∀ b o, b ≠ S0 → h₃.get? b = some o → h₅.get? b = some o := fun b o hb q => hs₅.extBut b o hb (hs₄.extBut b o hb q)
    have hst₅ := W.frame _ _ _ hst₃ fun b hb o q => two b o (by
      rcases List.mem_cons.mp hb with r | hb
      · exact fun z => Nat.ne_of_gt h1 (r.symm.trans z)
      · exact fun z => Nat.ne_of_gt h2 ((List.mem_singleton.mp hb).symm.trans z)) q
    have hd : x.cps.toList.drop i = c :: x.cps.toList.drop (i + 1) := by
      rw [List.drop_eq_getElem_cons (by simpa using hlt)]
      have : x.cps.toList[i]'(by simpa using hlt) = c := by
        have := hc
        rw [← Array.getElem?_toList, List.getElem?_eq_getElem (by simpa using hlt)] at this
        exact Option.some.inj this
      rw [this]
    have hn := C.hn
    have hT := C.hT
    rw [hd] at hn hT
    refine turn i c e n s₀ _ m t1 t2 (by rw [← hc]; simp) F₅ C.esc hst₅.1 hst₅.2 (C.gs.step ⟨fun b o hb q => two b o (Nat.ne_of_lt hb) (all₃ b o (notin2 (Nat.lt_trans hb h1) (Nat.lt_trans hb h2)) q), fun o q => two ga o (Nat.ne_of_gt h5) (all₃ ga o (by simp [h3, h4]) q)⟩) hn hT fun e' n' s₀' s' m' C' => ?_
    exact seg_again rfl (ih (i + 1) e' n' s₀' s' m' (by rw [← Nat.sub_sub, hk]; rfl) hlt C')
theorem code_gen {prog : Program} {w : World} {A : Around} {s : Shared} {K : Frag} {h₀ : Heap} {L : Addr} {m : Str → Option Value} {R : Result → Shared → Prop} {name qual : Str} {params : Arguments} {body : List Stmt} {scope : Scope} {dV kV doc pm cdv ct oc : Value} {an od : Option Addr} {osl : Array (Option Value)} {f : Addr} {args : Args} {binds : List (Str × Value)}
    (F : Fr h₀ L s.heap m) (X₀ : K.In h₀) (hlim : h₀.NoLimit) (ho : K.lookup f = some ⟨oc, od, .func (fnOf name qual params body scope dV kV doc pm an cdv ct), osl⟩) (hcd : codeIn K cdv qual = true) (hroom : A.depth < recursionLimit)
    (hbind : BindsTo s (fnOf name qual params body scope dV kV doc pm an cdv ct) args binds) (hloc : ∀ y ∈ binds, scope.names.lookup y.1 = some .local)
    (h : ∀ h₁, h₁.Ns s.heap.objs.size (fun y => binds.reverse.lookup y) → Heap.SameBut s.heap.objs.size (s.heap.push { cls := .type "frame", data := .dict #[] }) h₁ →
      R (.ok (.ret (.ref h₁.objs.size))) { s with gens := s.gens.push (.fresh (.func body (envOf qual scope s.heap.objs.size f cdv))), toks := s.toks + binds.length + 1 + 1, heap := h₁.push { cls := .type "generator", data := .fields #[.int s.gens.size 0, .str name (s.toks + binds.length), .str qual (s.toks + binds.length + 1)] } })
    (hco : scope.isCoroutine = false) (hgen : scope.isGenerator = true) (hk : scope.kind = .function) (hcell : ∀ x ∈ scope.names, x.2 ≠ .cell) : codeAny (model prog w) A (.call (.ref f) args) R s := by
  refine codeAny_call_generator hroom ((X₀.keeps F.keep) _ _ ho) rfl hco hgen rfl (codeRec_of (X₀.keeps F.keep) hcd) ?_
  refine hbind _ _ _ _ ?_
  refine wpAny_newFunctionEnv hcell hloc (fun h₁ hns hsb => ⟨(hlim.keeps F.keep).fresh _ hsb, ?_⟩) hk
  exact h h₁ hns hsb
theorem kp_of {h₀ h h' : Heap} {S0 : Nat} {ga : Addr} {fp : List Addr} {m m' : Str → Option Value} {news' : Led} (F : Fr h₀ S0 h m) (F' : Fr h₀ S0 h' m') (N' : News h₀ S0 h' news') (hs : ∀ p ∈ ownOf h₀ fp h, p ∈ news') (h1 : ga ∈ fp) (h2 : ∀ b, b < S0 → b ∈ fp) : Kp S0 ga h h' := by
  have one : ∀ b, b ∈ fp → ∀ o, h.get? b = some o → h'.get? b = some o := by
    intro b hb o ho
    cases q : h₀.get? b with
    | some o₀ =>
      have := F.keep b o₀ q
      rw [ho] at this
      cases this
      exact F'.keep b _ q
    | none => exact (N' _ (hs _ (mem_ownOf hb q ho))).1
  exact ⟨fun b o hb e => one b (h2 b hb) o e, fun o e => one ga h1 o e⟩
@[reducible] noncomputable def frM {h₀ h : Heap} {L : Addr} {m : Str → Option Value} (_ : Fr h₀ L h m) : Str → Option Value := m
theorem frC {h₀ h : Heap} {L : Addr} {m m' : Str → Option Value} (F : Fr h₀ L h m) (e : ∀ z, m z = m' z) : Fr h₀ L h m' := funext e ▸ F
theorem kept_of {h₀ h h' : Heap} {S0 : Nat} {fp : List Addr} {m m' : Str → Option Value} {news' : Led} (F : Fr h₀ S0 h m) (F' : Fr h₀ S0 h' m') (N' : News h₀ S0 h' news') (hs : ∀ p ∈ ownOf h₀ fp h, p ∈ news') : ∀ b, b ∈ fp → ∀ o, h.get? b = some o → h'.get? b = some o := by
  intro b hb o ho
  cases q : h₀.get? b with
  | some o₀ =>
    have := F.keep b o₀ q
    rw [ho] at this
    cases this
    exact F'.keep b _ q
  | none => exact (N' _ (hs _ (mem_ownOf hb q ho))).1
theorem tokAt {α : Type} {T : List α} {n : Nat} {tok : α} {rest : List α} (h : T.drop (T.length - (n + 1)) = tok :: rest) (hn : n = rest.length) : T[T.length - 1 - n]? = some tok ∧ T.drop (T.length - n) = rest := by
  have hl := congrArg List.length h
  simp only [List.length_drop, List.length_cons] at hl
  have hle : n + 1 ≤ T.length := by rw [hn, ← hl]; exact Nat.sub_le _ _
  have e : T.length - 1 - n = T.length - (n + 1) := by rw [Nat.sub_sub, Nat.add_comm]
  have e2 : T.length - n = T.length - (n + 1) + 1 := by rw [← Nat.sub_sub, Nat.sub_add_cancel (Nat.le_sub_of_add_le (Nat.add_comm 1 n ▸ hle))]
  refine ⟨?_, ?_⟩
  · rw [e, ← List.head?_drop, h]; rfl
  · rw [e2, ← List.drop_drop, h]; rfl
theorem carry {h₀ h : Heap} {S0 : Nat} {ga ee ii : Addr} {m : Str → Option Value} (F : Fr h₀ S0 h m) (b1 : S0 < ga) (b2 : S0 < ee) (b3 : S0 < ii) :
    News h₀ S0 h (ownOf h₀ (ga :: ee :: ii :: List.range S0) h) ∧ ∀ (h' : Heap) (m' : Str → Option Value) (news' : Led), Fr h₀ S0 h' m' → News h₀ S0 h' news' → (∀ p ∈ ownOf h₀ (ga :: ee :: ii :: List.range S0) h, p ∈ news') →
      ∀ b, b ∈ ga :: ee :: ii :: List.range S0 → ∀ o, h.get? b = some o → h'.get? b = some o := by
  refine ⟨news_ownOf ?_, fun h' m' news' F' N' hs => kept_of F F' N' hs⟩
  intro hm
  rcases List.mem_cons.mp hm with e | hm
  · exact absurd e (Nat.ne_of_lt b1)
  rcases List.mem_cons.mp hm with e | hm
  · exact absurd e (Nat.ne_of_lt b2)
  rcases List.mem_cons.mp hm with e | hm
  · exact absurd e (Nat.ne_of_lt b3)
  exact absurd (List.mem_range.mp hm) (Nat.lt_irrefl _)
theorem esc0a (l : List Nat) : (escF false 0 l).length - 0 = (escF false 0 (l.drop 0)).length := by simp
theorem esc0b (l : List Nat) : (escF false 0 l).drop ((escF false 0 l).length - ((escF false 0 l).length - 0)) = escF false 0 (l.drop 0) := by simp
theorem esc_call (w mean mg mb) (x : Str) (tx : Tok) (hl : x.length < 1000)
    (dp un : Nat) (gd : Option (List Code)) (cn : Str) (cs : Scope) (a : Addr) (ccd : Value) (cl : List (Str × Addr)) (outer : List Env) (h₀ : Heap) (L : Addr) (m : Str → Option Value) (news : Led) (s : Shared) (Q E : Value → Shared → Prop)
    (F : Fr h₀ L s.heap m) (X : (hd.heap_39 w.params).In h₀) (N : News h₀ L s.heap news) (T : Top hd.view_39 (looseW hd.view_39 [Str.ofString "bisect_left", Str.ofString "Whitespace"]) mean mg mb h₀)
    (hd : dp + 10 < recursionLimit) (hu : un + 100 < cLine)
    (hret : ∀ (ga : Addr) (h' : Heap) (tk' : Nat) (gs : GenState), Fr h₀ L h' m → News h₀ L h' news → s.heap.objs.size ≤ ga → gs.bare = true →
      EscAt w (ktrTop dp un gd cn cs L a ccd cl outer) h₀ s.heap.objs.size ga s.gens.size (escF false 0 x.cps.toList) 0 { s with heap := h', toks := tk', gens := s.gens.push gs } → Q (.ref ga) { s with heap := h', toks := tk', gens := s.gens.push gs }) :
    wpAny (model PySem.Challenge.rw_uq0012_01.row.prog w) (ktrTop dp un gd cn cs L a ccd cl outer) (call (.ref 28) [.str x tx]) Q E s := by
  w_on
  revert hret X
  k_fill
  intro X hret
  refine wpAny_call ?_
  have hlim := T.nolimit
  k_dflt (refine' code_gen F ?k2 hlim ?k6 ?k7 ?k8 ?k9 ?kB ?_ ?c2 ?c3 ?c4 ?c5)
  case k2 => exact X
  case k6 => k_dflt k_is
  case k7 => k_dflt k_is
  case k8 => ktr_room
  case k9 => exact BindsTo.of_eq rfl
  case kB => exact locs rfl
  case c2 => exact rfl
  case c3 => exact rfl
  case c4 => exact rfl
  case c5 => decide
  intro h₁ hns hsb
  have hk₁ : ∀ b o, s.heap.get? b = some o → h₁.get? b = some o := fun b o e => hsb.extBut b o (Nat.ne_of_lt (Heap.lt_size e)) (Heap.get?_push_of_some _ e)
  have hlt : s.heap.objs.size < h₁.objs.size := by rw [hsb.1, Heap.size_push]; exact Nat.lt_succ_self _
  refine hret h₁.objs.size _ _ _ (F.keeps fun b o e => Heap.get?_push_of_some _ (hk₁ b o e)) (fun p hp => ⟨Heap.get?_push_of_some _ (hk₁ _ _ (N p hp).1), (N p hp).2⟩) (Nat.le_of_lt hlt) rfl ?_
  have hC : ∃ o, h₁.get? s.heap.objs.size = some o := by obtain ⟨o, _, _, ho, _⟩ := hns; exact ⟨o, ho⟩
  refine ⟨⟨_, _, _, Heap.get?_push_size _ rfl, rfl, rfl, rfl⟩, _, [s.heap.objs.size, h₁.objs.size], Array.getElem?_push_size .., ?_, fun s2 hb hf => ⟨rfl, ?_⟩⟩
  · intro b hb
    rcases List.mem_cons.mp hb with rfl | hb
    · exact ⟨Nat.le_of_lt hlt, _, Heap.get?_push_size _ rfl⟩
    · rcases List.mem_cons.mp hb with rfl | hb
      · obtain ⟨o, ho⟩ := hC
        exact ⟨Nat.le_refl _, o, Heap.get?_push_of_some _ ho⟩
      · rw [List.mem_singleton.mp hb]
        exact ⟨Nat.le_of_lt hlt, _, Heap.get?_push_size _ rfl⟩
  have FC : Fr h₀ s.heap.objs.size s2.heap _ := ⟨(hns.push _).at' fun o e => hf _ (.head _) o e, hb, Nat.le_trans F.above (Nat.le_of_lt F.ns.lt)⟩
  generalize hS0 : s.heap.objs.size = S0 at *
  generalize hga : h₁.objs.size = ga at *
  have hab : h₀.objs.size ≤ S0 := FC.above
  have hgas : ∃ o, s2.heap.get? ga = some o := ⟨_, hf ga (.tail _ (.head _)) _ (by rw [← hga]; exact Heap.get?_push_size _ rfl)⟩
  clear hret hf hC hk₁ hsb hns
  have hCn : S0 ∉ ga :: List.range S0 := by
    intro hm
    rcases List.mem_cons.mp hm with e | hm
    · exact absurd e (Nat.ne_of_lt hlt)
    · exact absurd (List.mem_range.mp hm) (Nat.lt_irrefl _)
  have NC : News h₀ S0 s2.heap (ownOf h₀ (ga :: List.range S0) s2.heap) := news_ownOf hCn
  have KP : ∀ (h' : Heap) (m' : Str → Option Value) (news' : Led), Fr h₀ S0 h' m' → News h₀ S0 h' news' → (∀ p ∈ ownOf h₀ (ga :: List.range S0) s2.heap, p ∈ news') → Kp S0 ga s2.heap h' := fun h' m' news' F' N' hs => kp_of FC F' N' hs (.head _) (fun b hb => .tail _ (List.mem_range.mpr hb))
  refine seg_func ?_
  refine seg_execs_cons (seg_wrap ?_)
  (repeat' ((fail_if_success (with_reducible show wpAny _ _ (exec (Stmt.While _ _ _ _) _) _ _ _)); (fail_if_success (with_reducible show wpAny _ _ (exec (Stmt.For _ _ _ _ _) _) _ _ _)); (fail_if_success (with_reducible show wpAny _ _ (execs (Stmt.For _ _ _ _ _ :: _) _) _ _ _)); (fail_if_success (with_reducible show wpAny _ _ (call (Value.ref _) _ _) _ _ _)); (fail_if_success (with_reducible show wpAny _ _ (pyIter _) _ _ _)); (fail_if_success (with_reducible show InvEndN _ _ _ _ _ _ _)); (fail_if_success (with_reducible show wpAny _ _ (call (Value.type "tuple") [Value.ref _] _) _ _ _)); (fail_if_success (with_reducible show wpAny _ _ (call (Value.type "enumerate") [Value.str _ _] _) _ _ _)); (first | (((with_reducible show wpAny _ _ (binaryOp Operator.Add (Value.str _ _) (Value.str _ _)) _ _ _); refine PyProof.Rows.add_str (hsz := ?hsz) ?_; (case hsz => (((try simp only [Str.length_append, len_open, len_shut, len_tab, len_blank, len_back, Int.toNat_natCast]); rw [sizeLine_eq]; omega))); intro _ _)) | (((with_reducible show wpAny _ _ (call (Value.builtin "len") [Value.ref _]) _ _ _); (refine' my_lenTup ?qN ?qm ?qi ?qb ?_; (case qN => k_asm); (case qm => k_mem); (case qi => assumption); (case qb => omega)))) | (k_unfold; (try dsimp only)) | (walk1 <;> try dsimp only) | (dsimp only; walk1) | (leave1; walk_say "STEP leave1"; try dsimp only))))
  try dsimp only
  refine seg_execs_cons (seg_wrap ?_)
  (repeat' ((fail_if_success (with_reducible show wpAny _ _ (exec (Stmt.While _ _ _ _) _) _ _ _)); (fail_if_success (with_reducible show wpAny _ _ (exec (Stmt.For _ _ _ _ _) _) _ _ _)); (fail_if_success (with_reducible show wpAny _ _ (execs (Stmt.For _ _ _ _ _ :: _) _) _ _ _)); (fail_if_success (with_reducible show wpAny _ _ (call (Value.ref _) _ _) _ _ _)); (fail_if_success (with_reducible show wpAny _ _ (pyIter _) _ _ _)); (fail_if_success (with_reducible show InvEndN _ _ _ _ _ _ _)); (fail_if_success (with_reducible show wpAny _ _ (call (Value.type "tuple") [Value.ref _] _) _ _ _)); (fail_if_success (with_reducible show wpAny _ _ (call (Value.type "enumerate") [Value.str _ _] _) _ _ _)); (first | (((with_reducible show wpAny _ _ (binaryOp Operator.Add (Value.str _ _) (Value.str _ _)) _ _ _); refine PyProof.Rows.add_str (hsz := ?hsz) ?_; (case hsz => (((try simp only [Str.length_append, len_open, len_shut, len_tab, len_blank, len_back, Int.toNat_natCast]); rw [sizeLine_eq]; omega))); intro _ _)) | (((with_reducible show wpAny _ _ (call (Value.builtin "len") [Value.ref _]) _ _ _); (refine' my_lenTup ?qN ?qm ?qi ?qb ?_; (case qN => k_asm); (case qm => k_mem); (case qi => assumption); (case qb => omega)))) | (k_unfold; (try dsimp only)) | (walk1 <;> try dsimp only) | (dsimp only; walk1) | (leave1; walk_say "STEP leave1"; try dsimp only))))
  try dsimp only
  refine seg_execs_cons (seg_For (fun _ => rfl) ?_)
  (repeat' ((fail_if_success (with_reducible show wpAny _ _ (exec (Stmt.While _ _ _ _) _) _ _ _)); (fail_if_success (with_reducible show wpAny _ _ (exec (Stmt.For _ _ _ _ _) _) _ _ _)); (fail_if_success (with_reducible show wpAny _ _ (execs (Stmt.For _ _ _ _ _ :: _) _) _ _ _)); (fail_if_success (with_reducible show wpAny _ _ (call (Value.ref _) _ _) _ _ _)); (fail_if_success (with_reducible show wpAny _ _ (pyIter _) _ _ _)); (fail_if_success (with_reducible show InvEndN _ _ _ _ _ _ _)); (fail_if_success (with_reducible show wpAny _ _ (call (Value.type "tuple") [Value.ref _] _) _ _ _)); (fail_if_success (with_reducible show wpAny _ _ (call (Value.type "enumerate") [Value.str _ _] _) _ _ _)); (first | (((with_reducible show wpAny _ _ (binaryOp Operator.Add (Value.str _ _) (Value.str _ _)) _ _ _); refine PyProof.Rows.add_str (hsz := ?hsz) ?_; (case hsz => (((try simp only [Str.length_append, len_open, len_shut, len_tab, len_blank, len_back, Int.toNat_natCast]); rw [sizeLine_eq]; omega))); intro _ _)) | (((with_reducible show wpAny _ _ (call (Value.builtin "len") [Value.ref _]) _ _ _); (refine' my_lenTup ?qN ?qm ?qi ?qb ?_; (case qN => k_asm); (case qm => k_mem); (case qi => assumption); (case qb => omega)))) | (k_unfold; (try dsimp only)) | (walk1 <;> try dsimp only) | (dsimp only; walk1) | (leave1; walk_say "STEP leave1"; try dsimp only))))
  rename Fr _ _ _ _ => F3
  rename News _ _ _ _ => N3
  have k3 := KP _ _ _ F3 N3 (fun p hp => hp)
  have hS3 := F3.ns.lt
  refine call_enumerate_str fun h4 he hit hsz4 hk4 => ?_
  (repeat' ((fail_if_success (with_reducible show wpAny _ _ (exec (Stmt.While _ _ _ _) _) _ _ _)); (fail_if_success (with_reducible show wpAny _ _ (exec (Stmt.For _ _ _ _ _) _) _ _ _)); (fail_if_success (with_reducible show wpAny _ _ (execs (Stmt.For _ _ _ _ _ :: _) _) _ _ _)); (fail_if_success (with_reducible show wpAny _ _ (call (Value.ref _) _ _) _ _ _)); (fail_if_success (with_reducible show wpAny _ _ (pyIter _) _ _ _)); (fail_if_success (with_reducible show InvEndN _ _ _ _ _ _ _)); (fail_if_success (with_reducible show wpAny _ _ (call (Value.type "tuple") [Value.ref _] _) _ _ _)); (fail_if_success (with_reducible show wpAny _ _ (call (Value.type "enumerate") [Value.str _ _] _) _ _ _)); (first | (((with_reducible show wpAny _ _ (binaryOp Operator.Add (Value.str _ _) (Value.str _ _)) _ _ _); refine PyProof.Rows.add_str (hsz := ?hsz) ?_; (case hsz => (((try simp only [Str.length_append, len_open, len_shut, len_tab, len_blank, len_back, Int.toNat_natCast]); rw [sizeLine_eq]; omega))); intro _ _)) | (((with_reducible show wpAny _ _ (call (Value.builtin "len") [Value.ref _]) _ _ _); (refine' my_lenTup ?qN ?qm ?qi ?qb ?_; (case qN => k_asm); (case qm => k_mem); (case qi => assumption); (case qb => omega)))) | (k_unfold; (try dsimp only)) | (walk1 <;> try dsimp only) | (dsimp only; walk1) | (leave1; walk_say "STEP leave1"; try dsimp only))))
  refine wpAny_pyIter_enum he ?_
  intro p
  have F4 := F3.keeps hk4
  refine' esc_loop (ga := ga) (S0 := S0) (T := escF false 0 x.cps.toList) (x := x) (tx := tx) ?hh ?hL (Nat.succ_ne_self _) ?o1 ?o2 ?o3 ?o4 ?o5 hab ?hfh ?hx1 ?hx2 ?hx3 ?turn ?fin x.cps.size 0 false _ _ _ (frM F4) ?hk0 (Nat.zero_le _) ?hEC
  case hh => rfl
  case hL => rfl
  case hx1 => rfl
  case hx2 => rfl
  case hx3 => rfl
  case hk0 => rfl
  case hfh => rfl
  case o1 => exact Nat.lt_succ_of_lt hS3
  case o2 => exact hS3
  case o5 => exact hlt
  case o3 => obtain ⟨o, ho⟩ := hgas; exact Nat.ne_of_lt (Nat.lt_succ_of_lt (Heap.lt_size (k3.2 o ho)))
  case o4 => obtain ⟨o, ho⟩ := hgas; exact Nat.ne_of_lt (Heap.lt_size (k3.2 o ho))
  case hEC =>
    refine { F := F4, esc := ?_, pos := fun e => Bool.noConfusion e, i1 := fun e => Bool.noConfusion e, en := ⟨_, he⟩, it := hit, gs := ⟨_, _, rfl, k3.trans ⟨fun b o _ e => hk4 b o e, fun o e => hk4 ga o e⟩, hgas.imp fun o ho => hk4 ga o (k3.2 o ho)⟩, hn := esc0a _, hT := esc0b _ }
    exact if_pos rfl
  case turn =>
    clear KP F4 he hit hk4 k3 F3 N3
    intro i c e n s₀ s m' t1 t2 hc Fm hesc hen hit hgs hn hT again
    generalize hee : Nat.succ _ = ee at hen again ⊢
    generalize hii : Array.size _ = ii at hen hit again
    have b1 : S0 < ga := hlt
    have b2 : S0 < ii := by rw [← hii]; exact hS3
    have b3 : S0 < ee := by rw [← hee]; exact Nat.lt_succ_of_lt hS3
    have F5 : Fr h₀ S0 s.heap (fun z => if z = Str.ofString "ch" then some (.str ⟨#[c]⟩ t2) else if z = Str.ofString "pos" then some (.int (i : Nat) t1) else if z = Str.ofString "escape" then some (.bool e) else m' z) := frC Fm fun z => by
      by_cases q : z = Str.ofString "escape"
      · rw [q]; exact hesc
      · simp only [if_neg q]
    clear Fm
    obtain ⟨NT, KA⟩ := carry (ee := ee) (ii := ii) F5 b1 b3 b2
    have hii' : ∃ o, s.heap.get? ii = some o := hit.imp fun _ h => h.1
    have hiin : h₀.get? ii = none := Heap.get?_none_of_le (Nat.le_trans hab (Nat.le_of_lt b2))
    have heS : ∃ o, s.heap.get? ee = some o := hen.elim fun _ h => ⟨_, h⟩
    have hCS : ∃ o, s.heap.get? S0 = some o := ns_has F5.ns
    cases e with
    | true =>
      obtain ⟨n', rfl, hn'⟩ : ∃ n', n = n' + 1 ∧ n' = (escF false (i + 1) (x.cps.toList.drop (i + 1))).length := ⟨_, hn, rfl⟩
      obtain ⟨hat, hT'⟩ := tokAt hT hn'
      refine seg_execs_cons (seg_If ?_)
      (repeat' ((fail_if_success (with_reducible show wpAny _ _ (exec (Stmt.While _ _ _ _) _) _ _ _)); (fail_if_success (with_reducible show wpAny _ _ (exec (Stmt.For _ _ _ _ _) _) _ _ _)); (fail_if_success (with_reducible show wpAny _ _ (execs (Stmt.For _ _ _ _ _ :: _) _) _ _ _)); (fail_if_success (with_reducible show wpAny _ _ (call (Value.ref _) _ _) _ _ _)); (fail_if_success (with_reducible show wpAny _ _ (pyIter _) _ _ _)); (fail_if_success (with_reducible show InvEndN _ _ _ _ _ _ _)); (fail_if_success (with_reducible show wpAny _ _ (call (Value.type "tuple") [Value.ref _] _) _ _ _)); (fail_if_success (with_reducible show wpAny _ _ (call (Value.type "enumerate") [Value.str _ _] _) _ _ _)); (first | (((with_reducible show wpAny _ _ (binaryOp Operator.Add (Value.str _ _) (Value.str _ _)) _ _ _); refine PyProof.Rows.add_str (hsz := ?hsz) ?_; (case hsz => (((try simp only [Str.length_append, len_open, len_shut, len_tab, len_blank, len_back, Int.toNat_natCast]); rw [sizeLine_eq]; omega))); intro _ _)) | (((with_reducible show wpAny _ _ (call (Value.builtin "len") [Value.ref _]) _ _ _); (refine' my_lenTup ?qN ?qm ?qi ?qb ?_; (case qN => k_asm); (case qm => k_mem); (case qi => assumption); (case qb => omega)))) | (k_unfold; (try dsimp only)) | (walk1 <;> try dsimp only) | (dsimp only; walk1) | (leave1; walk_say "STEP leave1"; try dsimp only))))
      (try dsimp only)
      (try rw [if_pos rfl])
      refine seg_execs_cons (seg_Expr_Yield rfl rfl rfl ?_)
      (repeat' ((fail_if_success (with_reducible show wpAny _ _ (exec (Stmt.While _ _ _ _) _) _ _ _)); (fail_if_success (with_reducible show wpAny _ _ (exec (Stmt.For _ _ _ _ _) _) _ _ _)); (fail_if_success (with_reducible show wpAny _ _ (execs (Stmt.For _ _ _ _ _ :: _) _) _ _ _)); (fail_if_success (with_reducible show wpAny _ _ (call (Value.ref _) _ _) _ _ _)); (fail_if_success (with_reducible show wpAny _ _ (pyIter _) _ _ _)); (fail_if_success (with_reducible show InvEndN _ _ _ _ _ _ _)); (fail_if_success (with_reducible show wpAny _ _ (call (Value.type "tuple") [Value.ref _] _) _ _ _)); (fail_if_success (with_reducible show wpAny _ _ (call (Value.type "enumerate") [Value.str _ _] _) _ _ _)); (first | (((with_reducible show wpAny _ _ (binaryOp Operator.Add (Value.str _ _) (Value.str _ _)) _ _ _); refine PyProof.Rows.add_str (hsz := ?hsz) ?_; (case hsz => (((try simp only [Str.length_append, len_open, len_shut, len_tab, len_blank, len_back, Int.toNat_natCast]); rw [sizeLine_eq]; omega))); intro _ _)) | (((with_reducible show wpAny _ _ (call (Value.builtin "len") [Value.ref _]) _ _ _); (refine' my_lenTup ?qN ?qm ?qi ?qb ?_; (case qN => k_asm); (case qm => k_mem); (case qi => assumption); (case qb => omega)))) | (k_unfold; (try dsimp only)) | (walk1 <;> try dsimp only) | (dsimp only; walk1) | (leave1; walk_say "STEP leave1"; try dsimp only))))
      rename_i F7 N7 l1 kap go
      have k7 := KA _ _ _ F7 N7 (fun p hp => .tail _ hp)
      refine ⟨⟨i, _, _, t1, _, hat, rfl, ?_, (N7 _ (.head _)).1⟩, hgs.step ⟨fun b o hb => k7 b (.tail _ (.tail _ (.tail _ (List.mem_range.mpr hb)))) o, k7 ga (.head _)⟩, [ga, S0, ee, ii], ?_, fun s3 hh3 hk3 => go .none s3 ?_⟩
      · obtain ⟨o, ho⟩ := hii'
        exact Nat.le_of_lt (Nat.lt_trans b2 (l1 _ (mem_ownOf (.tail _ (.tail _ (.head _))) hiin ho)))
      · intro b hb
        rcases List.mem_cons.mp hb with rfl | hb
        · exact ⟨Nat.le_of_lt b1, hgs.has.imp fun o => k7 _ (.head _) o⟩
        have h2 : S0 ≤ b ∧ ∃ o, s.heap.get? b = some o := by
          rcases List.mem_cons.mp hb with rfl | hb
          · exact ⟨Nat.le_refl _, hCS⟩
          rcases List.mem_cons.mp hb with rfl | hb
          · exact ⟨Nat.le_of_lt b3, heS⟩
          · rw [List.mem_singleton.mp hb]; exact ⟨Nat.le_of_lt b2, hii'⟩
        refine ⟨h2.1, ?_⟩
        obtain ⟨o, ho⟩ := h2.2
        rcases List.mem_cons.mp hb with rfl | hb
        · exact ns_has F7.ns
        · exact ⟨o, k7 b (.tail _ (by rcases List.mem_cons.mp hb with rfl | hb
                                      · exact .head _
                                      · rw [List.mem_singleton.mp hb]; exact .tail _ (.head _))) o ho⟩
      · have F8 : Fr h₀ S0 s3.heap _ := ⟨F7.ns.at' fun o e => hk3 _ (.tail _ (.head _)) o e, hh3, F7.above⟩
        have en8 : ∃ old, IsEnum s3.heap ee ii ((i + 1 : Nat) : Int) old := hen.imp fun _ e => hk3 ee (.tail _ (.tail _ (.head _))) _ (k7 ee (.tail _ (.head _)) _ e)
        have it8 : s3.heap.IsStrIter ii (strIterType x) x tx (i + 1) := it_keep hit fun o ho => hk3 ii (.tail _ (.tail _ (.tail _ (.head _)))) _ (k7 ii (.tail _ (.tail _ (.head _))) _ ho)
        have hga3 : ∃ o, s3.heap.get? ga = some o := hgs.has.imp fun o ho => hk3 ga (.head _) o (k7 ga (.head _) o ho)
        obtain ⟨N8, K8⟩ := carry (ee := ee) (ii := ii) F8 b1 b3 b2
        clear KA N7 k7 go F7
        show Seg _ _ _ _ _ _ _ _ _ _
        try dsimp only
        refine seg_execs_cons (seg_wrap ?_)
        (repeat' ((fail_if_success (with_reducible show wpAny _ _ (exec (Stmt.While _ _ _ _) _) _ _ _)); (fail_if_success (with_reducible show wpAny _ _ (exec (Stmt.For _ _ _ _ _) _) _ _ _)); (fail_if_success (with_reducible show wpAny _ _ (execs (Stmt.For _ _ _ _ _ :: _) _) _ _ _)); (fail_if_success (with_reducible show wpAny _ _ (call (Value.ref _) _ _) _ _ _)); (fail_if_success (with_reducible show wpAny _ _ (pyIter _) _ _ _)); (fail_if_success (with_reducible show InvEndN _ _ _ _ _ _ _)); (fail_if_success (with_reducible show wpAny _ _ (call (Value.type "tuple") [Value.ref _] _) _ _ _)); (fail_if_success (with_reducible show wpAny _ _ (call (Value.type "enumerate") [Value.str _ _] _) _ _ _)); (first | (((with_reducible show wpAny _ _ (binaryOp Operator.Add (Value.str _ _) (Value.str _ _)) _ _ _); refine PyProof.Rows.add_str (hsz := ?hsz) ?_; (case hsz => (((try simp only [Str.length_append, len_open, len_shut, len_tab, len_blank, len_back, Int.toNat_natCast]); rw [sizeLine_eq]; omega))); intro _ _)) | (((with_reducible show wpAny _ _ (call (Value.builtin "len") [Value.ref _]) _ _ _); (refine' my_lenTup ?qN ?qm ?qi ?qb ?_; (case qN => k_asm); (case qm => k_mem); (case qi => assumption); (case qb => omega)))) | (k_unfold; (try dsimp only)) | (walk1 <;> try dsimp only) | (dsimp only; walk1) | (leave1; walk_say "STEP leave1"; try dsimp only))))
        try dsimp only
        rename Fr h₀ _ _ _ => F9
        rename News h₀ _ _ _ => N9
        have k9 := K8 _ _ _ F9 N9 (fun p hp => hp)
        refine seg_execs_nil ?_
        try dsimp only
        refine seg_execs_nil ?_
        refine again false n' _ _ _ { F := F9, esc := ?_, pos := fun e => Bool.noConfusion e, i1 := fun e => Bool.noConfusion e, en := en8.imp fun _ e => k9 ee (.tail _ (.head _)) _ e, it := it_keep it8 (k9 ii (.tail _ (.tail _ (.head _)))), gs := ⟨_, _, rfl, ⟨fun b o hb => k9 b (.tail _ (.tail _ (.tail _ (List.mem_range.mpr hb)))) o, k9 ga (.head _)⟩, hga3.imp (k9 ga (.head _))⟩, hn := hn', hT := hT' }
        exact if_pos rfl
    | false =>
      refine seg_execs_cons (seg_If ?_)
      (repeat' ((fail_if_success (with_reducible show wpAny _ _ (exec (Stmt.While _ _ _ _) _) _ _ _)); (fail_if_success (with_reducible show wpAny _ _ (exec (Stmt.For _ _ _ _ _) _) _ _ _)); (fail_if_success (with_reducible show wpAny _ _ (execs (Stmt.For _ _ _ _ _ :: _) _) _ _ _)); (fail_if_success (with_reducible show wpAny _ _ (call (Value.ref _) _ _) _ _ _)); (fail_if_success (with_reducible show wpAny _ _ (pyIter _) _ _ _)); (fail_if_success (with_reducible show InvEndN _ _ _ _ _ _ _)); (fail_if_success (with_reducible show wpAny _ _ (call (Value.type "tuple") [Value.ref _] _) _ _ _)); (fail_if_success (with_reducible show wpAny _ _ (call (Value.type "enumerate") [Value.str _ _] _) _ _ _)); (first | (((with_reducible show wpAny _ _ (binaryOp Operator.Add (Value.str _ _) (Value.str _ _)) _ _ _); refine PyProof.Rows.add_str (hsz := ?hsz) ?_; (case hsz => (((try simp only [Str.length_append, len_open, len_shut, len_tab, len_blank, len_back, Int.toNat_natCast]); rw [sizeLine_eq]; omega))); intro _ _)) | (((with_reducible show wpAny _ _ (call (Value.builtin "len") [Value.ref _]) _ _ _); (refine' my_lenTup ?qN ?qm ?qi ?qb ?_; (case qN => k_asm); (case qm => k_mem); (case qi => assumption); (case qb => omega)))) | (k_unfold; (try dsimp only)) | (walk1 <;> try dsimp only) | (dsimp only; walk1) | (leave1; walk_say "STEP leave1"; try dsimp only))))
      (try dsimp only)
      (try rw [if_neg Bool.false_ne_true])
      refine seg_execs_cons (seg_If ?_)
      (repeat' ((fail_if_success (with_reducible show wpAny _ _ (exec (Stmt.While _ _ _ _) _) _ _ _)); (fail_if_success (with_reducible show wpAny _ _ (exec (Stmt.For _ _ _ _ _) _) _ _ _)); (fail_if_success (with_reducible show wpAny _ _ (execs (Stmt.For _ _ _ _ _ :: _) _) _ _ _)); (fail_if_success (with_reducible show wpAny _ _ (call (Value.ref _) _ _) _ _ _)); (fail_if_success (with_reducible show wpAny _ _ (pyIter _) _ _ _)); (fail_if_success (with_reducible show InvEndN _ _ _ _ _ _ _)); (fail_if_success (with_reducible show wpAny _ _ (call (Value.type "tuple") [Value.ref _] _) _ _ _)); (fail_if_success (with_reducible show wpAny _ _ (call (Value.type "enumerate") [Value.str _ _] _) _ _ _)); (first | (((with_reducible show wpAny _ _ (binaryOp Operator.Add (Value.str _ _) (Value.str _ _)) _ _ _); refine PyProof.Rows.add_str (hsz := ?hsz) ?_; (case hsz => (((try simp only [Str.length_append, len_open, len_shut, len_tab, len_blank, len_back, Int.toNat_natCast]); rw [sizeLine_eq]; omega))); intro _ _)) | (((with_reducible show wpAny _ _ (call (Value.builtin "len") [Value.ref _]) _ _ _); (refine' my_lenTup ?qN ?qm ?qi ?qb ?_; (case qN => k_asm); (case qm => k_mem); (case qi => assumption); (case qb => omega)))) | (k_unfold; (try dsimp only)) | (walk1 <;> try dsimp only) | (dsimp only; walk1) | (leave1; walk_say "STEP leave1"; try dsimp only))))
      (try dsimp only)
      · rename_i hq
        have hc92 : c = 92 := by
          have h3 : #[c] = #[92] := congrArg Str.cps ((beq_iff_eq).mp hq)
          simpa using h3
        subst hc92
        have hn' : n = (escF true (i + 1) (x.cps.toList.drop (i + 1))).length := by rw [hn]; simp [escF]
        have hT' : (escF false 0 x.cps.toList).drop ((escF false 0 x.cps.toList).length - n) = escF true (i + 1) (x.cps.toList.drop (i + 1)) := by rw [hT]; simp [escF]
        refine seg_execs_cons (seg_wrap ?_)
        (repeat' ((fail_if_success (with_reducible show wpAny _ _ (exec (Stmt.While _ _ _ _) _) _ _ _)); (fail_if_success (with_reducible show wpAny _ _ (exec (Stmt.For _ _ _ _ _) _) _ _ _)); (fail_if_success (with_reducible show wpAny _ _ (execs (Stmt.For _ _ _ _ _ :: _) _) _ _ _)); (fail_if_success (with_reducible show wpAny _ _ (call (Value.ref _) _ _) _ _ _)); (fail_if_success (with_reducible show wpAny _ _ (pyIter _) _ _ _)); (fail_if_success (with_reducible show InvEndN _ _ _ _ _ _ _)); (fail_if_success (with_reducible show wpAny _ _ (call (Value.type "tuple") [Value.ref _] _) _ _ _)); (fail_if_success (with_reducible show wpAny _ _ (call (Value.type "enumerate") [Value.str _ _] _) _ _ _)); (first | (((with_reducible show wpAny _ _ (binaryOp Operator.Add (Value.str _ _) (Value.str _ _)) _ _ _); refine PyProof.Rows.add_str (hsz := ?hsz) ?_; (case hsz => (((try simp only [Str.length_append, len_open, len_shut, len_tab, len_blank, len_back, Int.toNat_natCast]); rw [sizeLine_eq]; omega))); intro _ _)) | (((with_reducible show wpAny _ _ (call (Value.builtin "len") [Value.ref _]) _ _ _); (refine' my_lenTup ?qN ?qm ?qi ?qb ?_; (case qN => k_asm); (case qm => k_mem); (case qi => assumption); (case qb => omega)))) | (k_unfold; (try dsimp only)) | (walk1 <;> try dsimp only) | (dsimp only; walk1) | (leave1; walk_say "STEP leave1"; try dsimp only))))
        try dsimp only
        rename Fr h₀ _ _ _ => F9
        rename News h₀ _ _ _ => N9
        have k9 := KA _ _ _ F9 N9 (fun p hp => hp)
        refine seg_execs_nil ?_
        try dsimp only
        refine seg_execs_nil ?_
        try dsimp only
        refine seg_execs_nil ?_
        refine again true n _ _ _ { F := F9, esc := ?_, pos := fun _ => ⟨t1, ?_⟩, i1 := fun _ => Nat.succ_pos _, en := hen.imp fun _ e => k9 ee (.tail _ (.head _)) _ e, it := it_keep hit (k9 ii (.tail _ (.tail _ (.head _)))), gs := hgs.step ⟨fun b o hb => k9 b (.tail _ (.tail _ (.tail _ (List.mem_range.mpr hb)))) o, k9 ga (.head _)⟩, hn := hn', hT := hT' }
        · exact if_pos rfl
        · have e1 : (((i + 1 : Nat) : Int) - 1) = (i : Int) := by omega
          rw [e1]
          exact rfl
      · rename_i hq
        have hc92 : c ≠ 92 := by
          intro e
          subst e
          exact absurd hq (by decide)
        obtain ⟨n', rfl, hn'⟩ : ∃ n', n = n' + 1 ∧ n' = (escF false (i + 1) (x.cps.toList.drop (i + 1))).length := ⟨_, by rw [hn]; simp [escF, hc92], rfl⟩
        obtain ⟨hat, hT'⟩ := tokAt (hT.trans (by simp [escF, hc92]; rfl)) hn'
        refine seg_execs_cons (seg_Expr_Yield rfl rfl rfl ?_)
        (repeat' ((fail_if_success (with_reducible show wpAny _ _ (exec (Stmt.While _ _ _ _) _) _ _ _)); (fail_if_success (with_reducible show wpAny _ _ (exec (Stmt.For _ _ _ _ _) _) _ _ _)); (fail_if_success (with_reducible show wpAny _ _ (execs (Stmt.For _ _ _ _ _ :: _) _) _ _ _)); (fail_if_success (with_reducible show wpAny _ _ (call (Value.ref _) _ _) _ _ _)); (fail_if_success (with_reducible show wpAny _ _ (pyIter _) _ _ _)); (fail_if_success (with_reducible show InvEndN _ _ _ _ _ _ _)); (fail_if_success (with_reducible show wpAny _ _ (call (Value.type "tuple") [Value.ref _] _) _ _ _)); (fail_if_success (with_reducible show wpAny _ _ (call (Value.type "enumerate") [Value.str _ _] _) _ _ _)); (first | (((with_reducible show wpAny _ _ (binaryOp Operator.Add (Value.str _ _) (Value.str _ _)) _ _ _); refine PyProof.Rows.add_str (hsz := ?hsz) ?_; (case hsz => (((try simp only [Str.length_append, len_open, len_shut, len_tab, len_blank, len_back, Int.toNat_natCast]); rw [sizeLine_eq]; omega))); intro _ _)) | (((with_reducible show wpAny _ _ (call (Value.builtin "len") [Value.ref _]) _ _ _); (refine' my_lenTup ?qN ?qm ?qi ?qb ?_; (case qN => k_asm); (case qm => k_mem); (case qi => assumption); (case qb => omega)))) | (k_unfold; (try dsimp only)) | (walk1 <;> try dsimp only) | (dsimp only; walk1) | (leave1; walk_say "STEP leave1"; try dsimp only))))
        rename_i F7 N7 l1 kap go
        have k7 := KA _ _ _ F7 N7 (fun p hp => .tail _ hp)
        refine ⟨⟨i, _, _, t1, _, hat, rfl, ?_, (N7 _ (.head _)).1⟩, hgs.step ⟨fun b o hb => k7 b (.tail _ (.tail _ (.tail _ (List.mem_range.mpr hb)))) o, k7 ga (.head _)⟩, [ga, S0, ee, ii], ?_, fun s3 hh3 hk3 => go .none s3 ?_⟩
        · obtain ⟨o, ho⟩ := hii'
          exact Nat.le_of_lt (Nat.lt_trans b2 (l1 _ (mem_ownOf (.tail _ (.tail _ (.head _))) hiin ho)))
        · intro b hb
          rcases List.mem_cons.mp hb with rfl | hb
          · exact ⟨Nat.le_of_lt b1, hgs.has.imp fun o => k7 _ (.head _) o⟩
          have h2 : S0 ≤ b ∧ ∃ o, s.heap.get? b = some o := by
            rcases List.mem_cons.mp hb with rfl | hb
            · exact ⟨Nat.le_refl _, hCS⟩
            rcases List.mem_cons.mp hb with rfl | hb
            · exact ⟨Nat.le_of_lt b3, heS⟩
            · rw [List.mem_singleton.mp hb]; exact ⟨Nat.le_of_lt b2, hii'⟩
          refine ⟨h2.1, ?_⟩
          obtain ⟨o, ho⟩ := h2.2
          rcases List.mem_cons.mp hb with rfl | hb
          · exact ns_has F7.ns
          · exact ⟨o, k7 b (.tail _ (by rcases List.mem_cons.mp hb with rfl | hb
                                        · exact .head _
                                        · rw [List.mem_singleton.mp hb]; exact .tail _ (.head _))) o ho⟩
        · have F8 : Fr h₀ S0 s3.heap _ := ⟨F7.ns.at' fun o e => hk3 _ (.tail _ (.head _)) o e, hh3, F7.above⟩
          have en8 : ∃ old, IsEnum s3.heap ee ii ((i + 1 : Nat) : Int) old := hen.imp fun _ e => hk3 ee (.tail _ (.tail _ (.head _))) _ (k7 ee (.tail _ (.head _)) _ e)
          have it8 : s3.heap.IsStrIter ii (strIterType x) x tx (i + 1) := it_keep hit fun o ho => hk3 ii (.tail _ (.tail _ (.tail _ (.head _)))) _ (k7 ii (.tail _ (.tail _ (.head _))) _ ho)
          have hga3 : ∃ o, s3.heap.get? ga = some o := hgs.has.imp fun o ho => hk3 ga (.head _) o (k7 ga (.head _) o ho)
          clear KA N7 k7 go F7
          show Seg _ _ _ _ _ _ _ _ _ _
          try dsimp only
          refine seg_execs_nil ?_
          try dsimp only
          refine seg_execs_nil ?_
          try dsimp only
          refine seg_execs_nil ?_
          refine again false n' _ _ _ { F := F8, esc := ?_, pos := fun e => Bool.noConfusion e, i1 := fun e => Bool.noConfusion e, en := en8, it := it8, gs := ⟨_, s3.toks, rfl, Kp.refl _ _ _, hga3⟩, hn := hn', hT := hT' }
          exact rfl
  case fin =>
    clear KP F4 he hk4 k3 F3 N3
    intro e n s₀ s m' Fm hesc hpos hi1 hgs hn hT
    generalize hee : Nat.succ _ = ee at *
    generalize hii : Array.size _ = ii at *
    have b1 : S0 < ga := hlt
    have F5 : Fr h₀ S0 s.heap (fun z => if z = Str.ofString "escape" then some (.bool e) else m' z) := frC Fm fun z => by
      by_cases q : z = Str.ofString "escape"
      · rw [q]; exact hesc
      · simp only [if_neg q]
    clear Fm
    obtain ⟨NT, KA⟩ := carry (ee := ga) (ii := ga) F5 b1 b1 b1
    refine seg_loopEnd ?_
    show Seg _ _ _ _ _ _ _ (Sem.wrap _ _ _ _ _) _ _
    cases e with
    | false =>
      refine seg_execs_cons (seg_If ?_)
      (repeat' ((fail_if_success (with_reducible show wpAny _ _ (exec (Stmt.While _ _ _ _) _) _ _ _)); (fail_if_success (with_reducible show wpAny _ _ (exec (Stmt.For _ _ _ _ _) _) _ _ _)); (fail_if_success (with_reducible show wpAny _ _ (execs (Stmt.For _ _ _ _ _ :: _) _) _ _ _)); (fail_if_success (with_reducible show wpAny _ _ (call (Value.ref _) _ _) _ _ _)); (fail_if_success (with_reducible show wpAny _ _ (pyIter _) _ _ _)); (fail_if_success (with_reducible show InvEndN _ _ _ _ _ _ _)); (fail_if_success (with_reducible show wpAny _ _ (call (Value.type "tuple") [Value.ref _] _) _ _ _)); (fail_if_success (with_reducible show wpAny _ _ (call (Value.type "enumerate") [Value.str _ _] _) _ _ _)); (first | (((with_reducible show wpAny _ _ (binaryOp Operator.Add (Value.str _ _) (Value.str _ _)) _ _ _); refine PyProof.Rows.add_str (hsz := ?hsz) ?_; (case hsz => (((try simp only [Str.length_append, len_open, len_shut, len_tab, len_blank, len_back, Int.toNat_natCast]); rw [sizeLine_eq]; omega))); intro _ _)) | (((with_reducible show wpAny _ _ (call (Value.builtin "len") [Value.ref _]) _ _ _); (refine' my_lenTup ?qN ?qm ?qi ?qb ?_; (case qN => k_asm); (case qm => k_mem); (case qi => assumption); (case qb => omega)))) | (k_unfold; (try dsimp only)) | (walk1 <;> try dsimp only) | (dsimp only; walk1) | (leave1; walk_say "STEP leave1"; try dsimp only))))
      (try dsimp only)
      (try rw [if_neg Bool.false_ne_true])
      refine seg_execs_nil ?_
      try dsimp only
      refine seg_execs_nil ?_
      exact seg_end (.ok (.ret .none)) ⟨rfl, by rw [hn]; rfl, hgs⟩
    | true =>
      refine seg_execs_cons (seg_If ?_)
      (repeat' ((fail_if_success (with_reducible show wpAny _ _ (exec (Stmt.While _ _ _ _) _) _ _ _)); (fail_if_success (with_reducible show wpAny _ _ (exec (Stmt.For _ _ _ _ _) _) _ _ _)); (fail_if_success (with_reducible show wpAny _ _ (execs (Stmt.For _ _ _ _ _ :: _) _) _ _ _)); (fail_if_success (with_reducible show wpAny _ _ (call (Value.ref _) _ _) _ _ _)); (fail_if_success (with_reducible show wpAny _ _ (pyIter _) _ _ _)); (fail_if_success (with_reducible show InvEndN _ _ _ _ _ _ _)); (fail_if_success (with_reducible show wpAny _ _ (call (Value.type "tuple") [Value.ref _] _) _ _ _)); (fail_if_success (with_reducible show wpAny _ _ (call (Value.type "enumerate") [Value.str _ _] _) _ _ _)); (first | (((with_reducible show wpAny _ _ (binaryOp Operator.Add (Value.str _ _) (Value.str _ _)) _ _ _); refine PyProof.Rows.add_str (hsz := ?hsz) ?_; (case hsz => (((try simp only [Str.length_append, len_open, len_shut, len_tab, len_blank, len_back, Int.toNat_natCast]); rw [sizeLine_eq]; omega))); intro _ _)) | (((with_reducible show wpAny _ _ (call (Value.builtin "len") [Value.ref _]) _ _ _); (refine' my_lenTup ?qN ?qm ?qi ?qb ?_; (case qN => k_asm); (case qm => k_mem); (case qi => assumption); (case qb => omega)))) | (k_unfold; (try dsimp only)) | (walk1 <;> try dsimp only) | (dsimp only; walk1) | (leave1; walk_say "STEP leave1"; try dsimp only))))
      (try dsimp only)
      (try rw [if_pos rfl])
      obtain ⟨t0, hp0⟩ := hpos rfl
      have h1s := hi1 rfl
      have hcast : ((x.cps.size : Nat) : Int) - 1 = ((x.cps.size - 1 : Nat) : Int) := by omega
      rw [hcast] at hp0
      have F6 : Fr h₀ S0 s.heap (fun z => if z = Str.ofString "escape" then some (.bool true) else if z = Str.ofString "pos" then some (.int ((x.cps.size - 1 : Nat) : Int) t0) else m' z) := frC F5 fun z => by
        by_cases q : z = Str.ofString "escape"
        · rw [if_pos q, if_pos q]
        · rw [if_neg q, if_neg q]
          by_cases q2 : z = Str.ofString "pos"
          · rw [if_pos q2, q2]; exact hp0
          · rw [if_neg q2]
      clear F5
      have hn1 : n = 0 + 1 := hn
      subst hn1
      obtain ⟨hat, -⟩ := tokAt (n := 0) (rest := []) hT rfl
      have hCS : ∃ o, s.heap.get? S0 = some o := ns_has F6.ns
      refine seg_execs_cons (seg_Expr_Yield rfl rfl rfl ?_)
      (repeat' ((fail_if_success (with_reducible show wpAny _ _ (exec (Stmt.While _ _ _ _) _) _ _ _)); (fail_if_success (with_reducible show wpAny _ _ (exec (Stmt.For _ _ _ _ _) _) _ _ _)); (fail_if_success (with_reducible show wpAny _ _ (execs (Stmt.For _ _ _ _ _ :: _) _) _ _ _)); (fail_if_success (with_reducible show wpAny _ _ (call (Value.ref _) _ _) _ _ _)); (fail_if_success (with_reducible show wpAny _ _ (pyIter _) _ _ _)); (fail_if_success (with_reducible show InvEndN _ _ _ _ _ _ _)); (fail_if_success (with_reducible show wpAny _ _ (call (Value.type "tuple") [Value.ref _] _) _ _ _)); (fail_if_success (with_reducible show wpAny _ _ (call (Value.type "enumerate") [Value.str _ _] _) _ _ _)); (first | (((with_reducible show wpAny _ _ (binaryOp Operator.Add (Value.str _ _) (Value.str _ _)) _ _ _); refine PyProof.Rows.add_str (hsz := ?hsz) ?_; (case hsz => (((try simp only [Str.length_append, len_open, len_shut, len_tab, len_blank, len_back, Int.toNat_natCast]); rw [sizeLine_eq]; omega))); intro _ _)) | (((with_reducible show wpAny _ _ (call (Value.builtin "len") [Value.ref _]) _ _ _); (refine' my_lenTup ?qN ?qm ?qi ?qb ?_; (case qN => k_asm); (case qm => k_mem); (case qi => assumption); (case qb => omega)))) | (k_unfold; (try dsimp only)) | (walk1 <;> try dsimp only) | (dsimp only; walk1) | (leave1; walk_say "STEP leave1"; try dsimp only))))
      rename_i F7 N7 l1 kap go
      have k7 := KA _ _ _ F7 N7 (fun p hp => .tail _ hp)
      refine ⟨⟨_, _, _, t0, _, hat, rfl, ?_, (N7 _ (.head _)).1⟩, hgs.step ⟨fun b o hb => k7 b (.tail _ (.tail _ (.tail _ (List.mem_range.mpr hb)))) o, k7 ga (.head _)⟩, [ga, S0], ?_, fun s3 hh3 hk3 => go .none s3 ?_⟩
      · obtain ⟨o, ho⟩ := hgs.has
        exact Nat.le_of_lt (Nat.lt_trans b1 (l1 _ (mem_ownOf (.head _) (Heap.get?_none_of_le (Nat.le_trans hab (Nat.le_of_lt b1))) ho)))
      · intro b hb
        rcases List.mem_cons.mp hb with rfl | hb
        · exact ⟨Nat.le_of_lt b1, hgs.has.imp fun o => k7 _ (.head _) o⟩
        rw [List.mem_singleton.mp hb]
        exact ⟨Nat.le_refl _, ns_has F7.ns⟩
      · have hga3 : ∃ o, s3.heap.get? ga = some o := hgs.has.imp fun o ho => hk3 ga (.head _) o (k7 ga (.head _) o ho)
        show Seg _ _ _ _ _ _ _ _ _ _
        try dsimp only
        refine seg_execs_nil ?_
        try dsimp only
        refine seg_execs_nil ?_
        exact seg_end (.ok (.ret .none)) ⟨rfl, rfl, ⟨_, s3.toks, rfl, Kp.refl _ _ _, hga3⟩⟩
section
variable {prog : Program} {w : World} {A : Around} {E : Value → Shared → Prop} {s : Shared}
theorem my_pyNext {a : Addr} {g n : Nat} {gs : GenState} {P : Nat → Shared → Shared → Prop} {Y : Protocol} {Q : Option Value → Shared → Prop} (hh : A.handled = none)
    (hl : s.heap.NoLimit) (hroom : A.depth < recursionLimit)
    (hg : s.heap.IsGen a g) (hgs : s.gens[g]? = some gs)
    (hgo : gs.Goes (model prog w) A.in1 (fun n s₀ r s₁ => r = .ok (.ret .none) ∧ P n s₀ s₁) Y n (.send .none) (s.setGen g .running))
    (hY : ∀ v s₁ gs', gs'.bare = true → Y (n - 1) (s.setGen g .running) v s₁ (fun r' s'' => match n with
        | 0 => False
        | m + 1 => gs'.Goes (model prog w) A.in1 (fun n s₀ r s₁ => r = .ok (.ret .none) ∧ P n s₀ s₁) Y m r' s'') → Q (some v) (s₁.setGen g gs'))
    (hP : ∀ s₁, P n (s.setGen g .running) s₁ → ∀ h', (∀ b o, s₁.heap.get? b = some o → h'.get? b = some o) → Q none { s₁.setGen g .finished with heap := h' }) :
    wpAny (model prog w) A (pyNext (.ref a)) Q E s := by
  unfold pyNext
  refine wpAny_bind (wpAny_attempt (wpAny_callSpecial?_slot (name := Str.ofString "__next__") hg.typeIs slot_gen_next
    (wpAny_call_entry slot_gen_next hg.typeIs entry_gen_next ?_ (args_gen_next _))))
  show wpAny _ A.in1 (Builtin.Generator.genWake (.ref a) (.send .none)) _ _ s
  unfold Builtin.Generator.genWake
  refine wpAny_bind (wpAny_holding (wpAny_genNumber hg (wpAny_bind (wpAny_genState hgs ?_))))
  cases gs with
  | running => exact hgo.elim
  | finished => exact hgo.elim
  | _ =>
    refine wpAny_bind (wpAny_roomToWake hl hroom ?_)
    show wpAny _ A.in1 (.resume g (.send .none) [] _) _ _ s
    refine wpAny_resumeQ hgs hgo (fun x s₁ hx => ?_) (fun v s₁ gs' hb hv => ?_)
    · obtain ⟨rfl, hp⟩ := hx
      show wpAny _ A.in1 (newExc (.type "StopIteration") [] >>= _) _ _ _
      refine wpAny_bind ?_
      simp only [newExc, newTuple]
      refine wpAny_bind (wpAny_newObj_type ?_ (by size_fits))
      refine wpAny_bind (m := firstArgMember _ _) (wpAny_of_eq (a := Value.none) (by first | rfl | (simp only [firstArgMember]; rfl)) ?_)
      refine wpAny_newObj_type ?_ (by size_fits)
      simp only [raiseNew]
      refine wpAny_bind (wpAny_bind (wpAny_handled ?_))
      first | rw [show A.in1.handled = none from hh] | rw [hh]
      refine wpAny_throw ?_
      refine wpAny_bind (wpAny_isInstance (T := "StopIteration") (b := true) ⟨_, Heap.get?_push_size _ rfl, rfl⟩ isSubtype_stop ?_)
      exact wpAny_pure (hP s₁ hp _ fun b o hb => Heap.get?_push_of_some _ (Heap.get?_push_of_some _ hb))
    · exact wpAny_pure ⟨v, rfl, wpAny_pure (hY v s₁ gs' hb hv)⟩
end
theorem esc_next {w : World} {A : Around} {E : Value → Shared → Prop} {s : Shared} {h₀ : Heap} {S0 : Nat} {ga : Addr} {g : Nat} {T : List (Nat × Str)} {j : Nat} {Q : Option Value → Shared → Prop} (hh : A.handled = none) (hl : s.heap.NoLimit) (hroom : A.depth < recursionLimit)
    (hab : h₀.objs.size ≤ S0) (hb : ∀ b o, h₀.get? b = some o → s.heap.get? b = some o) (D : EscAt w A h₀ S0 ga g T j s)
    (item : ∀ pos str ta t1 t2 h' tk gs', T[j]? = some (pos, str) → j < T.length → gs'.bare = true → S0 ≤ ta → h'.get? ta = some (tupObj [.int (pos : Nat) t1, .str str t2]) → Kp S0 ga s.heap h' →
      EscAt w A h₀ S0 ga g T (j + 1) { s with heap := h', toks := tk, gens := (s.gens.setIfInBounds g .running).setIfInBounds g gs' } → Q (some (.ref ta)) { s with heap := h', toks := tk, gens := (s.gens.setIfInBounds g .running).setIfInBounds g gs' })
    (done : ∀ h' tk, T.length ≤ j → Kp S0 ga s.heap h' → Q none { s with heap := h', toks := tk, gens := (s.gens.setIfInBounds g .running).setIfInBounds g .finished }) :
    wpAny (model PySem.Challenge.rw_uq0012_01.row.prog w) A (pyNext (.ref ga)) Q E s := by
  obtain ⟨hg, gs, fp, hgs, hheld, hgo⟩ := D
  refine my_pyNext hh hl hroom hg hgs (hgo (s.setGen g .running) hb fun b _ o e => e) (fun v s₁ gs' hbare hv => ?_) (fun s₁ hp h' hk => ?_)
  · obtain ⟨⟨pos, str, ta, t1, t2, hat, rfl, hge, hta⟩, hs, fp', hheld', hkap⟩ := hv
    obtain ⟨h', tk, rfl, kp, hga⟩ := hs
    have hb' : ∀ b o, h₀.get? b = some o → h'.get? b = some o := fun b o e => kp.1 b o (Nat.lt_of_lt_of_le (Heap.lt_size e) hab) (hb b o e)
    have hlt : j < T.length := by
      rcases Nat.lt_or_ge j T.length with q | q
      · exact q
      · have := hkap ({ (s.setGen g .running) with heap := h', toks := tk } : Shared) hb' fun b _ o e => e
        rw [Nat.sub_eq_zero_of_le q] at this
        exact this.elim
    have hat' : T[j]? = some (pos, str) := by
      rw [← hat, Nat.sub_right_comm T.length j 1, Nat.sub_sub_self (Nat.le_sub_one_of_lt hlt)]
    refine item pos str ta t1 t2 h' tk gs' hat' hlt hbare hge hta kp ?_
    have hgl : g < s.gens.size := (Array.getElem?_eq_some_iff.mp hgs).1
    refine ⟨by obtain ⟨o, nm, qn, ho, r⟩ := hg; exact ⟨o, nm, qn, kp.2 _ ho, r⟩, gs', fp', ?_, ?_, fun s'' h1 h2 => ?_⟩
    · show ((s.gens.setIfInBounds g .running).setIfInBounds g gs')[g]? = _
      rw [Array.getElem?_setIfInBounds_self]
      simp [hgl]
    · intro b hbm
      rcases List.mem_cons.mp hbm with rfl | hbm
      · exact ⟨(hheld _ (.head _)).1, hga⟩
      · exact hheld' b hbm
    · have hk := hkap s'' h1 h2
      rw [show T.length - j = T.length - (j + 1) + 1 by rw [← Nat.sub_sub, Nat.sub_add_cancel (Nat.sub_pos_of_lt hlt)]] at hk
      exact hk
  · obtain ⟨hn, h₁, tk, rfl, kp, hga⟩ := hp
    exact done h' tk (Nat.le_of_sub_eq_zero hn) (kp.trans ⟨fun b o _ e => hk b o e, fun o e => hk ga o e⟩)
noncomputable def MyBare (gs : Array GenState) : Prop := ∀ x ∈ gs, x.bare = true
theorem MyBare.set {gs : Array GenState} {g : Nat} {x : GenState} (h : MyBare gs) (hx : x.bare = true) : MyBare (gs.setIfInBounds g x) := fun y hy => by
  rcases Array.mem_or_eq_of_mem_setIfInBounds hy with q | q
  · exact h y q
  · rw [q]; exact hx
theorem own_in {h₀ h : Heap} {fp : List Addr} {p : Addr × Obj} (hp : p ∈ ownOf h₀ fp h) : p.1 ∈ fp := by
  unfold PyProof.Rows.ownOf at hp
  obtain ⟨b, hb, e⟩ := List.mem_filterMap.mp hp
  split at e
  · cases q : h.get? b with
    | none => rw [q] at e; cases e
    | some o => rw [q] at e; cases e; exact hb
  · cases e
theorem my_forGen {w : World} {A : Around} {E : Value → Shared → Prop} {s : Shared} {env : Env} {h₀ : Heap} {body : List Stmt} {Q : Flow → Shared → Prop} {S0 : Nat} {ga : Addr} {g : Nat} {T : List (Nat × Str)} {xi xc : Str} {pk pv pt : Pos} {x1 : Nat} {m₀ : Str → Option Value} {news : Led}
    (J : Nat → (Str → Option Value) → Led → Prop) (hh : A.handled = none) (hroom : A.depth < recursionLimit) (hlim : h₀.NoLimit) (hab : h₀.objs.size ≤ S0) (hL : env.locals < S0) (D : EscAt w A h₀ S0 ga g T 0 s)
    (F : Fr h₀ env.locals s.heap m₀) (N : News h₀ env.locals s.heap news) (hnS : ∀ p ∈ news, p.1 < S0) (hj : J 0 m₀ news) (hG : MyBare s.gens)
    (hxi : env.kindOf xi = some .local) (hxc : env.kindOf xc = some .local)
    (hp : (env.scope.kind == .class || (env.scope.kind == .module && env.locals != env.globals)) = false)
    (turn : ∀ i pos str t1 t2 m₁ news₁ h tk gs own, T[i]? = some (pos, str) → MyBare gs → OwnOff own (news₁.map (·.1)) → J i m₁ news₁ → (∀ p ∈ news₁, p.1 < S0) →
      Fr h₀ env.locals h (fun z => if z = xc then some (.str str t2) else if z = xi then some (.int (pos : Nat) t1) else m₁ z) → News h₀ env.locals h (news₁ ++ own) →
      wpAny (model PySem.Challenge.rw_uq0012_01.row.prog w) A (execs body env) (MyPost h₀ env.locals (· = gs) (fun m nx => J (i + 1) m nx ∧ ∀ p ∈ nx, p.1 < S0) own s Q) E { s with heap := h, toks := tk, gens := gs })
    (done : ∀ m₁ news₁ h tk gs, J T.length m₁ news₁ → MyBare gs → Fr h₀ env.locals h m₁ → News h₀ env.locals h news₁ → Q .next { s with heap := h, toks := tk, gens := gs })
    (hE : PassesOwn (model PySem.Challenge.rw_uq0012_01.row.prog w) A env E := by passes_own) :
    wpAny (model PySem.Challenge.rw_uq0012_01.row.prog w) A (pyIter (.ref ga)) (fun it s₂ => codeAny (model PySem.Challenge.rw_uq0012_01.row.prog w) A (.forLoop (.Tuple [.Name xi pk, .Name xc pv] x1 pt) it body [] env) (fun r s' => match r with | .ok f => Q f s' | .error e => cameBackBy (model PySem.Challenge.rw_uq0012_01.row.prog w) A env E e s') s₂) E s := by
  refine wpAny_pyIter_gen D.1 ?_
  refine codeAny_forLoop_any
    (fun k s' => ∃ h tk gs m' nx i, s' = { s with heap := h, toks := tk, gens := gs } ∧ MyBare gs ∧ EscAt w A h₀ S0 ga g T i s' ∧ Fr h₀ env.locals h m' ∧ News h₀ env.locals h nx ∧ (∀ p ∈ nx, p.1 < S0) ∧ J i m' nx ∧ i ≤ T.length ∧ k = T.length + 1 - i) ?_ (T.length + 1)
    ⟨_, _, _, m₀, news, 0, rfl, hG, D, F, N, hnS, hj, Nat.zero_le _, rfl⟩
  rintro k s' ⟨h, tk, gs, m', nx, i, rfl, hg, D', F', N', hxS, hJ, hi, rfl⟩
  have next : ∀ h₁ : Heap, Kp S0 ga h h₁ → Fr h₀ env.locals h₁ m' ∧ News h₀ env.locals h₁ nx := fun h₁ hk₁ =>
    ⟨⟨F'.ns.at' fun o e => hk₁.1 _ o hL e, fun b o e => hk₁.1 b o (Nat.lt_of_lt_of_le (Heap.lt_size e) hab) (F'.keep b o e), F'.above⟩, fun p hp => ⟨hk₁.1 _ _ (hxS p hp) (N' p hp).1, (N' p hp).2⟩⟩
  refine esc_next hh (hlim.keeps F'.keep) hroom hab F'.keep D' (fun pos str ta t1 t2 h₁ tk₁ gs' hat hlt hbare hge hta hk₁ D₁ => ?_) (fun h₁ tk₁ hle hk₁ => ?_)
  · obtain ⟨F₁, N₁⟩ := next h₁ hk₁
    obtain ⟨⟨og, nm, qn, hog, hcl, hda, hsl⟩, gs₁, fp, hgs₁, hheld, hgo⟩ := D₁
    dsimp only at hog hgs₁ hheld hgo
    show wpAny _ A (letOwnedTupleGo _ _ _) _ _ _
    unfold letOwnedTupleGo
    refine wpAny_bind (wpAny_load hog ?_)
    rw [hcl, hda]
    have hct : (["enumerate", "zip", "dict_itemiterator", "dict_reverseitemiterator", "odict_iterator", "itertools.zip_longest", "itertools.pairwise"].contains "generator") = false := by decide
    try dsimp only
    rw [hct, Bool.false_and, if_neg Bool.false_ne_true]
    refine wpAny_pure ?_
    have ht₁ : h₁.IsTuple ta #[.int (pos : Nat) t1, .str str t2] := ⟨_, hta, rfl, _, rfl⟩
    refine wpAny_assign_Tuple hh ht₁ rfl rfl fun h₃ hx₃ => ?_
    replace hx₃ : Heap.ExtBut h₁.objs.size h₁ h₃ := hx₃
    have up₃ : ∀ b o, h₁.get? b = some o → h₃.get? b = some o := fun b o x => hx₃ b o (Nat.ne_of_lt (Heap.lt_size x)) x
    obtain ⟨F₃, N₃⟩ := next h₃ (hk₁.trans ⟨fun b o _ e => up₃ b o e, fun o e => up₃ ga o e⟩)
    show wpAny _ A (do holding [_] (assign (.Name xi pk) env _); holding [] (assign (.Name xc pv) env _); pure ()) _ _ _
    refine wpAny_bind (wpAny_holding (wpAny_assign_Name (wpAny_storeName_local hxi F₃.ns (fun h₄ hn₄ hs₄ => ?_) hp)))
    have F₄ := F₃.set hn₄ hs₄
    refine wpAny_bind (wpAny_holding (wpAny_assign_Name (wpAny_storeName_local hxc F₄.ns (fun h₅ hn₅ hs₅ => wpAny_pure ?_) hp)))
    have F₅ := F₄.set hn₅ hs₅
    have N₅ : News h₀ env.locals h₅ nx := (N₃.set hs₄).set hs₅
    have ga₅ : ∀ b, b ≠ env.locals → ∀ o, h₁.get? b = some o → h₅.get? b = some o := fun b hb o e => hs₅.extBut b o hb (hs₄.extBut b o hb (up₃ b o e))
    have hown : OwnOff (ownOf h₀ (ga :: fp) h₅) (nx.map (·.1)) := by
      intro p hp b hb
      obtain ⟨q, hq, rfl⟩ := List.mem_map.mp hb
      have h1 : S0 ≤ p.1 := (hheld p.1 (own_in hp)).1
      have h2 : q.1 < S0 := hxS q hq
      exact Nat.ne_of_gt (Nat.lt_of_lt_of_le h2 h1)
    have hnl : env.locals ∉ ga :: fp := fun hm => absurd (hheld _ hm).1 (Nat.not_le.mpr hL)
    have NO : News h₀ env.locals h₅ (nx ++ ownOf h₀ (ga :: fp) h₅) := fun p hp => (List.mem_append.mp hp).elim (N₅ p) (news_ownOf hnl p)
    have hg₂ : MyBare ((gs.setIfInBounds g .running).setIfInBounds g gs') := (hg.set rfl).set hbare
    refine wpAny_passesOwn hE (wpAny_mono (turn i pos str t1 t2 m' nx h₅ _ _ _ hat hg₂ hown hJ hxS F₅ NO) (fun f s₃ h₃ => ?_) fun _ _ x => x)
    have fin : MyEnd h₀ env.locals (· = ((gs.setIfInBounds g .running).setIfInBounds g gs')) (fun m nx => J (i + 1) m nx ∧ ∀ p ∈ nx, p.1 < S0) (ownOf h₀ (ga :: fp) h₅) s s₃ →
        ∃ m, m < T.length + 1 - i ∧ ∃ h tk gs m' nx i, s₃ = { s with heap := h, toks := tk, gens := gs } ∧ MyBare gs ∧ EscAt w A h₀ S0 ga g T i s₃ ∧ Fr h₀ env.locals h m' ∧ News h₀ env.locals h nx ∧ (∀ p ∈ nx, p.1 < S0) ∧ J i m' nx ∧ i ≤ T.length ∧ m = T.length + 1 - i := by
      rintro ⟨h', tk', gs₃, m₂, news', nx', e, hg', F₂, N₂', hnx, ho', ha', hJ', hS'⟩
      have kpt := kept_of F₅ F₂ N₂' ho'
      refine ⟨T.length + 1 - (i + 1), by omega, h', tk', gs₃, m₂, nx', i + 1, e, hg' ▸ hg₂, ?_, F₂, fun p hp => N₂' p (hnx p hp), hS', hJ', hlt, rfl⟩
      subst e
      subst hg'
      have nl : ∀ b ∈ ga :: fp, b ≠ env.locals := fun b hb q => hnl (q ▸ hb)
      refine ⟨⟨og, nm, qn, kpt ga (.head _) _ (ga₅ ga (nl ga (.head _)) _ hog), hcl, hda, hsl⟩, gs₁, fp, hgs₁, ?_, fun s'' q1 q2 => hgo s'' q1 fun b hb o e => q2 b hb o (kpt b (.tail _ hb) o (ga₅ b (nl b (.tail _ hb)) o e))⟩
      intro b hb
      obtain ⟨h1, o, e⟩ := hheld b hb
      exact ⟨h1, o, kpt b hb o (ga₅ b (nl b hb) o e)⟩
    cases f with
    | ret v => exact h₃
    | brk => exact h₃
    | next => exact fin h₃
    | cont => exact fin h₃
  · obtain ⟨F₁, N₁⟩ := next h₁ hk₁
    have hin : i = T.length := by omega
    subst hin
    exact wpAny_execs_nil (done m' nx h₁ tk₁ _ hJ ((hg.set rfl).set rfl) F₁ N₁)
noncomputable abbrev sQuot : Str := Str.ofString "\""
/-- one token of the strip loop: start, the place of the open sign, the pieces laid by -/
noncomputable def stripT (x : Str) (c : Nat × Option Nat × List Str) (tok : Nat × Str) : Nat × Option Nat × List Str :=
  if tok.2 = sQuot then
    match c.2.1 with
    | none => (c.1, some tok.1, c.2.2)
    | some o => (tok.1 + 1, none, if c.1 = o then c.2.2 else c.2.2 ++ [Txt.slice x (some (c.1 : Nat)) (some (o : Nat))])
  else c
noncomputable abbrev SaysG (bd bu : Nat) (w : World) (mean : ExcName → Option Value) (mg mb : Str → Option Value) (f : Addr) (vs : List Value) (R : Value → Prop) : Prop :=
  ∀ (dp un : Nat) (gd : Option (List Code)) (cn : Str) (cs : Scope) (a : Addr) (ccd : Value) (cl : List (Str × Addr)) (outer : List Env) (A₀ : Around) (base h₀ : Heap) (L : Addr) (m : Str → Option Value) (news : Led) (s : Shared) (Q E : Value → Shared → Prop),
    Below A₀ base outer h₀ → Fr h₀ L s.heap m → (hd.heap_39 w.params).In h₀ → News h₀ L s.heap news → Top hd.view_39 (looseW hd.view_39 [Str.ofString "bisect_left", Str.ofString "Whitespace"]) mean mg mb h₀ → cs.kind = .function →
    dp + bd < recursionLimit → un + bu < cLine → MyBare s.gens →
    (∀ (v : Value) (h' : Heap) (tk' : Nat) (gs' : Array GenState), Fr h₀ L h' m → News h₀ L h' news → MyBare gs' → R v → Q v { s with heap := h', toks := tk', gens := gs' }) →
    wpAny (model PySem.Challenge.rw_uq0012_01.row.prog w) (ktrTop dp un gd cn cs L a ccd cl outer) (call (.ref f) vs) Q E s
noncomputable def opV : Option (Nat × Tok) → Value
  | none => .none
  | some p => .int (p.1 : Nat) p.2
noncomputable abbrev PJ (x : Str) (rl : Addr) (news : Led) (m₀ : Str → Option Value) (i : Nat) (m : Str → Option Value) (nx : Led) : Prop :=
  ∃ (st : Nat) (ts : Tok) (op : Option (Nat × Tok)) (rv : List Value) (rn : Nat) (rs : List Str), nx = (rl, listOf rv.toArray rn) :: news ∧ StrsAre rv rs ∧ (st, op.map (·.1), rs) = ((escF false 0 x.cps.toList).take i).foldl (stripT x) (0, none, []) ∧
    m (Str.ofString "start") = some (.int (st : Nat) ts) ∧ m (Str.ofString "open_pos") = some (opV op) ∧ rs.length ≤ i ∧ (∀ y ∈ rs, y.length ≤ x.length) ∧ ∀ z, z ≠ Str.ofString "open_pos" → z ≠ Str.ofString "start" → z ≠ Str.ofString "pos" → z ≠ Str.ofString "ch" → m z = m₀ z
theorem pin4 {h₀ h : Heap} {L : Addr} {m m₀ : Str → Option Value} {v1 v2 ov sv : Value} (F : Fr h₀ L h (fun z => if z = Str.ofString "ch" then some v2 else if z = Str.ofString "pos" then some v1 else m z)) (h1 : m (Str.ofString "open_pos") = some ov) (h2 : m (Str.ofString "start") = some sv)
    (hm : ∀ z, z ≠ Str.ofString "open_pos" → z ≠ Str.ofString "start" → z ≠ Str.ofString "pos" → z ≠ Str.ofString "ch" → m z = m₀ z) :
    Fr h₀ L h (fun z => if z = Str.ofString "ch" then some v2 else if z = Str.ofString "pos" then some v1 else if z = Str.ofString "open_pos" then some ov else if z = Str.ofString "start" then some sv else m₀ z) := frC F fun z => by
  by_cases q1 : z = Str.ofString "ch"
  · simp only [if_pos q1]
  by_cases q2 : z = Str.ofString "pos"
  · simp only [if_neg q1, if_pos q2]
  by_cases q3 : z = Str.ofString "open_pos"
  · simp only [if_neg q1, if_neg q2, if_pos q3]; rw [q3, h1]
  by_cases q4 : z = Str.ofString "start"
  · simp only [if_neg q1, if_neg q2, if_neg q3, if_pos q4]; rw [q4, h2]
  simp only [if_neg q1, if_neg q2, if_neg q3, if_neg q4]
  exact hm z q3 q4 q2 q1
theorem pin4d {h₀ h : Heap} {L : Addr} {m m₀ : Str → Option Value} {ov sv : Value} (F : Fr h₀ L h m) (h1 : m (Str.ofString "open_pos") = some ov) (h2 : m (Str.ofString "start") = some sv)
    (hm : ∀ z, z ≠ Str.ofString "open_pos" → z ≠ Str.ofString "start" → z ≠ Str.ofString "pos" → z ≠ Str.ofString "ch" → m z = m₀ z) :
    Fr h₀ L h (fun z => if z = Str.ofString "ch" then m z else if z = Str.ofString "pos" then m z else if z = Str.ofString "open_pos" then some ov else if z = Str.ofString "start" then some sv else m₀ z) := frC F fun z => by
  by_cases q1 : z = Str.ofString "ch"
  · simp only [if_pos q1]
  by_cases q2 : z = Str.ofString "pos"
  · simp only [if_neg q1, if_pos q2]
  by_cases q3 : z = Str.ofString "open_pos"
  · simp only [if_neg q1, if_neg q2, if_pos q3]; rw [q3, h1]
  by_cases q4 : z = Str.ofString "start"
  · simp only [if_neg q1, if_neg q2, if_neg q3, if_pos q4]; rw [q4, h2]
  simp only [if_neg q1, if_neg q2, if_neg q3, if_neg q4]
  exact hm z q3 q4 q2 q1
theorem MyBare.push {gs : Array GenState} {x : GenState} (h : MyBare gs) (hx : x.bare = true) : MyBare (gs.push x) := fun y hy => by
  rcases Array.mem_push.mp hy with q | q
  · exact h y q
  · rw [q]; exact hx
@[reducible] noncomputable def ledA {h₀ h : Heap} {L a : Addr} {o : Obj} {news : Led} (_ : News h₀ L h ((a, o) :: news)) : Addr := a
theorem news_lt {h₀ h : Heap} {L : Addr} {news : Led} (N : News h₀ L h news) : ∀ p ∈ news, p.1 < h.objs.size := fun p hp => Heap.lt_size (N p hp).1
noncomputable def stripR (x : Str) : Str :=
  let c := (escF false 0 x.cps.toList).foldl (stripT x) (0, none, [])
  Txt.join (Str.ofString "") (if c.1 < x.cps.size then c.2.2 ++ [Txt.slice x (some (c.1 : Nat)) none] else c.2.2)
theorem par_end {h₀ h' : Heap} {L rl : Addr} {x : Str} {rv : List Value} {rn tk i S0 st : Nat} {ts : Tok} {op : Option (Nat × Tok)} {rs : List Str} {news own : Led} {m₀ m' : Str → Option Value} {gs gs0 : Array GenState} {s₁ : Shared}
    (F : Fr h₀ L h' m') (N : News h₀ L h' ((rl, listOf rv.toArray rn) :: (news ++ own))) (hg : gs = gs0) (hrv : StrsAre rv rs) (hfold : (st, op.map (·.1), rs) = ((escF false 0 x.cps.toList).take (i + 1)).foldl (stripT x) (0, none, []))
    (hst : m' (Str.ofString "start") = some (.int (st : Nat) ts)) (hop : m' (Str.ofString "open_pos") = some (opV op)) (hlen : rs.length ≤ i + 1) (hys : ∀ y ∈ rs, y.length ≤ x.length)
    (hm : ∀ z, z ≠ Str.ofString "open_pos" → z ≠ Str.ofString "start" → z ≠ Str.ofString "pos" → z ≠ Str.ofString "ch" → m' z = m₀ z) (ha : OwnOff own (rl :: news.map (·.1))) (hS0 : rl < S0 ∧ ∀ p ∈ news, p.1 < S0) :
    MyEnd h₀ L (fun g => g = gs0) (fun m nx => PJ x rl news m₀ (i + 1) m nx ∧ ∀ p ∈ nx, p.1 < S0) own s₁ { s₁ with heap := h', toks := tk, gens := gs } :=
  MyEnd.intro ((rl, listOf rv.toArray rn) :: news) F N hg (fun p hp => List.mem_append_left own hp) (fun p hp => List.mem_append_right ((rl, listOf rv.toArray rn) :: news) hp) ha
    ⟨⟨st, ts, op, rv, rn, rs, rfl, hrv, hfold, hst, hop, hlen, hys, hm⟩, fun p hp => by rcases List.mem_cons.mp hp with rfl | hp; exact hS0.1; exact hS0.2 p hp⟩
theorem foldl_next {α β : Type} {f : β → α → β} {b : β} {l : List α} {i : Nat} {a : α} (h : l[i]? = some a) : (l.take (i + 1)).foldl f b = f ((l.take i).foldl f b) a := by
  rw [List.take_succ, h]
  simp
theorem esc_len : ∀ (l : List Nat) (e : Bool) (i : Nat), (escF e i l).length ≤ l.length + 1
  | [], e, i => by cases e <;> simp [escF]
  | c :: r, e, i => by
    have h1 := esc_len r false (i + 1)
    have h2 := esc_len r true (i + 1)
    unfold escF
    split
    · simp only [List.length_cons]; omega
    · split
      · simp only [List.length_cons]; omega
      · simp only [List.length_cons]; omega
theorem sum_le {ys : List Str} (h : ∀ y ∈ ys, y.length ≤ 500) (hl : ys.length ≤ 1000) : (ys.map (·.length)).sum + ys.length ≤ 1048576 := by
  have := StrLaws.sumLen_le ys h
  omega
section
variable {prog : Program} {w : World} {A : Around} {E : Value → Shared → Prop} {s : Shared} {h₀ : Heap} {L D : Addr} {m : Str → Option Value} {news news' : Led} {n : Nat}
theorem ltNe {d : Addr} {news : Led} (h : ∀ p ∈ news, p.1 < d) : ∀ p ∈ news, p.1 ≠ d := fun p hp => Nat.ne_of_lt (h p hp)
theorem updOwn {d : Addr} {o o' : Obj} {news own : Led} {r : List Addr} (h : ∀ p ∈ news, p.1 ≠ d) (ho : OwnOff own (d :: r)) : Upd d o o' ((d, o) :: (news ++ own)) ((d, o') :: (news ++ own)) := .head fun p hp => (List.mem_append.mp hp).elim (h p) fun hp => ho p hp d (.head _)
theorem my_strs {us : List Value} {ns : List Str} (hi : StrsAre us ns) {i : Str} {t : Tok} : StrsAre (us ++ [.str i t]) (ns ++ [i]) := by
  induction hi with
  | nil => exact .cons i t .nil
  | cons a t' r ih => exact .cons a t' ih
theorem my_appendS {us : List Value} {ns : List Str} {i : Str} {t : Tok} {Q : Value → Shared → Prop} (F : Fr h₀ L s.heap m) (N : News h₀ L s.heap news) (hi : StrsAre us ns) (hb : ns.length < 1000)
    (U : Upd D (listOf us.toArray n) (listOf (us ++ [Value.str i t]).toArray (n + 1)) news news')
    (h : ∀ h', Fr h₀ L h' m → News h₀ L h' news' → StrsAre (us ++ [Value.str i t]) (ns ++ [i]) → Q .none { s with heap := h' }) :
    wpAny (model prog w) A (call (.builtin "list.append") [.ref D, .str i t]) Q E s := by
  have hl := hi.length
  refine append_K (its := us.toArray) (n := n) (news' := news') F N ?_ (fun h' F' N' => h h' F' N' (my_strs hi)) ?_
  · rw [show us.toArray.push (Value.str i t) = (us ++ [Value.str i t]).toArray by simp]; exact U
  · show us.toArray.size ≤ _
    rw [List.size_toArray, sizeLine_eq]; omega
end
theorem strip_says (w mean mg mb) (x : Str) (tx : Tok) (hl : x.length < 500) :
    SaysG 20 200 w mean mg mb 35 [.str x tx] (fun v => ((Builtin.Str.occurrences x sQuot 0 x.length 1).isEmpty = true ∧ ∃ t, v = .str x t) ∨ ∃ t, v = .str (stripR x) t) := by
  w_on
  unfold SaysG
  k_fill
  intro dp un gd cn cs a ccd cl outer A₀ base h₀ L m news s Q E B F X N T hk hd hu hb hret
  refine wpAny_call ?_
  ((k_dflt (refine' code_def ?k1 ?k2 ?k3 ?k4 ?k5 ?kA ?kF ?kK ?k6 ?k7 ?k8 ?k9 ?kB ?_ ?c2 ?c3 ?c4 ?c5; (case kA => exact rfl); (case kF => exact rfl); (case kK => first | exact rfl | assumption); (case k1 => k_asm); (case k2 => k_asm); (case k3 => k_asm); (case k4 => k_asm); (case k5 => k_asm); (case k6 => k_is); (case k7 => k_is); (case k8 => ktr_room); (case k9 => first | exact BindsTo.of_eq rfl | (refine' kp_binds ?kx ?ke; (case kx => k_in); (case ke => exact fun _ => rfl)) | exact binds_K (by k_in) rfl (by k_is) rfl rfl rfl | fail "enter: no rule for these arguments"); (case c5 => decide); (case kB => exact locs rfl); (case c2 => exact rfl); (case c3 => exact rfl); (case c4 => exact rfl); k_whole; intro g' L' h' FG' F' N' B' X' T'; (try dsimp only); (try k_lift B'); (try k_fold); (try (refine gen_toks ?_; intro tk9)))))
  rename Fr _ _ _ _ => F0
  replace F0 := lookN (l' := [(Str.ofString "addr", _)]) rfl F0
  (repeat' ((fail_if_success (with_reducible show wpAny _ _ (exec (Stmt.While _ _ _ _) _) _ _ _)); (fail_if_success (with_reducible show wpAny _ _ (exec (Stmt.For _ _ _ _ _) _) _ _ _)); (fail_if_success (with_reducible show wpAny _ _ (execs (Stmt.For _ _ _ _ _ :: _) _) _ _ _)); (fail_if_success (with_reducible show wpAny _ _ (call (Value.ref _) _ _) _ _ _)); (fail_if_success (with_reducible show wpAny _ _ (pyIter _) _ _ _)); (fail_if_success (with_reducible show InvEndN _ _ _ _ _ _ _)); (fail_if_success (with_reducible show wpAny _ _ (call (Value.type "tuple") [Value.ref _] _) _ _ _)); (fail_if_success (with_reducible show wpAny _ _ (call (Value.type "enumerate") [Value.str _ _] _) _ _ _)); (first | ((with_reducible show wpAny _ _ (exec _ _) _ _ _); k_fold; (try (refine gen_toks ?_; intro tk9))) | (((with_reducible show wpAny _ _ (binaryOp Operator.Add (Value.str _ _) (Value.str _ _)) _ _ _); refine PyProof.Rows.add_str (hsz := ?hsz) ?_; (case hsz => (((try simp only [Str.length_append, len_open, len_shut, len_tab, len_blank, len_back, Int.toNat_natCast]); rw [sizeLine_eq]; omega))); intro _ _)) | (((with_reducible show wpAny _ _ (call (Value.builtin "len") [Value.ref _]) _ _ _); (refine' my_lenTup ?qN ?qm ?qi ?qb ?_; (case qN => k_asm); (case qm => k_mem); (case qi => assumption); (case qb => omega)))) | (k_unfold; (try dsimp only)) | (walk1 <;> try dsimp only) | (dsimp only; walk1) | (leave1; walk_say "STEP leave1"; try dsimp only))))
  · rename Fr h₀ _ _ _ => F3
    rename News h₀ _ _ _ => N3
    exact hret _ _ _ _ F3 N3 hb (.inl ⟨by assumption, _, rfl⟩)
  · refine wpAny_execs_cons ?_
    refine wpAny_For ?_ ?_
    case refine_2 => intro x; rfl
    (repeat' ((fail_if_success (with_reducible show wpAny _ _ (exec (Stmt.While _ _ _ _) _) _ _ _)); (fail_if_success (with_reducible show wpAny _ _ (exec (Stmt.For _ _ _ _ _) _) _ _ _)); (fail_if_success (with_reducible show wpAny _ _ (execs (Stmt.For _ _ _ _ _ :: _) _) _ _ _)); (fail_if_success (with_reducible show wpAny _ _ (call (Value.ref _) _ _) _ _ _)); (fail_if_success (with_reducible show wpAny _ _ (pyIter _) _ _ _)); (fail_if_success (with_reducible show InvEndN _ _ _ _ _ _ _)); (fail_if_success (with_reducible show wpAny _ _ (call (Value.type "tuple") [Value.ref _] _) _ _ _)); (fail_if_success (with_reducible show wpAny _ _ (call (Value.type "enumerate") [Value.str _ _] _) _ _ _)); (first | ((with_reducible show wpAny _ _ (exec _ _) _ _ _); k_fold; (try (refine gen_toks ?_; intro tk9))) | (((with_reducible show wpAny _ _ (binaryOp Operator.Add (Value.str _ _) (Value.str _ _)) _ _ _); refine PyProof.Rows.add_str (hsz := ?hsz) ?_; (case hsz => (((try simp only [Str.length_append, len_open, len_shut, len_tab, len_blank, len_back, Int.toNat_natCast]); rw [sizeLine_eq]; omega))); intro _ _)) | (((with_reducible show wpAny _ _ (call (Value.builtin "len") [Value.ref _]) _ _ _); (refine' my_lenTup ?qN ?qm ?qi ?qb ?_; (case qN => k_asm); (case qm => k_mem); (case qi => assumption); (case qb => omega)))) | (k_unfold; (try dsimp only)) | (walk1 <;> try dsimp only) | (dsimp only; walk1) | (leave1; walk_say "STEP leave1"; try dsimp only))))
    rename Fr _ _ _ _ => F1
    rename News _ _ _ _ => N1
    refine' esc_call w mean mg mb x tx (by omega) _ _ _ _ _ _ _ _ _ _ _ _ _ _ _ _ F1 ?X N1 ?T ?kd ?ku ?kR
    case X => k_asm
    case T => k_asm
    case kd => ktr_room
    case ku => ktr_units
    case kR =>
    intro ga h2 tk2 gs F2 N2 hga hbare D
    have hL1 := F1.ns.lt
    have hab := Nat.le_trans F1.above (Nat.le_of_lt hL1)
    have hnS := news_lt N1
    have lne : ∀ p ∈ news, p.1 ≠ ledA N1 := ltNe (by assumption)
    dsimp only [ledA] at lne
    clear F1 N1
    (try dsimp only)
    refine' my_forGen (T := escF false 0 x.cps.toList) (PJ x (ledA N2) news (frM F2)) rfl ?hroom ?hlim hab hL1 D F2 N2 hnS ?hj ?hG rfl rfl rfl ?turn ?done
    case hroom => ktr_room
    case hlim => (rename Top _ _ _ _ _ _ => T9; exact T9.nolimit)
    case hj => exact ⟨0, _, none, [], 0, [], rfl, .nil, rfl, rfl, rfl, Nat.le_refl _, fun y e => (nomatch e), fun z _ _ _ _ => rfl⟩
    case hG => exact hb.push hbare
    case turn =>
      rintro i pos str t1 t2 m₁ _ h tk gs own hat hg hoff ⟨st, ts, op, rv, rn, rs, rfl, hrv, hfold, hst, hop, hlen, hys, hm⟩ hS F3 N3
      dsimp only [frM, ledA] at hm N3 hoff hS ⊢
      have F4 := pin4 F3 hop hst hm
      simp only [List.cons_append] at N3
      clear D F3 F2 N2 hst hop hm
      have hlt : i < (escF false 0 x.cps.toList).length := (List.getElem?_eq_some_iff.mp hat).1
      have hTl := esc_len x.cps.toList false 0
      have hxl : x.cps.toList.length < 500 := by simpa using (show x.cps.size < 500 from hl)
      have hSl : _ ∧ _ := ⟨hS _ (.head _), fun p hp => hS p (.tail _ hp)⟩
      have hnext := foldl_next (f := stripT x) (b := (0, none, [])) hat
      rw [← hfold] at hnext
      cases op with
      | none =>
        simp only [opV] at F4
        (repeat' ((fail_if_success (with_reducible show wpAny _ _ (exec (Stmt.While _ _ _ _) _) _ _ _)); (fail_if_success (with_reducible show wpAny _ _ (exec (Stmt.For _ _ _ _ _) _) _ _ _)); (fail_if_success (with_reducible show wpAny _ _ (execs (Stmt.For _ _ _ _ _ :: _) _) _ _ _)); (fail_if_success (with_reducible show wpAny _ _ (call (Value.ref _) _ _) _ _ _)); (fail_if_success (with_reducible show wpAny _ _ (pyIter _) _ _ _)); (fail_if_success (with_reducible show InvEndN _ _ _ _ _ _ _)); (fail_if_success (with_reducible show wpAny _ _ (call (Value.type "tuple") [Value.ref _] _) _ _ _)); (fail_if_success (with_reducible show wpAny _ _ (call (Value.type "enumerate") [Value.str _ _] _) _ _ _)); (first | ((with_reducible show wpAny _ _ (exec _ _) _ _ _); k_fold; (try (refine gen_toks ?_; intro tk9))) | (((with_reducible show wpAny _ _ (binaryOp Operator.Add (Value.str _ _) (Value.str _ _)) _ _ _); refine PyProof.Rows.add_str (hsz := ?hsz) ?_; (case hsz => (((try simp only [Str.length_append, len_open, len_shut, len_tab, len_blank, len_back, Int.toNat_natCast]); rw [sizeLine_eq]; omega))); intro _ _)) | (((with_reducible show wpAny _ _ (call (Value.builtin "len") [Value.ref _]) _ _ _); (refine' my_lenTup ?qN ?qm ?qi ?qb ?_; (case qN => k_asm); (case qm => k_mem); (case qi => assumption); (case qb => omega)))) | (k_unfold; (try dsimp only)) | (walk1 <;> try dsimp only) | (dsimp only; walk1) | (leave1; walk_say "STEP leave1"; try dsimp only))))
        · rename Fr _ _ _ _ => F5
          rename News _ _ _ _ => N5
          have hq : str = sQuot := eq_of_beq (by assumption)
          refine par_end (op := some (pos, t1)) F5 N5 rfl hrv ?_ rfl rfl (by omega) hys ?_ hoff hSl
          · rw [hnext]; simp [stripT, hq]
          · intro z q1 q2 q3 q4; simp [q1, q2, q3, q4]
        · rename Fr _ _ _ _ => F5
          rename News _ _ _ _ => N5
          have hq : str ≠ sQuot := ne_of_beq_false (by assumption)
          refine par_end (op := none) F5 N5 rfl hrv ?_ rfl rfl (by omega) hys ?_ hoff hSl
          · rw [hnext]; simp [stripT, hq]
          · intro z q1 q2 q3 q4; simp [q1, q2, q3, q4]
      | some op =>
        obtain ⟨o, to⟩ := op
        simp only [opV] at F4
        (repeat' ((fail_if_success (with_reducible show wpAny _ _ (exec (Stmt.While _ _ _ _) _) _ _ _)); (fail_if_success (with_reducible show wpAny _ _ (exec (Stmt.For _ _ _ _ _) _) _ _ _)); (fail_if_success (with_reducible show wpAny _ _ (execs (Stmt.For _ _ _ _ _ :: _) _) _ _ _)); (fail_if_success (with_reducible show wpAny _ _ (call (Value.ref _) _ _) _ _ _)); (fail_if_success (with_reducible show wpAny _ _ (pyIter _) _ _ _)); (fail_if_success (with_reducible show InvEndN _ _ _ _ _ _ _)); (fail_if_success (with_reducible show wpAny _ _ (call (Value.type "tuple") [Value.ref _] _) _ _ _)); (fail_if_success (with_reducible show wpAny _ _ (call (Value.type "enumerate") [Value.str _ _] _) _ _ _)); (first | ((with_reducible show wpAny _ _ (exec _ _) _ _ _); k_fold; (try (refine gen_toks ?_; intro tk9))) | (((with_reducible show wpAny _ _ (binaryOp Operator.Add (Value.str _ _) (Value.str _ _)) _ _ _); refine PyProof.Rows.add_str (hsz := ?hsz) ?_; (case hsz => (((try simp only [Str.length_append, len_open, len_shut, len_tab, len_blank, len_back, Int.toNat_natCast]); rw [sizeLine_eq]; omega))); intro _ _)) | (((with_reducible show wpAny _ _ (call (Value.builtin "len") [Value.ref _]) _ _ _); (refine' my_lenTup ?qN ?qm ?qi ?qb ?_; (case qN => k_asm); (case qm => k_mem); (case qi => assumption); (case qb => omega)))) | (k_unfold; (try dsimp only)) | (walk1 <;> try dsimp only) | (dsimp only; walk1) | (leave1; walk_say "STEP leave1"; try dsimp only))))
        · have hq : str = sQuot := eq_of_beq (by assumption)
          have hne : st ≠ o := by omega
          have hsl : (Txt.slice x (some (st : Int)) (some (o : Int))).length ≤ x.length := by assumption
          dsimp only [List.cons_append, List.nil_append]
          refine' my_appendS (n := rn) ?F ?N hrv ?hb ?U ?_
          case F => k_asm
          case N => k_asm
          case hb => omega
          case U => exact updOwn lne hoff
          intro h' F' N' hJ'
          (repeat' ((fail_if_success (with_reducible show wpAny _ _ (exec (Stmt.While _ _ _ _) _) _ _ _)); (fail_if_success (with_reducible show wpAny _ _ (exec (Stmt.For _ _ _ _ _) _) _ _ _)); (fail_if_success (with_reducible show wpAny _ _ (execs (Stmt.For _ _ _ _ _ :: _) _) _ _ _)); (fail_if_success (with_reducible show wpAny _ _ (call (Value.ref _) _ _) _ _ _)); (fail_if_success (with_reducible show wpAny _ _ (pyIter _) _ _ _)); (fail_if_success (with_reducible show InvEndN _ _ _ _ _ _ _)); (fail_if_success (with_reducible show wpAny _ _ (call (Value.type "tuple") [Value.ref _] _) _ _ _)); (fail_if_success (with_reducible show wpAny _ _ (call (Value.type "enumerate") [Value.str _ _] _) _ _ _)); (first | ((with_reducible show wpAny _ _ (exec _ _) _ _ _); k_fold; (try (refine gen_toks ?_; intro tk9))) | (((with_reducible show wpAny _ _ (binaryOp Operator.Add (Value.str _ _) (Value.str _ _)) _ _ _); refine PyProof.Rows.add_str (hsz := ?hsz) ?_; (case hsz => (((try simp only [Str.length_append, len_open, len_shut, len_tab, len_blank, len_back, Int.toNat_natCast]); rw [sizeLine_eq]; omega))); intro _ _)) | (((with_reducible show wpAny _ _ (call (Value.builtin "len") [Value.ref _]) _ _ _); (refine' my_lenTup ?qN ?qm ?qi ?qb ?_; (case qN => k_asm); (case qm => k_mem); (case qi => assumption); (case qb => omega)))) | (k_unfold; (try dsimp only)) | (walk1 <;> try dsimp only) | (dsimp only; walk1) | (leave1; walk_say "STEP leave1"; try dsimp only))))
          rename Fr _ _ _ _ => F5
          rename News _ _ _ _ => N5
          refine par_end (op := none) (st := pos + 1) F5 N5 rfl hJ' ?_ rfl rfl (by simp; omega) (by simpa [or_imp, forall_and, hsl] using hys) ?_ hoff hSl
          · rw [hnext]; simp [stripT, hq, hne]
          · intro z q1 q2 q3 q4; simp [q1, q2, q3, q4]
        · have hq : str = sQuot := eq_of_beq (by assumption)
          have hne : st = o := by omega
          rename Fr _ _ _ _ => F5
          rename News _ _ _ _ => N5
          refine par_end (op := none) (st := pos + 1) F5 N5 rfl hrv ?_ rfl rfl (by omega) hys ?_ hoff hSl
          · rw [hnext]; simp [stripT, hq, hne]
          · intro z q1 q2 q3 q4; simp [q1, q2, q3, q4]
        · have hq : str ≠ sQuot := ne_of_beq_false (by assumption)
          rename Fr _ _ _ _ => F5
          rename News _ _ _ _ => N5
          refine par_end (op := some (o, to)) F5 N5 rfl hrv ?_ rfl rfl (by omega) hys ?_ hoff hSl
          · rw [hnext]; simp [stripT, hq]
          · intro z q1 q2 q3 q4; simp [q1, q2, q3, q4]
    case done =>
      rintro m₁ _ h tk gs ⟨st, ts, op, rv, rn, rs, rfl, hrv, hfold, hst, hop, hlen, hys, hm⟩ hg F3 N3
      dsimp only [frM, ledA] at hm N3 ⊢
      have F4 := pin4d F3 hop hst hm
      rw [List.take_length] at hfold
      have hTl := esc_len x.cps.toList false 0
      have hxl : x.cps.toList.length < 500 := by simpa using (show x.cps.size < 500 from hl)
      clear D F3 F2 N2 hst hop hm
      (repeat' ((fail_if_success (with_reducible show wpAny _ _ (exec (Stmt.While _ _ _ _) _) _ _ _)); (fail_if_success (with_reducible show wpAny _ _ (exec (Stmt.For _ _ _ _ _) _) _ _ _)); (fail_if_success (with_reducible show wpAny _ _ (execs (Stmt.For _ _ _ _ _ :: _) _) _ _ _)); (fail_if_success (with_reducible show wpAny _ _ (call (Value.ref _) _ _) _ _ _)); (fail_if_success (with_reducible show wpAny _ _ (pyIter _) _ _ _)); (fail_if_success (with_reducible show InvEndN _ _ _ _ _ _ _)); (fail_if_success (with_reducible show wpAny _ _ (call (Value.type "tuple") [Value.ref _] _) _ _ _)); (fail_if_success (with_reducible show wpAny _ _ (call (Value.type "enumerate") [Value.str _ _] _) _ _ _)); (first | ((with_reducible show wpAny _ _ (exec _ _) _ _ _); k_fold; (try (refine gen_toks ?_; intro tk9))) | (((with_reducible show wpAny _ _ (binaryOp Operator.Add (Value.str _ _) (Value.str _ _)) _ _ _); refine PyProof.Rows.add_str (hsz := ?hsz) ?_; (case hsz => (((try simp only [Str.length_append, len_open, len_shut, len_tab, len_blank, len_back, Int.toNat_natCast]); rw [sizeLine_eq]; omega))); intro _ _)) | (((with_reducible show wpAny _ _ (call (Value.builtin "len") [Value.ref _]) _ _ _); (refine' my_lenTup ?qN ?qm ?qi ?qb ?_; (case qN => k_asm); (case qm => k_mem); (case qi => assumption); (case qb => omega)))) | (k_unfold; (try dsimp only)) | (walk1 <;> try dsimp only) | (dsimp only; walk1) | (leave1; walk_say "STEP leave1"; try dsimp only))))
      · have hst : st < x.cps.size := by first | assumption | exact Int.ofNat_lt.mp (show (st : Int) < (x.length : Int) by assumption)
        have hsl : (Txt.slice x (some (st : Int)) none).length ≤ x.length := by assumption
        dsimp only [List.cons_append, List.nil_append]
        refine' my_appendS (n := rn) ?F ?N hrv ?hb ?U ?_
        case F => k_asm
        case N => k_asm
        case hb => omega
        case U => exact .head lne
        intro h' F' N' hJ'
        have hys' : ∀ y ∈ rs ++ [Txt.slice x (some (st : Int)) none], y.length ≤ 500 := by
          intro y hy
          rcases List.mem_append.mp hy with hy | hy
          · exact Nat.le_trans (hys y hy) (Nat.le_of_lt hl)
          · rw [List.mem_singleton.mp hy]; exact Nat.le_trans hsl (Nat.le_of_lt hl)
        (repeat' ((fail_if_success (with_reducible show wpAny _ _ (exec (Stmt.While _ _ _ _) _) _ _ _)); (fail_if_success (with_reducible show wpAny _ _ (exec (Stmt.For _ _ _ _ _) _) _ _ _)); (fail_if_success (with_reducible show wpAny _ _ (execs (Stmt.For _ _ _ _ _ :: _) _) _ _ _)); (fail_if_success (with_reducible show wpAny _ _ (call (Value.ref _) _ _) _ _ _)); (fail_if_success (with_reducible show wpAny _ _ (pyIter _) _ _ _)); (fail_if_success (with_reducible show InvEndN _ _ _ _ _ _ _)); (fail_if_success (with_reducible show wpAny _ _ (call (Value.type "tuple") [Value.ref _] _) _ _ _)); (fail_if_success (with_reducible show wpAny _ _ (call (Value.type "enumerate") [Value.str _ _] _) _ _ _)); (first | ((with_reducible show wpAny _ _ (exec _ _) _ _ _); k_fold; (try (refine gen_toks ?_; intro tk9))) | (((with_reducible show wpAny _ _ (binaryOp Operator.Add (Value.str _ _) (Value.str _ _)) _ _ _); refine PyProof.Rows.add_str (hsz := ?hsz) ?_; (case hsz => (((try simp only [Str.length_append, len_open, len_shut, len_tab, len_blank, len_back, Int.toNat_natCast]); rw [sizeLine_eq]; omega))); intro _ _)) | (((with_reducible show wpAny _ _ (call (Value.builtin "len") [Value.ref _]) _ _ _); (refine' my_lenTup ?qN ?qm ?qi ?qb ?_; (case qN => k_asm); (case qm => k_mem); (case qi => assumption); (case qb => omega)))) | (k_unfold; (try dsimp only)) | (walk1 <;> try dsimp only) | (dsimp only; walk1) | (leave1; walk_say "STEP leave1"; try dsimp only))))
        refine join_listW (News.isList N' (.head _)) hJ' (by decide) (sum_le hys' (by simp; omega)) ?_
        intro t' k
        (repeat' ((fail_if_success (with_reducible show wpAny _ _ (exec (Stmt.While _ _ _ _) _) _ _ _)); (fail_if_success (with_reducible show wpAny _ _ (exec (Stmt.For _ _ _ _ _) _) _ _ _)); (fail_if_success (with_reducible show wpAny _ _ (execs (Stmt.For _ _ _ _ _ :: _) _) _ _ _)); (fail_if_success (with_reducible show wpAny _ _ (call (Value.ref _) _ _) _ _ _)); (fail_if_success (with_reducible show wpAny _ _ (pyIter _) _ _ _)); (fail_if_success (with_reducible show InvEndN _ _ _ _ _ _ _)); (fail_if_success (with_reducible show wpAny _ _ (call (Value.type "tuple") [Value.ref _] _) _ _ _)); (fail_if_success (with_reducible show wpAny _ _ (call (Value.type "enumerate") [Value.str _ _] _) _ _ _)); (first | ((with_reducible show wpAny _ _ (exec _ _) _ _ _); k_fold; (try (refine gen_toks ?_; intro tk9))) | (((with_reducible show wpAny _ _ (binaryOp Operator.Add (Value.str _ _) (Value.str _ _)) _ _ _); refine PyProof.Rows.add_str (hsz := ?hsz) ?_; (case hsz => (((try simp only [Str.length_append, len_open, len_shut, len_tab, len_blank, len_back, Int.toNat_natCast]); rw [sizeLine_eq]; omega))); intro _ _)) | (((with_reducible show wpAny _ _ (call (Value.builtin "len") [Value.ref _]) _ _ _); (refine' my_lenTup ?qN ?qm ?qi ?qb ?_; (case qN => k_asm); (case qm => k_mem); (case qi => assumption); (case qb => omega)))) | (k_unfold; (try dsimp only)) | (walk1 <;> try dsimp only) | (dsimp only; walk1) | (leave1; walk_say "STEP leave1"; try dsimp only))))
        rename Fr h₀ _ _ _ => F5
        rename News h₀ _ _ _ => N5
        refine hret _ _ _ _ F5 (led_drop N5 fun p hp => by simp [hp]) hg (.inr ⟨t', ?_⟩)
        rw [stripR]
        simp only [← hfold, hst, if_true]
      · have hst : ¬ st < x.cps.size := by
          have hq : ¬ (st : Int) < (x.length : Int) := by assumption
          exact fun e => hq (Int.ofNat_lt.mpr e)
        have hys' : ∀ y ∈ rs, y.length ≤ 500 := fun y hy => Nat.le_trans (hys y hy) (Nat.le_of_lt hl)
        refine join_listW (News.isList (by assumption) (.head _)) hrv (by decide) (sum_le hys' (by omega)) ?_
        intro t' k
        (repeat' ((fail_if_success (with_reducible show wpAny _ _ (exec (Stmt.While _ _ _ _) _) _ _ _)); (fail_if_success (with_reducible show wpAny _ _ (exec (Stmt.For _ _ _ _ _) _) _ _ _)); (fail_if_success (with_reducible show wpAny _ _ (execs (Stmt.For _ _ _ _ _ :: _) _) _ _ _)); (fail_if_success (with_reducible show wpAny _ _ (call (Value.ref _) _ _) _ _ _)); (fail_if_success (with_reducible show wpAny _ _ (pyIter _) _ _ _)); (fail_if_success (with_reducible show InvEndN _ _ _ _ _ _ _)); (fail_if_success (with_reducible show wpAny _ _ (call (Value.type "tuple") [Value.ref _] _) _ _ _)); (fail_if_success (with_reducible show wpAny _ _ (call (Value.type "enumerate") [Value.str _ _] _) _ _ _)); (first | ((with_reducible show wpAny _ _ (exec _ _) _ _ _); k_fold; (try (refine gen_toks ?_; intro tk9))) | (((with_reducible show wpAny _ _ (binaryOp Operator.Add (Value.str _ _) (Value.str _ _)) _ _ _); refine PyProof.Rows.add_str (hsz := ?hsz) ?_; (case hsz => (((try simp only [Str.length_append, len_open, len_shut, len_tab, len_blank, len_back, Int.toNat_natCast]); rw [sizeLine_eq]; omega))); intro _ _)) | (((with_reducible show wpAny _ _ (call (Value.builtin "len") [Value.ref _]) _ _ _); (refine' my_lenTup ?qN ?qm ?qi ?qb ?_; (case qN => k_asm); (case qm => k_mem); (case qi => assumption); (case qb => omega)))) | (k_unfold; (try dsimp only)) | (walk1 <;> try dsimp only) | (dsimp only; walk1) | (leave1; walk_say "STEP leave1"; try dsimp only))))
        rename Fr h₀ _ _ _ => F5
        rename News h₀ _ _ _ => N5
        refine hret _ _ _ _ F5 (led_drop N5 fun p hp => by simp [hp]) hg (.inr ⟨t', ?_⟩)
        rw [stripR]
        simp only [← hfold, hst, if_false]
noncomputable def parF : Int → List (Nat × Str) → Bool
  | o, [] => decide (o = 0)
  | o, t :: r => if t.2 = Str.ofString "(" then parF (o + 1) r else if t.2 = Str.ofString ")" then (if o - 1 < 0 then false else parF (o - 1) r) else parF o r
noncomputable abbrev CJ (T : List (Nat × Str)) (news : Led) (m₀ : Str → Option Value) (i : Nat) (m : Str → Option Value) (nx : Led) : Prop :=
  ∃ (o : Int) (t : Tok), nx = news ∧ parF 0 T = parF o (T.drop i) ∧ m (Str.ofString "opens") = some (.int o t) ∧ ∀ z, z ≠ Str.ofString "opens" → z ≠ Str.ofString "pos" → z ≠ Str.ofString "ch" → m z = m₀ z
theorem pin3 {h₀ h : Heap} {L : Addr} {m m₀ : Str → Option Value} {v1 v2 ov : Value} (F : Fr h₀ L h (fun z => if z = Str.ofString "ch" then some v2 else if z = Str.ofString "pos" then some v1 else m z)) (h1 : m (Str.ofString "opens") = some ov)
    (hm : ∀ z, z ≠ Str.ofString "opens" → z ≠ Str.ofString "pos" → z ≠ Str.ofString "ch" → m z = m₀ z) :
    Fr h₀ L h (fun z => if z = Str.ofString "ch" then some v2 else if z = Str.ofString "pos" then some v1 else if z = Str.ofString "opens" then some ov else m₀ z) := frC F fun z => by
  by_cases q1 : z = Str.ofString "ch"
  · simp only [if_pos q1]
  by_cases q2 : z = Str.ofString "pos"
  · simp only [if_neg q1, if_pos q2]
  by_cases q3 : z = Str.ofString "opens"
  · simp only [if_neg q1, if_neg q2, if_pos q3]; rw [q3, h1]
  simp only [if_neg q1, if_neg q2, if_neg q3]
  exact hm z q3 q2 q1
theorem pin3d {h₀ h : Heap} {L : Addr} {m m₀ : Str → Option Value} {ov : Value} (F : Fr h₀ L h m) (h1 : m (Str.ofString "opens") = some ov)
    (hm : ∀ z, z ≠ Str.ofString "opens" → z ≠ Str.ofString "pos" → z ≠ Str.ofString "ch" → m z = m₀ z) :
    Fr h₀ L h (fun z => if z = Str.ofString "ch" then m z else if z = Str.ofString "pos" then m z else if z = Str.ofString "opens" then some ov else m₀ z) := frC F fun z => by
  by_cases q1 : z = Str.ofString "ch"
  · simp only [if_pos q1]
  by_cases q2 : z = Str.ofString "pos"
  · simp only [if_neg q1, if_pos q2]
  by_cases q3 : z = Str.ofString "opens"
  · simp only [if_neg q1, if_neg q2, if_pos q3]; rw [q3, h1]
  simp only [if_neg q1, if_neg q2, if_neg q3]
  exact hm z q3 q2 q1
theorem chk_end {h₀ h' : Heap} {L : Addr} {T : List (Nat × Str)} {tk i S0 : Nat} {o : Int} {t : Tok} {news own : Led} {m₀ m' : Str → Option Value} {gs gs0 : Array GenState} {s₁ : Shared}
    (F : Fr h₀ L h' m') (N : News h₀ L h' (news ++ own)) (hg : gs = gs0) (hp : parF 0 T = parF o (T.drop (i + 1))) (ho : m' (Str.ofString "opens") = some (.int o t))
    (hm : ∀ z, z ≠ Str.ofString "opens" → z ≠ Str.ofString "pos" → z ≠ Str.ofString "ch" → m' z = m₀ z) (ha : OwnOff own (news.map (·.1))) (hS0 : ∀ p ∈ news, p.1 < S0) :
    MyEnd h₀ L (fun g => g = gs0) (fun m nx => CJ T news m₀ (i + 1) m nx ∧ ∀ p ∈ nx, p.1 < S0) own s₁ { s₁ with heap := h', toks := tk, gens := gs } :=
  MyEnd.intro news F N hg (fun p hp => List.mem_append_left own hp) (fun p hp => List.mem_append_right news hp) ha ⟨⟨o, t, rfl, hp, ho, hm⟩, hS0⟩
theorem drop_at {α : Type} {T : List α} {i : Nat} {a : α} (h : T[i]? = some a) : T.drop i = a :: T.drop (i + 1) := by
  obtain ⟨hl, e⟩ := List.getElem?_eq_some_iff.mp h
  rw [List.drop_eq_getElem_cons hl, e]
theorem check_says (w mean mg mb) (x : Str) (tx : Tok) (hl : x.length < 500) (hy : (stripR x).length < 500) :
    SaysG 40 400 w mean mg mb 42 [.str x tx] (fun v => ∃ y, (((Builtin.Str.occurrences x sQuot 0 x.length 1).isEmpty = true ∧ y = x) ∨ y = stripR x) ∧ v = .bool (parF 0 (escF false 0 y.cps.toList))) := by
  w_on
  unfold SaysG
  k_fill
  intro dp un gd cn cs a ccd cl outer A₀ base h₀ L m news s Q E B F X N T hk hd hu hb hret
  refine wpAny_call ?_
  ((k_dflt (refine' code_def ?k1 ?k2 ?k3 ?k4 ?k5 ?kA ?kF ?kK ?k6 ?k7 ?k8 ?k9 ?kB ?_ ?c2 ?c3 ?c4 ?c5; (case kA => exact rfl); (case kF => exact rfl); (case kK => first | exact rfl | assumption); (case k1 => k_asm); (case k2 => k_asm); (case k3 => k_asm); (case k4 => k_asm); (case k5 => k_asm); (case k6 => k_is); (case k7 => k_is); (case k8 => ktr_room); (case k9 => first | exact BindsTo.of_eq rfl | (refine' kp_binds ?kx ?ke; (case kx => k_in); (case ke => exact fun _ => rfl)) | exact binds_K (by k_in) rfl (by k_is) rfl rfl rfl | fail "enter: no rule for these arguments"); (case c5 => decide); (case kB => exact locs rfl); (case c2 => exact rfl); (case c3 => exact rfl); (case c4 => exact rfl); k_whole; intro g' L' h' FG' F' N' B' X' T'; (try dsimp only); (try k_lift B'); (try k_fold); (try (refine gen_toks ?_; intro tk9)))))
  rename Fr _ _ _ _ => F0
  replace F0 := lookN (l' := [(Str.ofString "addr", _)]) rfl F0
  (repeat' ((fail_if_success (with_reducible show wpAny _ _ (exec (Stmt.While _ _ _ _) _) _ _ _)); (fail_if_success (with_reducible show wpAny _ _ (exec (Stmt.For _ _ _ _ _) _) _ _ _)); (fail_if_success (with_reducible show wpAny _ _ (execs (Stmt.For _ _ _ _ _ :: _) _) _ _ _)); (fail_if_success (with_reducible show wpAny _ _ (call (Value.ref _) _ _) _ _ _)); (fail_if_success (with_reducible show wpAny _ _ (pyIter _) _ _ _)); (fail_if_success (with_reducible show InvEndN _ _ _ _ _ _ _)); (fail_if_success (with_reducible show wpAny _ _ (call (Value.type "tuple") [Value.ref _] _) _ _ _)); (fail_if_success (with_reducible show wpAny _ _ (call (Value.type "enumerate") [Value.str _ _] _) _ _ _)); (first | ((with_reducible show wpAny _ _ (exec _ _) _ _ _); k_fold; (try (refine gen_toks ?_; intro tk9))) | (((with_reducible show wpAny _ _ (binaryOp Operator.Add (Value.str _ _) (Value.str _ _)) _ _ _); refine PyProof.Rows.add_str (hsz := ?hsz) ?_; (case hsz => (((try simp only [Str.length_append, len_open, len_shut, len_tab, len_blank, len_back, Int.toNat_natCast]); rw [sizeLine_eq]; omega))); intro _ _)) | (((with_reducible show wpAny _ _ (call (Value.builtin "len") [Value.ref _]) _ _ _); (refine' my_lenTup ?qN ?qm ?qi ?qb ?_; (case qN => k_asm); (case qm => k_mem); (case qi => assumption); (case qb => omega)))) | (k_unfold; (try dsimp only)) | (walk1 <;> try dsimp only) | (dsimp only; walk1) | (leave1; walk_say "STEP leave1"; try dsimp only))))
  refine' strip_says w mean mg mb x tx hl _ _ _ _ _ _ _ _ _ _ _ _ _ _ _ _ _ _ ?k1 ?k2 ?k3 ?k4 ?k5 ?kK ?kd ?ku ?kb ?kR
  (((case k1 => k_asm); (case k2 => k_asm); (case k3 => k_asm); (case k4 => k_asm); (case k5 => k_asm); (case kK => first | exact rfl | assumption); (case kd => ktr_room); (case ku => ktr_units)))
  case kb => exact hb
  case kR =>
  intro v h3 tk3 gs3 F3 N3 hb3 hv
  obtain ⟨y, ty, hyl, hyy, rfl⟩ : ∃ y ty, y.length < 500 ∧ (((Builtin.Str.occurrences x sQuot 0 x.length 1).isEmpty = true ∧ y = x) ∨ y = stripR x) ∧ v = .str y ty := by
    rcases hv with ⟨q, t, rfl⟩ | ⟨t, rfl⟩
    · exact ⟨x, t, hl, .inl ⟨q, rfl⟩, rfl⟩
    · exact ⟨_, t, hy, .inr rfl, rfl⟩
  clear hv
  replace hret := fun h' tk' gs' Fz Nz bz b (hb : b = parF 0 (escF false 0 y.cps.toList)) => hret (.bool b) h' tk' gs' Fz Nz bz ⟨y, hyy, by rw [hb]⟩
  clear hyy hy hl
  generalize hT : escF false 0 y.cps.toList = TT at hret
  (repeat' ((fail_if_success (with_reducible show wpAny _ _ (exec (Stmt.While _ _ _ _) _) _ _ _)); (fail_if_success (with_reducible show wpAny _ _ (exec (Stmt.For _ _ _ _ _) _) _ _ _)); (fail_if_success (with_reducible show wpAny _ _ (execs (Stmt.For _ _ _ _ _ :: _) _) _ _ _)); (fail_if_success (with_reducible show wpAny _ _ (call (Value.ref _) _ _) _ _ _)); (fail_if_success (with_reducible show wpAny _ _ (pyIter _) _ _ _)); (fail_if_success (with_reducible show InvEndN _ _ _ _ _ _ _)); (fail_if_success (with_reducible show wpAny _ _ (call (Value.type "tuple") [Value.ref _] _) _ _ _)); (fail_if_success (with_reducible show wpAny _ _ (call (Value.type "enumerate") [Value.str _ _] _) _ _ _)); (first | ((with_reducible show wpAny _ _ (exec _ _) _ _ _); k_fold; (try (refine gen_toks ?_; intro tk9))) | (((with_reducible show wpAny _ _ (binaryOp Operator.Add (Value.str _ _) (Value.str _ _)) _ _ _); refine PyProof.Rows.add_str (hsz := ?hsz) ?_; (case hsz => (((try simp only [Str.length_append, len_open, len_shut, len_tab, len_blank, len_back, Int.toNat_natCast]); rw [sizeLine_eq]; omega))); intro _ _)) | (((with_reducible show wpAny _ _ (call (Value.builtin "len") [Value.ref _]) _ _ _); (refine' my_lenTup ?qN ?qm ?qi ?qb ?_; (case qN => k_asm); (case qm => k_mem); (case qi => assumption); (case qb => omega)))) | (k_unfold; (try dsimp only)) | (walk1 <;> try dsimp only) | (dsimp only; walk1) | (leave1; walk_say "STEP leave1"; try dsimp only))))
  refine wpAny_execs_cons ?_
  refine wpAny_For ?_ ?_
  case refine_2 => intro x; rfl
  (repeat' ((fail_if_success (with_reducible show wpAny _ _ (exec (Stmt.While _ _ _ _) _) _ _ _)); (fail_if_success (with_reducible show wpAny _ _ (exec (Stmt.For _ _ _ _ _) _) _ _ _)); (fail_if_success (with_reducible show wpAny _ _ (execs (Stmt.For _ _ _ _ _ :: _) _) _ _ _)); (fail_if_success (with_reducible show wpAny _ _ (call (Value.ref _) _ _) _ _ _)); (fail_if_success (with_reducible show wpAny _ _ (pyIter _) _ _ _)); (fail_if_success (with_reducible show InvEndN _ _ _ _ _ _ _)); (fail_if_success (with_reducible show wpAny _ _ (call (Value.type "tuple") [Value.ref _] _) _ _ _)); (fail_if_success (with_reducible show wpAny _ _ (call (Value.type "enumerate") [Value.str _ _] _) _ _ _)); (first | ((with_reducible show wpAny _ _ (exec _ _) _ _ _); k_fold; (try (refine gen_toks ?_; intro tk9))) | (((with_reducible show wpAny _ _ (binaryOp Operator.Add (Value.str _ _) (Value.str _ _)) _ _ _); refine PyProof.Rows.add_str (hsz := ?hsz) ?_; (case hsz => (((try simp only [Str.length_append, len_open, len_shut, len_tab, len_blank, len_back, Int.toNat_natCast]); rw [sizeLine_eq]; omega))); intro _ _)) | (((with_reducible show wpAny _ _ (call (Value.builtin "len") [Value.ref _]) _ _ _); (refine' my_lenTup ?qN ?qm ?qi ?qb ?_; (case qN => k_asm); (case qm => k_mem); (case qi => assumption); (case qb => omega)))) | (k_unfold; (try dsimp only)) | (walk1 <;> try dsimp only) | (dsimp only; walk1) | (leave1; walk_say "STEP leave1"; try dsimp only))))
  rename Fr _ _ _ _ => F1
  rename News _ _ _ _ => N1
  refine' esc_call w mean mg mb y ty (by omega) _ _ _ _ _ _ _ _ _ _ _ _ _ _ _ _ F1 ?X N1 ?T ?kd ?ku ?kR
  case X => k_asm
  case T => k_asm
  case kd => ktr_room
  case ku => ktr_units
  case kR =>
  intro ga h2 tk2 gs F2 N2 hga hbare D
  have hL1 := F1.ns.lt
  have hab := Nat.le_trans F1.above (Nat.le_of_lt hL1)
  have hnS := news_lt N1
  clear F1 N1
  rw [hT] at D
  (try dsimp only)
  refine' my_forGen (T := TT) (CJ TT news (frM F2)) rfl ?hroom ?hlim hab hL1 D F2 N2 hnS ?hj ?hG rfl rfl rfl ?turn ?done
  case hroom => ktr_room
  case hlim => (rename Top _ _ _ _ _ _ => T9; exact T9.nolimit)
  case hj => exact ⟨0, _, rfl, rfl, rfl, fun z _ _ _ => rfl⟩
  case hG => exact hb3.push hbare
  case turn =>
    rintro i pos str t1 t2 m₁ _ h tk gs own hat hg hoff ⟨o, to, rfl, hp, ho, hm⟩ hS F3 N3
    dsimp only [frM] at hm N3 hoff hS ⊢
    have F4 := pin3 F3 ho hm
    clear D F3 F2 N2 ho hm
    rw [drop_at hat, parF] at hp
    dsimp only at hp
    (repeat' ((fail_if_success (with_reducible show wpAny _ _ (exec (Stmt.While _ _ _ _) _) _ _ _)); (fail_if_success (with_reducible show wpAny _ _ (exec (Stmt.For _ _ _ _ _) _) _ _ _)); (fail_if_success (with_reducible show wpAny _ _ (execs (Stmt.For _ _ _ _ _ :: _) _) _ _ _)); (fail_if_success (with_reducible show wpAny _ _ (call (Value.ref _) _ _) _ _ _)); (fail_if_success (with_reducible show wpAny _ _ (pyIter _) _ _ _)); (fail_if_success (with_reducible show InvEndN _ _ _ _ _ _ _)); (fail_if_success (with_reducible show wpAny _ _ (call (Value.type "tuple") [Value.ref _] _) _ _ _)); (fail_if_success (with_reducible show wpAny _ _ (call (Value.type "enumerate") [Value.str _ _] _) _ _ _)); (first | ((with_reducible show wpAny _ _ (exec _ _) _ _ _); k_fold; (try (refine gen_toks ?_; intro tk9))) | (((with_reducible show wpAny _ _ (binaryOp Operator.Add (Value.str _ _) (Value.str _ _)) _ _ _); refine PyProof.Rows.add_str (hsz := ?hsz) ?_; (case hsz => (((try simp only [Str.length_append, len_open, len_shut, len_tab, len_blank, len_back, Int.toNat_natCast]); rw [sizeLine_eq]; omega))); intro _ _)) | (((with_reducible show wpAny _ _ (call (Value.builtin "len") [Value.ref _]) _ _ _); (refine' my_lenTup ?qN ?qm ?qi ?qb ?_; (case qN => k_asm); (case qm => k_mem); (case qi => assumption); (case qb => omega)))) | (k_unfold; (try dsimp only)) | (walk1 <;> try dsimp only) | (dsimp only; walk1) | (leave1; walk_say "STEP leave1"; try dsimp only))))
    · have hq : str = Str.ofString "(" := eq_of_beq (by assumption)
      rename Fr _ _ _ _ => F5
      rename News _ _ _ _ => N5
      refine chk_end F5 N5 rfl ?_ rfl (by intro z q1 q2 q3; simp [q1, q2, q3]) hoff hS
      rw [hp, if_pos hq]
    · have hq : str ≠ Str.ofString "(" := ne_of_beq_false (by assumption)
      have hr : str = Str.ofString ")" := eq_of_beq (by assumption)
      dsimp only [MyPost]
      (repeat' ((fail_if_success (with_reducible show wpAny _ _ (exec (Stmt.While _ _ _ _) _) _ _ _)); (fail_if_success (with_reducible show wpAny _ _ (exec (Stmt.For _ _ _ _ _) _) _ _ _)); (fail_if_success (with_reducible show wpAny _ _ (execs (Stmt.For _ _ _ _ _ :: _) _) _ _ _)); (fail_if_success (with_reducible show wpAny _ _ (call (Value.ref _) _ _) _ _ _)); (fail_if_success (with_reducible show wpAny _ _ (pyIter _) _ _ _)); (fail_if_success (with_reducible show InvEndN _ _ _ _ _ _ _)); (fail_if_success (with_reducible show wpAny _ _ (call (Value.type "tuple") [Value.ref _] _) _ _ _)); (fail_if_success (with_reducible show wpAny _ _ (call (Value.type "enumerate") [Value.str _ _] _) _ _ _)); (first | ((with_reducible show wpAny _ _ (exec _ _) _ _ _); k_fold; (try (refine gen_toks ?_; intro tk9))) | (((with_reducible show wpAny _ _ (binaryOp Operator.Add (Value.str _ _) (Value.str _ _)) _ _ _); refine PyProof.Rows.add_str (hsz := ?hsz) ?_; (case hsz => (((try simp only [Str.length_append, len_open, len_shut, len_tab, len_blank, len_back, Int.toNat_natCast]); rw [sizeLine_eq]; omega))); intro _ _)) | (((with_reducible show wpAny _ _ (call (Value.builtin "len") [Value.ref _]) _ _ _); (refine' my_lenTup ?qN ?qm ?qi ?qb ?_; (case qN => k_asm); (case qm => k_mem); (case qi => assumption); (case qb => omega)))) | (k_unfold; (try dsimp only)) | (walk1 <;> try dsimp only) | (dsimp only; walk1) | (leave1; walk_say "STEP leave1"; try dsimp only))))
      rename Fr h₀ _ _ _ => F5
      rename News h₀ _ _ _ => N5
      refine hret _ _ _ (F5) (led_drop N5 fun p hp => by simp [hp]) hg _ ?_
      rw [hp, if_neg hq, if_pos hr, if_pos (by first | assumption | omega)]
    · have hq : str ≠ Str.ofString "(" := ne_of_beq_false (by assumption)
      have hr : str = Str.ofString ")" := eq_of_beq (by assumption)
      rename Fr _ _ _ _ => F5
      rename News _ _ _ _ => N5
      refine chk_end F5 N5 rfl ?_ rfl (by intro z q1 q2 q3; simp [q1, q2, q3]) hoff hS
      rw [hp, if_neg hq, if_pos hr, if_neg (by first | assumption | omega)]
    · have hq : str ≠ Str.ofString "(" := ne_of_beq_false (by assumption)
      have hr : str ≠ Str.ofString ")" := ne_of_beq_false (by assumption)
      rename Fr _ _ _ _ => F5
      rename News _ _ _ _ => N5
      refine chk_end F5 N5 rfl ?_ rfl (by intro z q1 q2 q3; simp [q1, q2, q3]) hoff hS
      rw [hp, if_neg hq, if_neg hr]
  case done =>
    rintro m₁ _ h tk gs ⟨o, to, rfl, hp, ho, hm⟩ hg F3 N3
    dsimp only [frM] at hm N3 ⊢
    have F4 := pin3d F3 ho hm
    clear D F3 F2 N2 ho hm
    rw [List.drop_length, parF] at hp
    (repeat' ((fail_if_success (with_reducible show wpAny _ _ (exec (Stmt.While _ _ _ _) _) _ _ _)); (fail_if_success (with_reducible show wpAny _ _ (exec (Stmt.For _ _ _ _ _) _) _ _ _)); (fail_if_success (with_reducible show wpAny _ _ (execs (Stmt.For _ _ _ _ _ :: _) _) _ _ _)); (fail_if_success (with_reducible show wpAny _ _ (call (Value.ref _) _ _) _ _ _)); (fail_if_success (with_reducible show wpAny _ _ (pyIter _) _ _ _)); (fail_if_success (with_reducible show InvEndN _ _ _ _ _ _ _)); (fail_if_success (with_reducible show wpAny _ _ (call (Value.type "tuple") [Value.ref _] _) _ _ _)); (fail_if_success (with_reducible show wpAny _ _ (call (Value.type "enumerate") [Value.str _ _] _) _ _ _)); (first | ((with_reducible show wpAny _ _ (exec _ _) _ _ _); k_fold; (try (refine gen_toks ?_; intro tk9))) | (((with_reducible show wpAny _ _ (binaryOp Operator.Add (Value.str _ _) (Value.str _ _)) _ _ _); refine PyProof.Rows.add_str (hsz := ?hsz) ?_; (case hsz => (((try simp only [Str.length_append, len_open, len_shut, len_tab, len_blank, len_back, Int.toNat_natCast]); rw [sizeLine_eq]; omega))); intro _ _)) | (((with_reducible show wpAny _ _ (call (Value.builtin "len") [Value.ref _]) _ _ _); (refine' my_lenTup ?qN ?qm ?qi ?qb ?_; (case qN => k_asm); (case qm => k_mem); (case qi => assumption); (case qb => omega)))) | (k_unfold; (try dsimp only)) | (walk1 <;> try dsimp only) | (dsimp only; walk1) | (leave1; walk_say "STEP leave1"; try dsimp only))))
    rename Fr h₀ _ _ _ => F5
    rename News h₀ _ _ _ => N5
    exact hret _ _ _ F5 N5 hg _ hp.symm
/-- how many of l are k or more -/
noncomputable def geC (k : Int) : List Int → Nat
  | [] => 0
  | x :: r => (if k ≤ x then 1 else 0) + geC k r
theorem geC_le {k k' : Int} (h : k ≤ k') : ∀ l, geC k' l ≤ geC k l
  | [] => Nat.le_refl _
  | x :: r => by
    have := geC_le h r
    simp only [geC]
    split <;> split <;> omega
theorem geC_all {k : Int} : ∀ {l : List Int}, (∀ x ∈ l, k ≤ x) → geC k l = l.length
  | [], _ => rfl
  | x :: r, h => by
    have := geC_all (k := k) (l := r) (fun y hy => h y (.tail _ hy))
    have hx := h x (.head _)
    simp only [geC, List.length_cons, if_pos hx, this]
    omega
theorem bl_full : ∀ (f : List Int) (x : Int), bl f x = f.length → geC x f = 0
  | [], _, _ => rfl
  | y :: r, x, h => by
    simp only [bl, List.length_cons] at h
    split at h
    · rename_i hy
      have := bl_full r x (by omega)
      simp only [geC, this]
      rw [if_neg (by omega)]
    · omega
theorem bl_part : ∀ (f : List Int) (x : Int), Asc f → bl f x ≠ f.length → x ≤ f.getD (bl f x) 0 ∧ (∀ k, geC k f = (if k ≤ f.getD (bl f x) 0 then 1 else 0) + geC k (f.eraseIdx (bl f x))) ∧ ∀ k, x ≤ k → k ≤ f.getD (bl f x) 0 → geC k f = geC x f
  | [], _, _, h => absurd rfl h
  | y :: r, x, ha, h => by
    have ha2 := List.pairwise_cons.mp ha
    by_cases hy : y < x
    · have hb : bl (y :: r) x = bl r x + 1 := by simp [bl, hy]
      rw [hb] at h ⊢
      obtain ⟨h1, h2, h3⟩ := bl_part r x ha2.2 (by simp only [List.length_cons] at h; omega)
      simp only [List.getD_cons_succ, List.eraseIdx_cons_succ]
      refine ⟨h1, fun k => ?_, fun k hk hk2 => ?_⟩
      · simp only [geC]
        have := h2 k
        omega
      · simp only [geC]
        rw [h3 k hk hk2, if_neg (by omega), if_neg (by omega)]
    · have hb : bl (y :: r) x = 0 := by simp [bl, hy]
      rw [hb]
      simp only [List.getD_cons_zero, List.eraseIdx_cons_zero]
      refine ⟨by omega, fun k => rfl, fun k hk hk2 => ?_⟩
      rw [geC_all, geC_all]
      · intro z hz
        rcases List.mem_cons.mp hz with rfl | hz
        · omega
        · have := ha2.1 z hz; omega
      · intro z hz
        rcases List.mem_cons.mp hz with rfl | hz
        · omega
        · have := ha2.1 z hz; omega
/-- the street takes all cars just when, from each place on, no more wish than places are free -/
theorem str_hall (N : Int) : ∀ (r f gs : List Int), Asc f → (∀ x ∈ r, x ≤ N) → ((strF gs f r).isSome = true ↔ ∀ k, k ≤ N → geC k r ≤ geC k f)
  | [], f, gs, _, _ => by simp [strF, geC]
  | x :: r, f, gs, ha, hr => by
    rw [strF]
    split
    · rename_i hb
      simp only [Option.isSome_none, Bool.false_eq_true, false_iff]
      intro h
      have := h x (hr x (.head _))
      rw [bl_full f x hb] at this
      simp [geC] at this
    · rename_i hb
      obtain ⟨h1, h2, h3⟩ := bl_part f x ha hb
      rw [str_hall N r _ _ (asc_erase ha _) (fun y hy => hr y (.tail _ hy))]
      refine ⟨fun h k hk => ?_, fun h k hk => ?_⟩
      · have q := h k hk
        have := h2 k
        simp only [geC]
        by_cases q1 : k ≤ x
        · rw [if_pos q1]; rw [if_pos (by omega)] at this; omega
        · rw [if_neg q1]; omega
      · have q := h k hk
        have hx := h x (hr x (.head _))
        have := h2 k
        simp only [geC] at q hx
        rw [if_pos (Int.le_refl x)] at hx
        by_cases q1 : k ≤ x
        · rw [if_pos q1] at q; rw [if_pos (by omega)] at this; omega
        · rw [if_neg q1] at q
          by_cases q2 : k ≤ f.getD (bl f x) 0
          · rw [if_pos q2] at this
            have e1 := h3 k (by omega) q2
            have e2 := geC_le (k := x) (k' := k) (by omega) r
            omega
          · rw [if_neg q2] at this; omega
/-- the street's free places, for the ring's free places fr and the place i left out -/
noncomputable def sOf (n i : Int) (fr : List Int) : List Int := ((fr.filter fun k => decide (i < k)).map fun k => k - i - 1) ++ ((fr.filter fun k => decide (k < i)).map fun k => k + n - i)
noncomputable def subs : List Int → List (List Int)
  | [] => [[]]
  | a :: r => subs r ++ (subs r).map (a :: ·)
theorem subs_of {l l' : List Int} (h : l.Sublist l') : l ∈ subs l' := by
  induction h with
  | slnil => exact .head _
  | cons a _ ih => exact List.mem_append_left _ ih
  | cons_cons a _ ih => exact List.mem_append_right _ (List.mem_map.mpr ⟨_, ih, rfl⟩)
noncomputable def ringB (n : Int) (fr : List Int) (x i : Int) : Bool :=
  let k := if bl fr x = fr.length then 0 else bl fr x
  let m := (x - i - 1).fmod (n + 1)
  let b := bl (sOf n i fr) m
  if fr.getD k 0 = i then b == (sOf n i fr).length && !(fr.eraseIdx k).contains i else b != (sOf n i fr).length && (sOf n i fr).getD b 0 == (fr.getD k 0 - i - 1).fmod (n + 1) && (sOf n i fr).eraseIdx b == sOf n i (fr.eraseIdx k) && (fr.eraseIdx k).contains i
theorem ring_all4 : ((subs (rangeKs 0 5)).all fun fr => fr.all fun i => (rangeKs 0 5).all fun x => ringB 4 fr x i) = true := by decide +kernel
theorem ring_all5 : ((subs (rangeKs 0 6)).all fun fr => fr.all fun i => (rangeKs 0 6).all fun x => ringB 5 fr x i) = true := by decide +kernel
theorem mem_rangeKs {n : Nat} {x : Int} (h : 0 ≤ x) (h' : x < (n : Int)) : x ∈ rangeKs 0 n := by
  unfold rangeKs
  exact List.mem_map.mpr ⟨x.toNat, List.mem_range.mpr (by omega), by omega⟩
theorem ring_ok {n : Nat} (hn : n = 4 ∨ n = 5) {fr : List Int} (hf : fr.Sublist (rangeKs 0 (n + 1))) {x i : Int} (hx : 0 ≤ x ∧ x < (n : Int) + 1) (hi : i ∈ fr) : ringB n fr x i = true := by
  rcases hn with rfl | rfl
  · exact List.all_eq_true.mp (List.all_eq_true.mp (List.all_eq_true.mp ring_all4 fr (subs_of hf)) i hi) x (mem_rangeKs hx.1 hx.2)
  · exact List.all_eq_true.mp (List.all_eq_true.mp (List.all_eq_true.mp ring_all5 fr (subs_of hf)) i hi) x (mem_rangeKs hx.1 hx.2)
theorem rstep_sub : ∀ (r : List Int) (c : List Int × List Int), (r.foldl rstep c).2.Sublist c.2
  | [], c => List.Sublist.refl _
  | x :: r, c => (rstep_sub r _).trans (List.eraseIdx_sublist _ _)
theorem rstep_pre : ∀ (r : List Int) (c : List Int × List Int), ∃ D, (r.foldl rstep c).1 = c.1 ++ D
  | [], c => ⟨[], by simp⟩
  | x :: r, c => by
    obtain ⟨D, h⟩ := rstep_pre r (rstep c x)
    refine ⟨[c.2.getD (if bl c.2 x = c.2.length then 0 else bl c.2 x) 0] ++ D, ?_⟩
    rw [List.foldl_cons, h]
    simp [rstep]
theorem ring_sim {n : Nat} (hn : n = 4 ∨ n = 5) {i : Int} : ∀ (r fr gs gs' : List Int), fr.Sublist (rangeKs 0 (n + 1)) → i ∈ fr → (∀ x ∈ r, 0 ≤ x ∧ x < (n : Int) + 1) →
    strF gs' (sOf n i fr) (r.map fun k => (k - i - 1).fmod ((n : Int) + 1)) = if i ∈ (r.foldl rstep (gs, fr)).2 then some (gs' ++ ((r.foldl rstep (gs, fr)).1.drop gs.length).map fun k => (k - i - 1).fmod ((n : Int) + 1)) else none
  | [], fr, gs, gs', hf, hi, hr => by simp [strF, hi]
  | x :: r, fr, gs, gs', hf, hi, hr => by
    have hk := ring_ok hn hf (hr x (.head _)) hi
    rw [List.map_cons, strF, List.foldl_cons]
    unfold ringB at hk
    dsimp only at hk
    have e0 : rstep (gs, fr) x = (gs ++ [fr.getD (if bl fr x = fr.length then 0 else bl fr x) 0], fr.eraseIdx (if bl fr x = fr.length then 0 else bl fr x)) := rfl
    rw [e0]
    generalize (if bl fr x = fr.length then 0 else bl fr x) = k at hk ⊢
    split at hk
    · simp only [Bool.and_eq_true, beq_iff_eq, Bool.not_eq_true', List.contains_eq_mem, decide_eq_false_iff_not] at hk
      rw [if_pos hk.1, if_neg]
      intro h
      exact hk.2 ((rstep_sub r _).subset h)
    · simp only [Bool.and_eq_true, beq_iff_eq, bne_iff_ne, List.contains_eq_mem, decide_eq_true_eq] at hk
      obtain ⟨⟨⟨h1, h2⟩, h3⟩, h4⟩ := hk
      rw [if_neg h1, h2, h3, ring_sim hn r _ (gs ++ [fr.getD k 0]) _ ((List.eraseIdx_sublist _ _).trans hf) h4 (fun y hy => hr y (.tail _ hy))]
      obtain ⟨D, hD⟩ := rstep_pre r (gs ++ [fr.getD k 0], fr.eraseIdx k)
      rw [hD]
      simp
theorem sOf_all4 : ((rangeKs 0 5).all fun i => sOf 4 i (rangeKs 0 5) == rangeKs 0 4) = true := by decide +kernel
theorem sOf_all5 : ((rangeKs 0 6).all fun i => sOf 5 i (rangeKs 0 6) == rangeKs 0 5) = true := by decide +kernel
theorem sOf_range {n : Nat} (hn : n = 4 ∨ n = 5) {i : Int} (hi : i ∈ rangeKs 0 (n + 1)) : sOf n i (rangeKs 0 (n + 1)) = rangeKs 0 n := by
  rcases hn with rfl | rfl
  · exact beq_iff_eq.mp (List.all_eq_true.mp sOf_all4 i hi)
  · exact beq_iff_eq.mp (List.all_eq_true.mp sOf_all5 i hi)
theorem plain_str {n i : Nat} (hn : n = 4 ∨ n = 5) {xs : List Int} (hlen : xs.length = n) (hran : ∀ x ∈ xs, 0 ≤ x ∧ x < (n : Int) + 1) {gs : List Int} {y : Int} (h1 : (gs, [y]) = xs.foldl rstep ([], rangeKs 0 (xs.length + 1))) (hi : i < n + 1) :
    strF [] (rangeKs 0 n) (xs.map fun k' => (k' - (i : Int) - 1).fmod ((n : Int) + 1)) = if (i : Int) = y then some (gs.map fun k' => (k' - (i : Int) - 1).fmod ((n : Int) + 1)) else none := by
  have hm : (i : Int) ∈ rangeKs 0 (n + 1) := mem_rangeKs (by omega) (by omega)
  have := ring_sim hn xs (rangeKs 0 (n + 1)) [] [] (List.Sublist.refl _) hm hran
  rw [sOf_range hn hm, ← hlen, ← h1, hlen] at this
  rw [this]
  simp
theorem moved_le {n i : Nat} (hn : n = 4 ∨ n = 5) {xs ms : List Int} (hms : ms = xs.map fun k' => (k' - (i : Int) - 1).fmod ((n : Int) + 1)) : ∀ x ∈ ms, 0 ≤ x ∧ x ≤ (n : Int) := by
  intro x hx
  rw [hms] at hx
  obtain ⟨k, _, rfl⟩ := List.mem_map.mp hx
  have h1 := Int.fmod_nonneg_of_pos (k - (i : Int) - 1) (b := (n : Int) + 1) (by omega)
  have h2 := Int.fmod_lt_of_pos (k - (i : Int) - 1) (b := (n : Int) + 1) (by omega)
  omega
/-- the plain rule, for a street of n places -/
noncomputable def hallB (n : Nat) (l : List Int) : Bool := (rangeKs 0 (n + 1)).all fun k => decide (geC k l ≤ geC k (rangeKs 0 n))
theorem geC_perm {k : Int} {a b : List Int} (h : a.Perm b) : geC k a = geC k b := by
  induction h with
  | nil => rfl
  | cons x _ ih => simp only [geC, ih]
  | swap x y l => simp only [geC]; omega
  | trans _ _ a b => rw [a, b]
theorem hall_perm {n : Nat} {a b : List Int} (h : a.Perm b) : hallB n a = hallB n b := by
  unfold hallB
  simp only [geC_perm h]
theorem geC_neg {k : Int} (hk : k ≤ 0) : ∀ (l : List Int), (∀ x ∈ l, 0 ≤ x) → geC k l = geC 0 l
  | [], _ => rfl
  | x :: r, h => by
    have hx := h x (.head _)
    simp only [geC]
    rw [geC_neg hk r fun y hy => h y (.tail _ hy), if_pos (by omega), if_pos hx]
theorem hall_is {n i : Nat} (hn : n = 4 ∨ n = 5) {xs : List Int} (hlen : xs.length = n) (hran : ∀ x ∈ xs, 0 ≤ x ∧ x < (n : Int) + 1) {gs : List Int} {y : Int} (h1 : (gs, [y]) = xs.foldl rstep ([], rangeKs 0 (xs.length + 1))) (hi : i < n + 1)
    {ms : List Int} (hms : ms = xs.map fun k' => (k' - (i : Int) - 1).fmod ((n : Int) + 1)) : hallB n ms = decide ((i : Int) = y) := by
  have hS := plain_str hn hlen hran h1 hi
  have hb := moved_le hn hms
  rw [← hms] at hS
  have hH := str_hall n ms (rangeKs 0 n) [] (asc_range n) (fun x hx => (hb x hx).2)
  have hB : hallB n ms = true ↔ ∀ k : Int, k ≤ n → geC k ms ≤ geC k (rangeKs 0 n) := by
    unfold hallB
    rw [List.all_eq_true]
    refine ⟨fun h k hk => ?_, fun h k hk => ?_⟩
    · have hp : ∀ x ∈ rangeKs 0 n, (0 : Int) ≤ x := by
        intro x hx
        obtain ⟨j, _, rfl⟩ := List.mem_map.mp hx
        omega
      by_cases q : 0 ≤ k
      · exact of_decide_eq_true (h k (mem_rangeKs q (by omega)))
      · rw [geC_neg (by omega) ms fun x hx => (hb x hx).1, geC_neg (by omega) _ hp]
        exact of_decide_eq_true (h 0 (mem_rangeKs (Int.le_refl 0) (by omega)))
    · obtain ⟨j, hj, rfl⟩ := List.mem_map.mp hk
      have := List.mem_range.mp hj
      exact decide_eq_true (h _ (by omega))
  by_cases q : (i : Int) = y
  · rw [decide_eq_true q, hB, ← hH, hS, if_pos q]; rfl
  · rw [decide_eq_false q]
    refine Bool.eq_false_iff.mpr fun h => ?_
    rw [hB, ← hH, hS, if_neg q] at h
    cases h
/-- the sorted lists of m numbers from lo up to n -/
noncomputable def srt (n : Nat) : Nat → Int → List (List Int)
  | 0, _ => [[]]
  | m + 1, lo => (rangeKs 0 (n + 1)).flatMap fun a => if lo ≤ a then (srt n m a).map (a :: ·) else []
theorem srt_of (n : Nat) : ∀ (l : List Int) (lo : Int), l.Pairwise (· ≤ ·) → (∀ x ∈ l, lo ≤ x ∧ 0 ≤ x ∧ x ≤ (n : Int)) → l ∈ srt n l.length lo
  | [], _, _, _ => .head _
  | a :: r, lo, hp, h => by
    have ha := h a (.head _)
    have hp2 := List.pairwise_cons.mp hp
    refine List.mem_flatMap.mpr ⟨a, mem_rangeKs ha.2.1 (by omega), ?_⟩
    rw [if_pos ha.1]
    exact List.mem_map.mpr ⟨r, srt_of n r a hp2.2 (fun x hx => ⟨hp2.1 x hx, (h x (.tail _ hx)).2⟩), rfl⟩
noncomputable def ins (x : Int) : List Int → List Int
  | [] => [x]
  | y :: r => if x ≤ y then x :: y :: r else y :: ins x r
theorem ins_perm (x : Int) : ∀ l, (ins x l).Perm (x :: l)
  | [] => List.Perm.refl _
  | y :: r => by
    unfold ins
    split
    · exact List.Perm.refl _
    · exact ((ins_perm x r).cons y).trans (List.Perm.swap x y r)
theorem ins_sort (x : Int) : ∀ l : List Int, l.Pairwise (· ≤ ·) → (ins x l).Pairwise (· ≤ ·)
  | [], _ => List.pairwise_singleton _ _
  | y :: r, h => by
    have h2 := List.pairwise_cons.mp h
    unfold ins
    split
    · rename_i q
      refine List.pairwise_cons.mpr ⟨fun z hz => ?_, h⟩
      rcases List.mem_cons.mp hz with rfl | hz
      · exact q
      · exact Int.le_trans q (h2.1 z hz)
    · rename_i q
      refine List.pairwise_cons.mpr ⟨fun z hz => ?_, ins_sort x r h2.2⟩
      rcases List.mem_cons.mp ((ins_perm x r).mem_iff.mp hz) with rfl | hz
      · omega
      · exact h2.1 z hz
theorem sorted_of : ∀ l : List Int, ∃ o : List Int, o.Perm l ∧ o.Pairwise (· ≤ ·)
  | [] => ⟨[], List.Perm.refl _, .nil⟩
  | x :: r => by
    obtain ⟨o, hp, hs⟩ := sorted_of r
    exact ⟨ins x o, (ins_perm x o).trans (hp.cons x), ins_sort x o hs⟩
theorem ord_mem {n : Nat} {ms ord : List Int} (hl : ms.length = n) (hb : ∀ x ∈ ms, 0 ≤ x ∧ x ≤ (n : Int)) (hp : ord.Perm ms) (hs : ord.Pairwise (· ≤ ·)) : ord ∈ srt n n 0 := by
  have := srt_of n ord 0 hs fun x hx => by have := hb x (hp.mem_iff.mp hx); exact ⟨this.1, this⟩
  rwa [hp.length_eq, hl] at this
noncomputable def toldB (n : Nat) (ord : List Int) : Bool := decide ((rangeKs 0 ((n : Int) - 0).toNat).foldl (fun l k => if k < ord.getD k.toNat 0 then l ++ [k] else l) [] = [])
theorem told_all4 : ((srt 4 4 0).all fun l => toldB 4 l == hallB 4 l) = true := by decide +kernel
theorem told_all5 : ((srt 5 5 0).all fun l => toldB 5 l == hallB 5 l) = true := by decide +kernel
theorem told_ok {n : Nat} (hn : n = 4 ∨ n = 5) {l : List Int} (h : l ∈ srt n n 0) : toldB n l = hallB n l := by
  rcases hn with rfl | rfl
  · exact beq_iff_eq.mp (List.all_eq_true.mp told_all4 l h)
  · exact beq_iff_eq.mp (List.all_eq_true.mp told_all5 l h)
theorem plain_told {n i : Nat} (hn : n = 4 ∨ n = 5) {xs : List Int} (hlen : xs.length = n) (hran : ∀ x ∈ xs, 0 ≤ x ∧ x < (n : Int) + 1) {gs : List Int} {y : Int} (h1 : (gs, [y]) = xs.foldl rstep ([], rangeKs 0 (xs.length + 1))) (hi : i < n + 1) {ord : List Int}
    (hp : ord.Perm (xs.map fun k => (k - (i : Int) - 1).fmod ((n : Int) + 1))) (ha : ord.Pairwise (· ≤ ·)) [inst : Decidable ((rangeKs 0 ((n : Int) - 0).toNat).foldl (fun l k => if k < ord.getD k.toNat 0 then l ++ [k] else l) [] = [])] :
    decide ((rangeKs 0 ((n : Int) - 0).toNat).foldl (fun l k => if k < ord.getD k.toNat 0 then l ++ [k] else l) [] = []) = decide ((i : Int) = y) := by
  rw [← hall_is hn hlen hran h1 hi rfl, ← hall_perm hp, ← told_ok hn (ord_mem (by rw [List.length_map, hlen]) (moved_le hn rfl) hp ha)]
  unfold toldB
  congr
theorem plain_rev {n : Nat} (hn : n = 4 ∨ n = 5) {xs : List Int} (hlen : xs.length = n) (hran : ∀ x ∈ xs, 0 ≤ x ∧ x < (n : Int) + 1) {gs gs2 : List Int} {y y2 : Int} (h1 : (gs, [y]) = xs.foldl rstep ([], rangeKs 0 (xs.length + 1))) (h2 : (gs2, [y2]) = xs.reverse.foldl rstep ([], rangeKs 0 (xs.reverse.length + 1))) : y2 = y := by
  have hy : y ∈ rangeKs 0 (xs.length + 1) := by
    have := rstep_sub xs ([], rangeKs 0 (xs.length + 1))
    rw [← h1] at this
    exact this.subset (.head _)
  obtain ⟨j, hj, he⟩ := List.mem_map.mp hy
  have hj := List.mem_range.mp hj
  have e1 := hall_is hn hlen hran h1 (i := j) (by omega) rfl
  have e2 := hall_is hn (by rw [List.length_reverse, hlen]) (fun x hx => hran x (List.mem_reverse.mp hx)) h2 (i := j) (by omega) rfl
  rw [hall_perm ((List.reverse_perm xs).map _), e1, decide_eq_true (by omega)] at e2
  have := of_decide_eq_true e2.symm
  omega
theorem word_perm {a b : List Int} (h : a.Perm b) (k : Nat) : wordTo a k = wordTo b k := by
  unfold wordTo wsym
  simp only [(h.filter _).length_eq]
theorem tree_all4 : ((srt 4 4 0).all fun l => treeF 1 (wordTo l 5 ++ [0]) == some (hallB 4 l)) = true := by decide +kernel
theorem tree_all5 : ((srt 5 5 0).all fun l => treeF 1 (wordTo l 6 ++ [0]) == some (hallB 5 l)) = true := by decide +kernel
theorem plain_tree {n i : Nat} (hn : n = 4 ∨ n = 5) {xs : List Int} (hlen : xs.length = n) (hran : ∀ x ∈ xs, 0 ≤ x ∧ x < (n : Int) + 1) {gs : List Int} {y : Int} (h1 : (gs, [y]) = xs.foldl rstep ([], rangeKs 0 (xs.length + 1))) (hi : i < n + 1)
    {ms : List Int} (hms : ms = xs.map fun k' => (k' - (i : Int) - 1).fmod ((n : Int) + 1)) :
    treeF 1 (wordTo ms (n + 1) ++ [0]) = some (decide ((i : Int) = y)) := by
  obtain ⟨ord, hp, ha⟩ := sorted_of ms
  have hm := ord_mem (n := n) (by rw [hms, List.length_map, hlen]) (moved_le hn hms) hp ha
  rw [← hall_is hn hlen hran h1 hi hms, ← hall_perm hp, ← word_perm hp]
  rcases hn with rfl | rfl
  · exact beq_iff_eq.mp (List.all_eq_true.mp tree_all4 ord hm)
  · exact beq_iff_eq.mp (List.all_eq_true.mp tree_all5 ord hm)
theorem getD_zeros (c : List Int) (m j : Nat) : (c ++ List.replicate m 0).getD j 0 = c.getD j 0 := by
  simp only [List.getD_eq_getElem?_getD, List.getElem?_append]
  split
  · rfl
  · rename_i h
    rw [List.getElem?_eq_none (l := c) (by omega)]
    rw [List.getElem?_replicate]
    split <;> rfl
theorem getD_set (c : List Int) (k j : Nat) (v : Int) (hk : k < c.length) : (c.set k v).getD j 0 = if j = k then v else c.getD j 0 := by
  simp only [List.getD_eq_getElem?_getD, List.getElem?_set]
  by_cases q : k = j
  · subst q
    simp [hk]
  · simp [q, Ne.symm q]
theorem bump_getD (c : List Int) (b : Int) (hb : 0 ≤ b) (j : Nat) : (bump c b).getD j 0 = c.getD j 0 + if j = b.toNat then 1 else 0 := by
  have hq : ∀ j, (if (c.length : Int) ≤ b then c ++ (List.replicate (b - c.length + 1).toNat [0]).flatten else c).getD j 0 = c.getD j 0 := by
    intro j
    by_cases h : (c.length : Int) ≤ b
    · rw [if_pos h, rep_one, getD_zeros]
    · rw [if_neg h]
  have hl := bump_length c b hb
  unfold bump at hl ⊢
  rw [List.length_set] at hl
  rw [getD_set _ _ _ _ (by rw [hl]; exact Nat.lt_of_lt_of_le (Nat.lt_succ_self _) (Nat.le_max_right _ _)), hq, hq]
  by_cases h : j = b.toNat
  · rw [if_pos h, if_pos h, h]
  · rw [if_neg h, if_neg h, Int.add_zero]
theorem ext_getD {a b : List Int} (hl : a.length = b.length) (h : ∀ j, a.getD j 0 = b.getD j 0) : a = b :=
  List.ext_getElem hl fun i h1 h2 => by
    have := h i
    rwa [List.getD_eq_getElem?_getD, List.getD_eq_getElem?_getD, List.getElem?_eq_getElem h1, List.getElem?_eq_getElem h2] at this
theorem bump_comm (c : List Int) {a b : Int} (ha : 0 ≤ a) (hb : 0 ≤ b) : bump (bump c a) b = bump (bump c b) a := by
  refine ext_getD ?_ fun j => ?_
  · rw [bump_length _ _ hb, bump_length _ _ ha, bump_length _ _ ha, bump_length _ _ hb, Nat.max_assoc, Nat.max_assoc, Nat.max_comm (a.toNat + 1)]
  · rw [bump_getD _ _ hb, bump_getD _ _ ha, bump_getD _ _ ha, bump_getD _ _ hb]; exact Int.add_right_comm _ _ _
/-- the state that a lead of these wishes ends in -/
noncomputable def ldF (n : Int) (c : WSt) (x : Int) : WSt := ⟨c.n + (n - 1 + x) + 1, c.nt + 1, 0, bump c.cnt (c.b + (n - 1 + x))⟩
theorem run_blank : ∀ (k : Nat) (s : WSt), (List.replicate k 32).foldl wsStep s = ⟨s.n + k, s.nt, s.b + k, s.cnt⟩
  | 0, s => by simp
  | k + 1, s => by
    rw [List.replicate_succ, List.foldl_cons, run_blank k]
    simp only [wsStep, if_true]
    congr 1 <;> omega
theorem lead_run (n : Int) (hn : 1 ≤ n) : ∀ (xs : List Int), (∀ x ∈ xs, 0 ≤ x) → ∀ r : Str, ((xs.foldl (fun r x => r ++ Txt.mul (Str.ofString " ") (n - 1 + x) ++ Str.ofString "\t") r).cps.toList).foldl wsStep ⟨0, 0, 0, []⟩ = xs.foldl (ldF n) (r.cps.toList.foldl wsStep ⟨0, 0, 0, []⟩)
  | [], _, r => rfl
  | x :: t, h, r => by
    rw [List.foldl_cons, lead_run n hn t (fun y hy => h y (.tail _ hy)), List.foldl_cons]
    have hx := h x (.head _)
    have e : (r ++ Txt.mul (Str.ofString " ") (n - 1 + x) ++ Str.ofString "\t").cps.toList = r.cps.toList ++ List.replicate (n - 1 + x).toNat 32 ++ [9] := by
      show ((r.cps ++ (Txt.mul (Str.ofString " ") (n - 1 + x)).cps) ++ (Str.ofString "\t").cps).toList = _
      rw [Array.toList_append, Array.toList_append, show Str.ofString " " = ⟨#[32]⟩ from by decide +kernel, mul_one_list]
      rfl
    rw [e, List.foldl_append, List.foldl_append, run_blank]
    congr 1
    simp only [List.foldl_cons, List.foldl_nil, wsStep, show (9 : Nat) ≠ 32 from by decide, if_false]
    unfold ldF
    congr 1
    · omega
    · congr 1; omega
theorem lead_is (n : Int) (hn : 1 ≤ n) (xs : List Int) (h : ∀ x ∈ xs, 0 ≤ x) : wsRun (leadTo n xs).cps.toList = xs.foldl (ldF n) ⟨0, 0, 0, []⟩ := lead_run n hn xs h _
/-- a lead's state, the wishes in any order -/
noncomputable def ldG (n : Int) (c : WSt) (x : Int) : WSt := ⟨c.n + (n - 1 + x) + 1, c.nt + 1, 0, bump c.cnt (n - 1 + x)⟩
theorem ld_G (n : Int) : ∀ (xs : List Int) (c : WSt), c.b = 0 → xs.foldl (ldF n) c = xs.foldl (ldG n) c
  | [], _, _ => rfl
  | x :: t, c, h => by
    have e : ldF n c x = ldG n c x := by unfold ldF ldG; rw [h]; congr 2; omega
    rw [List.foldl_cons, List.foldl_cons, e]
    exact ld_G n t _ rfl
theorem ldG_perm (n : Int) (hn : 1 ≤ n) {a b : List Int} (h : a.Perm b) : (∀ x ∈ a, 0 ≤ x) → ∀ c : WSt, a.foldl (ldG n) c = b.foldl (ldG n) c := by
  induction h with
  | nil => intro _ c; rfl
  | cons x _ ih => intro h c; exact ih (fun y hy => h y (.tail _ hy)) _
  | swap x y l =>
    intro h c
    have hx := h x (.tail _ (.head _))
    have hy := h y (.head _)
    simp only [List.foldl_cons]
    congr 1
    simp only [ldG]
    rw [bump_comm c.cnt (a := n - 1 + y) (b := n - 1 + x) (by omega) (by omega)]
    congr 1
    omega
  | trans h1 _ ih1 ih2 =>
    intro h c
    rw [ih1 h c]
    exact ih2 (fun y hy => h y (h1.mem_iff.mpr hy)) c
theorem lead_perm {n : Int} (hn : 1 ≤ n) {a b : List Int} (h : a.Perm b) (ha : ∀ x ∈ a, 0 ≤ x) : wsRun (leadTo n a).cps.toList = wsRun (leadTo n b).cps.toList := by
  rw [lead_is n hn a ha, lead_is n hn b (fun y hy => ha y (h.mem_iff.mpr hy)), ld_G _ _ _ rfl, ld_G _ _ _ rfl, ldG_perm n hn h ha]
noncomputable def lessB (n : Nat) (l : List Int) : Bool :=
  lessF (l.foldl (ldG n) ⟨0, 0, 0, []⟩) (wsStep ((rangeKs 0 n).foldl (ldG n) ⟨0, 0, 0, []⟩) 32) == hallB n l && decide (1 < (l.foldl (ldG n) ⟨0, 0, 0, []⟩).cnt.length)
theorem less_all4 : ((srt 4 4 0).all fun l => lessB 4 l) = true := by decide +kernel
theorem less_all5 : ((srt 5 5 0).all fun l => lessB 5 l) = true := by decide +kernel
theorem full_len4 : 1 < (wsStep ((rangeKs 0 4).foldl (ldG 4) ⟨0, 0, 0, []⟩) 32).cnt.length := by decide +kernel
theorem full_len5 : 1 < (wsStep ((rangeKs 0 5).foldl (ldG 5) ⟨0, 0, 0, []⟩) 32).cnt.length := by decide +kernel
theorem full_run (n : Nat) (hn : n = 4 ∨ n = 5) : wsRun (leadTo (n : Int) (rangeKs 0 n) ++ Str.ofString " ").cps.toList = wsStep ((rangeKs 0 n).foldl (ldG n) ⟨0, 0, 0, []⟩) 32 := by
  have e : (leadTo (n : Int) (rangeKs 0 n) ++ Str.ofString " ").cps.toList = (leadTo (n : Int) (rangeKs 0 n)).cps.toList ++ [32] := by
    show ((leadTo (n : Int) (rangeKs 0 n)).cps ++ (Str.ofString " ").cps).toList = _
    rw [Array.toList_append]; rfl
  have hp : ∀ x ∈ rangeKs 0 n, (0 : Int) ≤ x := by
    intro x hx
    obtain ⟨j, _, rfl⟩ := List.mem_map.mp hx
    omega
  rw [e, wsRun_snoc, lead_is n (by omega) _ hp, ld_G _ _ _ rfl]
theorem plain_less {n i : Nat} (hn : n = 4 ∨ n = 5) {xs : List Int} (hlen : xs.length = n) (hran : ∀ x ∈ xs, 0 ≤ x ∧ x < (n : Int) + 1) {gs : List Int} {y : Int} (h1 : (gs, [y]) = xs.foldl rstep ([], rangeKs 0 (xs.length + 1))) (hi : i < n + 1)
    {ms : List Int} (hms : ms = xs.map fun k' => (k' - (i : Int) - 1).fmod ((n : Int) + 1)) :
    lessF (wsRun (leadTo (n : Int) ms).cps.toList) (wsRun (leadTo (n : Int) (rangeKs 0 n) ++ Str.ofString " ").cps.toList) = decide ((i : Int) = y) ∧ 1 < (wsRun (leadTo (n : Int) ms).cps.toList).cnt.length ∧ 1 < (wsRun (leadTo (n : Int) (rangeKs 0 n) ++ Str.ofString " ").cps.toList).cnt.length := by
  obtain ⟨ord, hp, ha⟩ := sorted_of ms
  have hb := moved_le hn hms
  have hm := ord_mem (n := n) (by rw [hms, List.length_map, hlen]) hb hp ha
  have hbo : ∀ x ∈ ord, (0 : Int) ≤ x := fun x hx => (hb x (hp.mem_iff.mp hx)).1
  rw [← hall_is hn hlen hran h1 hi hms, ← hall_perm hp, ← lead_perm (by omega) hp hbo, full_run n hn, lead_is n (by omega) ord hbo, ld_G _ _ _ rfl]
  have hB : lessB n ord = true := by
    rcases hn with rfl | rfl
    · exact List.all_eq_true.mp less_all4 ord hm
    · exact List.all_eq_true.mp less_all5 ord hm
  unfold lessB at hB
  simp only [Bool.and_eq_true, beq_iff_eq, decide_eq_true_eq] at hB
  refine ⟨hB.1, hB.2, ?_⟩
  rcases hn with rfl | rfl
  · exact full_len4
  · exact full_len5
noncomputable def kindsL : List Str := [⟨#[]⟩, ⟨#[34, 41, 34]⟩, ⟨#[92, 40]⟩, ⟨#[92, 34]⟩, ⟨#[34, 92, 34, 40, 34]⟩, ⟨#[92, 92]⟩]
theorem kinds_len {p : Str} (h : p ∈ kindsL) : p.length ≤ 10 := by
  simp only [kindsL, List.mem_cons, List.not_mem_nil, or_false] at h
  rcases h with rfl | rfl | rfl | rfl | rfl | rfl <;> decide
/-- the strip, sign by sign: behind a backslash, in quotation marks, what is kept -/
structure SS where
  e : Bool
  q : Bool
  out : List Nat
noncomputable def keepS (s : SS) (c : Nat) : List Nat := if s.q then s.out else s.out ++ [c]
noncomputable def sS (s : SS) (c : Nat) : SS :=
  if s.e then ⟨false, s.q, keepS s c⟩ else if c = 92 then ⟨true, s.q, keepS s c⟩ else if c = 34 then ⟨false, !s.q, s.out⟩ else ⟨false, s.q, keepS s c⟩
noncomputable def catS (l : List Str) : List Nat := (l.map (·.cps.toList)).flatten
theorem catS_snoc (l : List Str) (y : Str) : catS (l ++ [y]) = catS l ++ y.cps.toList := by simp [catS]
theorem join_cat (l : List Str) : (Txt.join (Str.ofString "") l).cps.toList = catS l := by
  have e : Txt.join (Str.ofString "") l = Str.join (Str.ofString "") l := StrLaws.glued_eq_join _ l
  rw [e]
  induction l with
  | nil => rfl
  | cons x r ih =>
    cases r with
    | nil => simp [Str.join, catS]
    | cons y t =>
      show ((x.cps ++ (Str.ofString "").cps) ++ (Str.join (Str.ofString "") (y :: t)).cps).toList = _
      rw [Array.toList_append, Array.toList_append, ih (StrLaws.glued_eq_join _ _), show (Str.ofString "").cps.toList = [] from by decide +kernel]
      simp [catS]
theorem slice_nat (x : Str) {a b : Nat} (hab : a ≤ b) (hb : b ≤ x.cps.toList.length) : (Txt.slice x (some (a : Nat)) (some (b : Nat))).cps.toList = (x.cps.toList.drop a).take (b - a) := by
  have := StrLaws.sliceText_nat x hab (by simpa [Str.length] using hb)
  have e : Txt.slice x (some (a : Nat)) (some (b : Nat)) = StrLaws.sliceText x (some (a : Int)) (some (b : Int)) := rfl
  rw [e, this]
theorem slice_from (x : Str) {a : Nat} (ha : a ≤ x.cps.toList.length) : (Txt.slice x (some (a : Nat)) none).cps.toList = x.cps.toList.drop a := by
  have e : Txt.slice x (some (a : Nat)) none = StrLaws.sliceText x (some (a : Int)) none := rfl
  have e2 : StrLaws.sliceText x (some (a : Int)) none = StrLaws.sliceText x (some (a : Int)) (some (x.length : Int)) := by
    unfold StrLaws.sliceText
    rw [StrLaws.sliceIdx_none_hi]
  rw [e, e2, StrLaws.sliceText_nat x (by simpa [Str.length] using ha) (Nat.le_refl _)]
  show List.take (x.length - a) (x.cps.toList.drop a) = _
  rw [List.take_of_length_le]
  simp [Str.length]
noncomputable def RelS (l : List Nat) (i : Nat) (c : Nat × Option Nat × List Str) (q : Bool) (out : List Nat) : Prop :=
  match c.2.1 with
  | none => q = false ∧ c.1 ≤ i ∧ out = catS c.2.2 ++ (l.drop c.1).take (i - c.1)
  | some o => q = true ∧ c.1 ≤ o ∧ o ≤ i ∧ out = catS c.2.2 ++ (l.drop c.1).take (o - c.1)
theorem quot_is : sQuot = ⟨#[34]⟩ := by decide +kernel
theorem back_ne (c : Nat) : sBack ++ (⟨#[c]⟩ : Str) ≠ sQuot := by
  intro h
  have := congrArg (fun s : Str => s.cps.size) h
  revert this
  show (((Str.ofString "\\").cps ++ #[c]).size = (Str.ofString "\"").cps.size) → False
  rw [Array.size_append, show (Str.ofString "\\").cps.size = 1 from by decide +kernel, show (Str.ofString "\"").cps.size = 1 from by decide +kernel]
  simp
theorem back_ne1 : sBack ≠ sQuot := by decide +kernel
theorem one_eq {c d : Nat} : ((⟨#[c]⟩ : Str) = ⟨#[d]⟩) ↔ c = d := by simp
theorem take_more {l : List Nat} {st i c : Nat} {r : List Nat} (hl : l.drop i = c :: r) (hst : st ≤ i) : (l.drop st).take (i + 1 - st) = (l.drop st).take (i - st) ++ [c] := by
  have h1 : l[i]? = some c := by
    have : (l.drop i)[0]? = some c := by rw [hl]; rfl
    rwa [List.getElem?_drop] at this
  rw [Nat.succ_sub hst, List.take_add_one, List.getElem?_drop, Nat.add_sub_cancel' hst, h1]
  rfl
theorem rel_keep {l : List Nat} {i ch : Nat} {r : List Nat} {c : Nat × Option Nat × List Str} {s : SS} (hl : l.drop i = ch :: r) (h : RelS l i c s.q s.out) : RelS l (i + 1) c s.q (keepS s ch) := by
  obtain ⟨st, op, rs⟩ := c
  unfold RelS keepS at *
  cases op with
  | none =>
    obtain ⟨h1, h2, h3⟩ := h
    dsimp only at h1 h2 h3 ⊢
    refine ⟨h1, by omega, ?_⟩
    rw [h1, take_more hl h2, h3]
    simp
  | some o =>
    obtain ⟨h1, h2, h3, h4⟩ := h
    dsimp only at h1 h2 h3 h4 ⊢
    refine ⟨h1, h2, by omega, ?_⟩
    rw [h1, h4]
    simp
theorem strip_run (x : Str) (l : List Nat) (hx : x.cps.toList = l) : ∀ (suf : List Nat) (i : Nat) (c : Nat × Option Nat × List Str) (s : SS), l.drop i = suf → i ≤ l.length → RelS l i c s.q s.out →
    RelS l l.length ((escF s.e i suf).foldl (stripT x) c) (suf.foldl sS s).q (suf.foldl sS s).out
  | [], i, c, s, hl, hi, h => by
    have hi2 : i = l.length := by
      have := congrArg List.length hl
      rw [List.length_drop] at this
      simp at this
      omega
    have e : (escF s.e i []).foldl (stripT x) c = c := by
      unfold escF
      split
      · simp only [List.foldl_cons, List.foldl_nil, stripT, if_neg back_ne1]
      · rfl
    rw [e, ← hi2]
    exact h
  | ch :: suf, i, c, s, hl, hi, h => by
    have hl2 : l.drop (i + 1) = suf := by
      rw [← List.drop_drop, hl]; rfl
    have hi2 : i + 1 ≤ l.length := by
      have := congrArg List.length hl
      rw [List.length_drop] at this
      simp at this
      omega
    rw [List.foldl_cons, escF]
    by_cases he : s.e = true
    · have e : sS s ch = ⟨false, s.q, keepS s ch⟩ := by unfold sS; rw [if_pos he]
      rw [if_pos he, e, List.foldl_cons]
      have e2 : stripT x c (i, sBack ++ ⟨#[ch]⟩) = c := by unfold stripT; rw [if_neg (back_ne ch)]
      rw [e2]
      exact strip_run x l hx suf (i + 1) c ⟨false, s.q, keepS s ch⟩ hl2 hi2 (rel_keep hl h)
    · rw [if_neg he]
      by_cases h9 : ch = 92
      · have e : sS s ch = ⟨true, s.q, keepS s ch⟩ := by unfold sS; rw [if_neg he, if_pos h9]
        rw [if_pos h9, e]
        exact strip_run x l hx suf (i + 1) c ⟨true, s.q, keepS s ch⟩ hl2 hi2 (rel_keep hl h)
      · rw [if_neg h9, List.foldl_cons]
        by_cases h3 : ch = 34
        · have e : sS s ch = ⟨false, !s.q, s.out⟩ := by unfold sS; rw [if_neg he, if_neg h9, if_pos h3]
          rw [e]
          refine strip_run x l hx suf (i + 1) _ ⟨false, !s.q, s.out⟩ hl2 hi2 ?_
          obtain ⟨st, op, rs⟩ := c
          unfold stripT
          rw [if_pos (by rw [quot_is, h3])]
          unfold RelS at h ⊢
          cases op with
          | none =>
            obtain ⟨h1, h2, h3⟩ := h
            dsimp only at h1 h2 h3 ⊢
            exact ⟨by rw [h1]; rfl, h2, by omega, h3⟩
          | some o =>
            obtain ⟨h1, h2, h3, h4⟩ := h
            dsimp only at h1 h2 h3 h4 ⊢
            refine ⟨by rw [h1]; rfl, Nat.le_refl _, ?_⟩
            rw [Nat.sub_self, List.take_zero, List.append_nil, h4]
            split
            · rename_i q
              rw [q, Nat.sub_self, List.take_zero, List.append_nil]
            · rw [catS_snoc, slice_nat x h2 (by rw [hx]; omega), hx]
        · have e : sS s ch = ⟨false, s.q, keepS s ch⟩ := by unfold sS; rw [if_neg he, if_neg h9, if_neg h3]
          have e2 : stripT x c (i, ⟨#[ch]⟩) = c := by unfold stripT; rw [if_neg (by rw [quot_is]; exact fun q => h3 (one_eq.mp q))]
          rw [e, e2]
          exact strip_run x l hx suf (i + 1) c ⟨false, s.q, keepS s ch⟩ hl2 hi2 (rel_keep hl h)
theorem strip_out (x : Str) {e : Bool} {out : List Nat} (h : x.cps.toList.foldl sS ⟨false, false, []⟩ = ⟨e, false, out⟩) : (stripR x).cps.toList = out := by
  have := strip_run x _ rfl x.cps.toList 0 (0, none, []) ⟨false, false, []⟩ rfl (Nat.zero_le _) ⟨rfl, Nat.le_refl _, by simp [catS]⟩
  rw [h] at this
  unfold stripR
  dsimp only at this ⊢
  generalize (escF false 0 x.cps.toList).foldl (stripT x) (0, none, []) = c at this ⊢
  obtain ⟨st, op, rs⟩ := c
  rw [join_cat]
  unfold RelS at this
  cases op with
  | some o => cases this.1
  | none =>
    obtain ⟨-, h2, h3⟩ := this
    dsimp only at h2 h3 ⊢
    rw [List.take_of_length_le (by rw [List.length_drop]; omega)] at h3
    split
    · rw [catS_snoc, slice_from x (by omega), h3]
    · rename_i q
      rw [h3, List.drop_of_length_le (by rw [Array.length_toList]; omega), List.append_nil]
theorem out_len : ∀ (l : List Nat) (s : SS), (l.foldl sS s).out.length ≤ s.out.length + l.length
  | [], s => Nat.le_refl _
  | c :: r, s => by
    have := out_len r (sS s c)
    have h : (sS s c).out.length ≤ s.out.length + 1 := by
      unfold sS keepS
      repeat' split
      all_goals simp
    rw [List.foldl_cons, List.length_cons]
    omega
theorem no_quot : ∀ (l : List Nat) (e : Bool) (out : List Nat), 34 ∉ l → ∃ e', l.foldl sS ⟨e, false, out⟩ = ⟨e', false, out ++ l⟩
  | [], e, out, _ => ⟨e, by simp⟩
  | c :: r, e, out, h => by
    have hc : c ≠ 34 := fun q => h (q ▸ .head _)
    obtain ⟨e2, he2⟩ : ∃ e2, sS ⟨e, false, out⟩ c = ⟨e2, false, out ++ [c]⟩ := by
      unfold sS keepS
      dsimp only
      split
      · exact ⟨false, rfl⟩
      · split
        · exact ⟨true, rfl⟩
        · first | exact ⟨false, rfl⟩ | (rw [if_neg hc]; exact ⟨false, rfl⟩)
    obtain ⟨e', he⟩ := no_quot r e2 (out ++ [c]) (fun q => h (.tail _ q))
    exact ⟨e', by rw [List.foldl_cons, he2, he, List.append_assoc]; rfl⟩
/-- the check, sign by sign: behind a backslash, how many stand open (none: one too many was shut) -/
noncomputable def shutV (v : Option Int) : Option Int := v.bind fun o => if o - 1 < 0 then none else some (o - 1)
noncomputable def openV (v : Option Int) : Option Int := v.map (· + 1)
noncomputable def pS (s : Bool × Option Int) (c : Nat) : Bool × Option Int :=
  if s.1 then (false, s.2) else if c = 92 then (true, s.2) else if c = 40 then (false, openV s.2) else if c = 41 then (false, shutV s.2) else (false, s.2)
theorem pS_none : ∀ (l : List Nat) (e : Bool), (l.foldl pS (e, none)).2 = none
  | [], _ => rfl
  | c :: r, e => by
    have : ∃ e', pS (e, none) c = (e', none) := by
      unfold pS
      repeat' split
      all_goals exact ⟨_, rfl⟩
    obtain ⟨e', he⟩ := this
    rw [List.foldl_cons, he]
    exact pS_none r e'
theorem open_is : Str.ofString "(" = ⟨#[40]⟩ := by decide +kernel
theorem shut_is : Str.ofString ")" = ⟨#[41]⟩ := by decide +kernel
theorem back_one (c d : Nat) : sBack ++ (⟨#[c]⟩ : Str) ≠ ⟨#[d]⟩ := by
  intro h
  have := congrArg (fun s : Str => s.cps.size) h
  revert this
  show (((Str.ofString "\\").cps ++ #[c]).size = (#[d] : Array Nat).size) → False
  rw [Array.size_append, show (Str.ofString "\\").cps.size = 1 from by decide +kernel]
  simp
theorem back_is : sBack = ⟨#[92]⟩ := by decide +kernel
theorem par_run : ∀ (l : List Nat) (e : Bool) (i : Nat) (o : Int), parF o (escF e i l) = decide ((l.foldl pS (e, some o)).2 = some 0)
  | [], e, i, o => by
    unfold escF
    cases e with
    | true =>
      rw [if_pos rfl, parF, if_neg (by rw [open_is, back_is]; simp), if_neg (by rw [shut_is, back_is]; simp), parF]
      simp
    | false => simp [parF]
  | c :: r, true, i, o => by
    rw [escF, if_pos rfl, parF, if_neg (by rw [open_is]; exact back_one _ _), if_neg (by rw [shut_is]; exact back_one _ _), par_run r]
    rfl
  | c :: r, false, i, o => by
    rw [escF, if_neg (by simp), List.foldl_cons]
    by_cases h9 : c = 92
    · rw [if_pos h9, par_run r]
      have e : pS (false, some o) c = (true, some o) := by unfold pS; rw [if_neg (by simp), if_pos h9]
      rw [e]
    · rw [if_neg h9, parF]
      by_cases h0 : c = 40
      · have e : pS (false, some o) c = (false, some (o + 1)) := by unfold pS; rw [if_neg (by simp), if_neg h9, if_pos h0]; rfl
        rw [if_pos (by rw [open_is, h0]), par_run r, e]
      · rw [if_neg (by rw [open_is]; exact fun q => h0 (one_eq.mp q))]
        by_cases h1 : c = 41
        · have e : pS (false, some o) c = (false, if o - 1 < 0 then none else some (o - 1)) := by unfold pS; rw [if_neg (by simp), if_neg h9, if_neg h0, if_pos h1]; rfl
          rw [if_pos (by rw [shut_is, h1]), e]
          split
          · rw [pS_none]; rfl
          · rw [par_run r]
        · have e : pS (false, some o) c = (false, some o) := by unfold pS; rw [if_neg (by simp), if_neg h9, if_neg h0, if_neg h1]
          rw [if_neg (by rw [shut_is]; exact fun q => h1 (one_eq.mp q)), par_run r, e]
noncomputable def GoodR (row : List Nat) (v : Option Int) : Prop := ∃ out, row.foldl sS ⟨false, false, []⟩ = ⟨false, false, out⟩ ∧ out.foldl pS (false, some 0) = (false, v)
theorem good_open {row : List Nat} {v : Option Int} (h : GoodR row v) {p : Str} (hp : p ∈ kindsL) : GoodR (row ++ [40] ++ p.cps.toList) (openV v) := by
  obtain ⟨out, h1, h2⟩ := h
  have key : ∃ add : List Nat, p.cps.toList.foldl sS ⟨false, false, out ++ [40]⟩ = ⟨false, false, out ++ [40] ++ add⟩ ∧ ∀ v, add.foldl pS (false, v) = (false, v) := by
    simp only [kindsL, List.mem_cons, List.not_mem_nil, or_false] at hp
    rcases hp with rfl | rfl | rfl | rfl | rfl | rfl
    · exact ⟨[], by simp, fun v => rfl⟩
    · exact ⟨[], by simp [sS, keepS], fun v => rfl⟩
    · exact ⟨[92, 40], by simp [sS, keepS], fun v => rfl⟩
    · exact ⟨[92, 34], by simp [sS, keepS], fun v => rfl⟩
    · exact ⟨[], by simp [sS, keepS], fun v => rfl⟩
    · exact ⟨[92, 92], by simp [sS, keepS], fun v => rfl⟩
  obtain ⟨add, k1, k2⟩ := key
  refine ⟨out ++ [40] ++ add, ?_, ?_⟩
  · rw [List.foldl_append, List.foldl_append, h1]
    exact k1
  · rw [List.foldl_append, List.foldl_append, h2]
    exact k2 _
theorem good_shut {row : List Nat} {v : Option Int} (h : GoodR row v) : GoodR (row ++ [41]) (shutV v) := by
  obtain ⟨out, h1, h2⟩ := h
  refine ⟨out ++ [41], ?_, ?_⟩
  · rw [List.foldl_append, h1]; rfl
  · rw [List.foldl_append, h2]; rfl
noncomputable def turnV (p : Int) (v : Option Int) (x : Int) : Option Int := if x = p then openV v else v
theorem good_in {ms : List Int} {ps : List Str} (hk : ∀ p ∈ ps, p ∈ kindsL) (place : Int) {row : Str} {v : Option Int} (h : GoodR row.cps.toList v) : ∀ k, GoodR (rowIn ms ps place row k).cps.toList ((List.range k).foldl (fun v i => turnV place v (ms.getD i 0)) v)
  | 0 => h
  | k + 1 => by
    have ih := good_in (ms := ms) hk place h k
    rw [rowIn_succ, List.range_succ, List.foldl_append, List.foldl_cons, List.foldl_nil]
    unfold rowTurn turnV
    split
    · have e : (rowIn ms ps place row k ++ sOpen ++ ps.getD k Str.empty).cps.toList = (rowIn ms ps place row k).cps.toList ++ [40] ++ (ps.getD k Str.empty).cps.toList := by
        show (((rowIn ms ps place row k).cps ++ (Str.ofString "(").cps) ++ (ps.getD k Str.empty).cps).toList = _
        rw [Array.toList_append, Array.toList_append, open_is]
      rw [e]
      refine good_open ih ?_
      rw [List.getD_eq_getElem?_getD]
      cases hg : ps[k]? with
      | none => exact .head _
      | some p => exact hk p (List.mem_of_getElem? hg)
    · exact ih
noncomputable def placeV (ms : List Int) (v : Option Int) (p : Nat) : Option Int := if p < ms.length then shutV (ms.foldl (turnV p) v) else ms.foldl (turnV p) v
theorem range_get (ms : List Int) {β : Type} (f : β → Int → β) (v : β) : (List.range ms.length).foldl (fun v i => f v (ms.getD i 0)) v = ms.foldl f v := by
  have e : (List.range ms.length).map (fun i => ms.getD i 0) = ms := by
    apply List.ext_getElem
    · simp
    · intro i h1 h2
      simp [h2]
  rw [← List.foldl_map (f := fun i => ms.getD i 0) (g := f), e]
theorem good_row {ms : List Int} {ps : List Str} (hk : ∀ p ∈ ps, p ∈ kindsL) : ∀ k, GoodR (rowTo ms ps k).cps.toList ((List.range k).foldl (placeV ms) (some 0))
  | 0 => ⟨[], rfl, rfl⟩
  | k + 1 => by
    have ih := good_in (ms := ms) hk (k : Int) (good_row (ms := ms) hk k) ms.length
    rw [range_get] at ih
    rw [rowTo_succ, List.range_succ, List.foldl_append, List.foldl_cons, List.foldl_nil]
    unfold rowPlace placeV
    dsimp only
    split
    · have e : (rowIn ms ps (k : Int) (rowTo ms ps k) ms.length ++ sShut).cps.toList = (rowIn ms ps (k : Int) (rowTo ms ps k) ms.length).cps.toList ++ [41] := by
        show ((rowIn ms ps (k : Int) (rowTo ms ps k) ms.length).cps ++ (Str.ofString ")").cps).toList = _
        rw [Array.toList_append, shut_is]
      rw [e]
      exact good_shut ih
    · exact ih
theorem turn_comm (p : Int) (v : Option Int) (x y : Int) : turnV p (turnV p v x) y = turnV p (turnV p v y) x := by
  unfold turnV
  repeat' split
  all_goals first | rfl | contradiction
theorem place_perm {a b : List Int} (h : a.Perm b) (v : Option Int) (p : Nat) : placeV a v p = placeV b v p := by
  unfold placeV
  rw [h.length_eq, h.foldl_eq' (fun x _ y _ z => turn_comm p z x y)]
theorem row_all4 : ((srt 4 4 0).all fun l => decide ((List.range 5).foldl (placeV l) (some 0) = some 0) == hallB 4 l) = true := by decide +kernel
theorem row_all5 : ((srt 5 5 0).all fun l => decide ((List.range 6).foldl (placeV l) (some 0) = some 0) == hallB 5 l) = true := by decide +kernel
theorem row_len {ws : List Int} {ps : List Str} (hp : ∀ p ∈ ps, p.length ≤ 10) (hw : ws.length ≤ 5) : ∀ k, (rowTo ws ps k).length ≤ 56 * k
  | 0 => by show (Str.ofString "").length ≤ 0; decide +kernel
  | k + 1 => by
    have h1 := row_len hp hw k
    have h2 := rowIn_len (ws := ws) hp (k : Int) (rowTo ws ps k) ws.length
    rw [rowTo_succ]
    unfold rowPlace
    dsimp only
    split
    · rw [Str.length_append, len_shut]; omega
    · omega
theorem plain_chk {n i : Nat} (hn : n = 4 ∨ n = 5) {xs : List Int} (hlen : xs.length = n) (hran : ∀ x ∈ xs, 0 ≤ x ∧ x < (n : Int) + 1) {gs : List Int} {y : Int} (h1 : (gs, [y]) = xs.foldl rstep ([], rangeKs 0 (xs.length + 1))) (hi : i < n + 1) {ps : List Str} (hps : ps.length = n) (hk : ∀ p ∈ ps, p ∈ kindsL)
    {ms : List Int} (hms : ms = xs.map fun k' => (k' - (i : Int) - 1).fmod ((n : Int) + 1)) :
    (rowTo ms ps (n + 1)).length < 500 ∧ (stripR (rowTo ms ps (n + 1))).length < 500 ∧ ∀ text, (((Builtin.Str.occurrences (rowTo ms ps (n + 1)) sQuot 0 (rowTo ms ps (n + 1)).length 1).isEmpty = true ∧ text = rowTo ms ps (n + 1)) ∨ text = stripR (rowTo ms ps (n + 1))) → parF 0 (escF false 0 text.cps.toList) = decide ((i : Int) = y) := by
  have hml : ms.length = n := by rw [hms, List.length_map, hlen]
  have hl := row_len (ws := ms) (ps := ps) (fun p hp => kinds_len (hk p hp)) (by omega) (n + 1)
  obtain ⟨out, g1, g2⟩ := good_row (ms := ms) hk (n + 1)
  have hs := strip_out _ g1
  have hol := out_len (rowTo ms ps (n + 1)).cps.toList ⟨false, false, []⟩
  rw [g1] at hol
  have hv : decide ((List.range (n + 1)).foldl (placeV ms) (some 0) = some 0) = decide ((i : Int) = y) := by
    obtain ⟨ord, hp, ha⟩ := sorted_of ms
    have hm := ord_mem hml (moved_le hn hms) hp ha
    rw [← hall_is hn hlen hran h1 hi hms, ← hall_perm hp, ← show placeV ord = placeV ms from funext fun v => funext fun p => place_perm hp v p]
    rcases hn with rfl | rfl
    · exact beq_iff_eq.mp (List.all_eq_true.mp row_all4 ord hm)
    · exact beq_iff_eq.mp (List.all_eq_true.mp row_all5 ord hm)
  refine ⟨by omega, ?_, ?_⟩
  · have e1 : (stripR (rowTo ms ps (n + 1))).length = out.length := by rw [← hs]; exact Array.length_toList.symm
    have e2 : (rowTo ms ps (n + 1)).cps.toList.length = (rowTo ms ps (n + 1)).length := Array.length_toList
    simp only [List.length_nil] at hol
    omega
  · intro text ht
    have e : text.cps.toList = out := by
      rcases ht with ⟨ht, rfl⟩ | rfl
      · rw [quot_is] at ht
        have hq := StrLaws.found_one (rowTo ms ps (n + 1)) 34
        rw [ht] at hq
        have hq2 : 34 ∉ (rowTo ms ps (n + 1)).cps.toList := of_decide_eq_false hq.symm
        obtain ⟨e', he⟩ := no_quot _ false [] hq2
        rw [g1] at he
        exact (congrArg SS.out he).symm
      · exact hs
    rw [e, par_run, g2]
    exact hv
noncomputable def lawPick : List Stmt × Scope :=
  match PySem.Challenge.pw_uq0012_01.main.body.reverse with
  | .FunctionDef _ _ body _ _ _ scope _ _ _ :: _ => (body, scope)
  | _ => ([], default)
noncomputable def lawScope : Scope := lawPick.2
noncomputable def lawTail : List Stmt := match lawPick.1 with | _ :: _ :: _ :: _ :: _ :: _ :: r => r | _ => []
noncomputable def turnRest : List Stmt :=
  match lawTail with
  | _ :: _ :: _ :: .For _ _ (_ :: _ :: _ :: r) _ _ :: _ => r
  | _ => []
theorem moved_bnd {n i : Nat} (hn : n = 4 ∨ n = 5) {xs ms : List Int} (hms : ms = xs.map fun k' => (k' - (i : Int) - 1).fmod ((n : Int) + 1)) : ∀ x ∈ ms, 0 ≤ x ∧ x < 10 := by
  intro x hx
  rw [hms] at hx
  obtain ⟨k, _, rfl⟩ := List.mem_map.mp hx
  rcases hn with rfl | rfl
  · exact ⟨Int.fmod_nonneg_of_pos _ (by decide), Int.lt_trans (Int.fmod_lt_of_pos _ (by decide)) (by decide)⟩
  · exact ⟨Int.fmod_nonneg_of_pos _ (by decide), Int.lt_trans (Int.fmod_lt_of_pos _ (by decide)) (by decide)⟩
theorem need2 {p p' : Addr × Obj} {news : Led} (h : p ∈ news) (h' : p' ∈ news) : ∀ q ∈ [p, p'], q ∈ news := fun q hq => by
  rcases List.mem_cons.mp hq with rfl | hq
  · exact h
  · rw [List.mem_singleton.mp hq]; exact h'
theorem rnd_led {h₀ h : Heap} {L tup got : Addr} {o1 o2 : Obj} {new news : Led} (N : News h₀ L h (new ++ news)) (h1 : (tup, o1) ∈ new) (h2 : (got, o2) ∈ new) : News h₀ L h ((tup, o1) :: (got, o2) :: news) := led_drop N fun p hp => by
  rcases List.mem_cons.mp hp with rfl | hp
  · exact List.mem_append_left _ h1
  rcases List.mem_cons.mp hp with rfl | hp
  · exact List.mem_append_left _ h2
  · exact List.mem_append_right _ hp
theorem rnd_lt {tup got : Addr} {o1 o2 : Obj} {new news : Led} (l : ∀ q ∈ news, ∀ p ∈ new, q.1 < p.1) (h1 : (tup, o1) ∈ new) (h2 : (got, o2) ∈ new) : AllLt tup news ∧ AllLt got news :=
  ⟨allLt_of fun q hq => l q hq _ h1, allLt_of fun q hq => l q hq _ h2⟩
theorem need1 {p : Addr × Obj} {news : Led} (h : p ∈ news) : ∀ q ∈ [p], q ∈ news := fun q hq => by rw [List.mem_singleton.mp hq]; exact h
theorem rstep_len1 : ∀ (xs : List Int) (c : List Int × List Int), (xs.foldl rstep c).1.length = c.1.length + xs.length
  | [], c => rfl
  | x :: r, c => by
    rw [List.foldl_cons, rstep_len1 r]
    simp [rstep]
    omega
theorem rstep_len {xs fs gs : List Int} {y : Int} (h : (gs, [y]) = xs.foldl rstep ([], fs)) : gs.length = xs.length := by
  have := rstep_len1 xs ([], fs)
  rw [← h] at this
  simpa using this
theorem range_bnd {n : Nat} (hn : n = 4 ∨ n = 5) : ∀ x ∈ rangeKs 0 n, 0 ≤ x ∧ x < 10 := by
  rcases hn with rfl | rfl <;> decide
theorem lead_ok : ∀ (m : Int) (xs : List Int), ∀ c ∈ (leadTo m xs).cps.toList, c = 32 ∨ c = 9 := by
  intro m xs
  unfold leadTo
  have : ∀ (xs : List Int) (r : Str), (∀ c ∈ r.cps.toList, c = 32 ∨ c = 9) → ∀ c ∈ (xs.foldl (fun r x => r ++ Txt.mul (Str.ofString " ") (m - 1 + x) ++ Str.ofString "	") r).cps.toList, c = 32 ∨ c = 9 := by
    intro xs
    induction xs with
    | nil => intro r h; exact h
    | cons x t ih =>
      intro r h
      refine ih _ fun c hc => ?_
      have e : (r ++ Txt.mul (Str.ofString " ") (m - 1 + x) ++ Str.ofString "	").cps.toList = r.cps.toList ++ List.replicate (m - 1 + x).toNat 32 ++ [9] := by
        show ((r.cps ++ (Txt.mul (Str.ofString " ") (m - 1 + x)).cps) ++ (Str.ofString "	").cps).toList = _
        rw [Array.toList_append, Array.toList_append, show Str.ofString " " = ⟨#[32]⟩ from by decide +kernel, mul_one_list]
        rfl
      rw [e] at hc
      rcases List.mem_append.mp hc with hc | hc
      · rcases List.mem_append.mp hc with hc | hc
        · exact h c hc
        · exact .inl (List.eq_of_mem_replicate hc)
      · exact .inr (List.mem_singleton.mp hc)
  exact this xs _ (fun c hc => by cases hc)
theorem lead_ok1 (m : Int) (xs : List Int) : ∀ c ∈ (leadTo m xs ++ Str.ofString " ").cps.toList, c = 32 ∨ c = 9 := by
  intro c hc
  have e : (leadTo m xs ++ Str.ofString " ").cps.toList = (leadTo m xs).cps.toList ++ [32] := by
    show ((leadTo m xs).cps ++ (Str.ofString " ").cps).toList = _
    rw [Array.toList_append]; rfl
  rw [e] at hc
  rcases List.mem_append.mp hc with hc | hc
  · exact lead_ok m xs c hc
  · exact .inl (List.mem_singleton.mp hc)
theorem ws_lt {news : Led} {no tc ia dx : Addr} {o1 o2 o3 o4 : Obj} (l : ∀ q ∈ news, ∀ p ∈ [(no, o1), (tc, o2), (ia, o3), (dx, o4)], q.1 < p.1) : (AllLt no news ∧ AllLt tc news) ∧ AllLt ia news ∧ AllLt dx news :=
  ⟨⟨allLt_of fun q hq => l q hq _ (.head _), allLt_of fun q hq => l q hq _ (.tail _ (.head _))⟩, allLt_of fun q hq => l q hq _ (.tail _ (.tail _ (.head _))), allLt_of fun q hq => l q hq _ (.tail _ (.tail _ (.tail _ (.head _))))⟩
theorem subK {α : Type} {a : α} {l l' : List α} (h : ∀ p ∈ l, p ∈ l') : ∀ p ∈ a :: l, p ∈ a :: l' := fun p hp => (List.mem_cons.mp hp).elim (fun e => e ▸ .head _) fun hp => .tail _ (h p hp)
theorem subS {α : Type} {a : α} {l l' : List α} (h : ∀ p ∈ l, p ∈ l') : ∀ p ∈ l, p ∈ a :: l' := fun p hp => .tail _ (h p hp)
theorem subN {α : Type} {l : List α} : ∀ p ∈ ([] : List α), p ∈ l := fun _ h => nomatch h
theorem subR {α : Type} {l : List α} : ∀ p ∈ l, p ∈ l := fun _ h => h
theorem subW {α : Type} {a b : α} {l : List α} : ∀ p ∈ a :: b :: l, p ∈ b :: a :: l := fun _ hp => (List.Perm.swap b a l).mem_iff.mp hp
theorem led_pick {h₀ h : Heap} {L : Addr} {w1 w2 w3 w4 a1 a2 a3 a4 a5 got pl wl c5 c4 c2 : Addr × Obj} (N : News h₀ L h ([w1, w2, w3, w4] ++ [a1, a2, a3, a4, a5, got, pl, wl, c5, c4, c2])) : News h₀ L h [w1, w2, w3, w4, got, pl, wl, c5, c4, c2] := led_drop N (subK (subK (subK (subK (subS (subS (subS (subS (subS subR)))))))))
noncomputable abbrev LJ (pre : Led) (c5 c4 : Addr) (c2 : Addr × Obj) (m₀ : Str → Option Value) (_ : Nat) (m : Str → Option Value) (nx : Led) : Prop :=
  ∃ (oo ot : Obj) (co ct : Option Value), nx = pre ++ [(c5, oo), (c4, ot), c2] ∧ oo.data = .cell co ∧ ot.data = .cell ct ∧ ∀ z, z ≠ Str.ofString "moved" → z ≠ Str.ofString "told" → z ≠ Str.ofString "due" → m z = m₀ z
theorem pinL {h₀ h : Heap} {L : Addr} {m m₀ : Str → Option Value} (F : Fr h₀ L h m) (hm : ∀ z, z ≠ Str.ofString "moved" → z ≠ Str.ofString "told" → z ≠ Str.ofString "due" → m z = m₀ z) :
    Fr h₀ L h (fun z => if z = Str.ofString "moved" then m z else if z = Str.ofString "told" then m z else if z = Str.ofString "due" then m z else m₀ z) := frC F fun z => by
  by_cases q1 : z = Str.ofString "moved"
  · simp only [if_pos q1]
  by_cases q2 : z = Str.ofString "told"
  · simp only [if_neg q1, if_pos q2]
  by_cases q3 : z = Str.ofString "due"
  · simp only [if_neg q1, if_neg q2, if_pos q3]
  simp only [if_neg q1, if_neg q2, if_neg q3]
  exact hm z q1 q2 q3
@[reducible] noncomputable def permL {a b : List Int} (_ : List.Perm a b) : List Int := a
theorem idx_lt {k : Int} {n len : Nat} (h : k < 0 + (((n : Int) - 0).toNat : Int)) (hl : len = n) : k < (len : Int) := by omega
theorem idx_fit {k : Int} {n : Nat} (h : k < 0 + (((n : Int) - 0).toNat : Int)) (hn : n = 4 ∨ n = 5) : k < 2 ^ 63 := by omega
theorem swap_sub {α : Type} {a b c d e f g : α} {R : List α} : ∀ p ∈ a :: b :: c :: d :: e :: f :: g :: R, p ∈ a :: b :: c :: d :: e :: g :: f :: R := subK (subK (subK (subK (subK subW))))
theorem eight_sub {α : Type} {a b c d e f g h m : α} {R : List α} : ∀ p ∈ [a, b, c, d, e, f, g, h], p ∈ a :: b :: c :: d :: m :: e :: f :: g :: h :: R := subK (subK (subK (subK (subS (subK (subK (subK (subK subN))))))))
noncomputable def turnRest2 : List Stmt := match turnRest with | _ :: _ :: _ :: r => r | _ => []
theorem isnot_bool {M : Model} {A : Around} {b : Bool} {Q E : Value → Shared → Prop} {s : Shared} (h : Q (.bool false) s) : wpAny M A (compareOp .IsNot (.bool b) (.bool b)) Q E s := wpAny_isNot_self (by cases b <;> rfl) h
local macro_rules | `(tactic| walk_at "compareOp IsNot bool bool") => `(tactic| (refine isnot_bool ?_))
theorem law_rest (w mean mg mb) (n : Nat) (hn : n = 4 ∨ n = 5) (b : Bool) (L : Nat) (fa md no tc2 ia dx pl : Addr) (ccd : Value) (mv pvs cv : List Value) (mn pn : Nat) (ps : List Str) (q0 q1 q2 q3 q4 q5 q6 q7 q8 : Tok) (xf : Str) (oth : Led)
    (hps : StrsAre pvs ps) (hpl : ps.length = n) (hp10 : ∀ p ∈ ps, p.length ≤ 10)
    (hcv : IntsAre cv (wsRun xf.cps.toList).cnt) (hxfl : xf.length < 400)
    (ms : List Int) (hmov : IntsAre mv ms) (hml : ms.length = n) (hmb : ∀ x ∈ ms, 0 ≤ x ∧ x < 10)
    (hr1 : (rowTo ms ps (n + 1)).length < 500) (hr2 : (stripR (rowTo ms ps (n + 1))).length < 500)
    (hC : ∀ text, (((Builtin.Str.occurrences (rowTo ms ps (n + 1)) sQuot 0 (rowTo ms ps (n + 1)).length 1).isEmpty = true ∧ text = rowTo ms ps (n + 1)) ∨ text = stripR (rowTo ms ps (n + 1))) → parF 0 (escF false 0 text.cps.toList) = b)
    (hW : lessF (wsRun (leadTo (n : Int) ms).cps.toList) (wsRun xf.cps.toList) = b) (hg1 : 1 < (wsRun (leadTo (n : Int) ms).cps.toList).cnt.length) (hg2 : 1 < (wsRun xf.cps.toList).cnt.length)
    (hT : treeF 1 (wordTo ms (n + 1) ++ [0]) = some b)
    (base h₀ : Heap) (m₀ : Str → Option Value) (s : Shared) (Q : Flow → Shared → Prop) (E : Value → Shared → Prop)
    (B : Below callerA base [] h₀) (X : (hd.heap_39 w.params).In h₀) (T : Top hd.view_39 (looseW hd.view_39 [Str.ofString "bisect_left", Str.ofString "Whitespace"]) mean mg mb h₀)
    (F : Fr h₀ L s.heap (fun z => if z = Str.ofString "told" then some (.bool b) else if z = Str.ofString "moved" then some (.ref md) else if z = Str.ofString "full" then some (.ref ia) else if z = Str.ofString "pieces" then some (.ref pl) else m₀ z))
    (N : News h₀ L s.heap ((md, listOf mv.toArray mn) :: (no, tupObj [.ref tc2, .int (wsRun xf.cps.toList).b q8]) :: (tc2, tupObj cv) :: (ia, instObj 113 dx) :: (dx, dictOf (wsEs w xf (wsRun xf.cps.toList) no q0 q1 q2 q3 q4 q5 q6 q7) 5) :: (pl, listOf pvs.toArray pn) :: oth))
    (hb : MyBare s.gens)
    (hQ : ∀ h' tk' gs' m' news', Fr h₀ L h' m' → News h₀ L h' news' → (∀ p ∈ (md, listOf mv.toArray mn) :: (no, tupObj [.ref tc2, .int (wsRun xf.cps.toList).b q8]) :: (tc2, tupObj cv) :: (ia, instObj 113 dx) :: (dx, dictOf (wsEs w xf (wsRun xf.cps.toList) no q0 q1 q2 q3 q4 q5 q6 q7) 5) :: (pl, listOf pvs.toArray pn) :: oth, p ∈ news') → MyBare gs' →
      (∀ z, m' z = (if z = Str.ofString "told" then some (.bool b) else if z = Str.ofString "moved" then some (.ref md) else if z = Str.ofString "full" then some (.ref ia) else if z = Str.ofString "pieces" then some (.ref pl) else m₀ z)) → Q .next { s with heap := h', toks := tk', gens := gs' }) :
    wpAny (model PySem.Challenge.rw_uq0012_01.row.prog w) (callerA.deeper (envOfC (Str.ofString "law") lawScope L fa ccd)) (execs turnRest2 (envOfC (Str.ofString "law") lawScope L fa ccd)) Q E s := by
  have hmvl : mv.length = n := by rw [hmov.length, hml]
  have hbd := wsRun_bnd xf.cps.toList
  have hbf : xf.cps.toList.length < 400 := by simpa using (show xf.cps.size < 400 from hxfl)
  w_on
  revert X
  k_fill
  intro X
  have eS : lawScope = lawScope := rfl
  have eT : turnRest2 = turnRest2 := rfl
  conv at eS => rhs; whnf
  conv at eT => rhs; whnf
  rw [eT, eS]
  clear eS eT
  repeat ((((fail_if_success (with_reducible show wpAny _ _ (exec (Stmt.While _ _ _ _) _) _ _ _)); (fail_if_success (with_reducible show wpAny _ _ (exec (Stmt.For _ _ _ _ _) _) _ _ _)); (fail_if_success (with_reducible show wpAny _ _ (execs (Stmt.For _ _ _ _ _ :: _) _) _ _ _)); (fail_if_success (with_reducible show wpAny _ _ (call (Value.ref _) _ _) _ _ _)); (fail_if_success (with_reducible show wpAny _ _ (pyIter _) _ _ _)); (fail_if_success (with_reducible show InvEndN _ _ _ _ _ _ _)); (fail_if_success (with_reducible show wpAny _ _ (call (Value.type "tuple") [Value.ref _] _) _ _ _)); (fail_if_success (with_reducible show wpAny _ _ (call (Value.type "enumerate") [Value.str _ _] _) _ _ _)); (first | ((with_reducible show wpAny _ _ (exec _ _) _ _ _); k_fold; (try (refine gen_toks ?_; intro tk9))) | (((with_reducible show wpAny _ _ (binaryOp Operator.Add (Value.str _ _) (Value.str _ _)) _ _ _); refine PyProof.Rows.add_str (hsz := ?hsz) ?_; (case hsz => (((try simp only [Str.length_append, len_open, len_shut, len_tab, len_blank, len_back, Int.toNat_natCast]); rw [sizeLine_eq]; omega))); intro _ _)) | (((with_reducible show wpAny _ _ (call (Value.builtin "len") [Value.ref _]) _ _ _); (refine' my_lenTup ?qN ?qm ?qi ?qb ?_; (case qN => k_asm); (case qm => k_mem); (case qi => assumption); (case qb => omega)))) | (((with_reducible show wpAny _ _ (subscriptTail _ _ (Value.ref _) (Value.int _ _)) _ _ _); (refine' item_list_ints ?l9 ?i9 ?h9 ?j9 ?f9 ?_; (case l9 => exact News.isList (by k_asm) (by k_mem)); (case i9 => assumption); (case h9 => assumption); (case j9 => exact idx_lt (by assumption) (by assumption)); (case f9 => exact idx_fit (by assumption) (by assumption))); intro t9)) | (k_unfold; (try dsimp only)) | walk1 | (dsimp only; walk1) | (leave1; walk_say "STEP leave1"; try dsimp only)))))
  refine' row_says w mean mg mb md pl mv pvs mn pn ms ps hmov hps (by omega) (by omega) hp10 _ _ _ _ _ _ _ _ _ _ _ _ _ _ _ _ _ _ ?k1 ?k2 ?k3 ?k4 ?k5 ?kK ?kn ?kd ?ku ?kR
  (((case k1 => k_asm); (case k2 => k_asm); (case k3 => k_asm); (case k4 => k_asm); (case k5 => k_asm); (case kK => first | exact rfl | assumption); (case kd => ktr_room); (case ku => ktr_units)))
  case kn => exact need2 (by k_mem) (by k_mem)
  case kR =>
  rintro v new h10 tk10 F10 N10 - ⟨rfl, t10, rfl⟩
  simp only [List.nil_append] at N10
  rw [hml]
  repeat ((((fail_if_success (with_reducible show wpAny _ _ (exec (Stmt.While _ _ _ _) _) _ _ _)); (fail_if_success (with_reducible show wpAny _ _ (exec (Stmt.For _ _ _ _ _) _) _ _ _)); (fail_if_success (with_reducible show wpAny _ _ (execs (Stmt.For _ _ _ _ _ :: _) _) _ _ _)); (fail_if_success (with_reducible show wpAny _ _ (call (Value.ref _) _ _) _ _ _)); (fail_if_success (with_reducible show wpAny _ _ (pyIter _) _ _ _)); (fail_if_success (with_reducible show InvEndN _ _ _ _ _ _ _)); (fail_if_success (with_reducible show wpAny _ _ (call (Value.type "tuple") [Value.ref _] _) _ _ _)); (fail_if_success (with_reducible show wpAny _ _ (call (Value.type "enumerate") [Value.str _ _] _) _ _ _)); (first | ((with_reducible show wpAny _ _ (exec _ _) _ _ _); k_fold; (try (refine gen_toks ?_; intro tk9))) | (((with_reducible show wpAny _ _ (binaryOp Operator.Add (Value.str _ _) (Value.str _ _)) _ _ _); refine PyProof.Rows.add_str (hsz := ?hsz) ?_; (case hsz => (((try simp only [Str.length_append, len_open, len_shut, len_tab, len_blank, len_back, Int.toNat_natCast]); rw [sizeLine_eq]; omega))); intro _ _)) | (((with_reducible show wpAny _ _ (call (Value.builtin "len") [Value.ref _]) _ _ _); (refine' my_lenTup ?qN ?qm ?qi ?qb ?_; (case qN => k_asm); (case qm => k_mem); (case qi => assumption); (case qb => omega)))) | (((with_reducible show wpAny _ _ (subscriptTail _ _ (Value.ref _) (Value.int _ _)) _ _ _); (refine' item_list_ints ?l9 ?i9 ?h9 ?j9 ?f9 ?_; (case l9 => exact News.isList (by k_asm) (by k_mem)); (case i9 => assumption); (case h9 => assumption); (case j9 => exact idx_lt (by assumption) (by assumption)); (case f9 => exact idx_fit (by assumption) (by assumption))); intro t9)) | (k_unfold; (try dsimp only)) | walk1 | (dsimp only; walk1) | (leave1; walk_say "STEP leave1"; try dsimp only)))))
  refine' check_says w mean mg mb _ _ hr1 hr2 _ _ _ _ _ _ _ _ _ _ _ _ _ _ _ _ _ _ ?k1 ?k2 ?k3 ?k4 ?k5 ?kK ?kd ?ku ?kb ?kR
  (((case k1 => k_asm); (case k2 => k_asm); (case k3 => k_asm); (case k4 => k_asm); (case k5 => k_asm); (case kK => first | exact rfl | assumption); (case kd => ktr_room); (case ku => ktr_units)))
  case kb => exact hb
  case kR =>
  rintro v h11 tk11 gs11 F11 N11 hb11 ⟨text, htx, rfl⟩
  rw [hC text htx]
  repeat ((((fail_if_success (with_reducible show wpAny _ _ (exec (Stmt.While _ _ _ _) _) _ _ _)); (fail_if_success (with_reducible show wpAny _ _ (exec (Stmt.For _ _ _ _ _) _) _ _ _)); (fail_if_success (with_reducible show wpAny _ _ (execs (Stmt.For _ _ _ _ _ :: _) _) _ _ _)); (fail_if_success (with_reducible show wpAny _ _ (call (Value.ref _) _ _) _ _ _)); (fail_if_success (with_reducible show wpAny _ _ (pyIter _) _ _ _)); (fail_if_success (with_reducible show InvEndN _ _ _ _ _ _ _)); (fail_if_success (with_reducible show wpAny _ _ (call (Value.type "tuple") [Value.ref _] _) _ _ _)); (fail_if_success (with_reducible show wpAny _ _ (call (Value.type "enumerate") [Value.str _ _] _) _ _ _)); (first | ((with_reducible show wpAny _ _ (exec _ _) _ _ _); k_fold; (try (refine gen_toks ?_; intro tk9))) | (((with_reducible show wpAny _ _ (binaryOp Operator.Add (Value.str _ _) (Value.str _ _)) _ _ _); refine PyProof.Rows.add_str (hsz := ?hsz) ?_; (case hsz => (((try simp only [Str.length_append, len_open, len_shut, len_tab, len_blank, len_back, Int.toNat_natCast]); rw [sizeLine_eq]; omega))); intro _ _)) | (((with_reducible show wpAny _ _ (call (Value.builtin "len") [Value.ref _]) _ _ _); (refine' my_lenTup ?qN ?qm ?qi ?qb ?_; (case qN => k_asm); (case qm => k_mem); (case qi => assumption); (case qb => omega)))) | (((with_reducible show wpAny _ _ (subscriptTail _ _ (Value.ref _) (Value.int _ _)) _ _ _); (refine' item_list_ints ?l9 ?i9 ?h9 ?j9 ?f9 ?_; (case l9 => exact News.isList (by k_asm) (by k_mem)); (case i9 => assumption); (case h9 => assumption); (case j9 => exact idx_lt (by assumption) (by assumption)); (case f9 => exact idx_fit (by assumption) (by assumption))); intro t9)) | (k_unfold; (try dsimp only)) | walk1 | (dsimp only; walk1) | (leave1; walk_say "STEP leave1"; try dsimp only)))))
  refine' lead_says w mean mg mb md mv mn ms hmov (by omega) hmb _ _ _ _ _ _ _ _ _ _ _ _ _ _ _ _ _ _ ?k1 ?k2 ?k3 ?k4 ?k5 ?kK ?kn ?kd ?ku ?kR
  (((case k1 => k_asm); (case k2 => k_asm); (case k3 => k_asm); (case k4 => k_asm); (case k5 => k_asm); (case kK => first | exact rfl | assumption); (case kd => ktr_room); (case ku => ktr_units)))
  case kn => exact need1 (by k_mem)
  case kR =>
  rintro v new3 h12 tk12 F12 N12 - ⟨rfl, tl, rfl, hll⟩
  simp only [List.nil_append] at N12
  rw [hml] at hll ⊢
  repeat ((((fail_if_success (with_reducible show wpAny _ _ (exec (Stmt.While _ _ _ _) _) _ _ _)); (fail_if_success (with_reducible show wpAny _ _ (exec (Stmt.For _ _ _ _ _) _) _ _ _)); (fail_if_success (with_reducible show wpAny _ _ (execs (Stmt.For _ _ _ _ _ :: _) _) _ _ _)); (fail_if_success (with_reducible show wpAny _ _ (call (Value.ref _) _ _) _ _ _)); (fail_if_success (with_reducible show wpAny _ _ (pyIter _) _ _ _)); (fail_if_success (with_reducible show InvEndN _ _ _ _ _ _ _)); (fail_if_success (with_reducible show wpAny _ _ (call (Value.type "tuple") [Value.ref _] _) _ _ _)); (fail_if_success (with_reducible show wpAny _ _ (call (Value.type "enumerate") [Value.str _ _] _) _ _ _)); (first | ((with_reducible show wpAny _ _ (exec _ _) _ _ _); k_fold; (try (refine gen_toks ?_; intro tk9))) | (((with_reducible show wpAny _ _ (binaryOp Operator.Add (Value.str _ _) (Value.str _ _)) _ _ _); refine PyProof.Rows.add_str (hsz := ?hsz) ?_; (case hsz => (((try simp only [Str.length_append, len_open, len_shut, len_tab, len_blank, len_back, Int.toNat_natCast]); rw [sizeLine_eq]; omega))); intro _ _)) | (((with_reducible show wpAny _ _ (call (Value.builtin "len") [Value.ref _]) _ _ _); (refine' my_lenTup ?qN ?qm ?qi ?qb ?_; (case qN => k_asm); (case qm => k_mem); (case qi => assumption); (case qb => omega)))) | (((with_reducible show wpAny _ _ (subscriptTail _ _ (Value.ref _) (Value.int _ _)) _ _ _); (refine' item_list_ints ?l9 ?i9 ?h9 ?j9 ?f9 ?_; (case l9 => exact News.isList (by k_asm) (by k_mem)); (case i9 => assumption); (case h9 => assumption); (case j9 => exact idx_lt (by assumption) (by assumption)); (case f9 => exact idx_fit (by assumption) (by assumption))); intro t9)) | (k_unfold; (try dsimp only)) | walk1 | (dsimp only; walk1) | (leave1; walk_say "STEP leave1"; try dsimp only)))))
  refine' ws_says w mean mg mb _ _ (lead_ok _ _) (by omega) _ _ _ _ _ _ _ _ _ _ _ _ _ _ _ _ _ _ ?k1 ?k2 ?k3 ?k4 ?k5 ?kK ?kn ?kd ?ku ?kR
  (((case k1 => k_asm); (case k2 => k_asm); (case k3 => k_asm); (case k4 => k_asm); (case k5 => k_asm); (case kK => first | exact rfl | assumption); (case kd => ktr_room); (case ku => ktr_units)))
  case kn => exact fun _ h => absurd h List.not_mem_nil
  case kR =>
  rintro v new4 h13 tk13 F13 N13 - ⟨ia3, dx3, no3, tc3, cv3, r0, r1, r2, r3, r4, r5, r6, r7, r8, rfl, rfl, hcv3⟩
  simp only [wsLed, List.cons_append, List.nil_append] at N13
  have hb3 := wsRun_bnd (leadTo (n : Int) ms).cps.toList
  have hbl : (leadTo (n : Int) ms).cps.toList.length ≤ 300 := by simpa using (show (leadTo (n : Int) ms).cps.size ≤ 300 from hll)
  repeat ((((fail_if_success (with_reducible show wpAny _ _ (exec (Stmt.While _ _ _ _) _) _ _ _)); (fail_if_success (with_reducible show wpAny _ _ (exec (Stmt.For _ _ _ _ _) _) _ _ _)); (fail_if_success (with_reducible show wpAny _ _ (execs (Stmt.For _ _ _ _ _ :: _) _) _ _ _)); (fail_if_success (with_reducible show wpAny _ _ (call (Value.ref _) _ _) _ _ _)); (fail_if_success (with_reducible show wpAny _ _ (pyIter _) _ _ _)); (fail_if_success (with_reducible show InvEndN _ _ _ _ _ _ _)); (fail_if_success (with_reducible show wpAny _ _ (call (Value.type "tuple") [Value.ref _] _) _ _ _)); (fail_if_success (with_reducible show wpAny _ _ (call (Value.type "enumerate") [Value.str _ _] _) _ _ _)); (first | ((with_reducible show wpAny _ _ (exec _ _) _ _ _); k_fold; (try (refine gen_toks ?_; intro tk9))) | (((with_reducible show wpAny _ _ (binaryOp Operator.Add (Value.str _ _) (Value.str _ _)) _ _ _); refine PyProof.Rows.add_str (hsz := ?hsz) ?_; (case hsz => (((try simp only [Str.length_append, len_open, len_shut, len_tab, len_blank, len_back, Int.toNat_natCast]); rw [sizeLine_eq]; omega))); intro _ _)) | (((with_reducible show wpAny _ _ (call (Value.builtin "len") [Value.ref _]) _ _ _); (refine' my_lenTup ?qN ?qm ?qi ?qb ?_; (case qN => k_asm); (case qm => k_mem); (case qi => assumption); (case qb => omega)))) | (((with_reducible show wpAny _ _ (subscriptTail _ _ (Value.ref _) (Value.int _ _)) _ _ _); (refine' item_list_ints ?l9 ?i9 ?h9 ?j9 ?f9 ?_; (case l9 => exact News.isList (by k_asm) (by k_mem)); (case i9 => assumption); (case h9 => assumption); (case j9 => exact idx_lt (by assumption) (by assumption)); (case f9 => exact idx_fit (by assumption) (by assumption))); intro t9)) | (k_unfold; (try dsimp only)) | walk1 | (dsimp only; walk1) | (leave1; walk_say "STEP leave1"; try dsimp only)))))
  refine' less_says w mean mg mb (x1 := leadTo (n : Int) ms) (ia1 := ia3) (dx1 := dx3) (no1 := no3) (tc1 := tc3) (a0 := r0) (a1 := r1) (a2 := r2) (a3 := r3) (a4 := r4) (a5 := r5) (a6 := r6) (a7 := r7) (a8 := r8) (x2 := xf) (ia2 := ia) (dx2 := dx) (no2 := no) (tc2 := tc2) (b0 := q0) (b1 := q1) (b2 := q2) (b3 := q3) (b4 := q4) (b5 := q5) (b6 := q6) (b7 := q7) (b8 := q8) hcv3 hcv (by omega) (by omega) hg1 hg2 hb3.1 hbd.1 (by omega) (by omega) _ _ _ _ _ _ _ _ _ _ _ _ _ _ _ _ _ _ ?k1 ?k2 ?k3 ?k4 ?k5 ?kK ?kn ?kd ?ku ?kR
  (((case k1 => k_asm); (case k2 => k_asm); (case k3 => k_asm); (case k4 => k_asm); (case k5 => k_asm); (case kK => first | exact rfl | assumption); (case kd => ktr_room); (case ku => ktr_units)))
  case kn =>
    exact eight_sub
  case kR =>
  rintro v new5 h14 tk14 F14 N14 - ⟨rfl, rfl⟩
  simp only [List.nil_append] at N14
  rw [hW]
  repeat ((((fail_if_success (with_reducible show wpAny _ _ (exec (Stmt.While _ _ _ _) _) _ _ _)); (fail_if_success (with_reducible show wpAny _ _ (exec (Stmt.For _ _ _ _ _) _) _ _ _)); (fail_if_success (with_reducible show wpAny _ _ (execs (Stmt.For _ _ _ _ _ :: _) _) _ _ _)); (fail_if_success (with_reducible show wpAny _ _ (call (Value.ref _) _ _) _ _ _)); (fail_if_success (with_reducible show wpAny _ _ (pyIter _) _ _ _)); (fail_if_success (with_reducible show InvEndN _ _ _ _ _ _ _)); (fail_if_success (with_reducible show wpAny _ _ (call (Value.type "tuple") [Value.ref _] _) _ _ _)); (fail_if_success (with_reducible show wpAny _ _ (call (Value.type "enumerate") [Value.str _ _] _) _ _ _)); (first | ((with_reducible show wpAny _ _ (exec _ _) _ _ _); k_fold; (try (refine gen_toks ?_; intro tk9))) | (((with_reducible show wpAny _ _ (binaryOp Operator.Add (Value.str _ _) (Value.str _ _)) _ _ _); refine PyProof.Rows.add_str (hsz := ?hsz) ?_; (case hsz => (((try simp only [Str.length_append, len_open, len_shut, len_tab, len_blank, len_back, Int.toNat_natCast]); rw [sizeLine_eq]; omega))); intro _ _)) | (((with_reducible show wpAny _ _ (call (Value.builtin "len") [Value.ref _]) _ _ _); (refine' my_lenTup ?qN ?qm ?qi ?qb ?_; (case qN => k_asm); (case qm => k_mem); (case qi => assumption); (case qb => omega)))) | (((with_reducible show wpAny _ _ (subscriptTail _ _ (Value.ref _) (Value.int _ _)) _ _ _); (refine' item_list_ints ?l9 ?i9 ?h9 ?j9 ?f9 ?_; (case l9 => exact News.isList (by k_asm) (by k_mem)); (case i9 => assumption); (case h9 => assumption); (case j9 => exact idx_lt (by assumption) (by assumption)); (case f9 => exact idx_fit (by assumption) (by assumption))); intro t9)) | (k_unfold; (try dsimp only)) | walk1 | (dsimp only; walk1) | (leave1; walk_say "STEP leave1"; try dsimp only)))))
  refine' tree_says w mean mg mb md mv mn ms hmov (by omega) _ _ _ _ _ _ _ _ _ _ _ _ _ _ _ _ _ _ ?k1 ?k2 ?k3 ?k4 ?k5 ?kK ?kn ?kd ?ku ?kR
  (((case k1 => k_asm); (case k2 => k_asm); (case k3 => k_asm); (case k4 => k_asm); (case k5 => k_asm); (case kK => first | exact rfl | assumption); (case kd => ktr_room); (case ku => ktr_units)))
  case kn => exact need1 (by k_mem)
  case kR =>
  rintro v new6 h15 tk15 F15 N15 - ⟨rfl, rfl⟩
  simp only [List.nil_append] at N15
  rw [hml, hT]
  simp only [treeV]
  repeat ((((fail_if_success (with_reducible show wpAny _ _ (exec (Stmt.While _ _ _ _) _) _ _ _)); (fail_if_success (with_reducible show wpAny _ _ (exec (Stmt.For _ _ _ _ _) _) _ _ _)); (fail_if_success (with_reducible show wpAny _ _ (execs (Stmt.For _ _ _ _ _ :: _) _) _ _ _)); (fail_if_success (with_reducible show wpAny _ _ (call (Value.ref _) _ _) _ _ _)); (fail_if_success (with_reducible show wpAny _ _ (pyIter _) _ _ _)); (fail_if_success (with_reducible show InvEndN _ _ _ _ _ _ _)); (fail_if_success (with_reducible show wpAny _ _ (call (Value.type "tuple") [Value.ref _] _) _ _ _)); (fail_if_success (with_reducible show wpAny _ _ (call (Value.type "enumerate") [Value.str _ _] _) _ _ _)); (first | ((with_reducible show wpAny _ _ (exec _ _) _ _ _); k_fold; (try (refine gen_toks ?_; intro tk9))) | (((with_reducible show wpAny _ _ (binaryOp Operator.Add (Value.str _ _) (Value.str _ _)) _ _ _); refine PyProof.Rows.add_str (hsz := ?hsz) ?_; (case hsz => (((try simp only [Str.length_append, len_open, len_shut, len_tab, len_blank, len_back, Int.toNat_natCast]); rw [sizeLine_eq]; omega))); intro _ _)) | (((with_reducible show wpAny _ _ (call (Value.builtin "len") [Value.ref _]) _ _ _); (refine' my_lenTup ?qN ?qm ?qi ?qb ?_; (case qN => k_asm); (case qm => k_mem); (case qi => assumption); (case qb => omega)))) | (((with_reducible show wpAny _ _ (subscriptTail _ _ (Value.ref _) (Value.int _ _)) _ _ _); (refine' item_list_ints ?l9 ?i9 ?h9 ?j9 ?f9 ?_; (case l9 => exact News.isList (by k_asm) (by k_mem)); (case i9 => assumption); (case h9 => assumption); (case j9 => exact idx_lt (by assumption) (by assumption)); (case f9 => exact idx_fit (by assumption) (by assumption))); intro t9)) | (k_unfold; (try dsimp only)) | walk1 | (dsimp only; walk1) | (leave1; walk_say "STEP leave1"; try dsimp only)))))
  rename Fr _ _ _ _ => Fz
  rename News _ _ _ _ => Nz
  refine hQ _ _ _ _ _ Fz Nz ?zm hb11 ?zf
  case zm =>
    exact fun p hp => .tail _ (.tail _ (.tail _ (.tail _ hp)))
  case zf =>
    intro z
    rfl
theorem len900 {k n : Nat} (h : k = n) (hn : n = 4 ∨ n = 5) : k < 900 := by omega
theorem rest_fr (m₀ : Str → Option Value) (d a b c e f g : Option Value) : ∀ z, (if z = Str.ofString "due" then d else if z = Str.ofString "told" then a else if z = Str.ofString "moved" then b else if z = Str.ofString "full" then c else if z = Str.ofString "left" then e else if z = Str.ofString "ring" then f else if z = Str.ofString "pieces" then g else m₀ z) =
    (if z = Str.ofString "told" then a else if z = Str.ofString "moved" then b else if z = Str.ofString "full" then c else if z = Str.ofString "pieces" then g else (fun z => if z = Str.ofString "due" then d else if z = Str.ofString "left" then e else if z = Str.ofString "ring" then f else m₀ z) z) := by
  intro z
  by_cases h1 : z = Str.ofString "due"
  · subst h1
    rfl
  by_cases h2 : z = Str.ofString "pieces"
  · subst h2
    rfl
  simp only [if_neg h1, if_neg h2]
theorem law_turn (w mean mg mb) (n : Nat) (hn : n = 4 ∨ n = 5) (L : Nat) (fa md no tc2 ia dx got pl : Addr) (ccd : Value) (mv gv pvs cv : List Value) (mn gn pn : Nat) (xs gs : List Int) (ps : List Str) (oo ot oc : Obj) (tc q0 q1 q2 q3 q4 q5 q6 q7 q8 ti ty : Tok) (co : Option Value) (i : Nat) (y : Int) (xf : Str) (wlo : Addr × Obj) (own : Led)
    (hlen : xs.length = n) (hran : ∀ x ∈ xs, 0 ≤ x ∧ x < (n : Int) + 1) (hps : StrsAre pvs ps) (hpl : ps.length = n) (hk : ∀ p ∈ ps, p ∈ kindsL) (hfold : (gs, [y]) = xs.foldl rstep ([], rangeKs 0 (xs.length + 1))) (hi : i < n + 1)
    (hgi : IntsAre gv gs) (hcv : IntsAre cv (wsRun xf.cps.toList).cnt) (hxfl : xf.length < 400) (hxf : leadTo (n : Int) (rangeKs 0 n) ++ Str.ofString " " = xf)
    (ms : List Int) (hms : ms = xs.map fun k' => (k' - (i : Int) - 1).fmod ((n : Int) + 1)) (hmov : IntsAre mv ms)
    (base h₀ : Heap) (m₀ : Str → Option Value) (s : Shared) (Q : Flow → Shared → Prop) (E : Value → Shared → Prop)
    (B : Below callerA base [] h₀) (X : (hd.heap_39 w.params).In h₀) (T : Top hd.view_39 (looseW hd.view_39 [Str.ofString "bisect_left", Str.ofString "Whitespace"]) mean mg mb h₀)
    (F : Fr h₀ L s.heap (fun z => if z = Str.ofString "told" then some (.bool (decide ((i : Int) = y))) else if z = Str.ofString "moved" then some (.ref md) else if z = Str.ofString "full" then some (.ref ia) else if z = Str.ofString "left" then some (.int y ty) else if z = Str.ofString "ring" then some (.ref got) else if z = Str.ofString "pieces" then some (.ref pl) else m₀ z))
    (N : News h₀ L s.heap ((md, listOf mv.toArray mn) :: (no, tupObj [.ref tc2, .int (wsRun xf.cps.toList).b q8]) :: (tc2, tupObj cv) :: (ia, instObj 113 dx) :: (dx, dictOf (wsEs w xf (wsRun xf.cps.toList) no q0 q1 q2 q3 q4 q5 q6 q7) 5) :: (got, listOf gv.toArray gn) :: (pl, listOf pvs.toArray pn) :: wlo :: (L + 1 + 1 + 1 + 1 + 1, oo) :: (L + 1 + 1 + 1 + 1, ot) :: (L + 1 + 1, oc) :: own))
    (dc : oc.data = .cell (some (.int (n : Int) tc))) (do_ : oo.data = .cell co) (dt : ot.data = .cell (some (.int (i : Nat) ti))) (hb : MyBare s.gens)
    (hQ : ∀ h' tk' gs' m' news', Fr h₀ L h' m' → News h₀ L h' news' → (∀ p ∈ (no, tupObj [.ref tc2, .int (wsRun xf.cps.toList).b q8]) :: (tc2, tupObj cv) :: (ia, instObj 113 dx) :: (dx, dictOf (wsEs w xf (wsRun xf.cps.toList) no q0 q1 q2 q3 q4 q5 q6 q7) 5) :: (got, listOf gv.toArray gn) :: (pl, listOf pvs.toArray pn) :: wlo :: (L + 1 + 1 + 1 + 1 + 1, oo) :: (L + 1 + 1 + 1 + 1, ot) :: (L + 1 + 1, oc) :: own, p ∈ news') → MyBare gs' →
      (∀ z, z ≠ Str.ofString "moved" → z ≠ Str.ofString "told" → z ≠ Str.ofString "due" → m' z = (if z = Str.ofString "full" then some (.ref ia) else if z = Str.ofString "left" then some (.int y ty) else if z = Str.ofString "ring" then some (.ref got) else if z = Str.ofString "pieces" then some (.ref pl) else m₀ z)) → Q .next { s with heap := h', toks := tk', gens := gs' }) :
    wpAny (model PySem.Challenge.rw_uq0012_01.row.prog w) (callerA.deeper (envOfC (Str.ofString "law") lawScope L fa ccd)) (execs turnRest (envOfC (Str.ofString "law") lawScope L fa ccd)) Q E s := by
  have hgl : gs.length = n := by rw [← hlen]; exact rstep_len hfold
  have hgvl : gv.length = n := by rw [hgi.length, hgl]
  have hml : ms.length = n := by rw [hms, List.length_map, hlen]
  have hmvl : mv.length = n := by rw [hmov.length, hml]
  have hS := plain_str hn hlen hran hfold hi
  rw [← hms] at hS
  obtain ⟨hr1, hr2, hC⟩ := plain_chk hn hlen hran hfold hi hpl hk hms
  obtain ⟨hW, hg1, hg2⟩ := plain_less hn hlen hran hfold hi hms
  rw [hxf] at hW hg2
  have hbd := wsRun_bnd xf.cps.toList
  have hbf : xf.cps.toList.length < 400 := by simpa using (show xf.cps.size < 400 from hxfl)
  have hp10 : ∀ p ∈ ps, p.length ≤ 10 := fun p hp => kinds_len (hk p hp)
  have hT := plain_tree hn hlen hran hfold hi hms
  have hmb : ∀ x ∈ ms, 0 ≤ x ∧ x < 10 := moved_bnd hn hms
  clear hfold hms hran hk
  w_on
  revert X
  k_fill
  intro X
  have eS : lawScope = lawScope := rfl
  have eT : turnRest = turnRest := rfl
  conv at eS => rhs; whnf
  conv at eT => rhs; whnf
  rw [eT, eS]
  clear eS eT
  by_cases hiy : (i : Int) = y
  · skip
    simp only [decide_eq_true hiy, if_pos hiy] at F hS hC hW hT
    iterate 10 ((((fail_if_success (with_reducible show wpAny _ _ (exec (Stmt.While _ _ _ _) _) _ _ _)); (fail_if_success (with_reducible show wpAny _ _ (exec (Stmt.For _ _ _ _ _) _) _ _ _)); (fail_if_success (with_reducible show wpAny _ _ (execs (Stmt.For _ _ _ _ _ :: _) _) _ _ _)); (fail_if_success (with_reducible show wpAny _ _ (call (Value.ref _) _ _) _ _ _)); (fail_if_success (with_reducible show wpAny _ _ (pyIter _) _ _ _)); (fail_if_success (with_reducible show InvEndN _ _ _ _ _ _ _)); (fail_if_success (with_reducible show wpAny _ _ (call (Value.type "tuple") [Value.ref _] _) _ _ _)); (fail_if_success (with_reducible show wpAny _ _ (call (Value.type "enumerate") [Value.str _ _] _) _ _ _)); (first | (((with_reducible show wpAny _ _ (binaryOp Operator.Add (Value.str _ _) (Value.str _ _)) _ _ _); refine PyProof.Rows.add_str (hsz := ?hsz) ?_; (case hsz => (((try simp only [Str.length_append, len_open, len_shut, len_tab, len_blank, len_back, Int.toNat_natCast]); rw [sizeLine_eq]; omega))); intro _ _)) | (((with_reducible show wpAny _ _ (call (Value.builtin "len") [Value.ref _]) _ _ _); (refine' my_lenTup ?qN ?qm ?qi ?qb ?_; (case qN => k_asm); (case qm => k_mem); (case qi => assumption); (case qb => omega)))) | (((with_reducible show wpAny _ _ (subscriptTail _ _ (Value.ref _) (Value.int _ _)) _ _ _); (refine' item_list_ints ?l9 ?i9 ?h9 ?j9 ?f9 ?_; (case l9 => exact News.isList (by k_asm) (by k_mem)); (case i9 => assumption); (case h9 => assumption); (case j9 => exact idx_lt (by assumption) (by assumption)); (case f9 => exact idx_fit (by assumption) (by assumption))); intro t9)) | (k_unfold; (try dsimp only)) | walk1 | (dsimp only; walk1) | (leave1; walk_say "STEP leave1"; try dsimp only)))))
    rw [if_neg (by simp [hiy])]
    repeat ((((fail_if_success (with_reducible show wpAny _ _ (exec (Stmt.While _ _ _ _) _) _ _ _)); (fail_if_success (with_reducible show wpAny _ _ (exec (Stmt.For _ _ _ _ _) _) _ _ _)); (fail_if_success (with_reducible show wpAny _ _ (execs (Stmt.For _ _ _ _ _ :: _) _) _ _ _)); (fail_if_success (with_reducible show wpAny _ _ (call (Value.ref _) _ _) _ _ _)); (fail_if_success (with_reducible show wpAny _ _ (pyIter _) _ _ _)); (fail_if_success (with_reducible show InvEndN _ _ _ _ _ _ _)); (fail_if_success (with_reducible show wpAny _ _ (call (Value.type "tuple") [Value.ref _] _) _ _ _)); (fail_if_success (with_reducible show wpAny _ _ (call (Value.type "enumerate") [Value.str _ _] _) _ _ _)); (first | (((with_reducible show wpAny _ _ (binaryOp Operator.Add (Value.str _ _) (Value.str _ _)) _ _ _); refine PyProof.Rows.add_str (hsz := ?hsz) ?_; (case hsz => (((try simp only [Str.length_append, len_open, len_shut, len_tab, len_blank, len_back, Int.toNat_natCast]); rw [sizeLine_eq]; omega))); intro _ _)) | (((with_reducible show wpAny _ _ (call (Value.builtin "len") [Value.ref _]) _ _ _); (refine' my_lenTup ?qN ?qm ?qi ?qb ?_; (case qN => k_asm); (case qm => k_mem); (case qi => assumption); (case qb => omega)))) | (((with_reducible show wpAny _ _ (subscriptTail _ _ (Value.ref _) (Value.int _ _)) _ _ _); (refine' item_list_ints ?l9 ?i9 ?h9 ?j9 ?f9 ?_; (case l9 => exact News.isList (by k_asm) (by k_mem)); (case i9 => assumption); (case h9 => assumption); (case j9 => exact idx_lt (by assumption) (by assumption)); (case f9 => exact idx_fit (by assumption) (by assumption))); intro t9)) | (k_unfold; (try dsimp only)) | walk1 | (dsimp only; walk1) | (leave1; walk_say "STEP leave1"; try dsimp only)))))
    refine' straight_says w mean mg mb md mv mn ms hmov (len900 hml hn) _ _ _ _ _ _ _ _ _ _ _ _ _ _ _ _ _ _ ?k1 ?k2 ?k3 ?k4 ?k5 ?kK ?kn ?kd ?ku ?kR
    (((case k1 => k_asm); (case k2 => k_asm); (case k3 => k_asm); (case k4 => k_asm); (case k5 => k_asm); (case kK => first | exact rfl | assumption); (case kd => ktr_room); (case ku => ktr_units)))
    case kn => exact need1 (by k_mem)
    case kR =>
    rintro v new h9 tk9 F9 N9 - hv
    rw [hml, hS] at hv
    rcases hv with ⟨-, -, hx⟩ | ⟨got', gv', gs', gn', rfl, rfl, hgi', hx⟩
    · cases hx
    cases hx
    simp only [List.cons_append, List.nil_append] at N9
    repeat ((fail_if_success (with_reducible show wpAny _ _ (execs (Stmt.If _ _ _ _ :: _) _) _ _ _)); (((fail_if_success (with_reducible show wpAny _ _ (exec (Stmt.While _ _ _ _) _) _ _ _)); (fail_if_success (with_reducible show wpAny _ _ (exec (Stmt.For _ _ _ _ _) _) _ _ _)); (fail_if_success (with_reducible show wpAny _ _ (execs (Stmt.For _ _ _ _ _ :: _) _) _ _ _)); (fail_if_success (with_reducible show wpAny _ _ (call (Value.ref _) _ _) _ _ _)); (fail_if_success (with_reducible show wpAny _ _ (pyIter _) _ _ _)); (fail_if_success (with_reducible show InvEndN _ _ _ _ _ _ _)); (fail_if_success (with_reducible show wpAny _ _ (call (Value.type "tuple") [Value.ref _] _) _ _ _)); (fail_if_success (with_reducible show wpAny _ _ (call (Value.type "enumerate") [Value.str _ _] _) _ _ _)); (first | (((with_reducible show wpAny _ _ (binaryOp Operator.Add (Value.str _ _) (Value.str _ _)) _ _ _); refine PyProof.Rows.add_str (hsz := ?hsz) ?_; (case hsz => (((try simp only [Str.length_append, len_open, len_shut, len_tab, len_blank, len_back, Int.toNat_natCast]); rw [sizeLine_eq]; omega))); intro _ _)) | (((with_reducible show wpAny _ _ (call (Value.builtin "len") [Value.ref _]) _ _ _); (refine' my_lenTup ?qN ?qm ?qi ?qb ?_; (case qN => k_asm); (case qm => k_mem); (case qi => assumption); (case qb => omega)))) | (((with_reducible show wpAny _ _ (subscriptTail _ _ (Value.ref _) (Value.int _ _)) _ _ _); (refine' item_list_ints ?l9 ?i9 ?h9 ?j9 ?f9 ?_; (case l9 => exact News.isList (by k_asm) (by k_mem)); (case i9 => assumption); (case h9 => assumption); (case j9 => exact idx_lt (by assumption) (by assumption)); (case f9 => exact idx_fit (by assumption) (by assumption))); intro t9)) | (k_unfold; (try dsimp only)) | walk1 | (dsimp only; walk1) | (leave1; walk_say "STEP leave1"; try dsimp only)))))
    rename Fr _ _ _ _ => F8
    rename News _ _ _ _ => N8
    refine law_rest w mean mg mb n hn true L fa md no tc2 ia dx pl ccd mv pvs cv mn pn ps q0 q1 q2 q3 q4 q5 q6 q7 q8 xf ((got, listOf gv.toArray gn) :: wlo :: (L + 1 + 1 + 1 + 1 + 1, oo) :: (L + 1 + 1 + 1 + 1, ot) :: (L + 1 + 1, oc) :: own) hps hpl hp10 hcv hxfl ms hmov hml hmb hr1 hr2 hC hW hg1 hg2 hT base h₀ _ _ _ _ B X T (frC F8 (rest_fr m₀ _ _ _ _ _ _ _)) (led_drop N8 ?zntrue) hb ?zqtrue
    case zntrue =>
      first | exact swap_sub | exact fun p hp => .tail _ (swap_sub p hp) | exact fun p hp => .tail _ (.tail _ (swap_sub p hp))
    case zqtrue =>
      intro h' tk' gs' m' news' Fz Nz hneed hbz hmz
      refine hQ _ _ _ _ _ Fz Nz (fun p hp => hneed p (swap_sub p (.tail _ hp))) hbz fun z z1 z2 z3 => ?_
      · rw [hmz z]
        simp only [if_neg z1, if_neg z2, if_neg z3]
        by_cases h2 : z = Str.ofString "pieces"
        · subst h2
          rfl
        · simp only [if_neg h2]
  · skip
    simp only [decide_eq_false hiy, if_neg hiy] at F hS hC hW hT
    iterate 10 ((((fail_if_success (with_reducible show wpAny _ _ (exec (Stmt.While _ _ _ _) _) _ _ _)); (fail_if_success (with_reducible show wpAny _ _ (exec (Stmt.For _ _ _ _ _) _) _ _ _)); (fail_if_success (with_reducible show wpAny _ _ (execs (Stmt.For _ _ _ _ _ :: _) _) _ _ _)); (fail_if_success (with_reducible show wpAny _ _ (call (Value.ref _) _ _) _ _ _)); (fail_if_success (with_reducible show wpAny _ _ (pyIter _) _ _ _)); (fail_if_success (with_reducible show InvEndN _ _ _ _ _ _ _)); (fail_if_success (with_reducible show wpAny _ _ (call (Value.type "tuple") [Value.ref _] _) _ _ _)); (fail_if_success (with_reducible show wpAny _ _ (call (Value.type "enumerate") [Value.str _ _] _) _ _ _)); (first | (((with_reducible show wpAny _ _ (binaryOp Operator.Add (Value.str _ _) (Value.str _ _)) _ _ _); refine PyProof.Rows.add_str (hsz := ?hsz) ?_; (case hsz => (((try simp only [Str.length_append, len_open, len_shut, len_tab, len_blank, len_back, Int.toNat_natCast]); rw [sizeLine_eq]; omega))); intro _ _)) | (((with_reducible show wpAny _ _ (call (Value.builtin "len") [Value.ref _]) _ _ _); (refine' my_lenTup ?qN ?qm ?qi ?qb ?_; (case qN => k_asm); (case qm => k_mem); (case qi => assumption); (case qb => omega)))) | (((with_reducible show wpAny _ _ (subscriptTail _ _ (Value.ref _) (Value.int _ _)) _ _ _); (refine' item_list_ints ?l9 ?i9 ?h9 ?j9 ?f9 ?_; (case l9 => exact News.isList (by k_asm) (by k_mem)); (case i9 => assumption); (case h9 => assumption); (case j9 => exact idx_lt (by assumption) (by assumption)); (case f9 => exact idx_fit (by assumption) (by assumption))); intro t9)) | (k_unfold; (try dsimp only)) | walk1 | (dsimp only; walk1) | (leave1; walk_say "STEP leave1"; try dsimp only)))))
    rw [if_neg (by simp [hiy])]
    repeat ((((fail_if_success (with_reducible show wpAny _ _ (exec (Stmt.While _ _ _ _) _) _ _ _)); (fail_if_success (with_reducible show wpAny _ _ (exec (Stmt.For _ _ _ _ _) _) _ _ _)); (fail_if_success (with_reducible show wpAny _ _ (execs (Stmt.For _ _ _ _ _ :: _) _) _ _ _)); (fail_if_success (with_reducible show wpAny _ _ (call (Value.ref _) _ _) _ _ _)); (fail_if_success (with_reducible show wpAny _ _ (pyIter _) _ _ _)); (fail_if_success (with_reducible show InvEndN _ _ _ _ _ _ _)); (fail_if_success (with_reducible show wpAny _ _ (call (Value.type "tuple") [Value.ref _] _) _ _ _)); (fail_if_success (with_reducible show wpAny _ _ (call (Value.type "enumerate") [Value.str _ _] _) _ _ _)); (first | (((with_reducible show wpAny _ _ (binaryOp Operator.Add (Value.str _ _) (Value.str _ _)) _ _ _); refine PyProof.Rows.add_str (hsz := ?hsz) ?_; (case hsz => (((try simp only [Str.length_append, len_open, len_shut, len_tab, len_blank, len_back, Int.toNat_natCast]); rw [sizeLine_eq]; omega))); intro _ _)) | (((with_reducible show wpAny _ _ (call (Value.builtin "len") [Value.ref _]) _ _ _); (refine' my_lenTup ?qN ?qm ?qi ?qb ?_; (case qN => k_asm); (case qm => k_mem); (case qi => assumption); (case qb => omega)))) | (((with_reducible show wpAny _ _ (subscriptTail _ _ (Value.ref _) (Value.int _ _)) _ _ _); (refine' item_list_ints ?l9 ?i9 ?h9 ?j9 ?f9 ?_; (case l9 => exact News.isList (by k_asm) (by k_mem)); (case i9 => assumption); (case h9 => assumption); (case j9 => exact idx_lt (by assumption) (by assumption)); (case f9 => exact idx_fit (by assumption) (by assumption))); intro t9)) | (k_unfold; (try dsimp only)) | walk1 | (dsimp only; walk1) | (leave1; walk_say "STEP leave1"; try dsimp only)))))
    refine' straight_says w mean mg mb md mv mn ms hmov (len900 hml hn) _ _ _ _ _ _ _ _ _ _ _ _ _ _ _ _ _ _ ?k1 ?k2 ?k3 ?k4 ?k5 ?kK ?kn ?kd ?ku ?kR
    (((case k1 => k_asm); (case k2 => k_asm); (case k3 => k_asm); (case k4 => k_asm); (case k5 => k_asm); (case kK => first | exact rfl | assumption); (case kd => ktr_room); (case ku => ktr_units)))
    case kn => exact need1 (by k_mem)
    case kR =>
    rintro v new h9 tk9 F9 N9 - hv
    rw [hml, hS] at hv
    rcases hv with ⟨rfl, rfl, -⟩ | ⟨got', gv', gs', gn', -, -, -, hx⟩
    rotate_left
    · cases hx
    simp only [List.cons_append, List.nil_append] at N9
    repeat ((fail_if_success (with_reducible show wpAny _ _ (execs (Stmt.If _ _ _ _ :: _) _) _ _ _)); (((fail_if_success (with_reducible show wpAny _ _ (exec (Stmt.While _ _ _ _) _) _ _ _)); (fail_if_success (with_reducible show wpAny _ _ (exec (Stmt.For _ _ _ _ _) _) _ _ _)); (fail_if_success (with_reducible show wpAny _ _ (execs (Stmt.For _ _ _ _ _ :: _) _) _ _ _)); (fail_if_success (with_reducible show wpAny _ _ (call (Value.ref _) _ _) _ _ _)); (fail_if_success (with_reducible show wpAny _ _ (pyIter _) _ _ _)); (fail_if_success (with_reducible show InvEndN _ _ _ _ _ _ _)); (fail_if_success (with_reducible show wpAny _ _ (call (Value.type "tuple") [Value.ref _] _) _ _ _)); (fail_if_success (with_reducible show wpAny _ _ (call (Value.type "enumerate") [Value.str _ _] _) _ _ _)); (first | (((with_reducible show wpAny _ _ (binaryOp Operator.Add (Value.str _ _) (Value.str _ _)) _ _ _); refine PyProof.Rows.add_str (hsz := ?hsz) ?_; (case hsz => (((try simp only [Str.length_append, len_open, len_shut, len_tab, len_blank, len_back, Int.toNat_natCast]); rw [sizeLine_eq]; omega))); intro _ _)) | (((with_reducible show wpAny _ _ (call (Value.builtin "len") [Value.ref _]) _ _ _); (refine' my_lenTup ?qN ?qm ?qi ?qb ?_; (case qN => k_asm); (case qm => k_mem); (case qi => assumption); (case qb => omega)))) | (((with_reducible show wpAny _ _ (subscriptTail _ _ (Value.ref _) (Value.int _ _)) _ _ _); (refine' item_list_ints ?l9 ?i9 ?h9 ?j9 ?f9 ?_; (case l9 => exact News.isList (by k_asm) (by k_mem)); (case i9 => assumption); (case h9 => assumption); (case j9 => exact idx_lt (by assumption) (by assumption)); (case f9 => exact idx_fit (by assumption) (by assumption))); intro t9)) | (k_unfold; (try dsimp only)) | walk1 | (dsimp only; walk1) | (leave1; walk_say "STEP leave1"; try dsimp only)))))
    rename Fr _ _ _ _ => F8
    rename News _ _ _ _ => N8
    refine law_rest w mean mg mb n hn false L fa md no tc2 ia dx pl ccd mv pvs cv mn pn ps q0 q1 q2 q3 q4 q5 q6 q7 q8 xf ((got, listOf gv.toArray gn) :: wlo :: (L + 1 + 1 + 1 + 1 + 1, oo) :: (L + 1 + 1 + 1 + 1, ot) :: (L + 1 + 1, oc) :: own) hps hpl hp10 hcv hxfl ms hmov hml hmb hr1 hr2 hC hW hg1 hg2 hT base h₀ _ _ _ _ B X T (frC F8 (rest_fr m₀ _ _ _ _ _ _ _)) (led_drop N8 ?znfalse) hb ?zqfalse
    case znfalse =>
      first | exact swap_sub | exact fun p hp => .tail _ (swap_sub p hp) | exact fun p hp => .tail _ (.tail _ (swap_sub p hp))
    case zqfalse =>
      intro h' tk' gs' m' news' Fz Nz hneed hbz hmz
      refine hQ _ _ _ _ _ Fz Nz (fun p hp => hneed p (swap_sub p (.tail _ hp))) hbz fun z z1 z2 z3 => ?_
      · rw [hmz z]
        simp only [if_neg z1, if_neg z2, if_neg z3]
        by_cases h2 : z = Str.ofString "pieces"
        · subst h2
          rfl
        · simp only [if_neg h2]
/-- two addresses that differ, told so that omega does not look at it -/
noncomputable def Apt (a b : Addr) : Prop := a ≠ b
theorem Apt.ne {a b : Addr} (h : Apt a b) : a ≠ b := h
theorem apt_of {d : Addr} {p : Addr × Obj} {news : Led} (h : AllLt d news) (hp : p ∈ news) : Apt d p.1 := fun e => allNe h p hp e.symm
theorem len64 {k n : Nat} (h : k = n) (hn : n = 4 ∨ n = 5) : k < 64 := by omega
theorem n62a {n : Nat} (_ : n = 4 ∨ n = 5) : -2 ^ 62 ≤ (n : Int) := by omega
theorem n62b {n : Nat} (hn : n = 4 ∨ n = 5) : (n : Int) < 2 ^ 62 := by omega
local macro_rules | `(tactic| kso_len) => `(tactic| (simp only [List.length_map]; exact len64 (by assumption) (by assumption)))
local macro_rules | `(tactic| kcf_bnd) => `(tactic| first | decide | exact n62a (by assumption) | exact n62b (by assumption))
local macro_rules | `(tactic| k_ne) => `(tactic| ((try dsimp only); first | exact Apt.ne (by assumption) | exact (Apt.ne (by assumption)).symm))
local macro_rules | `(tactic| k_all) => `(tactic| (refine List.forall_mem_cons.mpr ⟨?a9, ?b9⟩; (case a9 => k_ne); (case b9 => k_all)))
local macro_rules | `(tactic| k_all) => `(tactic| exact OwnOff.ne (by assumption) (by k_memK))
@[reducible] noncomputable def cellO {o : Obj} {d : Data} (_ : o.data = d) : Obj := o
theorem led3 {h₀ h : Heap} {L : Addr} {a1 a2 a3 : Addr × Obj} {r : Led} (N : News h₀ L h (a1 :: a2 :: a3 :: r)) : News h₀ L h r := led_drop N fun p hp => .tail _ (.tail _ (.tail _ hp))
theorem turn_fr (m₀ m₁ : Str → Option Value) (a b c d e f g : Option Value) : ∀ z, (if z = Str.ofString "told" then a else if z = Str.ofString "moved" then b else if z = Str.ofString "moved" then m₁ z else if z = Str.ofString "told" then m₁ z else if z = Str.ofString "due" then m₁ z else if z = Str.ofString "full" then c else if z = Str.ofString "left" then d else if z = Str.ofString "ring" then e else if z = Str.ofString "pieces" then f else if z = Str.ofString "wishes" then g else m₀ z) =
    (if z = Str.ofString "told" then a else if z = Str.ofString "moved" then b else if z = Str.ofString "full" then c else if z = Str.ofString "left" then d else if z = Str.ofString "ring" then e else if z = Str.ofString "pieces" then f else (fun z => if z = Str.ofString "due" then m₁ z else if z = Str.ofString "wishes" then g else m₀ z) z) := by
  intro z
  by_cases h1 : z = Str.ofString "told"
  · simp only [if_pos h1]
  by_cases h2 : z = Str.ofString "moved"
  · simp only [if_neg h1, if_pos h2]
  by_cases h3 : z = Str.ofString "due"
  · subst h3
    rfl
  simp only [if_neg h1, if_neg h2, if_neg h3]
theorem law_tail (w mean mg mb) (n : Nat) (hn : n = 4 ∨ n = 5) (L : Nat) (fa wl pl : Addr) (ccd : Value) (ws pvs : List Value) (wn pn : Nat) (xs : List Int) (ps : List Str) (oo ot oc : Obj) (tc : Tok) (co ct : Option Value)
    (hxs : IntsAre ws xs) (hlen : xs.length = n) (hran : ∀ x ∈ xs, 0 ≤ x ∧ x < (n : Int) + 1) (hps : StrsAre pvs ps) (hpl : ps.length = n) (hk : ∀ p ∈ ps, p ∈ kindsL)
    (base h₀ : Heap) (m₀ : Str → Option Value) (s : Shared) (Q : Flow → Shared → Prop)
    (B : Below callerA base [] h₀) (X : (hd.heap_39 w.params).In h₀) (T : Top hd.view_39 (looseW hd.view_39 [Str.ofString "bisect_left", Str.ofString "Whitespace"]) mean mg mb h₀)
    (F : Fr h₀ L s.heap (fun z => if z = Str.ofString "pieces" then some (.ref pl) else if z = Str.ofString "wishes" then some (.ref wl) else m₀ z))
    (N : News h₀ L s.heap [(pl, listOf pvs.toArray pn), (wl, listOf ws.toArray wn), (L + 1 + 1 + 1 + 1 + 1, oo), (L + 1 + 1 + 1 + 1, ot), (L + 1 + 1, oc)])
    (dc : oc.data = .cell (some (.int (n : Int) tc))) (do_ : oo.data = .cell co) (dt : ot.data = .cell ct) (nW5 : Apt wl (L + 1 + 1 + 1 + 1 + 1)) (nW4 : Apt wl (L + 1 + 1 + 1 + 1)) (nP5 : Apt pl (L + 1 + 1 + 1 + 1 + 1)) (nP4 : Apt pl (L + 1 + 1 + 1 + 1)) (hb : MyBare s.gens)
    (hQ : ∀ h' tk' gs' m', Fr h₀ L h' m' → MyBare gs' → Q (.ret (.bool true)) { s with heap := h', toks := tk', gens := gs' }) :
    wpAny (model PySem.Challenge.rw_uq0012_01.row.prog w) (callerA.deeper (envOfC (Str.ofString "law") lawScope L fa ccd)) (execs lawTail (envOfC (Str.ofString "law") lawScope L fa ccd)) Q (fun _ _ => False) s := by
  w_on
  revert X
  k_fill
  intro X
  have eS : lawScope = lawScope := rfl
  have eT : lawTail = lawTail := rfl
  conv at eS => rhs; whnf
  conv at eT => rhs; whnf
  rw [eT, eS]
  clear eS eT
  (repeat' ((fail_if_success (with_reducible show wpAny _ _ (exec (Stmt.While _ _ _ _) _) _ _ _)); (fail_if_success (with_reducible show wpAny _ _ (exec (Stmt.For _ _ _ _ _) _) _ _ _)); (fail_if_success (with_reducible show wpAny _ _ (execs (Stmt.For _ _ _ _ _ :: _) _) _ _ _)); (fail_if_success (with_reducible show wpAny _ _ (call (Value.ref _) _ _) _ _ _)); (fail_if_success (with_reducible show wpAny _ _ (pyIter _) _ _ _)); (fail_if_success (with_reducible show InvEndN _ _ _ _ _ _ _)); (fail_if_success (with_reducible show wpAny _ _ (call (Value.type "tuple") [Value.ref _] _) _ _ _)); (fail_if_success (with_reducible show wpAny _ _ (call (Value.type "enumerate") [Value.str _ _] _) _ _ _)); (first | ((with_reducible show wpAny _ _ (exec _ _) _ _ _); k_fold; (try (refine gen_toks ?_; intro tk9))) | (((with_reducible show wpAny _ _ (binaryOp Operator.Add (Value.str _ _) (Value.str _ _)) _ _ _); refine PyProof.Rows.add_str (hsz := ?hsz) ?_; (case hsz => (((try simp only [Str.length_append, len_open, len_shut, len_tab, len_blank, len_back, Int.toNat_natCast]); rw [sizeLine_eq]; omega))); intro _ _)) | (((with_reducible show wpAny _ _ (call (Value.builtin "len") [Value.ref _]) _ _ _); (refine' my_lenTup ?qN ?qm ?qi ?qb ?_; (case qN => k_asm); (case qm => k_mem); (case qi => assumption); (case qb => omega)))) | (k_unfold; (try dsimp only)) | walk1 | (dsimp only; walk1) | (leave1; walk_say "STEP leave1"; try dsimp only))))
  refine' round_says w mean mg mb wl ws wn xs hxs (by omega) _ _ _ _ _ _ _ _ _ _ _ _ _ _ _ _ _ _ ?k1 ?k2 ?k3 ?k4 ?k5 ?kK ?kn ?kd ?ku ?kR
  (((case k1 => k_asm); (case k2 => k_asm); (case k3 => k_asm); (case k4 => k_asm); (case k5 => k_asm); (case kK => first | exact rfl | assumption); (case kd => ktr_room); (case ku => ktr_units)))
  case kn => exact need1 (by k_mem)
  case kR =>
  rintro v new h9 tk9 F9 N9 l9 ⟨tup, got, gv, gs, gn, y, ty, rfl, htup, hgot, hgi, hfold⟩
  have N8 := rnd_led N9 htup hgot
  have l8 := rnd_lt l9 htup hgot
  have g5 : Apt got (L + 1 + 1 + 1 + 1 + 1) := apt_of l8.2 (.tail _ (.tail _ (.head _)))
  have g4 : Apt got (L + 1 + 1 + 1 + 1) := apt_of l8.2 (.tail _ (.tail _ (.tail _ (.head _))))
  clear N9 l9 htup hgot N F l8
  have hgl : gs.length = n := by rw [← hlen]; exact rstep_len hfold
  have hgvl : gv.length = n := by rw [hgi.length, hgl]
  (repeat' ((fail_if_success (with_reducible show wpAny _ _ (exec (Stmt.While _ _ _ _) _) _ _ _)); (fail_if_success (with_reducible show wpAny _ _ (exec (Stmt.For _ _ _ _ _) _) _ _ _)); (fail_if_success (with_reducible show wpAny _ _ (execs (Stmt.For _ _ _ _ _ :: _) _) _ _ _)); (fail_if_success (with_reducible show wpAny _ _ (call (Value.ref _) _ _) _ _ _)); (fail_if_success (with_reducible show wpAny _ _ (pyIter _) _ _ _)); (fail_if_success (with_reducible show InvEndN _ _ _ _ _ _ _)); (fail_if_success (with_reducible show wpAny _ _ (call (Value.type "tuple") [Value.ref _] _) _ _ _)); (fail_if_success (with_reducible show wpAny _ _ (call (Value.type "enumerate") [Value.str _ _] _) _ _ _)); (first | ((with_reducible show wpAny _ _ (exec _ _) _ _ _); k_fold; (try (refine gen_toks ?_; intro tk9))) | (((with_reducible show wpAny _ _ (binaryOp Operator.Add (Value.str _ _) (Value.str _ _)) _ _ _); refine PyProof.Rows.add_str (hsz := ?hsz) ?_; (case hsz => (((try simp only [Str.length_append, len_open, len_shut, len_tab, len_blank, len_back, Int.toNat_natCast]); rw [sizeLine_eq]; omega))); intro _ _)) | (((with_reducible show wpAny _ _ (call (Value.builtin "len") [Value.ref _]) _ _ _); (refine' my_lenTup ?qN ?qm ?qi ?qb ?_; (case qN => k_asm); (case qm => k_mem); (case qi => assumption); (case qb => omega)))) | (k_unfold; (try dsimp only)) | walk1 | (dsimp only; walk1) | (leave1; walk_say "STEP leave1"; try dsimp only))))
  rename IntsAre _ xs.reverse => hrev
  refine' round_says w mean mg mb _ _ 0 xs.reverse hrev (by rw [List.length_reverse]; omega) _ _ _ _ _ _ _ _ _ _ _ _ _ _ _ _ _ _ ?k1 ?k2 ?k3 ?k4 ?k5 ?kK ?kn ?kd ?ku ?kR
  (((case k1 => k_asm); (case k2 => k_asm); (case k3 => k_asm); (case k4 => k_asm); (case k5 => k_asm); (case kK => first | exact rfl | assumption); (case kd => ktr_room); (case ku => ktr_units)))
  case kn => exact need1 (by k_mem)
  case kR =>
  rintro v new2 h10 tk10 F10 N10 l10 ⟨tup2, got2, gv2, gs2, gn2, y2, ty2, rfl, htup2, hgot2, hgi2, hfold2⟩
  have N11 := rnd_led N10 htup2 hgot2
  clear N10 l10 htup2 hgot2
  rename News _ _ _ _ => N11
  (repeat' ((fail_if_success (with_reducible show wpAny _ _ (exec (Stmt.While _ _ _ _) _) _ _ _)); (fail_if_success (with_reducible show wpAny _ _ (exec (Stmt.For _ _ _ _ _) _) _ _ _)); (fail_if_success (with_reducible show wpAny _ _ (execs (Stmt.For _ _ _ _ _ :: _) _) _ _ _)); (fail_if_success (with_reducible show wpAny _ _ (call (Value.ref _) _ _) _ _ _)); (fail_if_success (with_reducible show wpAny _ _ (pyIter _) _ _ _)); (fail_if_success (with_reducible show InvEndN _ _ _ _ _ _ _)); (fail_if_success (with_reducible show wpAny _ _ (call (Value.type "tuple") [Value.ref _] _) _ _ _)); (fail_if_success (with_reducible show wpAny _ _ (call (Value.type "enumerate") [Value.str _ _] _) _ _ _)); (first | ((with_reducible show wpAny _ _ (exec _ _) _ _ _); k_fold; (try (refine gen_toks ?_; intro tk9))) | (((with_reducible show wpAny _ _ (binaryOp Operator.Add (Value.str _ _) (Value.str _ _)) _ _ _); refine PyProof.Rows.add_str (hsz := ?hsz) ?_; (case hsz => (((try simp only [Str.length_append, len_open, len_shut, len_tab, len_blank, len_back, Int.toNat_natCast]); rw [sizeLine_eq]; omega))); intro _ _)) | (((with_reducible show wpAny _ _ (call (Value.builtin "len") [Value.ref _]) _ _ _); (refine' my_lenTup ?qN ?qm ?qi ?qb ?_; (case qN => k_asm); (case qm => k_mem); (case qi => assumption); (case qb => omega)))) | (k_unfold; (try dsimp only)) | walk1 | (dsimp only; walk1) | (leave1; walk_say "STEP leave1"; try dsimp only))))
  · exfalso
    have hyy : y2 ≠ y := by assumption
    exact hyy (plain_rev hn hlen hran hfold hfold2)
  rename IntsAre _ (rangeKs 0 _) => hrg
  rw [show ((n : Int) - 0).toNat = n by omega] at hrg
  refine' lead_says w mean mg mb _ _ _ (rangeKs 0 n) hrg (by rw [rangeKs_length]; omega) (range_bnd hn) _ _ _ _ _ _ _ _ _ _ _ _ _ _ _ _ _ _ ?k1 ?k2 ?k3 ?k4 ?k5 ?kK ?kn ?kd ?ku ?kR
  (((case k1 => k_asm); (case k2 => k_asm); (case k3 => k_asm); (case k4 => k_asm); (case k5 => k_asm); (case kK => first | exact rfl | assumption); (case kd => ktr_room); (case ku => ktr_units)))
  case kn => exact need1 (by k_mem)
  case kR =>
  rintro v new3 h12 tk12 F12 N12 - ⟨rfl, tl, rfl, hll⟩
  simp only [List.nil_append] at N12
  (repeat' ((fail_if_success (with_reducible show wpAny _ _ (exec (Stmt.While _ _ _ _) _) _ _ _)); (fail_if_success (with_reducible show wpAny _ _ (exec (Stmt.For _ _ _ _ _) _) _ _ _)); (fail_if_success (with_reducible show wpAny _ _ (execs (Stmt.For _ _ _ _ _ :: _) _) _ _ _)); (fail_if_success (with_reducible show wpAny _ _ (call (Value.ref _) _ _) _ _ _)); (fail_if_success (with_reducible show wpAny _ _ (pyIter _) _ _ _)); (fail_if_success (with_reducible show InvEndN _ _ _ _ _ _ _)); (fail_if_success (with_reducible show wpAny _ _ (call (Value.type "tuple") [Value.ref _] _) _ _ _)); (fail_if_success (with_reducible show wpAny _ _ (call (Value.type "enumerate") [Value.str _ _] _) _ _ _)); (first | ((with_reducible show wpAny _ _ (exec _ _) _ _ _); k_fold; (try (refine gen_toks ?_; intro tk9))) | (((with_reducible show wpAny _ _ (binaryOp Operator.Add (Value.str _ _) (Value.str _ _)) _ _ _); refine PyProof.Rows.add_str (hsz := ?hsz) ?_; (case hsz => (((try simp only [Str.length_append, len_open, len_shut, len_tab, len_blank, len_back, Int.toNat_natCast]); rw [sizeLine_eq]; omega))); intro _ _)) | (((with_reducible show wpAny _ _ (call (Value.builtin "len") [Value.ref _]) _ _ _); (refine' my_lenTup ?qN ?qm ?qi ?qb ?_; (case qN => k_asm); (case qm => k_mem); (case qi => assumption); (case qb => omega)))) | (k_unfold; (try dsimp only)) | walk1 | (dsimp only; walk1) | (leave1; walk_say "STEP leave1"; try dsimp only))))
  rw [rangeKs_length] at hll ⊢
  generalize hxf : leadTo (n : Int) (rangeKs 0 n) ++ Str.ofString " " = xf
  refine' ws_says w mean mg mb xf _ (by rw [← hxf]; exact lead_ok1 _ _) (by rw [← hxf, Str.length_append, len_blank]; omega) _ _ _ _ _ _ _ _ _ _ _ _ _ _ _ _ _ _ ?k1 ?k2 ?k3 ?k4 ?k5 ?kK ?kn ?kd ?ku ?kR
  (((case k1 => k_asm); (case k2 => k_asm); (case k3 => k_asm); (case k4 => k_asm); (case k5 => k_asm); (case kK => first | exact rfl | assumption); (case kd => ktr_room); (case ku => ktr_units)))
  case kn => exact fun _ h => absurd h List.not_mem_nil
  case kR =>
  rintro v new4 h13 tk13 F13 N13 l13 ⟨ia, dx, no, tc2, cv, q0, q1, q2, q3, q4, q5, q6, q7, q8, rfl, rfl, hcv⟩
  clear F12 N12
  have l14 := ws_lt l13
  have a5 : Apt no (L + 1 + 1 + 1 + 1 + 1) := apt_of (p := (L + 1 + 1 + 1 + 1 + 1, oo)) l14.1.1 (by k_mem)
  have a4 : Apt no (L + 1 + 1 + 1 + 1) := apt_of (p := (L + 1 + 1 + 1 + 1, ot)) l14.1.1 (by k_mem)
  have b5 : Apt tc2 (L + 1 + 1 + 1 + 1 + 1) := apt_of (p := (L + 1 + 1 + 1 + 1 + 1, oo)) l14.1.2 (by k_mem)
  have b4 : Apt tc2 (L + 1 + 1 + 1 + 1) := apt_of (p := (L + 1 + 1 + 1 + 1, ot)) l14.1.2 (by k_mem)
  have c5 : Apt ia (L + 1 + 1 + 1 + 1 + 1) := apt_of (p := (L + 1 + 1 + 1 + 1 + 1, oo)) l14.2.1 (by k_mem)
  have c4 : Apt ia (L + 1 + 1 + 1 + 1) := apt_of (p := (L + 1 + 1 + 1 + 1, ot)) l14.2.1 (by k_mem)
  have d5 : Apt dx (L + 1 + 1 + 1 + 1 + 1) := apt_of (p := (L + 1 + 1 + 1 + 1 + 1, oo)) l14.2.2 (by k_mem)
  have d4 : Apt dx (L + 1 + 1 + 1 + 1) := apt_of (p := (L + 1 + 1 + 1 + 1, ot)) l14.2.2 (by k_mem)
  clear l13 l14
  repeat (rename @LT.lt Addr _ _ _ ∧ _ => lz; clear lz)
  have N14 := led_pick N13
  clear N13
  (repeat' ((fail_if_success (with_reducible show wpAny _ _ (exec (Stmt.While _ _ _ _) _) _ _ _)); (fail_if_success (with_reducible show wpAny _ _ (exec (Stmt.For _ _ _ _ _) _) _ _ _)); (fail_if_success (with_reducible show wpAny _ _ (execs (Stmt.For _ _ _ _ _ :: _) _) _ _ _)); (fail_if_success (with_reducible show wpAny _ _ (call (Value.ref _) _ _) _ _ _)); (fail_if_success (with_reducible show wpAny _ _ (pyIter _) _ _ _)); (fail_if_success (with_reducible show InvEndN _ _ _ _ _ _ _)); (fail_if_success (with_reducible show wpAny _ _ (call (Value.type "tuple") [Value.ref _] _) _ _ _)); (fail_if_success (with_reducible show wpAny _ _ (call (Value.type "enumerate") [Value.str _ _] _) _ _ _)); (first | ((with_reducible show wpAny _ _ (exec _ _) _ _ _); k_fold; (try (refine gen_toks ?_; intro tk9))) | (((with_reducible show wpAny _ _ (binaryOp Operator.Add (Value.str _ _) (Value.str _ _)) _ _ _); refine PyProof.Rows.add_str (hsz := ?hsz) ?_; (case hsz => (((try simp only [Str.length_append, len_open, len_shut, len_tab, len_blank, len_back, Int.toNat_natCast]); rw [sizeLine_eq]; omega))); intro _ _)) | (((with_reducible show wpAny _ _ (call (Value.builtin "len") [Value.ref _]) _ _ _); (refine' my_lenTup ?qN ?qm ?qi ?qb ?_; (case qN => k_asm); (case qm => k_mem); (case qi => assumption); (case qb => omega)))) | (k_unfold; (try dsimp only)) | walk1 | (dsimp only; walk1) | (leave1; walk_say "STEP leave1"; try dsimp only))))
  refine wpAny_execs_cons ?_
  refine wpAny_For ?_ ?_
  case refine_2 => intro x; rfl
  (repeat' ((fail_if_success (with_reducible show wpAny _ _ (exec (Stmt.While _ _ _ _) _) _ _ _)); (fail_if_success (with_reducible show wpAny _ _ (exec (Stmt.For _ _ _ _ _) _) _ _ _)); (fail_if_success (with_reducible show wpAny _ _ (execs (Stmt.For _ _ _ _ _ :: _) _) _ _ _)); (fail_if_success (with_reducible show wpAny _ _ (call (Value.ref _) _ _) _ _ _)); (fail_if_success (with_reducible show wpAny _ _ (pyIter _) _ _ _)); (fail_if_success (with_reducible show InvEndN _ _ _ _ _ _ _)); (fail_if_success (with_reducible show wpAny _ _ (call (Value.type "tuple") [Value.ref _] _) _ _ _)); (fail_if_success (with_reducible show wpAny _ _ (call (Value.type "enumerate") [Value.str _ _] _) _ _ _)); (first | ((with_reducible show wpAny _ _ (exec _ _) _ _ _); k_fold; (try (refine gen_toks ?_; intro tk9))) | (((with_reducible show wpAny _ _ (binaryOp Operator.Add (Value.str _ _) (Value.str _ _)) _ _ _); refine PyProof.Rows.add_str (hsz := ?hsz) ?_; (case hsz => (((try simp only [Str.length_append, len_open, len_shut, len_tab, len_blank, len_back, Int.toNat_natCast]); rw [sizeLine_eq]; omega))); intro _ _)) | (((with_reducible show wpAny _ _ (call (Value.builtin "len") [Value.ref _]) _ _ _); (refine' my_lenTup ?qN ?qm ?qi ?qb ?_; (case qN => k_asm); (case qm => k_mem); (case qi => assumption); (case qb => omega)))) | (k_unfold; (try dsimp only)) | walk1 | (dsimp only; walk1) | (leave1; walk_say "STEP leave1"; try dsimp only))))
  rename Fr _ _ _ _ => F1
  rename News _ _ _ _ => N1
  refine' my_forRange (n := n + 1) (LJ (wsLed w xf (wsRun xf.cps.toList) ia dx no tc2 cv q0 q1 q2 q3 q4 q5 q6 q7 q8 ++ [(got, listOf gv.toArray gn), (pl, listOf pvs.toArray pn), (wl, listOf ws.toArray wn)]) (L + 1 + 1 + 1 + 1 + 1) (L + 1 + 1 + 1 + 1) (L + 1 + 1, oc) (frM F1)) MyBare rfl (by assumption) ?hsm ?hrs F1 N1 hb ⟨oo, ot, _, _, rfl, do_, dt, fun _ _ _ _ => rfl⟩ ?hT ?turn ?done
  case hsm => exact small_one (by omega) (by omega) (by omega) (by omega)
  case hrs => rw [rangeSize_nat]; omega
  case hT => intro it v; rfl
  case done =>
    rintro m₁ nx h tk gs9 ⟨oo', ot', co', ct', rfl, do', dt', hm⟩ hg F2 N2
    clear hm F1 N1
    (repeat' ((fail_if_success (with_reducible show wpAny _ _ (exec (Stmt.While _ _ _ _) _) _ _ _)); (fail_if_success (with_reducible show wpAny _ _ (exec (Stmt.For _ _ _ _ _) _) _ _ _)); (fail_if_success (with_reducible show wpAny _ _ (execs (Stmt.For _ _ _ _ _ :: _) _) _ _ _)); (fail_if_success (with_reducible show wpAny _ _ (call (Value.ref _) _ _) _ _ _)); (fail_if_success (with_reducible show wpAny _ _ (pyIter _) _ _ _)); (fail_if_success (with_reducible show InvEndN _ _ _ _ _ _ _)); (fail_if_success (with_reducible show wpAny _ _ (call (Value.type "tuple") [Value.ref _] _) _ _ _)); (fail_if_success (with_reducible show wpAny _ _ (call (Value.type "enumerate") [Value.str _ _] _) _ _ _)); (first | ((with_reducible show wpAny _ _ (exec _ _) _ _ _); k_fold; (try (refine gen_toks ?_; intro tk9))) | (((with_reducible show wpAny _ _ (binaryOp Operator.Add (Value.str _ _) (Value.str _ _)) _ _ _); refine PyProof.Rows.add_str (hsz := ?hsz) ?_; (case hsz => (((try simp only [Str.length_append, len_open, len_shut, len_tab, len_blank, len_back, Int.toNat_natCast]); rw [sizeLine_eq]; omega))); intro _ _)) | (((with_reducible show wpAny _ _ (call (Value.builtin "len") [Value.ref _]) _ _ _); (refine' my_lenTup ?qN ?qm ?qi ?qb ?_; (case qN => k_asm); (case qm => k_mem); (case qi => assumption); (case qb => omega)))) | (k_unfold; (try dsimp only)) | walk1 | (dsimp only; walk1) | (leave1; walk_say "STEP leave1"; try dsimp only))))
    exact hQ _ _ _ _ F2 hg
  case turn =>
    rintro i t m₁ nx h tk gs9 own hi hg hoff ⟨oo', ot', co', ct', rfl, do', dt', hm⟩ F2 N2
    dsimp only [frM] at hm ⊢
    simp only [wsLed, List.cons_append, List.nil_append, List.map_cons, List.map_nil] at hoff
    simp only [List.cons_append, List.nil_append, wsLed] at N2
    have F3 := pinL F2 hm
    clear F1 N1 F2 hm
    (repeat' ((fail_if_success (with_reducible show wpAny _ _ (call (Value.builtin "sorted") _ _) _ _ _)); (fail_if_success (with_reducible show wpAny _ _ (exec (Stmt.While _ _ _ _) _) _ _ _)); (fail_if_success (with_reducible show wpAny _ _ (exec (Stmt.For _ _ _ _ _) _) _ _ _)); (fail_if_success (with_reducible show wpAny _ _ (execs (Stmt.For _ _ _ _ _ :: _) _) _ _ _)); (fail_if_success (with_reducible show wpAny _ _ (call (Value.ref _) _ _) _ _ _)); (fail_if_success (with_reducible show wpAny _ _ (pyIter _) _ _ _)); (fail_if_success (with_reducible show InvEndN _ _ _ _ _ _ _)); (fail_if_success (with_reducible show wpAny _ _ (call (Value.type "tuple") [Value.ref _] _) _ _ _)); (fail_if_success (with_reducible show wpAny _ _ (call (Value.type "enumerate") [Value.str _ _] _) _ _ _)); (first | (((with_reducible show wpAny _ _ (binaryOp Operator.Add (Value.str _ _) (Value.str _ _)) _ _ _); refine PyProof.Rows.add_str (hsz := ?hsz) ?_; (case hsz => (((try simp only [Str.length_append, len_open, len_shut, len_tab, len_blank, len_back, Int.toNat_natCast]); rw [sizeLine_eq]; omega))); intro _ _)) | (((with_reducible show wpAny _ _ (call (Value.builtin "len") [Value.ref _]) _ _ _); (refine' my_lenTup ?qN ?qm ?qi ?qb ?_; (case qN => k_asm); (case qm => k_mem); (case qi => assumption); (case qb => omega)))) | (((with_reducible show wpAny _ _ (subscriptTail _ _ (Value.ref _) (Value.int _ _)) _ _ _); (refine' item_list_ints ?l9 ?i9 ?h9 ?j9 ?f9 ?_; (case l9 => exact News.isList (by k_asm) (by k_mem)); (case i9 => assumption); (case h9 => assumption); (case j9 => exact idx_lt (by assumption) (by assumption)); (case f9 => exact idx_fit (by assumption) (by assumption))); intro t9)) | (k_unfold; (try dsimp only)) | walk1 | (dsimp only; walk1) | (leave1; walk_say "STEP leave1"; try dsimp only))))
    rename @Ne Addr _ _ ∧ _ => o1
    have m5 : Apt _ (L + 1 + 1 + 1 + 1 + 1) := o1.2.2.2.2.2.2.2.1.symm
    have m4 : Apt _ (L + 1 + 1 + 1 + 1) := o1.2.2.2.2.2.2.2.2.1.symm
    clear o1
    (((fail_if_success (with_reducible show wpAny _ _ (exec (Stmt.While _ _ _ _) _) _ _ _)); (fail_if_success (with_reducible show wpAny _ _ (exec (Stmt.For _ _ _ _ _) _) _ _ _)); (fail_if_success (with_reducible show wpAny _ _ (execs (Stmt.For _ _ _ _ _ :: _) _) _ _ _)); (fail_if_success (with_reducible show wpAny _ _ (call (Value.ref _) _ _) _ _ _)); (fail_if_success (with_reducible show wpAny _ _ (pyIter _) _ _ _)); (fail_if_success (with_reducible show InvEndN _ _ _ _ _ _ _)); (fail_if_success (with_reducible show wpAny _ _ (call (Value.type "tuple") [Value.ref _] _) _ _ _)); (fail_if_success (with_reducible show wpAny _ _ (call (Value.type "enumerate") [Value.str _ _] _) _ _ _)); (first | (((with_reducible show wpAny _ _ (binaryOp Operator.Add (Value.str _ _) (Value.str _ _)) _ _ _); refine PyProof.Rows.add_str (hsz := ?hsz) ?_; (case hsz => (((try simp only [Str.length_append, len_open, len_shut, len_tab, len_blank, len_back, Int.toNat_natCast]); rw [sizeLine_eq]; omega))); intro _ _)) | (((with_reducible show wpAny _ _ (call (Value.builtin "len") [Value.ref _]) _ _ _); (refine' my_lenTup ?qN ?qm ?qi ?qb ?_; (case qN => k_asm); (case qm => k_mem); (case qi => assumption); (case qb => omega)))) | (((with_reducible show wpAny _ _ (subscriptTail _ _ (Value.ref _) (Value.int _ _)) _ _ _); (refine' item_list_ints ?l9 ?i9 ?h9 ?j9 ?f9 ?_; (case l9 => exact News.isList (by k_asm) (by k_mem)); (case i9 => assumption); (case h9 => assumption); (case j9 => exact idx_lt (by assumption) (by assumption)); (case f9 => exact idx_fit (by assumption) (by assumption))); intro t9)) | (k_unfold; (try dsimp only)) | walk1 | (dsimp only; walk1) | (leave1; walk_say "STEP leave1"; try dsimp only))))
    rename @LT.lt Addr _ _ _ ∧ _ => l1
    have s5 : Apt _ (L + 1 + 1 + 1 + 1 + 1) := Nat.ne_of_gt l1.2.2.2.2.2.2.2.2.1
    have s4 : Apt _ (L + 1 + 1 + 1 + 1) := Nat.ne_of_gt l1.2.2.2.2.2.2.2.2.2.1
    clear l1
    rename List.Perm _ _ => hperm
    rename List.Pairwise _ _ => hasc
    rename IntsAre _ _ => hord
    have hol := hperm.length_eq
    rw [List.length_map, hlen] at hol
    iterate 9 ((((fail_if_success (with_reducible show wpAny _ _ (exec (Stmt.While _ _ _ _) _) _ _ _)); (fail_if_success (with_reducible show wpAny _ _ (exec (Stmt.For _ _ _ _ _) _) _ _ _)); (fail_if_success (with_reducible show wpAny _ _ (execs (Stmt.For _ _ _ _ _ :: _) _) _ _ _)); (fail_if_success (with_reducible show wpAny _ _ (call (Value.ref _) _ _) _ _ _)); (fail_if_success (with_reducible show wpAny _ _ (pyIter _) _ _ _)); (fail_if_success (with_reducible show InvEndN _ _ _ _ _ _ _)); (fail_if_success (with_reducible show wpAny _ _ (call (Value.type "tuple") [Value.ref _] _) _ _ _)); (fail_if_success (with_reducible show wpAny _ _ (call (Value.type "enumerate") [Value.str _ _] _) _ _ _)); (first | (((with_reducible show wpAny _ _ (binaryOp Operator.Add (Value.str _ _) (Value.str _ _)) _ _ _); refine PyProof.Rows.add_str (hsz := ?hsz) ?_; (case hsz => (((try simp only [Str.length_append, len_open, len_shut, len_tab, len_blank, len_back, Int.toNat_natCast]); rw [sizeLine_eq]; omega))); intro _ _)) | (((with_reducible show wpAny _ _ (call (Value.builtin "len") [Value.ref _]) _ _ _); (refine' my_lenTup ?qN ?qm ?qi ?qb ?_; (case qN => k_asm); (case qm => k_mem); (case qi => assumption); (case qb => omega)))) | (((with_reducible show wpAny _ _ (subscriptTail _ _ (Value.ref _) (Value.int _ _)) _ _ _); (refine' item_list_ints ?l9 ?i9 ?h9 ?j9 ?f9 ?_; (case l9 => exact News.isList (by k_asm) (by k_mem)); (case i9 => assumption); (case h9 => assumption); (case j9 => exact idx_lt (by assumption) (by assumption)); (case f9 => exact idx_fit (by assumption) (by assumption))); intro t9)) | (k_unfold; (try dsimp only)) | walk1 | (dsimp only; walk1) | (leave1; walk_say "STEP leave1"; try dsimp only)))))
    (((with_reducible show wpAny _ _ (subscriptTail _ _ (Value.ref _) (Value.int _ _)) _ _ _); (refine' item_list_ints ?l9 ?i9 ?h9 ?j9 ?f9 ?_; (case l9 => exact News.isList (by k_asm) (by k_mem)); (case i9 => assumption); (case h9 => assumption); (case j9 => exact idx_lt (by assumption) (by assumption)); (case f9 => exact idx_fit (by assumption) (by assumption))); intro t9))
    iterate 6 ((((fail_if_success (with_reducible show wpAny _ _ (exec (Stmt.While _ _ _ _) _) _ _ _)); (fail_if_success (with_reducible show wpAny _ _ (exec (Stmt.For _ _ _ _ _) _) _ _ _)); (fail_if_success (with_reducible show wpAny _ _ (execs (Stmt.For _ _ _ _ _ :: _) _) _ _ _)); (fail_if_success (with_reducible show wpAny _ _ (call (Value.ref _) _ _) _ _ _)); (fail_if_success (with_reducible show wpAny _ _ (pyIter _) _ _ _)); (fail_if_success (with_reducible show InvEndN _ _ _ _ _ _ _)); (fail_if_success (with_reducible show wpAny _ _ (call (Value.type "tuple") [Value.ref _] _) _ _ _)); (fail_if_success (with_reducible show wpAny _ _ (call (Value.type "enumerate") [Value.str _ _] _) _ _ _)); (first | (((with_reducible show wpAny _ _ (binaryOp Operator.Add (Value.str _ _) (Value.str _ _)) _ _ _); refine PyProof.Rows.add_str (hsz := ?hsz) ?_; (case hsz => (((try simp only [Str.length_append, len_open, len_shut, len_tab, len_blank, len_back, Int.toNat_natCast]); rw [sizeLine_eq]; omega))); intro _ _)) | (((with_reducible show wpAny _ _ (call (Value.builtin "len") [Value.ref _]) _ _ _); (refine' my_lenTup ?qN ?qm ?qi ?qb ?_; (case qN => k_asm); (case qm => k_mem); (case qi => assumption); (case qb => omega)))) | (((with_reducible show wpAny _ _ (subscriptTail _ _ (Value.ref _) (Value.int _ _)) _ _ _); (refine' item_list_ints ?l9 ?i9 ?h9 ?j9 ?f9 ?_; (case l9 => exact News.isList (by k_asm) (by k_mem)); (case i9 => assumption); (case h9 => assumption); (case j9 => exact idx_lt (by assumption) (by assumption)); (case f9 => exact idx_fit (by assumption) (by assumption))); intro t9)) | (k_unfold; (try dsimp only)) | walk1 | (dsimp only; walk1) | (leave1; walk_say "STEP leave1"; try dsimp only)))))
    rotate_right
    exact fun l k => if k < (permL hperm).getD k.toNat 0 then l ++ [k] else l
    · rename Fr _ _ _ _ => F9
      rename News _ _ _ _ => N9
      exact LCg.CompEnd.intro F9 N9 _ (fun p hp => hp) (by first | assumption | (simp only [LCg.Off3, and_true]; assumption)) True.intro (kci_el (if_pos (by assumption)) rfl rfl)
    · rename Fr _ _ _ _ => F9
      rename News _ _ _ _ => N9
      exact LCg.CompEnd.intro F9 N9 _ (fun p hp => hp) (by first | assumption | (simp only [LCg.Off3, and_true]; assumption)) True.intro (kci_no (if_neg (by assumption)) rfl)
    rotate_left
    · intro l k
      dsimp only
      split
      · simp
      · exact Nat.le_succ _
    (((fail_if_success (with_reducible show wpAny _ _ (exec (Stmt.While _ _ _ _) _) _ _ _)); (fail_if_success (with_reducible show wpAny _ _ (exec (Stmt.For _ _ _ _ _) _) _ _ _)); (fail_if_success (with_reducible show wpAny _ _ (execs (Stmt.For _ _ _ _ _ :: _) _) _ _ _)); (fail_if_success (with_reducible show wpAny _ _ (call (Value.ref _) _ _) _ _ _)); (fail_if_success (with_reducible show wpAny _ _ (pyIter _) _ _ _)); (fail_if_success (with_reducible show InvEndN _ _ _ _ _ _ _)); (fail_if_success (with_reducible show wpAny _ _ (call (Value.type "tuple") [Value.ref _] _) _ _ _)); (fail_if_success (with_reducible show wpAny _ _ (call (Value.type "enumerate") [Value.str _ _] _) _ _ _)); (first | (((with_reducible show wpAny _ _ (binaryOp Operator.Add (Value.str _ _) (Value.str _ _)) _ _ _); refine PyProof.Rows.add_str (hsz := ?hsz) ?_; (case hsz => (((try simp only [Str.length_append, len_open, len_shut, len_tab, len_blank, len_back, Int.toNat_natCast]); rw [sizeLine_eq]; omega))); intro _ _)) | (((with_reducible show wpAny _ _ (call (Value.builtin "len") [Value.ref _]) _ _ _); (refine' my_lenTup ?qN ?qm ?qi ?qb ?_; (case qN => k_asm); (case qm => k_mem); (case qi => assumption); (case qb => omega)))) | (((with_reducible show wpAny _ _ (subscriptTail _ _ (Value.ref _) (Value.int _ _)) _ _ _); (refine' item_list_ints ?l9 ?i9 ?h9 ?j9 ?f9 ?_; (case l9 => exact News.isList (by k_asm) (by k_mem)); (case i9 => assumption); (case h9 => assumption); (case j9 => exact idx_lt (by assumption) (by assumption)); (case f9 => exact idx_fit (by assumption) (by assumption))); intro t9)) | (k_unfold; (try dsimp only)) | walk1 | (dsimp only; walk1) | (leave1; walk_say "STEP leave1"; try dsimp only))))
    iterate 7 ((((fail_if_success (with_reducible show wpAny _ _ (exec (Stmt.While _ _ _ _) _) _ _ _)); (fail_if_success (with_reducible show wpAny _ _ (exec (Stmt.For _ _ _ _ _) _) _ _ _)); (fail_if_success (with_reducible show wpAny _ _ (execs (Stmt.For _ _ _ _ _ :: _) _) _ _ _)); (fail_if_success (with_reducible show wpAny _ _ (call (Value.ref _) _ _) _ _ _)); (fail_if_success (with_reducible show wpAny _ _ (pyIter _) _ _ _)); (fail_if_success (with_reducible show InvEndN _ _ _ _ _ _ _)); (fail_if_success (with_reducible show wpAny _ _ (call (Value.type "tuple") [Value.ref _] _) _ _ _)); (fail_if_success (with_reducible show wpAny _ _ (call (Value.type "enumerate") [Value.str _ _] _) _ _ _)); (first | (((with_reducible show wpAny _ _ (binaryOp Operator.Add (Value.str _ _) (Value.str _ _)) _ _ _); refine PyProof.Rows.add_str (hsz := ?hsz) ?_; (case hsz => (((try simp only [Str.length_append, len_open, len_shut, len_tab, len_blank, len_back, Int.toNat_natCast]); rw [sizeLine_eq]; omega))); intro _ _)) | (((with_reducible show wpAny _ _ (call (Value.builtin "len") [Value.ref _]) _ _ _); (refine' my_lenTup ?qN ?qm ?qi ?qb ?_; (case qN => k_asm); (case qm => k_mem); (case qi => assumption); (case qb => omega)))) | (((with_reducible show wpAny _ _ (subscriptTail _ _ (Value.ref _) (Value.int _ _)) _ _ _); (refine' item_list_ints ?l9 ?i9 ?h9 ?j9 ?f9 ?_; (case l9 => exact News.isList (by k_asm) (by k_mem)); (case i9 => assumption); (case h9 => assumption); (case j9 => exact idx_lt (by assumption) (by assumption)); (case f9 => exact idx_fit (by assumption) (by assumption))); intro t9)) | (k_unfold; (try dsimp only)) | walk1 | (dsimp only; walk1) | (leave1; walk_say "STEP leave1"; try dsimp only)))))
    rename Fr _ _ _ _ => F9
    rename News _ _ _ _ => N9
    rw [plain_told hn hlen hran hfold hi hperm hasc] at F9
    rename IntsAre _ (List.map (fun k' => (k' - (i : Int) - 1).fmod ((n : Int) + 1)) xs) => hmov
    rename Obj.data _ = Data.cell (some (Value.ref _)) => hdo
    rename Obj.data _ = Data.cell (some (Value.int (i : Int) t)) => hdt
    rename IntsAre cv _ => hcv
    have N8 := led3 N9
    refine law_turn w mean mg mb n hn L fa _ no tc2 ia dx got pl ccd _ gv pvs cv _ gn pn xs gs ps (cellO hdo) (cellO hdt) oc tc q0 q1 q2 q3 q4 q5 q6 q7 q8 t ty _ i y xf (wl, listOf ws.toArray wn) own hlen hran hps hpl hk hfold hi hgi hcv ?hxfl hxf _ rfl hmov base h₀ (fun z => if z = Str.ofString "due" then m₁ z else if z = Str.ofString "wishes" then some (.ref wl) else m₀ z) _ _ _ B X T (frC F9 ?fe) N8 dc hdo hdt hg ?kq
    case hxfl => rw [← hxf, Str.length_append, len_blank]; omega
    case fe => exact turn_fr m₀ m₁ _ _ _ _ _ _ _
    case kq =>
      intro h' tk' gs' m' news' Fz Nz hneed hbz hmz
      exact MyEnd.intro ((wsLed w xf (wsRun xf.cps.toList) ia dx no tc2 cv q0 q1 q2 q3 q4 q5 q6 q7 q8 ++ [(got, listOf gv.toArray gn), (pl, listOf pvs.toArray pn), (wl, listOf ws.toArray wn)]) ++ [(L + 1 + 1 + 1 + 1 + 1, cellO hdo), (L + 1 + 1 + 1 + 1, cellO hdt), (L + 1 + 1, oc)]) Fz Nz hbz (fun p hp => hneed p (List.mem_append_left own hp)) (fun p hp => hneed p (List.mem_append_right ((wsLed w xf (wsRun xf.cps.toList) ia dx no tc2 cv q0 q1 q2 q3 q4 q5 q6 q7 q8 ++ [(got, listOf gv.toArray gn), (pl, listOf pvs.toArray pn), (wl, listOf ws.toArray wn)]) ++ [(L + 1 + 1 + 1 + 1 + 1, cellO hdo), (L + 1 + 1 + 1 + 1, cellO hdt), (L + 1 + 1, oc)]) hp)) hoff ⟨cellO hdo, cellO hdt, _, _, rfl, hdo, hdt, fun z z1 z2 z3 => by rw [hmz z z1 z2 z3]; simp only [if_neg z3]⟩
theorem kinds_at (j : Nat) : kindsL.getD j ⟨#[]⟩ ∈ kindsL := by
  rw [List.getD_eq_getElem?_getD]
  cases h : kindsL[j]? with
  | none => exact .head _
  | some p => exact List.mem_of_getElem? h
theorem kinds_all {f : Int → Nat} {ks : List Int} : ∀ p ∈ ks.map fun k => kindsL.getD (f k) ⟨#[]⟩, p ∈ kindsL := by
  intro p hp
  obtain ⟨k, _, rfl⟩ := List.mem_map.mp hp
  exact kinds_at _
theorem mod_bnd {n : Nat} {ks : List Int} {m : Int} (hm : m = (n : Int) + 1) : ∀ x ∈ ks.map fun k' => k'.fmod m, 0 ≤ x ∧ x < (n : Int) + 1 := by
  intro x hx
  obtain ⟨k, _, rfl⟩ := List.mem_map.mp hx
  subst hm
  exact ⟨Int.fmod_nonneg_of_pos _ (by omega), Int.fmod_lt_of_pos _ (by omega)⟩
theorem strs_of {g : Int → PySem.Str} : ∀ {ks : List Int} {ys : List Value}, CarriedAll ys (ks.map fun k => PyData.str (g k)) → StrsAre ys (ks.map g)
  | [], _, h => by cases h; exact .nil
  | k :: r, _, h => by
    rw [List.map_cons] at h
    cases h with
    | cons h1 h2 => cases h1; exact .cons _ _ (strs_of h2)
noncomputable def lawMid : List Stmt := match lawPick.1 with | _ :: _ :: _ :: r => r | _ => []
theorem led_law {h₀ h : Heap} {L : Addr} {pl kd wl tl c5 c4 c3 c2 : Addr × Obj} (N : News h₀ L h [pl, kd, wl, tl, c5, c4, c3, c2]) : News h₀ L h [pl, wl, c5, c4, c2] := led_drop N (subK (subS (subK (subS (subK (subK (subS (subK subN))))))))
theorem law_mid (w mean mg mb) (n : Nat) (hn : n = 4 ∨ n = 5) (L : Nat) (fa tl : Addr) (ccd : Value) (tvs : List Value) (tn : Nat) (ks : List Int) (oo ot ok oc : Obj) (tc : Tok) (co ct ck : Option Value)
    (htv : IntsAre tvs ks) (hlen : ks.length = n)
    (base h₀ : Heap) (m₀ : Str → Option Value) (s : Shared) (Q : Flow → Shared → Prop)
    (B : Below callerA base [] h₀) (X : (hd.heap_39 w.params).In h₀) (T : Top hd.view_39 (looseW hd.view_39 [Str.ofString "bisect_left", Str.ofString "Whitespace"]) mean mg mb h₀)
    (F : Fr h₀ L s.heap (fun z => if z = Str.ofString "totals" then some (.ref tl) else m₀ z))
    (N : News h₀ L s.heap [(tl, listOf tvs.toArray tn), (L + 1 + 1 + 1 + 1 + 1, oo), (L + 1 + 1 + 1 + 1, ot), (L + 1 + 1 + 1, ok), (L + 1 + 1, oc)])
    (dc : oc.data = .cell (some (.int (n : Int) tc))) (do_ : oo.data = .cell co) (dt : ot.data = .cell ct) (dk : ok.data = .cell ck) (nT : Apt tl (L + 1 + 1 + 1)) (hb : MyBare s.gens)
    (hQ : ∀ h' tk' gs' m', Fr h₀ L h' m' → MyBare gs' → Q (.ret (.bool true)) { s with heap := h', toks := tk', gens := gs' }) :
    wpAny (model PySem.Challenge.rw_uq0012_01.row.prog w) (callerA.deeper (envOfC (Str.ofString "law") lawScope L fa ccd)) (execs lawMid (envOfC (Str.ofString "law") lawScope L fa ccd)) Q (fun _ _ => False) s := by
  have hna : ((n : Int) + 1).natAbs < 1073741824 := by omega
  have hkl : ks.length ≤ 16777216 := by omega
  w_on
  revert X
  k_fill
  intro X
  have eS : lawScope = lawScope := rfl
  have eT : lawMid = lawMid := rfl
  conv at eS => rhs; whnf
  conv at eT => rhs; whnf
  rw [eT, eS]
  clear eS eT
  (repeat' ((fail_if_success (with_reducible show KCtEl _ _ _ _)); (fail_if_success (with_reducible show LCg.CompSrc _ _ _ _ _ _ _ _ _ _ _ _ _ _)); (fail_if_success (with_reducible show wpAny _ _ (execs (Stmt.Assign [Expr.Tuple _ _ _] _ _ :: _) _) _ _ _)); (fail_if_success (with_reducible show wpAny _ _ (exec (Stmt.While _ _ _ _) _) _ _ _)); (fail_if_success (with_reducible show wpAny _ _ (exec (Stmt.For _ _ _ _ _) _) _ _ _)); (fail_if_success (with_reducible show wpAny _ _ (execs (Stmt.For _ _ _ _ _ :: _) _) _ _ _)); (fail_if_success (with_reducible show wpAny _ _ (call (Value.ref _) _ _) _ _ _)); (fail_if_success (with_reducible show wpAny _ _ (pyIter _) _ _ _)); (fail_if_success (with_reducible show InvEndN _ _ _ _ _ _ _)); (fail_if_success (with_reducible show wpAny _ _ (call (Value.type "tuple") [Value.ref _] _) _ _ _)); (fail_if_success (with_reducible show wpAny _ _ (call (Value.type "enumerate") [Value.str _ _] _) _ _ _)); (first | ((with_reducible show wpAny _ _ (exec _ _) _ _ _); k_fold; (try (refine gen_toks ?_; intro tk9))) | (((with_reducible show wpAny _ _ (binaryOp Operator.Add (Value.str _ _) (Value.str _ _)) _ _ _); refine PyProof.Rows.add_str (hsz := ?hsz) ?_; (case hsz => (((try simp only [Str.length_append, len_open, len_shut, len_tab, len_blank, len_back, Int.toNat_natCast]); rw [sizeLine_eq]; omega))); intro _ _)) | (((with_reducible show wpAny _ _ (call (Value.builtin "len") [Value.ref _]) _ _ _); (refine' my_lenTup ?qN ?qm ?qi ?qb ?_; (case qN => k_asm); (case qm => k_mem); (case qi => assumption); (case qb => omega)))) | (k_unfold; (try dsimp only)) | walk1 | (dsimp only; walk1) | (leave1; walk_say "STEP leave1"; try dsimp only))))
  walk_at "CompSrc"
  (repeat' ((fail_if_success (with_reducible show KCtEl _ _ _ _)); (fail_if_success (with_reducible show LCg.CompSrc _ _ _ _ _ _ _ _ _ _ _ _ _ _)); (fail_if_success (with_reducible show wpAny _ _ (execs (Stmt.Assign [Expr.Tuple _ _ _] _ _ :: _) _) _ _ _)); (fail_if_success (with_reducible show wpAny _ _ (exec (Stmt.While _ _ _ _) _) _ _ _)); (fail_if_success (with_reducible show wpAny _ _ (exec (Stmt.For _ _ _ _ _) _) _ _ _)); (fail_if_success (with_reducible show wpAny _ _ (execs (Stmt.For _ _ _ _ _ :: _) _) _ _ _)); (fail_if_success (with_reducible show wpAny _ _ (call (Value.ref _) _ _) _ _ _)); (fail_if_success (with_reducible show wpAny _ _ (pyIter _) _ _ _)); (fail_if_success (with_reducible show InvEndN _ _ _ _ _ _ _)); (fail_if_success (with_reducible show wpAny _ _ (call (Value.type "tuple") [Value.ref _] _) _ _ _)); (fail_if_success (with_reducible show wpAny _ _ (call (Value.type "enumerate") [Value.str _ _] _) _ _ _)); (first | ((with_reducible show wpAny _ _ (exec _ _) _ _ _); k_fold; (try (refine gen_toks ?_; intro tk9))) | (((with_reducible show wpAny _ _ (binaryOp Operator.Add (Value.str _ _) (Value.str _ _)) _ _ _); refine PyProof.Rows.add_str (hsz := ?hsz) ?_; (case hsz => (((try simp only [Str.length_append, len_open, len_shut, len_tab, len_blank, len_back, Int.toNat_natCast]); rw [sizeLine_eq]; omega))); intro _ _)) | (((with_reducible show wpAny _ _ (call (Value.builtin "len") [Value.ref _]) _ _ _); (refine' my_lenTup ?qN ?qm ?qi ?qb ?_; (case qN => k_asm); (case qm => k_mem); (case qi => assumption); (case qb => omega)))) | (k_unfold; (try dsimp only)) | walk1 | (dsimp only; walk1) | (leave1; walk_say "STEP leave1"; try dsimp only))))
  refine LCg.CompSrc.ledger (by rfl) (by k_asm) (by k_asm) (by k_mem) (by kcf_size) ?_
  intro g'
  refine' kct_list (fun k => kindsL.getD ((k.fdiv ((n : Int) + 1)).fmod 6).toNat ⟨#[]⟩) (by assumption) (fun k' t' I' oI' C' oC' D' m' ys' h' tk' E' hk' hC' hx' F' N' off' ne' hMark' => ?_) ?_
  all_goals (try (simp only [LCg.Off3, and_true] at off'))
  kcf_last
  (repeat' ((fail_if_success (with_reducible show KCtEl _ _ _ _)); (fail_if_success (with_reducible show LCg.CompSrc _ _ _ _ _ _ _ _ _ _ _ _ _ _)); (fail_if_success (with_reducible show wpAny _ _ (execs (Stmt.Assign [Expr.Tuple _ _ _] _ _ :: _) _) _ _ _)); (fail_if_success (with_reducible show LCg.CompEnd _ _ _ _ _ _ _ _ _ _ _ _ _ _)); (fail_if_success (with_reducible show wpAny _ _ (exec (Stmt.While _ _ _ _) _) _ _ _)); (fail_if_success (with_reducible show wpAny _ _ (exec (Stmt.For _ _ _ _ _) _) _ _ _)); (fail_if_success (with_reducible show wpAny _ _ (execs (Stmt.For _ _ _ _ _ :: _) _) _ _ _)); (fail_if_success (with_reducible show wpAny _ _ (call (Value.ref _) _ _) _ _ _)); (fail_if_success (with_reducible show wpAny _ _ (pyIter _) _ _ _)); (fail_if_success (with_reducible show InvEndN _ _ _ _ _ _ _)); (fail_if_success (with_reducible show wpAny _ _ (call (Value.type "tuple") [Value.ref _] _) _ _ _)); (fail_if_success (with_reducible show wpAny _ _ (call (Value.type "enumerate") [Value.str _ _] _) _ _ _)); (first | ((with_reducible show wpAny _ _ (exec _ _) _ _ _); k_fold; (try (refine gen_toks ?_; intro tk9))) | (((with_reducible show wpAny _ _ (binaryOp Operator.Add (Value.str _ _) (Value.str _ _)) _ _ _); refine PyProof.Rows.add_str (hsz := ?hsz) ?_; (case hsz => (((try simp only [Str.length_append, len_open, len_shut, len_tab, len_blank, len_back, Int.toNat_natCast]); rw [sizeLine_eq]; omega))); intro _ _)) | (((with_reducible show wpAny _ _ (call (Value.builtin "len") [Value.ref _]) _ _ _); (refine' my_lenTup ?qN ?qm ?qi ?qb ?_; (case qN => k_asm); (case qm => k_mem); (case qi => assumption); (case qb => omega)))) | (k_unfold; (try dsimp only)) | walk1 | (dsimp only; walk1) | (leave1; walk_say "STEP leave1"; try dsimp only))))
  iterate 6 (rename Int.fmod _ 6 = _ => hE; rename Fr _ _ _ _ => F9; rename News _ _ _ _ => N9; refine LCg.CompEnd.intro F9 N9 _ (fun p hp => hp) (by first | assumption | (simp only [LCg.Off3, and_true]; assumption)) (by first | lcg_src | assumption) (kct_el ?kq7 rfl rfl); case kq7 => ((try dsimp only); rw [hE]; decide +kernel))
  rename Fr _ _ _ _ => F9
  rename News _ _ _ _ => N9
  rename CarriedAll _ _ => hps9
  rename IntsAre _ (List.map (fun k' : Int => Int.fmod k' _) _) => hxs9
  have N8 := led_law N9
  refine law_tail w mean mg mb n hn L fa _ _ ccd _ _ _ _ _ _ oo ot oc tc co ct hxs9 ?zl ?zr (strs_of hps9) ?zp kinds_all base h₀ _ _ Q B X T F9 N8 dc do_ dt ?zn1 ?zn2 ?zn3 ?zn4 hb hQ
  case zl => rw [List.length_map, hlen]
  case zr => exact mod_bnd rfl
  case zp => rw [List.length_map, hlen]
  case zn1 =>
    rename @Ne Addr _ _ ∧ @Ne Addr (L + 1 + 1 + 1 + 1 + 1) _ ∧ _ => o7
    exact o7.2.1.symm
  case zn2 =>
    rename @Ne Addr _ _ ∧ @Ne Addr (L + 1 + 1 + 1 + 1 + 1) _ ∧ _ => o7
    exact o7.2.2.1.symm
  case zn3 =>
    rename @Ne Addr _ _ ∧ @Ne Addr _ _ ∧ @Ne Addr _ _ ∧ @Ne Addr (L + 1 + 1 + 1 + 1 + 1) _ ∧ _ => o7
    exact o7.2.2.2.1.symm
  case zn4 =>
    rename @Ne Addr _ _ ∧ @Ne Addr _ _ ∧ @Ne Addr _ _ ∧ @Ne Addr (L + 1 + 1 + 1 + 1 + 1) _ ∧ _ => o7
    exact o7.2.2.2.2.1.symm
/-- the numbers that a slice picks -/
noncomputable def pickN (ns : List Int) (lo hi st : Option Int) : List Int :=
  (sliceRange (sliceBounds lo hi st ns.length).1 (sliceBounds lo hi st ns.length).2.1 (sliceBounds lo hi st ns.length).2.2).filterMap (ns[·]?)
theorem ints_pick {vs : List Value} {ns : List Int} (h : IntsAre vs ns) : ∀ idx : List Nat, IntsAre (idx.filterMap (vs.toArray[·]?)) (idx.filterMap (ns[·]?))
  | [] => .nil
  | i :: r => by
    have ih := ints_pick h r
    rw [List.filterMap_cons, List.filterMap_cons]
    by_cases q : i < ns.length
    · have hv : i < vs.length := by rw [h.length]; exact q
      have e1 : vs.toArray[i]? = some vs[i] := by simp [hv]
      have e2 : ns[i]? = some ns[i] := by simp [q]
      obtain ⟨k, t, e, hk⟩ := IntsAre.at h i vs[i] (by simp [hv])
      rw [e2] at hk
      rw [e1, e2]
      dsimp only
      rw [e, Option.some.inj hk]
      exact .cons _ _ ih
    · have hv : ¬ i < vs.length := by rw [h.length]; exact q
      have e1 : vs.toArray[i]? = none := by simp; omega
      have e2 : ns[i]? = none := by simp; omega
      rw [e1, e2]
      exact ih
theorem pick_ints {vs : List Value} {ns : List Int} (h : IntsAre vs ns) (lo hi st : Option Int) : IntsAre (slicePick vs.toArray lo hi st).toList (pickN ns lo hi st) := by
  unfold slicePick pickN
  rw [show vs.toArray.size = ns.length from by rw [List.size_toArray, h.length]]
  exact ints_pick h _
theorem good_end {c : ClaimW} {cl : Str → Option Addr} {mean : ExcName → Option Value} {args : List WData} {s₁ s' : Shared} {L : Addr} {m : Str → Option Value} (F : Fr s₁.heap L s'.heap m) (hg : MyBare s'.gens) (hn : ∀ cls, c.raises args cls = false) (hp : c.post args (.bool true) args = true) (hos : s'.os = s₁.os) :
    GoodWG c cl mean args s₁ (.ok (.ret (.bool true))) s' := ⟨.inl ⟨_, _, _, rfl, hn, .bool true, hp, unshared_nil⟩, .of_keep F.keep, hos, hg⟩
theorem bare_nil {gs : Array GenState} (h : gs = #[]) : MyBare gs := fun x hx => by rw [h] at hx; simp at hx
theorem idx5 {k : Int} (h : k < 0 + (((5 : Int) - 0).toNat : Int)) : k < 5 := by simpa using h
theorem idx4 {k : Int} (h : k < 0 + (((4 : Int) - 0).toNat : Int)) : k < 5 := Int.lt_trans (by simpa using h) (by decide)
theorem led_top {h₀ h : Heap} {L : Addr} {tl nl c5 c4 c3 c2 c1 : Addr × Obj} (N : News h₀ L h [tl, nl, c5, c4, c3, c2, c1]) : News h₀ L h [tl, c5, c4, c3, c2] := led_drop N (subK (subS (subK (subK (subK (subK subN))))))
theorem top_holds : PySem.Challenge.rw_uq0012_01.Holds := hd (by
  w_on
  k_fill
  intro w s₀ s₁ mg mb G Y fa o pm cd doc dV kV ho hd hcd hD hmg hg args vals as hpre hlay hrd hwl hlo
  have KX := kIn_of Y
  have X := (Ground.X G).1
  have V := (Ground.X G).2
  try w_nolog (first | (have GL := glob_more (Ground.glob G (by first | k_qdec | decide +kernel)) V) | (have GL := glob_more (Ground.glob G (by decide +kernel)) V))
  refine Ground.open G ?_
  intro T B D TE TW
  try (refine guard_noD D (by decide +kernel) ?_; clear D)
  obtain ⟨_, _, M⟩ := bmod_of_top T
  have TA := at_of_top T
  try (obtain ⟨_, _, he, B0⟩ := based_of_top T rfl hmg ho hd; have he' : cd = _ := he; subst he'; clear he)
  clear hmg
  wrow_args hpre hlay hrd hwl hlo
  all_goals (
    first | refine callC_kw (enter_call ?_) | refine enter_call ?_ | refine callC_kw (enter_callW ?_) | refine enter_callW ?_ | w_how
    w_top on
    have K0 := below_caller (Top.heap T)
    w_call any ho hd hcd hD T F
    clear hd TA
    k_drop
    skip)
  all_goals try k_fold
  (repeat' ((fail_if_success (with_reducible show KCtEl _ _ _ _)); (fail_if_success (with_reducible show LCg.CompSrc _ _ _ _ _ _ _ _ _ _ _ _ _ _)); (fail_if_success (with_reducible show wpAny _ _ (execs (Stmt.Assign [Expr.Tuple _ _ _] _ _ :: _) _) _ _ _)); (fail_if_success (with_reducible show wpAny _ _ (exec (Stmt.While _ _ _ _) _) _ _ _)); (fail_if_success (with_reducible show wpAny _ _ (exec (Stmt.For _ _ _ _ _) _) _ _ _)); (fail_if_success (with_reducible show wpAny _ _ (execs (Stmt.For _ _ _ _ _ :: _) _) _ _ _)); (fail_if_success (with_reducible show wpAny _ _ (call (Value.ref _) _ _) _ _ _)); (fail_if_success (with_reducible show wpAny _ _ (pyIter _) _ _ _)); (fail_if_success (with_reducible show InvEndN _ _ _ _ _ _ _)); (fail_if_success (with_reducible show wpAny _ _ (call (Value.type "tuple") [Value.ref _] _) _ _ _)); (fail_if_success (with_reducible show wpAny _ _ (call (Value.type "enumerate") [Value.str _ _] _) _ _ _)); (first | (((with_reducible show wpAny _ _ (binaryOp Operator.Add (Value.str _ _) (Value.str _ _)) _ _ _); refine PyProof.Rows.add_str (hsz := ?hsz) ?_; (case hsz => (((try simp only [Str.length_append, len_open, len_shut, len_tab, len_blank, len_back, Int.toNat_natCast]); rw [sizeLine_eq]; omega))); intro _ _)) | (((with_reducible show wpAny _ _ (call (Value.builtin "len") [Value.ref _]) _ _ _); (refine' my_lenTup ?qN ?qm ?qi ?qb ?_; (case qN => k_asm); (case qm => k_mem); (case qi => assumption); (case qb => omega)))) | ((k_here; (with_reducible show wpAny _ _ (subscriptTail _ (PySem.Expr.Slice _ _ (some _) _) (Value.ref _) (Value.ref _)) _ _ _); k_dflt (refine' kmk_slice3_lit ?F ?N ?l ?p ?q ?k ?o ?e ?_ ?s ?t ?z; (case F => k_asm); (case N => k_asm); (case l => kmk_list); (case p => kmk_part); (case q => kmk_part); (case k => kmk_part); (case o => decide); (case e => exact rfl); (case s => with_unfolding_all rfl); (case t => kmk_pure); (case z => kmk_size)); intro D' h' F' N' l1; (try k_lt l1); (try k_sweep))) | ((k_here; (with_reducible show wpAny _ _ (call (Value.builtin "sum") [Value.ref _]) _ _ _); k_dflt (with_unfolding_all refine' sumK ?k0 ?k1 ?k2 ?k3 ?k4 ?_; (case k0 => with_unfolding_all rfl); (case k1 => k_asm); (case k2 => k_asm); (case k3 => exact News.isList (by k_asm) (by k_mem)); (case k4 => exact pick_ints (by assumption) _ _ _)); intro h' tk' t' F' N')) | (k_unfold; (try dsimp only)) | walk1 | (dsimp only; walk1) | (leave1; walk_say "STEP leave1"; try dsimp only))))
  all_goals walk_at "CompSrc"
  all_goals (try (rename @LT.lt Int _ _ (0 + _) => hhi9; first | (have hh5 := idx5 hhi9; clear hhi9) | (have hh5 := idx4 hhi9; clear hhi9)))
  all_goals (repeat' ((fail_if_success (with_reducible show wpAny _ _ (execs (Stmt.Assign _ (Expr.ListComp _ _ _ _) _ :: _) _) _ _ _)); (fail_if_success (with_reducible show KCtEl _ _ _ _)); (fail_if_success (with_reducible show LCg.CompSrc _ _ _ _ _ _ _ _ _ _ _ _ _ _)); (fail_if_success (with_reducible show wpAny _ _ (execs (Stmt.Assign [Expr.Tuple _ _ _] _ _ :: _) _) _ _ _)); (fail_if_success (with_reducible show wpAny _ _ (exec (Stmt.While _ _ _ _) _) _ _ _)); (fail_if_success (with_reducible show wpAny _ _ (exec (Stmt.For _ _ _ _ _) _) _ _ _)); (fail_if_success (with_reducible show wpAny _ _ (execs (Stmt.For _ _ _ _ _ :: _) _) _ _ _)); (fail_if_success (with_reducible show wpAny _ _ (call (Value.ref _) _ _) _ _ _)); (fail_if_success (with_reducible show wpAny _ _ (pyIter _) _ _ _)); (fail_if_success (with_reducible show InvEndN _ _ _ _ _ _ _)); (fail_if_success (with_reducible show wpAny _ _ (call (Value.type "tuple") [Value.ref _] _) _ _ _)); (fail_if_success (with_reducible show wpAny _ _ (call (Value.type "enumerate") [Value.str _ _] _) _ _ _)); (first | (((with_reducible show wpAny _ _ (binaryOp Operator.Add (Value.str _ _) (Value.str _ _)) _ _ _); refine PyProof.Rows.add_str (hsz := ?hsz) ?_; (case hsz => (((try simp only [Str.length_append, len_open, len_shut, len_tab, len_blank, len_back, Int.toNat_natCast]); rw [sizeLine_eq]; omega))); intro _ _)) | (((with_reducible show wpAny _ _ (call (Value.builtin "len") [Value.ref _]) _ _ _); (refine' my_lenTup ?qN ?qm ?qi ?qb ?_; (case qN => k_asm); (case qm => k_mem); (case qi => assumption); (case qb => omega)))) | ((k_here; (with_reducible show wpAny _ _ (subscriptTail _ (PySem.Expr.Slice _ _ (some _) _) (Value.ref _) (Value.ref _)) _ _ _); k_dflt (refine' kmk_slice3_lit ?F ?N ?l ?p ?q ?k ?o ?e ?_ ?s ?t ?z; (case F => k_asm); (case N => k_asm); (case l => kmk_list); (case p => kmk_part); (case q => kmk_part); (case k => kmk_part); (case o => decide); (case e => exact rfl); (case s => with_unfolding_all rfl); (case t => kmk_pure); (case z => kmk_size)); intro D' h' F' N' l1; (try k_lt l1); (try k_sweep))) | ((k_here; (with_reducible show wpAny _ _ (call (Value.builtin "sum") [Value.ref _]) _ _ _); k_dflt (with_unfolding_all refine' sumK ?k0 ?k1 ?k2 ?k3 ?k4 ?_; (case k0 => with_unfolding_all rfl); (case k1 => k_asm); (case k2 => k_asm); (case k3 => exact News.isList (by k_asm) (by k_mem)); (case k4 => exact pick_ints (by assumption) _ _ _)); intro h' tk' t' F' N')) | (k_unfold; (try dsimp only)) | walk1 | (dsimp only; walk1) | (leave1; walk_say "STEP leave1"; try dsimp only))))
  · rename Fr _ _ _ _ => F9
    rename News _ _ _ _ => N9
    rename IntsAre _ (List.map _ (rangeKs 0 _)) => hx9
    rename Obj.data _ = Data.cell (some (Value.int 5 _)) => hcar
    have N8 := led_top N9
    refine wpAny_mono (law_mid w _ mg mb 5 (Or.inr rfl) s₁.heap.objs.size fa _ _ _ _ _ _ _ _ _ _ _ _ _ hx9 ?zl5 _ _ _ _ qk K0 KX T F9 N8 hcar (by assumption) (by assumption) (by assumption) ?zn5 (bare_nil hg) ?zq5) (fun _ _ h => h) (fun _ _ h => h.elim)
    case zl5 => rw [List.length_map, rangeKs_length]; rfl
    case zn5 =>
      rename @Ne Addr _ _ ∧ @Ne Addr (s₁.heap.objs.size + 1 + 1 + 1 + 1 + 1) _ ∧ _ => o7
      exact o7.2.2.2.1.symm
    case zq5 =>
      intro h9 tk9 gs9 m9 F2 hb2
      exact good_end (s₁ := s₁) F2 hb2 (fun _ => rfl) (by with_unfolding_all rfl) rfl
  · rename Fr _ _ _ _ => F9
    rename News _ _ _ _ => N9
    rename IntsAre _ (List.map _ (rangeKs 0 _)) => hx9
    rename Obj.data _ = Data.cell (some (Value.int 4 _)) => hcar
    have N8 := led_top N9
    refine wpAny_mono (law_mid w _ mg mb 4 (Or.inl rfl) s₁.heap.objs.size fa _ _ _ _ _ _ _ _ _ _ _ _ _ hx9 ?zl4 _ _ _ _ qk K0 KX T F9 N8 hcar (by assumption) (by assumption) (by assumption) ?zn4 (bare_nil hg) ?zq4) (fun _ _ h => h) (fun _ _ h => h.elim)
    case zl4 => rw [List.length_map, rangeKs_length]; rfl
    case zn4 =>
      rename @Ne Addr _ _ ∧ @Ne Addr (s₁.heap.objs.size + 1 + 1 + 1 + 1 + 1) _ ∧ _ => o7
      exact o7.2.2.2.1.symm
    case zq4 =>
      intro h9 tk9 gs9 m9 F2 hb2
      exact good_end (s₁ := s₁) F2 hb2 (fun _ => rfl) (by with_unfolding_all rfl) rfl
  )
end Mine
set_option maxRecDepth 100000 in
set_option maxHeartbeats 8000000 in
theorem PySem.Challenge.cw_uq0012_01_holds : PySem.Challenge.rw_uq0012_01.Holds :=
  Mine.top_holds
