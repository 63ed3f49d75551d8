import PyProof.Rows.All
import Wide.All
import OpenK.AllK
import Wide.FinOn
import Lean
import PySem.Challenge.RW_wr0014_01
set_option Elab.async false
namespace Mine
open PySem PySem.W PyProof.Rows
set_option maxRecDepth 100000 in
set_option maxHeartbeats 8000000 in
open_top hd for PySem.Challenge.rw_wr0014_01
end Mine
namespace Mine
set_option maxRecDepth 100000
open PySem PySem.W PySem.Calls PyProof.Rows PySem.Spec

noncomputable def Stop (P : Prop) : Prop := P
theorem Stop.of {P : Prop} (h : Stop P) : P := h
abbrev prog : Program := Challenge.rw_wr0014_01.row.prog
abbrev Keep (h h' : Heap) : Prop := ∀ b o, h.get? b = some o → h'.get? b = some o

noncomputable def bindMap : List (Str × Value) → Str → Option Value
  | [], _ => none
  | p :: r, y => if y = p.1 then some p.2 else bindMap r y
theorem bindMap_eq (l : List (Str × Value)) : (fun y => l.lookup y) = fun y => bindMap l y := by
  funext y
  induction l with
  | nil => rfl
  | cons p r ih =>
    simp only [List.lookup, bindMap]
    by_cases h : y = p.1
    · subst h; simp
    · have : (y == p.1) = false := by simpa using h
      rw [this, if_neg h]; exact ih

/-- entering a def without cells, from any caller -/
theorem enter_def {w : World} {A : Around} {s : Shared} {K : Frag} {mean : ExcName → Option Value} {mg mb : Str → Option Value} {p : Program} {loose : List Str} {R : Result → Shared → Prop}
    {name qual : Str} {params : Arguments} {body : List Stmt} {scope : Scope} {dV kV doc pm cdv ct oc : Value} {an od : Option Addr} {osl : Array (Option Value)} {f : Addr} {vals : List Value}
    (X : K.In s.heap) (T : Top p loose mean mg mb s.heap)
    (ho : K.lookup f = some ⟨oc, od, .func (fnOf name qual params body scope dV kV doc pm an cdv ct), osl⟩) (hcd : codeIn K cdv qual = true) (hroom : A.depth < recursionLimit)
    (hbind : bindArgs (fnOf name qual params body scope dV kV doc pm an cdv ct) ⟨vals, []⟩ = pure ((params.args.map (·.arg)).zip vals)) (hloc : ∀ y ∈ (params.args.map (·.arg)).zip vals, scope.names.lookup y.1 = some .local)
    (h : ∀ L' h₁, Fr s.heap L' h₁ (fun y => bindMap ((params.args.map (·.arg)).zip vals).reverse y) → News s.heap L' h₁ [] →
      wpAny (model Challenge.rw_wr0014_01.row.prog w) (A.deeper (envOf qual scope L' f cdv)) (execs body (envOf qual scope L' f cdv))
        (fun fl s' => R (.ok (.ret (match fl with | .ret v => v | _ => .none))) s') (fun _ _ => False)
        { s with heap := h₁, toks := s.toks + vals.length })
    (hco : scope.isCoroutine = false) (hgen : scope.isGenerator = false) (hk : scope.kind = .function)
    (hcell : ∀ x ∈ scope.names, x.2 ≠ .cell) (hlen : ((params.args.map (·.arg)).zip vals).length = vals.length) : codeAny (model Challenge.rw_wr0014_01.row.prog w) A (.call (.ref f) ⟨vals, []⟩) R s := by
  refine codeAny_call_def (fd := fnOf name qual params body scope dV kV doc pm an cdv ct) (body := body) (binds := (params.args.map (·.arg)).zip vals) hroom (X _ _ ho) rfl T.nolimit (codeRec_of X hcd) rfl (BindsTo.of_eq hbind) hcell hloc (fun h₁ hns hk₁ => ?_) hco hgen hk
  rw [bindMap_eq] at hns
  rw [hlen]
  exact wpAny_mono (h s.heap.objs.size h₁ ⟨hns, hk₁, Nat.le_refl _⟩ News.nil) (fun _ _ x => x) fun _ _ x => x.elim

theorem Fr_ext {h₀ h h' : Heap} {L : Addr} {m : Str → Option Value} (F : Fr h₀ L h m) (k : Keep h h') : Fr h₀ L h' m :=
  ⟨F.ns.keeps k, fun b o e => k b o (F.keep b o e), F.above⟩
theorem News_ext {h₀ h h' : Heap} {L : Addr} {news : List (Addr × Obj)} (N : News h₀ L h news) (k : Keep h h') : News h₀ L h' news :=
  fun p hp => ⟨k _ _ (N p hp).1, (N p hp).2⟩
theorem News_cons {h₀ h h' : Heap} {L l : Addr} {o : Obj} {m : Str → Option Value} {news : List (Addr × Obj)} (F : Fr h₀ L h m) (N : News h₀ L h news) (k : Keep h h') (hn : h.get? l = none) (hl : h'.get? l = some o) :
    News h₀ L h' ((l, o) :: news) := fun p hp => by
  rcases List.mem_cons.mp hp with rfl | hp
  · refine ⟨hl, fun e => ?_, ?_⟩
    · obtain ⟨oL, _, _, hL, _⟩ := F.ns
      rw [← e] at hL
      rw [hn] at hL; cases hL
    · cases q : h₀.get? l with
      | none => rfl
      | some o' => rw [F.keep _ _ q] at hn; cases hn
  · exact News_ext N k p hp

abbrev Ard (dp un : Nat) (fr : Option (List Env)) (gd : Option (List Code)) : Around := { handled := none, depth := dp, frames := fr, guards := gd, units := un }
abbrev TopV (mean : ExcName → Option Value) (mg mb : Str → Option Value) (h : Heap) : Prop := Top Mine.hd.view_39 (looseW Mine.hd.view_39 []) mean mg mb h


noncomputable def strcollI (a b : Str) : Int := b2i (decide (b.cps.toList < a.cps.toList)) - b2i (decide (a.cps.toList < b.cps.toList))

section
variable {w : World} {dp un : Nat} {fr : Option (List Env)} {gd : Option (List Code)} {s : Shared} {mean : ExcName → Option Value} {mg mb : Str → Option Value}
    {Q E : Value → Shared → Prop}

set_option maxHeartbeats 2000000 in
theorem strcoll_spec {a b : Str} {ta tb : Tok}
    (X : (Mine.hd.heap_39 w.params).In s.heap) (T : Top Mine.hd.view_39 (looseW Mine.hd.view_39 []) mean mg mb s.heap) (hd : dp + 1 < recursionLimit)
    (h : ∀ t h' tk, Keep s.heap h' → Q (.int (strcollI a b) t) { s with heap := h', toks := tk }) :
    wpAny (model Challenge.rw_wr0014_01.row.prog w) (Ard dp un fr gd) (call (.ref 42) [.str a ta, .str b tb]) Q E s := by
  revert X; k_fill; intro X
  w_on
  refine wpAny_call ?_
  refine' enter_def (by assumption) (by assumption) ?k6 ?k7 ?k8 ?k9 ?kB ?_ ?c2 ?c3 ?c4 ?c5 ?c6
  (case k6 => k_is)
  (case k7 => k_is)
  (case k8 => (dsimp only [Around.deeper, Around.in1]; omega))
  (case k9 => exact rfl)
  (case kB => exact locs rfl)
  (case c2 => exact rfl)
  (case c3 => exact rfl)
  (case c4 => exact rfl)
  (case c5 => decide)
  (case c6 => exact rfl)
  intro L0 h0 F0 N0
  dsimp only [List.map, List.zip, List.zipWith, List.reverse, List.reverseAux, List.length, bindMap] at F0 ⊢
  k_steps
  exact h _ _ _ (Fr.keep (by assumption))

set_option maxHeartbeats 2000000 in
theorem add_spec {a b : Int} {ta tb : Tok}
    (X : (Mine.hd.heap_39 w.params).In s.heap) (T : Top Mine.hd.view_39 (looseW Mine.hd.view_39 []) mean mg mb s.heap) (hd : dp + 1 < recursionLimit)
    (h : ∀ t h' tk, Keep s.heap h' → Q (.int (a + b) t) { s with heap := h', toks := tk }) :
    wpAny (model Challenge.rw_wr0014_01.row.prog w) (Ard dp un fr gd) (call (.ref 49) [.int a ta, .int b tb]) Q E s := by
  revert X; k_fill; intro X
  w_on
  refine wpAny_call ?_
  refine' enter_def (by assumption) (by assumption) ?k6 ?k7 ?k8 ?k9 ?kB ?_ ?c2 ?c3 ?c4 ?c5 ?c6
  (case k6 => k_is)
  (case k7 => k_is)
  (case k8 => (dsimp only [Around.deeper, Around.in1]; omega))
  (case k9 => exact rfl)
  (case kB => exact locs rfl)
  (case c2 => exact rfl)
  (case c3 => exact rfl)
  (case c4 => exact rfl)
  (case c5 => decide)
  (case c6 => exact rfl)
  intro L0 h0 F0 N0
  dsimp only [List.map, List.zip, List.zipWith, List.reverse, List.reverseAux, List.length, bindMap] at F0 ⊢
  k_steps
  exact h _ _ _ (Fr.keep (by assumption))

set_option maxHeartbeats 2000000 in
theorem addl_spec {l r : Addr} {xs ys : List Value}
    (X : (Mine.hd.heap_39 w.params).In s.heap) (T : Top Mine.hd.view_39 (looseW Mine.hd.view_39 []) mean mg mb s.heap) (hd : dp + 1 < recursionLimit)
    (hl : s.heap.IsList l xs.toArray) (hr : s.heap.IsList r ys.toArray) (hs : xs.length + ys.length ≤ 1000)
    (h : ∀ x h' tk, Keep s.heap h' → s.heap.get? x = none → h'.get? x = some (PySem.W.listOf (xs ++ ys).toArray 0) → Q (.ref x) { s with heap := h', toks := tk }) :
    wpAny (model Challenge.rw_wr0014_01.row.prog w) (Ard dp un fr gd) (call (.ref 49) [.ref l, .ref r]) Q E s := by
  revert X; k_fill; intro X
  w_on
  refine wpAny_call ?_
  refine' enter_def (by assumption) (by assumption) ?k6 ?k7 ?k8 ?k9 ?kB ?_ ?c2 ?c3 ?c4 ?c5 ?c6
  (case k6 => k_is)
  (case k7 => k_is)
  (case k8 => (dsimp only [Around.deeper, Around.in1]; omega))
  (case k9 => exact rfl)
  (case kB => exact locs rfl)
  (case c2 => exact rfl)
  (case c3 => exact rfl)
  (case c4 => exact rfl)
  (case c5 => decide)
  (case c6 => exact rfl)
  intro L0 h0 F0 N0
  dsimp only [List.map, List.zip, List.zipWith, List.reverse, List.reverseAux, List.length, bindMap] at F0 ⊢
  k_steps
  exact h _ _ _ (Fr.keep (by assumption)) (News.fresh (by assumption) (List.Mem.head _)) (News.get (by assumption) (List.Mem.head _))

set_option maxHeartbeats 2000000 in
theorem mul_spec {a b : Int} {ta tb : Tok} (hm : IntMulOk a b)
    (X : (Mine.hd.heap_39 w.params).In s.heap) (T : Top Mine.hd.view_39 (looseW Mine.hd.view_39 []) mean mg mb s.heap) (hd : dp + 1 < recursionLimit)
    (h : ∀ t h' tk, Keep s.heap h' → Q (.int (a * b) t) { s with heap := h', toks := tk }) :
    wpAny (model Challenge.rw_wr0014_01.row.prog w) (Ard dp un fr gd) (call (.ref 56) [.int a ta, .int b tb]) Q E s := by
  revert X; k_fill; intro X
  w_on
  refine wpAny_call ?_
  refine' enter_def (by assumption) (by assumption) ?k6 ?k7 ?k8 ?k9 ?kB ?_ ?c2 ?c3 ?c4 ?c5 ?c6
  (case k6 => k_is)
  (case k7 => k_is)
  (case k8 => (dsimp only [Around.deeper, Around.in1]; omega))
  (case k9 => exact rfl)
  (case kB => exact locs rfl)
  (case c2 => exact rfl)
  (case c3 => exact rfl)
  (case c4 => exact rfl)
  (case c5 => decide)
  (case c6 => exact rfl)
  intro L0 h0 F0 N0
  dsimp only [List.map, List.zip, List.zipWith, List.reverse, List.reverseAux, List.length, bindMap] at F0 ⊢
  k_steps
  exact h _ _ _ (Fr.keep (by assumption))


set_option maxHeartbeats 2000000 in
theorem ipow_spec {a b : Int} {ta tb : Tok} 
    (X : (Mine.hd.heap_39 w.params).In s.heap) (T : Top Mine.hd.view_39 (looseW Mine.hd.view_39 []) mean mg mb s.heap) (hd : dp + 1 < recursionLimit)
    (h0 : 0 ≤ b) (h1 : b ≤ 20) (hq : a.natAbs ≤ 1000) 
    (h : ∀ t h' tk, Keep s.heap h' → Q (.int (a ^ b.toNat) t) { s with heap := h', toks := tk }) :
    wpAny (model Challenge.rw_wr0014_01.row.prog w) (Ard dp un fr gd) (call (.ref 63) [.int a ta, .int b tb]) Q E s := by
  revert X; k_fill; intro X
  w_on
  refine wpAny_call ?_
  refine' enter_def (by assumption) (by assumption) ?k6 ?k7 ?k8 ?k9 ?kB ?_ ?c2 ?c3 ?c4 ?c5 ?c6
  (case k6 => k_is)
  (case k7 => k_is)
  (case k8 => (dsimp only [Around.deeper, Around.in1]; omega))
  (case k9 => exact rfl)
  (case kB => exact locs rfl)
  (case c2 => exact rfl)
  (case c3 => exact rfl)
  (case c4 => exact rfl)
  (case c5 => decide)
  (case c6 => exact rfl)
  intro L0 h0 F0 N0
  dsimp only [List.map, List.zip, List.zipWith, List.reverse, List.reverseAux, List.length, bindMap] at F0 ⊢
  k_steps
  exact h _ _ _ (Fr.keep (by assumption))
end
end Mine
namespace Mine
set_option maxRecDepth 100000
open PySem PySem.W PySem.Calls PyProof.Rows PySem.Spec


noncomputable def gauss : Nat → Int → Int → Int
  | 0, b, _ => if b < 0 ∨ 0 < b then 0 else 1
  | a + 1, b, q => if b < 0 ∨ (a : Int) + 1 < b then 0 else if b = 0 ∨ b = (a : Int) + 1 then 1 else gauss a (b - 1) q + q ^ b.toNat * gauss a b q

theorem mulOk_pow {q : Int} {n : Nat} {x : Int} (hq : q.natAbs ≤ 1000) (hn : n ≤ 6) : IntMulOk (q ^ n) x := by
  have h : (q ^ n).natAbs ≤ 1000 ^ 6 := by
    rw [Int.natAbs_pow]
    exact Nat.le_trans (Nat.pow_le_pow_left hq n) (Nat.pow_le_pow_right (by decide) hn)
  exact .of_left (intBits_le_64 (by have : (1000:Nat) ^ 6 < 2 ^ 64 := by decide
                                    omega) (by have : (1000:Nat) ^ 6 < 2 ^ 64 := by decide
                                               omega))

theorem int_end {s : Shared} {Q : Value → Shared → Prop} {v v' : Int} (h : ∀ t h' tk, Keep s.heap h' → Q (.int v t) { s with heap := h', toks := tk }) (e : v' = v) {t : Tok} {h' : Heap} {tk : Nat} (k : Keep s.heap h') :
    Q (.int v' t) { s with heap := h', toks := tk } := e ▸ h t h' tk k

section
variable {w : World} {gd : Option (List Code)} {mean : ExcName → Option Value} {mg mb : Str → Option Value}

set_option maxHeartbeats 4000000 in
theorem gauss_spec (q : Int) (tq : Tok) (hq : q.natAbs ≤ 1000) : ∀ (a : Nat) (b A : Int) (ta tb : Tok) (dp un : Nat) (fr : Option (List Env)) (s : Shared) (Q E : Value → Shared → Prop), A = (a : Int) → a ≤ 6 → dp + a + 2 < recursionLimit →
    (Mine.hd.heap_39 w.params).In s.heap → Top Mine.hd.view_39 (looseW Mine.hd.view_39 []) mean mg mb s.heap →
    (∀ t h' tk, Keep s.heap h' → Q (.int (gauss a b q) t) { s with heap := h', toks := tk }) →
    wpAny (model Challenge.rw_wr0014_01.row.prog w) (Ard dp un fr gd) (call (.ref 75) [.int A ta, .int b tb, .int q tq]) Q E s := by
  intro a
  induction a with
  | zero =>
    intro b A ta tb dp un fr s Q E hA ha hd X T h
    subst hA
    revert X; k_fill; intro X
    w_on
    refine wpAny_call ?_
    refine' enter_def (by assumption) (by assumption) ?k6 ?k7 ?k8 ?k9 ?kB ?_ ?c2 ?c3 ?c4 ?c5 ?c6
    (case k6 => k_is)
    (case k7 => k_is)
    (case k8 => (dsimp only [Around.deeper, Around.in1]; omega))
    (case k9 => exact rfl)
    (case kB => exact locs rfl)
    (case c2 => exact rfl)
    (case c3 => exact rfl)
    (case c4 => exact rfl)
    (case c5 => decide)
    (case c6 => exact rfl)
    intro L0 h0 F0 N0
    dsimp only [List.map, List.zip, List.zipWith, List.reverse, List.reverseAux, List.length, bindMap] at F0 ⊢
    k_steps
    all_goals (refine int_end h ?_ (Fr.keep (by assumption)))
    all_goals (simp only [gauss]; (repeat' split) <;> first | rfl | omega)
  | succ a ih =>
    intro b A ta tb dp un fr s Q E hA ha hd X T h
    subst hA
    revert X; k_fill; intro X
    w_on
    refine wpAny_call ?_
    refine' enter_def (by assumption) (by assumption) ?k6 ?k7 ?k8 ?k9 ?kB ?_ ?c2 ?c3 ?c4 ?c5 ?c6
    (case k6 => k_is)
    (case k7 => k_is)
    (case k8 => (dsimp only [Around.deeper, Around.in1]; omega))
    (case k9 => exact rfl)
    (case kB => exact locs rfl)
    (case c2 => exact rfl)
    (case c3 => exact rfl)
    (case c4 => exact rfl)
    (case c5 => decide)
    (case c6 => exact rfl)
    intro L0 h0 F0 N0
    dsimp only [List.map, List.zip, List.zipWith, List.reverse, List.reverseAux, List.length, bindMap] at F0 ⊢
    k_steps
    rotate_right
    · refine' ih (b - 1) ((a : Int) + 1 - 1) _ _ _ _ _ _ _ _ ?zz1 ?zz2 ?zz3 ?zz4 ?zz5 ?_
      case zz1 => omega
      case zz2 => omega
      case zz3 => dsimp only [Around.deeper, Around.in1]; omega
      case zz4 => k_in
      case zz5 => exact Top.keeps T (Fr.keep (by assumption))
      intro t9 h9 tk9 hk9
      (with_reducible rename Fr _ _ _ _ => F8)
      (with_reducible rename News _ _ _ _ => N8)
      have F9 := Fr_ext F8 hk9
      have N9 := News_ext N8 hk9
      clear F8 N8
      dsimp only
      have hmul := mulOk_pow (q := q) (n := b.toNat) (x := gauss a b q) hq (by omega)
      k_steps
      refine' ih b ((a : Int) + 1 - 1) _ _ _ _ _ _ _ _ ?zz1 ?zz2 ?zz3 ?zz4 ?zz5 ?_
      case zz1 => omega
      case zz2 => omega
      case zz3 => dsimp only [Around.deeper, Around.in1]; omega
      case zz4 => k_in
      case zz5 => exact Top.keeps T (Fr.keep (by assumption))
      intro t9 h9 tk9 hk9
      (with_reducible rename Fr _ _ _ _ => F8)
      (with_reducible rename News _ _ _ _ => N8)
      have F9 := Fr_ext F8 hk9
      have N9 := News_ext N8 hk9
      clear F8 N8
      dsimp only
      k_steps
      refine int_end h ?_ (Fr.keep (by assumption))
      rw [gauss, if_neg (by omega), if_neg (by omega)]
    all_goals (refine int_end h ?_ (Fr.keep (by assumption)))
    all_goals (simp only [gauss]; (repeat' split) <;> first | rfl | omega)
end
end Mine
namespace Mine
set_option maxRecDepth 100000
open PySem PySem.W PySem.Calls PyProof.Rows PySem.Spec



theorem isNot_of {b : Bool} (h : b = false) : ¬ (!!b) = true := by rw [h]; nofun
theorem is_of {b : Bool} (h : b = true) : (!!b) = true := by rw [h]; rfl
theorem Stop.out {P : Prop} (h : P) : Stop P := h
noncomputable def Gate (_n : Nat) : Prop := True
theorem Gate.mk (n : Nat) : Gate n := trivial
theorem Stop.at {P : Prop} (n : Nat) (_g : Gate n) (h : Stop P) : P := h


noncomputable def ffind (x y : Str) (lo hi : Nat) : Int := match Builtin.Str.occurrences x y lo hi 1 with | i :: _ => (i : Int) | [] => -1
open StrLaws in
theorem ffind_spec (x y : Str) (lo hi : Nat) :
    (ffind x y lo hi = -1 ∧ ∀ i, lo ≤ i → ¬ At x y hi i) ∨ ∃ i : Nat, ffind x y lo hi = i ∧ lo ≤ i ∧ At x y hi i ∧ ∀ k, lo ≤ k → k < i → ¬ At x y hi k := by
  unfold ffind
  rw [occ_eq]
  rcases occ_first x y hi 1 (Nat.le_refl _) (List.range' lo (hi + 1 - lo)) lo (fun i hi => by have := List.mem_range'_1.mp hi; omega) with ⟨h0, hn⟩ | ⟨pre, a, post, e, h0, ha, hn⟩
  · refine .inl ⟨by rw [h0], fun i hlo hi => ?_⟩
    exact hn i (by have := hi.1; rw [List.mem_range'_1]; omega) hi
  · have hs := range'_split_from e
    refine .inr ⟨a, ?_, hs.1, ha, fun k hk0 hk => hn k (hs.2 k hk0 hk)⟩
    generalize (forIn (List.range' lo (hi + 1 - lo)) ((#[] : Array Nat), lo) (occBody x y hi 1)).run.fst = arr at h0
    have h1 : arr.toList[0]? = some a := by simpa using h0
    cases hL : arr.toList with
    | nil => rw [hL] at h1; cases h1
    | cons b t => rw [hL] at h1; simp at h1; rw [h1]
theorem ffind_bound (x y : Str) (lo hi : Nat) : ffind x y lo hi = -1 ∨ ((lo : Int) ≤ ffind x y lo hi ∧ ffind x y lo hi + y.length ≤ hi) := by
  rcases ffind_spec x y lo hi with ⟨h, _⟩ | ⟨i, h, h1, h2, _⟩
  · exact .inl h
  · exact .inr ⟨by omega, by have := h2.1; omega⟩
theorem ffind_empty (x y : Str) (lo hi : Nat) (hy : y.length = 0) (h : lo ≤ hi) : ffind x y lo hi = lo := by
  have hat : ∀ k, k ≤ hi → StrLaws.At x y hi k := fun k hk => ⟨by omega, by
    rw [StrLaws.subAt_eq, hy]
    have : y.cps.toList = [] := List.length_eq_zero_iff.mp (by simpa [Str.length] using hy)
    rw [this]; rfl⟩
  rcases ffind_spec x y lo hi with ⟨_, h2⟩ | ⟨i, h1, h2, _, h4⟩
  · exact absurd (hat lo h) (h2 lo (Nat.le_refl _))
  · rw [h1]
    by_cases hc : lo = i
    · rw [hc]
    · exact absurd (hat lo h) (h4 lo (Nat.le_refl _) (by omega))
theorem gives_find4 (x y : Str) (i j : Int) (t u v z : Tok) : Gives (Builtin.«str.find» ⟨[.str x t, .str y u, .int i v, .int j z], []⟩) (.int (ffind x y (fromIndex x.length i) (min (fromIndex x.length j) x.length))) := by
  show Gives (match Builtin.Str.occurrences x y (fromIndex x.length i) (min (fromIndex x.length j) x.length) 1 with | k :: _ => retInt k | [] => (do rule "str.find.not-found"; retInt (-1))) _
  unfold ffind
  cases Builtin.Str.occurrences x y (fromIndex x.length i) (min (fromIndex x.length j) x.length) 1 with
  | nil => exact .rule (.of_eq rfl)
  | cons k _ => exact .of_eq rfl
theorem from_nonneg {n : Nat} {i : Int} (h : 0 ≤ i) : fromIndex n i = i.toNat := by
  unfold fromIndex; split <;> omega
theorem find4 {prog : Program} {w : World} {A : Around} {E : Value → Shared → Prop} {s : Shared} {x y : Str} {t u v z : Tok} {i j : Int} {Q : Value → Shared → Prop} (h0 : 0 ≤ i) (h1 : 0 ≤ j) (h2 : j ≤ x.length)
    (hq : ∀ t k, (ffind x y i.toNat j.toNat = -1 ∨ (i ≤ ffind x y i.toNat j.toNat ∧ ffind x y i.toNat j.toNat + y.length ≤ j)) → Q (.int (ffind x y i.toNat j.toNat) t) { s with toks := k }) :
    wpAny (model prog w) A (call (.builtin "str.find") [.str x t, .str y u, .int i v, .int j z]) Q E s :=
  call_gives F.slot_str_find (typeIs_str _ _ _) F.entry_str_find (F.args_str_find_4 _ _ _ _) (gives_find4 x y i j t u v z) (by
    rw [from_nonneg h0, from_nonneg h1, Nat.min_eq_left (by omega)]
    refine hq _ _ ((ffind_bound x y i.toNat j.toNat).imp id fun h => ⟨by omega, by omega⟩))
theorem find4e {prog : Program} {w : World} {A : Around} {E : Value → Shared → Prop} {s : Shared} {x y : Str} {t u v z : Tok} {i j : Int} {Q : Value → Shared → Prop} (hy : y.length = 0) (h0 : 0 ≤ i) (h1 : i ≤ j) (h2 : j ≤ x.length)
    (hq : ∀ t k, Q (.int i t) { s with toks := k }) :
    wpAny (model prog w) A (call (.builtin "str.find") [.str x t, .str y u, .int i v, .int j z]) Q E s :=
  find4 h0 (by omega) h2 fun t k _ => by
    have e : ffind x y i.toNat j.toNat = i := by rw [ffind_empty x y i.toNat j.toNat hy (by omega)]; omega
    rw [e]; exact hq t k
theorem bool_end {s : Shared} {Q : Value → Shared → Prop} {v v' : Bool} (h : ∀ h' tk, Keep s.heap h' → Q (.bool v) { s with heap := h', toks := tk }) (e : v' = v) {h' : Heap} {tk : Nat} (k : Keep s.heap h') :
    Q (.bool v') { s with heap := h', toks := tk } := e ▸ h h' tk k

section
variable {w : World} {dp un : Nat} {fr : Option (List Env)} {gd : Option (List Code)} {s : Shared} {mean : ExcName → Option Value} {mg mb : Str → Option Value}
    {Q E : Value → Shared → Prop}
set_option maxHeartbeats 4000000 in
theorem ell_no {want got : Str} {ta tb : Tok}
    (X : (Mine.hd.heap_39 w.params).In s.heap) (T : Top Mine.hd.view_39 (looseW Mine.hd.view_39 []) mean mg mb s.heap) (hd : dp + 1 < recursionLimit)
    (hno : (Builtin.Str.occurrences want (Str.ofString "...") 0 want.length 1).isEmpty = true)
    (h : ∀ h' tk, Keep s.heap h' → Q (.bool (want == got)) { s with heap := h', toks := tk }) :
    wpAny (model Challenge.rw_wr0014_01.row.prog w) (Ard dp un fr gd) (call (.ref 21) [.str want ta, .str got tb]) Q E s := by
  revert X; k_fill; intro X
  w_on
  refine wpAny_call ?_
  refine' enter_def (by assumption) (by assumption) ?k6 ?k7 ?k8 ?k9 ?kB ?_ ?c2 ?c3 ?c4 ?c5 ?c6
  (case k6 => k_is)
  (case k7 => k_is)
  (case k8 => (dsimp only [Around.deeper, Around.in1]; omega))
  (case k9 => exact rfl)
  (case kB => exact locs rfl)
  (case c2 => exact rfl)
  (case c3 => exact rfl)
  (case c4 => exact rfl)
  (case c5 => decide)
  (case c6 => exact rfl)
  intro L0 h0 F0 N0
  dsimp only [List.map, List.zip, List.zipWith, List.reverse, List.reverseAux, List.length, bindMap] at F0 ⊢
  iterate 8 walk1
  rw [if_pos (is_of hno)]
  k_steps
  exact h _ _ (Fr.keep (by assumption))


end
end Mine
namespace Mine
set_option maxRecDepth 100000
open PySem PySem.W PySem.Calls PyProof.Rows PySem.Spec

theorem enter_defC {w : World} {A : Around} {s : Shared} {K : Frag} {mean : ExcName → Option Value} {mg mb : Str → Option Value} {p : Program} {loose : List Str} {R : Result → Shared → Prop}
    {name qual : Str} {params : Arguments} {body : List Stmt} {scope : Scope} {dV kV doc pm cdv ct oc : Value} {an od : Option Addr} {osl : Array (Option Value)} {f : Addr} {args : Args} {binds : List (Str × Value)}
    (X : K.In s.heap) (T : Top p loose mean mg mb s.heap)
    (ho : K.lookup f = some ⟨oc, od, .func (fnOf name qual params body scope dV kV doc pm an cdv ct), osl⟩) (hcd : codeIn K cdv qual = true) (hroom : A.depth < recursionLimit)
    (hbind : bindArgs (fnOf name qual params body scope dV kV doc pm an cdv ct) args = pure binds) (hkind : (binds.all fun y => scope.names.lookup y.1 == some .local || scope.names.lookup y.1 == some .cell) = true)
    (hnd : ((cellsFrom 0 scope.names []).map (·.1)).Nodup)
    (h : ∀ L' h₁ tk cells, Fr s.heap L' h₁ (bindL (envOfC qual scope L' f cdv).kindOf binds fun _ => none) → News s.heap L' h₁ cells →
      CellsAre (bindC (envOfC qual scope L' f cdv).kindOf binds fun _ => none) (cellsFrom (L' + 1) scope.names []) cells →
      wpAny (model Challenge.rw_wr0014_01.row.prog w) (A.deeper (envOfC qual scope L' f cdv)) (execs body (envOfC qual scope L' f cdv))
        (fun fl s' => R (.ok (.ret (match fl with | .ret v => v | _ => .none))) s') (fun _ _ => False)
        { s with heap := h₁, toks := tk })
    (hco : scope.isCoroutine = false) (hgen : scope.isGenerator = false) (hk : scope.kind = .function) : codeAny (model Challenge.rw_wr0014_01.row.prog w) A (.call (.ref f) args) R s := by
  refine codeAny_call_function hroom (X _ _ ho) rfl hco hgen rfl (codeRec_of X hcd) ((BindsTo.of_eq hbind) _ _ _ _ ?_)
  refine wpAny_newFunctionEnv_cells hk (kindsX hkind _) fun env' he s' x => ?_
  subst he
  refine ⟨T.nolimit.keeps x.toInCall.keep, codeAny_func ?_⟩
  obtain ⟨h₁, tk, rfl, _⟩ := x.done
  have hk₁ := x.toInCall.keep
  obtain ⟨cells, NC, Y⟩ := Cl.news (h₀ := s.heap) (Nat.le_refl _) fun n c hm => ⟨x.cell n c (lookup_of_mem_nodup (cellsFrom_names scope.names 0 (s.heap.objs.size + 1) [] [] rfl ▸ hnd) hm), x.above n c hm⟩
  exact wpAny_mono (h s.heap.objs.size h₁ tk cells ⟨x.toInCall.ns, hk₁, Nat.le_refl _⟩ NC Y) (fun _ _ q => q) fun _ _ y => y.elim


local macro_rules | `(tactic| walk_at "isTrue Compare") => `(tactic| ((with_reducible rename (@Ne Nat _ _ ∧ _) => q8); have q9 := PLift.up q8; clear q8))
local macro_rules | `(tactic| walk_at "isTrue Compare") => `(tactic| ((with_reducible rename ((@Ne Nat _ _ ∧ _) ∧ _) => q8); have q9 := PLift.up q8; clear q8))
local macro_rules | `(tactic| walk_at "CompEnd") => `(tactic| ((with_reducible rename (PLift (_ ∧ _)) => q8); have q9 := q8.down; clear q8))
local macro_rules | `(tactic| walk_at "call ref") => `(tactic| (
  refine' strcoll_spec ?mX ?mT ?md ?_
  (case mX => k_in)
  (case mT => exact Top.keeps (by assumption) (Fr.keep (by assumption)))
  (case md => (dsimp only [Around.deeper, Around.in1]; omega))
  intro t9 h9 tk9 hk9
  (with_reducible rename Fr _ _ _ _ => F8)
  (with_reducible rename News _ _ _ _ => N8)
  have F9 := Fr_ext F8 hk9
  have N9 := News_ext N8 hk9
  (try clear F8)
  (try clear N8)
  dsimp only))

section
variable {w : World} {dp un : Nat} {fr : Option (List Env)} {gd : Option (List Code)} {s : Shared} {mean : ExcName → Option Value} {mg mb : Str → Option Value}
    {Q E : Value → Shared → Prop}

noncomputable def fallsOf (ws : List Str) : List Int :=
  List.foldl (fun l' k' => if strcollI (ws.getD (k' - 1).toNat Str.empty) (ws.getD k'.toNat Str.empty) = 1 then l' ++ [k'] else l') [] (rangeKs 1 ((ws.length : Int) - 1).toNat)

set_option maxHeartbeats 2000000 in
theorem falls_spec {l : Addr} {vs : List Value} {ws : List Str}
    (X : (Mine.hd.heap_39 w.params).In s.heap) (T : Top Mine.hd.view_39 (looseW Mine.hd.view_39 []) mean mg mb s.heap) (hd : dp + 3 < recursionLimit)
    (hl : s.heap.IsList l vs.toArray) (hs : StrsAre vs ws) (hn : ws.length ≤ 5)
    (h : ∀ x h' tk ys, Keep s.heap h' → s.heap.get? x = none → h'.get? x = some (LCg.lst ys) → IntsAre ys (fallsOf ws) → ys.length ≤ 4 → Q (.ref x) { s with heap := h', toks := tk }) :
    wpAny (model Challenge.rw_wr0014_01.row.prog w) (Ard dp un fr gd) (call (.ref 68) [.ref l]) Q E s := by
  revert X; k_fill; intro X
  w_on
  refine wpAny_call ?_
  refine' enter_defC (by assumption) (by assumption) ?k6 ?k7 ?k8 ?k9 ?kB ?kD ?_ ?c2 ?c3 ?c4
  (case k6 => k_is)
  (case k7 => k_is)
  (case k8 => (dsimp only [Around.deeper, Around.in1]; omega))
  (case k9 => exact rfl)
  (case kB => exact rfl)
  (case kD => decide +kernel)
  (case c2 => exact rfl)
  (case c3 => exact rfl)
  (case c4 => exact rfl)
  intro L0 h0 tk0 cells0 F0 N0 Y0
  k_cells Y0
  (try dsimp only)
  k_steps
  exact h _ _ _ _ (Fr.keep (by assumption)) (News.fresh (by assumption) (.head _)) (News.get (by assumption) (.head _)) (by assumption) (by omega)
end
end Mine
namespace Mine
set_option maxRecDepth 100000
open PySem PySem.W PySem.Calls PyProof.Rows PySem.Spec
open Sem (wp)

section
variable {M : Model} {A : Around} {R : GenEnd} {Y : Protocol} {n : Nat} {s₀ : Shared} {c : Code} {fs : List Frame} {s : Shared} {env : Env}
  {K : Flow → Sem Fin} {H : Value → Sem Fin} {gd : Bool → Bool} {lv : List Value → List Value}

/-- a piece that does not yield -/
theorem seg_piece {α : Type} {m : Sem α} {K : α → Sem Fin}
    (h : wpAny M (A.over c fs) m (fun a s' => Seg M A R Y n s₀ c (K a) fs s') (fun _ _ => False) s) : Seg M A R Y n s₀ c (m.wrap K H gd lv) fs s :=
  seg_wrap (wpAny_mono h (fun _ _ x => x) fun _ _ x => x.elim)

theorem seg_If {test : Expr} {body orelse : List Stmt} {pos : Pos}
    (h : wpAny M (A.over c fs) (isTrue test env (eval test env)) (fun b s' => Seg M A R Y n s₀ c ((execs (if b = true then body else orelse) env).wrap K H gd lv) fs s') (fun _ _ => False) s) :
    Seg M A R Y n s₀ c ((exec (.If test body orelse pos) env).wrap K H gd lv) fs s := by
  have e : exec (.If test body orelse pos) env = (standAt pos >>= fun _ => (isTrue test env (eval test env) >>= fun b => if b = true then execs body env else execs orelse env)) := by
    rw [exec_If]
  rw [e, Sem.bind_eq_wrap', Sem.wrap_wrap]
  refine seg_piece (wpAny_standAt ?_)
  rw [Sem.bind_eq_wrap', Sem.wrap_wrap]
  refine seg_piece (wpAny_mono h (fun b s' hb => ?_) fun _ _ x => x)
  cases b with
  | true => exact hb
  | false => exact hb

noncomputable def forK (env : Env) (K : Flow → Sem Fin) (H : Value → Sem Fin) (gd : Bool → Bool) (lv : List Value → List Value) : Result → Sem Fin := fun r =>
  ((match r with | .ok f => (.pure f : Sem Flow) | .error e => .raise e).onRaise fun (x : Value) => do
        if (← field x 1) == Value.none then unsupported "frame.own-activation:exception-without-traceback"
        setFlight x env.frame).wrap K H gd lv

theorem seg_For {target iter : Expr} {body orelse : List Stmt} {pos : Pos}
    (h : wpAny M (A.over c fs) (eval iter env) (fun x s₁ => wpAny M (A.over c fs) (pyIter x) (fun it s₂ =>
      ∀ p, Seg M A R Y n s₀ (.forLoop target it body orelse env) (M.den (.forLoop target it body orelse env)) (.ret (forK env K H gd lv) none (gd false) (lv []) c p [] :: fs) s₂) (fun _ _ => False) s₁) (fun _ _ => False) s)
    (hs : ∀ x, foldedSetIterable iter env x = pure x := by intro _; rfl) :
    Seg M A R Y n s₀ c ((exec (.For target iter body orelse pos) env).wrap K H gd lv) fs s := by
  rw [exec_For, Sem.bind_eq_wrap', Sem.wrap_wrap]
  refine seg_piece (wpAny_standAt ?_)
  rw [Sem.bind_eq_wrap', Sem.wrap_wrap]
  refine seg_piece (wpAny_mono h (fun x s₁ h₁ => ?_) fun _ _ x => x)
  rw [hs x, Sem.bind_eq_wrap', Sem.wrap_wrap]
  refine seg_piece (wpAny_pure ?_)
  rw [Sem.bind_eq_wrap', Sem.wrap_wrap]
  refine seg_piece (wpAny_standAt ?_)
  rw [Sem.bind_eq_wrap', Sem.wrap_wrap]
  refine seg_piece (wpAny_holding (wpAny_mono h₁ (fun it s₂ h₂ => ?_) fun _ _ x => x))
  exact seg_call h₂
end

section
variable {prog : Program} {w : World} {A : Around} {R : GenEnd} {Y : Protocol} {n : Nat} {s₀ : Shared} {fs : List Frame} {s : Shared} {env : Env}

abbrev turnK (target : Expr) (it : Value) (body : List Stmt) (env : Env) : Flow → Sem Fin := fun f => match f with
  | .next | .cont => .pure (.again (.forLoop target it body [] env))
  | .brk => .pure (.done .next)
  | .ret v => .pure (.done (.ret v))
abbrev turnH (env : Env) : Value → Sem Fin := fun e => (do noteFrame e env; theTreesLotGoes e : Sem Unit).bind fun _ => .raise e

theorem seg_forLoop {target : Expr} {it : Value} {body : List Stmt} 
    (h : wpAny (model prog w) (A.over (.forLoop target it body [] env) fs) (pyNext it) (fun r s₁ => match r with
      | none => Seg (model prog w) A R Y n s₀ (.block [] env) ((model prog w).den (.block [] env)) fs s₁
      | some v => wpAny (model prog w) (A.over (.forLoop target it body [] env) fs) (letOwnedTupleGo target it v) (fun _ s₂ => wpAny (model prog w) (A.over (.forLoop target it body [] env) fs) (assign target env v) (fun _ s₃ =>
          Seg (model prog w) A R Y n s₀ (.forLoop target it body [] env) ((execs body env).wrap (turnK target it body env) (turnH env) id id) fs s₃) (fun _ _ => False) s₂) (fun _ _ => False) s₁) (fun _ _ => False) s) :
    Seg (model prog w) A R Y n s₀ (.forLoop target it body [] env) ((model prog w).den (.forLoop target it body [] env)) fs s := by
  show Seg _ A R Y n s₀ _ ((forTurn target it body [] env).onRaise (fun x => do noteFrame x env; theTreesLotGoes x)) fs s
  unfold forTurn
  rw [Sem.onRaise_eq_wrap, Sem.bind_eq_wrap', Sem.wrap_wrap]
  refine seg_piece (wpAny_standAt ?_)
  rw [Sem.bind_eq_wrap', Sem.wrap_wrap]
  refine seg_piece (wpAny_onRaise (wpAny_mono h (fun r s₁ h₁ => ?_) fun _ _ x => x.elim))
  cases r with
  | none => exact seg_again rfl h₁
  | some v =>
    show Seg _ A R Y n s₀ _ (Sem.wrap _ _ _ _ (letOwnedTupleGo target it v >>= _)) fs s₁
    rw [Sem.bind_eq_wrap', Sem.wrap_wrap]
    refine seg_piece (wpAny_mono h₁ (fun _ s₂ h₂ => ?_) fun _ _ x => x)
    rw [Sem.bind_eq_wrap', Sem.wrap_wrap]
    refine seg_piece (wpAny_mono h₂ (fun _ s₃ h₃ => ?_) fun _ _ x => x)
    rw [Sem.bind_eq_wrap', Sem.wrap_wrap]
    refine Eq.mp (congrArg (fun t => Seg (model prog w) A R Y n s₀ (.forLoop target it body [] env) t fs s₃) (Sem.wrap_congr (execs body env) (K := turnK target it body env) (H := turnH env) id id (fun f => ?_) (fun e => rfl))) h₃
    cases f <;> rfl

theorem seg_block_nil (h : Seg (model prog w) A R Y n s₀ (.block [] env) (leafOf (.ok .next)) fs s) : Seg (model prog w) A R Y n s₀ (.block [] env) ((model prog w).den (.block [] env)) fs s := h

theorem forK_next {K : Flow → Sem Fin} {H : Value → Sem Fin} {gd : Bool → Bool} {lv : List Value → List Value} : forK env K H gd lv (.ok .next) = K .next := rfl
end
end Mine
namespace Mine
set_option maxRecDepth 100000
open PySem PySem.W PySem.Calls PyProof.Rows PySem.Spec
theorem map_known4 {m : Str → Option Value} {a b c d : Str} {u v w x : Value} (ha : m a = some u) (hb : m b = some v) (hc : m c = some w) (hd : m d = some x) :
    m = fun y => if y = a then some u else if y = b then some v else if y = c then some w else if y = d then some x else m y := by
  funext y
  by_cases h1 : y = a
  · rw [if_pos h1, h1, ha]
  · rw [if_neg h1]
    by_cases h2 : y = b
    · rw [if_pos h2, h2, hb]
    · rw [if_neg h2]
      by_cases h3 : y = c
      · rw [if_pos h3, h3, hc]
      · rw [if_neg h3]
        by_cases h4 : y = d
        · rw [if_pos h4, h4, hd]
        · rw [if_neg h4]
theorem map_known5 {m : Str → Option Value} {a b c d e : Str} {u v w x z : Value} (ha : m a = some u) (hb : m b = some v) (hc : m c = some w) (hd : m d = some x) (he : m e = some z) :
    m = fun y => if y = a then some u else if y = b then some v else if y = c then some w else if y = d then some x else if y = e then some z else m y := by
  funext y
  by_cases h1 : y = a
  · rw [if_pos h1, h1, ha]
  · rw [if_neg h1]
    by_cases h2 : y = b
    · rw [if_pos h2, h2, hb]
    · rw [if_neg h2]
      by_cases h3 : y = c
      · rw [if_pos h3, h3, hc]
      · rw [if_neg h3]
        by_cases h4 : y = d
        · rw [if_pos h4, h4, hd]
        · rw [if_neg h4]
          by_cases h5 : y = e
          · rw [if_pos h5, h5, he]
          · rw [if_neg h5]
theorem nat_lt4 : ∀ k : Nat, k < 4 → k = 0 ∨ k = 1 ∨ k = 2 ∨ k = 3
  | 0, _ => .inl rfl
  | 1, _ => .inr (.inl rfl)
  | 2, _ => .inr (.inr (.inl rfl))
  | 3, _ => .inr (.inr (.inr rfl))
  | n + 4, h => absurd h (Nat.not_lt.mpr (Nat.le_add_left 4 n))
theorem nat_lt5 : ∀ k : Nat, k < 5 → k = 0 ∨ k = 1 ∨ k = 2 ∨ k = 3 ∨ k = 4
  | 0, _ => .inl rfl
  | 1, _ => .inr (.inl rfl)
  | 2, _ => .inr (.inr (.inl rfl))
  | 3, _ => .inr (.inr (.inr (.inl rfl)))
  | 4, _ => .inr (.inr (.inr (.inr rfl)))
  | n + 5, h => absurd h (Nat.not_lt.mpr (Nat.le_add_left 5 n))
noncomputable def stmtAt : List Stmt → Nat → Stmt
  | [], _ => .Pass ⟨0, 0, 0, 0⟩
  | s :: _, 0 => s
  | _ :: r, n + 1 => stmtAt r n
theorem drop_at : ∀ (l : List Stmt) (i : Nat), i < l.length → l.drop i = stmtAt l i :: l.drop (i + 1)
  | [], _, h => absurd h (Nat.not_lt_zero _)
  | _ :: _, 0, _ => rfl
  | _ :: r, i + 1, h => drop_at r i (Nat.lt_of_succ_lt_succ h)
theorem execs_at {M : Model} {A : Around} {E : Value → Shared → Prop} {s : Shared} {l : List Stmt} {env : Env} {Q : Flow → Shared → Prop} (i : Nat) (hi : i < l.length)
    (h : wpAny M A (exec (stmtAt l i) env) (fun f s' => match f with | .next => wpAny M A (execs (l.drop (i + 1)) env) Q E s' | f => Q f s') E s) : wpAny M A (execs (l.drop i) env) Q E s := by
  rw [drop_at l i hi]
  exact wpAny_execs_cons h
noncomputable def forBody : Stmt → List Stmt
  | .For _ _ b _ _ => b
  | _ => []
noncomputable def forTarget : Stmt → Expr
  | .For t _ _ _ _ => t
  | _ => default
noncomputable def genBody (p : Params) : List Stmt := match (Mine.hd.heap_39 p).lookup 28 with | some ⟨_, _, .func d, _⟩ => (match d.body with | .stmts b => b | _ => []) | _ => []
end Mine
namespace Mine
set_option maxRecDepth 100000
open PySem PySem.W PySem.Calls PyProof.Rows PySem.Spec

theorem sub_step {n N : Nat} (h : n + 1 ≤ N) : N - n = N - (n + 1) + 1 := by omega
noncomputable def bs : Str := Str.ofString "\\"
/-- what the escaping generator yields from place i on -/
noncomputable def escItems : Nat → Bool → List Nat → List (Int × Str)
  | _, _, [] => []
  | i, true, c :: r => ((i : Int), bs ++ ⟨#[c]⟩) :: escItems (i + 1) false r
  | i, false, c :: r => if c = 92 then escItems (i + 1) true r else ((i : Int), ⟨#[c]⟩) :: escItems (i + 1) false r
noncomputable def escEnd : Bool → List Nat → Bool
  | esc, [] => esc
  | true, _ :: r => escEnd false r
  | false, c :: r => if c = 92 then escEnd true r else escEnd false r

noncomputable def Kp (S : List Addr) (h h' : Heap) : Prop := ∀ b o, b ∉ S → h.get? b = some o → h'.get? b = some o
theorem Kp.trans {S : List Addr} {h h' h'' : Heap} (a : Kp S h h') (b : Kp S h' h'') : Kp S h h'' := fun x o n e => b x o n (a x o n e)
theorem Kp.of_keep {S : List Addr} {h h' : Heap} (k : Keep h h') : Kp S h h' := fun b o _ e => k b o e
noncomputable def Rel (S : List Addr) (s₀ s : Shared) : Prop := (∃ h tk, s = { s₀ with heap := h, toks := tk }) ∧ Kp S s₀.heap s.heap
theorem Rel.next {S : List Addr} {s₀ s : Shared} {h : Heap} {tk : Nat} (r : Rel S s₀ s) (k : Kp S s.heap h) : Rel S s₀ { s with heap := h, toks := tk } := by
  obtain ⟨⟨h1, t1, rfl⟩, k1⟩ := r
  exact ⟨⟨h, tk, rfl⟩, k1.trans k⟩

abbrev genR (S : List Addr) : GenEnd := fun n s₀ r s₁ => r = .ok (.ret .none) ∧ (n = 0 ∧ Rel S s₀ s₁)
noncomputable def genY (hc : Heap) (S : List Addr) (items : List (Int × Str)) : Protocol := fun m s₀ v s₁ kap =>
  m < items.length ∧ Rel S s₀ s₁ ∧ (∃ T tk t2 p ch k, v = .ref T ∧ s₁.heap.get? T = some { cls := .type "tuple", data := .seq #[.int p tk, .str ch t2] k } ∧ s₀.heap.get? T = none ∧ T ∉ S ∧ items[items.length - (m + 1)]? = some (p, ch)) ∧
  ∀ s'' : Shared, (∀ b ∈ S, ∀ o, s₁.heap.get? b = some o → s''.heap.get? b = some o) → Keep hc s''.heap → kap (.send .none) s''

section
variable {w : World} {dp un : Nat} {fr : Option (List Env)} {gd : Option (List Code)} {mean : ExcName → Option Value} {mg mb : Str → Option Value}

structure GSt (hc : Heap) (L e it : Addr) (St : Nat → Heap → Prop) (i : Nat) (esc : Bool) (h : Heap) : Prop where
  m : ∃ m, Fr hc L h m ∧ m (Str.ofString "escape") = some (.bool esc)
  st : St i h

structure GFix (w : World) (x : Str) (hc : Heap) (L e it : Addr) (St : Nat → Heap → Prop) (Mid : Nat → Addr → Heap → Prop) : Prop where
  W : ∀ A : Around, A.handled = none → WalksT Challenge.rw_wr0014_01.row.prog w A e [e, it] [e, it] x.cps.size (fun i vals => ∃ t v, (∃ c u, x.cps[i]? = some c ∧ v = .str ⟨#[c]⟩ u) ∧ vals = #[.int i t, v]) St Mid
  eL : e ≠ L
  iL : it ≠ L
  eN : hc.get? e = none
  iN : hc.get? it = none
  live : ∀ i h, St i h → (∃ o, h.get? e = some o) ∧ ∃ o, h.get? it = some o

/-- the others, as a ledger -/
theorem others {hc h : Heap} {L : Addr} {m : Str → Option Value} (F : Fr hc L h m) : ∃ own, News hc L h own ∧ (∀ b o, b ≠ L → h.get? b = some o → hc.get? b = none → (b, o) ∈ own) := by
  refine ⟨ownOf hc ((List.range h.objs.size).filter (fun b => decide (b ≠ L))) h, news_ownOf (by simp), fun b o hb ho hn => mem_ownOf ?_ hn ho⟩
  rw [List.mem_filter]
  exact ⟨List.mem_range.mpr (Heap.lt_size ho), by simpa using hb⟩
theorem keeps_others {hc h h' : Heap} {L : Addr} {m' : Str → Option Value} {own own' : List (Addr × Obj)} (ho : ∀ b o, b ≠ L → h.get? b = some o → hc.get? b = none → (b, o) ∈ own) (F : Fr hc L h' m') (N : News hc L h' own') (hs : ∀ p ∈ own, p ∈ own') :
    ∀ b o, b ≠ L → h.get? b = some o → (hc.get? b = none ∨ hc.get? b = some o) → h'.get? b = some o := by
  intro b o hb e hc'
  rcases hc' with hn | hn
  · exact (N _ (hs _ (ho b o hb e hn))).1
  · exact F.keep _ _ hn

theorem one_beq (c d : Nat) (x : Str) (hx : x = ⟨#[d]⟩) : (((⟨#[c]⟩ : Str) == x) = true) ↔ c = d := by
  subst hx
  constructor
  · intro h
    have := beq_iff_eq.mp h
    simpa using this
  · rintro rfl; exact beq_self_eq_true _
theorem bs_eq : Str.ofString "\\" = ⟨#[92]⟩ := by decide +kernel
theorem Fr_but {hc h h' : Heap} {L : Addr} {m : Str → Option Value} {S : List Addr} (F : Fr hc L h m) (hL : L ∉ S) (hS : ∀ b ∈ S, hc.get? b = none) (k : ∀ b o, b ∉ S → h.get? b = some o → h'.get? b = some o) : Fr hc L h' m :=
  ⟨F.ns.at' fun o e => k _ o hL e, fun b o e => k b o (fun hb => by rw [hS b hb] at e; cases e) (F.keep b o e), F.above⟩
theorem map_known {m : Str → Option Value} {x : Str} {v : Value} (h : m x = some v) : m = fun y => if y = x then some v else m y := by
  funext y
  by_cases e : y = x
  · rw [if_pos e, e, h]
  · rw [if_neg e]

local macro_rules | `(tactic| walk_at "eval Name") => `(tactic| (refine' ld ?fa ?fb ?_ ?fc ?fd; (case fa => assumption); (case fb => rfl); (case fc => assumption); (case fd => assumption)))
local macro_rules | `(tactic| walk_at "storeName") => `(tactic| (refine' stN ?fa ?fb ?_ ?fc ?fd; (case fa => assumption); (case fb => assumption); (case fc => assumption); (case fd => assumption); intro h9 F9 N9))

set_option maxHeartbeats 4000000 in
theorem gen_loop {x : Str} {hc : Heap} {L e it : Addr} {St : Nat → Heap → Prop} {Mid : Nat → Addr → Heap → Prop} (G : GFix w x hc L e it St Mid) (X : (Mine.hd.heap_39 w.params).In hc) (T : Top Mine.hd.view_39 (looseW Mine.hd.view_39 []) mean mg mb hc)
    {items : List (Int × Str)} {q : Str} {sc : Scope} {a : Addr} {cd : Value} {fb : List Stmt} {Kr : Flow → Sem Fin} {Hr : Value → Sem Fin} {lv : List Value → List Value}
    (hk : sc.kind = .function) (hco : sc.isCoroutine = false) (l1 : (envOf q sc L a cd).kindOf (Str.ofString "pos") = some .local) (l2 : (envOf q sc L a cd).kindOf (Str.ofString "ch") = some .local) (l3 : (envOf q sc L a cd).kindOf (Str.ofString "escape") = some .local)
    (target : Expr) (ht : target = forTarget (stmtAt (genBody w.params) 2)) (body : List Stmt) (hb : body = forBody (stmtAt (genBody w.params) 2))
    (hend : ∀ s₀ s', (∃ m, Fr hc L s'.heap m ∧ m (Str.ofString "escape") = some (.bool false)) → Rel [L, e, it] s₀ s' →
      Seg (model Challenge.rw_wr0014_01.row.prog w) (Ard dp un fr gd) (genR [L, e, it]) (genY hc [L, e, it] items) 0 s₀ (.func fb (envOf q sc L a cd)) (Kr .next) [] s') :
    ∀ (k i : Nat) (esc : Bool) (n : Nat) (s₀ s : Shared) (p : Pos), i + k = x.cps.size → n = (escItems i esc (x.cps.toList.drop i)).length → n ≤ items.length → items.drop (items.length - n) = escItems i esc (x.cps.toList.drop i) →
      escEnd esc (x.cps.toList.drop i) = false → GSt hc L e it St i esc s.heap → Rel [L, e, it] s₀ s →
      Seg (model Challenge.rw_wr0014_01.row.prog w) (Ard dp un fr gd) (genR [L, e, it]) (genY hc [L, e, it] items) n s₀ (.forLoop target (.ref e) body [] (envOf q sc L a cd))
        ((model Challenge.rw_wr0014_01.row.prog w).den (.forLoop target (.ref e) body [] (envOf q sc L a cd))) [.ret (forK (envOf q sc L a cd) Kr Hr id lv) none false (lv []) (.func fb (envOf q sc L a cd)) p []] s := by
  conv at ht => rhs; whnf
  conv at hb => rhs; whnf
  subst ht
  intro k
  induction k with
  | zero =>
    intro i esc n s₀ s p hi hn hn2 hdrop hesc hst hrel
    have hd0 : x.cps.toList.drop i = [] := List.drop_eq_nil_of_le (by simp; omega)
    rw [hd0] at hn hesc
    simp only [escItems, List.length_nil] at hn
    simp only [escEnd] at hesc
    subst hn hesc
    obtain rfl : i = x.cps.size := by omega
    refine seg_forLoop ((G.W _ rfl).done _ _ _ hst.st fun h' tk hk' => ?_)
    refine seg_block_nil (seg_leaf (.ok .next) ?_)
    rw [forK_next]
    obtain ⟨m, F, hm⟩ := hst.m
    have hLS : L ∉ [e, it] := by simp [Ne.symm G.eL, Ne.symm G.iL]
    have hSn : ∀ b ∈ [e, it], hc.get? b = none := by simp [G.eN, G.iN]
    exact hend _ _ ⟨m, Fr_but F hLS hSn hk', hm⟩ (hrel.next fun b o hb e' => hk' b o (fun hb' => hb (List.mem_cons_of_mem _ hb')) e')
  | succ k ih =>
    intro i esc n s₀ s p hi hn hn2 hdrop hesc hst hrel
    have hlt : i < x.cps.size := by omega
    have hLS : L ∉ [e, it] := by simp [Ne.symm G.eL, Ne.symm G.iL]
    have hSn : ∀ b ∈ [e, it], hc.get? b = none := by simp [G.eN, G.iN]
    refine seg_forLoop ((G.W _ rfl).item i _ _ _ hlt hst.st fun T vals h' tk hP hT hTup hMid hk' => ?_)
    obtain ⟨t, v, ⟨c, u, hcu, rfl⟩, rfl⟩ := hP
    dsimp only
    obtain ⟨m, F, hm⟩ := hst.m
    have F1 := Fr_but F hLS hSn hk'
    have hTe := (G.W (Ard dp un fr gd) rfl).apart _ _ _ hMid
    refine (G.W _ rfl).go _ _ _ i T _ _ _ hMid fun h2 hst2 hk2 => ?_
    have F2 := Fr_but F1 hLS hSn hk2
    have hTup2 : h2.IsTuple T #[.int i t, .str ⟨#[c]⟩ u] := by
      obtain ⟨o, ho, r⟩ := hTup
      exact ⟨o, hk2 _ _ hTe ho, r⟩
    refine wpAny_assign_Tuple rfl hTup2 rfl rfl fun h3 hx3 => ?_
    have hk3 : Keep h2 h3 := fun b o hb => hx3 b o (Nat.ne_of_lt (Heap.lt_size hb)) hb
    have F3 := Fr_ext F2 hk3
    show wpAny _ _ (do holding [.str ⟨#[c]⟩ u] (assign (.Name (Str.ofString "pos") _) (envOf q sc L a cd) (.int i t)); do holding [] (assign (.Name (Str.ofString "ch") _) (envOf q sc L a cd) (.str ⟨#[c]⟩ u)); pure ()) _ _ _
    refine wpAny_bind (wpAny_holding (wpAny_assign_Name ?_))
    have hp : ((envOf q sc L a cd).scope.kind == .class || ((envOf q sc L a cd).scope.kind == .module && (envOf q sc L a cd).locals != (envOf q sc L a cd).globals)) = false := by
      show (sc.kind == .class || (sc.kind == .module && L != mainGlobals)) = false
      rw [hk]; rfl
    refine wpAny_storeName_local l1 F3.ns (fun h4 hn4 hs4 => ?_) hp
    have F4 := F3.set hn4 hs4
    refine wpAny_bind (wpAny_holding (wpAny_assign_Name ?_))
    refine wpAny_storeName_local l2 F4.ns (fun h5 hn5 hs5 => wpAny_pure ?_) hp
    have F5 := F4.set hn5 hs5

    rw [map_known hm] at F5
    -- what stands at the body's start
    have hLne : ∀ b, b ∉ [L, e, it] → b ≠ L := fun b hb e' => hb (by rw [e']; exact List.mem_cons_self ..)
    have up : Kp [L, e, it] s.heap h5 := fun b o hb e' => by
      have hb' : b ∉ [e, it] := fun hb' => hb (List.mem_cons_of_mem _ hb')
      exact hs5.extBut b o (hLne b hb) (hs4.extBut b o (hLne b hb) (hk3 _ _ (hk2 b o hb' (hk' b o hb' e'))))
    have st5 : St (i + 1) h5 := (G.W (Ard dp un fr gd) rfl).frame _ _ _ hst2 fun b hb o e' => by
      have hbL : b ≠ L := fun q' => hLS (q' ▸ hb)
      exact hs5.extBut b o hbL (hs4.extBut b o hbL (hk3 _ _ e'))
    obtain ⟨own, N5, ho⟩ := others F5
    clear F1 F2 F3 F4 hn4 hn5 hs4 hs5 hx3 hk3 hTup hTup2 hMid hTe hst2 hk2
    have hdr : x.cps.toList.drop i = c :: x.cps.toList.drop (i + 1) := by
      have h1 : i < x.cps.toList.length := by simpa using hlt
      rw [List.drop_eq_getElem_cons h1]
      congr 1
      have h2 : x.cps.toList[i]? = some c := by simpa using hcu
      rw [List.getElem?_eq_getElem h1] at h2
      exact Option.some.inj h2
    rw [hdr] at hn hdrop hesc
    subst hb
    rw [execs_cons_wrap]
    refine seg_If ?_
    repeat' (first | (k_unfold; (try dsimp only)) | (walk1; (try dsimp only)) | (dsimp only; walk1))
    have hR5 : ∀ h6 tk6, Kp [L, e, it] h5 h6 → Rel [L, e, it] s₀ { s with heap := h6, toks := tk6 } := fun h6 tk6 k6 => hrel.next (up.trans k6)
    have kp5 : ∀ {h6 own6 m6}, Fr hc L h6 m6 → News hc L h6 own6 → (∀ p ∈ own, p ∈ own6) → Kp [L, e, it] h5 h6 ∧ (∀ b ∈ [e, it], ∀ o, h5.get? b = some o → h6.get? b = some o) := fun {h6 own6 m6} F6 N6 hs6 => by
      have key := keeps_others ho F6 N6 hs6
      refine ⟨fun b o hb e' => key b o (hLne b hb) e' ?_, fun b hb o e' => key b o (fun q' => hLS (q' ▸ hb)) e' (.inl (hSn b hb))⟩
      cases hq : hc.get? b with
      | none => exact .inl rfl
      | some o' => have := F5.keep _ _ hq; rw [e'] at this; exact .inr (by rw [Option.some.inj this])
    obtain ⟨⟨oe, hoe⟩, ⟨oi, hoi⟩⟩ := G.live _ _ st5
    have fresh : ∀ D, D ≠ L → (∀ p ∈ own, p.1 < D) → hc.get? D = none → s₀.heap.get? D = none ∧ D ∉ [L, e, it] := fun D hDL hl hDn => by
      have he1 := hl _ (ho e oe G.eL hoe G.eN)
      have hi1 := hl _ (ho it oi G.iL hoi G.iN)
      have hDS : D ∉ [L, e, it] := by
        simp only [List.mem_cons, List.not_mem_nil, or_false, not_or]
        exact ⟨hDL, Nat.ne_of_gt he1, Nat.ne_of_gt hi1⟩
      refine ⟨?_, hDS⟩
      cases hq : s₀.heap.get? D with
      | none => rfl
      | some o' => exact absurd (hl _ (ho D o' hDL (up D o' hDS (hrel.2 D o' hDS hq)) hDn)) (Nat.lt_irrefl _)
    have hint : interactive (envOf q sc L a cd) = false := by
      show (sc.kind == .module && sc.more.any _) = false
      rw [hk]; rfl
    have back : ∀ {h6 : Heap} {own6 : List (Addr × Obj)} {m6 : Str → Option Value}, Fr hc L h6 m6 → News hc L h6 own6 → (∀ p ∈ own, p ∈ own6) → ∀ s'' : Shared, (∀ b ∈ [L, e, it], ∀ o, h6.get? b = some o → s''.heap.get? b = some o) → Keep hc s''.heap →
        Fr hc L s''.heap m6 ∧ St (i + 1) s''.heap := fun {h6 own6 m6} F6 N6 hs6 s'' hs'' hkeep => by
      refine ⟨⟨F6.ns.at' fun o e' => hs'' L (List.mem_cons_self ..) o e', hkeep, F6.above⟩, ?_⟩
      exact (G.W (Ard dp un fr gd) rfl).frame _ _ _ st5 fun b hb o e' => hs'' b (List.mem_cons_of_mem _ hb) o ((kp5 F6 N6 hs6).2 b hb o e')
    have again : ∀ (esc' : Bool) (n' : Nat) (s1 s2 : Shared) (h9 : Heap) (m9 : Str → Option Value) (own9 own8 : List (Addr × Obj)) (tk9 : Nat), Fr hc L h9 m9 → m9 (Str.ofString "escape") = some (.bool esc') → St (i + 1) s2.heap → Rel [L, e, it] s1 s2 →
        News hc L h9 own9 → (∀ b o, b ≠ L → s2.heap.get? b = some o → hc.get? b = none → (b, o) ∈ own8) → (∀ p ∈ own8, p ∈ own9) → Keep hc s2.heap → n' = (escItems (i + 1) esc' (x.cps.toList.drop (i + 1))).length → n' ≤ items.length → items.drop (items.length - n') = escItems (i + 1) esc' (x.cps.toList.drop (i + 1)) →
        escEnd esc' (x.cps.toList.drop (i + 1)) = false →
        Seg (model Challenge.rw_wr0014_01.row.prog w) (Ard dp un fr gd) (genR [L, e, it]) (genY hc [L, e, it] items) n' s1 (.forLoop _ (.ref e) _ [] (envOf q sc L a cd))
        ((model Challenge.rw_wr0014_01.row.prog w).den (.forLoop _ (.ref e) _ [] (envOf q sc L a cd))) [.ret (forK (envOf q sc L a cd) Kr Hr id lv) none false (lv []) (.func fb (envOf q sc L a cd)) p []] { s2 with heap := h9, toks := tk9 } :=
      fun esc' n' s1 s2 h9 m9 own9 own8 tk9 F9 hm9 st2 rel2 N9 ho2 hs9 hkc hn' hl' hd' he' => by
        have key : ∀ b o, b ≠ L → s2.heap.get? b = some o → h9.get? b = some o := fun b o hb e' => by
          cases hq : hc.get? b with
          | none => exact (N9 _ (hs9 _ (ho2 b o hb e' hq))).1
          | some o' =>
            have h1 := hkc _ _ hq
            rw [e'] at h1
            rw [Option.some.inj h1]; exact F9.keep _ _ hq
        refine ih (i + 1) esc' n' s1 _ p (by omega) hn' hl' hd' he' ⟨⟨m9, F9, hm9⟩, ?_⟩ (rel2.next fun b o hb e' => key b o (hLne b hb) e')
        exact (G.W (Ard dp un fr gd) rfl).frame _ _ _ st2 fun b hb o e' => key b o (fun q' => hLS (q' ▸ hb)) e'
    cases esc with
    | true =>
      simp only [escItems, List.length_cons] at hn hdrop
      simp only [escEnd] at hesc
      obtain ⟨n', rfl⟩ : ∃ n', n = n' + 1 := ⟨_, hn⟩
      simp only [if_true]
      rw [execs_cons_wrap]
      refine seg_Expr_Yield rfl rfl rfl ?_ hco hint
      repeat' (first | (k_unfold; (try dsimp only)) | (walk1; (try dsimp only)) | (dsimp only; walk1))
      rename_i l6 kap hkap
      with_reducible rename (Fr _ _ _ _) => F6
      with_reducible rename (News _ _ _ _) => N6
      have fr6 := fresh _ (N6 _ (List.mem_cons_self ..)).2.1 l6 (N6 _ (List.mem_cons_self ..)).2.2
      refine ⟨by omega, hR5 _ _ (kp5 F6 N6 (fun p hp => List.mem_cons_of_mem _ hp)).1, ⟨_, _, _, _, _, _, rfl, News.get N6 (List.mem_cons_self ..), fr6.1, fr6.2, ?_⟩, fun s'' hs'' hkeep => hkap .none s'' ?_⟩
      · have h1 := congrArg (fun l => l[0]?) hdrop
        simp only [List.getElem?_drop, Nat.add_zero, List.getElem?_cons_zero] at h1
        exact h1
      · obtain ⟨F7, st7⟩ := back F6 N6 (fun p hp => List.mem_cons_of_mem _ hp) s'' hs'' hkeep
        obtain ⟨own7, N7, ho7⟩ := others F7
        show Seg _ _ _ _ _ _ _ (Sem.wrap _ _ _ _ (execs _ _)) _ _
        rw [execs_cons_wrap]
        refine seg_piece ?_
        repeat' (first | (k_unfold; (try dsimp only)) | (walk1; (try dsimp only)) | (dsimp only; walk1))
        show Seg _ _ _ _ _ _ _ (Sem.wrap _ _ _ _ (execs _ _)) _ _
        refine seg_execs_nil ?_
        refine seg_again rfl ?_
        with_reducible rename (Fr _ _ _ _) => F9
        with_reducible rename (News _ _ _ _) => N9
        exact again false n' s'' s'' _ _ _ own7 _ F9 rfl st7 ⟨⟨_, _, rfl⟩, fun _ _ _ q => q⟩ N9 ho7 (fun p hp => hp) hkeep (by omega) (by omega) (by
          have h1 := congrArg (fun l => l.drop 1) hdrop
          simp only [List.drop_drop, List.drop_succ_cons, List.drop_zero] at h1
          rw [← h1]; congr 1; exact sub_step (by assumption)) hesc
    | false =>
      simp only [Bool.false_eq_true, if_false]
      rw [execs_cons_wrap]
      refine seg_If ?_
      repeat' (first | (k_unfold; (try dsimp only)) | (walk1; (try dsimp only)) | (dsimp only; walk1))
      by_cases hc92 : c = 92
      · rw [if_pos ((one_beq c 92 _ bs_eq).mpr hc92)]
        simp only [escItems, if_pos hc92] at hn hdrop
        simp only [escEnd, if_pos hc92] at hesc
        rw [execs_cons_wrap]
        refine seg_piece ?_
        repeat' (first | (k_unfold; (try dsimp only)) | (walk1; (try dsimp only)) | (dsimp only; walk1))
        show Seg _ _ _ _ _ _ _ (Sem.wrap _ _ _ _ (execs _ _)) _ _
        refine seg_execs_nil ?_
        show Seg _ _ _ _ _ _ _ (Sem.wrap _ _ _ _ (execs _ _)) _ _
        refine seg_execs_nil ?_
        refine seg_again rfl ?_
        with_reducible rename (Fr _ _ _ _) => F9
        with_reducible rename (News _ _ _ _) => N9
        exact again true n s₀ { s with heap := h5, toks := tk } _ _ _ own _ F9 rfl st5 (hR5 _ _ (fun _ _ _ q => q)) N9 ho (fun p hp => hp) (fun b o q => F5.keep b o q) hn hn2 hdrop hesc
      · rw [if_neg (fun q => hc92 ((one_beq c 92 _ bs_eq).mp q))]
        simp only [escItems, if_neg hc92, List.length_cons] at hn hdrop
        simp only [escEnd, if_neg hc92] at hesc
        obtain ⟨n', rfl⟩ : ∃ n', n = n' + 1 := ⟨_, hn⟩
        rw [execs_cons_wrap]
        refine seg_Expr_Yield rfl rfl rfl ?_ hco hint
        repeat' (first | (k_unfold; (try dsimp only)) | (walk1; (try dsimp only)) | (dsimp only; walk1))
        rename_i l6 kap hkap
        with_reducible rename (Fr _ _ _ _) => F6
        with_reducible rename (News _ _ _ _) => N6
        have fr6 := fresh _ (N6 _ (List.mem_cons_self ..)).2.1 l6 (N6 _ (List.mem_cons_self ..)).2.2
        refine ⟨by omega, hR5 _ _ (kp5 F6 N6 (fun p hp => List.mem_cons_of_mem _ hp)).1, ⟨_, _, _, _, _, _, rfl, News.get N6 (List.mem_cons_self ..), fr6.1, fr6.2, ?_⟩, fun s'' hs'' hkeep => hkap .none s'' ?_⟩
        · have h1 := congrArg (fun l => l[0]?) hdrop
          simp only [List.getElem?_drop, Nat.add_zero, List.getElem?_cons_zero] at h1
          exact h1
        · obtain ⟨F7, st7⟩ := back F6 N6 (fun p hp => List.mem_cons_of_mem _ hp) s'' hs'' hkeep
          obtain ⟨own7, N7, ho7⟩ := others F7
          show Seg _ _ _ _ _ _ _ (Sem.wrap _ _ _ _ (execs _ _)) _ _
          refine seg_execs_nil ?_
          show Seg _ _ _ _ _ _ _ (Sem.wrap _ _ _ _ (execs _ _)) _ _
          refine seg_execs_nil ?_
          refine seg_again rfl ?_
          exact again false n' s'' s'' _ _ _ own7 _ F7 rfl st7 ⟨⟨_, _, rfl⟩, fun _ _ _ q => q⟩ N7 ho7 (fun p hp => hp) hkeep (by omega) (by omega) (by
            have h1 := congrArg (fun l => l.drop 1) hdrop
            simp only [List.drop_drop, List.drop_succ_cons, List.drop_zero] at h1
            rw [← h1]; congr 1; exact sub_step (by assumption)) hesc
end
end Mine
namespace Mine
set_option maxRecDepth 100000
open PySem PySem.W PySem.Calls PyProof.Rows PySem.Spec

theorem gfix_of {w : World} {x : Str} {tx : Tok} {hc : Heap} {L e it : Addr} (hei : e ≠ it) (eL : e ≠ L) (iL : it ≠ L) (eN : hc.get? e = none) (iN : hc.get? it = none) :
    ∃ Mid, GFix w x hc L e it (fun i h => (∃ old, IsEnum h e it i old) ∧ h.IsStrIter it (strIterType x) x tx i) Mid := by
  have live : ∀ (i : Nat) (h : Heap), ((∃ old, IsEnum h e it i old) ∧ h.IsStrIter it (strIterType x) x tx i) → (∃ o, h.get? e = some o) ∧ ∃ o, h.get? it = some o := by
    rintro i h ⟨⟨_, he⟩, hs⟩
    obtain ⟨o, ho, _⟩ := hs
    exact ⟨⟨_, he⟩, ⟨o, ho⟩⟩
  have hei' : e ∉ [it] := by simpa using hei
  refine ⟨fun i T h => (∃ y, IsEnumOut h e it ((i : Int) + 1) y T) ∧ h.IsStrIter it (strIterType x) x tx (i + 1) ∧ T ≠ e ∧ T ≠ it, ⟨fun A hh => ?_, eL, iL, eN, iN, live⟩⟩
  cases ha : x.cps.all (· < 128)
  · have D := Draws.strWide (prog := Challenge.rw_wr0014_01.row.prog) (w := w) (A := A.in1) hh it x tx
    have e1 : strIterType x = "str_iterator" := by simp [strIterType, ha]
    rw [e1]
    exact WalksT.enumerateD D e hei hei' (List.mem_singleton.mpr rfl)
  · have D := Draws.strAscii (prog := Challenge.rw_wr0014_01.row.prog) (w := w) (A := A.in1) hh it x tx
    have e1 : strIterType x = "str_ascii_iterator" := by simp [strIterType, ha]
    rw [e1]
    exact WalksT.enumerateD D e hei hei' (List.mem_singleton.mpr rfl)

section
variable {w : World} {dp un : Nat} {fr : Option (List Env)} {gd : Option (List Code)} {mean : ExcName → Option Value} {mg mb : Str → Option Value}

local macro_rules | `(tactic| walk_at "eval Name") => `(tactic| first
  | (refine' ld ?fa ?fb ?_ ?fc ?fd; (case fa => assumption); (case fb => rfl); (case fc => assumption); (case fd => assumption))
  | (refine' name_B ?fa ?fb ?fc ?fd ?fe ?ff ?_ ?fg ?fh; (case fa => assumption); (case fb => assumption); (case fc => exact topRead_of (by assumption)); (case fd => k_is); (case fe => exact boot_enumerate); (case ff => decide); (case fg => assumption); (case fh => assumption)))
theorem stNz {M : Model} {A : Around} {E : Value → Shared → Prop} {s : Shared} {name : Str} {scope : Scope} {L a : Addr} {cd : Value} {h₀ : Heap} {m : Str → Option Value} {news : List (Addr × Obj)} {x : Str} {v : Value} {Q : Unit → Shared → Prop} (F : Fr h₀ L s.heap m) (N : News h₀ L s.heap news)
    (h : ∀ h', Fr h₀ L h' (fun y => if y = x then some v else m y) → News h₀ L h' news → h'.objs.size = s.heap.objs.size → Q () { s with heap := h', toks := s.toks + 1 })
    (hk : scope.kind = .function) (hl : (envOf name scope L a cd).kindOf x = some .local) :
    wpAny M A (storeName (envOf name scope L a cd) x v) Q E s :=
  wpAny_storeName_local hl F.ns (fun h' hn hs => h h' (F.set hn hs) (N.set hs) hs.1)
    (by show (scope.kind == .class || (scope.kind == .module && L != mainGlobals)) = false; rw [hk]; rfl)
local macro_rules | `(tactic| walk_at "storeName") => `(tactic| (refine' stNz ?fa ?fb ?_ ?fc ?fd; (case fa => assumption); (case fb => assumption); (case fc => assumption); (case fd => assumption); intro h9 F9 N9 z9))
local macro_rules | `(tactic| walk_at "call type:enumerate") => `(tactic| refine Stop.of ?_)

set_option maxHeartbeats 4000000 in
theorem gen_start {x : Str} {tx : Tok} {hc : Heap} {L : Addr} (X : (Mine.hd.heap_39 w.params).In hc) (T : Top Mine.hd.view_39 (looseW Mine.hd.view_39 []) mean mg mb hc) {s : Shared}
    {q : Str} {sc : Scope} {a : Addr} {cd : Value}
    (hk : sc.kind = .function) (hco : sc.isCoroutine = false) (l1 : (envOf q sc L a cd).kindOf (Str.ofString "pos") = some .local) (l2 : (envOf q sc L a cd).kindOf (Str.ofString "ch") = some .local) (l3 : (envOf q sc L a cd).kindOf (Str.ofString "escape") = some .local)
    (l4 : (envOf q sc L a cd).kindOf (Str.ofString "addr") = some .local) (l5 : (envOf q sc L a cd).kindOf (Str.ofString "enumerate") = some .globalImplicit)
    (fb : List Stmt) (hb : fb = genBody w.params)
    (F : Fr hc L s.heap (fun y => if y = Str.ofString "addr" then some (.str x tx) else none)) (hesc : escEnd false x.cps.toList = false) :
    Seg (model Challenge.rw_wr0014_01.row.prog w) (Ard dp un fr gd) (genR [L, s.heap.objs.size + 1, s.heap.objs.size]) (genY hc [L, s.heap.objs.size + 1, s.heap.objs.size] (escItems 0 false x.cps.toList)) (escItems 0 false x.cps.toList).length s
      (.func fb (envOf q sc L a cd)) ((model Challenge.rw_wr0014_01.row.prog w).den (.func fb (envOf q sc L a cd))) [] s := by
  revert X; k_fill; intro X
  w_on
  refine seg_func ?_
  obtain ⟨own, N, ho⟩ := others F
  conv at hb => rhs; whnf
  subst hb
  rw [execs_cons_wrap]
  refine seg_piece ?_
  repeat' (first | (k_unfold; (try dsimp only)) | walk1 | (dsimp only; walk1))
  show Seg _ _ _ _ _ _ _ (Sem.wrap _ _ _ _ (execs _ _)) _ _
  rw [execs_cons_wrap]
  refine seg_piece ?_
  repeat' (first | (k_unfold; (try dsimp only)) | walk1 | (dsimp only; walk1))
  show Seg _ _ _ _ _ _ _ (Sem.wrap _ _ _ _ (execs _ _)) _ _
  rw [execs_cons_wrap]
  refine seg_For ?_
  repeat' (first | (k_unfold; (try dsimp only)) | walk1 | (dsimp only; walk1))
  unfold Stop
  rename_i h8 F8 N8 z8 h9 F9 N9 z9
  have z : h9.objs.size = s.heap.objs.size := z9.trans z8
  refine call_enumerate_str fun h' he hit hsz hk' => ?_
  dsimp only at he hit hsz hk' ⊢
  rw [z] at he hit hsz ⊢
  refine wpAny_pyIter_enum he ?_
  intro p
  have F10 := Fr_ext F9 hk'
  have up : Kp [L, s.heap.objs.size + 1, s.heap.objs.size] s.heap h' := fun b o hb e => by
    have hbL : b ≠ L := fun q => hb (by rw [q]; exact List.mem_cons_self ..)
    cases hq : hc.get? b with
    | none => exact hk' _ _ (N9 _ (ho b o hbL e hq)).1
    | some o' =>
      have h1 := F.keep _ _ hq
      rw [e] at h1
      rw [Option.some.inj h1]; exact F10.keep _ _ hq
  have hLlt : L < s.heap.objs.size := F.ns.lt
  have fresh : ∀ d, s.heap.objs.size ≤ d → hc.get? d = none := fun d hd => by
    cases hq : hc.get? d with
    | none => rfl
    | some o => exact absurd (Heap.lt_size (F.keep _ _ hq)) (Nat.not_lt.mpr hd)
  obtain ⟨Mid, G⟩ := gfix_of (w := w) (x := x) (tx := tx) (hc := hc) (L := L) (e := s.heap.objs.size + 1) (it := s.heap.objs.size) (Nat.succ_ne_self _) (Nat.ne_of_gt (Nat.lt_succ_of_lt hLlt)) (Nat.ne_of_gt hLlt) (fresh _ (Nat.le_succ _)) (fresh _ (Nat.le_refl _))
  refine gen_loop G X T hk hco l1 l2 l3 _ rfl _ rfl ?_ x.cps.size 0 false _ s _ p (by omega) (by simp) (Nat.le_refl _) (by simp) (by simpa using hesc) ⟨⟨_, F10, rfl⟩, ⟨⟨_, by simpa using he⟩, hit⟩⟩ ⟨⟨_, _, rfl⟩, up⟩
  intro s₀ s' ⟨m, F', hm⟩ hrel
  rw [map_known hm] at F'
  obtain ⟨own', N', ho'⟩ := others F'
  show Seg _ _ _ _ _ _ _ (Sem.wrap _ _ _ _ (execs _ _)) _ _
  rw [execs_cons_wrap]
  refine seg_If ?_
  repeat' (first | (k_unfold; (try dsimp only)) | walk1 | (dsimp only; walk1))
  simp only [Bool.false_eq_true, if_false]
  refine seg_execs_nil ?_
  show Seg _ _ _ _ _ _ _ (Sem.wrap _ _ _ _ (execs _ _)) _ _
  refine seg_execs_nil ?_
  exact seg_end (.ok (.ret .none)) ⟨rfl, rfl, hrel⟩
end
end Mine
namespace Mine
set_option maxRecDepth 100000
open PySem PySem.W PySem.Calls PyProof.Rows PySem.Spec

theorem gen_call {w : World} {A : Around} {s : Shared} {K : Frag} {mean : ExcName → Option Value} {mg mb : Str → Option Value} {p : Program} {loose : List Str} {R : Result → Shared → Prop}
    {name qual : Str} {params : Arguments} {body : List Stmt} {scope : Scope} {dV kV doc pm cdv ct oc : Value} {an od : Option Addr} {osl : Array (Option Value)} {f : Addr} {vals : List Value}
    (X : K.In s.heap) (T : Top p loose mean mg mb s.heap)
    (ho : K.lookup f = some ⟨oc, od, .func (fnOf name qual params body scope dV kV doc pm an cdv ct), osl⟩) (hcd : codeIn K cdv qual = true) (hroom : A.depth < recursionLimit)
    (hbind : bindArgs (fnOf name qual params body scope dV kV doc pm an cdv ct) ⟨vals, []⟩ = pure ((params.args.map (·.arg)).zip vals)) (hloc : ∀ y ∈ (params.args.map (·.arg)).zip vals, scope.names.lookup y.1 = some .local)
    (h : ∀ h₁ tk n1 n2, h₁.Ns s.heap.objs.size (fun y => bindMap ((params.args.map (·.arg)).zip vals).reverse y) → Keep s.heap h₁ → h₁.objs.size = s.heap.objs.size + 1 →
      R (.ok (.ret (.ref h₁.objs.size))) { s with heap := h₁.push { cls := .type "generator", data := .fields #[.int s.gens.size 0, .str name n1, .str qual n2] }, gens := s.gens.push (.fresh (.func body (envOf qual scope s.heap.objs.size f cdv))), toks := tk })
    (hco : scope.isCoroutine = false) (hgen : scope.isGenerator = true) (hk : scope.kind = .function)
    (hcell : ∀ x ∈ scope.names, x.2 ≠ .cell) : codeAny (model Challenge.rw_wr0014_01.row.prog w) A (.call (.ref f) ⟨vals, []⟩) R s := by
  refine codeAny_call_generator hroom (X _ _ ho) rfl hco hgen rfl (codeRec_of X hcd) ?_
  rw [hbind]
  refine wpAny_pure (wpAny_newFunctionEnv hcell hloc (fun h₁ hns hsb => ?_) hk)
  have hk₁ : Keep s.heap h₁ := fun b o e => hsb.extBut b o (Nat.ne_of_lt (Heap.lt_size e)) (Heap.get?_push_of_some _ e)
  rw [bindMap_eq] at hns
  refine ⟨T.nolimit.keeps hk₁, ?_⟩
  exact h h₁ _ _ _ hns hk₁ (by rw [hsb.1, Heap.size_push])
end Mine
namespace Mine
set_option maxRecDepth 100000
open PySem PySem.W PySem.Calls PyProof.Rows PySem.Spec


theorem isNot_of' {b : Bool} (h : b = false) : ¬ (!!b) = true := by rw [h]; nofun
theorem is_of' {b : Bool} (h : b = true) : (!!b) = true := by rw [h]; rfl
local macro_rules | `(tactic| walk_at "call builtin:str.join") => `(tactic| refine Stop.of ?_)
local macro_rules | `(tactic| walk_at "exec For") => `(tactic| refine Stop.of ?_)
local macro_rules | `(tactic| walk_at "exec For Tuple Call cons nil") => `(tactic| refine Stop.of ?_)

abbrev slc (x : Str) (a b : Int) : Str := Txt.slice x (some a) (some b)
noncomputable def Apt (D : Addr) (rest : List (Addr × Obj)) : Prop := ∀ p ∈ rest, p.1 ≠ D
theorem append_my {prog : Program} {w : World} {A : Around} {E : Value → Shared → Prop} {s : Shared} {h₀ : Heap} {L : Addr} {m : Str → Option Value} {D : Addr} {ys : List Value} {n : Nat} {x : Value} {rest : List (Addr × Obj)} {Q : Value → Shared → Prop}
    (F : Fr h₀ L s.heap m) (N : News h₀ L s.heap ((D, PySem.W.listOf ys.toArray n) :: rest)) (hap : Apt D rest) (hsz : ys.length ≤ 1000)
    (h : ∀ h', Fr h₀ L h' m → News h₀ L h' ((D, PySem.W.listOf (ys ++ [x]).toArray (n + 1)) :: rest) → Q .none { s with heap := h' }) :
    wpAny (model prog w) A (call (.builtin "list.append") [.ref D, x]) Q E s := by
  refine append_head (hsz := by rw [sizeLine_eq, List.size_toArray]; omega) F N hap fun h' F' N' => ?_
  have e : ys.toArray.push x = (ys ++ [x]).toArray := by simp
  rw [e] at N'
  exact h h' F' N'
local macro_rules | `(tactic| walk_at "call builtin:list.append") => `(tactic| ((with_reducible rename (Fr _ _ _ _) => F'); (with_reducible rename (News _ _ _ _) => N'); with_unfolding_all refine append_my F' N' (by with_reducible assumption) (by with_reducible assumption) ?_; intro _ _ _))
noncomputable def stripGo (x : Str) : List (Int × Str) → Int → Option Int → List Str → Int × List Str
  | [], st, _, res => (st, res)
  | (p, c) :: r, st, op, res => if c = Str.ofString "\"" then (match op with
      | none => stripGo x r st (some p) res
      | some o => stripGo x r (p + 1) none (if st = o then res else res ++ [slc x st o])) else stripGo x r st op res

theorem stripGo_len {x : Str} (items : List (Int × Str)) (st : Int) (op : Option Int) (res : List Str) (h : ∀ r ∈ res, r.length ≤ x.length) :
    ∀ r ∈ (stripGo x items st op res).2, r.length ≤ x.length := by
  induction items generalizing st op res with
  | nil => exact h
  | cons pc r ih =>
    obtain ⟨p, c⟩ := pc
    unfold stripGo
    by_cases hc : c = Str.ofString "\""
    · rw [if_pos hc]
      cases op with
      | none => exact ih _ _ _ h
      | some o =>
        refine ih _ _ _ ?_
        by_cases ho : st = o
        · rw [if_pos ho]; exact h
        · rw [if_neg ho]
          intro q hq
          rcases List.mem_append.mp hq with hq | hq
          · exact h q hq
          · rw [List.mem_singleton.mp hq]; exact PyProof.Txt.length_slice_le x _ _
    · rw [if_neg hc]; exact ih _ _ _ h
/-- what _strip_quoted_realnames gives for a text with a mark -/
noncomputable def stripOf (x : Str) : Str :=
  let r := stripGo x (escItems 0 false x.cps.toList) 0 none []
  Txt.join Str.empty (if r.1 < (x.length : Int) then r.2 ++ [Txt.slice x (some r.1) none] else r.2)
theorem sum_len_le (N : Nat) : ∀ (l : List Str), (∀ r ∈ l, r.length ≤ N) → (l.map (·.length)).sum ≤ N * l.length
  | [], _ => by simp
  | a :: l, h => by
    have h1 := h a (List.mem_cons_self ..)
    have h2 := sum_len_le N l fun r hr => h r (List.mem_cons_of_mem _ hr)
    simp only [List.map_cons, List.sum_cons, List.length_cons]
    rw [Nat.mul_add]; omega
theorem strip_weight {x : Str} {l : List Str} (hx : x.length ≤ 1000) (h : ∀ r ∈ l, r.length ≤ x.length) (hl : l.length ≤ 1001) : (l.map (·.length)).sum + l.length ≤ 1048576 := by
  have h1 := sum_len_le x.length l h
  have h2 : x.length * l.length ≤ 1000 * 1001 := Nat.mul_le_mul hx hl
  omega

noncomputable def opAt (m : Str → Option Value) : Option Int → Prop
  | none => m (Str.ofString "open_pos") = some .none
  | some o => ∃ t, m (Str.ofString "open_pos") = some (.int o t)

structure SI (w : World) (A : Around) (hc : Heap) (Ls Rl G : Addr) (S : List Addr) (x : Str) (tx : Tok) (items : List (Int × Str)) (gens₀ : Array GenState) (og : Obj) (rem : List (Int × Str)) (st : Int) (op : Option Int) (res : List Str) (m : Str → Option Value) (vs : List Value) (nl : Nat) (gs : GenState) (s' : Shared) : Prop where
  drop : items.drop (items.length - rem.length) = rem
  le : rem.length ≤ items.length
  go : stripGo x rem st op res = stripGo x items 0 none []
  F : Fr hc Ls s'.heap m
  ms : ∃ t, m (Str.ofString "start") = some (.int st t)
  mo : opAt m op
  mr : m (Str.ofString "result") = some (.ref Rl)
  ma : m (Str.ofString "addr") = some (.str x tx)
  N : News hc Ls s'.heap [(Rl, PySem.W.listOf vs.toArray nl), (G, og)]
  sa : StrsAre vs res
  vl : vs.length + rem.length ≤ 1000
  gens : s'.gens = gens₀.push gs
  goes : ∀ s'', s''.heap = s'.heap → gs.Goes (model Challenge.rw_wr0014_01.row.prog w) A (genR S) (genY hc S items) rem.length (.send .none) s''

local macro_rules | `(tactic| walk_at "Exists") => `(tactic| refine Stop.of ?_)
theorem escItems_len (i : Nat) (e : Bool) (l : List Nat) : (escItems i e l).length ≤ l.length := by
  induction l generalizing i e with
  | nil => cases e <;> exact Nat.le_refl _
  | cons c r ih =>
    cases e with
    | true => have := ih (i + 1) false; simp only [escItems, List.length_cons]; omega
    | false =>
      simp only [escItems]
      by_cases hc : c = 92
      · rw [if_pos hc]; have := ih (i + 1) true; simp only [List.length_cons]; omega
      · rw [if_neg hc]; have := ih (i + 1) false; simp only [List.length_cons]; omega
theorem push_set {α : Type} (a : Array α) (x y : α) : (a.push x).setIfInBounds a.size y = a.push y := by
  apply Array.ext'
  simp
theorem letGo_gen {prog : Program} {w : World} {A : Around} {E : Value → Shared → Prop} {s : Shared} {elts : List Expr} {x1 : Nat} {pos : Pos} {G T g : Nat} {Q : Unit → Shared → Prop} (hg : s.heap.IsGen G g) (hq : Q () s) :
    wpAny (model prog w) A (letOwnedTupleGo (.Tuple elts x1 pos) (.ref G) (.ref T)) Q E s := by
  obtain ⟨o, nm, qn, ho, hc, hd, _⟩ := hg
  unfold letOwnedTupleGo
  refine wpAny_bind (wpAny_load ho ?_)
  rw [hc, hd]
  exact wpAny_pure hq

section
variable {w : World} {dp un : Nat} {fr : Option (List Env)} {gd : Option (List Code)} {s : Shared} {mean : ExcName → Option Value} {mg mb : Str → Option Value}
    {Q E : Value → Shared → Prop}
set_option maxHeartbeats 4000000 in
theorem strip_no {x : Str} {t : Tok}
    (X : (Mine.hd.heap_39 w.params).In s.heap) (T : Top Mine.hd.view_39 (looseW Mine.hd.view_39 []) mean mg mb s.heap) (hd : dp + 1 < recursionLimit)
    (hno : (Builtin.Str.occurrences x (Str.ofString "\"") 0 x.length 1).isEmpty = true)
    (h : ∀ t h' tk, Keep s.heap h' → Q (.str x t) { s with heap := h', toks := tk }) :
    wpAny (model Challenge.rw_wr0014_01.row.prog w) (Ard dp un fr gd) (call (.ref 35) [.str x t]) Q E s := by
  revert X; k_fill; intro X
  w_on
  refine wpAny_call ?_
  refine' enter_def (by assumption) (by assumption) ?k6 ?k7 ?k8 ?k9 ?kB ?_ ?c2 ?c3 ?c4 ?c5 ?c6
  (case k6 => k_is)
  (case k7 => k_is)
  (case k8 => (dsimp only [Around.deeper, Around.in1]; omega))
  (case k9 => exact rfl)
  (case kB => exact locs rfl)
  (case c2 => exact rfl)
  (case c3 => exact rfl)
  (case c4 => exact rfl)
  (case c5 => decide)
  (case c6 => exact rfl)
  intro L0 h0 F0 N0
  dsimp only [List.map, List.zip, List.zipWith, List.reverse, List.reverseAux, List.length, bindMap] at F0 ⊢
  iterate 8 walk1
  rw [if_pos (is_of' hno)]
  k_steps
  exact h _ _ _ (Fr.keep (by assumption))

set_option maxHeartbeats 2000000 in
theorem strip_yes {x : Str} {t : Tok}
    (X : (Mine.hd.heap_39 w.params).In s.heap) (T : Top Mine.hd.view_39 (looseW Mine.hd.view_39 []) mean mg mb s.heap) (hd : dp + 5 < recursionLimit) (hbare : AllBare s.gens)
    (hin : (Builtin.Str.occurrences x (Str.ofString "\"") 0 x.length 1).isEmpty = false) (hx : x.length ≤ 1000) (hesc : escEnd false x.cps.toList = false)
    (h : ∀ t s', Keep s.heap s'.heap → s'.os = s.os → AllBare s'.gens → Q (.str (stripOf x) t) s') :
    wpAny (model Challenge.rw_wr0014_01.row.prog w) (Ard dp un fr gd) (call (.ref 35) [.str x t]) Q E s := by
  revert X; k_fill; intro X
  w_on
  refine wpAny_call ?_
  refine' enter_def (by assumption) (by assumption) ?k6 ?k7 ?k8 ?k9 ?kB ?_ ?c2 ?c3 ?c4 ?c5 ?c6
  (case k6 => k_is)
  (case k7 => k_is)
  (case k8 => (dsimp only [Around.deeper, Around.in1]; omega))
  (case k9 => exact rfl)
  (case kB => exact locs rfl)
  (case c2 => exact rfl)
  (case c3 => exact rfl)
  (case c4 => exact rfl)
  (case c5 => decide)
  (case c6 => exact rfl)
  intro Ls h0 F0 N0
  dsimp only [List.map, List.zip, List.zipWith, List.reverse, List.reverseAux, List.length, bindMap] at F0 ⊢
  iterate 8 walk1
  rw [if_neg (isNot_of' hin)]
  k_steps
  unfold Stop
  refine wpAny_For ?_
  repeat' (first | (k_unfold; (try dsimp only)) | walk1 | (dsimp only; walk1))
  with_reducible rename (Fr _ _ _ _) => F1
  with_reducible rename (News _ _ _ _) => N1
  rename_i _ _ _ Rl _ _ h1
  refine wpAny_call ?_
  refine' gen_call (K := Mine.hd.heap_39 w.params) ?zz1 (Top.keeps T F1.keep) ?zz2 ?zz3 ?zz4 ?zz5 ?zz6 ?_ ?zz7 ?zz8 ?zz9 ?zz10
  case zz1 => exact X.keeps F1.keep
  case zz2 => k_is
  case zz3 => k_is
  case zz4 => dsimp only [Around.deeper, Around.in1]; omega
  case zz5 => exact rfl
  case zz6 => exact locs rfl
  case zz7 => exact rfl
  case zz8 => exact rfl
  case zz9 => exact rfl
  case zz10 => decide
  intro h2 tk2 n1 n2 ns2 hk2 hz2
  dsimp only [List.map, List.zip, List.zipWith, List.reverse, List.reverseAux, List.length, bindMap] at ns2 hk2 hz2 ⊢
  have hLs : @LT.lt Nat _ Ls h1.objs.size := F1.ns.lt
  have hRlt : @LT.lt Nat _ Rl h1.objs.size := Heap.lt_size (N1 _ (List.mem_cons_self ..)).1
  have ab : s.heap.objs.size ≤ h1.objs.size := Nat.le_of_lt (Nat.lt_of_le_of_lt F1.above hLs)
  have kG : Keep h2 (h2.push { cls := Value.type "generator", data := Data.fields #[Value.int s.gens.size 0, Value.str (Str.ofString "_iter_escaped_chars") n1, Value.str (Str.ofString "_iter_escaped_chars") n2] }) := fun b o e => Heap.get?_push_of_some _ e
  have gG : (h2.push { cls := Value.type "generator", data := Data.fields #[Value.int s.gens.size 0, Value.str (Str.ofString "_iter_escaped_chars") n1, Value.str (Str.ofString "_iter_escaped_chars") n2] }).get? h2.objs.size = some { cls := Value.type "generator", data := Data.fields #[Value.int s.gens.size 0, Value.str (Str.ofString "_iter_escaped_chars") n1, Value.str (Str.ofString "_iter_escaped_chars") n2] } := Heap.get?_push_size _ rfl
  have zG : (h2.push { cls := Value.type "generator", data := Data.fields #[Value.int s.gens.size 0, Value.str (Str.ofString "_iter_escaped_chars") n1, Value.str (Str.ofString "_iter_escaped_chars") n2] }).objs.size = h1.objs.size + 2 := by rw [Heap.size_push, hz2]
  generalize h2.push { cls := Value.type "generator", data := Data.fields #[Value.int s.gens.size 0, Value.str (Str.ofString "_iter_escaped_chars") n1, Value.str (Str.ofString "_iter_escaped_chars") n2] } = h3 at kG gG zG ⊢
  have F3 := Fr_ext F1 (fun b o e => kG b o (hk2 b o e))
  have N3 : News s.heap Ls h3 [(Rl, PySem.W.listOf #[] 0), (h2.objs.size, { cls := Value.type "generator", data := Data.fields #[Value.int s.gens.size 0, Value.str (Str.ofString "_iter_escaped_chars") n1, Value.str (Str.ofString "_iter_escaped_chars") n2] })] := by
    intro p hp
    rcases List.mem_cons.mp hp with rfl | hp
    · exact News_ext N1 (fun b o e => kG b o (hk2 b o e)) _ (List.mem_cons_self ..)
    · rw [List.mem_singleton.mp hp]
      refine ⟨gG, ?_, ?_⟩
      · show @Ne Nat h2.objs.size Ls
        omega
      · cases hq : s.heap.get? h2.objs.size with
        | none => rfl
        | some o => have hq2 : @LT.lt Nat _ h2.objs.size s.heap.objs.size := Heap.lt_size hq; omega
  have hlen : h3.objs.size = h1.objs.size + 2 := zG
  refine wpAny_pyIter_gen ⟨_, _, _, gG, rfl, rfl, rfl⟩ ?_
  have FL : Fr s.heap h1.objs.size h3 (fun y => if y = Str.ofString "addr" then some (.str x t) else none) := ⟨ns2.keeps kG, F3.keep, ab⟩
  generalize hGn : h2.objs.size = G at gG N3 hz2 ⊢
  have hG : @Eq Nat G (h1.objs.size + 1) := hz2
  have z3 : @Eq Nat h3.objs.size (h1.objs.size + 2) := zG
  generalize hog : ({ cls := Value.type "generator", data := Data.fields #[Value.int s.gens.size 0, Value.str (Str.ofString "_iter_escaped_chars") n1, Value.str (Str.ofString "_iter_escaped_chars") n2] } : Obj) = og at gG N3
  have isG : ∀ {h : Heap}, h.get? G = some og → h.IsGen G s.gens.size := fun e => ⟨_, _, _, e, by rw [← hog], by rw [← hog], by rw [← hog]⟩
  have hA : ∀ env, (Ard dp un fr gd).deeper env = Ard (dp + 1) (un + 3) (fr.map (env :: ·)) gd := fun _ => rfl
  simp only [hA]
  generalize Option.map (fun x => _ :: x) fr = fr'
  refine codeAny_forLoop_any (fun k s' => ∃ rem st op res m vs nl gs, k = rem.length + 1 ∧ s'.os = s.os ∧
    SI w (Ard (dp + 1) (un + 3 + 1) fr' gd) s.heap Ls Rl G [h1.objs.size, h3.objs.size + 1, h3.objs.size] x t (escItems 0 false x.cps.toList) s.gens og rem st op res m vs nl gs s') ?_ ((escItems 0 false x.cps.toList).length + 1)
    ⟨escItems 0 false x.cps.toList, 0, none, [], _, [], 0, _, rfl, rfl, ⟨by simp, Nat.le_refl _, rfl, F3, ⟨_, rfl⟩, rfl, rfl, rfl, N3, .nil, (by have := escItems_len 0 false x.cps.toList; have h9 : x.cps.toList.length = x.length := rfl; simp only [List.length_nil]; omega), rfl, fun s'' hs'' => ⟨rfl, ?_⟩⟩⟩
  · rintro k s' ⟨rem, st, op, res, m, vs, nl, gs, rfl, hos, I⟩
    have hLS : Ls ∉ [h1.objs.size, h3.objs.size + 1, h3.objs.size] := by
      simp only [List.mem_cons, List.not_mem_nil, or_false, not_or]
      refine ⟨?_, ?_, ?_⟩ <;> (show ¬ @Eq Nat _ _) <;> omega
    have hRS : Rl ∉ [h1.objs.size, h3.objs.size + 1, h3.objs.size] := by
      simp only [List.mem_cons, List.not_mem_nil, or_false, not_or]
      refine ⟨?_, ?_, ?_⟩ <;> (show ¬ @Eq Nat _ _) <;> omega
    have hGS : G ∉ [h1.objs.size, h3.objs.size + 1, h3.objs.size] := by
      simp only [List.mem_cons, List.not_mem_nil, or_false, not_or]
      refine ⟨?_, ?_, ?_⟩ <;> (show ¬ @Eq Nat _ _) <;> omega
    have hSn : ∀ b ∈ [h1.objs.size, h3.objs.size + 1, h3.objs.size], s.heap.get? b = none := fun b hb => by
      cases hq : s.heap.get? b with
      | none => rfl
      | some o =>
        have h5 : @LT.lt Nat _ b s.heap.objs.size := Heap.lt_size hq
        simp only [List.mem_cons, List.not_mem_nil, or_false] at hb
        exfalso
        rcases hb with hb | hb | hb <;> (have hb' : @Eq Nat _ _ := hb) <;> omega
    refine wpAny_pyNext_gen (n := rem.length) rfl (T.nolimit.keeps I.F.keep) (by show dp + 1 < _; omega) (isG (I.N.get (List.mem_cons_of_mem _ (List.mem_cons_self ..)))) (by rw [I.gens]; exact Array.getElem?_push_size ..) (I.goes _ rfl) ?_ ?_
    · intro v s₁ gs' hYv
      obtain ⟨hlt, ⟨⟨h4, tk4, rfl⟩, hkp⟩, ⟨T4, tkk, t2, p, ch, k4, rfl, hT4, hTn, hTS, hit⟩, hres⟩ := hYv
      have hkp' : Kp [h1.objs.size, h3.objs.size + 1, h3.objs.size] s'.heap h4 := hkp
      have F4 : Fr s.heap Ls h4 m := Fr_but I.F hLS hSn hkp'
      cases rem with
      | nil => exact (hres { s' with heap := h4 } (fun _ _ _ e => e) F4.keep).elim
      | cons pc rem' =>
        obtain ⟨p0, c0⟩ := pc
        have e8 : ({ s'.setGen s.gens.size .running with heap := h4, toks := tk4 } : Shared).setGen s.gens.size gs' = { s' with heap := h4, toks := tk4, gens := s.gens.push gs' } := by
          simp only [Shared.setGen, I.gens, push_set]
        rw [e8]
        have hS4 : ∀ b ∈ [h1.objs.size, h3.objs.size + 1, h3.objs.size], b ≠ Ls := fun b hb e => hLS (e ▸ hb)
        have hgo : ∀ s'' : Shared, (∀ b ∈ [h1.objs.size, h3.objs.size + 1, h3.objs.size], ∀ o, h4.get? b = some o → s''.heap.get? b = some o) → Keep s.heap s''.heap → gs'.Goes (model Challenge.rw_wr0014_01.row.prog w) (Ard (dp + 1) (un + 3 + 1) fr' gd) (genR [h1.objs.size, h3.objs.size + 1, h3.objs.size]) (genY s.heap [h1.objs.size, h3.objs.size + 1, h3.objs.size] (escItems 0 false x.cps.toList)) rem'.length (.send .none) s'' := hres
        have hdrop := I.drop
        have hle := I.le
        simp only [List.length_cons] at hit hdrop hle
        have hpc : (p, ch) = (p0, c0) := by
          have h1 := congrArg (fun l => l[0]?) hdrop
          simp only [List.getElem?_drop, Nat.add_zero, List.getElem?_cons_zero] at h1
          have e1 : rem'.length + 1 - 1 + 1 = rem'.length + 1 := rfl
          rw [e1, h1] at hit
          exact (Option.some.inj hit).symm
        cases hpc
        have hdrop2 : (escItems 0 false x.cps.toList).drop ((escItems 0 false x.cps.toList).length - rem'.length) = rem' := by
          rw [show (escItems 0 false x.cps.toList).length - rem'.length = (escItems 0 false x.cps.toList).length - (rem'.length + 1) + 1 from sub_step (by assumption), ← List.drop_drop, hdrop]; rfl
        have N4 : News s.heap Ls h4 [(Rl, PySem.W.listOf vs.toArray nl), (G, og)] := fun q hq => by
          refine ⟨hkp' _ _ ?_ (I.N q hq).1, (I.N q hq).2⟩
          rcases List.mem_cons.mp hq with rfl | hq
          · exact hRS
          · rw [List.mem_singleton.mp hq]; exact hGS
        refine letGo_gen (isG (N4.get (List.mem_cons_of_mem _ (List.mem_cons_self ..)))) ?_
        refine wpAny_assign_Tuple rfl ⟨_, hT4, rfl, k4, rfl⟩ rfl rfl fun h5 hx5 => ?_
        have hk5 : Keep h4 h5 := fun b o hb => hx5 b o (Nat.ne_of_lt (Heap.lt_size hb)) hb
        have F5 := Fr_ext F4 hk5
        obtain ⟨ts, hms⟩ := I.ms
        have hown : News s.heap Ls h4 (ownOf s.heap [h1.objs.size, h3.objs.size + 1, h3.objs.size] h4) := news_ownOf hLS
        have hownm : ∀ b ∈ [h1.objs.size, h3.objs.size + 1, h3.objs.size], ∀ o, h4.get? b = some o → (b, o) ∈ ownOf s.heap [h1.objs.size, h3.objs.size + 1, h3.objs.size] h4 := fun b hb o e => mem_ownOf hb (hSn b hb) e
        have hoff : OwnOff (ownOf s.heap [h1.objs.size, h3.objs.size + 1, h3.objs.size] h4) [Rl] := fun q hq b hb e => by
          rw [List.mem_singleton.mp hb] at e
          exact hRS (e ▸ ownOf_sub q hq)
        generalize ownOf s.heap [h1.objs.size, h3.objs.size + 1, h3.objs.size] h4 = own at hown hownm hoff
        have N5 : News s.heap Ls h5 ((Rl, PySem.W.listOf vs.toArray nl) :: (G, og) :: own) := fun q hq => by
          rcases List.mem_cons.mp hq with rfl | hq
          · exact News_ext N4 hk5 _ (List.mem_cons_self ..)
          · rcases List.mem_cons.mp hq with rfl | hq
            · exact News_ext N4 hk5 _ (List.mem_cons_of_mem _ (List.mem_cons_self ..))
            · exact News_ext hown hk5 _ hq
        have back : ∀ (h9 : Heap) (m9 : Str → Option Value) (tk9 : Nat) (st' : Int) (op' : Option Int) (res' : List Str) (vs' : List Value) (nl' : Nat), Fr s.heap Ls h9 m9 → News s.heap Ls h9 ((Rl, PySem.W.listOf vs'.toArray nl') :: (G, og) :: own) →
            stripGo x rem' st' op' res' = stripGo x ((p, ch) :: rem') st op res → (∃ t, m9 (Str.ofString "start") = some (.int st' t)) → opAt m9 op' → m9 (Str.ofString "result") = some (.ref Rl) → m9 (Str.ofString "addr") = some (.str x t) → StrsAre vs' res' → vs'.length + rem'.length ≤ 1000 →
            ∃ k, k < ((p, ch) :: rem').length + 1 ∧ ∃ rem st op res m vs nl gs, k = rem.length + 1 ∧ s'.os = s.os ∧
              SI w (Ard (dp + 1) (un + 3 + 1) fr' gd) s.heap Ls Rl G [h1.objs.size, h3.objs.size + 1, h3.objs.size] x t (escItems 0 false x.cps.toList) s.gens og rem st op res m vs nl gs { s' with heap := h9, toks := tk9, gens := s.gens.push gs' } :=
          fun h9 m9 tk9 st' op' res' vs' nl' F9 N9 hgo9 hst9 hop9 hr9 ha9 hsa9 hvl9 =>
          ⟨rem'.length + 1, by simp, rem', st', op', res', m9, vs', nl', gs', rfl, hos, ⟨hdrop2, by omega, hgo9.trans I.go, F9, hst9, hop9, hr9, ha9, fun q hq => N9 q (by
              rcases List.mem_cons.mp hq with rfl | hq
              · exact List.mem_cons_self ..
              · rw [List.mem_singleton.mp hq]; exact List.mem_cons_of_mem _ (List.mem_cons_self ..)), hsa9, hvl9, rfl,
            fun s'' hs'' => hgo s'' (fun b hb o e => by rw [hs'']; exact (N9 _ (List.mem_cons_of_mem _ (List.mem_cons_of_mem _ (hownm b hb o e)))).1) (by rw [hs'']; exact F9.keep)⟩⟩
        show wpAny _ _ (do holding [.str ch t2] (assign (.Name (Str.ofString "pos") _) (envOf _ _ _ _ _) (.int p tkk)); do holding [] (assign (.Name (Str.ofString "ch") _) (envOf _ _ _ _ _) (.str ch t2)); pure ()) _ _ _
        refine wpAny_bind (wpAny_holding (wpAny_assign_Name ?_))
        refine stN F5 N5 fun h6 F6 N6 => ?_
        refine wpAny_bind (wpAny_holding (wpAny_assign_Name ?_))
        refine stN F6 N6 fun h7 F7 N7 => wpAny_pure ?_
        obtain ⟨P, hPd⟩ : ∃ P : Shared → Prop, P = fun s₃ => ∃ k, k < ((p, ch) :: rem').length + 1 ∧ ∃ rem st op res m vs nl gs, k = rem.length + 1 ∧ s₃.os = s.os ∧
              SI w (Ard (dp + 1) (un + 3 + 1) fr' gd) s.heap Ls Rl G [h1.objs.size, h3.objs.size + 1, h3.objs.size] x t (escItems 0 false x.cps.toList) s.gens og rem st op res m vs nl gs s₃ := ⟨_, rfl⟩
        refine wpAny_mono (Q := fun fl s₃ => fl = Flow.next ∧ P s₃) (E := fun _ _ => False) ?_ (fun fl s₃ hfl => by obtain ⟨rfl, hfl⟩ := hfl; rw [hPd] at hfl; exact hfl) (fun _ _ hf => hf.elim)
        have back9 := back
        clear back
        have back : ∀ (h9 : Heap) (m9 : Str → Option Value) (tk9 : Nat) (st' : Int) (op' : Option Int) (res' : List Str) (vs' : List Value) (nl' : Nat), Fr s.heap Ls h9 m9 → News s.heap Ls h9 ((Rl, PySem.W.listOf vs'.toArray nl') :: (G, og) :: own) →
            stripGo x rem' st' op' res' = stripGo x ((p, ch) :: rem') st op res → (∃ t, m9 (Str.ofString "start") = some (.int st' t)) → opAt m9 op' → m9 (Str.ofString "result") = some (.ref Rl) → m9 (Str.ofString "addr") = some (.str x t) → StrsAre vs' res' → vs'.length + rem'.length ≤ 1000 →
            P { s' with heap := h9, toks := tk9, gens := s.gens.push gs' } := fun h9 m9 tk9 st' op' res' vs' nl' a1 a2 a3 a4 a5 a6 a7 a8 a9 => by rw [hPd]; exact back9 h9 m9 tk9 st' op' res' vs' nl' a1 a2 a3 a4 a5 a6 a7 a8 a9
        clear hPd back9
        have hmo := I.mo
        have hapt : Apt Rl ((G, og) :: own) := fun q hq e => by
          rcases List.mem_cons.mp hq with rfl | hq
          · have h9 : @Eq Nat G Rl := e
            have h10 : @LT.lt Nat _ Rl h1.objs.size := hRlt
            omega
          · exact hoff q hq Rl (List.mem_cons_self ..) e
        have hvl := I.vl
        simp only [List.length_cons] at hvl
        have hvl2 : vs.length ≤ 1000 := by omega
        clear hkp hkp' hres hTn hTS hT4 hit F4 F5 F6 N4 N5 N6 hk5 hx5
        obtain ⟨Imr, Ima, Isa⟩ : _ ∧ _ ∧ _ := ⟨I.mr, I.ma, I.sa⟩
        have hlen' := I.le
        have back' := PLift.up back
        clear back hgo I hownm e8 hdrop hle hdrop2 hlt hSn hRS hGS hLS hS4 hlen'
        have isa' := PLift.up Isa
        have hall := PLift.up (And.intro hms (And.intro hmo (And.intro Imr Ima)))
        cases op with
        | none =>
          rw [map_known4 hms hmo Imr Ima] at F7
          clear hms hmo Imr Ima Isa isG hA FL ns2 hog hGn gG
          iterate 7 walk1
          by_cases hch : ch = Str.ofString "\""
          · rw [if_pos (by rw [hch]; exact beq_self_eq_true _)]
            repeat' (first | (k_unfold; (try dsimp only)) | walk1 | (dsimp only; walk1))
            with_reducible rename (Fr _ _ _ _) => F9
            with_reducible rename (News _ _ _ _) => N9
            exact back'.down _ _ _ st (some p) res vs nl F9 N9 (by rw [stripGo, if_pos hch]) ⟨_, rfl⟩ ⟨_, rfl⟩ rfl rfl isa'.down (by omega)
          · rw [if_neg (fun hq => hch (beq_iff_eq.mp hq))]
            repeat' (first | (k_unfold; (try dsimp only)) | walk1 | (dsimp only; walk1))
            exact back'.down _ _ _ st none res vs nl F7 N7 (by rw [stripGo, if_neg hch]) ⟨_, rfl⟩ rfl rfl rfl isa'.down (by omega)
        | some o =>
          obtain ⟨to, hmo⟩ := hmo
          rw [map_known4 hms hmo Imr Ima] at F7
          clear hms hmo Imr Ima Isa isG hA FL ns2 hog hGn gG
          iterate 7 walk1
          by_cases hch : ch = Str.ofString "\""
          · rw [if_pos (by rw [hch]; exact beq_self_eq_true _)]
            have hq1 : st ≠ o → stripGo x rem' (p + 1) none (res ++ [slc x st o]) = stripGo x ((p, Str.ofString "\"") :: rem') st (some o) res := fun hso => by
              rw [stripGo, if_pos rfl]; rw [if_neg hso]
            have hq2 : st = o → stripGo x rem' (p + 1) none res = stripGo x ((p, Str.ofString "\"") :: rem') st (some o) res := fun hso => by
              rw [stripGo, if_pos rfl]; rw [if_pos hso]
            subst hch
            have hq1' := PLift.up hq1
            have hq2' := PLift.up hq2
            clear hq1 hq2
            repeat' (first | (k_unfold; (try dsimp only)) | walk1 | (dsimp only; walk1))
            · with_reducible rename (Fr _ _ _ _) => F9
              with_reducible rename (News _ _ _ _) => N9
              refine back'.down _ _ _ (p + 1) none (res ++ [slc x st o]) _ _ F9 N9 (hq1'.down ?_) ⟨_, rfl⟩ rfl rfl rfl (isa'.down.append' (.cons _ _ .nil)) (by simp only [List.length_append, List.length_cons, List.length_nil]; omega)
              assumption
            · with_reducible rename (Fr _ _ _ _) => F9
              with_reducible rename (News _ _ _ _) => N9
              refine back'.down _ _ _ (p + 1) none res _ _ F9 N9 (hq2'.down ?_) ⟨_, rfl⟩ rfl rfl rfl isa'.down (by omega)
              assumption
          · rw [if_neg (fun hq => hch (beq_iff_eq.mp hq))]
            repeat' (first | (k_unfold; (try dsimp only)) | walk1 | (dsimp only; walk1))
            exact back'.down _ _ _ st (some o) res vs nl F7 N7 (by rw [stripGo, if_neg hch]) ⟨_, rfl⟩ ⟨_, rfl⟩ rfl rfl isa'.down (by omega)
    · intro s₁ hP h5 hk5
      obtain ⟨hn0, ⟨⟨h4, tk4, rfl⟩, hkp⟩⟩ := hP
      have hkp' : Kp [h1.objs.size, h3.objs.size + 1, h3.objs.size] s'.heap h4 := hkp
      have hrem : rem = [] := List.length_eq_zero_iff.mp hn0
      subst hrem
      have F4 : Fr s.heap Ls h4 m := Fr_but I.F hLS hSn hkp'
      have F5 := Fr_ext F4 hk5
      have N4 : News s.heap Ls h4 [(Rl, PySem.W.listOf vs.toArray nl)] := fun q hq => by
        rw [List.mem_singleton.mp hq]
        exact ⟨hkp' _ _ hRS (I.N _ (List.mem_cons_self ..)).1, (I.N _ (List.mem_cons_self ..)).2⟩
      have N5 := News_ext N4 hk5
      obtain ⟨ts, hms⟩ := I.ms
      have hgo := I.go
      have hlen9 := stripGo_len (x := x) (escItems 0 false x.cps.toList) 0 none [] (fun _ h => by simp at h)
      have hst9 : stripOf x = Txt.join Str.empty (if st < (x.length : Int) then res ++ [Txt.slice x (some st) none] else res) := by
        unfold stripOf
        rw [← hgo]; rfl
      rw [← hgo] at hlen9
      have hvl := I.vl
      have hrl : vs.length = res.length := StrsAre.len_eq I.sa
      have hw1 : (res.map (·.length)).sum + res.length ≤ 1048576 := strip_weight hx hlen9 (by simp only [List.length_nil] at hvl; omega)
      have hw2 : ((res ++ [Txt.slice x (some st) none]).map (·.length)).sum + (res ++ [Txt.slice x (some st) none]).length ≤ 1048576 := strip_weight hx (fun r hr => by
        rcases List.mem_append.mp hr with hr | hr
        · exact hlen9 r hr
        · rw [List.mem_singleton.mp hr]; exact PyProof.Txt.length_slice_le x _ _) (by simp only [List.length_append, List.length_cons, List.length_nil] at hvl ⊢; omega)
      have e8 : ({ ({ s'.setGen s.gens.size .running with heap := h4, toks := tk4 } : Shared).setGen s.gens.size .finished with heap := h5 } : Shared) = { s' with heap := h5, toks := tk4, gens := s.gens.push .finished } := by
        simp only [Shared.setGen, I.gens, push_set]
      rw [e8]
      have hall := PLift.up (And.intro hms (And.intro I.mr I.ma))
      have hKp : ∀ h9 : Heap, Keep s.heap h9 → PLift (Keep s.heap h9) := fun _ k => ⟨k⟩
      have hend' : PLift (∀ t s', Keep s.heap s'.heap → s'.os = s.os → AllBare s'.gens → Q (.str (stripOf x) t) s') := ⟨h⟩
      have hg9 : PLift (AllBare (s.gens.push .finished)) := ⟨hbare.push rfl⟩
      have isa' := PLift.up I.sa
      rw [map_known4 hms I.mr I.ma I.ma] at F5
      have hw12 := PLift.up (And.intro hw1 hw2)
      have hos' := PLift.up hos
      have hst9' := PLift.up hst9
      clear h hbare hw1 hw2 hos hst9 hms hgo hlen9 I hKp hk5 N4 F4 hkp hkp' e8 hRS hLS hGS hSn FL ns2 hog hGn gG isG hA
      show wpAny _ _ (execs [] _) _ _ _
      repeat' (first | (k_unfold; (try dsimp only)) | walk1 | (dsimp only; walk1))
      · unfold Stop
        with_reducible rename (Fr _ _ _ _) => F9
        with_reducible rename (News _ _ _ _) => N9
        refine join_listW (ys := res ++ [Txt.slice x (some st) none]) (News.isList N9 (.head _)) (by rw [Array.toList_push]; exact isa'.down.append' (.cons _ _ .nil)) (by decide) hw12.down.2 (fun t' k => ?_)
        have e9 := hst9'.down
        rw [if_pos (by assumption)] at e9
        have q9 := hend'.down t'
        rw [e9] at q9
        exact q9 _ F9.keep hos'.down hg9.down
      · unfold Stop
        refine join_listW (ys := res) (News.isList N5 (.head _)) isa'.down (by decide) hw12.down.1 (fun t' k => ?_)
        have e9 := hst9'.down
        rw [if_neg (by assumption)] at e9
        have q9 := hend'.down t'
        rw [e9] at q9
        exact q9 _ F5.keep hos'.down hg9.down
  · have hz : s''.heap = h3 := hs''
    rw [← hz]
    refine gen_start X T rfl rfl rfl rfl rfl rfl rfl _ rfl (by rw [hz]; exact FL) hesc
end
end Mine
namespace Mine
set_option maxRecDepth 100000
open PySem PySem.W PySem.Calls PyProof.Rows PySem.Spec

noncomputable def lawBody (p : Params) : List Stmt := match (Mine.hd.heap_39 p).lookup 80 with | some ⟨_, _, .func d, _⟩ => (match d.body with | .stmts b => b | _ => []) | _ => []
noncomputable def lawScope (p : Params) : Scope := match (Mine.hd.heap_39 p).lookup 80 with | some ⟨_, _, .func d, _⟩ => d.scope | _ => default
end Mine
namespace Mine
set_option maxRecDepth 100000
open PySem PySem.W PySem.Calls PyProof.Rows PySem.Spec
/-- what _ellipsis_match answers -/
noncomputable def EllIs (w : World) (want got : Str) (b : Bool) : Prop :=
  ∀ {dp un : Nat} {fr : Option (List Env)} {gd : Option (List Code)} {s : Shared} {mean : ExcName → Option Value} {mg mb : Str → Option Value} {Q E : Value → Shared → Prop} {ta tb : Tok},
    (Mine.hd.heap_39 w.params).In s.heap → Top Mine.hd.view_39 (looseW Mine.hd.view_39 []) mean mg mb s.heap → dp + 1 < recursionLimit →
    (∀ h' tk, Keep s.heap h' → Q (.bool b) { s with heap := h', toks := tk }) →
    wpAny (model Challenge.rw_wr0014_01.row.prog w) (Ard dp un fr gd) (call (.ref 21) [.str want ta, .str got tb]) Q E s
/-- what _strip_quoted_realnames answers -/
noncomputable def StripIs (w : World) (x y : Str) : Prop :=
  ∀ {dp un : Nat} {fr : Option (List Env)} {gd : Option (List Code)} {s : Shared} {mean : ExcName → Option Value} {mg mb : Str → Option Value} {Q E : Value → Shared → Prop} {t : Tok},
    (Mine.hd.heap_39 w.params).In s.heap → Top Mine.hd.view_39 (looseW Mine.hd.view_39 []) mean mg mb s.heap → dp + 5 < recursionLimit → AllBare s.gens →
    (∀ t s', Keep s.heap s'.heap → s'.os = s.os → AllBare s'.gens → Q (.str y t) s') →
    wpAny (model Challenge.rw_wr0014_01.row.prog w) (Ard dp un fr gd) (call (.ref 35) [.str x t]) Q E s
theorem StripIs.no {w : World} {x : Str} (hno : (Builtin.Str.occurrences x (Str.ofString "\"") 0 x.length 1).isEmpty = true) : StripIs w x x := by
  intro dp un fr gd s mean mg mb Q E t X T hd hb h
  exact strip_no X T (by omega) hno fun t h' tk k => h t { s with heap := h', toks := tk } k rfl hb
theorem StripIs.yes {w : World} {x : Str} (hin : (Builtin.Str.occurrences x (Str.ofString "\"") 0 x.length 1).isEmpty = false) (hx : x.length ≤ 1000) (hesc : escEnd false x.cps.toList = false) : StripIs w x (stripOf x) := by
  intro dp un fr gd s mean mg mb Q E t X T hd hb h
  exact strip_yes X T hd hb hin hx hesc h
theorem News_ne {h₀ h : Heap} {L x : Addr} {news : List (Addr × Obj)} (N : News h₀ L h news) (hx : h.get? x = none) : ∀ p ∈ news, @Ne Nat p.1 x := fun p hp e => by
  have h1 := (N p hp).1
  rw [show p.1 = x from e, hx] at h1; cases h1
theorem gauss_call {w : World} {dp un : Nat} {fr : Option (List Env)} {gd : Option (List Code)} {s : Shared} {mean : ExcName → Option Value} {mg mb : Str → Option Value} {Q E : Value → Shared → Prop} {A b q : Int} {ta tb tq : Tok}
    (X : (Mine.hd.heap_39 w.params).In s.heap) (T : Top Mine.hd.view_39 (looseW Mine.hd.view_39 []) mean mg mb s.heap) (hd : dp + 9 < recursionLimit) (hq : q.natAbs ≤ 1000) (h0 : 0 ≤ A) (h1 : A ≤ 6)
    (h : ∀ t h' tk, Keep s.heap h' → Q (.int (gauss A.toNat b q) t) { s with heap := h', toks := tk }) :
    wpAny (model Challenge.rw_wr0014_01.row.prog w) (Ard dp un fr gd) (call (.ref 75) [.int A ta, .int b tb, .int q tq]) Q E s :=
  gauss_spec q tq hq A.toNat b A ta tb dp un fr s Q E (by omega) (by omega) (by omega) X T h
theorem sum_my {prog : Program} {w : World} {A : Around} {E : Value → Shared → Prop} {s : Shared} {Q : Value → Shared → Prop} {l : Addr} {us : List Value} {zs : List Int} (hh : A.handled = none) (hl : s.heap.IsList l us.toArray) (hi : IntsAre us zs)
    (h : ∀ h' tk t', Keep s.heap h' → Q (.int zs.sum t') { s with heap := h', toks := tk }) : wpAny (model prog w) A (call (.builtin "sum") [.ref l]) Q E s := by
  obtain ⟨xs, hxs⟩ := hi.allInts.items
  rw [hxs] at hl
  refine sum_intListG hh hl fun h' tk t' hk => ?_
  have h1 : zs.sum = preSum (numAt xs) xs.size := by
    have h2 := nums_intItems xs
    rw [← hxs] at h2
    have h3 : numsOf us = xs.toList.map (·.1) := h2
    rw [preSum_eq, List.take_of_length_le (by simp), ← h3, hi.numsOf]
  rw [← h1]
  exact h h' tk t' hk
theorem ints_numsOf : ∀ {l : List Value}, (∀ v ∈ l, ∃ i t, v = .int i t) → IntsAre l (numsOf l)
  | [], _ => .nil
  | v :: r, h => by
    obtain ⟨i, t, rfl⟩ := h v (List.mem_cons_self ..)
    exact .cons i t (ints_numsOf fun u hu => h u (List.mem_cons_of_mem _ hu))
theorem pick_ints {vs : List Value} {ns : List Int} (hi : IntsAre vs ns) (lo hi' st : Option Int) : IntsAre (slicePick vs.toArray lo hi' st).toList (numsOf (slicePick vs.toArray lo hi' st).toList) := by
  refine ints_numsOf fun v hv => ?_
  unfold slicePick at hv
  simp only [List.mem_filterMap] at hv
  obtain ⟨j, _, hj⟩ := hv
  have hm : v ∈ vs.toArray := Array.mem_of_getElem? hj
  exact hi.allInts v hm
-- the calls in the ledger's words
section
variable {w : World} {dp un : Nat} {fr : Option (List Env)} {gd : Option (List Code)} {s : Shared} {mean : ExcName → Option Value} {mg mb : Str → Option Value}
    {Q E : Value → Shared → Prop} {h₀ : Heap} {L : Addr} {m : Str → Option Value} {news : List (Addr × Obj)}
    (X : (Mine.hd.heap_39 w.params).In h₀) (T : Top Mine.hd.view_39 (looseW Mine.hd.view_39 []) mean mg mb h₀) (hd : dp + 9 < recursionLimit) (F : Fr h₀ L s.heap m) (N : News h₀ L s.heap news)
include X T hd F N
theorem strcoll_L {a b : Str} {ta tb : Tok} (h : ∀ t h' tk, Fr h₀ L h' m → News h₀ L h' news → Q (.int (strcollI a b) t) { s with heap := h', toks := tk }) :
    wpAny (model Challenge.rw_wr0014_01.row.prog w) (Ard dp un fr gd) (call (.ref 42) [.str a ta, .str b tb]) Q E s :=
  strcoll_spec (by k_in) (Top.keeps T F.keep) (by omega) fun t h' tk k => h t h' tk (Fr_ext F k) (News_ext N k)
theorem add_L {a b : Int} {ta tb : Tok} (h : ∀ t h' tk, Fr h₀ L h' m → News h₀ L h' news → Q (.int (a + b) t) { s with heap := h', toks := tk }) :
    wpAny (model Challenge.rw_wr0014_01.row.prog w) (Ard dp un fr gd) (call (.ref 49) [.int a ta, .int b tb]) Q E s :=
  add_spec (by k_in) (Top.keeps T F.keep) (by omega) fun t h' tk k => h t h' tk (Fr_ext F k) (News_ext N k)
theorem addl_L {l r : Addr} {xs ys : List Value} (hl : s.heap.IsList l xs.toArray) (hr : s.heap.IsList r ys.toArray) (hs : xs.length + ys.length ≤ 1000)
    (h : ∀ x h' tk, Fr h₀ L h' m → News h₀ L h' ((x, PySem.W.listOf (xs ++ ys).toArray 0) :: news) → (∀ p ∈ news, @Ne Nat p.1 x) → Q (.ref x) { s with heap := h', toks := tk }) :
    wpAny (model Challenge.rw_wr0014_01.row.prog w) (Ard dp un fr gd) (call (.ref 49) [.ref l, .ref r]) Q E s :=
  addl_spec (by k_in) (Top.keeps T F.keep) (by omega) hl hr hs fun x h' tk k hn hx => h x h' tk (Fr_ext F k) (News_cons F N k hn hx) (News_ne N hn)
theorem mul_L {a b : Int} {ta tb : Tok} (hm : IntMulOk a b) (h : ∀ t h' tk, Fr h₀ L h' m → News h₀ L h' news → Q (.int (a * b) t) { s with heap := h', toks := tk }) :
    wpAny (model Challenge.rw_wr0014_01.row.prog w) (Ard dp un fr gd) (call (.ref 56) [.int a ta, .int b tb]) Q E s :=
  mul_spec hm (by k_in) (Top.keeps T F.keep) (by omega) fun t h' tk k => h t h' tk (Fr_ext F k) (News_ext N k)
theorem ipow_L {a b : Int} {ta tb : Tok} (h0 : 0 ≤ b) (h1 : b ≤ 20) (hq : a.natAbs ≤ 1000) (h : ∀ t h' tk, Fr h₀ L h' m → News h₀ L h' news → Q (.int (a ^ b.toNat) t) { s with heap := h', toks := tk }) :
    wpAny (model Challenge.rw_wr0014_01.row.prog w) (Ard dp un fr gd) (call (.ref 63) [.int a ta, .int b tb]) Q E s :=
  ipow_spec (by k_in) (Top.keeps T F.keep) (by omega) h0 h1 hq fun t h' tk k => h t h' tk (Fr_ext F k) (News_ext N k)
theorem gauss_L {A b q : Int} {ta tb tq : Tok} (hq : q.natAbs ≤ 1000) (h0 : 0 ≤ A) (h1 : A ≤ 6) (h : ∀ t h' tk, Fr h₀ L h' m → News h₀ L h' news → Q (.int (gauss A.toNat b q) t) { s with heap := h', toks := tk }) :
    wpAny (model Challenge.rw_wr0014_01.row.prog w) (Ard dp un fr gd) (call (.ref 75) [.int A ta, .int b tb, .int q tq]) Q E s :=
  gauss_call (by k_in) (Top.keeps T F.keep) hd hq h0 h1 fun t h' tk k => h t h' tk (Fr_ext F k) (News_ext N k)
theorem falls_L {l : Addr} {vs : List Value} {ws : List Str} (hl : s.heap.IsList l vs.toArray) (hs : StrsAre vs ws) (hn : ws.length ≤ 5)
    (h : ∀ x h' tk ys, Fr h₀ L h' m → News h₀ L h' ((x, LCg.lst ys) :: news) → (∀ p ∈ news, @Ne Nat p.1 x) → IntsAre ys (fallsOf ws) → ys.length ≤ 4 → Q (.ref x) { s with heap := h', toks := tk }) :
    wpAny (model Challenge.rw_wr0014_01.row.prog w) (Ard dp un fr gd) (call (.ref 68) [.ref l]) Q E s :=
  falls_spec (by k_in) (Top.keeps T F.keep) (by omega) hl hs hn fun x h' tk ys k hn hx hi hl => h x h' tk ys (Fr_ext F k) (News_cons F N k hn hx) (News_ne N hn) hi hl
theorem ell_L {want got : Str} {b : Bool} {ta tb : Tok} (hE : EllIs w want got b) (h : ∀ h' tk, Fr h₀ L h' m → News h₀ L h' news → Q (.bool b) { s with heap := h', toks := tk }) :
    wpAny (model Challenge.rw_wr0014_01.row.prog w) (Ard dp un fr gd) (call (.ref 21) [.str want ta, .str got tb]) Q E s :=
  hE (by k_in) (Top.keeps T F.keep) (by omega) fun h' tk k => h h' tk (Fr_ext F k) (News_ext N k)
theorem strip_L {x y : Str} {t : Tok} (hE : StripIs w x y) (hb : AllBare s.gens) (h : ∀ t s', Fr h₀ L s'.heap m → News h₀ L s'.heap news → s'.os = s.os → AllBare s'.gens → Q (.str y t) s') :
    wpAny (model Challenge.rw_wr0014_01.row.prog w) (Ard dp un fr gd) (call (.ref 35) [.str x t]) Q E s :=
  hE (by k_in) (Top.keeps T F.keep) (by omega) hb fun t s' k ho hb => h t s' (Fr_ext F k) (News_ext N k) ho hb
end
theorem sum_L {prog : Program} {w : World} {A : Around} {E : Value → Shared → Prop} {s : Shared} {Q : Value → Shared → Prop} {h₀ : Heap} {L : Addr} {m : Str → Option Value} {news : List (Addr × Obj)} (F : Fr h₀ L s.heap m) (N : News h₀ L s.heap news) {l : Addr} {us : List Value} {zs : List Int} (hh : A.handled = none) (hl : s.heap.IsList l us.toArray) (hi : IntsAre us zs)
    (h : ∀ t' h' tk, Fr h₀ L h' m → News h₀ L h' news → Q (.int zs.sum t') { s with heap := h', toks := tk }) : wpAny (model prog w) A (call (.builtin "sum") [.ref l]) Q E s :=
  sum_my hh hl hi fun h' tk t' k => h t' h' tk (Fr_ext F k) (News_ext N k)
end Mine
namespace Mine
set_option maxRecDepth 100000
open PySem PySem.W PySem.Calls PyProof.Rows PySem.Spec
theorem lt5_of {k : Int} (h : k < 0 + ((((5 : Int) - 0).toNat : Nat) : Int)) : k < 5 := h
local macro_rules | `(tactic| walk_at "eval BinOp") => `(tactic| ((with_reducible rename (_ < 0 + ((((5 : Int) - 0).toNat : Nat) : Int)) => h8); have h9 := lt5_of h8; clear h8))
local macro_rules | `(tactic| walk_at "call builtin:sum") => `(tactic| (
  (with_reducible rename Fr _ _ _ _ => F8)
  (with_reducible rename News _ _ _ _ => N8)
  refine sum_L (by exact F8) (by exact N8) rfl (by exact News.isList N8 (.head _)) (pick_ints (by with_reducible assumption) _ _ _) ?_
  intro _ _ _ _ _
  clear F8 N8
  (try dsimp only)))

section
variable {w : World} {dp un : Nat} {fr : Option (List Env)} {gd : Option (List Code)} {s : Shared} {mean : ExcName → Option Value} {mg mb : Str → Option Value}
    {Q : Flow → Shared → Prop} {E : Value → Shared → Prop} {h₀ : Heap} {L fa : Addr} {cd : Value}
set_option maxHeartbeats 4000000 in
theorem st1 {m : Str → Option Value} {a B : Addr} {vs : List Value} {ns : List Int} {t1 t2 t3 t4 t5 : Tok} {o1 o2 o3 : Obj} {nb : Nat}
    (X : (Mine.hd.heap_39 w.params).In h₀) (T : Top Mine.hd.view_39 (looseW Mine.hd.view_39 []) mean mg mb h₀) (hd : dp + 9 < recursionLimit)
    (F : Fr h₀ L s.heap (fun _ => none)) (N : News h₀ L s.heap [(B, PySem.W.listOf #[.int 198 t1, .int 60 t2, .int 308 t3, .int 155 t4, .int 282 t5] nb), (L + 3, o3), (L + 2, o2), (L + 1, o1)])
    (d2 : o2.data = Data.cell (some (.ref B))) (d1 : o1.data = Data.cell (some (.ref a)))
    (hl : h₀.IsList a vs.toArray) (hi : IntsAre vs ns) (hn : ns.length ≤ 63)
    (h : ∀ h' tk D ys xs, Fr h₀ L h' (fun z => if z = Str.ofString "numbers" then some (.ref D) else none) → News h₀ L h' [(D, LCg.lst ys), (B, PySem.W.listOf #[.int 198 t1, .int 60 t2, .int 308 t3, .int 155 t4, .int 282 t5] nb), (L + 3, o3), (L + 2, o2), (L + 1, o1)] →
      IntsAre ys xs → xs.length = 5 → (∀ x ∈ xs, 0 ≤ x ∧ x < 1000000) → Q .next { s with heap := h', toks := tk }) :
    wpAny (model Challenge.rw_wr0014_01.row.prog w) (Ard dp un fr gd) (exec (stmtAt (lawBody w.params) 1) (envOfC (Str.ofString "law") (lawScope w.params) L fa cd)) Q E s := by
  revert X; k_fill; intro X
  w_on
  conv in stmtAt _ _ => whnf
  conv in lawScope _ => whnf
  repeat' (first | (k_unfold; (try dsimp only)) | walk1 | (dsimp only; walk1))
  refine h _ _ _ _ _ (by assumption) (by assumption) (by assumption) rfl ?_
  intro x hx
  obtain ⟨k, hk, rfl⟩ := List.mem_map.mp hx
  have hk5 := (mem_rangeKs hk).2
  rw [if_pos (by omega)]
  exact ⟨Int.fmod_nonneg_of_pos _ (by decide), Int.fmod_lt_of_pos _ (by decide)⟩
end
end Mine
namespace Mine
set_option maxRecDepth 100000
open PySem PySem.W PySem.Calls PyProof.Rows PySem.Spec

/-- the end of one turn: the state may have new generators, the ledger's addresses stay -/
noncomputable def TurnEnd (h₀ : Heap) (L : Addr) (J : (Str → Option Value) → List (Addr × Obj) → Prop) (own : List (Addr × Obj)) (ad : List Addr) (os : OsState) (B : Value → Shared → Prop) : Flow → Shared → Prop := fun fl s =>
  match fl with
  | .ret v => B v s
  | .brk => False
  | _ => ∃ m news, Fr h₀ L s.heap m ∧ News h₀ L s.heap (news ++ own) ∧ J m news ∧ news.map (·.1) = ad ∧ AllBare s.gens ∧ s.os = os

section
variable {prog : Program} {w : World} {A : Around} {E : Value → Shared → Prop} {s : Shared} {h₀ : Heap} {env : Env} {v : Str} {vp : Pos} {body : List Stmt}

theorem my_loop {R : Result → Shared → Prop} {I : Addr} {n : Nat} {P : Nat → Value → Prop} {St : Nat → Heap → Prop} {m : Str → Option Value} {news : List (Addr × Obj)} (J : Nat → (Str → Option Value) → List (Addr × Obj) → Prop)
    (W : Walks prog w A I [I] [I] n P St) (hlive : ∀ i h, St i h → ∃ o, h.get? I = some o) (hk : env.kindOf v = some .local) (hkf : env.scope.kind = .function)
    (hLI : env.locals ≠ I) (hI : h₀.get? I = none) (hnI : ∀ p ∈ news, p.1 ≠ I) (hst : St 0 s.heap) (F : Fr h₀ env.locals s.heap m) (N : News h₀ env.locals s.heap news) (hg : AllBare s.gens) (h0 : J 0 m news)
    (turn : ∀ i x m₁ news₁ s₁ I o, i < n → P i x → J i m₁ news₁ → (∀ b ∈ news.map (·.1), @Ne Nat I b) → news₁.map (·.1) = news.map (·.1) → Fr h₀ env.locals s₁.heap (fun y => if y = v then some x else m₁ y) → News h₀ env.locals s₁.heap (news₁ ++ [(I, o)]) → AllBare s₁.gens → s₁.os = s.os →
      wpAny (model prog w) A (execs body env) (TurnEnd h₀ env.locals (J (i + 1)) [(I, o)] (news.map (·.1)) s.os (fun v s' => R (.ok (.ret v)) s')) (fun _ _ => False) s₁)
    (done : ∀ m₁ news₁ s₁, J n m₁ news₁ → Fr h₀ env.locals s₁.heap m₁ → News h₀ env.locals s₁.heap news₁ → AllBare s₁.gens → s₁.os = s.os → R (.ok .next) s₁) :
    codeAny (model prog w) A (.forLoop (.Name v vp) (.ref I) body [] env) R s := by
  refine codeAny_forLoop_any
    (fun k s' => ∃ m' news' i, St i s'.heap ∧ Fr h₀ env.locals s'.heap m' ∧ News h₀ env.locals s'.heap news' ∧ news'.map (·.1) = news.map (·.1) ∧ AllBare s'.gens ∧ s'.os = s.os ∧ J i m' news' ∧ i ≤ n ∧ k = n + 1 - i) ?_ (n + 1)
    ⟨m, news, 0, hst, F, N, rfl, hg, rfl, h0, Nat.zero_le _, rfl⟩
  rintro k s' ⟨m', news', i, hst', F', N', had, hg', hos', hJ, hi, rfl⟩
  have hnI' : ∀ p ∈ news', p.1 ≠ I := fun p hp e => by
    have h1 : p.1 ∈ news.map (·.1) := had ▸ List.mem_map_of_mem hp
    obtain ⟨q, hq, hqe⟩ := List.mem_map.mp h1
    exact hnI q hq (hqe.trans e)
  have next : ∀ h₁ : Heap, (∀ b o, b ∉ [I] → s'.heap.get? b = some o → h₁.get? b = some o) → Fr h₀ env.locals h₁ m' ∧ News h₀ env.locals h₁ news' := fun h₁ hk₁ =>
    ⟨⟨F'.ns.at' fun o e => hk₁ _ o (fun hq => hLI (List.mem_singleton.mp hq)) e, fun b o e => hk₁ b o (fun hq => by rw [List.mem_singleton.mp hq, hI] at e; cases e) (F'.keep b o e), F'.above⟩,
      fun p hp => ⟨hk₁ _ _ (fun hq => hnI' p hp (List.mem_singleton.mp hq)) (N' p hp).1, (N' p hp).2⟩⟩
  by_cases hlt : i < n
  · refine W.item i s' _ _ hlt hst' fun x h₁ tk₁ hP hst₁ hk₁ => ?_
    obtain ⟨F₁, N₁⟩ := next h₁ hk₁
    refine wpAny_pure ?_
    obtain ⟨o, ho⟩ := hlive _ _ hst₁
    have N₂ : News h₀ env.locals h₁ (news' ++ [(I, o)]) := fun q hq => by
      rcases List.mem_append.mp hq with hq | hq
      · exact N₁ q hq
      · rw [List.mem_singleton.mp hq]; exact ⟨ho, hLI.symm, hI⟩
    have hoff : ∀ b ∈ news.map (·.1), @Ne Nat I b := fun b hb e => by
      obtain ⟨r, hr, hre⟩ := List.mem_map.mp hb
      exact hnI r hr (hre.trans (Eq.symm e))
    refine wpAny_assign_Name ?_
    refine wpAny_storeName_local (s := { s' with heap := h₁, toks := tk₁ }) hk F₁.ns (fun h₂ hn₂ hs₂ => ?_) (by rw [hkf]; rfl)
    have F₂ := F₁.set hn₂ hs₂
    have N₃ := N₂.set hs₂
    refine wpAny_mono (turn i x m' news' { s' with heap := h₂, toks := tk₁ + 1 } I o hlt hP hJ hoff had F₂ N₃ hg' hos') (fun fl s₃ h₃ => ?_) (fun _ _ hf => hf.elim)
    have fin : (∃ m news₉, Fr h₀ env.locals s₃.heap m ∧ News h₀ env.locals s₃.heap (news₉ ++ [(I, o)]) ∧ J (i + 1) m news₉ ∧ news₉.map (·.1) = news.map (·.1) ∧ AllBare s₃.gens ∧ s₃.os = s.os) →
        ∃ k, k < n + 1 - i ∧ ∃ m' news' i, St i s₃.heap ∧ Fr h₀ env.locals s₃.heap m' ∧ News h₀ env.locals s₃.heap news' ∧ news'.map (·.1) = news.map (·.1) ∧ AllBare s₃.gens ∧ s₃.os = s.os ∧ J i m' news' ∧ i ≤ n ∧ k = n + 1 - i := by
      rintro ⟨m₄, news₄, F₄, N₄, hJ₄, had₄, hg₄, hos₄⟩
      refine ⟨n + 1 - (i + 1), by omega, m₄, news₄, i + 1, ?_, F₄, fun q hq => N₄ q (List.mem_append_left _ hq), had₄, hg₄, hos₄, hJ₄, hlt, rfl⟩
      refine W.frame _ h₁ _ hst₁ fun b hb o' e => ?_
      rw [List.mem_singleton.mp hb] at e ⊢
      rw [ho] at e
      rw [← Option.some.inj e]
      exact (N₄ (I, o) (List.mem_append_right _ (List.mem_singleton.mpr rfl))).1
    cases fl with
    | ret v => exact h₃
    | brk => exact h₃.elim
    | cont => exact fin h₃
    | next => exact fin h₃
  · have hin : i = n := by omega
    subst hin
    refine W.done s' _ _ hst' fun h₁ tk₁ hk₁ => wpAny_execs_nil ?_
    obtain ⟨F₁, N₁⟩ := next h₁ hk₁
    exact done m' news' { s' with heap := h₁, toks := tk₁ } hJ F₁ N₁ hg' hos'

theorem range_loop {R : Result → Shared → Prop} {r : Addr} {t u v' : Tok} {n : Nat} {m : Str → Option Value} {news : List (Addr × Obj)} (J : Nat → (Str → Option Value) → List (Addr × Obj) → Prop)
    (hh : A.handled = none) (hr : IsRange s.heap r 0 (n : Int) 1 t u v') (hsmall : Builtin.Range.small 0 (n : Int) 1 = true) (hsz : Builtin.Range.rangeSize 0 (n : Int) 1 = (n : Int)) (hk : env.kindOf v = some .local) (hkf : env.scope.kind = .function)
    (F : Fr h₀ env.locals s.heap m) (N : News h₀ env.locals s.heap news) (hg : AllBare s.gens) (h0 : J 0 m news)
    (turn : ∀ i t m₁ news₁ s₁ I o, i < n → J i m₁ news₁ → (∀ b ∈ news.map (·.1), @Ne Nat I b) → news₁.map (·.1) = news.map (·.1) → Fr h₀ env.locals s₁.heap (fun y => if y = v then some (.int ((i : Nat) : Int) t) else m₁ y) → News h₀ env.locals s₁.heap (news₁ ++ [(I, o)]) → AllBare s₁.gens → s₁.os = s.os →
      wpAny (model prog w) A (execs body env) (TurnEnd h₀ env.locals (J (i + 1)) [(I, o)] (news.map (·.1)) s.os (fun v s' => R (.ok (.ret v)) s')) (fun _ _ => False) s₁)
    (done : ∀ m₁ news₁ s₁, J n m₁ news₁ → Fr h₀ env.locals s₁.heap m₁ → News h₀ env.locals s₁.heap news₁ → AllBare s₁.gens → s₁.os = s.os → R (.ok .next) s₁) :
    wpAny (model prog w) A (pyIter (.ref r)) (fun it s₂ => codeAny (model prog w) A (.forLoop (.Name v vp) it body [] env) R s₂) E s := by
  refine wpAny_pyIter_range hr hsmall ?_
  rw [hsz]
  have W := Walks.range (prog := prog) (w := w) (A := A) hh s.heap.objs.size 0 1 n
  have hsome : ∀ p ∈ news, @LT.lt Nat _ p.1 s.heap.objs.size := fun p hp => Heap.lt_size (N p hp).1
  have hL : @LT.lt Nat _ env.locals s.heap.objs.size := F.ns.lt
  have hI : h₀.get? s.heap.objs.size = none := by
    cases hq : h₀.get? s.heap.objs.size with
    | none => rfl
    | some o =>
      have h1 := Heap.lt_size (F.keep _ _ hq)
      exact absurd h1 (Nat.lt_irrefl _)
  refine my_loop (P := fun i x => ∃ t, x = .int ((i : Nat) : Int) t) J ⟨W.sub, W.frame, fun i s Q E hi st hQ => W.item i s Q E hi st fun x h' tk hP => hQ x h' tk (by obtain ⟨t, rfl⟩ := hP; exact ⟨t, by simp⟩), W.done, W.self⟩
    (fun i h st => ⟨_, st⟩) hk hkf (fun e => by rw [e] at hL; exact Nat.lt_irrefl _ hL) hI (fun p hp e => by have := hsome p hp; rw [e] at this; exact Nat.lt_irrefl _ this) ?_ (F.push _) (fun p hp => ⟨Heap.get?_push_of_some _ (N p hp).1, (N p hp).2⟩) hg h0 ?_ ?_
  · show IsRangeIter _ _ _ _ _
    simpa using Heap.get?_push_size _ rfl
  · intro i x m₁ news₁ s₁ I o hi hP hJ hoff had F₁ N₁ hg₁ hos₁
    obtain ⟨t, rfl⟩ := hP
    exact turn i t m₁ news₁ s₁ I o hi hJ hoff had F₁ N₁ hg₁ hos₁
  · intro m₁ news₁ s₁ hJ F₁ N₁ hg₁ hos₁
    exact done m₁ news₁ s₁ hJ F₁ N₁ hg₁ hos₁
end
end Mine
namespace Mine
set_option maxRecDepth 100000
open PySem PySem.W PySem.Calls PyProof.Rows PySem.Spec
section
variable {prog : Program} {w : World} {A : Around} {E : Value → Shared → Prop} {s : Shared} {h₀ : Heap} {env : Env} {body : List Stmt} {target : Expr}
/-- a for over a seq whose ledger stays as it is -/
noncomputable def TurnEnd0 (h₀ : Heap) (L : Addr) (J : (Str → Option Value) → Prop) (news : List (Addr × Obj)) (os : OsState) (B : Value → Shared → Prop) : Flow → Shared → Prop := fun fl s =>
  match fl with
  | .ret v => B v s
  | .brk => False
  | _ => ∃ m, Fr h₀ L s.heap m ∧ News h₀ L s.heap news ∧ J m ∧ AllBare s.gens ∧ s.os = os
noncomputable def TurnEndG (h₀ : Heap) (L : Addr) (J : (Str → Option Value) → Prop) (news : List (Addr × Obj)) (G : Shared → Prop) (B : Value → Shared → Prop) : Flow → Shared → Prop := fun fl s =>
  match fl with
  | .ret v => B v s
  | .brk => False
  | _ => ∃ m, Fr h₀ L s.heap m ∧ News h₀ L s.heap news ∧ J m ∧ G s
theorem fixG {R : Result → Shared → Prop} {I ax : Addr} {lo : Obj} {n : Nat} {P : Nat → Value → Prop} {St : Nat → Heap → Prop} {m : Str → Option Value} {news : List (Addr × Obj)} (J : Nat → (Str → Option Value) → Prop) (G : Shared → Prop) (hG : ∀ s h tk, G s → G { s with heap := h, toks := tk })
    (W : Walks prog w A I [I, ax] [I] n P St) (hlive : ∀ i h, St i h → ∃ o, h.get? I = some o) (hax : (ax, lo) ∈ news)
    (hgo : ∀ i (s' : Shared) v (Q' : Unit → Shared → Prop) E', St i s'.heap → Q' () s' → wpAny (model prog w) A (letOwnedTupleGo target (.ref I) v) Q' E' s')
    (hLI : env.locals ≠ I) (hI : h₀.get? I = none) (hnI : ∀ p ∈ news, p.1 ≠ I) (hst : St 0 s.heap) (F : Fr h₀ env.locals s.heap m) (N : News h₀ env.locals s.heap news) (hg : G s) (h0 : J 0 m)
    (turn : ∀ i x m₁ s₁ o, i < n → P i x → J i m₁ → (∀ b ∈ news.map (·.1), @Ne Nat I b) → Fr h₀ env.locals s₁.heap m₁ → News h₀ env.locals s₁.heap (news ++ [(I, o)]) → G s₁ →
      wpAny (model prog w) A (assign target env x) (fun _ s₂ => wpAny (model prog w) A (execs body env) (TurnEndG h₀ env.locals (J (i + 1)) (news ++ [(I, o)]) G (fun v s' => R (.ok (.ret v)) s')) (fun _ _ => False) s₂) (fun _ _ => False) s₁)
    (done : ∀ m₁ s₁, J n m₁ → Fr h₀ env.locals s₁.heap m₁ → News h₀ env.locals s₁.heap news → G s₁ → R (.ok .next) s₁) :
    codeAny (model prog w) A (.forLoop target (.ref I) body [] env) R s := by
  refine codeAny_forLoop_any
    (fun k s' => ∃ m' i, St i s'.heap ∧ Fr h₀ env.locals s'.heap m' ∧ News h₀ env.locals s'.heap news ∧ G s' ∧ J i m' ∧ i ≤ n ∧ k = n + 1 - i) ?_ (n + 1)
    ⟨m, 0, hst, F, N, hg, h0, Nat.zero_le _, rfl⟩
  rintro k s' ⟨m', i, hst', F', N', hg', hJ, hi, rfl⟩
  have next : ∀ h₁ : Heap, (∀ b o, b ∉ [I] → s'.heap.get? b = some o → h₁.get? b = some o) → Fr h₀ env.locals h₁ m' ∧ News h₀ env.locals h₁ news := fun h₁ hk₁ =>
    ⟨⟨F'.ns.at' fun o e => hk₁ _ o (fun hq => hLI (List.mem_singleton.mp hq)) e, fun b o e => hk₁ b o (fun hq => by rw [List.mem_singleton.mp hq, hI] at e; cases e) (F'.keep b o e), F'.above⟩,
      fun p hp => ⟨hk₁ _ _ (fun hq => hnI p hp (List.mem_singleton.mp hq)) (N' p hp).1, (N' p hp).2⟩⟩
  by_cases hlt : i < n
  · refine W.item i s' _ _ hlt hst' fun x h₁ tk₁ hP hst₁ hk₁ => ?_
    obtain ⟨F₁, N₁⟩ := next h₁ hk₁
    refine hgo (i + 1) _ _ _ _ hst₁ ?_
    obtain ⟨o, ho⟩ := hlive _ _ hst₁
    have N₂ : News h₀ env.locals h₁ (news ++ [(I, o)]) := fun q hq => by
      rcases List.mem_append.mp hq with hq | hq
      · exact N₁ q hq
      · rw [List.mem_singleton.mp hq]; exact ⟨ho, hLI.symm, hI⟩
    have hoff : ∀ b ∈ news.map (·.1), @Ne Nat I b := fun b hb e => by
      obtain ⟨r, hr, hre⟩ := List.mem_map.mp hb
      exact hnI r hr (hre.trans (Eq.symm e))
    refine wpAny_mono (turn i x m' { s' with heap := h₁, toks := tk₁ } o hlt hP hJ hoff F₁ N₂ (hG _ _ _ hg')) (fun _ s₂ h₂ => wpAny_mono h₂ (fun fl s₃ h₃ => ?_) fun _ _ hf => hf.elim) (fun _ _ hf => hf.elim)
    have fin : (∃ m, Fr h₀ env.locals s₃.heap m ∧ News h₀ env.locals s₃.heap (news ++ [(I, o)]) ∧ J (i + 1) m ∧ G s₃) →
        ∃ k, k < n + 1 - i ∧ ∃ m' i, St i s₃.heap ∧ Fr h₀ env.locals s₃.heap m' ∧ News h₀ env.locals s₃.heap news ∧ G s₃ ∧ J i m' ∧ i ≤ n ∧ k = n + 1 - i := by
      rintro ⟨m₄, F₄, N₄, hJ₄, hg₄⟩
      refine ⟨n + 1 - (i + 1), by omega, m₄, i + 1, ?_, F₄, fun q hq => N₄ q (List.mem_append_left _ hq), hg₄, hJ₄, hlt, rfl⟩
      refine W.frame _ h₁ _ hst₁ fun b hb o' e => ?_
      simp only [List.mem_cons, List.not_mem_nil, or_false] at hb
      rcases hb with rfl | rfl
      · rw [ho] at e
        rw [← Option.some.inj e]
        exact (N₄ _ (List.mem_append_right _ (List.mem_singleton.mpr rfl))).1
      · have h1 := (N₁ _ hax).1
        have h2 := (N₄ _ (List.mem_append_left _ hax)).1
        rw [h1] at e
        rw [← Option.some.inj e]
        exact h2
    cases fl with
    | ret v => exact h₃
    | brk => exact h₃.elim
    | cont => exact fin h₃
    | next => exact fin h₃
  · have hin : i = n := by omega
    subst hin
    refine W.done s' _ _ hst' fun h₁ tk₁ hk₁ => wpAny_execs_nil ?_
    obtain ⟨F₁, N₁⟩ := next h₁ hk₁
    exact done m' { s' with heap := h₁, toks := tk₁ } hJ F₁ N₁ (hG _ _ _ hg')
theorem fix_loop {R : Result → Shared → Prop} {I ax : Addr} {lo : Obj} {n : Nat} {P : Nat → Value → Prop} {St : Nat → Heap → Prop} {m : Str → Option Value} {news : List (Addr × Obj)} (J : Nat → (Str → Option Value) → Prop)
    (W : Walks prog w A I [I, ax] [I] n P St) (hlive : ∀ i h, St i h → ∃ o, h.get? I = some o) (hax : (ax, lo) ∈ news)
    (hgo : ∀ i (s' : Shared) v (Q' : Unit → Shared → Prop) E', St i s'.heap → Q' () s' → wpAny (model prog w) A (letOwnedTupleGo target (.ref I) v) Q' E' s')
    (hLI : env.locals ≠ I) (hI : h₀.get? I = none) (hnI : ∀ p ∈ news, p.1 ≠ I) (hst : St 0 s.heap) (F : Fr h₀ env.locals s.heap m) (N : News h₀ env.locals s.heap news) (hg : AllBare s.gens) (h0 : J 0 m)
    (turn : ∀ i x m₁ s₁ o, i < n → P i x → J i m₁ → (∀ b ∈ news.map (·.1), @Ne Nat I b) → Fr h₀ env.locals s₁.heap m₁ → News h₀ env.locals s₁.heap (news ++ [(I, o)]) → AllBare s₁.gens → s₁.os = s.os →
      wpAny (model prog w) A (assign target env x) (fun _ s₂ => wpAny (model prog w) A (execs body env) (TurnEnd0 h₀ env.locals (J (i + 1)) (news ++ [(I, o)]) s.os (fun v s' => R (.ok (.ret v)) s')) (fun _ _ => False) s₂) (fun _ _ => False) s₁)
    (done : ∀ m₁ s₁, J n m₁ → Fr h₀ env.locals s₁.heap m₁ → News h₀ env.locals s₁.heap news → AllBare s₁.gens → s₁.os = s.os → R (.ok .next) s₁) :
    codeAny (model prog w) A (.forLoop target (.ref I) body [] env) R s := by
  refine fixG J (fun s' => AllBare s'.gens ∧ s'.os = s.os) (fun _ _ _ g => g) W hlive hax hgo hLI hI hnI hst F N ⟨hg, rfl⟩ h0 (fun i x m₁ s₁ o hi hP hJ hoff F₁ N₁ g => wpAny_mono (turn i x m₁ s₁ o hi hP hJ hoff F₁ N₁ g.1 g.2) (fun _ s₂ h₂ => wpAny_mono h₂ (fun fl s₃ h₃ => ?_) fun _ _ e => e) fun _ _ e => e) (fun m₁ s₁ hJ F₁ N₁ g => done m₁ s₁ hJ F₁ N₁ g.1 g.2)
  cases fl <;> exact h₃
end
end Mine
namespace Mine
set_option maxRecDepth 100000
open PySem PySem.W PySem.Calls PyProof.Rows PySem.Spec
noncomputable def insI (l : List Value) (x : Int) (y : Value) : List Value := kl_ins l x y
theorem insert_my {prog : Program} {w : World} {A : Around} {E : Value → Shared → Prop} {s : Shared} {h₀ : Heap} {L D : Addr} {m : Str → Option Value} {news news' : List (Addr × Obj)} {l : List Value} {n : Nat}
    {x : Int} {u : Tok} {y : Value} {Q : Value → Shared → Prop} (F : Fr h₀ L s.heap m) (N : News h₀ L s.heap news) (hf : 0 ≤ x ∧ x < 1000)
    (U : Upd D (PySem.W.listOf l.toArray n) (PySem.W.listOf (insI l x y).toArray (n + 1)) news news') (hz : l.length ≤ 1000) (h : ∀ h', Fr h₀ L h' m → News h₀ L h' news' → Q .none { s with heap := h' }) :
    wpAny (model prog w) A (call (.builtin "list.insert") [.ref D, .int x u, y]) Q E s :=
  kl_insert F N (by unfold Builtin.List.listFitsIndex; simp; omega) rfl U (by rw [sizeLine_eq]; show l.length ≤ _; omega) h
theorem fmod_room {a b : Int} (h : 0 < b) (h2 : b < 1000) : 0 ≤ a.fmod b ∧ a.fmod b < 1000 :=
  ⟨Int.fmod_nonneg_of_pos _ h, Int.lt_trans (Int.fmod_lt_of_pos _ h) h2⟩
theorem append_up {prog : Program} {w : World} {A : Around} {E : Value → Shared → Prop} {s : Shared} {h₀ : Heap} {L D : Addr} {m : Str → Option Value} {news news' : List (Addr × Obj)} {l : List Value} {n : Nat}
    {x : Value} {Q : Value → Shared → Prop} (F : Fr h₀ L s.heap m) (N : News h₀ L s.heap news)
    (U : Upd D (PySem.W.listOf l.toArray n) (PySem.W.listOf (l ++ [x]).toArray (n + 1)) news news') (hz : l.length ≤ 1000) (h : ∀ h', Fr h₀ L h' m → News h₀ L h' news' → Q .none { s with heap := h' }) :
    wpAny (model prog w) A (call (.builtin "list.append") [.ref D, x]) Q E s := by
  have e : l.toArray.push x = (l ++ [x]).toArray := by simp
  rw [← e] at U
  exact append_K F N U h (by rw [sizeLine_eq, List.size_toArray]; omega)
local macro_rules | `(tactic| walk_at "call builtin:list.append") => `(tactic| (
  (with_reducible rename Fr _ _ _ _ => F8)
  (with_reducible rename News _ _ _ _ => N8)
  with_unfolding_all refine' append_up F8 N8 ?zz2 ?zz3 ?_
  (case zz2 => k_upd)
  (case zz3 => omega)
  intro _ _ _))
local macro_rules | `(tactic| walk_at "call builtin:list.insert") => `(tactic| (
  (with_reducible rename Fr _ _ _ _ => F8)
  (with_reducible rename News _ _ _ _ => N8)
  with_unfolding_all refine' insert_my F8 N8 ?zz1 ?zz2 ?zz3 ?_
  (case zz2 => k_upd)
  (case zz1 => exact fmod_room (by omega) (by omega))
  (case zz3 => omega)
  intro _ _ _))
noncomputable def dressI (k x : Int) : Str := if ([1, 3].any fun y => y == k) = true then (if (x.fdiv 60).fmod 3 = 0 then Str.ofString "" else if (x.fdiv 60).fmod 3 = 1 then Str.ofString "\\\"" else Str.ofString "\\\\") else Str.ofString ""
noncomputable def letterI (k x : Int) : Str := ({ cps := #[(20000 + 3000 * k + (x.fdiv 180).fmod 3000).toNat] } : Str) ++ dressI k x
theorem letter_a {k x : Int} (h : ([1, 3].any fun y => y == k) = true) (e : (x.fdiv 60).fmod 3 = 0) : letterI k x = ({ cps := #[(20000 + 3000 * k + (x.fdiv 180).fmod 3000).toNat] } : Str) ++ Str.ofString "" := by
  unfold letterI dressI; rw [if_pos h, if_pos e]
theorem letter_b {k x : Int} (h : ([1, 3].any fun y => y == k) = true) (e : (x.fdiv 60).fmod 3 = 1) : letterI k x = ({ cps := #[(20000 + 3000 * k + (x.fdiv 180).fmod 3000).toNat] } : Str) ++ Str.ofString "\\\"" := by
  unfold letterI dressI; rw [if_pos h, if_neg (by rw [e]; decide), if_pos e]
theorem letter_c {k x : Int} (h : ([1, 3].any fun y => y == k) = true) (e : (x.fdiv 60).fmod 3 = 2) : letterI k x = ({ cps := #[(20000 + 3000 * k + (x.fdiv 180).fmod 3000).toNat] } : Str) ++ Str.ofString "\\\\" := by
  unfold letterI dressI; rw [if_pos h, if_neg (by rw [e]; decide), if_neg (by rw [e]; decide)]
theorem letter_d {k x : Int} (h : ([1, 3].any fun y => y == k) = false) : letterI k x = ({ cps := #[(20000 + 3000 * k + (x.fdiv 180).fmod 3000).toNat] } : Str) ++ Str.ofString "" := by
  unfold letterI dressI; rw [if_neg (by rw [h]; decide)]
theorem map_agree {m m' : Str → Option Value} {D Lt Rw : Addr} (hD : m (Str.ofString "numbers") = some (.ref D)) (hLt : m (Str.ofString "letters") = some (.ref Lt)) (hRw : m (Str.ofString "row") = some (.ref Rw))
    (h1 : m' (Str.ofString "numbers") = some (.ref D)) (h2 : m' (Str.ofString "letters") = some (.ref Lt)) (h3 : m' (Str.ofString "row") = some (.ref Rw)) (h4 : m' (Str.ofString "q") = m (Str.ofString "q")) :
    ∀ y ∈ [Str.ofString "numbers", Str.ofString "q", Str.ofString "letters", Str.ofString "row"], m' y = m y := by
  intro y hy
  simp only [List.mem_cons, List.not_mem_nil, or_false] at hy
  rcases hy with rfl | rfl | rfl | rfl
  · rw [h1, hD]
  · exact h4
  · rw [h2, hLt]
  · rw [h3, hRw]
noncomputable def insS (l : List Str) (x : Int) (y : Str) : List Str :=
  l.take (if x < 0 then (x + (l.length : Int)).toNat else min x.toNat l.length) ++ y :: l.drop (if x < 0 then (x + (l.length : Int)).toNat else min x.toNat l.length)
theorem strsAre_take : ∀ {vs : List Value} {ss : List Str} (n : Nat), StrsAre vs ss → StrsAre (vs.take n) (ss.take n)
  | _, _, 0, _ => .nil
  | _, _, n + 1, .nil => .nil
  | _, _, n + 1, .cons y t h => .cons y t (strsAre_take n h)
theorem strsAre_drop : ∀ {vs : List Value} {ss : List Str} (n : Nat), StrsAre vs ss → StrsAre (vs.drop n) (ss.drop n)
  | _, _, 0, h => h
  | _, _, n + 1, .nil => .nil
  | _, _, n + 1, .cons y t h => strsAre_drop n h
theorem strsAre_ins {vs : List Value} {ss : List Str} (h : StrsAre vs ss) (x : Int) (y : Str) (t : Tok) : StrsAre (insI vs x (.str y t)) (insS ss x y) := by
  unfold insI kl_ins insS
  rw [StrsAre.len_eq h]
  exact (strsAre_take _ h).append' (.cons y t (strsAre_drop _ h))
theorem snoc_at {l : List Value} {y : Value} {k : Int} (h : (l.length : Int) = k) : (l ++ [y])[k.toNat]? = some y := by
  subst h; simp
local macro_rules | `(tactic| walk_at "subscriptTail Name Name ref int") => `(tactic| (
  (with_reducible rename News _ _ _ _ => N8)
  refine item_listL (News.isList N8 (by news_mem)) (by omega) (by omega) (snoc_at (by with_reducible assumption)) ?_))
section
variable {w : World} {dp un : Nat} {fr : Option (List Env)} {gd : Option (List Code)} {s : Shared} {mean : ExcName → Option Value} {mg mb : Str → Option Value}
    {Q : Flow → Shared → Prop} {E : Value → Shared → Prop} {h₀ : Heap} {L fa : Addr} {cd : Value}
set_option maxHeartbeats 4000000 in
theorem st5_turn {m : Str → Option Value} {D Lt Rw I : Addr} {ys vL vR : List Value} {xs : List Int} {lts rws : List Str} {nl nr : Nat} {o3 oI : Obj} {k : Int} {t0 : Tok}
    (X : (Mine.hd.heap_39 w.params).In h₀) (T : Top Mine.hd.view_39 (looseW Mine.hd.view_39 []) mean mg mb h₀) (hd : dp + 9 < recursionLimit)
    (hk0 : 0 ≤ k) (hk1 : k < 5) (hD : m (Str.ofString "numbers") = some (.ref D)) (hLt : m (Str.ofString "letters") = some (.ref Lt)) (hRw : m (Str.ofString "row") = some (.ref Rw))
    (F : Fr h₀ L s.heap (fun y => if y = Str.ofString "k" then some (.int k t0) else m y)) (N : News h₀ L s.heap [(Rw, PySem.W.listOf vR.toArray nr), (Lt, PySem.W.listOf vL.toArray nl), (D, LCg.lst ys), (L + 3, o3), (I, oI)])
    (a1 : @Ne Nat I Rw) (a2 : @Ne Nat I Lt) (a4 : @Ne Nat Rw Lt) (a5 : @Ne Nat Rw D) (a6 : @Ne Nat Lt D) (a8 : @Ne Nat Rw (L + 3)) (a9 : @Ne Nat Lt (L + 3)) (hvL : vL.length ≤ 5) (hvR : vR.length ≤ 5)
    (hi : IntsAre ys xs) (hn : xs.length = 5) (hxs : ∀ x ∈ xs, 0 ≤ x ∧ x < 1000000) (sL : StrsAre vL lts) (sR : StrsAre vR rws) (hlL : (vL.length : Int) = k) (hlR : (vR.length : Int) = k)
    (h : ∀ h' tk m' v1 v2, Fr h₀ L h' m' → (∀ y ∈ [Str.ofString "numbers", Str.ofString "q", Str.ofString "letters", Str.ofString "row"], m' y = m y) →
      News h₀ L h' [(Rw, PySem.W.listOf (insI vR ((xs.getD k.toNat 0).fmod (k + 1)) (Value.str (letterI k (xs.getD k.toNat 0)) v1)).toArray (nr + 1)), (Lt, PySem.W.listOf (vL ++ [Value.str (letterI k (xs.getD k.toNat 0)) v2]).toArray (nl + 1)), (D, LCg.lst ys), (L + 3, o3), (I, oI)] → Q .next { s with heap := h', toks := tk }) :
    wpAny (model Challenge.rw_wr0014_01.row.prog w) (Ard dp un fr gd) (execs (forBody (stmtAt (lawBody w.params) 5)) (envOfC (Str.ofString "law") (lawScope w.params) L fa cd)) Q E s := by
  revert X; k_fill; intro X
  w_on
  conv in forBody _ => whnf
  conv in lawScope _ => whnf
  rw [map_known4 (m := m) hD hLt hRw hRw] at F
  repeat' (first | (k_unfold; (try dsimp only)) | (walk1; (try dsimp only)) | (dsimp only; walk1))
  all_goals (
    with_reducible rename Fr _ _ _ _ => F8
    with_reducible rename News _ _ _ _ => N8)
  all_goals (first
    | rw [← letter_a (k := k) (x := xs.getD k.toNat 0) (by assumption) (by assumption)] at N8
    | rw [← letter_b (k := k) (x := xs.getD k.toNat 0) (by assumption) (by assumption)] at N8
    | rw [← letter_c (k := k) (x := xs.getD k.toNat 0) (by assumption) (by assumption)] at N8
    | rw [← letter_d (k := k) (x := xs.getD k.toNat 0) (by assumption)] at N8)
  all_goals (first | exact h _ _ _ _ _ F8 (map_agree hD hLt hRw rfl rfl rfl rfl) N8 | exact h _ _ _ _ _ F8 (map_agree hD hLt hRw rfl rfl rfl rfl) (fun p hp => N8 p (List.mem_cons_of_mem _ hp)) | exact h _ _ _ _ _ F8 (map_agree hD hLt hRw rfl rfl rfl rfl) (fun p hp => N8 p (List.mem_cons_of_mem _ (List.mem_cons_of_mem _ hp))) | exact h _ _ _ _ _ F8 (map_agree hD hLt hRw rfl rfl rfl rfl) (fun p hp => N8 p (List.mem_cons_of_mem _ (List.mem_cons_of_mem _ (List.mem_cons_of_mem _ hp)))))
end
end Mine
namespace Mine
set_option maxRecDepth 100000
open PySem PySem.W PySem.Calls PyProof.Rows PySem.Spec
noncomputable def lettersTo (xs : List Int) : Nat → List Str
  | 0 => []
  | i + 1 => lettersTo xs i ++ [letterI (i : Int) (xs.getD i 0)]
noncomputable def rowTo (xs : List Int) : Nat → List Str
  | 0 => []
  | i + 1 => insS (rowTo xs i) ((xs.getD i 0).fmod ((i : Int) + 1)) (letterI (i : Int) (xs.getD i 0))
theorem lettersTo_len (xs : List Int) : ∀ i, (lettersTo xs i).length = i
  | 0 => rfl
  | i + 1 => by rw [lettersTo, List.length_append, lettersTo_len xs i]; rfl
theorem insS_len (l : List Str) (x : Int) (y : Str) : (insS l x y).length = l.length + 1 := by
  unfold insS
  rw [List.length_append, List.length_cons, List.length_take, List.length_drop]
  omega
theorem rowTo_len (xs : List Int) : ∀ i, (rowTo xs i).length = i
  | 0 => rfl
  | i + 1 => by rw [rowTo, insS_len, rowTo_len xs i]
local macro_rules | `(tactic| walk_at "pyIter ref") => `(tactic| refine Stop.of ?_)
section
variable {w : World} {dp un : Nat} {fr : Option (List Env)} {gd : Option (List Code)} {s : Shared} {mean : ExcName → Option Value} {mg mb : Str → Option Value}
    {Q : Flow → Shared → Prop} {E : Value → Shared → Prop} {h₀ : Heap} {L fa : Addr} {cd : Value}
set_option maxHeartbeats 4000000 in
theorem st5 {m : Str → Option Value} {D Lt Rw : Addr} {ys : List Value} {xs : List Int} {nl nr : Nat} {o3 : Obj}
    (X : (Mine.hd.heap_39 w.params).In h₀) (T : Top Mine.hd.view_39 (looseW Mine.hd.view_39 []) mean mg mb h₀) (hd : dp + 9 < recursionLimit) (hbare : AllBare s.gens)
    (hD : m (Str.ofString "numbers") = some (.ref D)) (hLt : m (Str.ofString "letters") = some (.ref Lt)) (hRw : m (Str.ofString "row") = some (.ref Rw))
    (F : Fr h₀ L s.heap m) (N : News h₀ L s.heap [(Rw, PySem.W.listOf #[] nr), (Lt, PySem.W.listOf #[] nl), (D, LCg.lst ys), (L + 3, o3)])
    (a4 : @Ne Nat Rw Lt) (a5 : @Ne Nat Rw D) (a6 : @Ne Nat Lt D) (a8 : @Ne Nat Rw (L + 3)) (a9 : @Ne Nat Lt (L + 3))
    (hi : IntsAre ys xs) (hn : xs.length = 5) (hxs : ∀ x ∈ xs, 0 ≤ x ∧ x < 1000000)
    (h : ∀ s' m' vL vR nl nr, Fr h₀ L s'.heap m' → (∀ y ∈ [Str.ofString "numbers", Str.ofString "q", Str.ofString "letters", Str.ofString "row"], m' y = m y) →
      News h₀ L s'.heap [(Rw, PySem.W.listOf vR.toArray nr), (Lt, PySem.W.listOf vL.toArray nl), (D, LCg.lst ys), (L + 3, o3)] → StrsAre vL (lettersTo xs 5) → StrsAre vR (rowTo xs 5) → AllBare s'.gens → s'.os = s.os → Q .next s') :
    wpAny (model Challenge.rw_wr0014_01.row.prog w) (Ard dp un fr gd) (exec (stmtAt (lawBody w.params) 5) (envOfC (Str.ofString "law") (lawScope w.params) L fa cd)) Q E s := by
  revert X; k_fill; intro X
  w_on
  have X' := X
  obtain ⟨body, hbody⟩ : ∃ b, forBody (stmtAt (lawBody w.params) 5) = b := ⟨_, rfl⟩
  conv in stmtAt _ _ => whnf
  have hb2 := hbody
  conv at hb2 => lhs; whnf
  rw [hb2]
  clear hb2
  conv in lawScope _ => whnf
  refine wpAny_For ?_
  repeat' (first | (k_unfold; (try dsimp only)) | walk1 | (dsimp only; walk1))
  all_goals (try unfold Stop)
  with_reducible rename IsRange _ _ _ _ _ _ _ _ => hR
  with_reducible rename Fr _ _ _ _ => F1
  with_reducible rename News _ _ _ _ => N1
  refine range_loop (n := 5) (fun i m' news' => (∀ y ∈ [Str.ofString "numbers", Str.ofString "q", Str.ofString "letters", Str.ofString "row"], m' y = m y) ∧ ∃ vL vR nl nr, news' = [(Rw, PySem.W.listOf vR.toArray nr), (Lt, PySem.W.listOf vL.toArray nl), (D, LCg.lst ys), (L + 3, o3)] ∧ StrsAre vL (lettersTo xs i) ∧ StrsAre vR (rowTo xs i))
    rfl hR (by decide) (by decide) rfl rfl F1 N1 hbare ⟨fun _ _ => rfl, [], [], nl, nr, rfl, .nil, .nil⟩ ?_ ?_
  · rintro i t m₁ news₁ s₁ I o hi5 ⟨hm1, vL, vR, nl1, nr1, rfl, sL, sR⟩ hI had F₁ N₁ hg₁ hos₁
    have q1 : (vL.length : Int) = (i : Int) := by rw [StrsAre.len_eq sL, lettersTo_len]
    have q2 : (vR.length : Int) = (i : Int) := by rw [StrsAre.len_eq sR, rowTo_len]
    have hmem := hm1
    simp only [List.mem_cons, List.not_mem_nil, or_false, forall_eq_or_imp, forall_eq] at hmem
    rw [← hbody]
    refine st5_turn (m := m₁) X T hd (by omega) (by omega) (hmem.1.trans hD) (hmem.2.2.1.trans hLt) (hmem.2.2.2.trans hRw) F₁ N₁ (hI Rw (by simp)) (hI Lt (by simp)) a4 a5 a6 a8 a9 (by omega) (by omega) hi hn hxs sL sR q1 q2 ?_
    intro h' tk m' v1 v2 F₂ hm2 N₂
    refine ⟨m', [(Rw, PySem.W.listOf (insI vR _ (Value.str _ v1)).toArray (nr1 + 1)), (Lt, PySem.W.listOf (vL ++ [Value.str _ v2]).toArray (nl1 + 1)), (D, LCg.lst ys), (L + 3, o3)], F₂, N₂, ⟨fun y hy => (hm2 y hy).trans (hm1 y hy), _, _, _, _, rfl, ?_, ?_⟩, rfl, hg₁, hos₁⟩
    · exact sL.append' (.cons _ _ .nil)
    · exact strsAre_ins sR _ _ _
  · rintro m₁ news₁ s₁ ⟨hm1, vL, vR, nl1, nr1, rfl, sL, sR⟩ F₁ N₁ hg₁ hos₁
    exact h s₁ m₁ vL vR nl1 nr1 F₁ hm1 N₁ sL sR hg₁ hos₁
end
end Mine
namespace Mine
set_option maxRecDepth 100000
open PySem PySem.W PySem.Calls PyProof.Rows PySem.Spec
local macro_rules | `(tactic| walk_at "call ref") => `(tactic| (
  (with_reducible rename Fr _ _ _ _ => F8)
  (with_reducible rename News _ _ _ _ => N8)
  refine strcoll_L (by assumption) (by assumption) (by assumption) (by exact F8) (by exact N8) ?_
  intro _ _ _ _ _
  clear F8 N8
  (try dsimp only)))
local macro_rules | `(tactic| walk_at "pyIter ref") => `(tactic| refine Stop.of ?_)
local macro_rules | `(tactic| walk_at "Exists") => `(tactic| refine Stop.of ?_)
noncomputable def scI (a b : Int) : Int := if a > b then 1 else if a < b then -1 else 0
section
variable {w : World} {dp un : Nat} {fr : Option (List Env)} {gd : Option (List Code)} {s : Shared} {mean : ExcName → Option Value} {mg mb : Str → Option Value}
    {Q : Flow → Shared → Prop} {E : Value → Shared → Prop} {h₀ : Heap} {L fa : Addr} {cd : Value}
set_option maxHeartbeats 4000000 in
theorem st6_turn {m : Str → Option Value} {Lt I2 I1 : Addr} {vL : List Value} {lts : List Str} {nl : Nat} {oR oD o3 i2 i1 : Obj} {Rw D : Addr} {a b : Int} {t0 t1 : Tok}
    (X : (Mine.hd.heap_39 w.params).In h₀) (T : Top Mine.hd.view_39 (looseW Mine.hd.view_39 []) mean mg mb h₀) (hd : dp + 9 < recursionLimit)
    (ha0 : 0 ≤ a) (ha1 : a < 5) (hb0 : 0 ≤ b) (hb1 : b < 5) (hLt : m (Str.ofString "letters") = some (.ref Lt)) (ha : m (Str.ofString "a") = some (.int a t0))
    (F : Fr h₀ L s.heap (fun y => if y = Str.ofString "b" then some (.int b t1) else m y)) (N : News h₀ L s.heap [(Rw, oR), (Lt, PySem.W.listOf vL.toArray nl), (D, oD), (L + 3, o3), (I1, i1), (I2, i2)])
    (sL : StrsAre vL lts) (hn : lts.length = 5) (hsc : strcollI (lts.getD a.toNat Str.empty) (lts.getD b.toNat Str.empty) = scI a b)
    (h : ∀ h' tk m', Fr h₀ L h' m' → (∀ y ∈ [Str.ofString "a", Str.ofString "q", Str.ofString "letters", Str.ofString "row"], m' y = m y) →
      News h₀ L h' [(Rw, oR), (Lt, PySem.W.listOf vL.toArray nl), (D, oD), (L + 3, o3), (I1, i1), (I2, i2)] → Q .next { s with heap := h', toks := tk }) :
    wpAny (model Challenge.rw_wr0014_01.row.prog w) (Ard dp un fr gd) (execs (forBody (stmtAt (forBody (stmtAt (lawBody w.params) 6)) 0)) (envOfC (Str.ofString "law") (lawScope w.params) L fa cd)) Q E s := by
  revert X; k_fill; intro X
  w_on
  conv in forBody _ => whnf
  conv in lawScope _ => whnf
  rw [map_known4 (m := m) hLt ha ha ha] at F
  repeat' (first | (k_unfold; (try dsimp only)) | walk1 | (dsimp only; walk1))
  all_goals (
    with_reducible rename Fr _ _ _ _ => F8
    with_reducible rename News _ _ _ _ => N8)
  all_goals (first
    | exact h _ _ _ F8 (by
        intro y hy
        simp only [List.mem_cons, List.not_mem_nil, or_false] at hy
        rcases hy with rfl | rfl | rfl | rfl
        · exact ha.symm
        · rfl
        · exact hLt.symm
        · rfl) N8
    | (exfalso; unfold scI at hsc; clear h F8 N8; split at hsc <;> (try split at hsc) <;> omega))
set_option maxHeartbeats 4000000 in
theorem st6 {m : Str → Option Value} {D Lt Rw : Addr} {vL : List Value} {lts : List Str} {nl : Nat} {oR oD o3 : Obj}
    (X : (Mine.hd.heap_39 w.params).In h₀) (T : Top Mine.hd.view_39 (looseW Mine.hd.view_39 []) mean mg mb h₀) (hd : dp + 9 < recursionLimit) (hbare : AllBare s.gens)
    (hLt : m (Str.ofString "letters") = some (.ref Lt))
    (F : Fr h₀ L s.heap m) (N : News h₀ L s.heap [(Rw, oR), (Lt, PySem.W.listOf vL.toArray nl), (D, oD), (L + 3, o3)])
    (sL : StrsAre vL lts) (hn : lts.length = 5) (hsc : ∀ a b : Nat, a < 5 → b < 5 → strcollI (lts.getD a Str.empty) (lts.getD b Str.empty) = scI a b)
    (h : ∀ s' m', Fr h₀ L s'.heap m' → (∀ y ∈ [Str.ofString "q", Str.ofString "letters", Str.ofString "row"], m' y = m y) →
      News h₀ L s'.heap [(Rw, oR), (Lt, PySem.W.listOf vL.toArray nl), (D, oD), (L + 3, o3)] → AllBare s'.gens → s'.os = s.os → Q .next s') :
    wpAny (model Challenge.rw_wr0014_01.row.prog w) (Ard dp un fr gd) (exec (stmtAt (lawBody w.params) 6) (envOfC (Str.ofString "law") (lawScope w.params) L fa cd)) Q E s := by
  revert X; k_fill; intro X
  w_on
  obtain ⟨body, hbody⟩ : ∃ b, forBody (stmtAt (lawBody w.params) 6) = b := ⟨_, rfl⟩
  conv in stmtAt _ _ => whnf
  have hb2 := hbody
  conv at hb2 => lhs; whnf
  rw [hb2]
  clear hb2
  conv in lawScope _ => whnf
  refine wpAny_For ?_
  repeat' (first | (k_unfold; (try dsimp only)) | walk1 | (dsimp only; walk1))
  unfold Stop
  with_reducible rename IsRange _ _ _ _ _ _ _ _ => hR
  with_reducible rename Fr _ _ _ _ => F1
  with_reducible rename News _ _ _ _ => N1
  refine range_loop (n := 5) (fun i m' news' => (∀ y ∈ [Str.ofString "q", Str.ofString "letters", Str.ofString "row"], m' y = m y) ∧ news' = [(Rw, oR), (Lt, PySem.W.listOf vL.toArray nl), (D, oD), (L + 3, o3)])
    rfl hR (by decide) (by decide) rfl rfl F1 N1 hbare ⟨fun _ _ => rfl, rfl⟩ ?_ ?_
  · rintro i t m₁ news₁ s₁ I o hi5 ⟨hm1, rfl⟩ hI had F₁ N₁ hg₁ hos₁
    clear hR F1 N1
    obtain ⟨b2, hb2⟩ : ∃ b, forBody (stmtAt (forBody (stmtAt (lawBody w.params) 6)) 0) = b := ⟨_, rfl⟩
    rw [← hbody]
    conv in forBody _ => whnf
    have hb3 := hb2
    conv at hb3 => lhs; whnf
    rw [hb3]
    clear hb3
    walk1
    refine wpAny_For ?_
    repeat' (first | (k_unfold; (try dsimp only)) | walk1 | (dsimp only; walk1))
    unfold Stop
    with_reducible rename IsRange _ _ _ _ _ _ _ _ => hR
    with_reducible rename Fr _ _ _ _ => F1
    with_reducible rename News _ _ _ _ => N1
    refine range_loop (n := 5) (fun j m' news' => (∀ y ∈ [Str.ofString "a", Str.ofString "q", Str.ofString "letters", Str.ofString "row"], m' y = (fun y => if y = Str.ofString "a" then some (.int ((i : Nat) : Int) t) else m₁ y) y) ∧ news' = [(Rw, oR), (Lt, PySem.W.listOf vL.toArray nl), (D, oD), (L + 3, o3), (I, o)])
      rfl hR (by decide) (by decide) rfl rfl F1 N1 hg₁ ⟨fun _ _ => rfl, rfl⟩ ?_ ?_
    · rintro j t2 m₂ news₂ s₂ I2 o2 hj5 ⟨hm2, rfl⟩ hI2 had2 F₂ N₂ hg₂ hos₂
      rw [← hb2]
      have hm2' := hm2
      simp only [List.mem_cons, List.not_mem_nil, or_false, forall_eq_or_imp, forall_eq] at hm2'
      refine st6_turn (m := m₂) X T hd (by omega) (by omega) (by omega) (by omega) (hm2'.2.2.1.trans ((hm1 _ (by simp)).trans hLt)) (hm2'.1.trans rfl) F₂ N₂ sL hn (hsc i j hi5 hj5) ?_
      intro h' tk m' F₃ hm3 N₃
      exact ⟨m', [(Rw, oR), (Lt, PySem.W.listOf vL.toArray nl), (D, oD), (L + 3, o3), (I, o)], F₃, N₃, ⟨fun y hy => (hm3 y hy).trans (hm2 y hy), rfl⟩, rfl, hg₂, hos₂⟩
    · rintro m₂ news₂ s₂ ⟨hm2, rfl⟩ F₂ N₂ hg₂ hos₂
      repeat' (first | (k_unfold; (try dsimp only)) | walk1 | (dsimp only; walk1))
      refine ⟨m₂, [(Rw, oR), (Lt, PySem.W.listOf vL.toArray nl), (D, oD), (L + 3, o3)], F₂, N₂, ⟨fun y hy => ?_, rfl⟩, rfl, hg₂, hos₂.trans hos₁⟩
      have e1 := hm2 y (List.mem_cons_of_mem _ hy)
      rw [e1, ← hm1 y hy]
      simp only [List.mem_cons, List.not_mem_nil, or_false] at hy
      rcases hy with rfl | rfl | rfl <;> rfl
  · rintro m₁ news₁ s₁ ⟨hm1, rfl⟩ F₁ N₁ hg₁ hos₁
    exact h s₁ m₁ F₁ hm1 N₁ hg₁ hos₁
end
end Mine
namespace Mine
set_option maxRecDepth 100000
open PySem PySem.W PySem.Calls PyProof.Rows PySem.Spec
local macro_rules | `(tactic| walk_at "call builtin:sum") => `(tactic| (
  (with_reducible rename Fr _ _ _ _ => F8)
  (with_reducible rename News _ _ _ _ => N8)
  refine sum_L (by exact F8) (by exact N8) rfl (by exact News.isList N8 (by news_mem)) (by with_reducible assumption) ?_
  intro _ _ _ _ _
  clear F8 N8
  (try dsimp only)))
section
variable {w : World} {dp un : Nat} {fr : Option (List Env)} {gd : Option (List Code)} {s : Shared} {mean : ExcName → Option Value} {mg mb : Str → Option Value}
    {Q : Flow → Shared → Prop} {E : Value → Shared → Prop} {h₀ : Heap} {L fa : Addr} {cd : Value}
set_option maxHeartbeats 4000000 in
theorem st0 {o1 o2 o3 : Obj} {v2 : Option Value}
    (X : (Mine.hd.heap_39 w.params).In h₀) (T : Top Mine.hd.view_39 (looseW Mine.hd.view_39 []) mean mg mb h₀) (hd : dp + 9 < recursionLimit)
    (F : Fr h₀ L s.heap (fun _ => none)) (N : News h₀ L s.heap [(L + 3, o3), (L + 2, o2), (L + 1, o1)]) (d2 : o2.data = Data.cell v2)
    (h : ∀ h' tk B t1 t2 t3 t4 t5 o2', Fr h₀ L h' (fun _ => none) → o2'.data = Data.cell (some (.ref B)) → News h₀ L h' [(B, PySem.W.listOf #[.int 198 t1, .int 60 t2, .int 308 t3, .int 155 t4, .int 282 t5] 0), (L + 3, o3), (L + 2, o2'), (L + 1, o1)] →
      Q .next { s with heap := h', toks := tk }) :
    wpAny (model Challenge.rw_wr0014_01.row.prog w) (Ard dp un fr gd) (exec (stmtAt (lawBody w.params) 0) (envOfC (Str.ofString "law") (lawScope w.params) L fa cd)) Q E s := by
  revert X; k_fill; intro X
  w_on
  conv in stmtAt _ _ => whnf
  conv in lawScope _ => whnf
  repeat' (first | (k_unfold; (try dsimp only)) | walk1 | (dsimp only; walk1))
  exact h _ _ _ _ _ _ _ _ _ (by with_reducible assumption) (by assumption) (by with_reducible assumption)
set_option maxHeartbeats 4000000 in
theorem st2 {m : Str → Option Value} {D : Addr} {ys : List Value} {xs : List Int} {rest : List (Addr × Obj)} {o3 : Obj}
    (X : (Mine.hd.heap_39 w.params).In h₀) (T : Top Mine.hd.view_39 (looseW Mine.hd.view_39 []) mean mg mb h₀) (hd : dp + 9 < recursionLimit)
    (hD : m (Str.ofString "numbers") = some (.ref D)) (F : Fr h₀ L s.heap m) (N : News h₀ L s.heap [(D, LCg.lst ys), (L + 3, o3)])
    (hi : IntsAre ys xs)
    (h : ∀ h' tk t, Fr h₀ L h' (fun z => if z = Str.ofString "q" then some (.int (xs.sum.fmod 2001 - 1000) t) else m z) → News h₀ L h' [(D, LCg.lst ys), (L + 3, o3)] →
      Q .next { s with heap := h', toks := tk }) :
    wpAny (model Challenge.rw_wr0014_01.row.prog w) (Ard dp un fr gd) (exec (stmtAt (lawBody w.params) 2) (envOfC (Str.ofString "law") (lawScope w.params) L fa cd)) Q E s := by
  revert X; k_fill; intro X
  w_on
  conv in stmtAt _ _ => whnf
  conv in lawScope _ => whnf
  rw [map_known4 (m := m) hD hD hD hD] at F
  rw [map_known4 (m := m) hD hD hD hD] at h
  repeat' (first | (k_unfold; (try dsimp only)) | walk1 | (dsimp only; walk1))
  exact h _ _ _ (by with_reducible assumption) (by with_reducible assumption)
set_option maxHeartbeats 4000000 in
theorem st3 {m : Str → Option Value} {D : Addr} {ys : List Value} {o3 : Obj}
    (F : Fr h₀ L s.heap m) (N : News h₀ L s.heap [(D, LCg.lst ys), (L + 3, o3)]) (X : (Mine.hd.heap_39 w.params).In h₀)
    (h : ∀ h' tk Lt, Fr h₀ L h' (fun z => if z = Str.ofString "letters" then some (.ref Lt) else m z) → News h₀ L h' [(Lt, PySem.W.listOf #[] 0), (D, LCg.lst ys), (L + 3, o3)] → @Ne Nat Lt D → @Ne Nat Lt (L + 3) →
      Q .next { s with heap := h', toks := tk }) :
    wpAny (model Challenge.rw_wr0014_01.row.prog w) (Ard dp un fr gd) (exec (stmtAt (lawBody w.params) 3) (envOfC (Str.ofString "law") (lawScope w.params) L fa cd)) Q E s := by
  revert X; k_fill; intro X
  w_on
  conv in stmtAt _ _ => whnf
  conv in lawScope _ => whnf
  repeat' (first | (k_unfold; (try dsimp only)) | walk1 | (dsimp only; walk1))
  exact h _ _ _ (by with_reducible assumption) (by with_reducible assumption) (by omega) (by omega)
set_option maxHeartbeats 4000000 in
theorem st4 {m : Str → Option Value} {D Lt : Addr} {ys : List Value} {o3 : Obj}
    (F : Fr h₀ L s.heap m) (N : News h₀ L s.heap [(Lt, PySem.W.listOf #[] 0), (D, LCg.lst ys), (L + 3, o3)]) (X : (Mine.hd.heap_39 w.params).In h₀)
    (h : ∀ h' tk Rw, Fr h₀ L h' (fun z => if z = Str.ofString "row" then some (.ref Rw) else m z) → News h₀ L h' [(Rw, PySem.W.listOf #[] 0), (Lt, PySem.W.listOf #[] 0), (D, LCg.lst ys), (L + 3, o3)] → @Ne Nat Rw Lt → @Ne Nat Rw D → @Ne Nat Rw (L + 3) →
      Q .next { s with heap := h', toks := tk }) :
    wpAny (model Challenge.rw_wr0014_01.row.prog w) (Ard dp un fr gd) (exec (stmtAt (lawBody w.params) 4) (envOfC (Str.ofString "law") (lawScope w.params) L fa cd)) Q E s := by
  revert X; k_fill; intro X
  w_on
  conv in stmtAt _ _ => whnf
  conv in lawScope _ => whnf
  repeat' (first | (k_unfold; (try dsimp only)) | walk1 | (dsimp only; walk1))
  exact h _ _ _ (by with_reducible assumption) (by with_reducible assumption) (by omega) (by omega) (by omega)
set_option maxHeartbeats 4000000 in
theorem st7 {m : Str → Option Value} {D Lt Rw : Addr} {oL oD o3 : Obj} {r0 r1 r2 r3 r4 : Str} {t0 t1 t2 t3 t4 : Tok} {nr : Nat} {v3 : Option Value}
    (hRw : m (Str.ofString "row") = some (.ref Rw)) (d3 : o3.data = Data.cell v3)
    (F : Fr h₀ L s.heap m) (N : News h₀ L s.heap [(Rw, PySem.W.listOf #[.str r0 t0, .str r1 t1, .str r2 t2, .str r3 t3, .str r4 t4] nr), (Lt, oL), (D, oD), (L + 3, o3)]) (X : (Mine.hd.heap_39 w.params).In h₀)
    (a5 : @Ne Nat Rw (L + 3)) (a6 : @Ne Nat Lt (L + 3)) (a7 : @Ne Nat D (L + 3))
    (h : ∀ h' tk Tw Th o3', Fr h₀ L h' (fun z => if z = Str.ofString "three" then some (.ref Th) else m z) → o3'.data = Data.cell (some (.ref Tw)) →
      News h₀ L h' [(Th, PySem.W.listOf #[.str r2 t2, .str r3 t3, .str r4 t4] 0), (Tw, PySem.W.listOf #[.str r0 t0, .str r1 t1] 0), (Rw, PySem.W.listOf #[.str r0 t0, .str r1 t1, .str r2 t2, .str r3 t3, .str r4 t4] nr), (Lt, oL), (L + 3, o3')] →
      (@Ne Nat Th Tw ∧ @Ne Nat Th Rw ∧ @Ne Nat Th Lt ∧ @Ne Nat Th (L + 3)) → (@Ne Nat Tw Rw ∧ @Ne Nat Tw Lt ∧ @Ne Nat Tw (L + 3)) → Q .next { s with heap := h', toks := tk }) :
    wpAny (model Challenge.rw_wr0014_01.row.prog w) (Ard dp un fr gd) (exec (stmtAt (lawBody w.params) 7) (envOfC (Str.ofString "law") (lawScope w.params) L fa cd)) Q E s := by
  revert X; k_fill; intro X
  w_on
  conv in stmtAt _ _ => whnf
  conv in lawScope _ => whnf
  rw [map_known4 (m := m) hRw hRw hRw hRw] at F
  rw [map_known4 (m := m) hRw hRw hRw hRw] at h
  repeat' (first | (k_unfold; (try dsimp only)) | walk1 | (dsimp only; walk1))
  with_reducible rename News _ _ _ _ => N9
  refine h _ _ _ _ _ (by with_reducible assumption) (by assumption) (fun p hp => N9 p ?_) (by refine ⟨?_, ?_, ?_, ?_⟩ <;> omega) (by refine ⟨?_, ?_, ?_⟩ <;> omega)
  simp only [List.mem_cons, List.not_mem_nil, or_false] at hp ⊢
  rcases hp with rfl | rfl | rfl | rfl | rfl
  · exact .inr (.inl rfl)
  · exact .inr (.inr (.inl rfl))
  · exact .inr (.inr (.inr (.inl rfl)))
  · exact .inr (.inr (.inr (.inr (.inl rfl))))
  · exact .inr (.inr (.inr (.inr (.inr (.inr rfl)))))
set_option maxHeartbeats 4000000 in
theorem st8 {m : Str → Option Value} {Th Tw Rw Lt : Addr} {oh ow oR oL o3 : Obj}
    (F : Fr h₀ L s.heap m) (N : News h₀ L s.heap [(Th, oh), (Tw, ow), (Rw, oR), (Lt, oL), (L + 3, o3)]) (X : (Mine.hd.heap_39 w.params).In h₀)
    (h : ∀ h' tk Td t0 t1 t2 t3 t4, Fr h₀ L h' (fun z => if z = Str.ofString "told" then some (.ref Td) else m z) →
      News h₀ L h' [(Td, PySem.W.listOf #[.int 0 t0, .int 0 t1, .int 0 t2, .int 0 t3, .int 0 t4] 0), (Th, oh), (Tw, ow), (Rw, oR), (Lt, oL), (L + 3, o3)] →
      (@Ne Nat Td Th ∧ @Ne Nat Td Tw ∧ @Ne Nat Td Rw ∧ @Ne Nat Td Lt ∧ @Ne Nat Td (L + 3)) → Q .next { s with heap := h', toks := tk }) :
    wpAny (model Challenge.rw_wr0014_01.row.prog w) (Ard dp un fr gd) (exec (stmtAt (lawBody w.params) 8) (envOfC (Str.ofString "law") (lawScope w.params) L fa cd)) Q E s := by
  revert X; k_fill; intro X
  w_on
  conv in stmtAt _ _ => whnf
  conv in lawScope _ => whnf
  repeat' (first | (k_unfold; (try dsimp only)) | walk1 | (dsimp only; walk1))
  exact h _ _ _ _ _ _ _ _ (by with_reducible assumption) (by with_reducible assumption) (by refine ⟨?_, ?_, ?_, ?_, ?_⟩ <;> omega)
end
end Mine
namespace Mine
set_option maxRecDepth 100000
open PySem PySem.W PySem.Calls PyProof.Rows PySem.Spec
local macro_rules | `(tactic| walk_at "pad") => `(tactic| skip)
theorem forall_cons {P : Addr × Obj → Prop} {a : Addr × Obj} {l : List (Addr × Obj)} (h : ∀ p ∈ a :: l, P p) : P a ∧ ∀ p ∈ l, P p := ⟨h a (List.mem_cons_self ..), fun p hp => h p (List.mem_cons_of_mem _ hp)⟩
local macro_rules | `(tactic| walk_at "call ref") => `(tactic| (
  (with_reducible rename Fr _ _ _ _ => F8)
  (with_reducible rename News _ _ _ _ => N8)
  refine addl_L (by assumption) (by assumption) (by assumption) (by exact F8) (by exact N8) (by exact News.isList N8 (by news_mem)) (by exact News.isList N8 (by news_mem)) (by simp only [List.length_cons, List.length_nil]; omega) ?_
  intro _ _ _ _ N9 l9
  simp only [List.forall_mem_cons, List.not_mem_nil, false_imp_iff, implies_true, and_true] at l9
  (try dsimp only [List.cons_append, List.nil_append] at N9)
  clear F8 N8
  (try dsimp only)))
section
variable {w : World} {dp un : Nat} {fr : Option (List Env)} {gd : Option (List Code)} {s : Shared} {mean : ExcName → Option Value} {mg mb : Str → Option Value}
    {Q : Flow → Shared → Prop} {E : Value → Shared → Prop} {h₀ : Heap} {L fa : Addr} {cd : Value}
noncomputable def mainBody (p : Params) : List Stmt := forBody (stmtAt (forBody (stmtAt (lawBody p) 9)) 0)
abbrev base9 (Td Th Tw Rw Lt L I1 I2 : Addr) (od oR oL o3 i1 i2 : Obj) (v0 v1 v2 v3 v4 : Value) : List (Addr × Obj) :=
  [(Td, od), (Th, PySem.W.listOf #[v2, v3, v4] 0), (Tw, PySem.W.listOf #[v0, v1] 0), (Rw, oR), (Lt, oL), (L + 3, o3), (I1, i1), (I2, i2)]
set_option maxHeartbeats 4000000 in
theorem st9a {m : Str → Option Value} {Td Th Tw Rw Lt I1 I2 : Addr} {od oR oL o3 i1 i2 : Obj} {r0 r1 r2 r3 r4 : Str} {t0 t1 t2 t3 t4 ta : Tok} (a : Nat) (ha4 : a < 4)
    (X : (Mine.hd.heap_39 w.params).In h₀) (T : Top Mine.hd.view_39 (looseW Mine.hd.view_39 []) mean mg mb h₀) (hd : dp + 9 < recursionLimit)
    (hTh : m (Str.ofString "three") = some (.ref Th)) (ha : m (Str.ofString "a") = some (.int (a : Int) ta)) (d3 : o3.data = Data.cell (some (.ref Tw)))
    (F : Fr h₀ L s.heap m)
    (N : News h₀ L s.heap [(Td, od), (Th, PySem.W.listOf #[.str r2 t2, .str r3 t3, .str r4 t4] 0), (Tw, PySem.W.listOf #[.str r0 t0, .str r1 t1] 0), (Rw, oR), (Lt, oL), (L + 3, o3), (I1, i1), (I2, i2)])
    (h : ∀ h' tk Mx, Fr h₀ L h' (fun z => if z = Str.ofString "mixed" then some (.ref Mx) else m z) →
      News h₀ L h' [(Mx, PySem.W.listOf (([.str r2 t2, .str r3 t3, .str r4 t4] : List Value).take a ++ [Value.str r0 t0] ++ ([.str r2 t2, .str r3 t3, .str r4 t4] : List Value).drop a).toArray 0), (Td, od), (Th, PySem.W.listOf #[.str r2 t2, .str r3 t3, .str r4 t4] 0), (Tw, PySem.W.listOf #[.str r0 t0, .str r1 t1] 0), (Rw, oR), (Lt, oL), (L + 3, o3), (I1, i1), (I2, i2)] →
      (@Ne Nat Mx Td ∧ @Ne Nat Mx Th ∧ @Ne Nat Mx Tw ∧ @Ne Nat Mx Rw ∧ @Ne Nat Mx Lt ∧ @Ne Nat Mx (L + 3) ∧ @Ne Nat Mx I1 ∧ @Ne Nat Mx I2) → Q .next { s with heap := h', toks := tk }) :
    wpAny (model Challenge.rw_wr0014_01.row.prog w) (Ard dp un fr gd) (exec (stmtAt (mainBody w.params) 0) (envOfC (Str.ofString "law") (lawScope w.params) L fa cd)) Q E s := by
  revert X; k_fill; intro X
  w_on
  conv in stmtAt _ _ => whnf
  conv in lawScope _ => whnf
  rw [map_known4 (m := m) hTh ha ha ha] at F
  rw [map_known4 (m := m) hTh ha ha ha] at h
  have hc := nat_lt4 a ha4
  rcases hc with rfl | rfl | rfl | rfl
  all_goals repeat' (first | (k_unfold; (try dsimp only)) | walk1 | (dsimp only; walk1))
  all_goals (
    with_reducible rename Fr _ _ _ _ => F8
    with_reducible rename News _ _ _ _ => N8)
  all_goals refine h _ _ _ F8 (fun p hp => N8 p ?_) (by with_reducible rename (@Ne Nat _ _ ∧ _) => l9; exact ⟨l9.2.2.2.2.1.symm, l9.2.2.2.2.2.1.symm, l9.2.2.2.2.2.2.1.symm, l9.2.2.2.2.2.2.2.1.symm, l9.2.2.2.2.2.2.2.2.1.symm, l9.2.2.2.2.2.2.2.2.2.1.symm, l9.2.2.2.2.2.2.2.2.2.2.1.symm, l9.2.2.2.2.2.2.2.2.2.2.2.symm⟩)
  all_goals (
    rcases List.mem_cons.mp hp with rfl | hp
    · exact List.mem_cons_self ..
    · exact List.mem_cons_of_mem _ (List.mem_cons_of_mem _ (List.mem_cons_of_mem _ (List.mem_cons_of_mem _ (List.mem_cons_of_mem _ hp)))))
end
end Mine
namespace Mine
set_option maxRecDepth 100000
open PySem PySem.W PySem.Calls PyProof.Rows PySem.Spec
local macro_rules | `(tactic| walk_at "pad") => `(tactic| skip)
theorem insert_nat {prog : Program} {w : World} {A : Around} {E : Value → Shared → Prop} {s : Shared} {h₀ : Heap} {L D : Addr} {m : Str → Option Value} {news news' : List (Addr × Obj)} {l : List Value} {n : Nat}
    {x : Int} {u : Tok} {y : Value} {Q : Value → Shared → Prop} (F : Fr h₀ L s.heap m) (N : News h₀ L s.heap news) (hf : 0 ≤ x ∧ x < 1000)
    (U : Upd D (PySem.W.listOf l.toArray n) (PySem.W.listOf (insI l x y).toArray (n + 1)) news news') (hz : l.length ≤ 1000) (h : ∀ h', Fr h₀ L h' m → News h₀ L h' news' → Q .none { s with heap := h' }) :
    wpAny (model prog w) A (call (.builtin "list.insert") [.ref D, .int x u, y]) Q E s := insert_my F N hf U hz h
local macro_rules | `(tactic| walk_at "call builtin:list.insert") => `(tactic| (
  (with_reducible rename Fr _ _ _ _ => F8)
  (with_reducible rename News _ _ _ _ => N8)
  with_unfolding_all refine' insert_nat F8 N8 ?zz1 ?zz2 ?zz3 ?_
  (case zz2 => k_upd)
  (case zz1 => exact ⟨by omega, by omega⟩)
  (case zz3 => omega)
  intro _ _ _))
local macro_rules | `(tactic| walk_at "call builtin:str.join") => `(tactic| (
  (with_reducible rename StrsAre _ _ => S8)
  (with_reducible rename News _ _ _ _ => N8)
  refine join_listW (News.isList N8 (by news_mem)) S8 (by decide) (by with_reducible assumption) ?_
  intro _ _))
section
variable {w : World} {dp un : Nat} {fr : Option (List Env)} {gd : Option (List Code)} {s : Shared} {mean : ExcName → Option Value} {mg mb : Str → Option Value}
    {Q : Flow → Shared → Prop} {E : Value → Shared → Prop} {h₀ : Heap} {L fa : Addr} {cd : Value}
set_option maxHeartbeats 4000000 in
theorem st9b {m : Str → Option Value} {Mx Td Th Tw Rw Lt I1 I2 : Addr} {od oh oR oL o3 i1 i2 : Obj} {vM : List Value} {r0 r1 : Str} {t0 t1 tb : Tok} (b : Nat) (hb5 : b < 5)
    (X : (Mine.hd.heap_39 w.params).In h₀) (hMx : m (Str.ofString "mixed") = some (.ref Mx)) (hb : m (Str.ofString "b") = some (.int (b : Int) tb)) (d3 : o3.data = Data.cell (some (.ref Tw)))
    (F : Fr h₀ L s.heap m) (hl : vM.length = 4)
    (ne : @Ne Nat Mx Td ∧ @Ne Nat Mx Th ∧ @Ne Nat Mx Tw ∧ @Ne Nat Mx Rw ∧ @Ne Nat Mx Lt ∧ @Ne Nat Mx (L + 3) ∧ @Ne Nat Mx I1 ∧ @Ne Nat Mx I2)
    (N : News h₀ L s.heap [(Mx, PySem.W.listOf vM.toArray 0), (Td, od), (Th, oh), (Tw, PySem.W.listOf #[.str r0 t0, .str r1 t1] 0), (Rw, oR), (Lt, oL), (L + 3, o3), (I1, i1), (I2, i2)])
    (h : ∀ h' tk, Fr h₀ L h' m →
      News h₀ L h' [(Mx, PySem.W.listOf (insI vM (b : Int) (.str r1 t1)).toArray 1), (Td, od), (Th, oh), (Tw, PySem.W.listOf #[.str r0 t0, .str r1 t1] 0), (Rw, oR), (Lt, oL), (L + 3, o3), (I1, i1), (I2, i2)] → Q .next { s with heap := h', toks := tk }) :
    wpAny (model Challenge.rw_wr0014_01.row.prog w) (Ard dp un fr gd) (exec (stmtAt (mainBody w.params) 1) (envOfC (Str.ofString "law") (lawScope w.params) L fa cd)) Q E s := by
  revert X; k_fill; intro X
  w_on
  conv in stmtAt _ _ => whnf
  conv in lawScope _ => whnf
  rw [map_known4 (m := m) hMx hb hb hb] at F
  rw [map_known4 (m := m) hMx hb hb hb] at h
  repeat' (first | (k_unfold; (try dsimp only)) | walk1 | (dsimp only; walk1))
  exact h _ _ (by with_reducible assumption) (by with_reducible assumption)
set_option maxHeartbeats 4000000 in
theorem st9c {m : Str → Option Value} {Mx Td Th Tw Rw Lt I1 I2 : Addr} {od oh ow oR oL o3 i1 i2 : Obj} {vM : List Value} {ms : List Str} {nM : Nat}
    (X : (Mine.hd.heap_39 w.params).In h₀) (hMx : m (Str.ofString "mixed") = some (.ref Mx)) (sM : StrsAre vM ms) (hw : (ms.map (·.length)).sum + ms.length ≤ 1048576)
    (F : Fr h₀ L s.heap m)
    (N : News h₀ L s.heap [(Mx, PySem.W.listOf vM.toArray nM), (Td, od), (Th, oh), (Tw, ow), (Rw, oR), (Lt, oL), (L + 3, o3), (I1, i1), (I2, i2)])
    (h : ∀ h' tk t, Fr h₀ L h' (fun z => if z = Str.ofString "text" then some (.str (Txt.join (Str.ofString "") ms) t) else m z) →
      News h₀ L h' [(Mx, PySem.W.listOf vM.toArray nM), (Td, od), (Th, oh), (Tw, ow), (Rw, oR), (Lt, oL), (L + 3, o3), (I1, i1), (I2, i2)] → Q .next { s with heap := h', toks := tk }) :
    wpAny (model Challenge.rw_wr0014_01.row.prog w) (Ard dp un fr gd) (exec (stmtAt (mainBody w.params) 2) (envOfC (Str.ofString "law") (lawScope w.params) L fa cd)) Q E s := by
  revert X; k_fill; intro X
  w_on
  conv in stmtAt _ _ => whnf
  conv in lawScope _ => whnf
  rw [map_known4 (m := m) hMx hMx hMx hMx] at F
  rw [map_known4 (m := m) hMx hMx hMx hMx] at h
  repeat' (first | (k_unfold; (try dsimp only)) | walk1 | (dsimp only; walk1))
  exact h _ _ _ (by with_reducible assumption) (by with_reducible assumption)
end
end Mine
namespace Mine
set_option maxRecDepth 100000
open PySem PySem.W PySem.Calls PyProof.Rows PySem.Spec
local macro_rules | `(tactic| walk_at "pad") => `(tactic| skip)
theorem index_strs {prog : Program} {w : World} {A : Around} {E : Value → Shared → Prop} {s : Shared} {D : Addr} {vM : List Value} {ms : List Str} {n : Nat} {k : Str} {t : Tok} {Q : Value → Shared → Prop}
    (hl : s.heap.get? D = some (PySem.W.listOf vM.toArray n)) (hi : StrsAre vM ms) (hz : ms.length ≤ 1000) (hk : k ∈ ms) (h : Q (.int ((ms.idxOf k : Nat) : Int) s.toks) { s with toks := s.toks + 1 }) :
    wpAny (model prog w) A (call (.builtin "list.index") [.ref D, .str k t]) Q E s := by
  have hlen := StrsAre.len_eq hi
  have hj : ms.idxOf k < ms.length := List.idxOf_lt_length_iff.mpr hk
  have hat : ∀ i (hv : i < vM.length) (hm : i < ms.length), isStrOf k vM[i] = (ms[i] == k) := by
    intro i hv hm
    obtain ⟨u, hu⟩ := hi.at (show ms[i]? = some ms[i] by simp)
    have h2 : vM[i] = .str ms[i] u := by
      rw [List.getElem?_eq_getElem hv] at hu
      exact Option.some.inj hu
    rw [h2]; rfl
  refine call_meets PySem.F.slot_list_index ⟨_, hl, rfl⟩ PySem.F.entry_list_index (PySem.F.args_list_index_2 _ _)
    (MeetsSeq.list_index D vM.toArray n (.str k t) (isStrOf k) (fun y hy => eq_isStrOf k t hi y (by simpa using hy)) (ms.idxOf k) (by rw [List.size_toArray]; omega) (by omega) ?_ ?_) ⟨hl, h⟩
  · show isStrOf k vM[ms.idxOf k] = true
    rw [hat _ (by omega) hj]
    simp
  · intro j hjs hlt
    show isStrOf k vM[j] = false
    rw [hat _ (by rw [List.size_toArray] at hjs; exact hjs) (by omega)]
    have := List.not_of_lt_findIdx (p := (· == k)) (xs := ms) hlt
    simpa using this
local macro_rules | `(tactic| walk_at "call builtin:list.index") => `(tactic| (
  (with_reducible rename StrsAre _ _ => S8)
  (with_reducible rename News _ _ _ _ => N8)
  refine index_strs (News.get N8 (by news_mem)) S8 (by omega) (by with_reducible assumption) ?_))
section
variable {prog : Program} {w : World} {A : Around} {E : Value → Shared → Prop} {s : Shared} {x : Str} {t : Tok} {Q : Value → Shared → Prop} {D : Addr} {a b c d : Str} {ta tb tc td : Tok}
theorem join_lit2 (hl : s.heap.IsList D #[.str a ta, .str b tb]) (hx : x.length ≤ 16) (hw : a.length + b.length ≤ 1000000)
    (h : ∀ t' k, Q (.str (Txt.join x [a, b]) t') { s with toks := k }) : wpAny (model prog w) A (call (.builtin "str.join") [.str x t, .ref D]) Q E s :=
  join_listW hl (.cons _ _ (.cons _ _ .nil)) hx (by simp only [List.map_cons, List.map_nil, List.sum_cons, List.sum_nil, List.length_cons, List.length_nil]; omega) h
theorem join_lit3 (hl : s.heap.IsList D #[.str a ta, .str b tb, .str c tc]) (hx : x.length ≤ 16) (hw : a.length + b.length + c.length ≤ 1000000)
    (h : ∀ t' k, Q (.str (Txt.join x [a, b, c]) t') { s with toks := k }) : wpAny (model prog w) A (call (.builtin "str.join") [.str x t, .ref D]) Q E s :=
  join_listW hl (.cons _ _ (.cons _ _ (.cons _ _ .nil))) hx (by simp only [List.map_cons, List.map_nil, List.sum_cons, List.sum_nil, List.length_cons, List.length_nil]; omega) h
theorem join_lit4 (hl : s.heap.IsList D #[.str a ta, .str b tb, .str c tc, .str d td]) (hx : x.length ≤ 16) (hw : a.length + b.length + c.length + d.length ≤ 1000000)
    (h : ∀ t' k, Q (.str (Txt.join x [a, b, c, d]) t') { s with toks := k }) : wpAny (model prog w) A (call (.builtin "str.join") [.str x t, .ref D]) Q E s :=
  join_listW hl (.cons _ _ (.cons _ _ (.cons _ _ (.cons _ _ .nil)))) hx (by simp only [List.map_cons, List.map_nil, List.sum_cons, List.sum_nil, List.length_cons, List.length_nil]; omega) h
end
theorem len_ofS_empty : (Str.ofString "").length = 0 := rfl
local macro_rules | `(tactic| walk_at "call builtin:str.join") => `(tactic| (
  (with_reducible rename News _ _ _ _ => N8)
  first
    | refine' join_lit4 (News.isList N8 (by news_mem)) (by decide) ?zz2 ?_
    | refine' join_lit3 (News.isList N8 (by news_mem)) (by decide) ?zz2 ?_
    | refine' join_lit2 (News.isList N8 (by news_mem)) (by decide) ?zz2 ?_
  (case zz2 => ((try simp only [len_ofS_empty]); omega))
  intro _ _))
local macro_rules | `(tactic| walk_at "call ref") => `(tactic| (
  (with_reducible rename Fr _ _ _ _ => F8)
  (with_reducible rename News _ _ _ _ => N8)
  refine ell_L (by assumption) (by assumption) (by assumption) (by exact F8) (by exact N8) (by with_reducible assumption) ?_
  intro _ _ _ _
  clear F8 N8
  (try dsimp only)))
section
variable {w : World} {dp un : Nat} {fr : Option (List Env)} {gd : Option (List Code)} {s : Shared} {mean : ExcName → Option Value} {mg mb : Str → Option Value}
    {Q : Flow → Shared → Prop} {E : Value → Shared → Prop} {h₀ : Heap} {L fa : Addr} {cd : Value}
set_option maxHeartbeats 4000000 in
theorem st9d {m : Str → Option Value} {Mx Td Th Tw Rw Lt I1 I2 : Addr} {oM od oh oR oL o3 i1 i2 : Obj} {r0 r1 text : Str} {t0 t1 tx : Tok} {bH : Bool}
    (X : (Mine.hd.heap_39 w.params).In h₀) (T : Top Mine.hd.view_39 (looseW Mine.hd.view_39 []) mean mg mb h₀) (hd : dp + 9 < recursionLimit)
    (htx : m (Str.ofString "text") = some (.str text tx)) (d3 : o3.data = Data.cell (some (.ref Tw))) (hr0 : r0.length ≤ 3) (hr1 : r1.length ≤ 3)
    (hE : EllIs w (Txt.join (Str.ofString "...") [Str.ofString "", r0, r1, Str.ofString ""]) text bH)
    (F : Fr h₀ L s.heap m)
    (N : News h₀ L s.heap [(Mx, oM), (Td, od), (Th, oh), (Tw, PySem.W.listOf #[.str r0 t0, .str r1 t1] 0), (Rw, oR), (Lt, oL), (L + 3, o3), (I1, i1), (I2, i2)])
    (h : ∀ h' tk, Fr h₀ L h' (fun z => if z = Str.ofString "holds" then some (.bool bH) else m z) →
      News h₀ L h' [(Mx, oM), (Td, od), (Th, oh), (Tw, PySem.W.listOf #[.str r0 t0, .str r1 t1] 0), (Rw, oR), (Lt, oL), (L + 3, o3), (I1, i1), (I2, i2)] → Q .next { s with heap := h', toks := tk }) :
    wpAny (model Challenge.rw_wr0014_01.row.prog w) (Ard dp un fr gd) (exec (stmtAt (mainBody w.params) 3) (envOfC (Str.ofString "law") (lawScope w.params) L fa cd)) Q E s := by
  revert X; k_fill; intro X
  w_on
  conv in stmtAt _ _ => whnf
  conv in lawScope _ => whnf
  rw [map_known4 (m := m) htx htx htx htx] at F
  rw [map_known4 (m := m) htx htx htx htx] at h
  repeat' (first | (k_unfold; (try dsimp only)) | walk1 | (dsimp only; walk1))
  with_reducible rename News _ _ _ _ => N9
  exact h _ _ (by with_reducible assumption) (fun p hp => N9 p (List.mem_cons_of_mem _ (List.mem_cons_of_mem _ (List.mem_cons_of_mem _ (List.mem_cons_of_mem _ hp)))))
set_option maxHeartbeats 4000000 in
theorem st9e {m : Str → Option Value} {Mx Td Th Tw Rw Lt I1 I2 : Addr} {od oh oR oL o3 i1 i2 : Obj} {vM : List Value} {ms : List Str} {nM : Nat} {r0 r1 : Str} {t0 t1 : Tok} {bH : Bool}
    (X : (Mine.hd.heap_39 w.params).In h₀) (T : Top Mine.hd.view_39 (looseW Mine.hd.view_39 []) mean mg mb h₀) (hd : dp + 9 < recursionLimit)
    (hMx : m (Str.ofString "mixed") = some (.ref Mx)) (hH : m (Str.ofString "holds") = some (.bool bH)) (d3 : o3.data = Data.cell (some (.ref Tw))) (sM : StrsAre vM ms) (hlen : ms.length = 5)
    (m0 : r0 ∈ ms) (m1 : r1 ∈ ms) (hcmp : bH = decide (((ms.idxOf r0 : Nat) : Int) < ((ms.idxOf r1 : Nat) : Int)))
    (F : Fr h₀ L s.heap m)
    (N : News h₀ L s.heap [(Mx, PySem.W.listOf vM.toArray nM), (Td, od), (Th, oh), (Tw, PySem.W.listOf #[.str r0 t0, .str r1 t1] 0), (Rw, oR), (Lt, oL), (L + 3, o3), (I1, i1), (I2, i2)])
    (h : ∀ h' tk, Fr h₀ L h' m →
      News h₀ L h' [(Mx, PySem.W.listOf vM.toArray nM), (Td, od), (Th, oh), (Tw, PySem.W.listOf #[.str r0 t0, .str r1 t1] 0), (Rw, oR), (Lt, oL), (L + 3, o3), (I1, i1), (I2, i2)] → Q .next { s with heap := h', toks := tk }) :
    wpAny (model Challenge.rw_wr0014_01.row.prog w) (Ard dp un fr gd) (exec (stmtAt (mainBody w.params) 4) (envOfC (Str.ofString "law") (lawScope w.params) L fa cd)) Q E s := by
  revert X; k_fill; intro X
  w_on
  conv in stmtAt _ _ => whnf
  conv in lawScope _ => whnf
  rw [map_known4 (m := m) hMx hH hH hH] at F
  rw [map_known4 (m := m) hMx hH hH hH] at h
  repeat' (first | (k_unfold; (try dsimp only)) | walk1 | (dsimp only; walk1))
  · exfalso
    with_reducible rename ((_ != _) = true) => hx
    rw [hcmp, bne_self_eq_false] at hx
    cases hx
  · exact h _ _ (by with_reducible assumption) (by with_reducible assumption)
end
end Mine
namespace Mine
set_option maxRecDepth 100000
open PySem PySem.W PySem.Calls PyProof.Rows PySem.Spec
local macro_rules | `(tactic| walk_at "call builtin:list.index") => `(tactic| (
  (with_reducible rename StrsAre _ _ => S8)
  (with_reducible rename News _ _ _ _ => N8)
  refine index_strs (News.get N8 (by news_mem)) S8 (by omega) (by with_reducible assumption) ?_))
local macro_rules | `(tactic| walk_at "call builtin:str.join") => `(tactic| (
  (with_reducible rename News _ _ _ _ => N8)
  first
    | refine' join_lit4 (News.isList N8 (by news_mem)) (by decide) ?zz2 ?_
    | refine' join_lit3 (News.isList N8 (by news_mem)) (by decide) ?zz2 ?_
    | refine' join_lit2 (News.isList N8 (by news_mem)) (by decide) ?zz2 ?_
  (case zz2 => ((try simp only [len_ofS_empty]); omega))
  intro _ _))
local macro_rules | `(tactic| walk_at "call ref") => `(tactic| (
  (with_reducible rename Fr _ _ _ _ => F8)
  (with_reducible rename News _ _ _ _ => N8)
  refine ell_L (by assumption) (by assumption) (by assumption) (by exact F8) (by exact N8) (by with_reducible assumption) ?_
  intro _ _ _ _
  clear F8 N8
  (try dsimp only)))
section
variable {w : World} {dp un : Nat} {fr : Option (List Env)} {gd : Option (List Code)} {s : Shared} {mean : ExcName → Option Value} {mg mb : Str → Option Value}
    {Q : Flow → Shared → Prop} {E : Value → Shared → Prop} {h₀ : Heap} {L fa : Addr} {cd : Value}
set_option maxHeartbeats 4000000 in
theorem st9f {m : Str → Option Value} {Mx Td Th Tw Rw Lt I1 I2 : Addr} {od oh oR oL o3 i1 i2 : Obj} {vM : List Value} {ms : List Str} {nM : Nat} {r0 r1 text : Str} {t0 t1 tx : Tok} {b2 : Bool}
    (X : (Mine.hd.heap_39 w.params).In h₀) (T : Top Mine.hd.view_39 (looseW Mine.hd.view_39 []) mean mg mb h₀) (hd : dp + 9 < recursionLimit)
    (hMx : m (Str.ofString "mixed") = some (.ref Mx)) (htx : m (Str.ofString "text") = some (.str text tx)) (d3 : o3.data = Data.cell (some (.ref Tw))) (sM : StrsAre vM ms) (hlen : ms.length = 5)
    (hr0 : r0.length ≤ 3) (hr1 : r1.length ≤ 3) (hE : EllIs w (Txt.join (Str.ofString "...") [r0, r1]) text b2)
    (hcmp : b2 = (ms.getD 0 Str.empty == r0 && ms.getD 4 Str.empty == r1))
    (F : Fr h₀ L s.heap m)
    (N : News h₀ L s.heap [(Mx, PySem.W.listOf vM.toArray nM), (Td, od), (Th, oh), (Tw, PySem.W.listOf #[.str r0 t0, .str r1 t1] 0), (Rw, oR), (Lt, oL), (L + 3, o3), (I1, i1), (I2, i2)])
    (h : ∀ h' tk, Fr h₀ L h' m →
      News h₀ L h' [(Mx, PySem.W.listOf vM.toArray nM), (Td, od), (Th, oh), (Tw, PySem.W.listOf #[.str r0 t0, .str r1 t1] 0), (Rw, oR), (Lt, oL), (L + 3, o3), (I1, i1), (I2, i2)] → Q .next { s with heap := h', toks := tk }) :
    wpAny (model Challenge.rw_wr0014_01.row.prog w) (Ard dp un fr gd) (exec (stmtAt (mainBody w.params) 5) (envOfC (Str.ofString "law") (lawScope w.params) L fa cd)) Q E s := by
  revert X; k_fill; intro X
  w_on
  conv in stmtAt _ _ => whnf
  conv in lawScope _ => whnf
  rw [map_known4 (m := m) hMx htx htx htx] at F
  rw [map_known4 (m := m) hMx htx htx htx] at h
  repeat' (first | (k_unfold; (try dsimp only)) | walk1 | (dsimp only; walk1))
  all_goals first
    | exact h _ _ (by with_reducible assumption) (by with_reducible assumption)
    | (exfalso
       have hcmp' : b2 = (ms.getD (Int.toNat 0) Str.empty == r0 && ms.getD (Int.toNat 4) Str.empty == r1) := hcmp
       with_reducible rename ((_ != _) = true) => hx
       with_reducible rename ((ms.getD (Int.toNat 0) Str.empty == r0) = _) => hy
       rw [hcmp', hy] at hx
       simp at hx)
end
end Mine
namespace Mine
set_option maxRecDepth 100000
open PySem PySem.W PySem.Calls PyProof.Rows PySem.Spec
local macro_rules | `(tactic| walk_at "pad") => `(tactic| skip)
noncomputable def ifBody : Stmt → List Stmt
  | .If _ b _ _ => b
  | _ => []
section
variable {prog : Program} {w : World} {A : Around} {h₀ : Heap} {L : Addr} {m : Str → Option Value} {env : Env} {elt : Expr} {x : Str} {scope : Scope} {cl : List (Str × Addr)} {s : Shared} {S : List (Addr × Obj) → Prop} {Fin : List Value → List (Addr × Obj) → Prop} {news : List (Addr × Obj)}
theorem cst_rest {vs : List Value} {ms : List Str} (g : Str → Str) (hi : StrsAre vs ms)
    (turn : ∀ k t I oI C oC D m₂ ys h tk (E' : Value → Shared → Prop), k ∈ ms → LCg.NsObj oC m₂ → m₂ x = some (.str k t) → Fr h₀ L h m → News h₀ L h ((I, oI) :: (C, oC) :: (D, LCg.lst ys) :: news) → LCg.Off3 I C D news → ((@Ne Nat I C) ∧ (@Ne Nat I D) ∧ (@Ne Nat C D)) →
      wpAny (model prog w) A (eval elt (compEnvC scope cl C env)) (LCg.CompEnd h₀ L m { s with heap := h, toks := tk } I oI C oC D (LCg.lst ys) S (fun y news' => KCtEl news (g k) y news')) E' { s with heap := h, toks := tk })
    (fin : ∀ ys, StrsAre ys (ms.map g) → Fin ys news) : LCg.CompRest prog w A h₀ L m env elt x scope cl s S (fun i v => vs.toArray[i]? = some v) Fin vs.toArray.size 0 [] news := by
  have hlen := StrsAre.len_eq hi
  have key : ∀ (j i : Nat) (ys : List Value), i + j = vs.toArray.size → StrsAre ys ((ms.take i).map g) → LCg.CompRest prog w A h₀ L m env elt x scope cl s S (fun i v => vs.toArray[i]? = some v) Fin j i ys news := by
    intro j
    induction j with
    | zero =>
      intro i ys hij hy
      have e : i = ms.length := by rw [List.size_toArray] at hij; omega
      subst e
      rw [List.take_length] at hy
      exact LCg.CompRest.zero (fin ys hy)
    | succ j ih =>
      intro i ys hij hy
      refine LCg.CompRest.succ ?_
      intro v I oI C oC D m₂ h tk E' hv hC hx F N off ne
      have him : i < ms.length := by rw [List.size_toArray] at hij; omega
      obtain ⟨t, ht⟩ := hi.at (show ms[i]? = some ms[i] by simp)
      have hv' : v = .str ms[i] t := by
        have h2 : vs[i]? = some v := by simpa using hv
        rw [h2] at ht
        exact Option.some.inj ht
      rw [hv'] at hx
      refine wpAny_mono (turn ms[i] t I oI C oC D m₂ ys h tk E' (List.getElem_mem him) hC hx F N off ne) (fun y s₂ hq => ?_) fun _ _ e => e
      obtain ⟨h', tk', nw, e, F', N', off', hS, hn, t', hy'⟩ := hq
      rw [hn] at N' off' hS
      refine ⟨h', tk', news, e, F', N', off', hS, ?_⟩
      rw [hy']
      refine ih (i + 1) _ (by omega) ?_
      have e9 : (ms.take (i + 1)).map g = (ms.take i).map g ++ [g ms[i]] := by
        rw [List.take_add_one, List.getElem?_eq_getElem him, List.map_append]
        rfl
      rw [e9]
      exact kct_snoc hy
  exact key _ 0 [] (by omega) (by simp only [List.take_zero, List.map_nil]; exact .nil)
end
/-- one letter as it is shown -/
noncomputable def showI (r0 r1 one : Str) : Str := if ([r0, r1].any (· == one)) = true then one else Str.ofString "\"" ++ one ++ Str.ofString "\""
theorem showI_len {r0 r1 k : Str} (h : k.length ≤ 3) : (showI r0 r1 k).length ≤ 5 := by
  unfold showI
  split
  · omega
  · rw [Str.length_append, Str.length_append, show (Str.ofString "\"").length = 1 from rfl]; omega
theorem show_weight {r0 r1 : Str} {ms : List Str} (h : ∀ x ∈ ms, x.length ≤ 3) (hl : ms.length = 5) : ((ms.map (showI r0 r1)).map (·.length)).sum + (ms.map (showI r0 r1)).length ≤ 1048576 := by
  have h1 := sum_len_le 5 (ms.map (showI r0 r1)) (fun r hr => by
    obtain ⟨x, hx, rfl⟩ := List.mem_map.mp hr
    exact showI_len (h x hx))
  rw [List.length_map, hl] at h1 ⊢
  omega
local macro_rules | `(tactic| walk_at "CompEnd") => `(tactic| refine Stop.of ?_)
local macro_rules | `(tactic| walk_at "call builtin:str.join") => `(tactic| refine Stop.of ?_)
local macro_rules | `(tactic| walk_at "CompSrc") => `(tactic| refine Stop.of ?_)
section
variable {w : World} {dp un : Nat} {fr : Option (List Env)} {gd : Option (List Code)} {s : Shared} {mean : ExcName → Option Value} {mg mb : Str → Option Value}
    {Q : Flow → Shared → Prop} {E : Value → Shared → Prop} {h₀ : Heap} {L fa : Addr} {cd : Value}
set_option maxHeartbeats 4000000 in
theorem st9g {m : Str → Option Value} {Mx Td Th Tw Rw Lt I1 I2 : Addr} {od oh oR oL o3 i1 i2 : Obj} {vM : List Value} {ms : List Str} {nM : Nat} {r0 r1 : Str} {t0 t1 : Tok}
    (X : (Mine.hd.heap_39 w.params).In h₀) (T : Top Mine.hd.view_39 (looseW Mine.hd.view_39 []) mean mg mb h₀) (hd : dp + 9 < recursionLimit)
    (hMx : m (Str.ofString "mixed") = some (.ref Mx)) (d3 : o3.data = Data.cell (some (.ref Tw))) (sM : StrsAre vM ms) (hlen : ms.length = 5)
    (hms : ∀ x ∈ ms, x.length ≤ 3)
    (F : Fr h₀ L s.heap m)
    (N : News h₀ L s.heap [(Mx, PySem.W.listOf vM.toArray nM), (Td, od), (Th, oh), (Tw, PySem.W.listOf #[.str r0 t0, .str r1 t1] 0), (Rw, oR), (Lt, oL), (L + 3, o3), (I1, i1), (I2, i2)])
    (h : ∀ h' tk t, Fr h₀ L h' (fun z => if z = Str.ofString "shown" then some (.str (Txt.join (Str.ofString "") (ms.map (showI r0 r1))) t) else m z) →
      News h₀ L h' [(Mx, PySem.W.listOf vM.toArray nM), (Td, od), (Th, oh), (Tw, PySem.W.listOf #[.str r0 t0, .str r1 t1] 0), (Rw, oR), (Lt, oL), (L + 3, o3), (I1, i1), (I2, i2)] → Q .next { s with heap := h', toks := tk }) :
    wpAny (model Challenge.rw_wr0014_01.row.prog w) (Ard dp un fr gd) (exec (stmtAt (ifBody (stmtAt (mainBody w.params) 6)) 0) (envOfC (Str.ofString "law") (lawScope w.params) L fa cd)) Q E s := by
  revert X; k_fill; intro X
  w_on
  conv in stmtAt _ _ => whnf
  conv in lawScope _ => whnf
  rw [map_known4 (m := m) hMx hMx hMx hMx] at F
  rw [map_known4 (m := m) hMx hMx hMx hMx] at h
  repeat' (first | (k_unfold; (try dsimp only)) | walk1 | (dsimp only; walk1))
  unfold Stop
  with_reducible rename Fr _ _ _ _ => F8
  with_reducible rename News _ _ _ _ => N8
  refine LCg.CompSrc.ledger (by rfl) F8 N8 (by news_mem) (by rw [List.size_toArray, StrsAre.len_eq sM, hlen, sizeLine_eq]; omega) ?_
  intro g'
  refine cst_rest (showI r0 r1) sM ?_ ?_
  · intro k t I oI C oC D m₂ ys h7 tk E' hk hC hx F' N' off ne
    simp only [LCg.Off3, and_true] at off
    have hkl := hms k hk
    repeat' (first | (k_unfold; (try dsimp only)) | walk1 | (dsimp only; walk1))
    · unfold Stop
      with_reducible rename ((List.any _ _) = true) => hin
      refine LCg.CompEnd.intro F' N' _ (fun p hp => hp) (by simp only [LCg.Off3, and_true]; exact off) (.inr ⟨_, List.mem_cons_self .., rfl, _, rfl⟩) (kct_el (by unfold showI; rw [if_pos hin]) rfl rfl)
    · unfold Stop
      with_reducible rename ((List.any _ _) = false) => hin
      refine LCg.CompEnd.intro F' N' _ (fun p hp => hp) (by simp only [LCg.Off3, and_true]; exact off) (.inr ⟨_, List.mem_cons_self .., rfl, _, rfl⟩) (kct_el (by unfold showI; rw [if_neg (by rw [hin]; decide)]) rfl rfl)
  · intro ys hy
    repeat' (first | (k_unfold; (try dsimp only)) | walk1 | (dsimp only; walk1))
    unfold Stop
    with_reducible rename News _ _ _ _ => N9
    refine join_listW (News.isList N9 (.head _)) hy (by decide) (show_weight hms hlen) ?_
    intro t' k'
    repeat' (first | (k_unfold; (try dsimp only)) | walk1 | (dsimp only; walk1))
    with_reducible rename News _ _ _ _ => N9
    exact h _ _ _ (by with_reducible assumption) (fun p hp => N9 p (List.mem_cons_of_mem _ hp))
end
end Mine
namespace Mine
set_option maxRecDepth 100000
open PySem PySem.W PySem.Calls PyProof.Rows PySem.Spec
local macro_rules | `(tactic| walk_at "call builtin:str.join") => `(tactic| (
  (with_reducible rename News _ _ _ _ => N8)
  refine' join_lit2 (News.isList N8 (by news_mem)) (by decide) ?zz2 ?_
  (case zz2 => ((try simp only [len_ofS_empty]); omega))
  intro _ _))
local macro_rules | `(tactic| walk_at "call ref") => `(tactic| (
  (with_reducible rename Fr _ _ _ _ => F8)
  (with_reducible rename News _ _ _ _ => N8)
  refine strip_L (by assumption) (by assumption) (by assumption) (by exact F8) (by exact N8) (by with_reducible assumption) (by with_reducible assumption) ?_
  intro _ _ _ _ _ _
  clear F8 N8
  (try dsimp only)))
section
variable {w : World} {dp un : Nat} {fr : Option (List Env)} {gd : Option (List Code)} {s : Shared} {mean : ExcName → Option Value} {mg mb : Str → Option Value}
    {Q : Flow → Shared → Prop} {E : Value → Shared → Prop} {h₀ : Heap} {L fa : Addr} {cd : Value}
set_option maxHeartbeats 4000000 in
theorem st9h {m : Str → Option Value} {Mx Td Th Tw Rw Lt I1 I2 : Addr} {oM od oh oR oL o3 i1 i2 : Obj} {r0 r1 shown : Str} {t0 t1 tx : Tok}
    (X : (Mine.hd.heap_39 w.params).In h₀) (T : Top Mine.hd.view_39 (looseW Mine.hd.view_39 []) mean mg mb h₀) (hd : dp + 9 < recursionLimit) (hbare : AllBare s.gens)
    (htx : m (Str.ofString "shown") = some (.str shown tx)) (d3 : o3.data = Data.cell (some (.ref Tw))) (hr0 : r0.length ≤ 3) (hr1 : r1.length ≤ 3)
    (hE : StripIs w shown (Txt.join (Str.ofString "") [r0, r1]))
    (F : Fr h₀ L s.heap m)
    (N : News h₀ L s.heap [(Mx, oM), (Td, od), (Th, oh), (Tw, PySem.W.listOf #[.str r0 t0, .str r1 t1] 0), (Rw, oR), (Lt, oL), (L + 3, o3), (I1, i1), (I2, i2)])
    (h : ∀ s', Fr h₀ L s'.heap m →
      News h₀ L s'.heap [(Mx, oM), (Td, od), (Th, oh), (Tw, PySem.W.listOf #[.str r0 t0, .str r1 t1] 0), (Rw, oR), (Lt, oL), (L + 3, o3), (I1, i1), (I2, i2)] → AllBare s'.gens → s'.os = s.os → Q .next s') :
    wpAny (model Challenge.rw_wr0014_01.row.prog w) (Ard dp un fr gd) (exec (stmtAt (ifBody (stmtAt (mainBody w.params) 6)) 1) (envOfC (Str.ofString "law") (lawScope w.params) L fa cd)) Q E s := by
  revert X; k_fill; intro X
  w_on
  conv in stmtAt _ _ => whnf
  conv in lawScope _ => whnf
  rw [map_known4 (m := m) htx htx htx htx] at F
  rw [map_known4 (m := m) htx htx htx htx] at h
  repeat' (first | (k_unfold; (try dsimp only)) | walk1 | (dsimp only; walk1))
  · exfalso
    with_reducible rename ((_ != _) = true) => hx
    rw [bne_self_eq_false] at hx
    cases hx
  · exact h _ (by with_reducible assumption) (by with_reducible assumption) (by with_reducible assumption) (by with_reducible assumption)
end
end Mine
namespace Mine
set_option maxRecDepth 100000
open PySem PySem.W PySem.Calls PyProof.Rows PySem.Spec
local macro_rules | `(tactic| walk_at "pad") => `(tactic| skip)
local macro_rules | `(tactic| walk_at "call builtin:sum") => `(tactic| (
  (with_reducible rename Fr _ _ _ _ => F8)
  (with_reducible rename News _ _ _ _ => N8)
  refine sum_L (by exact F8) (by exact N8) rfl (by exact News.isList N8 (by news_mem)) (by with_reducible assumption) ?_
  intro _ _ _ _ _
  clear F8 N8
  (try dsimp only)))
local macro_rules | `(tactic| walk_at "call ref") => `(tactic| (
  (with_reducible rename Fr _ _ _ _ => F8)
  (with_reducible rename News _ _ _ _ => N8)
  first
    | (refine falls_L (by assumption) (by assumption) (by assumption) (by exact F8) (by exact N8) (by exact News.isList N8 (by news_mem)) (by with_reducible assumption) (by omega) ?_
       intro _ _ _ _ _ _ l9 _ _
       simp only [List.forall_mem_cons, List.not_mem_nil, false_imp_iff, implies_true, and_true] at l9)
    | (refine ipow_L (by assumption) (by assumption) (by assumption) (by exact F8) (by exact N8) (by omega) (by omega) (by omega) ?_; intro _ _ _ _ _)
    | (refine add_L (by assumption) (by assumption) (by assumption) (by exact F8) (by exact N8) ?_; intro _ _ _ _ _)
  clear F8 N8
  (try dsimp only)))
section
variable {w : World} {dp un : Nat} {fr : Option (List Env)} {gd : Option (List Code)} {s : Shared} {mean : ExcName → Option Value} {mg mb : Str → Option Value}
    {Q : Flow → Shared → Prop} {E : Value → Shared → Prop} {h₀ : Heap} {L fa : Addr} {cd : Value}
set_option maxHeartbeats 4000000 in
theorem st9i {m : Str → Option Value} {Mx Td Th Tw Rw Lt I1 I2 : Addr} {od oh ow oR oL o3 i1 i2 : Obj} {vM : List Value} {ms : List Str} {nM : Nat}
    (X : (Mine.hd.heap_39 w.params).In h₀) (T : Top Mine.hd.view_39 (looseW Mine.hd.view_39 []) mean mg mb h₀) (hd : dp + 9 < recursionLimit)
    (hMx : m (Str.ofString "mixed") = some (.ref Mx)) (sM : StrsAre vM ms) (hlen : ms.length = 5)
    (F : Fr h₀ L s.heap m)
    (N : News h₀ L s.heap [(Mx, PySem.W.listOf vM.toArray nM), (Td, od), (Th, oh), (Tw, ow), (Rw, oR), (Lt, oL), (L + 3, o3), (I1, i1), (I2, i2)])
    (h : ∀ h' tk Fl ys, Fr h₀ L h' (fun z => if z = Str.ofString "falls" then some (.ref Fl) else m z) → IntsAre ys (fallsOf ms) → ys.length ≤ 4 → @Ne Nat Td Fl →
      News h₀ L h' [(Fl, LCg.lst ys), (Mx, PySem.W.listOf vM.toArray nM), (Td, od), (Th, oh), (Tw, ow), (Rw, oR), (Lt, oL), (L + 3, o3), (I1, i1), (I2, i2)] → Q .next { s with heap := h', toks := tk }) :
    wpAny (model Challenge.rw_wr0014_01.row.prog w) (Ard dp un fr gd) (exec (stmtAt (ifBody (stmtAt (mainBody w.params) 6)) 2) (envOfC (Str.ofString "law") (lawScope w.params) L fa cd)) Q E s := by
  revert X; k_fill; intro X
  w_on
  conv in stmtAt _ _ => whnf
  conv in lawScope _ => whnf
  rw [map_known4 (m := m) hMx hMx hMx hMx] at F
  rw [map_known4 (m := m) hMx hMx hMx hMx] at h
  repeat' (first | (k_unfold; (try dsimp only)) | walk1 | (dsimp only; walk1))
  exact h _ _ _ _ (by with_reducible assumption) (by with_reducible assumption) (by with_reducible assumption) (by omega) (by with_reducible assumption)
set_option maxHeartbeats 4000000 in
theorem st9j {m : Str → Option Value} {Fl Mx Td Th Tw Rw Lt I1 I2 : Addr} {oM oh ow oR oL o3 i1 i2 : Obj} {vT ys : List Value} {xs ks : List Int} {nT : Nat} {q : Int} {tq : Tok}
    (X : (Mine.hd.heap_39 w.params).In h₀) (T : Top Mine.hd.view_39 (looseW Mine.hd.view_39 []) mean mg mb h₀) (hd : dp + 9 < recursionLimit)
    (hFl : m (Str.ofString "falls") = some (.ref Fl)) (hTd : m (Str.ofString "told") = some (.ref Td)) (hq : m (Str.ofString "q") = some (.int q tq))
    (iK : IntsAre ys ks) (hyl : ys.length ≤ 4) (hkl : ks.length ≤ 4) (iT : IntsAre vT xs) (hxl : xs.length = 5) (hq1 : -1000 ≤ q) (hq2 : q ≤ 1000) (hs1 : 0 ≤ ks.sum) (hs2 : ks.sum ≤ 20)
    (a1 : @Ne Nat Td Fl ∧ @Ne Nat Td Mx ∧ @Ne Nat Td Th ∧ @Ne Nat Td Tw ∧ @Ne Nat Td Rw ∧ @Ne Nat Td Lt ∧ @Ne Nat Td (L + 3) ∧ @Ne Nat Td I1 ∧ @Ne Nat Td I2)
    (F : Fr h₀ L s.heap m)
    (N : News h₀ L s.heap [(Fl, LCg.lst ys), (Mx, oM), (Td, PySem.W.listOf vT.toArray nT), (Th, oh), (Tw, ow), (Rw, oR), (Lt, oL), (L + 3, o3), (I1, i1), (I2, i2)])
    (h : ∀ h' tk vT', Fr h₀ L h' m → IntsAre vT' (xs.set ks.length (xs.getD ks.length 0 + q ^ ks.sum.toNat)) →
      News h₀ L h' [(Fl, LCg.lst ys), (Mx, oM), (Td, PySem.W.listOf vT'.toArray nT), (Th, oh), (Tw, ow), (Rw, oR), (Lt, oL), (L + 3, o3), (I1, i1), (I2, i2)] → Q .next { s with heap := h', toks := tk }) :
    wpAny (model Challenge.rw_wr0014_01.row.prog w) (Ard dp un fr gd) (exec (stmtAt (ifBody (stmtAt (mainBody w.params) 6)) 3) (envOfC (Str.ofString "law") (lawScope w.params) L fa cd)) Q E s := by
  revert X; k_fill; intro X
  w_on
  conv in stmtAt _ _ => whnf
  conv in lawScope _ => whnf
  rw [map_known4 (m := m) hFl hTd hq hq] at F
  rw [map_known4 (m := m) hFl hTd hq hq] at h
  repeat' (first | (k_unfold; (try dsimp only)) | walk1 | (dsimp only; walk1))
  exact h _ _ _ (by with_reducible assumption) (by assumption) (by with_reducible assumption)
end
end Mine
namespace Mine
set_option maxRecDepth 100000
open PySem PySem.W PySem.Calls PyProof.Rows PySem.Spec
noncomputable def mixS (r0 r1 r2 r3 r4 : Str) (a b : Nat) : List Str := insS (([r2, r3, r4] : List Str).take a ++ [r0] ++ ([r2, r3, r4] : List Str).drop a) (b : Int) r1
structure TurnFacts (w : World) (r0 r1 : Str) (ms : List Str) (bH : Bool) : Prop where
  e1 : EllIs w (Txt.join (Str.ofString "...") [Str.ofString "", r0, r1, Str.ofString ""]) (Txt.join (Str.ofString "") ms) bH
  e2 : ∃ b2, EllIs w (Txt.join (Str.ofString "...") [r0, r1]) (Txt.join (Str.ofString "") ms) b2 ∧ b2 = (ms.getD 0 Str.empty == r0 && ms.getD 4 Str.empty == r1)
  m0 : r0 ∈ ms
  m1 : r1 ∈ ms
  cmp : bH = decide (((ms.idxOf r0 : Nat) : Int) < ((ms.idxOf r1 : Nat) : Int))
  st : bH = true → StripIs w (Txt.join (Str.ofString "") (ms.map (showI r0 r1))) (Txt.join (Str.ofString "") [r0, r1])
  l0 : r0.length ≤ 3
  l1 : r1.length ≤ 3
  lm : ∀ x ∈ ms, x.length ≤ 3
  f4 : (fallsOf ms).length ≤ 4
  s0 : 0 ≤ (fallsOf ms).sum
  s1 : (fallsOf ms).sum ≤ 20
/-- what one turn makes of told -/
noncomputable def toldI (q : Int) (ms : List Str) (bH : Bool) (xs : List Int) : List Int :=
  if bH = true then xs.set (fallsOf ms).length (xs.getD (fallsOf ms).length 0 + q ^ (fallsOf ms).sum.toNat) else xs
theorem toldI_len {q : Int} {ms : List Str} {bH : Bool} {xs : List Int} : (toldI q ms bH xs).length = xs.length := by
  unfold toldI; split
  · rw [List.length_set]
  · rfl
section
variable {w : World} {dp un : Nat} {fr : Option (List Env)} {gd : Option (List Code)} {s : Shared} {mean : ExcName → Option Value} {mg mb : Str → Option Value}
    {Q : Flow → Shared → Prop} {E : Value → Shared → Prop} {h₀ : Heap} {L fa : Addr} {cd : Value}
set_option maxHeartbeats 4000000 in
theorem st9if {m : Str → Option Value} {bH : Bool} {news : List (Addr × Obj)} (X : (Mine.hd.heap_39 w.params).In h₀)
    (hH : m (Str.ofString "holds") = some (.bool bH)) (F : Fr h₀ L s.heap m) (N : News h₀ L s.heap news)
    (hno : bH = false → Q .next s)
    (hyes : bH = true → wpAny (model Challenge.rw_wr0014_01.row.prog w) (Ard dp un fr gd) (execs (ifBody (stmtAt (mainBody w.params) 6)) (envOfC (Str.ofString "law") (lawScope w.params) L fa cd)) Q E s) :
    wpAny (model Challenge.rw_wr0014_01.row.prog w) (Ard dp un fr gd) (exec (stmtAt (mainBody w.params) 6) (envOfC (Str.ofString "law") (lawScope w.params) L fa cd)) Q E s := by
  revert X; k_fill; intro X
  w_on
  obtain ⟨body, hbody⟩ : ∃ b, ifBody (stmtAt (mainBody w.params) 6) = b := ⟨_, rfl⟩
  rw [hbody] at hyes
  have hb2 := hbody
  conv at hb2 => lhs; whnf
  conv in stmtAt _ _ => whnf
  rw [hb2]
  clear hb2 hbody
  rw [map_known4 (m := m) hH hH hH hH] at F
  cases bH
  · have hno' := PLift.up (hno rfl)
    clear hno hyes
    conv in lawScope _ => whnf
    repeat' (first | (k_unfold; (try dsimp only)) | walk1 | (dsimp only; walk1))
    exact hno'.down
  · have hyes' := PLift.up (hyes rfl)
    clear hno hyes
    iterate 5 walk1
    exact hyes'.down
set_option maxHeartbeats 4000000 in
theorem st9_turn {m : Str → Option Value} {Td Th Tw Rw Lt I1 I2 : Addr} {oR oL o3 i1 i2 : Obj} {r0 r1 r2 r3 r4 : Str} {t0 t1 t2 t3 t4 ta tb tq : Tok} {vT : List Value} {xs : List Int} {nT : Nat} {q : Int} {bH : Bool}
    (a b : Nat) (ha4 : a < 4) (hb5 : b < 5)
    (X : (Mine.hd.heap_39 w.params).In h₀) (T : Top Mine.hd.view_39 (looseW Mine.hd.view_39 []) mean mg mb h₀) (hd : dp + 9 < recursionLimit) (hbare : AllBare s.gens)
    (hTh : m (Str.ofString "three") = some (.ref Th)) (ha : m (Str.ofString "a") = some (.int (a : Int) ta)) (hTd : m (Str.ofString "told") = some (.ref Td)) (hq : m (Str.ofString "q") = some (.int q tq))
    (d3 : o3.data = Data.cell (some (.ref Tw))) (iT : IntsAre vT xs) (hxl : xs.length = 5) (hq1 : -1000 ≤ q) (hq2 : q ≤ 1000)
    (a1 : @Ne Nat Td Th ∧ @Ne Nat Td Tw ∧ @Ne Nat Td Rw ∧ @Ne Nat Td Lt ∧ @Ne Nat Td (L + 3) ∧ @Ne Nat Td I1 ∧ @Ne Nat Td I2)
    (tf : TurnFacts w r0 r1 (mixS r0 r1 r2 r3 r4 a b) bH)
    (F : Fr h₀ L s.heap (fun y => if y = Str.ofString "b" then some (.int (b : Int) tb) else m y))
    (N : News h₀ L s.heap [(Td, PySem.W.listOf vT.toArray nT), (Th, PySem.W.listOf #[.str r2 t2, .str r3 t3, .str r4 t4] 0), (Tw, PySem.W.listOf #[.str r0 t0, .str r1 t1] 0), (Rw, oR), (Lt, oL), (L + 3, o3), (I1, i1), (I2, i2)])
    (h : ∀ s' m' vT', Fr h₀ L s'.heap m' → (∀ y ∈ [Str.ofString "three", Str.ofString "a", Str.ofString "told", Str.ofString "q", Str.ofString "letters", Str.ofString "row"], m' y = m y) → IntsAre vT' (toldI q (mixS r0 r1 r2 r3 r4 a b) bH xs) →
      News h₀ L s'.heap [(Td, PySem.W.listOf vT'.toArray nT), (Th, PySem.W.listOf #[.str r2 t2, .str r3 t3, .str r4 t4] 0), (Tw, PySem.W.listOf #[.str r0 t0, .str r1 t1] 0), (Rw, oR), (Lt, oL), (L + 3, o3), (I1, i1), (I2, i2)] → AllBare s'.gens → s'.os = s.os → Q .next s') :
    wpAny (model Challenge.rw_wr0014_01.row.prog w) (Ard dp un fr gd) (execs (mainBody w.params) (envOfC (Str.ofString "law") (lawScope w.params) L fa cd)) Q E s := by
  obtain ⟨body, hbody⟩ : ∃ b, ifBody (stmtAt (mainBody w.params) 6) = b := ⟨_, rfl⟩
  have hsplit : mainBody w.params = [stmtAt (mainBody w.params) 0, stmtAt (mainBody w.params) 1, stmtAt (mainBody w.params) 2, stmtAt (mainBody w.params) 3, stmtAt (mainBody w.params) 4, stmtAt (mainBody w.params) 5, stmtAt (mainBody w.params) 6] := by
    rfl
  rw [hsplit]
  generalize hms : mixS r0 r1 r2 r3 r4 a b = ms at tf h
  walk1
  refine st9a (s := s) a ha4 X T hd (by exact hTh) (by exact ha) d3 F N fun h1 tk1 Mx F1 N1 ne1 => ?_
  show wpAny _ _ (execs _ _) _ _ _
  walk1
  have S3 : StrsAre [Value.str r2 t2, Value.str r3 t3, Value.str r4 t4] [r2, r3, r4] := .cons _ _ (.cons _ _ (.cons _ _ .nil))
  have sM0 := (((strsAre_take a S3).append' (.cons r0 t0 .nil)).append' (strsAre_drop a S3))
  have sM := strsAre_ins sM0 (b : Int) r1 t1
  have hmsE : insS (([r2, r3, r4] : List Str).take a ++ [r0] ++ ([r2, r3, r4] : List Str).drop a) (b : Int) r1 = ms := hms
  rw [hmsE] at sM
  have hmlen : ms.length = 5 := by
    rw [← hms]
    unfold mixS
    rw [insS_len]
    simp only [List.length_append, List.length_take, List.length_drop, List.length_cons, List.length_nil]
    omega
  have hwt : (ms.map (·.length)).sum + ms.length ≤ 1048576 := by
    have h1 := sum_len_le 3 ms tf.lm
    rw [hmlen] at h1 ⊢
    omega
  refine st9b b hb5 X (by exact rfl) (by exact rfl) d3 F1 (by
    simp only [List.length_append, List.length_take, List.length_drop, List.length_cons, List.length_nil]; omega) ne1 N1 fun h2 tk2 F2 N2 => ?_
  show wpAny _ _ (execs _ _) _ _ _
  walk1
  generalize insI _ _ _ = vM at sM N2
  refine st9c X (by exact rfl) sM hwt F2 N2 fun h3 tk3 t3' F3 N3 => ?_
  show wpAny _ _ (execs _ _) _ _ _
  walk1
  refine st9d X T hd (by exact rfl) d3 tf.l0 tf.l1 tf.e1 F3 N3 fun h4 tk4 F4 N4 => ?_
  show wpAny _ _ (execs _ _) _ _ _
  walk1
  refine st9e X T hd (by exact rfl) (by exact rfl) d3 sM hmlen tf.m0 tf.m1 tf.cmp F4 N4 fun h5 tk5 F5 N5 => ?_
  show wpAny _ _ (execs _ _) _ _ _
  walk1
  obtain ⟨b2, e2, c2⟩ := tf.e2
  refine st9f X T hd (by exact rfl) (by exact rfl) d3 sM hmlen tf.l0 tf.l1 e2 c2 F5 N5 fun h6 tk6 F6 N6 => ?_
  show wpAny _ _ (execs _ _) _ _ _
  walk1
  have agree : ∀ m' : Str → Option Value, m' (Str.ofString "three") = m (Str.ofString "three") → m' (Str.ofString "a") = m (Str.ofString "a") → m' (Str.ofString "told") = m (Str.ofString "told") → m' (Str.ofString "q") = m (Str.ofString "q") → m' (Str.ofString "letters") = m (Str.ofString "letters") → m' (Str.ofString "row") = m (Str.ofString "row") →
      ∀ y ∈ [Str.ofString "three", Str.ofString "a", Str.ofString "told", Str.ofString "q", Str.ofString "letters", Str.ofString "row"], m' y = m y := by
    intro m' g1 g2 g3 g4 g5 g6 y hy
    simp only [List.mem_cons, List.not_mem_nil, or_false] at hy
    rcases hy with rfl | rfl | rfl | rfl | rfl | rfl
    · exact g1
    · exact g2
    · exact g3
    · exact g4
    · exact g5
    · exact g6
  refine st9if (bH := bH) X (by exact rfl) F6 N6 (fun e => ?_) (fun e => ?_)
  · show wpAny _ _ (execs _ _) _ _ _
    refine wpAny_execs_nil ?_
    refine h _ _ vT F6 (agree _ rfl rfl rfl rfl rfl rfl) ?_ (fun p hp => N6 p (List.mem_cons_of_mem _ hp)) hbare rfl
    unfold toldI
    rw [if_neg (by rw [e]; decide)]
    exact iT
  · have hsp2 : ifBody (stmtAt (mainBody w.params) 6) = [stmtAt (ifBody (stmtAt (mainBody w.params) 6)) 0, stmtAt (ifBody (stmtAt (mainBody w.params) 6)) 1, stmtAt (ifBody (stmtAt (mainBody w.params) 6)) 2, stmtAt (ifBody (stmtAt (mainBody w.params) 6)) 3] := by rfl
    rw [hsp2]
    walk1
    refine st9g X T hd (by exact rfl) d3 sM hmlen tf.lm F6 N6 fun h7 tk7 t7 F7 N7 => ?_
    show wpAny _ _ (execs _ _) _ _ _
    walk1
    refine st9h (s := { s with heap := h7, toks := tk7 }) X T hd hbare (by exact rfl) d3 tf.l0 tf.l1 (tf.st e) F7 N7 fun s8 F8 N8 hb8 ho8 => ?_
    show wpAny _ _ (execs _ _) _ _ _
    walk1
    refine st9i (s := s8) X T hd (by exact rfl) sM hmlen F8 N8 fun h9 tk9 Fl ysF F9 iF lF neF N9 => ?_
    show wpAny _ _ (execs _ _) _ _ _
    walk1
    have hkl : ysF.length = (fallsOf ms).length := IntsAre.length iF
    refine st9j (q := q) X T hd (by exact rfl) (by exact hTd) (by exact hq) iF lF tf.f4 iT hxl hq1 hq2 tf.s0 tf.s1 ⟨neF, fun e => ne1.1 e.symm, a1⟩ F9 N9 fun hA tkA vT' FA iA NA => ?_
    show wpAny _ _ (execs _ _) _ _ _
    refine wpAny_execs_nil ?_
    show wpAny _ _ (execs _ _) _ _ _
    refine wpAny_execs_nil ?_
    refine h _ _ vT' FA (agree _ rfl rfl rfl rfl rfl rfl) ?_ (fun p hp => NA p (List.mem_cons_of_mem _ (List.mem_cons_of_mem _ hp))) hb8 ho8
    unfold toldI
    rw [if_pos e]
    exact iA
end
end Mine
namespace Mine
set_option maxRecDepth 100000
open PySem PySem.W PySem.Calls PyProof.Rows PySem.Spec
local macro_rules | `(tactic| walk_at "pyIter ref") => `(tactic| refine Stop.of ?_)
local macro_rules | `(tactic| walk_at "Exists") => `(tactic| refine Stop.of ?_)
noncomputable def toldB (q : Int) (ms : Nat → Nat → List Str) (bH : Nat → Nat → Bool) (a : Nat) : Nat → List Int → List Int
  | 0, xs => xs
  | b + 1, xs => toldI q (ms a b) (bH a b) (toldB q ms bH a b xs)
noncomputable def toldA (q : Int) (ms : Nat → Nat → List Str) (bH : Nat → Nat → Bool) : Nat → List Int → List Int
  | 0, xs => xs
  | a + 1, xs => toldB q ms bH a 5 (toldA q ms bH a xs)
theorem toldB_len {q : Int} {ms : Nat → Nat → List Str} {bH : Nat → Nat → Bool} {a : Nat} {xs : List Int} : ∀ b, (toldB q ms bH a b xs).length = xs.length
  | 0 => rfl
  | b + 1 => by rw [toldB, toldI_len, toldB_len b]
theorem toldA_len {q : Int} {ms : Nat → Nat → List Str} {bH : Nat → Nat → Bool} {xs : List Int} : ∀ a, (toldA q ms bH a xs).length = xs.length
  | 0 => rfl
  | a + 1 => by rw [toldA, toldB_len, toldA_len a]
section
variable {w : World} {dp un : Nat} {fr : Option (List Env)} {gd : Option (List Code)} {s : Shared} {mean : ExcName → Option Value} {mg mb : Str → Option Value}
    {Q : Flow → Shared → Prop} {E : Value → Shared → Prop} {h₀ : Heap} {L fa : Addr} {cd : Value}
set_option maxHeartbeats 4000000 in
theorem st9 {m : Str → Option Value} {Td Th Tw Rw Lt : Addr} {oR oL o3 : Obj} {r0 r1 r2 r3 r4 : Str} {t0 t1 t2 t3 t4 tq : Tok} {vT : List Value} {xs : List Int} {nT : Nat} {q : Int} {bH : Nat → Nat → Bool}
    (X : (Mine.hd.heap_39 w.params).In h₀) (T : Top Mine.hd.view_39 (looseW Mine.hd.view_39 []) mean mg mb h₀) (hd : dp + 9 < recursionLimit) (hbare : AllBare s.gens)
    (hTh : m (Str.ofString "three") = some (.ref Th)) (hTd : m (Str.ofString "told") = some (.ref Td)) (hq : m (Str.ofString "q") = some (.int q tq))
    (d3 : o3.data = Data.cell (some (.ref Tw))) (iT : IntsAre vT xs) (hxl : xs.length = 5) (hq1 : -1000 ≤ q) (hq2 : q ≤ 1000)
    (a1 : @Ne Nat Td Th ∧ @Ne Nat Td Tw ∧ @Ne Nat Td Rw ∧ @Ne Nat Td Lt ∧ @Ne Nat Td (L + 3))
    (tf : ∀ a b, a < 4 → b < 5 → TurnFacts w r0 r1 (mixS r0 r1 r2 r3 r4 a b) (bH a b))
    (F : Fr h₀ L s.heap m)
    (N : News h₀ L s.heap [(Td, PySem.W.listOf vT.toArray nT), (Th, PySem.W.listOf #[.str r2 t2, .str r3 t3, .str r4 t4] 0), (Tw, PySem.W.listOf #[.str r0 t0, .str r1 t1] 0), (Rw, oR), (Lt, oL), (L + 3, o3)])
    (h : ∀ s' m' vT', Fr h₀ L s'.heap m' → (∀ y ∈ [Str.ofString "three", Str.ofString "told", Str.ofString "q", Str.ofString "letters", Str.ofString "row"], m' y = m y) → IntsAre vT' (toldA q (mixS r0 r1 r2 r3 r4) bH 4 xs) →
      News h₀ L s'.heap [(Td, PySem.W.listOf vT'.toArray nT), (Th, PySem.W.listOf #[.str r2 t2, .str r3 t3, .str r4 t4] 0), (Tw, PySem.W.listOf #[.str r0 t0, .str r1 t1] 0), (Rw, oR), (Lt, oL), (L + 3, o3)] → AllBare s'.gens → s'.os = s.os → Q .next s') :
    wpAny (model Challenge.rw_wr0014_01.row.prog w) (Ard dp un fr gd) (exec (stmtAt (lawBody w.params) 9) (envOfC (Str.ofString "law") (lawScope w.params) L fa cd)) Q E s := by
  revert X; k_fill; intro X
  w_on
  obtain ⟨body, hbody⟩ : ∃ b, forBody (stmtAt (lawBody w.params) 9) = b := ⟨_, rfl⟩
  conv in stmtAt _ _ => whnf
  have hb2 := hbody
  conv at hb2 => lhs; whnf
  rw [hb2]
  clear hb2
  conv in lawScope _ => whnf
  have h' := PLift.up h
  clear h
  refine wpAny_For ?_
  repeat' (first | (k_unfold; (try dsimp only)) | walk1 | (dsimp only; walk1))
  unfold Stop
  with_reducible rename IsRange _ _ _ _ _ _ _ _ => hR
  with_reducible rename Fr _ _ _ _ => F1
  with_reducible rename News _ _ _ _ => N1
  refine range_loop (n := 4) (fun i m' news' => (∀ y ∈ [Str.ofString "three", Str.ofString "told", Str.ofString "q", Str.ofString "letters", Str.ofString "row"], m' y = m y) ∧ ∃ vT', IntsAre vT' (toldA q (mixS r0 r1 r2 r3 r4) bH i xs) ∧ news' = [(Td, PySem.W.listOf vT'.toArray nT), (Th, PySem.W.listOf #[.str r2 t2, .str r3 t3, .str r4 t4] 0), (Tw, PySem.W.listOf #[.str r0 t0, .str r1 t1] 0), (Rw, oR), (Lt, oL), (L + 3, o3)])
    rfl hR (by decide) (by decide) rfl rfl F1 N1 hbare ⟨fun _ _ => rfl, vT, iT, rfl⟩ ?_ ?_
  · rintro i t m₁ news₁ s₁ I o hi4 ⟨hm1, vT1, iT1, rfl⟩ hI had F₁ N₁ hg₁ hos₁
    clear hR F1 N1
    have hI1 : @Ne Nat Td I := fun e => hI Td (by simp) e.symm
    obtain ⟨b2, hb2⟩ : ∃ b, mainBody w.params = b := ⟨_, rfl⟩
    rw [← hbody]
    conv in forBody _ => whnf
    have hb3 := hb2
    conv at hb3 => lhs; whnf
    rw [hb3]
    clear hb3
    walk1
    refine wpAny_For ?_
    repeat' (first | (k_unfold; (try dsimp only)) | walk1 | (dsimp only; walk1))
    unfold Stop
    with_reducible rename IsRange _ _ _ _ _ _ _ _ => hR
    with_reducible rename Fr _ _ _ _ => F1
    with_reducible rename News _ _ _ _ => N1
    refine range_loop (n := 5) (fun j m' news' => (∀ y ∈ [Str.ofString "three", Str.ofString "a", Str.ofString "told", Str.ofString "q", Str.ofString "letters", Str.ofString "row"], m' y = (fun y => if y = Str.ofString "a" then some (.int ((i : Nat) : Int) t) else m₁ y) y) ∧
        ∃ vT', IntsAre vT' (toldB q (mixS r0 r1 r2 r3 r4) bH i j (toldA q (mixS r0 r1 r2 r3 r4) bH i xs)) ∧ news' = [(Td, PySem.W.listOf vT'.toArray nT), (Th, PySem.W.listOf #[.str r2 t2, .str r3 t3, .str r4 t4] 0), (Tw, PySem.W.listOf #[.str r0 t0, .str r1 t1] 0), (Rw, oR), (Lt, oL), (L + 3, o3), (I, o)])
      rfl hR (by decide) (by decide) rfl rfl F1 N1 hg₁ ⟨fun _ _ => rfl, vT1, iT1, rfl⟩ ?_ ?_
    · rintro j t2' m₂ news₂ s₂ I2 o2 hj5 ⟨hm2, vT2, iT2, rfl⟩ hI2 had2 F₂ N₂ hg₂ hos₂
      rw [← hb2]
      have hI3 : @Ne Nat Td I2 := fun e => hI2 Td (by simp) e.symm
      have hm2' := hm2
      simp only [List.mem_cons, List.not_mem_nil, or_false, forall_eq_or_imp, forall_eq] at hm2'
      refine st9_turn (m := m₂) i j hi4 hj5 X T hd hg₂ (hm2'.1.trans ((hm1 _ (by simp)).trans hTh)) (hm2'.2.1.trans rfl) (hm2'.2.2.1.trans ((hm1 _ (by simp)).trans hTd)) (hm2'.2.2.2.1.trans ((hm1 _ (by simp)).trans hq))
        d3 iT2 (by rw [toldB_len, toldA_len]; exact hxl) hq1 hq2 ⟨a1.1, a1.2.1, a1.2.2.1, a1.2.2.2.1, a1.2.2.2.2, hI1, hI3⟩ (tf i j hi4 hj5) F₂ N₂ ?_
      intro s₃ m' vT3 F₃ hm3 iT3 N₃ hg₃ hos₃
      exact ⟨m', [(Td, PySem.W.listOf vT3.toArray nT), (Th, PySem.W.listOf #[.str r2 t2, .str r3 t3, .str r4 t4] 0), (Tw, PySem.W.listOf #[.str r0 t0, .str r1 t1] 0), (Rw, oR), (Lt, oL), (L + 3, o3), (I, o)], F₃, N₃,
        ⟨fun y hy => (hm3 y hy).trans (hm2 y hy), vT3, iT3, rfl⟩, rfl, hg₃, hos₃.trans hos₂⟩
    · rintro m₂ news₂ s₂ ⟨hm2, vT2, iT2, rfl⟩ F₂ N₂ hg₂ hos₂
      repeat' (first | (k_unfold; (try dsimp only)) | walk1 | (dsimp only; walk1))
      refine ⟨m₂, [(Td, PySem.W.listOf vT2.toArray nT), (Th, PySem.W.listOf #[.str r2 t2, .str r3 t3, .str r4 t4] 0), (Tw, PySem.W.listOf #[.str r0 t0, .str r1 t1] 0), (Rw, oR), (Lt, oL), (L + 3, o3)], F₂, N₂, ⟨fun y hy => ?_, vT2, iT2, rfl⟩, rfl, hg₂, hos₂.trans hos₁⟩
      have hy9 := hy
      simp only [List.mem_cons, List.not_mem_nil, or_false] at hy
      rw [← hm1 y hy9]
      rcases hy with rfl | rfl | rfl | rfl | rfl
      · exact (hm2 _ (by simp)).trans rfl
      · exact (hm2 _ (by simp)).trans rfl
      · exact (hm2 _ (by simp)).trans rfl
      · exact (hm2 _ (by simp)).trans rfl
      · exact (hm2 _ (by simp)).trans rfl
  · rintro m₁ news₁ s₁ ⟨hm1, vT1, iT1, rfl⟩ F₁ N₁ hg₁ hos₁
    exact h'.down s₁ m₁ vT1 F₁ hm1 iT1 N₁ hg₁ hos₁
end
end Mine
namespace Mine
set_option maxRecDepth 100000
open PySem PySem.W PySem.Calls PyProof.Rows PySem.Spec
local macro_rules | `(tactic| walk_at "pad") => `(tactic| skip)
local macro_rules | `(tactic| walk_at "call ref") => `(tactic| (
  (with_reducible rename Fr _ _ _ _ => F8)
  (with_reducible rename News _ _ _ _ => N8)
  first
    | (refine falls_L (by assumption) (by assumption) (by assumption) (by exact F8) (by exact N8) (by exact News.isList N8 (by news_mem)) (by with_reducible assumption) (by simp only [List.length_cons, List.length_nil]; omega) ?_
       intro _ _ _ _ _ _ l9 _ _
       simp only [List.forall_mem_cons, List.not_mem_nil, false_imp_iff, implies_true, and_true] at l9)
    | (refine addl_L (by assumption) (by assumption) (by assumption) (by exact F8) (by exact N8) (by exact News.isList N8 (by news_mem)) (by exact News.isList N8 (by news_mem)) (by simp only [List.length_cons, List.length_nil]; omega) ?_
       intro _ _ _ _ N9 l9
       simp only [List.forall_mem_cons, List.not_mem_nil, false_imp_iff, implies_true, and_true] at l9
       (try dsimp only [List.cons_append, List.nil_append] at N9))
  clear F8 N8
  (try dsimp only)))
noncomputable def OkAll (ns : List Str) : Prop := ∀ x ∈ ns, PyData.strOk x = true
theorem strs_canLayAll0 : ∀ ns : List Str, OkAll ns → PyData.canLayAll0 (ns.map PyData.str) = true
  | [], _ => rfl
  | a :: r, h => by simp [PyData.canLayAll0, PyData.canLay0, strs_canLayAll0 r (fun x hx => h x (List.mem_cons_of_mem _ hx)), h a (List.mem_cons_self ..)]
theorem strs_depthAll : ∀ ns : List Str, PyData.depthAll (ns.map PyData.str) = 0
  | [] => rfl
  | _ :: r => by simp [PyData.depthAll, PyData.depth, strs_depthAll r]
theorem strs_shaped (ns : List Str) (h : OkAll ns) : SeqAt.shaped (.list (ns.map PyData.str)) = true := by
  simp [SeqAt.shaped, PyData.canLay0, PyData.depth, strs_canLayAll0 ns h, strs_depthAll]
theorem strs_sameAll : ∀ ns ms : List Str, PySem.Spec.sameAll (ns.map PyData.str) (ms.map PyData.str) = decide (ns = ms)
  | [], [] => by simp [PySem.Spec.sameAll]
  | [], _ :: _ => by simp [PySem.Spec.sameAll]
  | _ :: _, [] => by simp [PySem.Spec.sameAll]
  | a :: r, b :: t => by
    simp only [List.map_cons, PySem.Spec.sameAll, PySem.Spec.same, strs_sameAll r t]
    by_cases h : a = b <;> by_cases h' : r = t <;> simp [h, h']
theorem strs_same (ns ms : List Str) : PySem.Spec.same (.list (ns.map PyData.str)) (.list (ms.map PyData.str)) = decide (ns = ms) := by
  simp only [PySem.Spec.same]; exact strs_sameAll ns ms
theorem ne_strs {prog : Program} {w : World} {A : Around} {E : Value → Shared → Prop} {s : Shared} {a b : Addr} {xs ys : List Value} {ns ms : List Str} {Q : Value → Shared → Prop}
    (ha : s.heap.IsList a xs.toArray) (hb : s.heap.IsList b ys.toArray) (hi : StrsAre xs ns) (hj : StrsAre ys ms) (hu : A.units + 64 < cLine) (o1 : OkAll ns) (o2 : OkAll ms) (e : ns = ms) (h : Q (.bool false) s) :
    wpAny (model prog w) A (compareOp .NotEq (.ref a) (.ref b)) Q E s :=
  ne_dataH_same (reads_newData ha hi.carried) (reads_newData hb hj.carried) (strs_shaped _ o1) (strs_shaped _ o2) hu (SeqAt.noMix_of_shape (.list .str) rfl _ _ (list_map_has fun _ => rfl) (list_map_has fun _ => rfl))
    (by rw [strs_same, decide_eq_true e]; exact h)
local macro_rules | `(tactic| walk_at "compareOp NotEq ref ref") => `(tactic| (
  (with_reducible rename News _ _ _ _ => N8)
  refine ne_strs (News.isList N8 (by news_mem)) (News.isList N8 (by news_mem)) (by with_reducible assumption) (by with_reducible assumption) (by with_reducible assumption) (by with_reducible assumption) (by with_reducible assumption) rfl ?_))
section
variable {w : World} {dp un : Nat} {fr : Option (List Env)} {gd : Option (List Code)} {s : Shared} {mean : ExcName → Option Value} {mg mb : Str → Option Value}
    {Q : Flow → Shared → Prop} {E : Value → Shared → Prop} {h₀ : Heap} {L fa : Addr} {cd : Value}
set_option maxHeartbeats 4000000 in
theorem st10 {m : Str → Option Value} (hun : (Ard dp un fr gd).units + 64 < cLine) {Td Th Tw Rw Lt : Addr} {oT oL o3 : Obj} {r0 r1 r2 r3 r4 : Str} {t0 t1 t2 t3 t4 : Tok} {nr : Nat}
    (X : (Mine.hd.heap_39 w.params).In h₀) (T : Top Mine.hd.view_39 (looseW Mine.hd.view_39 []) mean mg mb h₀) (hd : dp + 9 < recursionLimit)
    (ok2 : OkAll [r0, r1]) (ok5 : OkAll [r0, r1, r2, r3, r4]) (S2 : StrsAre [Value.str r0 t0, Value.str r1 t1] [r0, r1]) (S5 : StrsAre [Value.str r0 t0, Value.str r1 t1, Value.str r2 t2, Value.str r3 t3, Value.str r4 t4] [r0, r1, r2, r3, r4])
    (hTh : m (Str.ofString "three") = some (.ref Th)) (hRw : m (Str.ofString "row") = some (.ref Rw)) (d3 : o3.data = Data.cell (some (.ref Tw)))
    (F : Fr h₀ L s.heap m)
    (N : News h₀ L s.heap [(Td, oT), (Th, PySem.W.listOf #[.str r2 t2, .str r3 t3, .str r4 t4] 0), (Tw, PySem.W.listOf #[.str r0 t0, .str r1 t1] 0), (Rw, PySem.W.listOf #[.str r0 t0, .str r1 t1, .str r2 t2, .str r3 t3, .str r4 t4] nr), (Lt, oL), (L + 3, o3)])
    (h : ∀ h' tk, Fr h₀ L h' m →
      News h₀ L h' [(Td, oT), (Th, PySem.W.listOf #[.str r2 t2, .str r3 t3, .str r4 t4] 0), (Tw, PySem.W.listOf #[.str r0 t0, .str r1 t1] 0), (Rw, PySem.W.listOf #[.str r0 t0, .str r1 t1, .str r2 t2, .str r3 t3, .str r4 t4] nr), (Lt, oL), (L + 3, o3)] → Q .next { s with heap := h', toks := tk }) :
    wpAny (model Challenge.rw_wr0014_01.row.prog w) (Ard dp un fr gd) (exec (stmtAt (lawBody w.params) 10) (envOfC (Str.ofString "law") (lawScope w.params) L fa cd)) Q E s := by
  revert X; k_fill; intro X
  w_on
  conv in stmtAt _ _ => whnf
  conv in lawScope _ => whnf
  rw [map_known4 (m := m) hTh hRw hRw hRw] at F
  rw [map_known4 (m := m) hTh hRw hRw hRw] at h
  repeat' (first | (k_unfold; (try dsimp only)) | walk1 | (dsimp only; walk1))
  with_reducible rename News _ _ _ _ => N9
  exact h _ _ (by with_reducible assumption) (fun p hp => N9 p (List.mem_cons_of_mem _ (List.mem_cons_of_mem _ hp)))
set_option maxHeartbeats 4000000 in
theorem st11 {m : Str → Option Value} {Td Th Tw Rw Lt : Addr} {oT oR oL o3 : Obj} {r0 r1 r2 r3 r4 : Str} {t0 t1 t2 t3 t4 : Tok}
    (X : (Mine.hd.heap_39 w.params).In h₀) (T : Top Mine.hd.view_39 (looseW Mine.hd.view_39 []) mean mg mb h₀) (hd : dp + 9 < recursionLimit)
    (hTh : m (Str.ofString "three") = some (.ref Th)) (d3 : o3.data = Data.cell (some (.ref Tw)))
    (S2 : StrsAre [Value.str r0 t0, Value.str r1 t1] [r0, r1]) (S3 : StrsAre [Value.str r2 t2, Value.str r3 t3, Value.str r4 t4] [r2, r3, r4])
    (F : Fr h₀ L s.heap m)
    (N : News h₀ L s.heap [(Td, oT), (Th, PySem.W.listOf #[.str r2 t2, .str r3 t3, .str r4 t4] 0), (Tw, PySem.W.listOf #[.str r0 t0, .str r1 t1] 0), (Rw, oR), (Lt, oL), (L + 3, o3)])
    (h : ∀ h' tk Pl vs, Fr h₀ L h' (fun z => if z = Str.ofString "places" then some (.ref Pl) else m z) → IntsAre vs (fallsOf [r0, r1] ++ fallsOf [r2, r3, r4]) →
      News h₀ L h' [(Pl, { cls := .type "list", data := Data.seq vs.toArray }), (Td, oT), (Th, PySem.W.listOf #[.str r2 t2, .str r3 t3, .str r4 t4] 0), (Tw, PySem.W.listOf #[.str r0 t0, .str r1 t1] 0), (Rw, oR), (Lt, oL), (L + 3, o3)] → Q .next { s with heap := h', toks := tk }) :
    wpAny (model Challenge.rw_wr0014_01.row.prog w) (Ard dp un fr gd) (exec (stmtAt (lawBody w.params) 11) (envOfC (Str.ofString "law") (lawScope w.params) L fa cd)) Q E s := by
  revert X; k_fill; intro X
  w_on
  conv in stmtAt _ _ => whnf
  conv in lawScope _ => whnf
  rw [map_known4 (m := m) hTh hTh hTh hTh] at F
  rw [map_known4 (m := m) hTh hTh hTh hTh] at h
  repeat' (first | (k_unfold; (try dsimp only)) | walk1 | (dsimp only; walk1))
  with_reducible rename News _ _ _ _ => N9
  refine h _ _ _ _ (by with_reducible assumption) ((by assumption : IntsAre _ (fallsOf [r0, r1])).append (by assumption : IntsAre _ (fallsOf [r2, r3, r4]))) (fun p hp => N9 p ?_)
  rcases List.mem_cons.mp hp with rfl | hp
  · exact List.mem_cons_self ..
  · exact List.mem_cons_of_mem _ (List.mem_cons_of_mem _ (List.mem_cons_of_mem _ hp))
end
end Mine
namespace Mine
set_option maxRecDepth 100000
open PySem PySem.W PySem.Calls PyProof.Rows PySem.Spec
local macro_rules | `(tactic| walk_at "call ref") => `(tactic| (
  (with_reducible rename Fr _ _ _ _ => F8)
  (with_reducible rename News _ _ _ _ => N8)
  first
    | (refine falls_L (by assumption) (by assumption) (by assumption) (by exact F8) (by exact N8) (by exact News.isList N8 (by news_mem)) (by with_reducible assumption) (by simp only [List.length_cons, List.length_nil]; omega) ?_
       intro _ _ _ _ _ _ l9 _ _
       simp only [List.forall_mem_cons, List.not_mem_nil, false_imp_iff, implies_true, and_true] at l9)
    | (refine addl_L (by assumption) (by assumption) (by assumption) (by exact F8) (by exact N8) (by exact News.isList N8 (by news_mem)) (by exact News.isList N8 (by news_mem)) (by simp only [List.length_cons, List.length_nil]; omega) ?_
       intro _ _ _ _ N9 l9
       simp only [List.forall_mem_cons, List.not_mem_nil, false_imp_iff, implies_true, and_true] at l9
       (try dsimp only [List.cons_append, List.nil_append] at N9))
  clear F8 N8
  (try dsimp only)))
theorem len_ints_my {prog : Program} {w : World} {A : Around} {E : Value → Shared → Prop} {s : Shared} {Q : Value → Shared → Prop} {l : Addr} {vs : List Value} {ks : List Int} (hl : s.heap.IsList l vs.toArray) (hi : IntsAre vs ks) (hn : vs.length ≤ 1000)
    (h : Q (.int (ks.length : Int) (s.toks + 1)) { s with toks := s.toks + 1 + 1 }) : wpAny (model prog w) A (call (.builtin "len") [.ref l]) Q E s := by
  refine len_list hl (by rw [List.size_toArray]; omega) ?_
  rw [List.size_toArray, IntsAre.length hi]
  exact h
local macro_rules | `(tactic| walk_at "call builtin:len") => `(tactic| (
  (with_reducible rename News _ _ _ _ => N8)
  refine len_ints_my (News.isList N8 (.head _)) (by with_reducible assumption) (by omega) ?_))
section
variable {w : World} {dp un : Nat} {fr : Option (List Env)} {gd : Option (List Code)} {s : Shared} {mean : ExcName → Option Value} {mg mb : Str → Option Value}
    {Q : Flow → Shared → Prop} {E : Value → Shared → Prop} {h₀ : Heap} {L fa : Addr} {cd : Value}
set_option maxHeartbeats 4000000 in
theorem st12 {m : Str → Option Value} {Pl Td Th Tw Rw Lt : Addr} {oP oT oR oL o3 : Obj} {r0 r1 r2 r3 r4 : Str} {t0 t1 t2 t3 t4 : Tok}
    (X : (Mine.hd.heap_39 w.params).In h₀) (T : Top Mine.hd.view_39 (looseW Mine.hd.view_39 []) mean mg mb h₀) (hd : dp + 9 < recursionLimit)
    (hTh : m (Str.ofString "three") = some (.ref Th)) (d3 : o3.data = Data.cell (some (.ref Tw)))
    (S2 : StrsAre [Value.str r0 t0, Value.str r1 t1] [r0, r1]) (S3 : StrsAre [Value.str r2 t2, Value.str r3 t3, Value.str r4 t4] [r2, r3, r4])
    (F : Fr h₀ L s.heap m)
    (N : News h₀ L s.heap [(Pl, oP), (Td, oT), (Th, PySem.W.listOf #[.str r2 t2, .str r3 t3, .str r4 t4] 0), (Tw, PySem.W.listOf #[.str r0 t0, .str r1 t1] 0), (Rw, oR), (Lt, oL), (L + 3, o3)])
    (h : ∀ h' tk tr ts m', Fr h₀ L h' m' → m' (Str.ofString "r") = some (.int ((fallsOf [r0, r1]).length : Int) tr) → m' (Str.ofString "s") = some (.int ((fallsOf [r2, r3, r4]).length : Int) ts) → (∀ y ∈ [Str.ofString "places", Str.ofString "told", Str.ofString "q", Str.ofString "letters", Str.ofString "row"], m' y = m y) →
      News h₀ L h' [(Pl, oP), (Td, oT), (Th, PySem.W.listOf #[.str r2 t2, .str r3 t3, .str r4 t4] 0), (Tw, PySem.W.listOf #[.str r0 t0, .str r1 t1] 0), (Rw, oR), (Lt, oL), (L + 3, o3)] → Q .next { s with heap := h', toks := tk }) :
    wpAny (model Challenge.rw_wr0014_01.row.prog w) (Ard dp un fr gd) (exec (stmtAt (lawBody w.params) 12) (envOfC (Str.ofString "law") (lawScope w.params) L fa cd)) Q E s := by
  revert X; k_fill; intro X
  w_on
  conv in stmtAt _ _ => whnf
  conv in lawScope _ => whnf
  rw [map_known4 (m := m) hTh hTh hTh hTh] at F
  rw [map_known4 (m := m) hTh hTh hTh hTh] at h
  repeat' (first | (k_unfold; (try dsimp only)) | walk1 | (dsimp only; walk1))
  with_reducible rename News _ _ _ _ => N9
  refine h _ _ _ _ _ (by with_reducible assumption) rfl rfl ?_ (fun p hp => N9 p (List.mem_cons_of_mem _ (List.mem_cons_of_mem _ (List.mem_cons_of_mem _ hp))))
  intro y hy
  simp only [List.mem_cons, List.not_mem_nil, or_false] at hy
  rcases hy with rfl | rfl | rfl | rfl | rfl <;> rfl
end
end Mine
namespace Mine
set_option maxRecDepth 100000
open PySem PySem.W PySem.Calls PyProof.Rows PySem.Spec
local macro_rules | `(tactic| walk_at "pad") => `(tactic| skip)
local macro_rules | `(tactic| walk_at "call builtin:sum") => `(tactic| (
  (with_reducible rename Fr _ _ _ _ => F8)
  (with_reducible rename News _ _ _ _ => N8)
  refine sum_L (by exact F8) (by exact N8) rfl (by exact News.isList N8 (by news_mem)) (by with_reducible assumption) ?_
  intro _ _ _ _ _
  clear F8 N8
  (try dsimp only)))
local macro_rules | `(tactic| walk_at "call ref") => `(tactic| (
  (with_reducible rename Fr _ _ _ _ => F8)
  (with_reducible rename News _ _ _ _ => N8)
  first
    | refine gauss_L (by assumption) (by assumption) (by assumption) (by exact F8) (by exact N8) (by omega) (by omega) (by omega) ?_
    | refine mul_L (by assumption) (by assumption) (by assumption) (by exact F8) (by exact N8) (by with_reducible assumption) ?_
  intro _ _ _ _ _
  clear F8 N8
  (try dsimp only)))
theorem abs_lo {q : Int} (h : q.natAbs ≤ 1000) : -1000 ≤ q ∧ q ≤ 1000 := by omega
noncomputable def dueI (ps : Int) (r sf q k : Int) : Int :=
  if r ≤ k then if sf ≤ k then q ^ (ps + (k - r) * (k - sf)).toNat * (gauss (2 - r + sf).toNat (k - r) q * gauss (3 - sf + r).toNat (k - sf) q) else 0 else 0
section
variable {w : World} {dp un : Nat} {fr : Option (List Env)} {gd : Option (List Code)} {s : Shared} {mean : ExcName → Option Value} {mg mb : Str → Option Value}
    {Q : Flow → Shared → Prop} {E : Value → Shared → Prop} {h₀ : Heap} {L fa : Addr} {cd : Value}
set_option maxHeartbeats 4000000 in
theorem st13_turn {m : Str → Option Value} {Pl Td Rw Lt I : Addr} {oR oL oI : Obj} {vs vT : List Value} {ps xs : List Int} {nT : Nat} {q r sf k : Int} {tq tr ts tk0 : Tok}
    (X : (Mine.hd.heap_39 w.params).In h₀) (T : Top Mine.hd.view_39 (looseW Mine.hd.view_39 []) mean mg mb h₀) (hd : dp + 9 < recursionLimit)
    (hk0 : 0 ≤ k) (hk1 : k < 5) (hr0 : 0 ≤ r) (hr1 : r ≤ 1) (hs0 : 0 ≤ sf) (hs1 : sf ≤ 2) (hqa : q.natAbs ≤ 1000)
    (hPl : m (Str.ofString "places") = some (.ref Pl)) (hTd : m (Str.ofString "told") = some (.ref Td)) (hq : m (Str.ofString "q") = some (.int q tq)) (hr : m (Str.ofString "r") = some (.int r tr)) (hs : m (Str.ofString "s") = some (.int sf ts))
    (iP : IntsAre vs ps) (iT : IntsAre vT xs) (hxl : xs.length = 5)
    (F : Fr h₀ L s.heap (fun y => if y = Str.ofString "k" then some (.int k tk0) else m y))
    (N : News h₀ L s.heap [(Pl, { cls := .type "list", data := Data.seq vs.toArray }), (Td, PySem.W.listOf vT.toArray nT), (Rw, oR), (Lt, oL), (I, oI)])
    (hps : 0 ≤ ps.sum ∧ ps.sum ≤ 4)
    (hm1 : IntMulOk (gauss (2 - r + sf).toNat (k - r) q) (gauss (3 - sf + r).toNat (k - sf) q))
    (hm2 : IntMulOk (q ^ (ps.sum + (k - r) * (k - sf)).toNat) (gauss (2 - r + sf).toNat (k - r) q * gauss (3 - sf + r).toNat (k - sf) q))
    (he0 : r ≤ k → sf ≤ k → 0 ≤ ps.sum + (k - r) * (k - sf)) (he1 : r ≤ k → sf ≤ k → ps.sum + (k - r) * (k - sf) ≤ 20)
    (hdue : xs.getD k.toNat 0 = dueI ps.sum r sf q k)
    (h : ∀ h' tk m', Fr h₀ L h' m' → (∀ y ∈ [Str.ofString "places", Str.ofString "told", Str.ofString "q", Str.ofString "r", Str.ofString "s", Str.ofString "letters", Str.ofString "row"], m' y = m y) →
      News h₀ L h' [(Pl, { cls := .type "list", data := Data.seq vs.toArray }), (Td, PySem.W.listOf vT.toArray nT), (Rw, oR), (Lt, oL), (I, oI)] → Q .next { s with heap := h', toks := tk }) :
    wpAny (model Challenge.rw_wr0014_01.row.prog w) (Ard dp un fr gd) (execs (forBody (stmtAt (lawBody w.params) 13)) (envOfC (Str.ofString "law") (lawScope w.params) L fa cd)) Q E s := by
  revert X; k_fill; intro X
  w_on
  conv in forBody _ => whnf
  conv in lawScope _ => whnf
  rw [map_known5 (m := m) hTd hq hr hs hPl] at F
  obtain ⟨hq1, hq2⟩ := abs_lo hqa
  have hz : (r ≤ k ∧ sf ≤ k ∧ 0 ≤ ps.sum + (k - r) * (k - sf) ∧ ps.sum + (k - r) * (k - sf) ≤ 20) ∨ ¬ (r ≤ k ∧ sf ≤ k) := by
    by_cases h1 : r ≤ k
    · by_cases h2 : sf ≤ k
      · exact .inl ⟨h1, h2, he0 h1 h2, he1 h1 h2⟩
      · exact .inr fun h => h2 h.2
    · exact .inr fun h => h1 h.1
  clear he0 he1
  rcases hz with ⟨hz1, hz2, hz3, hz4⟩ | hz
  all_goals repeat' (first | (k_unfold; (try dsimp only)) | walk1 | (dsimp only; walk1))
  all_goals unfold dueI at hdue
  all_goals first
    | (exfalso
       with_reducible rename (_ ≠ _) => hne
       apply hne
       rw [hdue]
       first
         | rw [if_pos (by with_reducible assumption), if_pos (by with_reducible assumption)]
         | rw [if_pos (by with_reducible assumption), if_neg (by with_reducible assumption)]
         | rw [if_neg (by with_reducible assumption)]
       done)
    | (exfalso; clear h; omega)
    | (refine h _ _ _ (by with_reducible assumption) ?_ (by with_reducible assumption)
       intro y hy
       simp only [List.mem_cons, List.not_mem_nil, or_false] at hy
       rcases hy with rfl | rfl | rfl | rfl | rfl | rfl | rfl
       · exact hPl.symm
       · exact hTd.symm
       · exact hq.symm
       · exact hr.symm
       · exact hs.symm
       · rfl
       · rfl)
end
local macro_rules | `(tactic| walk_at "pyIter ref") => `(tactic| refine Stop.of ?_)
local macro_rules | `(tactic| walk_at "Exists") => `(tactic| refine Stop.of ?_)
section
variable {w : World} {dp un : Nat} {fr : Option (List Env)} {gd : Option (List Code)} {s : Shared} {mean : ExcName → Option Value} {mg mb : Str → Option Value}
    {Q : Flow → Shared → Prop} {E : Value → Shared → Prop} {h₀ : Heap} {L fa : Addr} {cd : Value}
set_option maxHeartbeats 4000000 in
theorem st13 {m : Str → Option Value} {Pl Td Rw Lt : Addr} {oR oL : Obj} {vs vT : List Value} {ps xs : List Int} {nT : Nat} {q r sf : Int} {tq tr ts : Tok}
    (X : (Mine.hd.heap_39 w.params).In h₀) (T : Top Mine.hd.view_39 (looseW Mine.hd.view_39 []) mean mg mb h₀) (hd : dp + 9 < recursionLimit) (hbare : AllBare s.gens)
    (hr0 : 0 ≤ r) (hr1 : r ≤ 1) (hs0 : 0 ≤ sf) (hs1 : sf ≤ 2) (hqa : q.natAbs ≤ 1000)
    (hPl : m (Str.ofString "places") = some (.ref Pl)) (hTd : m (Str.ofString "told") = some (.ref Td)) (hq : m (Str.ofString "q") = some (.int q tq)) (hr : m (Str.ofString "r") = some (.int r tr)) (hs : m (Str.ofString "s") = some (.int sf ts))
    (iP : IntsAre vs ps) (iT : IntsAre vT xs) (hxl : xs.length = 5)
    (F : Fr h₀ L s.heap m)
    (N : News h₀ L s.heap [(Pl, { cls := .type "list", data := Data.seq vs.toArray }), (Td, PySem.W.listOf vT.toArray nT), (Rw, oR), (Lt, oL)])
    (hps : 0 ≤ ps.sum ∧ ps.sum ≤ 4)
    (hm1 : ∀ k : Int, 0 ≤ k → k < 5 → IntMulOk (gauss (2 - r + sf).toNat (k - r) q) (gauss (3 - sf + r).toNat (k - sf) q))
    (hm2 : ∀ k : Int, 0 ≤ k → k < 5 → IntMulOk (q ^ (ps.sum + (k - r) * (k - sf)).toNat) (gauss (2 - r + sf).toNat (k - r) q * gauss (3 - sf + r).toNat (k - sf) q))
    (he0 : ∀ k : Int, 0 ≤ k → k < 5 → r ≤ k → sf ≤ k → 0 ≤ ps.sum + (k - r) * (k - sf)) (he1 : ∀ k : Int, 0 ≤ k → k < 5 → r ≤ k → sf ≤ k → ps.sum + (k - r) * (k - sf) ≤ 20)
    (hdue : ∀ k : Nat, k < 5 → xs.getD k 0 = dueI ps.sum r sf q (k : Int))
    (h : ∀ s' m', Fr h₀ L s'.heap m' → (∀ y ∈ [Str.ofString "places", Str.ofString "told", Str.ofString "q", Str.ofString "r", Str.ofString "s", Str.ofString "letters", Str.ofString "row"], m' y = m y) →
      News h₀ L s'.heap [(Pl, { cls := .type "list", data := Data.seq vs.toArray }), (Td, PySem.W.listOf vT.toArray nT), (Rw, oR), (Lt, oL)] → AllBare s'.gens → s'.os = s.os → Q .next s') :
    wpAny (model Challenge.rw_wr0014_01.row.prog w) (Ard dp un fr gd) (exec (stmtAt (lawBody w.params) 13) (envOfC (Str.ofString "law") (lawScope w.params) L fa cd)) Q E s := by
  revert X; k_fill; intro X
  w_on
  obtain ⟨body, hbody⟩ : ∃ b, forBody (stmtAt (lawBody w.params) 13) = b := ⟨_, rfl⟩
  conv in stmtAt _ _ => whnf
  have hb2 := hbody
  conv at hb2 => lhs; whnf
  rw [hb2]
  clear hb2
  conv in lawScope _ => whnf
  have hall := PLift.up (And.intro h (And.intro hm1 (And.intro hm2 (And.intro he0 (And.intro he1 hdue)))))
  clear h hm1 hm2 he0 he1 hdue
  refine wpAny_For ?_
  repeat' (first | (k_unfold; (try dsimp only)) | walk1 | (dsimp only; walk1))
  unfold Stop
  obtain ⟨⟨h, hm1, hm2, he0, he1, hdue⟩⟩ := hall
  with_reducible rename IsRange _ _ _ _ _ _ _ _ => hR
  with_reducible rename Fr _ _ _ _ => F1
  with_reducible rename News _ _ _ _ => N1
  refine range_loop (n := 5) (fun i m' news' => (∀ y ∈ [Str.ofString "places", Str.ofString "told", Str.ofString "q", Str.ofString "r", Str.ofString "s", Str.ofString "letters", Str.ofString "row"], m' y = m y) ∧ news' = [(Pl, { cls := .type "list", data := Data.seq vs.toArray }), (Td, PySem.W.listOf vT.toArray nT), (Rw, oR), (Lt, oL)])
    rfl hR (by decide) (by decide) rfl rfl F1 N1 hbare ⟨fun _ _ => rfl, rfl⟩ ?_ ?_
  · rintro i t m₁ news₁ s₁ I o hi5 ⟨hm, rfl⟩ hI had F₁ N₁ hg₁ hos₁
    rw [← hbody]
    have hm' := hm
    simp only [List.mem_cons, List.not_mem_nil, or_false, forall_eq_or_imp, forall_eq] at hm'
    have i0 : (0 : Int) ≤ (i : Int) := by omega
    have i5 : (i : Int) < 5 := by omega
    refine st13_turn (m := m₁) X T hd i0 i5 hr0 hr1 hs0 hs1 hqa (hm'.1.trans hPl) (hm'.2.1.trans hTd) (hm'.2.2.1.trans hq) (hm'.2.2.2.1.trans hr) (hm'.2.2.2.2.1.trans hs) iP iT hxl F₁ N₁ hps (hm1 i i0 i5) (hm2 i i0 i5) (he0 i i0 i5) (he1 i i0 i5) (hdue i hi5) ?_
    intro h' tk m' F₃ hm3 N₃
    exact ⟨m', [(Pl, { cls := .type "list", data := Data.seq vs.toArray }), (Td, PySem.W.listOf vT.toArray nT), (Rw, oR), (Lt, oL)], F₃, N₃, ⟨fun y hy => (hm3 y hy).trans (hm y hy), rfl⟩, rfl, hg₁, hos₁⟩
  · rintro m₁ news₁ s₁ ⟨hm, rfl⟩ F₁ N₁ hg₁ hos₁
    exact h s₁ m₁ F₁ hm N₁ hg₁ hos₁
end
end Mine
namespace Mine
set_option maxRecDepth 100000
open PySem PySem.W PySem.Calls PyProof.Rows PySem.Spec
section
variable {prog : Program} {w : World} {A : Around} {E : Value → Shared → Prop} {s : Shared} {x : Str} {t : Tok} {Q : Value → Shared → Prop} {D : Addr} {a b c d e : Str} {ta tb tc td te : Tok}
theorem join_lit5 (hl : s.heap.IsList D #[.str a ta, .str b tb, .str c tc, .str d td, .str e te]) (hx : x.length ≤ 16) (hw : a.length + b.length + c.length + d.length + e.length ≤ 1000000)
    (h : ∀ t' k, Q (.str (Txt.join x [a, b, c, d, e]) t') { s with toks := k }) : wpAny (model prog w) A (call (.builtin "str.join") [.str x t, .ref D]) Q E s :=
  join_listW hl (.cons _ _ (.cons _ _ (.cons _ _ (.cons _ _ (.cons _ _ .nil))))) hx (by simp only [List.map_cons, List.map_nil, List.sum_cons, List.sum_nil, List.length_cons, List.length_nil]; omega) h
end
local macro_rules | `(tactic| walk_at "call builtin:str.join") => `(tactic| (
  (with_reducible rename News _ _ _ _ => N8)
  first
    | refine' join_lit5 (News.isList N8 (by news_mem)) (by decide) ?zz2 ?_
    | refine' join_lit4 (News.isList N8 (by news_mem)) (by decide) ?zz2 ?_
    | refine' join_lit3 (News.isList N8 (by news_mem)) (by decide) ?zz2 ?_
    | refine' join_lit2 (News.isList N8 (by news_mem)) (by decide) ?zz2 ?_
  (case zz2 => ((try simp only [len_ofS_empty]); omega))
  intro _ _))
section
variable {w : World} {dp un : Nat} {fr : Option (List Env)} {gd : Option (List Code)} {s : Shared} {mean : ExcName → Option Value} {mg mb : Str → Option Value}
    {Q : Flow → Shared → Prop} {E : Value → Shared → Prop} {h₀ : Heap} {L fa : Addr} {cd : Value}
set_option maxHeartbeats 4000000 in
theorem st14 {m : Str → Option Value} {Rw Lt : Addr} {oL : Obj} {r0 r1 r2 r3 r4 : Str} {t0 t1 t2 t3 t4 : Tok} {nr : Nat}
    (X : (Mine.hd.heap_39 w.params).In h₀) (l0 : r0.length ≤ 3) (l1 : r1.length ≤ 3) (l2 : r2.length ≤ 3) (l3 : r3.length ≤ 3) (l4 : r4.length ≤ 3)
    (hRw : m (Str.ofString "row") = some (.ref Rw)) (F : Fr h₀ L s.heap m)
    (N : News h₀ L s.heap [(Rw, PySem.W.listOf #[.str r0 t0, .str r1 t1, .str r2 t2, .str r3 t3, .str r4 t4] nr), (Lt, oL)])
    (h : ∀ h' tk t, Fr h₀ L h' (fun z => if z = Str.ofString "text" then some (.str (Txt.join (Str.ofString "") [r0, r1, r2, r3, r4]) t) else m z) →
      News h₀ L h' [(Rw, PySem.W.listOf #[.str r0 t0, .str r1 t1, .str r2 t2, .str r3 t3, .str r4 t4] nr), (Lt, oL)] → Q .next { s with heap := h', toks := tk }) :
    wpAny (model Challenge.rw_wr0014_01.row.prog w) (Ard dp un fr gd) (exec (stmtAt (lawBody w.params) 14) (envOfC (Str.ofString "law") (lawScope w.params) L fa cd)) Q E s := by
  revert X; k_fill; intro X
  w_on
  conv in stmtAt _ _ => whnf
  conv in lawScope _ => whnf
  rw [map_known4 (m := m) hRw hRw hRw hRw] at F
  rw [map_known4 (m := m) hRw hRw hRw hRw] at h
  repeat' (first | (k_unfold; (try dsimp only)) | walk1 | (dsimp only; walk1))
  exact h _ _ _ (by with_reducible assumption) (by with_reducible assumption)
set_option maxHeartbeats 4000000 in
theorem st15 {m : Str → Option Value} {Rw Lt : Addr} {oL : Obj} {r0 r1 r2 r3 r4 : Str} {t0 t1 t2 t3 t4 : Tok} {nr : Nat}
    (X : (Mine.hd.heap_39 w.params).In h₀) (l0 : r0.length ≤ 3) (l1 : r1.length ≤ 3) (l2 : r2.length ≤ 3) (l3 : r3.length ≤ 3) (l4 : r4.length ≤ 3)
    (hRw : m (Str.ofString "row") = some (.ref Rw)) (F : Fr h₀ L s.heap m)
    (N : News h₀ L s.heap [(Rw, PySem.W.listOf #[.str r0 t0, .str r1 t1, .str r2 t2, .str r3 t3, .str r4 t4] nr), (Lt, oL)])
    (h : ∀ h' tk t, Fr h₀ L h' (fun z => if z = Str.ofString "head" then some (.str (Txt.join (Str.ofString "") [r0, r1, r2]) t) else m z) →
      News h₀ L h' [(Rw, PySem.W.listOf #[.str r0 t0, .str r1 t1, .str r2 t2, .str r3 t3, .str r4 t4] nr), (Lt, oL)] → Q .next { s with heap := h', toks := tk }) :
    wpAny (model Challenge.rw_wr0014_01.row.prog w) (Ard dp un fr gd) (exec (stmtAt (lawBody w.params) 15) (envOfC (Str.ofString "law") (lawScope w.params) L fa cd)) Q E s := by
  revert X; k_fill; intro X
  w_on
  conv in stmtAt _ _ => whnf
  conv in lawScope _ => whnf
  rw [map_known4 (m := m) hRw hRw hRw hRw] at F
  rw [map_known4 (m := m) hRw hRw hRw hRw] at h
  repeat' (first | (k_unfold; (try dsimp only)) | walk1 | (dsimp only; walk1))
  with_reducible rename News _ _ _ _ => N9
  exact h _ _ _ (by with_reducible assumption) (fun p hp => N9 p (List.mem_cons_of_mem _ hp))
set_option maxHeartbeats 4000000 in
theorem st16 {m : Str → Option Value} {Rw Lt : Addr} {oL : Obj} {r0 r1 r2 r3 r4 : Str} {t0 t1 t2 t3 t4 : Tok} {nr : Nat}
    (X : (Mine.hd.heap_39 w.params).In h₀) (l0 : r0.length ≤ 3) (l1 : r1.length ≤ 3) (l2 : r2.length ≤ 3) (l3 : r3.length ≤ 3) (l4 : r4.length ≤ 3)
    (hRw : m (Str.ofString "row") = some (.ref Rw)) (F : Fr h₀ L s.heap m)
    (N : News h₀ L s.heap [(Rw, PySem.W.listOf #[.str r0 t0, .str r1 t1, .str r2 t2, .str r3 t3, .str r4 t4] nr), (Lt, oL)])
    (h : ∀ h' tk t, Fr h₀ L h' (fun z => if z = Str.ofString "tail" then some (.str (Txt.join (Str.ofString "") [r3, r4]) t) else m z) →
      News h₀ L h' [(Rw, PySem.W.listOf #[.str r0 t0, .str r1 t1, .str r2 t2, .str r3 t3, .str r4 t4] nr), (Lt, oL)] → Q .next { s with heap := h', toks := tk }) :
    wpAny (model Challenge.rw_wr0014_01.row.prog w) (Ard dp un fr gd) (exec (stmtAt (lawBody w.params) 16) (envOfC (Str.ofString "law") (lawScope w.params) L fa cd)) Q E s := by
  revert X; k_fill; intro X
  w_on
  conv in stmtAt _ _ => whnf
  conv in lawScope _ => whnf
  rw [map_known4 (m := m) hRw hRw hRw hRw] at F
  rw [map_known4 (m := m) hRw hRw hRw hRw] at h
  repeat' (first | (k_unfold; (try dsimp only)) | walk1 | (dsimp only; walk1))
  with_reducible rename News _ _ _ _ => N9
  exact h _ _ _ (by with_reducible assumption) (fun p hp => N9 p (List.mem_cons_of_mem _ hp))
end
end Mine
namespace Mine
set_option maxRecDepth 100000
open PySem PySem.W PySem.Calls PyProof.Rows PySem.Spec
local macro_rules | `(tactic| walk_at "pad") => `(tactic| skip)
local macro_rules | `(tactic| walk_at "call builtin:str.join") => `(tactic| (
  (with_reducible rename News _ _ _ _ => N8)
  first
    | refine' join_lit4 (News.isList N8 (by news_mem)) (by decide) ?zz2 ?_
  (case zz2 => ((try simp only [len_ofS_empty]); omega))
  intro _ _))
section
variable {w : World} {dp un : Nat} {fr : Option (List Env)} {gd : Option (List Code)} {s : Shared} {mean : ExcName → Option Value} {mg mb : Str → Option Value}
    {Q : Flow → Shared → Prop} {E : Value → Shared → Prop} {h₀ : Heap} {L fa : Addr} {cd : Value}
set_option maxHeartbeats 4000000 in
theorem st17 {m : Str → Option Value} {news : List (Addr × Obj)} {head tail : Str} {t0 t1 : Tok}
    (X : (Mine.hd.heap_39 w.params).In h₀) (l0 : head.length ≤ 20) (l1 : tail.length ≤ 20)
    (hh : m (Str.ofString "head") = some (.str head t0)) (ht : m (Str.ofString "tail") = some (.str tail t1)) (F : Fr h₀ L s.heap m) (N : News h₀ L s.heap news)
    (h : ∀ h' tk t, Fr h₀ L h' (fun z => if z = Str.ofString "cut" then some (.str (head ++ Str.ofString "..." ++ tail) t) else m z) → News h₀ L h' news → Q .next { s with heap := h', toks := tk }) :
    wpAny (model Challenge.rw_wr0014_01.row.prog w) (Ard dp un fr gd) (exec (stmtAt (lawBody w.params) 17) (envOfC (Str.ofString "law") (lawScope w.params) L fa cd)) Q E s := by
  revert X; k_fill; intro X
  w_on
  conv in stmtAt _ _ => whnf
  conv in lawScope _ => whnf
  rw [map_known4 (m := m) hh ht ht ht] at F
  rw [map_known4 (m := m) hh ht ht ht] at h
  repeat' (first | (k_unfold; (try dsimp only)) | walk1 | (dsimp only; walk1))
  exact h _ _ _ (by with_reducible assumption) (by with_reducible assumption)
set_option maxHeartbeats 4000000 in
theorem st19 {m : Str → Option Value} {news : List (Addr × Obj)} {head tail : Str} {t0 t1 : Tok}
    (X : (Mine.hd.heap_39 w.params).In h₀) (l0 : head.length ≤ 20) (l1 : tail.length ≤ 20)
    (hh : m (Str.ofString "head") = some (.str head t0)) (ht : m (Str.ofString "tail") = some (.str tail t1)) (F : Fr h₀ L s.heap m) (N : News h₀ L s.heap news)
    (h : ∀ h' tk t, Fr h₀ L h' (fun z => if z = Str.ofString "fourth" then some (.str (head ++ Str.ofString "...." ++ tail) t) else m z) → News h₀ L h' news → Q .next { s with heap := h', toks := tk }) :
    wpAny (model Challenge.rw_wr0014_01.row.prog w) (Ard dp un fr gd) (exec (stmtAt (lawBody w.params) 19) (envOfC (Str.ofString "law") (lawScope w.params) L fa cd)) Q E s := by
  revert X; k_fill; intro X
  w_on
  conv in stmtAt _ _ => whnf
  conv in lawScope _ => whnf
  rw [map_known4 (m := m) hh ht ht ht] at F
  rw [map_known4 (m := m) hh ht ht ht] at h
  repeat' (first | (k_unfold; (try dsimp only)) | walk1 | (dsimp only; walk1))
  exact h _ _ _ (by with_reducible assumption) (by with_reducible assumption)
set_option maxHeartbeats 4000000 in
theorem st18 {m : Str → Option Value} {Rw Lt : Addr} {oL : Obj} {r0 r1 r2 r3 r4 : Str} {t0 t1 t2 t3 t4 : Tok} {nr : Nat}
    (X : (Mine.hd.heap_39 w.params).In h₀) (l0 : r0.length ≤ 3) (l4 : r4.length ≤ 3)
    (hRw : m (Str.ofString "row") = some (.ref Rw)) (F : Fr h₀ L s.heap m)
    (N : News h₀ L s.heap [(Rw, PySem.W.listOf #[.str r0 t0, .str r1 t1, .str r2 t2, .str r3 t3, .str r4 t4] nr), (Lt, oL)])
    (h : ∀ h' tk t, Fr h₀ L h' (fun z => if z = Str.ofString "over" then some (.str (Txt.join (Str.ofString "...") [Str.ofString "", r4, r0, Str.ofString ""]) t) else m z) →
      News h₀ L h' [(Rw, PySem.W.listOf #[.str r0 t0, .str r1 t1, .str r2 t2, .str r3 t3, .str r4 t4] nr), (Lt, oL)] → Q .next { s with heap := h', toks := tk }) :
    wpAny (model Challenge.rw_wr0014_01.row.prog w) (Ard dp un fr gd) (exec (stmtAt (lawBody w.params) 18) (envOfC (Str.ofString "law") (lawScope w.params) L fa cd)) Q E s := by
  revert X; k_fill; intro X
  w_on
  conv in stmtAt _ _ => whnf
  conv in lawScope _ => whnf
  rw [map_known4 (m := m) hRw hRw hRw hRw] at F
  rw [map_known4 (m := m) hRw hRw hRw hRw] at h
  repeat' (first | (k_unfold; (try dsimp only)) | walk1 | (dsimp only; walk1))
  with_reducible rename News _ _ _ _ => N9
  exact h _ _ _ (by with_reducible assumption) (fun p hp => N9 p (List.mem_cons_of_mem _ hp))
end
end Mine
namespace Mine
set_option maxRecDepth 100000
open PySem PySem.W PySem.Calls PyProof.Rows PySem.Spec
local macro_rules | `(tactic| walk_at "call ref") => `(tactic| (
  (with_reducible rename Fr _ _ _ _ => F8)
  (with_reducible rename News _ _ _ _ => N8)
  refine strip_L (by assumption) (by assumption) (by assumption) (by exact F8) (by exact N8) (by with_reducible assumption) (by with_reducible assumption) ?_
  intro _ _ _ _ _ _
  clear F8 N8
  (try dsimp only)))
section
variable {w : World} {dp un : Nat} {fr : Option (List Env)} {gd : Option (List Code)} {s : Shared} {mean : ExcName → Option Value} {mg mb : Str → Option Value}
    {Q : Flow → Shared → Prop} {E : Value → Shared → Prop} {h₀ : Heap} {L fa : Addr} {cd : Value}
set_option maxHeartbeats 4000000 in
theorem st24 {m : Str → Option Value} {Lt : Addr} {vL : List Value} {lts : List Str} {nl : Nat} {oR : Obj} {Rw : Addr}
    (X : (Mine.hd.heap_39 w.params).In h₀) (T : Top Mine.hd.view_39 (looseW Mine.hd.view_39 []) mean mg mb h₀) (hd : dp + 9 < recursionLimit) (hbare : AllBare s.gens)
    (hLt : m (Str.ofString "letters") = some (.ref Lt)) (sL : StrsAre vL lts) (hn : lts.length = 5) (hE : StripIs w (lts.getD (Int.toNat 0) Str.empty) (lts.getD (Int.toNat 0) Str.empty))
    (F : Fr h₀ L s.heap m) (N : News h₀ L s.heap [(Rw, oR), (Lt, PySem.W.listOf vL.toArray nl)])
    (h : ∀ s', Fr h₀ L s'.heap m → News h₀ L s'.heap [(Rw, oR), (Lt, PySem.W.listOf vL.toArray nl)] → AllBare s'.gens → s'.os = s.os → Q .next s') :
    wpAny (model Challenge.rw_wr0014_01.row.prog w) (Ard dp un fr gd) (exec (stmtAt (lawBody w.params) 24) (envOfC (Str.ofString "law") (lawScope w.params) L fa cd)) Q E s := by
  revert X; k_fill; intro X
  w_on
  conv in stmtAt _ _ => whnf
  conv in lawScope _ => whnf
  rw [map_known4 (m := m) hLt hLt hLt hLt] at F
  rw [map_known4 (m := m) hLt hLt hLt hLt] at h
  repeat' (first | (k_unfold; (try dsimp only)) | walk1 | (dsimp only; walk1))
  · exfalso
    with_reducible rename ((_ != _) = true) => hx
    rw [bne_self_eq_false] at hx
    cases hx
  · exact h _ (by with_reducible assumption) (by with_reducible assumption) (by with_reducible assumption) (by with_reducible assumption)
set_option maxHeartbeats 4000000 in
theorem st25 {m : Str → Option Value} {news : List (Addr × Obj)} {head text y : Str} {t0 t1 : Tok}
    (X : (Mine.hd.heap_39 w.params).In h₀) (T : Top Mine.hd.view_39 (looseW Mine.hd.view_39 []) mean mg mb h₀) (hd : dp + 9 < recursionLimit) (hbare : AllBare s.gens)
    (hh : m (Str.ofString "head") = some (.str head t0)) (ht : m (Str.ofString "text") = some (.str text t1)) (l0 : head.length ≤ 20) (l1 : text.length ≤ 20)
    (hE : StripIs w (Str.ofString "\"" ++ head ++ Str.ofString "\"" ++ text ++ Str.ofString "\"") y)
    (F : Fr h₀ L s.heap m) (N : News h₀ L s.heap news)
    (h : ∀ s', Fr h₀ L s'.heap m → News h₀ L s'.heap news → AllBare s'.gens → s'.os = s.os → Q (.ret (.bool (y == text ++ Str.ofString "\""))) s') :
    wpAny (model Challenge.rw_wr0014_01.row.prog w) (Ard dp un fr gd) (exec (stmtAt (lawBody w.params) 25) (envOfC (Str.ofString "law") (lawScope w.params) L fa cd)) Q E s := by
  revert X; k_fill; intro X
  w_on
  conv in stmtAt _ _ => whnf
  conv in lawScope _ => whnf
  rw [map_known4 (m := m) hh ht ht ht] at F
  rw [map_known4 (m := m) hh ht ht ht] at h
  repeat' (first | (k_unfold; (try dsimp only)) | walk1 | (dsimp only; walk1))
  all_goals exact h _ (by with_reducible assumption) (by with_reducible assumption) (by with_reducible assumption) (by with_reducible assumption)
end
end Mine
namespace Mine
set_option maxRecDepth 100000
open PySem PySem.W PySem.Calls PyProof.Rows PySem.Spec
section
variable {w : World} {dp un : Nat} {fr : Option (List Env)} {gd : Option (List Code)} {s : Shared} {mean : ExcName → Option Value} {mg mb : Str → Option Value}
    {Q : Flow → Shared → Prop} {E : Value → Shared → Prop} {h₀ : Heap} {L fa : Addr} {cd : Value}
set_option maxHeartbeats 4000000 in
theorem st21 {m : Str → Option Value} {Rw Lt : Addr} {oL : Obj} {r0 r1 r2 r3 r4 head tail : Str} {t0 t1 t2 t3 t4 th tt : Tok} {nr : Nat}
    (X : (Mine.hd.heap_39 w.params).In h₀) (l2 : r2.length ≤ 3) (l5 : tail.length ≤ 20)
    (hRw : m (Str.ofString "row") = some (.ref Rw)) (hh : m (Str.ofString "head") = some (.str head th)) (ht : m (Str.ofString "tail") = some (.str tail tt)) (F : Fr h₀ L s.heap m)
    (N : News h₀ L s.heap [(Rw, PySem.W.listOf #[.str r0 t0, .str r1 t1, .str r2 t2, .str r3 t3, .str r4 t4] nr), (Lt, oL)])
    (h : ∀ h' tk Wn A1 A2 A3 A4 A5 tz, Fr h₀ L h' (fun z => if z = Str.ofString "wants" then some (.ref Wn) else m z) →
      News h₀ L h' [(Wn, PySem.W.listOf #[.ref A1, .ref A2, .ref A3, .ref A4, .ref A5] 0), (A5, PySem.W.listOf #[.str head th, .str r4 t4, .str tail tt] 0), (A4, PySem.W.listOf #[.str head th, .str r0 t0, .str tail tt] 0), (A3, PySem.W.listOf #[.str head th, .str (r2 ++ tail) tz] 0), (A2, PySem.W.listOf #[.str tail tt] 0), (A1, PySem.W.listOf #[.str head th] 0),
        (Rw, PySem.W.listOf #[.str r0 t0, .str r1 t1, .str r2 t2, .str r3 t3, .str r4 t4] nr), (Lt, oL)] →
      (@Ne Nat Wn A1 ∧ @Ne Nat Wn A2 ∧ @Ne Nat Wn A3 ∧ @Ne Nat Wn A4 ∧ @Ne Nat Wn A5 ∧ @Ne Nat Wn Rw ∧ @Ne Nat Wn Lt) → Q .next { s with heap := h', toks := tk }) :
    wpAny (model Challenge.rw_wr0014_01.row.prog w) (Ard dp un fr gd) (exec (stmtAt (lawBody w.params) 21) (envOfC (Str.ofString "law") (lawScope w.params) L fa cd)) Q E s := by
  revert X; k_fill; intro X
  w_on
  conv in stmtAt _ _ => whnf
  conv in lawScope _ => whnf
  rw [map_known4 (m := m) hRw hh ht ht] at F
  rw [map_known4 (m := m) hRw hh ht ht] at h
  repeat' (first | (k_unfold; (try dsimp only)) | walk1 | (dsimp only; walk1))
  exact h _ _ _ _ _ _ _ _ _ (by with_reducible assumption) (by with_reducible assumption) (by refine ⟨?_, ?_, ?_, ?_, ?_, ?_, ?_⟩ <;> omega)
end
end Mine
namespace Mine
set_option maxRecDepth 100000
open PySem PySem.W PySem.Calls PyProof.Rows PySem.Spec
section
variable {w : World} {dp un : Nat} {fr : Option (List Env)} {gd : Option (List Code)} {s : Shared} {mean : ExcName → Option Value} {mg mb : Str → Option Value}
    {Q : Flow → Shared → Prop} {E : Value → Shared → Prop} {h₀ : Heap} {L fa : Addr} {cd : Value}
set_option maxHeartbeats 4000000 in
theorem st22 {m : Str → Option Value} {Wn A1 A2 A3 A4 A5 Rw Lt : Addr} {oL oA1 oA2 oA3 oA4 oA5 : Obj} {r0 r1 r2 r3 r4 fourth : Str} {t0 t1 t2 t3 t4 tf : Tok} {nr : Nat}
    (X : (Mine.hd.heap_39 w.params).In h₀) (l1 : r1.length ≤ 3) (l2 : r2.length ≤ 3) (l3 : r3.length ≤ 3)
    (hRw : m (Str.ofString "row") = some (.ref Rw)) (hW : m (Str.ofString "wants") = some (.ref Wn)) (hf : m (Str.ofString "fourth") = some (.str fourth tf)) (F : Fr h₀ L s.heap m)
    (N : News h₀ L s.heap [(Wn, PySem.W.listOf #[.ref A1, .ref A2, .ref A3, .ref A4, .ref A5] 0), (A5, oA5), (A4, oA4), (A3, oA3), (A2, oA2), (A1, oA1), (Rw, PySem.W.listOf #[.str r0 t0, .str r1 t1, .str r2 t2, .str r3 t3, .str r4 t4] nr), (Lt, oL)])
    (ne : @Ne Nat Wn A1 ∧ @Ne Nat Wn A2 ∧ @Ne Nat Wn A3 ∧ @Ne Nat Wn A4 ∧ @Ne Nat Wn A5 ∧ @Ne Nat Wn Rw ∧ @Ne Nat Wn Lt)
    (h : ∀ h' tk A6 A7 A8 u1 u2 u3 u4 u5 u6, Fr h₀ L h' m →
      News h₀ L h' [(A8, PySem.W.listOf #[.str (Str.ofString "") u1, .str (r1 ++ r2) u2, .str (r2 ++ r3) u3, .str (Str.ofString "") u4] 0), (A7, PySem.W.listOf #[.str (Str.ofString "") u5, .str r2 t2, .str r2 t2, .str (Str.ofString "") u6] 0), (A6, PySem.W.listOf #[.str fourth tf] 0),
        (Wn, PySem.W.listOf #[.ref A1, .ref A2, .ref A3, .ref A4, .ref A5, .ref A6, .ref A7, .ref A8] 1), (A5, oA5), (A4, oA4), (A3, oA3), (A2, oA2), (A1, oA1), (Rw, PySem.W.listOf #[.str r0 t0, .str r1 t1, .str r2 t2, .str r3 t3, .str r4 t4] nr), (Lt, oL)] → Q .next { s with heap := h', toks := tk }) :
    wpAny (model Challenge.rw_wr0014_01.row.prog w) (Ard dp un fr gd) (exec (stmtAt (lawBody w.params) 22) (envOfC (Str.ofString "law") (lawScope w.params) L fa cd)) Q E s := by
  revert X; k_fill; intro X
  w_on
  conv in stmtAt _ _ => whnf
  conv in lawScope _ => whnf
  rw [map_known4 (m := m) hRw hW hf hf] at F
  rw [map_known4 (m := m) hRw hW hf hf] at h
  repeat' (first | (k_unfold; (try dsimp only)) | walk1 | (dsimp only; walk1))
  with_reducible rename News _ _ _ _ => N9
  first
    | exact h _ _ _ _ _ _ _ _ _ _ _ (by with_reducible assumption) N9
    | exact h _ _ _ _ _ _ _ _ _ _ _ (by with_reducible assumption) (fun p hp => N9 p (List.mem_cons_of_mem _ hp))
end
end Mine
namespace Mine
set_option maxRecDepth 100000
open PySem PySem.W PySem.Calls PyProof.Rows PySem.Spec
noncomputable def ellBody (p : Params) : List Stmt := match (Mine.hd.heap_39 p).lookup 21 with | some ⟨_, _, .func d, _⟩ => (match d.body with | .stmts b => b | _ => []) | _ => []
noncomputable def ellScope (p : Params) : Scope := match (Mine.hd.heap_39 p).lookup 21 with | some ⟨_, _, .func d, _⟩ => d.scope | _ => default
local macro_rules | `(tactic| walk_at "exec Assert") => `(tactic| refine Stop.of ?_)
section
variable {w : World} {dp un : Nat} {fr : Option (List Env)} {gd : Option (List Code)} {s : Shared} {mean : ExcName → Option Value} {mg mb : Str → Option Value}
    {Q E : Value → Shared → Prop}
set_option maxHeartbeats 4000000 in
theorem ell_pre {want got : Str} {l : List Str} {ta tb : Tok}
    (X : (Mine.hd.heap_39 w.params).In s.heap) (T : Top Mine.hd.view_39 (looseW Mine.hd.view_39 []) mean mg mb s.heap) (hd : dp + 1 < recursionLimit) (hw : want.length ≤ 1000) (hg : got.length ≤ 1000)
    (hin : (Builtin.Str.occurrences want (Str.ofString "...") 0 want.length 1).isEmpty = false)
    (hsp : Txt.split want (Str.ofString "...") = l)
    (h : ∀ L' h' tk vals D cd (P : Flow → Shared → Prop) (E' : Value → Shared → Prop), Fr s.heap L' h' (fun y => if y = Str.ofString "ws" then some (.ref D) else if y = Str.ofString "got" then some (.str got tb) else if y = Str.ofString "want" then some (.str want ta) else none) →
      News s.heap L' h' [(D, PySem.W.listOf vals.toArray 0)] → StrsAre vals l → (∀ v s', Q v s' → P (.ret v) s') →
      wpAny (model Challenge.rw_wr0014_01.row.prog w) ((Ard dp un fr gd).deeper (envOf (Str.ofString "_ellipsis_match") (ellScope w.params) L' 21 cd)) (exec (stmtAt (ellBody w.params) 2) (envOf (Str.ofString "_ellipsis_match") (ellScope w.params) L' 21 cd)) (fun f s' => match f with | .next => wpAny (model Challenge.rw_wr0014_01.row.prog w) ((Ard dp un fr gd).deeper (envOf (Str.ofString "_ellipsis_match") (ellScope w.params) L' 21 cd)) (execs ((ellBody w.params).drop 3) (envOf (Str.ofString "_ellipsis_match") (ellScope w.params) L' 21 cd)) P E' s' | f => P f s') E' { s with heap := h', toks := tk }) :
    wpAny (model Challenge.rw_wr0014_01.row.prog w) (Ard dp un fr gd) (call (.ref 21) [.str want ta, .str got tb]) Q E s := by
  revert X; k_fill; intro X
  w_on
  refine wpAny_call ?_
  refine' enter_def (by assumption) (by assumption) ?k6 ?k7 ?k8 ?k9 ?kB ?_ ?c2 ?c3 ?c4 ?c5 ?c6
  (case k6 => k_is)
  (case k7 => k_is)
  (case k8 => (dsimp only [Around.deeper, Around.in1]; omega))
  (case k9 => exact rfl)
  (case kB => exact locs rfl)
  (case c2 => exact rfl)
  (case c3 => exact rfl)
  (case c4 => exact rfl)
  (case c5 => decide)
  (case c6 => exact rfl)
  intro L0 h0 F0 N0
  dsimp only [List.map, List.zip, List.zipWith, List.reverse, List.reverseAux, List.length, bindMap] at F0 ⊢
  iterate 8 walk1
  rw [if_neg (isNot_of hin)]
  k_steps
  unfold Stop
  with_reducible rename (List.map _ _ = Txt.split _ _) => hlook
  rw [hsp] at hlook
  with_reducible rename (StrsAre _ _) => A5
  rw [hlook] at A5
  exact h _ _ _ _ _ _ _ _ (by with_reducible assumption) (by with_reducible assumption) A5 (fun v s' hq => hq)
end
end Mine
namespace Mine
set_option maxRecDepth 100000
open PySem PySem.W PySem.Calls PyProof.Rows PySem.Spec
theorem truthy_yes {prog : Program} {w : World} {A : Around} {E : Value → Shared → Prop} {s : Shared} {x : Str} {t : Tok} {Q : Bool → Shared → Prop} (h : 0 < x.length) (h2 : x.length ≤ 1000) (hq : Q true { s with toks := s.toks + 1 + 1 }) : wpAny (model prog w) A (truthy (.str x t)) Q E s :=
  P.truthy_str (by omega) (by rw [show ((x.length : Int) != 0) = true from by rw [bne_iff_ne]; omega]; exact hq)
theorem truthy_no {prog : Program} {w : World} {A : Around} {E : Value → Shared → Prop} {s : Shared} {x : Str} {t : Tok} {Q : Bool → Shared → Prop} (h : x.length = 0) (hq : Q false { s with toks := s.toks + 1 + 1 }) : wpAny (model prog w) A (truthy (.str x t)) Q E s :=
  P.truthy_str (by omega) (by rw [h]; exact hq)
local macro_rules | `(tactic| walk_at "truthy str") => `(tactic| first | refine truthy_yes (by assumption) (by assumption) ?_ | refine truthy_no (by assumption) ?_)
local macro_rules | `(tactic| walk_at "exec For") => `(tactic| refine Stop.of ?_)
local macro_rules | `(tactic| walk_at "exec For Name Name cons nil") => `(tactic| refine Stop.of ?_)
noncomputable abbrev ellEnv (p : Params) (L : Addr) (cd : Value) : Env := envOf (Str.ofString "_ellipsis_match") (ellScope p) L 21 cd
section
variable {w : World} {dp un : Nat} {fr : Option (List Env)} {gd : Option (List Code)} {s : Shared} {h₀ : Heap} {L : Addr} {cd : Value} {mean : ExcName → Option Value} {mg mb : Str → Option Value}
    {P : Flow → Shared → Prop} {E : Value → Shared → Prop} {want got : Str} {ta tb : Tok} {D : Addr}
set_option maxHeartbeats 4000000 in
theorem e28_2w {p q : Str} {tp tq : Tok} (X : (Mine.hd.heap_39 w.params).In h₀) (T : Top Mine.hd.view_39 (looseW Mine.hd.view_39 []) mean mg mb h₀) (hp : 0 < p.length) (hq : 0 < q.length) (hp2 : p.length ≤ 1000) (hq2 : q.length ≤ 1000) (hg : got.length ≤ 1000)
    (F : Fr h₀ L s.heap (fun y => if y = Str.ofString "ws" then some (.ref D) else if y = Str.ofString "got" then some (.str got tb) else if y = Str.ofString "want" then some (.str want ta) else none)) (N : News h₀ L s.heap [(D, PySem.W.listOf ([.str p tp, .str q tq] : List Value).toArray 0)])
    (hf : (Txt.startswith got p && Txt.endswith got q && decide (p.length + q.length ≤ got.length)) = false → ∀ h' tk, Keep h₀ h' → P (.ret (.bool false)) { s with heap := h', toks := tk })
    (hn : (Txt.startswith got p && Txt.endswith got q && decide (p.length + q.length ≤ got.length)) = true → ∀ h' tk m' n' u1 u2, Fr h₀ L h' m' → m' (Str.ofString "ws") = some (.ref D) → m' (Str.ofString "got") = some (.str got tb) → m' (Str.ofString "startpos") = some (.int (p.length : Int) u1) → m' (Str.ofString "endpos") = some (.int ((got.length : Int) - q.length) u2) →
      News h₀ L h' [(D, PySem.W.listOf ([] : List Value).toArray n')] → wpAny (model Challenge.rw_wr0014_01.row.prog w) (Ard dp un fr gd) (exec (stmtAt (ellBody w.params) 9) (ellEnv w.params L cd))
        (fun f s' => match f with | .next => wpAny (model Challenge.rw_wr0014_01.row.prog w) (Ard dp un fr gd) (execs ((ellBody w.params).drop 10) (ellEnv w.params L cd)) P E s' | f => P f s') E { s with heap := h', toks := tk }) :
    wpAny (model Challenge.rw_wr0014_01.row.prog w) (Ard dp un fr gd) (exec (stmtAt (ellBody w.params) 2) (ellEnv w.params L cd))
      (fun f s' => match f with | .next => wpAny (model Challenge.rw_wr0014_01.row.prog w) (Ard dp un fr gd) (execs ((ellBody w.params).drop 3) (ellEnv w.params L cd)) P E s' | f => P f s') E s := by
  revert X; k_fill; intro X
  w_on
  obtain ⟨st9, h9⟩ : ∃ x, stmtAt (ellBody w.params) 9 = x := ⟨_, rfl⟩
  obtain ⟨rs9, g9⟩ : ∃ x, (ellBody w.params).drop 10 = x := ⟨_, rfl⟩
  rw [h9, g9] at hn
  conv at h9 => lhs; whnf
  conv at g9 => lhs; whnf
  have hall := PLift.up (And.intro hn hf)
  clear hn hf
  conv in stmtAt _ 2 => whnf
  conv in List.drop 3 _ => whnf
  unfold ellEnv
  conv in ellScope _ => whnf
  repeat' (first | (k_unfold; (try dsimp only)) | (walk1; (try dsimp only)) | (dsimp only; walk1))
  all_goals first
    | exact hall.down.2 (by first | (simp only [*, Bool.false_and, Bool.and_false]; done) | (simp only [*, Bool.true_and]; exact decide_eq_false (by omega))) _ _ (Fr.keep (by assumption))
    | (unfold Stop
       subst h9 g9
       with_reducible rename News _ _ _ _ => N9
       exact hall.down.1 (by simp only [*, Bool.true_and]; exact decide_eq_true (by omega)) _ _ _ _ _ _ (by with_reducible assumption) rfl rfl rfl rfl (fun p hp => N9 p (List.mem_cons_of_mem _ hp)))

set_option maxHeartbeats 4000000 in
theorem e28_3w {p x q : Str} {tp tx tq : Tok} (X : (Mine.hd.heap_39 w.params).In h₀) (T : Top Mine.hd.view_39 (looseW Mine.hd.view_39 []) mean mg mb h₀) (hp : 0 < p.length) (hq : 0 < q.length) (hp2 : p.length ≤ 1000) (hq2 : q.length ≤ 1000) (hg : got.length ≤ 1000)
    (F : Fr h₀ L s.heap (fun y => if y = Str.ofString "ws" then some (.ref D) else if y = Str.ofString "got" then some (.str got tb) else if y = Str.ofString "want" then some (.str want ta) else none)) (N : News h₀ L s.heap [(D, PySem.W.listOf ([.str p tp, .str x tx, .str q tq] : List Value).toArray 0)])
    (hf : (Txt.startswith got p && Txt.endswith got q && decide (p.length + q.length ≤ got.length)) = false → ∀ h' tk, Keep h₀ h' → P (.ret (.bool false)) { s with heap := h', toks := tk })
    (hn : (Txt.startswith got p && Txt.endswith got q && decide (p.length + q.length ≤ got.length)) = true → ∀ h' tk m' n' u1 u2, Fr h₀ L h' m' → m' (Str.ofString "ws") = some (.ref D) → m' (Str.ofString "got") = some (.str got tb) → m' (Str.ofString "startpos") = some (.int (p.length : Int) u1) → m' (Str.ofString "endpos") = some (.int ((got.length : Int) - q.length) u2) →
      News h₀ L h' [(D, PySem.W.listOf ([.str x tx] : List Value).toArray n')] → wpAny (model Challenge.rw_wr0014_01.row.prog w) (Ard dp un fr gd) (exec (stmtAt (ellBody w.params) 9) (ellEnv w.params L cd))
        (fun f s' => match f with | .next => wpAny (model Challenge.rw_wr0014_01.row.prog w) (Ard dp un fr gd) (execs ((ellBody w.params).drop 10) (ellEnv w.params L cd)) P E s' | f => P f s') E { s with heap := h', toks := tk }) :
    wpAny (model Challenge.rw_wr0014_01.row.prog w) (Ard dp un fr gd) (exec (stmtAt (ellBody w.params) 2) (ellEnv w.params L cd))
      (fun f s' => match f with | .next => wpAny (model Challenge.rw_wr0014_01.row.prog w) (Ard dp un fr gd) (execs ((ellBody w.params).drop 3) (ellEnv w.params L cd)) P E s' | f => P f s') E s := by
  revert X; k_fill; intro X
  w_on
  obtain ⟨st9, h9⟩ : ∃ x, stmtAt (ellBody w.params) 9 = x := ⟨_, rfl⟩
  obtain ⟨rs9, g9⟩ : ∃ x, (ellBody w.params).drop 10 = x := ⟨_, rfl⟩
  rw [h9, g9] at hn
  conv at h9 => lhs; whnf
  conv at g9 => lhs; whnf
  have hall := PLift.up (And.intro hn hf)
  clear hn hf
  conv in stmtAt _ 2 => whnf
  conv in List.drop 3 _ => whnf
  unfold ellEnv
  conv in ellScope _ => whnf
  repeat' (first | (k_unfold; (try dsimp only)) | (walk1; (try dsimp only)) | (dsimp only; walk1))
  all_goals first
    | exact hall.down.2 (by first | (simp only [*, Bool.false_and, Bool.and_false]; done) | (simp only [*, Bool.true_and]; exact decide_eq_false (by omega))) _ _ (Fr.keep (by assumption))
    | (unfold Stop
       subst h9 g9
       with_reducible rename News _ _ _ _ => N9
       exact hall.down.1 (by simp only [*, Bool.true_and]; exact decide_eq_true (by omega)) _ _ _ _ _ _ (by with_reducible assumption) rfl rfl rfl rfl (fun p hp => N9 p (List.mem_cons_of_mem _ hp)))

set_option maxHeartbeats 4000000 in
theorem e28_2e {e f : Str} {te tf : Tok} (X : (Mine.hd.heap_39 w.params).In h₀) (T : Top Mine.hd.view_39 (looseW Mine.hd.view_39 []) mean mg mb h₀) (he : e.length = 0) (hf : f.length = 0) (hg : got.length ≤ 1000)
    (F : Fr h₀ L s.heap (fun y => if y = Str.ofString "ws" then some (.ref D) else if y = Str.ofString "got" then some (.str got tb) else if y = Str.ofString "want" then some (.str want ta) else none)) (N : News h₀ L s.heap [(D, PySem.W.listOf ([.str e te, .str f tf] : List Value).toArray 0)])
    (hn : ∀ h' tk m' n' u1 u2, Fr h₀ L h' m' → m' (Str.ofString "ws") = some (.ref D) → m' (Str.ofString "got") = some (.str got tb) → m' (Str.ofString "startpos") = some (.int 0 u1) → m' (Str.ofString "endpos") = some (.int (got.length : Int) u2) →
      News h₀ L h' [(D, PySem.W.listOf ([.str e te, .str f tf] : List Value).toArray n')] → wpAny (model Challenge.rw_wr0014_01.row.prog w) (Ard dp un fr gd) (exec (stmtAt (ellBody w.params) 9) (ellEnv w.params L cd))
        (fun f s' => match f with | .next => wpAny (model Challenge.rw_wr0014_01.row.prog w) (Ard dp un fr gd) (execs ((ellBody w.params).drop 10) (ellEnv w.params L cd)) P E s' | f => P f s') E { s with heap := h', toks := tk }) :
    wpAny (model Challenge.rw_wr0014_01.row.prog w) (Ard dp un fr gd) (exec (stmtAt (ellBody w.params) 2) (ellEnv w.params L cd))
      (fun f s' => match f with | .next => wpAny (model Challenge.rw_wr0014_01.row.prog w) (Ard dp un fr gd) (execs ((ellBody w.params).drop 3) (ellEnv w.params L cd)) P E s' | f => P f s') E s := by
  revert X; k_fill; intro X
  w_on
  obtain ⟨st9, h9⟩ : ∃ x, stmtAt (ellBody w.params) 9 = x := ⟨_, rfl⟩
  obtain ⟨rs9, g9⟩ : ∃ x, (ellBody w.params).drop 10 = x := ⟨_, rfl⟩
  rw [h9, g9] at hn
  conv at h9 => lhs; whnf
  conv at g9 => lhs; whnf
  have hall := PLift.up hn
  clear hn
  conv in stmtAt _ 2 => whnf
  conv in List.drop 3 _ => whnf
  unfold ellEnv
  conv in ellScope _ => whnf
  repeat' (first | (k_unfold; (try dsimp only)) | (walk1; (try dsimp only)) | (dsimp only; walk1))
  all_goals first
    | (exfalso; omega)
    | (unfold Stop
       subst h9 g9
       with_reducible rename News _ _ _ _ => N9
       exact hall.down _ _ _ _ _ _ (by with_reducible assumption) rfl rfl rfl rfl (fun p hp => N9 p (List.mem_cons_of_mem _ hp)))

set_option maxHeartbeats 4000000 in
theorem e28_4e {e p q f : Str} {te tp tq tf : Tok} (X : (Mine.hd.heap_39 w.params).In h₀) (T : Top Mine.hd.view_39 (looseW Mine.hd.view_39 []) mean mg mb h₀) (he : e.length = 0) (hf : f.length = 0) (hg : got.length ≤ 1000)
    (F : Fr h₀ L s.heap (fun y => if y = Str.ofString "ws" then some (.ref D) else if y = Str.ofString "got" then some (.str got tb) else if y = Str.ofString "want" then some (.str want ta) else none)) (N : News h₀ L s.heap [(D, PySem.W.listOf ([.str e te, .str p tp, .str q tq, .str f tf] : List Value).toArray 0)])
    (hn : ∀ h' tk m' n' u1 u2, Fr h₀ L h' m' → m' (Str.ofString "ws") = some (.ref D) → m' (Str.ofString "got") = some (.str got tb) → m' (Str.ofString "startpos") = some (.int 0 u1) → m' (Str.ofString "endpos") = some (.int (got.length : Int) u2) →
      News h₀ L h' [(D, PySem.W.listOf ([.str e te, .str p tp, .str q tq, .str f tf] : List Value).toArray n')] → wpAny (model Challenge.rw_wr0014_01.row.prog w) (Ard dp un fr gd) (exec (stmtAt (ellBody w.params) 9) (ellEnv w.params L cd))
        (fun f s' => match f with | .next => wpAny (model Challenge.rw_wr0014_01.row.prog w) (Ard dp un fr gd) (execs ((ellBody w.params).drop 10) (ellEnv w.params L cd)) P E s' | f => P f s') E { s with heap := h', toks := tk }) :
    wpAny (model Challenge.rw_wr0014_01.row.prog w) (Ard dp un fr gd) (exec (stmtAt (ellBody w.params) 2) (ellEnv w.params L cd))
      (fun f s' => match f with | .next => wpAny (model Challenge.rw_wr0014_01.row.prog w) (Ard dp un fr gd) (execs ((ellBody w.params).drop 3) (ellEnv w.params L cd)) P E s' | f => P f s') E s := by
  revert X; k_fill; intro X
  w_on
  obtain ⟨st9, h9⟩ : ∃ x, stmtAt (ellBody w.params) 9 = x := ⟨_, rfl⟩
  obtain ⟨rs9, g9⟩ : ∃ x, (ellBody w.params).drop 10 = x := ⟨_, rfl⟩
  rw [h9, g9] at hn
  conv at h9 => lhs; whnf
  conv at g9 => lhs; whnf
  have hall := PLift.up hn
  clear hn
  conv in stmtAt _ 2 => whnf
  conv in List.drop 3 _ => whnf
  unfold ellEnv
  conv in ellScope _ => whnf
  repeat' (first | (k_unfold; (try dsimp only)) | (walk1; (try dsimp only)) | (dsimp only; walk1))
  all_goals first
    | (exfalso; omega)
    | (unfold Stop
       subst h9 g9
       with_reducible rename News _ _ _ _ => N9
       exact hall.down _ _ _ _ _ _ (by with_reducible assumption) rfl rfl rfl rfl (fun p hp => N9 p (List.mem_cons_of_mem _ hp)))

end
end Mine
namespace Mine
set_option maxRecDepth 100000
open PySem PySem.W PySem.Calls PyProof.Rows PySem.Spec
local macro_rules | `(tactic| walk_at "call builtin:str.find") => `(tactic| (refine find4 (by omega) (by omega) (by omega) ?_; intro _ _ _))
local macro_rules | `(tactic| walk_at "pyIter ref") => `(tactic| refine Stop.of ?_)
/-- the search of the words in turn -/
noncomputable def goL (got : Str) (e : Nat) : Int → List Str → Option Int
  | st, [] => some st
  | st, x :: r => if ffind got x st.toNat e < 0 then none else goL got e (ffind got x st.toNat e + x.length) r
section
variable {w : World} {dp un : Nat} {fr : Option (List Env)} {gd : Option (List Code)} {s : Shared} {h₀ : Heap} {L : Addr} {cd : Value} {mean : ExcName → Option Value} {mg mb : Str → Option Value}
    {P : Flow → Shared → Prop} {E : Value → Shared → Prop} {got : Str} {tg : Tok}
set_option maxHeartbeats 4000000 in
theorem e9_turn {m : Str → Option Value} {news : List (Addr × Obj)} {x : Str} {tx tp te : Tok} {p e : Int}
    (X : (Mine.hd.heap_39 w.params).In h₀) (T : Top Mine.hd.view_39 (looseW Mine.hd.view_39 []) mean mg mb h₀) (hg : got.length ≤ 1000) (hx : x.length ≤ 1000)
    (hS : m (Str.ofString "startpos") = some (.int p tp)) (hE : m (Str.ofString "endpos") = some (.int e te)) (hG : m (Str.ofString "got") = some (.str got tg)) (hp : 0 ≤ p) (hpe : p ≤ e) (he : e ≤ got.length)
    (F : Fr h₀ L s.heap (fun y => if y = Str.ofString "w" then some (.str x tx) else m y)) (N : News h₀ L s.heap news)
    (hno : ffind got x p.toNat e.toNat < 0 → ∀ h' tk, Keep h₀ h' → P (.ret (.bool false)) { s with heap := h', toks := tk })
    (hyes : 0 ≤ ffind got x p.toNat e.toNat → ffind got x p.toNat e.toNat + x.length ≤ e → ∀ h' tk m' t, Fr h₀ L h' m' → m' (Str.ofString "startpos") = some (.int (ffind got x p.toNat e.toNat + x.length) t) → m' (Str.ofString "endpos") = some (.int e te) → m' (Str.ofString "got") = some (.str got tg) → News h₀ L h' news → P .next { s with heap := h', toks := tk }) :
    wpAny (model Challenge.rw_wr0014_01.row.prog w) (Ard dp un fr gd) (execs (forBody (stmtAt (ellBody w.params) 9)) (ellEnv w.params L cd)) P E s := by
  revert X; k_fill; intro X
  w_on
  conv in forBody _ => whnf
  unfold ellEnv
  conv in ellScope _ => whnf
  rw [map_known4 (m := m) hS hE hG hG] at F
  have hall := PLift.up (And.intro hno hyes)
  clear hno hyes
  repeat' (first | (k_unfold; (try dsimp only)) | walk1 | (dsimp only; walk1))
  all_goals first
    | exact hall.down.1 (by omega) _ _ (Fr.keep (by assumption))
    | exact hall.down.2 (by omega) (by omega) _ _ _ _ (by with_reducible assumption) rfl rfl rfl (by with_reducible assumption)
set_option maxHeartbeats 4000000 in
theorem e9 {m : Str → Option Value} {D : Addr} {vals : List Value} {ws : List Str} {nD : Nat} {tp te : Tok} {p : Int} {e : Nat}
    (X : (Mine.hd.heap_39 w.params).In h₀) (T : Top Mine.hd.view_39 (looseW Mine.hd.view_39 []) mean mg mb h₀) (hg : got.length ≤ 1000) (hx : ∀ x ∈ ws, x.length ≤ 1000)
    (hW : m (Str.ofString "ws") = some (.ref D)) (hS : m (Str.ofString "startpos") = some (.int p tp)) (hE : m (Str.ofString "endpos") = some (.int (e : Int) te)) (hG : m (Str.ofString "got") = some (.str got tg)) (hp : 0 ≤ p) (hpe : p ≤ e) (he : e ≤ got.length)
    (sW : StrsAre vals ws) (F : Fr h₀ L s.heap m) (N : News h₀ L s.heap [(D, PySem.W.listOf vals.toArray nD)])
    (h : ∀ b h' tk, b = (goL got e p ws).isSome → Keep h₀ h' → P (.ret (.bool b)) { s with heap := h', toks := tk }) :
    wpAny (model Challenge.rw_wr0014_01.row.prog w) (Ard dp un fr gd) (exec (stmtAt (ellBody w.params) 9) (ellEnv w.params L cd))
      (fun f s' => match f with | .next => wpAny (model Challenge.rw_wr0014_01.row.prog w) (Ard dp un fr gd) (execs ((ellBody w.params).drop 10) (ellEnv w.params L cd)) P E s' | f => P f s') E s := by
  revert X; k_fill; intro X
  w_on
  obtain ⟨body, hbody⟩ : ∃ b, forBody (stmtAt (ellBody w.params) 9) = b := ⟨_, rfl⟩
  conv in stmtAt _ 9 => whnf
  conv in List.drop 10 _ => whnf
  have hb2 := hbody
  conv at hb2 => lhs; whnf
  rw [hb2]
  clear hb2
  unfold ellEnv
  conv in ellScope _ => whnf
  have hall := PLift.up h
  clear h
  rw [map_known4 (m := m) hW hW hW hW] at F
  refine wpAny_For ?_
  repeat' (first | (k_unfold; (try dsimp only)) | walk1 | (dsimp only; walk1))
  unfold Stop
  obtain ⟨h⟩ := hall
  rw [← map_known4 (m := m) hW hW hW hW] at F
  have hl : s.heap.IsList D vals.toArray := News.isList N (List.mem_cons_self ..)
  have hWlt : @LT.lt Nat _ D s.heap.objs.size := Heap.lt_size (N _ (List.mem_cons_self ..)).1
  refine wpAny_pyIter_list hl ?_
  have hL : @LT.lt Nat _ L s.heap.objs.size := F.ns.lt
  have hI : h₀.get? s.heap.objs.size = none := by
    cases hq : h₀.get? s.heap.objs.size with
    | none => rfl
    | some o => exact absurd (Heap.lt_size (F.keep _ _ hq)) (Nat.lt_irrefl _)
  have W := Walks.list (prog := Challenge.rw_wr0014_01.row.prog) (w := w) (A := Ard dp un fr gd) rfl s.heap.objs.size D (Nat.ne_of_lt hWlt) vals.toArray
  have hlen := StrsAre.len_eq sW
  refine fixG (fun i m' => ∃ p' t, m' (Str.ofString "startpos") = some (.int p' t) ∧ m' (Str.ofString "endpos") = some (.int (e : Int) te) ∧ m' (Str.ofString "got") = some (.str got tg) ∧ 0 ≤ p' ∧ p' ≤ e ∧ goL got e p' (ws.drop i) = goL got e p ws)
    (fun s' => ∃ h' tk, s' = { s with heap := h', toks := tk }) (fun s' h tk g => by obtain ⟨h1, t1, rfl⟩ := g; exact ⟨h, tk, rfl⟩) W (fun i h st => by obtain ⟨⟨o, ho, _⟩, _⟩ := st; exact ⟨o, ho⟩) (List.mem_cons_self ..) ?_ (fun e => by have hL' := hL; rw [show L = s.heap.objs.size from e] at hL'; exact Nat.lt_irrefl _ hL') hI (fun q hq e => by
      rw [List.mem_singleton.mp hq] at e
      have hL' := hWlt
      rw [show D = s.heap.objs.size from e] at hL'; exact Nat.lt_irrefl _ hL') ?_ (F.push _) (fun q hq => ⟨Heap.get?_push_of_some _ (N q hq).1, (N q hq).2⟩) ⟨_, _, rfl⟩ ⟨p, tp, hS, hE, hG, hp, hpe, rfl⟩ ?_ ?_
  · exact fun _ s' v Q' E' _ hq => wpAny_pure hq
  · exact ⟨⟨_, Heap.get?_push_size _ rfl, rfl, rfl⟩, hl.at fun o e => Heap.get?_push_of_some _ e⟩
  · rintro i x m₁ s₁ o hi hx' ⟨p', t', hS₁, hE₁, hG₁, hp₁, hpe₁, hgo⟩ hoff F₁ N₁ ⟨h1, tk1, rfl⟩
    have hiw : i < ws.length := by rw [List.size_toArray] at hi; omega
    obtain ⟨u, hu⟩ := sW.at (show ws[i]? = some ws[i] by simp)
    have hx2 : x = .str ws[i] u := by
      have h2 : vals[i]? = some x := by simpa using hx'
      rw [h2] at hu
      exact Option.some.inj hu
    subst hx2
    rw [List.drop_eq_getElem_cons hiw] at hgo
    refine wpAny_assign_Name ?_
    refine wpAny_storeName_local rfl F₁.ns (fun h₂ hn₂ hs₂ => ?_) rfl
    have F₂ := F₁.set hn₂ hs₂
    have N₂ := N₁.set hs₂
    rw [← hbody]
    refine e9_turn (m := m₁) X T hg (hx _ (List.getElem_mem hiw)) hS₁ hE₁ hG₁ hp₁ hpe₁ (by omega) F₂ N₂ ?_ ?_
    · intro hf h' tk hk
      refine h false _ _ ?_ hk
      rw [← hgo, goL, if_pos (by rw [Int.toNat_natCast] at hf; exact hf)]
      rfl
    · intro hf hfe h' tk m' t F₃ hS₃ hE₃ hG₃ N₃
      rw [Int.toNat_natCast] at hf hfe hS₃
      refine ⟨m', F₃, N₃, ⟨_, t, hS₃, hE₃, hG₃, by omega, hfe, ?_⟩, _, _, rfl⟩
      rw [← hgo, goL, if_neg (by omega)]
  · rintro m₁ s₁ ⟨p', t', hS₁, hE₁, hG₁, hp₁, hpe₁, hgo⟩ F₁ N₁ ⟨h1, tk1, rfl⟩
    have hgo2 : (goL got e p ws).isSome = true := by
      rw [← hgo, List.drop_of_length_le (by rw [List.size_toArray]; omega)]
      rfl
    have hend := h true
    clear h
    repeat' (first | (k_unfold; (try dsimp only)) | walk1 | (dsimp only; walk1))
    exact hend _ _ hgo2.symm F₁.keep
end
end Mine
namespace Mine
set_option maxRecDepth 100000
open PySem PySem.W PySem.Calls PyProof.Rows PySem.Spec
theorem strs2 {v : List Value} {a b : Str} (h : StrsAre v [a, b]) : ∃ t0 t1, v = [.str a t0, .str b t1] := by
  cases h with
  | cons _ t0 h => cases h with
    | cons _ t1 h => cases h with
      | nil => exact ⟨t0, t1, rfl⟩
theorem strs3 {v : List Value} {a b c : Str} (h : StrsAre v [a, b, c]) : ∃ t0 t1 t2, v = [.str a t0, .str b t1, .str c t2] := by
  cases h with
  | cons _ t0 h => obtain ⟨t1, t2, rfl⟩ := strs2 h; exact ⟨t0, t1, t2, rfl⟩
theorem strs4 {v : List Value} {a b c d : Str} (h : StrsAre v [a, b, c, d]) : ∃ t0 t1 t2 t3, v = [.str a t0, .str b t1, .str c t2, .str d t3] := by
  cases h with
  | cons _ t0 h => obtain ⟨t1, t2, t3, rfl⟩ := strs3 h; exact ⟨t0, t1, t2, t3, rfl⟩
section
variable {w : World} {dp un : Nat} {fr : Option (List Env)} {gd : Option (List Code)} {s : Shared} {mean : ExcName → Option Value} {mg mb : Str → Option Value}
    {Q E : Value → Shared → Prop} {want got p q x e f : Str} {ta tb : Tok}
theorem ell2
    (X : (Mine.hd.heap_39 w.params).In s.heap) (T : Top Mine.hd.view_39 (looseW Mine.hd.view_39 []) mean mg mb s.heap) (hd : dp + 1 < recursionLimit) (hw : want.length ≤ 1000) (hg : got.length ≤ 1000)
    (hin : (Builtin.Str.occurrences want (Str.ofString "...") 0 want.length 1).isEmpty = false)
    (hsp : Txt.split want (Str.ofString "...") = [p, q]) (hp : 0 < p.length) (hq : 0 < q.length) (hp2 : p.length ≤ 1000) (hq2 : q.length ≤ 1000)
    (h : ∀ h' tk, Keep s.heap h' → Q (.bool (Txt.startswith got p && Txt.endswith got q && decide (p.length + q.length ≤ got.length))) { s with heap := h', toks := tk }) :
    wpAny (model Challenge.rw_wr0014_01.row.prog w) (Ard dp un fr gd) (call (.ref 21) [.str want ta, .str got tb]) Q E s := by
  refine ell_pre X T hd hw hg hin hsp fun L' h' tk vals D cd P E' F N sV hP => ?_
  obtain ⟨tp, tq, rfl⟩ := strs2 sV
  refine e28_2w X T hp hq hp2 hq2 hg F N (fun hc h2 tk2 hk => hP _ _ (by rw [← hc]; exact h h2 tk2 hk)) (fun hc h2 tk2 m' n' u1 u2 F2 a1 a2 a3 a4 N2 => ?_)
  have hl : p.length + q.length ≤ got.length := by
    rw [Bool.and_eq_true, decide_eq_true_eq] at hc
    exact hc.2
  refine e9 (e := got.length - q.length) (ws := []) X T hg (fun _ hm => by cases hm) a1 a3 (a4.trans (by rw [Int.ofNat_sub (Nat.le_trans (Nat.le_add_left _ _) hl)])) a2 (Int.natCast_nonneg _) (Int.ofNat_le.mpr (Nat.le_sub_of_add_le hl)) (Nat.sub_le _ _) .nil F2 N2 fun b h3 tk3 hb hk => hP _ _ ?_
  rw [hb, show (goL got (got.length - q.length) (p.length : Int) []).isSome = true from rfl, ← hc]
  exact h h3 tk3 hk
theorem ell3
    (X : (Mine.hd.heap_39 w.params).In s.heap) (T : Top Mine.hd.view_39 (looseW Mine.hd.view_39 []) mean mg mb s.heap) (hd : dp + 1 < recursionLimit) (hw : want.length ≤ 1000) (hg : got.length ≤ 1000)
    (hin : (Builtin.Str.occurrences want (Str.ofString "...") 0 want.length 1).isEmpty = false)
    (hsp : Txt.split want (Str.ofString "...") = [p, x, q]) (hp : 0 < p.length) (hq : 0 < q.length) (hp2 : p.length ≤ 1000) (hx2 : x.length ≤ 1000) (hq2 : q.length ≤ 1000)
    (h : ∀ h' tk, Keep s.heap h' → Q (.bool (Txt.startswith got p && Txt.endswith got q && decide (p.length + q.length ≤ got.length) && decide (0 ≤ ffind got x p.length (got.length - q.length)))) { s with heap := h', toks := tk }) :
    wpAny (model Challenge.rw_wr0014_01.row.prog w) (Ard dp un fr gd) (call (.ref 21) [.str want ta, .str got tb]) Q E s := by
  refine ell_pre X T hd hw hg hin hsp fun L' h' tk vals D cd P E' F N sV hP => ?_
  obtain ⟨tp, tx, tq, rfl⟩ := strs3 sV
  refine e28_3w X T hp hq hp2 hq2 hg F N (fun hc h2 tk2 hk => hP _ _ (by rw [hc, Bool.false_and] at h; exact h h2 tk2 hk)) (fun hc h2 tk2 m' n' u1 u2 F2 a1 a2 a3 a4 N2 => ?_)
  have hl : p.length + q.length ≤ got.length := by
    rw [Bool.and_eq_true, decide_eq_true_eq] at hc
    exact hc.2
  rw [hc, Bool.true_and] at h
  refine e9 (e := got.length - q.length) (ws := [x]) X T hg (fun y hm => by rw [List.mem_singleton.mp hm]; exact hx2) a1 a3 (a4.trans (by rw [Int.ofNat_sub (Nat.le_trans (Nat.le_add_left _ _) hl)])) a2 (Int.natCast_nonneg _) (Int.ofNat_le.mpr (Nat.le_sub_of_add_le hl)) (Nat.sub_le _ _) (.cons _ _ .nil) F2 N2 fun b h3 tk3 hb hk => hP _ _ ?_
  have hb2 : b = decide (0 ≤ ffind got x p.length (got.length - q.length)) := by
    rw [hb]
    simp only [goL, Int.toNat_natCast]
    split
    · exact (decide_eq_false (by omega)).symm
    · exact (decide_eq_true (by omega)).symm
  rw [hb2]
  exact h h3 tk3 hk
theorem ell4
    (X : (Mine.hd.heap_39 w.params).In s.heap) (T : Top Mine.hd.view_39 (looseW Mine.hd.view_39 []) mean mg mb s.heap) (hd : dp + 1 < recursionLimit) (hw : want.length ≤ 1000) (hg : got.length ≤ 1000)
    (hin : (Builtin.Str.occurrences want (Str.ofString "...") 0 want.length 1).isEmpty = false)
    (hsp : Txt.split want (Str.ofString "...") = [e, p, q, f]) (hp2 : p.length ≤ 1000) (hq2 : q.length ≤ 1000) (he : e.length = 0) (hf : f.length = 0)
    (h : ∀ h' tk, Keep s.heap h' → Q (.bool (decide (0 ≤ ffind got p 0 got.length) && decide (0 ≤ ffind got q (ffind got p 0 got.length + p.length).toNat got.length))) { s with heap := h', toks := tk }) :
    wpAny (model Challenge.rw_wr0014_01.row.prog w) (Ard dp un fr gd) (call (.ref 21) [.str want ta, .str got tb]) Q E s := by
  refine ell_pre X T hd hw hg hin hsp fun L' h' tk vals D cd P E' F N sV hP => ?_
  obtain ⟨te, tp, tq, tf, rfl⟩ := strs4 sV
  refine e28_4e X T he hf hg F N (fun h2 tk2 m' n' u1 u2 F2 a1 a2 a3 a4 N2 => ?_)
  refine e9 (e := got.length) (ws := [e, p, q, f]) X T hg (fun y hm => by
    simp only [List.mem_cons, List.not_mem_nil, or_false] at hm
    rcases hm with rfl | rfl | rfl | rfl <;> omega) a1 a3 a4 a2 (Int.le_refl 0) (Int.natCast_nonneg _) (Nat.le_refl _) (.cons _ _ (.cons _ _ (.cons _ _ (.cons _ _ .nil)))) F2 N2 fun b h3 tk3 hb hk => hP _ _ ?_
  have e0 := ffind_empty got e 0 got.length he (Nat.zero_le _)
  have b1 := ffind_bound got p 0 got.length
  have b2 := ffind_bound got q (ffind got p 0 got.length + p.length).toNat got.length
  have hb2 : b = (decide (0 ≤ ffind got p 0 got.length) && decide (0 ≤ ffind got q (ffind got p 0 got.length + p.length).toNat got.length)) := by
    rw [hb]
    rw [goL, show (0 : Int).toNat = 0 from rfl, e0, if_neg (by omega), he, show (((0 : Nat) : Int) + ((0 : Nat) : Int)) = 0 from rfl, goL, show (0 : Int).toNat = 0 from rfl]
    by_cases c1 : ffind got p 0 got.length < 0
    · rw [if_pos c1, decide_eq_false (by omega)]; rfl
    · rw [if_neg c1, decide_eq_true (by omega), Bool.true_and, goL]
      by_cases c2 : ffind got q (ffind got p 0 got.length + p.length).toNat got.length < 0
      · rw [if_pos c2, decide_eq_false (by omega)]; rfl
      · rw [if_neg c2, decide_eq_true (by omega), goL]
        have e1 := ffind_empty got f (ffind got q (ffind got p 0 got.length + p.length).toNat got.length + q.length).toNat got.length hf (by omega)
        rw [e1, if_neg (by omega)]; rfl
  rw [hb2]
  exact h h3 tk3 hk
theorem ell0
    (X : (Mine.hd.heap_39 w.params).In s.heap) (T : Top Mine.hd.view_39 (looseW Mine.hd.view_39 []) mean mg mb s.heap) (hd : dp + 1 < recursionLimit) (hw : want.length ≤ 1000) (hg : got.length ≤ 1000)
    (hin : (Builtin.Str.occurrences want (Str.ofString "...") 0 want.length 1).isEmpty = false)
    (hsp : Txt.split want (Str.ofString "...") = [e, f]) (he : e.length = 0) (hf : f.length = 0)
    (h : ∀ h' tk, Keep s.heap h' → Q (.bool true) { s with heap := h', toks := tk }) :
    wpAny (model Challenge.rw_wr0014_01.row.prog w) (Ard dp un fr gd) (call (.ref 21) [.str want ta, .str got tb]) Q E s := by
  refine ell_pre X T hd hw hg hin hsp fun L' h' tk vals D cd P E' F N sV hP => ?_
  obtain ⟨te, tf, rfl⟩ := strs2 sV
  refine e28_2e X T he hf hg F N (fun h2 tk2 m' n' u1 u2 F2 a1 a2 a3 a4 N2 => ?_)
  refine e9 (e := got.length) (ws := [e, f]) X T hg (fun y hm => by
    simp only [List.mem_cons, List.not_mem_nil, or_false] at hm
    rcases hm with rfl | rfl <;> omega) a1 a3 a4 a2 (Int.le_refl 0) (Int.natCast_nonneg _) (Nat.le_refl _) (.cons _ _ (.cons _ _ .nil)) F2 N2 fun b h3 tk3 hb hk => hP _ _ ?_
  have e0 := ffind_empty got e 0 got.length he (Nat.zero_le _)
  have e1 := ffind_empty got f 0 got.length hf (Nat.zero_le _)
  have hb2 : b = true := by
    rw [hb]
    rw [goL, show (0 : Int).toNat = 0 from rfl, e0, if_neg (by omega), he, show (((0 : Nat) : Int) + ((0 : Nat) : Int)) = 0 from rfl, goL, show (0 : Int).toNat = 0 from rfl, e1, if_neg (by omega)]
    rfl
  rw [hb2]
  exact h h3 tk3 hk
end
end Mine
namespace Mine
set_option maxRecDepth 100000
open PySem PySem.W PySem.Calls PyProof.Rows PySem.Spec
local macro_rules | `(tactic| walk_at "pad") => `(tactic| skip)
local macro_rules | `(tactic| walk_at "call builtin:str.join") => `(tactic| (
  (with_reducible rename News _ _ _ _ => N8)
  refine join_listW (News.isList N8 (by with_reducible assumption)) (by with_reducible assumption) (by decide) (by with_reducible assumption) ?_
  intro _ _))
local macro_rules | `(tactic| walk_at "call ref") => `(tactic| (
  (with_reducible rename Fr _ _ _ _ => F8)
  (with_reducible rename News _ _ _ _ => N8)
  refine ell_L (by assumption) (by assumption) (by assumption) (by exact F8) (by exact N8) (by with_reducible assumption) ?_
  intro _ _ _ _
  clear F8 N8
  (try dsimp only)))
section
variable {w : World} {dp un : Nat} {fr : Option (List Env)} {gd : Option (List Code)} {s : Shared} {mean : ExcName → Option Value} {mg mb : Str → Option Value}
    {Q : Flow → Shared → Prop} {E : Value → Shared → Prop} {h₀ : Heap} {L fa : Addr} {cd : Value}
set_option maxHeartbeats 4000000 in
theorem st23_turn {m : Str → Option Value} {A : Addr} {vW : List Value} {ws : List Str} {news : List (Addr × Obj)} {text : Str} {tx : Tok}
    (X : (Mine.hd.heap_39 w.params).In h₀) (T : Top Mine.hd.view_39 (looseW Mine.hd.view_39 []) mean mg mb h₀) (hd : dp + 9 < recursionLimit)
    (htx : m (Str.ofString "text") = some (.str text tx)) (hm : (A, PySem.W.listOf vW.toArray 0) ∈ news) (sW : StrsAre vW ws) (hw : (ws.map (·.length)).sum + ws.length ≤ 1048576)
    (e1 : EllIs w (Txt.join (Str.ofString "...") ws) text false)
    (F : Fr h₀ L s.heap (fun y => if y = Str.ofString "want" then some (.ref A) else m y)) (N : News h₀ L s.heap news)
    (h : ∀ h' tk, Fr h₀ L h' (fun y => if y = Str.ofString "want" then some (.ref A) else m y) → News h₀ L h' news → Q .next { s with heap := h', toks := tk }) :
    wpAny (model Challenge.rw_wr0014_01.row.prog w) (Ard dp un fr gd) (execs (forBody (stmtAt (lawBody w.params) 23)) (envOfC (Str.ofString "law") (lawScope w.params) L fa cd)) Q E s := by
  revert X; k_fill; intro X
  w_on
  conv in forBody _ => whnf
  conv in lawScope _ => whnf
  rw [map_known4 (m := m) htx htx htx htx] at F
  rw [map_known4 (m := m) htx htx htx htx] at h
  repeat' (first | (k_unfold; (try dsimp only)) | walk1 | (dsimp only; walk1))
  exact h _ _ (by with_reducible assumption) (by with_reducible assumption)
end
local macro_rules | `(tactic| walk_at "pyIter ref") => `(tactic| refine Stop.of ?_)
section
variable {w : World} {dp un : Nat} {fr : Option (List Env)} {gd : Option (List Code)} {s : Shared} {mean : ExcName → Option Value} {mg mb : Str → Option Value}
    {Q : Flow → Shared → Prop} {E : Value → Shared → Prop} {h₀ : Heap} {L fa : Addr} {cd : Value}
set_option maxHeartbeats 4000000 in
theorem st23 {m : Str → Option Value} {Wn : Addr} {its : List Value} {nW : Nat} {news : List (Addr × Obj)} {text : Str} {tx : Tok}
    (X : (Mine.hd.heap_39 w.params).In h₀) (T : Top Mine.hd.view_39 (looseW Mine.hd.view_39 []) mean mg mb h₀) (hd : dp + 9 < recursionLimit) (hbare : AllBare s.gens)
    (hW : m (Str.ofString "wants") = some (.ref Wn)) (htx : m (Str.ofString "text") = some (.str text tx)) (hWm : (Wn, PySem.W.listOf its.toArray nW) ∈ news)
    (hits : ∀ (i : Nat) (x : Value), its[i]? = some x → ∃ (A : Addr) (vW : List Value) (ws : List Str), x = Value.ref A ∧ (A, PySem.W.listOf vW.toArray 0) ∈ news ∧ StrsAre vW ws ∧ (ws.map (·.length)).sum + ws.length ≤ 1048576 ∧ EllIs w (Txt.join (Str.ofString "...") ws) text false)
    (F : Fr h₀ L s.heap m) (N : News h₀ L s.heap news)
    (h : ∀ s' m', Fr h₀ L s'.heap m' → (∀ y ∈ [Str.ofString "letters", Str.ofString "head", Str.ofString "text"], m' y = m y) → News h₀ L s'.heap news → AllBare s'.gens → s'.os = s.os → Q .next s') :
    wpAny (model Challenge.rw_wr0014_01.row.prog w) (Ard dp un fr gd) (exec (stmtAt (lawBody w.params) 23) (envOfC (Str.ofString "law") (lawScope w.params) L fa cd)) Q E s := by
  revert X; k_fill; intro X
  w_on
  obtain ⟨body, hbody⟩ : ∃ b, forBody (stmtAt (lawBody w.params) 23) = b := ⟨_, rfl⟩
  conv in stmtAt _ _ => whnf
  have hb2 := hbody
  conv at hb2 => lhs; whnf
  rw [hb2]
  clear hb2
  conv in lawScope _ => whnf
  have hall := PLift.up (And.intro h hits)
  clear h hits
  rw [map_known4 (m := m) hW htx htx htx] at F
  refine wpAny_For ?_
  repeat' (first | (k_unfold; (try dsimp only)) | walk1 | (dsimp only; walk1))
  unfold Stop
  obtain ⟨⟨h, hits⟩⟩ := hall
  rw [← map_known4 (m := m) hW htx htx htx] at F
  have hl : s.heap.IsList Wn its.toArray := News.isList N hWm
  have hWlt : @LT.lt Nat _ Wn s.heap.objs.size := Heap.lt_size (N _ hWm).1
  refine wpAny_pyIter_list hl ?_
  have hsome : ∀ p ∈ news, @LT.lt Nat _ p.1 s.heap.objs.size := fun p hp => Heap.lt_size (N p hp).1
  have hL : @LT.lt Nat _ L s.heap.objs.size := F.ns.lt
  have hI : h₀.get? s.heap.objs.size = none := by
    cases hq : h₀.get? s.heap.objs.size with
    | none => rfl
    | some o => exact absurd (Heap.lt_size (F.keep _ _ hq)) (Nat.lt_irrefl _)
  have W := Walks.list (prog := Challenge.rw_wr0014_01.row.prog) (w := w) (A := Ard dp un fr gd) rfl s.heap.objs.size Wn (Nat.ne_of_lt hWlt) its.toArray
  refine fix_loop (fun _ m' => ∀ y ∈ [Str.ofString "letters", Str.ofString "head", Str.ofString "text"], m' y = m y) W (fun i h st => by obtain ⟨⟨o, ho, _⟩, _⟩ := st; exact ⟨o, ho⟩) hWm ?_ (fun e => by have hL' := hL; rw [show L = s.heap.objs.size from e] at hL'; exact Nat.lt_irrefl _ hL') hI (fun p hp e => by have := hsome p hp; rw [e] at this; exact Nat.lt_irrefl _ this) ?_ (F.push _) (fun p hp => ⟨Heap.get?_push_of_some _ (N p hp).1, (N p hp).2⟩) hbare (fun _ _ => rfl) ?_ ?_
  · exact fun _ s' v Q' E' _ hq => wpAny_pure hq
  · exact ⟨⟨_, Heap.get?_push_size _ rfl, rfl, rfl⟩, hl.at fun o e => Heap.get?_push_of_some _ e⟩
  · intro i x m₁ s₁ o hi hx hm₁ hoff F₁ N₁ hg₁ hos₁
    obtain ⟨A, vW, ws, rfl, hA, sW, hw, e1⟩ := hits i x (by simpa using hx)
    refine wpAny_assign_Name ?_
    refine wpAny_storeName_local rfl F₁.ns (fun h₂ hn₂ hs₂ => ?_) rfl
    have F₂ := F₁.set hn₂ hs₂
    have N₂ := N₁.set hs₂
    rw [← hbody]
    refine st23_turn (m := m₁) X T hd ((hm₁ _ (by simp)).trans htx) (List.mem_append_left _ hA) sW hw e1 F₂ N₂ ?_
    intro h' tk F₃ N₃
    refine ⟨_, F₃, N₃, fun y hy => ?_, hg₁, hos₁⟩
    rw [← hm₁ y hy]
    simp only [List.mem_cons, List.not_mem_nil, or_false] at hy
    rcases hy with rfl | rfl | rfl <;> rfl
  · intro m₁ s₁ hm₁ F₁ N₁ hg₁ hos₁
    exact h s₁ m₁ F₁ hm₁ N₁ hg₁ hos₁
end
end Mine
namespace Mine
set_option maxRecDepth 100000
open PySem PySem.W PySem.Calls PyProof.Rows PySem.Spec
/-- a text's codes -/
noncomputable def cs (x : Str) : List Nat := x.cps.toList
theorem cs_app (a b : Str) : cs (a ++ b) = cs a ++ cs b := by
  unfold cs; rw [Str.cps_append, Array.toList_append]
theorem cs_len (x : Str) : (cs x).length = x.length := Array.length_toList
theorem cs_inj {a b : Str} (h : cs a = cs b) : a = b := Str.ext' (Array.toList_inj.mp h)
theorem cs_inj_iff {a b : Str} : cs a = cs b ↔ a = b := ⟨cs_inj, fun h => by rw [h]⟩
theorem cs_empty : cs (Str.ofString "") = [] := by decide
theorem cs_dots : cs (Str.ofString "...") = [46, 46, 46] := by decide
theorem dots_len : (Str.ofString "...").length = 3 := by decide
noncomputable def jl : List (List Nat) → List Nat
  | [] => []
  | [w] => w
  | w :: r => w ++ [46, 46, 46] ++ jl r
theorem cs_jdots : ∀ l : List Str, cs (Txt.join (Str.ofString "...") l) = jl (l.map cs) := by
  intro l
  show cs (Builtin.Str.glued (Str.ofString "...") l) = _
  rw [StrLaws.glued_eq_join]
  induction l with
  | nil => rfl
  | cons a r ih =>
    cases r with
    | nil => rfl
    | cons b r =>
      show cs (a ++ Str.ofString "..." ++ Str.join (Str.ofString "...") (b :: r)) = _
      rw [cs_app, cs_app, ih, cs_dots]
      rfl
theorem cs_join0 : ∀ l : List Str, cs (Txt.join (Str.ofString "") l) = (l.map cs).flatten := by
  intro l
  show cs (Builtin.Str.glued (Str.ofString "") l) = _
  rw [StrLaws.glued_eq_join]
  induction l with
  | nil => rfl
  | cons a r ih =>
    cases r with
    | nil => simp [Str.join]
    | cons b r =>
      show cs (a ++ Str.ofString "" ++ Str.join (Str.ofString "") (b :: r)) = _
      rw [cs_app, cs_app, ih, cs_empty]
      simp
theorem at_iff {x y : Str} {hi i : Nat} : StrLaws.At x y hi i ↔ i + y.length ≤ hi ∧ ((cs x).drop i).take y.length = cs y := by
  unfold StrLaws.At
  rw [StrLaws.subAt_eq, beq_iff_eq]
  rfl
theorem at_get {x y : Str} {hi i : Nat} (h : StrLaws.At x y hi i) (j : Nat) (hj : j < y.length) : (cs x)[i + j]? = (cs y)[j]? := by
  rw [← (at_iff.mp h).2, List.getElem?_take_of_lt hj, List.getElem?_drop]
theorem at_here {x y : Str} {hi : Nat} {A B : List Nat} (e : cs x = A ++ (cs y ++ B)) (h : A.length + y.length ≤ hi) : StrLaws.At x y hi A.length := by
  refine at_iff.mpr ⟨h, ?_⟩
  rw [e, List.drop_left, ← cs_len y, List.take_left]
theorem get_app_left {A C : List Nat} {i : Nat} (h : i < A.length) : (A ++ C)[i]? = A[i]? := List.getElem?_append_left h
theorem mem_after {A d : List Nat} {k c i : Nat} (hl : A.length < i) (e : (A ++ k :: d)[i]? = some c) : c ∈ d := by
  rw [List.getElem?_append_right (Nat.le_of_lt hl)] at e
  obtain ⟨j, hj⟩ := Nat.exists_eq_add_of_lt hl
  rw [hj, Nat.add_assoc, Nat.add_sub_cancel_left, List.getElem?_cons_succ] at e
  exact List.mem_of_getElem? e
theorem uniq_at {A C : List Nat} {h i : Nat} (hA : h ∉ A) (hC : h ∉ C) (e : (A ++ h :: C)[i]? = some h) : i = A.length := by
  rcases Nat.lt_trichotomy i A.length with hl | hl | hl
  · rw [List.getElem?_append_left hl] at e
    exact absurd (List.mem_of_getElem? e) hA
  · exact hl
  · exact absurd (mem_after hl e) hC
theorem ffind_at {x y : Str} {A B d : List Nat} {h : Nat} (lo hi : Nat) (e : cs x = A ++ (cs y ++ B)) (hy : cs y = h :: d) (hA : h ∉ A) (hd : h ∉ d) (hB : h ∉ B) :
    ffind x y lo hi = if lo ≤ A.length ∧ A.length + y.length ≤ hi then (A.length : Int) else -1 := by
  have hpos : 0 < y.length := by rw [← cs_len, hy]; exact Nat.succ_pos _
  have key : ∀ i, StrLaws.At x y hi i → i = A.length := by
    intro i hi
    have h1 := at_get hi 0 hpos
    rw [e, hy, Nat.add_zero, List.getElem?_cons_zero, List.cons_append] at h1
    refine uniq_at hA ?_ h1
    intro hm
    rcases List.mem_append.mp hm with hm | hm
    · exact hd hm
    · exact hB hm
  rcases ffind_spec x y lo hi with ⟨h1, h2⟩ | ⟨i, h1, h2, h3, h4⟩
  · rw [h1, if_neg]
    rintro ⟨h5, h6⟩
    exact h2 _ h5 (at_here e h6)
  · have := key i h3
    subst this
    rw [h1, if_pos ⟨h2, (at_iff.mp h3).1⟩]
theorem starts_iff {x y : Str} : Txt.startswith x y = true ↔ ∃ B, cs x = cs y ++ B := by
  unfold Txt.startswith
  rw [Bool.and_eq_true, decide_eq_true_eq, StrLaws.subAt_eq, beq_iff_eq, List.drop_zero]
  constructor
  · rintro ⟨_, h⟩
    refine ⟨(cs x).drop y.length, ?_⟩
    have h' : (cs x).take y.length = cs y := h
    rw [← h', List.take_append_drop]
  · rintro ⟨B, h⟩
    have h' : x.cps.toList = cs y ++ B := h
    refine ⟨?_, ?_⟩
    · have := congrArg List.length h
      rw [cs_len, List.length_append, cs_len] at this
      omega
    · rw [h', ← cs_len y, List.take_left]; rfl
theorem ends_iff {x y : Str} : Txt.endswith x y = true ↔ ∃ A, cs x = A ++ cs y := by
  unfold Txt.endswith
  rw [Bool.and_eq_true, decide_eq_true_eq, StrLaws.subAt_eq, beq_iff_eq]
  constructor
  · rintro ⟨h0, h⟩
    refine ⟨(cs x).take (x.length - y.length), ?_⟩
    have h' : ((cs x).drop (x.length - y.length)).take y.length = cs y := h
    rw [List.take_of_length_le] at h'
    · rw [← h', List.take_append_drop]
    · rw [List.length_drop, cs_len]; omega
  · rintro ⟨A, h⟩
    have h' : x.cps.toList = A ++ cs y := h
    have hl := congrArg List.length h
    rw [cs_len, List.length_append, cs_len] at hl
    refine ⟨by omega, ?_⟩
    have : x.length - y.length = A.length := by omega
    rw [h', this, List.drop_left, ← cs_len y, List.take_length]; rfl
/-- no three dots in a row -/
noncomputable def NoD (l : List Nat) : Prop := ∀ k, ¬ (l[k]? = some 46 ∧ l[k + 1]? = some 46 ∧ l[k + 2]? = some 46)
theorem NoD.of {l : List Nat} (h : 46 ∉ l) : NoD l := fun _ hk => h (List.mem_of_getElem? hk.1)
theorem NoD.cons {l : List Nat} (h : 46 ∉ l) (a : Nat) : NoD (a :: l) := fun k hk => by
  have h2 := hk.2.1
  rw [List.getElem?_cons_succ] at h2
  exact h (List.mem_of_getElem? h2)
theorem atd_get {x : Str} {hi i : Nat} (h : StrLaws.At x (Str.ofString "...") hi i) : (cs x)[i]? = some 46 ∧ (cs x)[i + 1]? = some 46 ∧ (cs x)[i + 2]? = some 46 := by
  have h0 := at_get h 0 (by rw [dots_len]; omega)
  have h1 := at_get h 1 (by rw [dots_len]; omega)
  have h2 := at_get h 2 (by rw [dots_len]; omega)
  rw [cs_dots] at h0 h1 h2
  exact ⟨h0, h1, h2⟩
noncomputable def cutsOf : Nat → List Str → List Nat
  | _, [] => []
  | _, [_] => []
  | a, w :: r => (a + w.length) :: cutsOf (a + w.length + 3) r
noncomputable def endOf : Nat → List Str → Nat
  | a, [] => a
  | a, [_] => a
  | a, w :: r => endOf (a + w.length + 3) r
noncomputable def GoodParts : List Str → Prop
  | [] => True
  | [w] => NoD (cs w)
  | w :: r => 46 ∉ cs w ∧ GoodParts r
theorem chain_cuts (x : Str) : ∀ (ws : List Str) (P : List Nat), ws ≠ [] → GoodParts ws → cs x = P ++ jl (ws.map cs) →
    StrLaws.ChainG x (Str.ofString "...") x.length P.length (cutsOf P.length ws) (endOf P.length ws) ∧ (∀ k, endOf P.length ws ≤ k → ¬ StrLaws.At x (Str.ofString "...") x.length k) ∧
    StrLaws.partsFrom x 3 P.length (cutsOf P.length ws) = ws
  | [], _, h, _, _ => absurd rfl h
  | [w], P, _, g, e => by
    have e' : cs x = P ++ cs w := e
    refine ⟨rfl, ?_, ?_⟩
    · intro k hk hA
      have hk' : P.length ≤ k := hk
      have h1 := atd_get hA
      rw [e', List.getElem?_append_right hk', List.getElem?_append_right (by omega), List.getElem?_append_right (by omega)] at h1
      refine g (k - P.length) ⟨h1.1, ?_, ?_⟩
      · rw [← h1.2.1]; congr 1; omega
      · rw [← h1.2.2]; congr 1; omega
    · show [Builtin.Str.strSub x P.length x.length] = [w]
      congr 1
      apply cs_inj
      have hl := congrArg List.length e'
      rw [cs_len, List.length_append, cs_len] at hl
      have h2 : cs (Builtin.Str.strSub x P.length x.length) = ((cs x).drop P.length).take (x.length - P.length) := StrLaws.strSub_toList x _ _
      rw [h2, e', List.drop_left, List.take_of_length_le]
      rw [cs_len]; omega
  | w :: v :: r, P, _, g, e => by
    have e0 : cs x = P ++ (cs w ++ [46, 46, 46] ++ jl ((v :: r).map cs)) := e
    have e1 : cs x = (P ++ cs w ++ [46, 46, 46]) ++ jl ((v :: r).map cs) := by rw [e0]; simp only [List.append_assoc]
    have e2 : cs x = (P ++ cs w) ++ (cs (Str.ofString "...") ++ jl ((v :: r).map cs)) := by rw [e0, cs_dots]; simp only [List.append_assoc]
    have hl1 : (P ++ cs w ++ [46, 46, 46]).length = P.length + w.length + 3 := by
      rw [List.length_append, List.length_append, cs_len]; rfl
    have hl2 : (P ++ cs w).length = P.length + w.length := by rw [List.length_append, cs_len]
    have ih := chain_cuts x (v :: r) (P ++ cs w ++ [46, 46, 46]) (by simp) g.2 e1
    rw [hl1] at ih
    have hlen := congrArg List.length e2
    rw [cs_len, List.length_append (as := P ++ cs w), hl2, List.length_append, cs_len, dots_len] at hlen
    refine ⟨⟨Nat.le_add_right _ _, ?_, ?_, ?_⟩, ih.2.1, ?_⟩
    · rw [← hl2]
      exact at_here e2 (by rw [hl2, dots_len]; omega)
    · intro k h1 h2 hA
      have h3 := (atd_get hA).1
      rw [e2, List.getElem?_append_left (by rw [hl2]; exact h2), List.getElem?_append_right h1] at h3
      exact g.1 (List.mem_of_getElem? h3)
    · rw [dots_len]; exact ih.1
    · show Builtin.Str.strSub x P.length (P.length + w.length) :: StrLaws.partsFrom x 3 (P.length + w.length + 3) (cutsOf (P.length + w.length + 3) (v :: r)) = w :: v :: r
      rw [ih.2.2]
      congr 1
      apply cs_inj
      have h2 : cs (Builtin.Str.strSub x P.length (P.length + w.length)) = ((cs x).drop P.length).take (P.length + w.length - P.length) := StrLaws.strSub_toList x _ _
      rw [h2, e0, List.drop_left, Nat.add_sub_cancel_left, ← cs_len w, List.append_assoc, List.take_left]
theorem chain_unique {x y : Str} {hi : Nat} : ∀ {a : Nat} {c1 c2 : List Nat} {f1 f2 : Nat}, StrLaws.ChainG x y hi a c1 f1 → (∀ k, f1 ≤ k → ¬ StrLaws.At x y hi k) → StrLaws.ChainG x y hi a c2 f2 → (∀ k, f2 ≤ k → ¬ StrLaws.At x y hi k) → c1 = c2
  | a, [], [], _, _, _, _, _, _ => rfl
  | a, [], c :: r, f1, _, h1, n1, h2, _ => by
    have e : f1 = a := h1
    exact absurd h2.2.1 (n1 c (by rw [e]; exact h2.1))
  | a, c :: r, [], _, f2, h1, _, h2, n2 => by
    have e : f2 = a := h2
    exact absurd h1.2.1 (n2 c (by rw [e]; exact h1.1))
  | a, c :: r, c' :: r', f1, f2, h1, n1, h2, n2 => by
    have e : c = c' := by
      rcases Nat.lt_trichotomy c c' with h | h | h
      · exact absurd h1.2.1 (h2.2.2.1 c h1.1 h)
      · exact h
      · exact absurd h2.2.1 (h1.2.2.1 c' h2.1 h)
    subst e
    rw [chain_unique h1.2.2.2 n1 h2.2.2.2 n2]
theorem kind_dots : Builtin.Str.strKind (Str.ofString "...") = 1 := by decide +kernel
theorem kind_pos (x : Str) : 1 ≤ Builtin.Str.strKind x := by
  unfold Builtin.Str.strKind
  split
  · exact Nat.le_refl _
  · split <;> omega
theorem occ_dots (ws : List Str) (h : ws ≠ []) (g : GoodParts ws) {x : Str} (ex : x = Txt.join (Str.ofString "...") ws) :
    Builtin.Str.occurrences x (Str.ofString "...") 0 x.length (x.length + 1) = cutsOf 0 ws ∧ StrLaws.partsFrom x 3 0 (cutsOf 0 ws) = ws := by
  have hx : cs x = [] ++ jl (ws.map cs) := by rw [ex, cs_jdots]; rfl
  have h1 := chain_cuts x ws [] h g hx
  obtain ⟨f, h2, h3⟩ := StrLaws.occ_tight x (Str.ofString "...") (by rw [dots_len]; omega)
  exact ⟨chain_unique h2 h3 h1.1 h1.2.1, h1.2.2⟩
theorem split_dots {a b : Str} {r : List Str} (g : GoodParts (a :: b :: r)) : Txt.split (Txt.join (Str.ofString "...") (a :: b :: r)) (Str.ofString "...") = a :: b :: r := by
  obtain ⟨x, ex⟩ : ∃ x, x = Txt.join (Str.ofString "...") (a :: b :: r) := ⟨_, rfl⟩
  obtain ⟨h1, h2⟩ := occ_dots (a :: b :: r) (by simp) g ex
  rw [← ex]
  unfold Txt.split
  rw [h1, if_neg, if_neg (by show ¬ (false = true); decide), StrLaws.partsBetween_eq, dots_len, h2]
  rw [kind_dots]
  have hk := kind_pos x
  have hl : 3 ≤ x.length := by
    rw [← cs_len, ex, cs_jdots]
    show 3 ≤ (cs a ++ [46, 46, 46] ++ jl ((b :: r).map cs)).length
    rw [List.length_append, List.length_append]
    simp only [List.length_cons, List.length_nil]
    omega
  rw [dots_len]
  intro hh
  rw [Bool.or_eq_true, decide_eq_true_eq, decide_eq_true_eq] at hh
  omega
theorem found_dots {a b : Str} {r : List Str} : (Builtin.Str.occurrences (Txt.join (Str.ofString "...") (a :: b :: r)) (Str.ofString "...") 0 (Txt.join (Str.ofString "...") (a :: b :: r)).length 1).isEmpty = false := by
  obtain ⟨x, ex⟩ : ∃ x, x = Txt.join (Str.ofString "...") (a :: b :: r) := ⟨_, rfl⟩
  rw [← ex]
  have e : cs x = cs a ++ (cs (Str.ofString "...") ++ jl ((b :: r).map cs)) := by
    rw [ex, cs_jdots, cs_dots]
    show cs a ++ [46, 46, 46] ++ jl ((b :: r).map cs) = _
    rw [List.append_assoc]
  have hl := congrArg List.length e
  rw [cs_len, List.length_append, List.length_append, cs_len, cs_len] at hl
  have hA := at_here (hi := x.length) e (by rw [cs_len]; omega)
  have := (StrLaws.found_iff x (Str.ofString "...")).mpr ⟨_, hA⟩
  rw [Bool.not_eq_true'] at this
  exact this
theorem lost_dots {x : Str} (h : 46 ∉ cs x) : (Builtin.Str.occurrences x (Str.ofString "...") 0 x.length 1).isEmpty = true := by
  by_cases hc : (Builtin.Str.occurrences x (Str.ofString "...") 0 x.length 1).isEmpty = true
  · exact hc
  · exfalso
    have hf : (!(Builtin.Str.occurrences x (Str.ofString "...") 0 x.length 1).isEmpty) = true := by
      rw [Bool.not_eq_true', ← Bool.not_eq_true]; exact hc
    obtain ⟨i, h1, h2⟩ := (StrLaws.found_iff x (Str.ofString "...")).mp hf
    exact h (List.mem_of_getElem? (atd_get (hi := x.length) ⟨h1, h2⟩).1)
end Mine
namespace Mine
set_option maxRecDepth 100000
open PySem PySem.W PySem.Calls PyProof.Rows PySem.Spec
structure EllB (w : World) (want got : Str) (b : Bool) : Prop where
  is : EllIs w want got b
section
variable {w : World} {p q x got : Str}
theorem Ell_no (h : 46 ∉ cs p) : EllB w p got (p == got) := by
  refine ⟨?_⟩
  intro dp un fr gd s mean mg mb Q E ta tb X T hd hq
  exact ell_no X T hd (lost_dots h) hq
theorem jl_len2 (p q : Str) : (Txt.join (Str.ofString "...") [p, q]).length = p.length + 3 + q.length := by
  rw [← cs_len, cs_jdots]
  show (cs p ++ [46, 46, 46] ++ cs q).length = _
  rw [List.length_append, List.length_append, cs_len, cs_len]; rfl
theorem jl_len3 (p x q : Str) : (Txt.join (Str.ofString "...") [p, x, q]).length = p.length + 3 + x.length + 3 + q.length := by
  rw [← cs_len, cs_jdots]
  show (cs p ++ [46, 46, 46] ++ (cs x ++ [46, 46, 46] ++ cs q)).length = _
  simp only [List.length_append, cs_len, List.length_cons, List.length_nil]
  omega
theorem jl_len4 (e p q f : Str) : (Txt.join (Str.ofString "...") [e, p, q, f]).length = e.length + 3 + p.length + 3 + q.length + 3 + f.length := by
  rw [← cs_len, cs_jdots]
  show (cs e ++ [46, 46, 46] ++ (cs p ++ [46, 46, 46] ++ (cs q ++ [46, 46, 46] ++ cs f))).length = _
  simp only [List.length_append, cs_len, List.length_cons, List.length_nil]
  omega
theorem Ell_2 (hp : 46 ∉ cs p) (hq : NoD (cs q)) (lp : 0 < p.length) (lq : 0 < q.length) (lp' : p.length ≤ 200) (lq' : q.length ≤ 200) (lg : got.length ≤ 1000) :
    EllB w (Txt.join (Str.ofString "...") [p, q]) got (Txt.startswith got p && Txt.endswith got q && decide (p.length + q.length ≤ got.length)) := by
  refine ⟨?_⟩
  intro dp un fr gd s mean mg mb Q E ta tb X T hd h
  exact ell2 X T hd (by rw [jl_len2]; omega) lg found_dots (split_dots ⟨hp, hq⟩) lp lq (by omega) (by omega) h
theorem Ell_3 (hp : 46 ∉ cs p) (hx : 46 ∉ cs x) (hq : NoD (cs q)) (lp : 0 < p.length) (lq : 0 < q.length) (lp' : p.length ≤ 200) (lx' : x.length ≤ 200) (lq' : q.length ≤ 200) (lg : got.length ≤ 1000) :
    EllB w (Txt.join (Str.ofString "...") [p, x, q]) got (Txt.startswith got p && Txt.endswith got q && decide (p.length + q.length ≤ got.length) && decide (0 ≤ ffind got x p.length (got.length - q.length))) := by
  refine ⟨?_⟩
  intro dp un fr gd s mean mg mb Q E ta tb X T hd h
  exact ell3 X T hd (by rw [jl_len3]; omega) lg found_dots (split_dots ⟨hp, hx, hq⟩) lp lq (by omega) (by omega) (by omega) h
theorem Ell_4 (hp : 46 ∉ cs p) (hq : 46 ∉ cs q) (lp' : p.length ≤ 200) (lq' : q.length ≤ 200) (lg : got.length ≤ 1000) :
    EllB w (Txt.join (Str.ofString "...") [Str.ofString "", p, q, Str.ofString ""]) got (decide (0 ≤ ffind got p 0 got.length) && decide (0 ≤ ffind got q (ffind got p 0 got.length + p.length).toNat got.length)) := by
  refine ⟨?_⟩
  intro dp un fr gd s mean mg mb Q E ta tb X T hd h
  have he : (Str.ofString "").length = 0 := rfl
  have hc : 46 ∉ cs (Str.ofString "") := by decide
  exact ell4 X T hd (by rw [jl_len4, he]; omega) lg found_dots (split_dots ⟨hc, hp, hq, NoD.of hc⟩) (by omega) (by omega) he he h
theorem Ell_0 (lg : got.length ≤ 1000) : EllB w (Str.ofString "...") got true := by
  have e : Str.ofString "..." = Txt.join (Str.ofString "...") [Str.ofString "", Str.ofString ""] := cs_inj (by rw [cs_jdots]; decide)
  have hc : 46 ∉ cs (Str.ofString "") := by decide
  rw [show EllB w (Str.ofString "...") got true = EllB w (Txt.join (Str.ofString "...") [Str.ofString "", Str.ofString ""]) got true from by rw [← e]]
  refine ⟨?_⟩
  intro dp un fr gd s mean mg mb Q E ta tb X T hd h
  refine ell0 X T hd ?_ lg found_dots (split_dots ⟨hc, NoD.of hc⟩) rfl rfl h
  rw [jl_len2]; decide
end
noncomputable def Dress (d : List Nat) : Prop := d = [] ∨ d = [92, 34] ∨ d = [92, 92]
/-- a letter: a high sign, then its dress -/
structure Wd (x : Str) (h : Nat) : Prop where
  hi : 20000 ≤ h
  is : ∃ d, cs x = h :: d ∧ Dress d
theorem Dress.low {d : List Nat} (hd : Dress d) : ∀ c ∈ d, c = 34 ∨ c = 92 := by
  rcases hd with rfl | rfl | rfl <;> intro c hc <;> simp at hc <;> omega
theorem Wd.len {x : Str} {h : Nat} (wx : Wd x h) : 1 ≤ x.length ∧ x.length ≤ 3 := by
  obtain ⟨d, e, hd⟩ := wx.is
  rw [← cs_len, e]
  rcases hd with rfl | rfl | rfl <;> simp
theorem Wd.mem {x : Str} {h c : Nat} (wx : Wd x h) (hc : c ∈ cs x) : c = h ∨ c = 34 ∨ c = 92 := by
  obtain ⟨d, e, hd⟩ := wx.is
  rw [e] at hc
  rcases List.mem_cons.mp hc with h1 | h1
  · exact .inl h1
  · exact .inr (hd.low c h1)
theorem Wd.off {x : Str} {h k : Nat} (wx : Wd x h) (hk : 20000 ≤ k) (ne : k ≠ h) : k ∉ cs x := fun hm => by
  rcases wx.mem hm with h1 | h1 | h1 <;> omega
theorem Wd.low {x : Str} {h c : Nat} (wx : Wd x h) (h1 : c < 20000) (h2 : c ≠ 34) (h3 : c ≠ 92) : c ∉ cs x := fun hm => by
  have := wx.hi
  rcases wx.mem hm with h1 | h1 | h1 <;> omega
theorem Wd.no46 {x : Str} {h : Nat} (wx : Wd x h) : 46 ∉ cs x := wx.low (by decide) (by decide) (by decide)
theorem Wd.le200 {x : Str} {h : Nat} (wx : Wd x h) : x.length ≤ 200 := Nat.le_trans wx.len.2 (by decide)
theorem Wd.ne {x y : Str} {h k : Nat} (wx : Wd x h) (wy : Wd y k) (ne : h ≠ k) : x ≠ y := fun e => by
  obtain ⟨d, e1, _⟩ := wx.is
  obtain ⟨d', e2, _⟩ := wy.is
  rw [e, e2] at e1
  exact ne (List.cons.inj e1).1.symm
/-- the words' text -/
abbrev tx (l : List Str) : Str := Txt.join (Str.ofString "") l
theorem off_flat {k : Nat} {l : List Str} (h : ∀ x ∈ l, k ∉ cs x) : k ∉ (l.map cs).flatten := fun hm => by
  obtain ⟨c, hc, hk⟩ := List.mem_flatten.mp hm
  obtain ⟨x, hx, rfl⟩ := List.mem_map.mp hc
  exact h x hx hk
theorem cs_tx_app (a b : List Str) : cs (tx (a ++ b)) = cs (tx a) ++ cs (tx b) := by
  rw [cs_join0, cs_join0, cs_join0, List.map_append, List.flatten_append]
theorem cs_tx_cons (a : Str) (b : List Str) : cs (tx (a :: b)) = cs a ++ cs (tx b) := by
  rw [cs_join0, cs_join0]; rfl
theorem off_tx {k : Nat} {l : List Str} (h : ∀ x ∈ l, k ∉ cs x) : k ∉ cs (tx l) := by
  rw [cs_join0]; exact off_flat h
theorem find_w {x r : Str} {h : Nat} {P S : List Nat} (wr : Wd r h) (e : cs x = P ++ (cs r ++ S)) (hP : h ∉ P) (hS : h ∉ S) (lo hi : Nat) :
    ffind x r lo hi = if lo ≤ P.length ∧ P.length + r.length ≤ hi then (P.length : Int) else -1 := by
  obtain ⟨d, e1, hd⟩ := wr.is
  refine ffind_at lo hi e e1 hP (fun hm => ?_) hS
  have := wr.hi
  rcases hd.low _ hm with h1 | h1 <;> omega
theorem e1_yes {w : World} {r0 r1 : Str} {h0 h1 : Nat} {p m s : List Str} (w0 : Wd r0 h0) (w1 : Wd r1 h1) (ne : h0 ≠ h1) (o0 : ∀ x ∈ p ++ m ++ s, h0 ∉ cs x) (o1 : ∀ x ∈ p ++ m ++ s, h1 ∉ cs x)
    (hl : (tx (p ++ r0 :: (m ++ r1 :: s))).length ≤ 1000) :
    EllB w (Txt.join (Str.ofString "...") [Str.ofString "", r0, r1, Str.ofString ""]) (tx (p ++ r0 :: (m ++ r1 :: s))) true := by
  have l0 := w0.len
  have l1 := w1.len
  have hE := Ell_4 (w := w) (got := tx (p ++ r0 :: (m ++ r1 :: s))) w0.no46 w1.no46 w0.le200 w1.le200 hl
  obtain ⟨x, hx⟩ : ∃ x, x = tx (p ++ r0 :: (m ++ r1 :: s)) := ⟨_, rfl⟩
  rw [← hx] at hE ⊢
  have e0 : cs x = cs (tx p) ++ (cs r0 ++ cs (tx (m ++ r1 :: s))) := by rw [hx, cs_tx_app, cs_tx_cons]
  have e1 : cs x = (cs (tx p) ++ cs r0 ++ cs (tx m)) ++ (cs r1 ++ cs (tx s)) := by rw [e0, cs_tx_app, cs_tx_cons]; simp only [List.append_assoc]
  have f0 := find_w w0 e0 (off_tx fun y hy => o0 y (by simp [hy])) (off_tx fun y hy => by
    simp only [List.mem_append, List.mem_cons] at hy
    rcases hy with hy | rfl | hy
    · exact o0 y (by simp [hy])
    · exact w1.off w0.hi ne
    · exact o0 y (by simp [hy])) 0 x.length
  have f1 := fun lo => find_w w1 e1 (by
    intro hm
    rcases List.mem_append.mp hm with hm | hm
    · rcases List.mem_append.mp hm with hm | hm
      · exact off_tx (fun y hy => o1 y (by simp [hy])) hm
      · exact w0.off w1.hi ne.symm hm
    · exact off_tx (fun y hy => o1 y (by simp [hy])) hm) (off_tx fun y hy => o1 y (by simp [hy])) lo x.length
  have hlen := congrArg List.length e1
  simp only [List.length_append, cs_len] at hlen
  rw [if_pos ⟨Nat.zero_le _, by rw [cs_len]; omega⟩, cs_len] at f0
  rw [f0, f1, if_pos (by simp only [List.length_append, cs_len]; omega)] at hE
  have eb : (decide ((0 : Int) ≤ ((tx p).length : Int)) && decide ((0 : Int) ≤ ((cs (tx p) ++ cs r0 ++ cs (tx m)).length : Int))) = true := by
    rw [decide_eq_true (by omega), decide_eq_true (by omega)]; rfl
  rw [eb] at hE
  exact hE
theorem e1_no {w : World} {r0 r1 : Str} {h0 h1 : Nat} {p m s : List Str} (w0 : Wd r0 h0) (w1 : Wd r1 h1) (ne : h0 ≠ h1) (o0 : ∀ x ∈ p ++ m ++ s, h0 ∉ cs x) (o1 : ∀ x ∈ p ++ m ++ s, h1 ∉ cs x)
    (hl : (tx (p ++ r1 :: (m ++ r0 :: s))).length ≤ 1000) :
    EllB w (Txt.join (Str.ofString "...") [Str.ofString "", r0, r1, Str.ofString ""]) (tx (p ++ r1 :: (m ++ r0 :: s))) false := by
  have l0 := w0.len
  have l1 := w1.len
  have hE := Ell_4 (w := w) (got := tx (p ++ r1 :: (m ++ r0 :: s))) w0.no46 w1.no46 w0.le200 w1.le200 hl
  obtain ⟨x, hx⟩ : ∃ x, x = tx (p ++ r1 :: (m ++ r0 :: s)) := ⟨_, rfl⟩
  rw [← hx] at hE ⊢
  have e1 : cs x = cs (tx p) ++ (cs r1 ++ cs (tx (m ++ r0 :: s))) := by rw [hx, cs_tx_app, cs_tx_cons]
  have e0 : cs x = (cs (tx p) ++ cs r1 ++ cs (tx m)) ++ (cs r0 ++ cs (tx s)) := by rw [e1, cs_tx_app, cs_tx_cons]; simp only [List.append_assoc]
  have f1 := fun lo => find_w w1 e1 (off_tx fun y hy => o1 y (by simp [hy])) (off_tx fun y hy => by
    simp only [List.mem_append, List.mem_cons] at hy
    rcases hy with hy | rfl | hy
    · exact o1 y (by simp [hy])
    · exact w0.off w1.hi ne.symm
    · exact o1 y (by simp [hy])) lo x.length
  have f0 := find_w w0 e0 (by
    intro hm
    rcases List.mem_append.mp hm with hm | hm
    · rcases List.mem_append.mp hm with hm | hm
      · exact off_tx (fun y hy => o0 y (by simp [hy])) hm
      · exact w1.off w0.hi ne hm
    · exact off_tx (fun y hy => o0 y (by simp [hy])) hm) (off_tx fun y hy => o0 y (by simp [hy])) 0 x.length
  have hlen := congrArg List.length e0
  simp only [List.length_append, cs_len] at hlen
  rw [if_pos ⟨Nat.zero_le _, by simp only [List.length_append, cs_len]; omega⟩] at f0
  rw [f0, f1, if_neg (by simp only [List.length_append, cs_len]; omega)] at hE
  have eb : (decide ((0 : Int) ≤ ((cs (tx p) ++ cs r1 ++ cs (tx m)).length : Int)) && decide ((0 : Int) ≤ -1)) = false := by
    rw [Bool.and_eq_false_iff]; exact .inr (decide_eq_false (by omega))
  rw [eb] at hE
  exact hE
end Mine
namespace Mine
set_option maxRecDepth 100000
open PySem PySem.W PySem.Calls PyProof.Rows PySem.Spec
local macro_rules | `(tactic| walk_at "pyIter ref") => `(tactic| refine Stop.of ?_)
local macro_rules | `(tactic| walk_at "call ref") => `(tactic| (
  (with_reducible rename Fr _ _ _ _ => F8)
  (with_reducible rename News _ _ _ _ => N8)
  refine ell_L (by assumption) (by assumption) (by assumption) (by exact F8) (by exact N8) (by with_reducible assumption) ?_
  intro _ _ _ _
  clear F8 N8
  (try dsimp only)))
section
variable {w : World} {dp un : Nat} {fr : Option (List Env)} {gd : Option (List Code)} {s : Shared} {mean : ExcName → Option Value} {mg mb : Str → Option Value}
    {Q : Flow → Shared → Prop} {E : Value → Shared → Prop} {h₀ : Heap} {L fa : Addr} {cd : Value}
set_option maxHeartbeats 4000000 in
theorem st20_turn {m : Str → Option Value} {news : List (Addr × Obj)} {want got : Str} {tw tg : Tok}
    (X : (Mine.hd.heap_39 w.params).In h₀) (T : Top Mine.hd.view_39 (looseW Mine.hd.view_39 []) mean mg mb h₀) (hd : dp + 9 < recursionLimit)
    (e1 : EllIs w want got true)
    (F : Fr h₀ L s.heap (fun y => if y = Str.ofString "got" then some (.str got tg) else if y = Str.ofString "want" then some (.str want tw) else m y)) (N : News h₀ L s.heap news)
    (h : ∀ h' tk, Fr h₀ L h' (fun y => if y = Str.ofString "got" then some (.str got tg) else if y = Str.ofString "want" then some (.str want tw) else m y) → News h₀ L h' news → Q .next { s with heap := h', toks := tk }) :
    wpAny (model Challenge.rw_wr0014_01.row.prog w) (Ard dp un fr gd) (execs (forBody (stmtAt (lawBody w.params) 20)) (envOfC (Str.ofString "law") (lawScope w.params) L fa cd)) Q E s := by
  revert X; k_fill; intro X
  w_on
  conv in forBody _ => whnf
  conv in lawScope _ => whnf
  repeat' (first | (k_unfold; (try dsimp only)) | walk1 | (dsimp only; walk1))
  exact h _ _ (by with_reducible assumption) (by with_reducible assumption)
abbrev pairO (a b : Value) : Obj := { cls := .type "tuple", data := Data.seq #[a, b] }
abbrev tupO (its : List Value) : Obj := { cls := .type "tuple", data := Data.seq its.toArray }
theorem st20_loop {R : Result → Shared → Prop} {E' : Value → Shared → Prop} {m : Str → Option Value} {news : List (Addr × Obj)} {Tp : Addr} {its : List Value} {x1 : Nat} {p1 p2 p3 : Pos}
    (X : (Mine.hd.heap_39 w.params).In h₀) (T : Top Mine.hd.view_39 (looseW Mine.hd.view_39 []) mean mg mb h₀) (hd : dp + 9 < recursionLimit) (hbare : AllBare s.gens)
    (hTm : (Tp, tupO its) ∈ news)
    (hits : ∀ (i : Nat) (x : Value), its[i]? = some x → ∃ (A : Addr) (want got : Str) (tw tg : Tok), x = Value.ref A ∧ (A, pairO (.str want tw) (.str got tg)) ∈ news ∧ EllB w want got true)
    (F : Fr h₀ L s.heap m) (N : News h₀ L s.heap news)
    (h : ∀ s' m', Fr h₀ L s'.heap m' → (∀ y ∈ [Str.ofString "letters", Str.ofString "row", Str.ofString "head", Str.ofString "tail", Str.ofString "text", Str.ofString "fourth"], m' y = m y) → News h₀ L s'.heap news → AllBare s'.gens → s'.os = s.os → R (.ok .next) s') :
    wpAny (model Challenge.rw_wr0014_01.row.prog w) (Ard dp un fr gd) (pyIter (.ref Tp)) (fun it s₂ => codeAny (model Challenge.rw_wr0014_01.row.prog w) (Ard dp un fr gd)
      (.forLoop (.Tuple [.Name (Str.ofString "want") p1, .Name (Str.ofString "got") p2] x1 p3) it (forBody (stmtAt (lawBody w.params) 20)) [] (envOfC (Str.ofString "law") (lawScope w.params) L fa cd)) R s₂) E' s := by
  have kW : (envOfC (Str.ofString "law") (lawScope w.params) L fa cd).kindOf (Str.ofString "want") = some .local := by
    conv in lawScope _ => whnf
    exact rfl
  have kG : (envOfC (Str.ofString "law") (lawScope w.params) L fa cd).kindOf (Str.ofString "got") = some .local := by
    conv in lawScope _ => whnf
    exact rfl
  have kP : ((envOfC (Str.ofString "law") (lawScope w.params) L fa cd).scope.kind == .class || ((envOfC (Str.ofString "law") (lawScope w.params) L fa cd).scope.kind == .module && (envOfC (Str.ofString "law") (lawScope w.params) L fa cd).locals != (envOfC (Str.ofString "law") (lawScope w.params) L fa cd).globals)) = false := by
    have e : (lawScope w.params).kind = .function := by
      conv in lawScope _ => whnf
    show ((lawScope w.params).kind == .class || ((lawScope w.params).kind == .module && _)) = false
    rw [e]; rfl
  have hl : s.heap.IsTuple Tp its.toArray := ⟨_, (N _ hTm).1, rfl, _, rfl⟩
  have hWlt : @LT.lt Nat _ Tp s.heap.objs.size := Heap.lt_size (N _ hTm).1
  refine wpAny_pyIter_tuple hl ?_
  have hsome : ∀ p ∈ news, @LT.lt Nat _ p.1 s.heap.objs.size := fun p hp => Heap.lt_size (N p hp).1
  have hL : @LT.lt Nat _ L s.heap.objs.size := F.ns.lt
  have hI : h₀.get? s.heap.objs.size = none := by
    cases hq : h₀.get? s.heap.objs.size with
    | none => rfl
    | some o => exact absurd (Heap.lt_size (F.keep _ _ hq)) (Nat.lt_irrefl _)
  have W := Walks.tuple (prog := Challenge.rw_wr0014_01.row.prog) (w := w) (A := Ard dp un fr gd) rfl s.heap.objs.size Tp (Nat.ne_of_lt hWlt) its.toArray
  refine fix_loop (fun _ m' => ∀ y ∈ [Str.ofString "letters", Str.ofString "row", Str.ofString "head", Str.ofString "tail", Str.ofString "text", Str.ofString "fourth"], m' y = m y) W (fun i h st => by obtain ⟨⟨o, ho, _⟩, _⟩ := st; exact ⟨o, ho⟩) hTm ?_ (fun e => by have hL' := hL; rw [show L = s.heap.objs.size from e] at hL'; exact Nat.lt_irrefl _ hL') hI (fun p hp e => by have := hsome p hp; rw [e] at this; exact Nat.lt_irrefl _ this) ?_ (F.push _) (fun p hp => ⟨Heap.get?_push_of_some _ (N p hp).1, (N p hp).2⟩) hbare (fun _ _ => rfl) ?_ ?_
  · exact fun _ s' v Q' E' st hq => letGo_tupleiter st.1 hq
  · exact ⟨⟨_, Heap.get?_push_size _ rfl, rfl, rfl⟩, hl.at fun o e => Heap.get?_push_of_some _ e⟩
  · intro i x m₁ s₁ o hi hx hm₁ hoff F₁ N₁ hg₁ hos₁
    obtain ⟨A, want, got, tw, tg, rfl, hA, e1⟩ := hits i x (by simpa using hx)
    have hA1 : s₁.heap.IsTuple A #[.str want tw, .str got tg] := ⟨_, (N₁ _ (List.mem_append_left _ hA)).1, rfl, _, rfl⟩
    refine wpAny_assign_Tuple rfl hA1 rfl rfl fun h₂ he₂ => ?_
    have k₂ : Keep s₁.heap h₂ := fun b o e => he₂ b o (Nat.ne_of_lt (Heap.lt_size e)) e
    have F₂ := Fr_ext F₁ k₂
    have N₂ := News_ext N₁ k₂
    show wpAny _ _ (assignInOrder [assign _ _, assign _ _] [.str want tw, .str got tg]) _ _ _
    refine assignInOrder_cons (wpAny_assign_Name (wpAny_storeName_local kW F₂.ns (fun h₃ hn₃ hs₃ => ?_) kP))
    have F₃ := F₂.set hn₃ hs₃
    have N₃ := N₂.set hs₃
    refine assignInOrder_cons (wpAny_assign_Name (wpAny_storeName_local kG F₃.ns (fun h₄ hn₄ hs₄ => ?_) kP))
    have F₄ := F₃.set hn₄ hs₄
    have N₄ := N₃.set hs₄
    refine assignInOrder_nil ?_
    refine st20_turn (m := m₁) X T hd e1.is F₄ N₄ ?_
    intro h' tk F₅ N₅
    refine ⟨_, F₅, N₅, fun y hy => ?_, hg₁, hos₁⟩
    rw [← hm₁ y hy]
    simp only [List.mem_cons, List.not_mem_nil, or_false] at hy
    rcases hy with rfl | rfl | rfl | rfl | rfl | rfl <;> rfl
  · intro m₁ s₁ hm₁ F₁ N₁ hg₁ hos₁
    exact h s₁ m₁ F₁ hm₁ N₁ hg₁ hos₁
set_option maxHeartbeats 4000000 in
theorem st20 {m : Str → Option Value} {Rw Lt : Addr} {oR oL : Obj} {text cut head tail fourth over : Str} {t1 t2 t3 t4 t5 t6 : Tok}
    (X : (Mine.hd.heap_39 w.params).In h₀) (T : Top Mine.hd.view_39 (looseW Mine.hd.view_39 []) mean mg mb h₀) (hd : dp + 9 < recursionLimit) (hbare : AllBare s.gens)
    (htx : m (Str.ofString "text") = some (.str text t1)) (hcut : m (Str.ofString "cut") = some (.str cut t2)) (hhd : m (Str.ofString "head") = some (.str head t3)) (htl : m (Str.ofString "tail") = some (.str tail t4))
    (hfo : m (Str.ofString "fourth") = some (.str fourth t5)) (hov : m (Str.ofString "over") = some (.str over t6)) (l1 : text.length ≤ 20) (l2 : head.length ≤ 20) (l3 : tail.length ≤ 20)
    (F : Fr h₀ L s.heap m) (N : News h₀ L s.heap [(Rw, oR), (Lt, oL)])
    (e1 : EllB w text text true) (e2 : EllB w cut text true) (e3 : EllB w cut (head ++ Str.ofString "\n" ++ tail) true) (e4 : EllB w fourth (head ++ Str.ofString "." ++ tail) true) (e5 : EllB w over (text ++ text) true) (e6 : EllB w (Str.ofString "...") (Str.ofString "") true)
    (h : ∀ s' m', Fr h₀ L s'.heap m' → (∀ y ∈ [Str.ofString "letters", Str.ofString "row", Str.ofString "head", Str.ofString "tail", Str.ofString "text", Str.ofString "fourth"], m' y = m y) → News h₀ L s'.heap [(Rw, oR), (Lt, oL)] → AllBare s'.gens → s'.os = s.os → Q .next s') :
    wpAny (model Challenge.rw_wr0014_01.row.prog w) (Ard dp un fr gd) (exec (stmtAt (lawBody w.params) 20) (envOfC (Str.ofString "law") (lawScope w.params) L fa cd)) Q E s := by
  revert X; k_fill; intro X
  w_on
  obtain ⟨body, hbody⟩ : ∃ b, forBody (stmtAt (lawBody w.params) 20) = b := ⟨_, rfl⟩
  conv in stmtAt _ _ => whnf
  have hb2 := hbody
  conv at hb2 => lhs; whnf
  rw [hb2]
  clear hb2
  conv in lawScope _ => whnf
  have hall := PLift.up (And.intro h (And.intro e1 (And.intro e2 (And.intro e3 (And.intro e4 (And.intro e5 e6))))))
  clear h e1 e2 e3 e4 e5 e6
  rw [map_known5 (m := m) htx hcut hhd htl hfo] at F
  rw [map_known4 (m := m) hov hov hov hov] at F
  refine wpAny_For ?_
  repeat' (first | (k_unfold; (try dsimp only)) | (walk1; (try dsimp only)) | (dsimp only; walk1))
  unfold Stop
  obtain ⟨⟨h, e1, e2, e3, e4, e5, e6⟩⟩ := hall
  with_reducible rename Fr _ _ _ _ => F9
  with_reducible rename News _ _ _ _ => N9
  rw [← hbody]
  refine st20_loop (its := [_, _, _, _, _, _]) X T hd hbare (List.mem_cons_self ..) ?_ F9 N9 ?_
  · intro i x hx
    rcases i with _ | _ | _ | _ | _ | _ | i
    · exact ⟨_, _, _, _, _, (Option.some.inj hx).symm, by news_mem, e1⟩
    · exact ⟨_, _, _, _, _, (Option.some.inj hx).symm, by news_mem, e2⟩
    · exact ⟨_, _, _, _, _, (Option.some.inj hx).symm, by news_mem, e3⟩
    · exact ⟨_, _, _, _, _, (Option.some.inj hx).symm, by news_mem, e4⟩
    · exact ⟨_, _, _, _, _, (Option.some.inj hx).symm, by news_mem, e5⟩
    · exact ⟨_, _, _, _, _, (Option.some.inj hx).symm, by news_mem, e6⟩
    · cases hx
  · intro s' m' F' hm' N' hg' ho'
    refine h s' m' F' (fun y hy => ?_) (fun p hp => N' p (by simp only [List.mem_cons] at hp ⊢; exact .inr (.inr (.inr (.inr (.inr (.inr (.inr hp)))))))) hg' ho'
    rw [hm' y hy]
    simp only [List.mem_cons, List.not_mem_nil, or_false] at hy
    rcases hy with rfl | rfl | rfl | rfl | rfl | rfl
    · rfl
    · rfl
    · exact hhd.symm
    · exact htl.symm
    · exact htx.symm
    · exact hfo.symm
end
end Mine
namespace Mine
set_option maxRecDepth 100000
open PySem PySem.W PySem.Calls PyProof.Rows PySem.Spec
theorem cs_q : cs (Str.ofString "\"") = [34] := by decide
theorem mk_ne_q {c : Nat} (h : c ≠ 34) : (⟨#[c]⟩ : Str) ≠ Str.ofString "\"" := fun e => by
  have h1 := congrArg cs e
  rw [cs_q] at h1
  have h2 : [c] = [34] := h1
  exact h (List.cons.inj h2).1
theorem bs_ne_q {c : Nat} : bs ++ (⟨#[c]⟩ : Str) ≠ Str.ofString "\"" := fun e => by
  have h1 := congrArg (fun x => (cs x).length) e
  simp only [cs_app, List.length_append, cs_q, List.length_cons, List.length_nil] at h1
  have h2 : (cs bs).length = 1 := by decide
  have h3 : (cs (⟨#[c]⟩ : Str)).length = 1 := rfl
  omega
theorem go_other {x : Str} {p : Int} {c : Str} {r : List (Int × Str)} {st : Int} {op : Option Int} {res : List Str} (h : c ≠ Str.ofString "\"") : stripGo x ((p, c) :: r) st op res = stripGo x r st op res := by
  cases op <;> simp only [stripGo, if_neg h]
/-- a word that the marks' search steps over -/
structure Clean (w : List Nat) : Prop where
  go : ∀ (x : Str) (p : Nat) (rest : List Nat) (st : Int) (op : Option Int) (res : List Str), stripGo x (escItems p false (w ++ rest)) st op res = stripGo x (escItems (p + w.length) false rest) st op res
  esc : ∀ rest, escEnd false (w ++ rest) = escEnd false rest
theorem Wd.clean {x : Str} {h : Nat} (wx : Wd x h) : Clean (cs x) := by
  obtain ⟨d, e, hd⟩ := wx.is
  have h20 := wx.hi
  have a : ∀ (y : Str) (p : Nat) (rest : List Nat) (st : Int) (op : Option Int) (res : List Str), stripGo y (escItems p false (h :: rest)) st op res = stripGo y (escItems (p + 1) false rest) st op res := by
    intro y p rest st op res
    rw [escItems, if_neg (by omega), go_other (mk_ne_q (by omega))]
  have b : ∀ (c : Nat) (y : Str) (p : Nat) (rest : List Nat) (st : Int) (op : Option Int) (res : List Str), stripGo y (escItems p false (92 :: c :: rest)) st op res = stripGo y (escItems (p + 1 + 1) false rest) st op res := by
    intro c y p rest st op res
    rw [escItems, if_pos rfl, escItems, go_other bs_ne_q]
  rw [e]
  rcases hd with rfl | rfl | rfl
  · exact ⟨fun y p rest st op res => a y p rest st op res, fun rest => by show escEnd false (h :: rest) = _; rw [escEnd, if_neg (by omega)]⟩
  · exact ⟨fun y p rest st op res => (a y p _ st op res).trans (b 34 y (p + 1) rest st op res), fun rest => by
      show escEnd false (h :: 92 :: 34 :: rest) = _
      rw [escEnd, if_neg (by omega), escEnd, if_pos rfl, escEnd]⟩
  · exact ⟨fun y p rest st op res => (a y p _ st op res).trans (b 92 y (p + 1) rest st op res), fun rest => by
      show escEnd false (h :: 92 :: 92 :: rest) = _
      rw [escEnd, if_neg (by omega), escEnd, if_pos rfl, escEnd]⟩
theorem Clean.nil : Clean [] := ⟨fun _ _ _ _ _ _ => rfl, fun _ => rfl⟩
theorem Clean.app {a b : List Nat} (ha : Clean a) (hb : Clean b) : Clean (a ++ b) := by
  refine ⟨fun x p rest st op res => ?_, fun rest => ?_⟩
  · rw [List.append_assoc, ha.go, hb.go, List.length_append, Nat.add_assoc]
  · rw [List.append_assoc, ha.esc, hb.esc]
noncomputable def flatS : List (List Nat × Bool) → List Nat
  | [] => []
  | (w, true) :: r => 34 :: (w ++ 34 :: flatS r)
  | (w, false) :: r => w ++ flatS r
noncomputable def unqS : List (List Nat × Bool) → List Nat
  | [] => []
  | (_, true) :: r => unqS r
  | (w, false) :: r => w ++ unqS r
theorem slice_pre {x : Str} {P Y : List Nat} {st : Nat} (e : cs x = P ++ Y) (h : st ≤ P.length) : cs (slc x (st : Int) (P.length : Int)) = P.drop st := by
  have hl := congrArg List.length e
  rw [cs_len, List.length_append] at hl
  have h1 : slc x (st : Int) (P.length : Int) = ⟨((x.cps.toList.drop st).take (P.length - st)).toArray⟩ := StrLaws.sliceText_nat x h (by omega)
  rw [h1]
  show ((cs x).drop st).take (P.length - st) = P.drop st
  rw [e, List.drop_append_of_le_length h, ← List.length_drop, List.take_left]
theorem slice_end {x : Str} {st : Nat} (h : st ≤ x.length) : cs (Txt.slice x (some (st : Int)) none) = (cs x).drop st := by
  have hl : (x.cps.toList.length : Int) = x.length := by rw [← cs_len]; rfl
  have h1 : Txt.slice x (some (st : Int)) none = ⟨((x.cps.toList.drop ((st : Int)).toNat).take ((x.cps.toList.length : Int) - (st : Int)).toNat).toArray⟩ := StrLaws.sliceText_from (x := x) (i := (st : Int)) ⟨by omega, by omega⟩
  rw [h1]
  show ((cs x).drop ((st : Int)).toNat).take ((x.cps.toList.length : Int) - (st : Int)).toNat = (cs x).drop st
  have e1 : ((st : Int)).toNat = st := by omega
  rw [e1, List.take_of_length_le]
  rw [List.length_drop, cs_len, hl]; omega
theorem go_q_open (x : Str) (p : Nat) (rest : List Nat) (st : Int) (res : List Str) : stripGo x (escItems p false (34 :: rest)) st none res = stripGo x (escItems (p + 1) false rest) st (some (p : Int)) res := by
  rw [escItems, if_neg (by decide), stripGo, if_pos (by decide)]
theorem go_q_close (x : Str) (p : Nat) (rest : List Nat) (st o : Int) (res : List Str) : stripGo x (escItems p false (34 :: rest)) st (some o) res = stripGo x (escItems (p + 1) false rest) ((p : Int) + 1) none (if st = o then res else res ++ [slc x st o]) := by
  rw [escItems, if_neg (by decide), stripGo, if_pos (by decide)]
theorem strip_run {x : Str} {R : List Nat} : ∀ (S : List (List Nat × Bool)) (P U : List Nat) (st : Nat) (res : List Str), cs x = P ++ (flatS S ++ R) → st ≤ P.length → (∀ g ∈ S, Clean g.1) → (res.map cs).flatten ++ P.drop st = U →
    ∃ (P' : List Nat) (st' : Nat) (res' : List Str), stripGo x (escItems P.length false (flatS S ++ R)) (st : Int) none res = stripGo x (escItems P'.length false R) (st' : Int) none res' ∧ cs x = P' ++ R ∧ st' ≤ P'.length ∧ (res'.map cs).flatten ++ P'.drop st' = U ++ unqS S
  | [], P, U, st, res, e, h, _, hU => ⟨P, st, res, rfl, e, h, by rw [hU]; exact (List.append_nil _).symm⟩
  | (w, false) :: r, P, U, st, res, e, h, hc, hU => by
    have e1 : cs x = (P ++ w) ++ (flatS r ++ R) := by rw [e]; simp only [flatS, List.append_assoc]
    obtain ⟨P', st', res', g1, g2, g3, g4⟩ := strip_run r (P ++ w) (U ++ w) st res e1 (by rw [List.length_append]; omega) (fun g hg => hc g (List.mem_cons_of_mem _ hg)) (by rw [← hU, List.drop_append_of_le_length h, List.append_assoc])
    refine ⟨P', st', res', ?_, g2, g3, ?_⟩
    · rw [← g1]
      show stripGo x (escItems P.length false (w ++ flatS r ++ R)) _ _ _ = _
      rw [List.append_assoc, (hc (w, false) (List.mem_cons_self ..)).go, List.length_append]
    · rw [g4, List.append_assoc]; rfl
  | (w, true) :: r, P, U, st, res, e, h, hc, hU => by
    have e1 : cs x = (P ++ 34 :: (w ++ [34])) ++ (flatS r ++ R) := by rw [e]; simp only [flatS, List.append_assoc, List.cons_append, List.nil_append]
    have hlen : (P ++ 34 :: (w ++ [34])).length = P.length + 1 + w.length + 1 := by
      simp only [List.length_append, List.length_cons, List.length_nil]; omega
    have hsl := slice_pre e h
    obtain ⟨P', st', res', g1, g2, g3, g4⟩ := strip_run r (P ++ 34 :: (w ++ [34])) U (P ++ 34 :: (w ++ [34])).length (if (st : Int) = (P.length : Int) then res else res ++ [slc x (st : Int) (P.length : Int)]) e1 (Nat.le_refl _) (fun g hg => hc g (List.mem_cons_of_mem _ hg)) (by
      rw [List.drop_length, List.append_nil, ← hU]
      by_cases hs : (st : Int) = (P.length : Int)
      · have hs' : st = P.length := by omega
        rw [if_pos hs, hs', List.drop_length, List.append_nil]
      · rw [if_neg hs, List.map_append, List.flatten_append]
        show _ ++ (cs (slc x (st : Int) (P.length : Int)) ++ []) = _
        rw [hsl, List.append_nil])
    refine ⟨P', st', res', ?_, g2, g3, g4⟩
    rw [← g1]
    show stripGo x (escItems P.length false (34 :: (w ++ 34 :: flatS r ++ R))) _ _ _ = _
    rw [go_q_open]
    have e2 : w ++ 34 :: flatS r ++ R = w ++ (34 :: (flatS r ++ R)) := by simp only [List.append_assoc, List.cons_append]
    rw [e2, (hc (w, true) (List.mem_cons_self ..)).go, go_q_close, hlen]
    congr 1
    
theorem esc_run {R : List Nat} : ∀ (S : List (List Nat × Bool)), (∀ g ∈ S, Clean g.1) → escEnd false (flatS S ++ R) = escEnd false R
  | [], _ => rfl
  | (w, false) :: r, hc => by
    show escEnd false (w ++ flatS r ++ R) = _
    rw [List.append_assoc, (hc (w, false) (List.mem_cons_self ..)).esc, esc_run r fun g hg => hc g (List.mem_cons_of_mem _ hg)]
  | (w, true) :: r, hc => by
    have e2 : flatS ((w, true) :: r) ++ R = 34 :: (w ++ (34 :: (flatS r ++ R))) := by simp only [flatS, List.append_assoc, List.cons_append]
    rw [e2, escEnd, if_neg (by decide), (hc (w, true) (List.mem_cons_self ..)).esc, escEnd, if_neg (by decide), esc_run r fun g hg => hc g (List.mem_cons_of_mem _ hg)]
theorem cs_join_e (l : List Str) : cs (Txt.join Str.empty l) = (l.map cs).flatten := cs_join0 l
theorem strip_segs {x : Str} {R : List Nat} {S : List (List Nat × Bool)} (e : cs x = flatS S ++ R) (hR : R = [] ∨ R = [34]) (hc : ∀ g ∈ S, Clean g.1) : cs (stripOf x) = unqS S ++ R := by
  obtain ⟨P', st', res', g1, g2, g3, g4⟩ := strip_run (x := x) (R := R) S [] [] 0 [] e (Nat.le_refl _) hc rfl
  have hlen := congrArg List.length g2
  rw [cs_len, List.length_append] at hlen
  have hgo : stripGo x (escItems 0 false x.cps.toList) 0 none [] = ((st' : Int), res') := by
    show stripGo x (escItems 0 false (cs x)) ((0 : Nat) : Int) none [] = _
    rw [e]
    refine g1.trans ?_
    rcases hR with rfl | rfl
    · rfl
    · rw [go_q_open]; rfl
  unfold stripOf
  rw [hgo]
  show cs (Txt.join Str.empty (if (st' : Int) < (x.length : Int) then res' ++ [Txt.slice x (some (st' : Int)) none] else res')) = _
  have hst : st' ≤ x.length := by omega
  rw [cs_join_e]
  have g5 : (res'.map cs).flatten ++ (cs x).drop st' = unqS S ++ R := by
    rw [g2, List.drop_append_of_le_length g3, ← List.append_assoc, g4]; rfl
  by_cases hlt : (st' : Int) < (x.length : Int)
  · rw [if_pos hlt, List.map_append, List.flatten_append]
    show _ ++ (cs (Txt.slice x (some (st' : Int)) none) ++ []) = _
    rw [slice_end hst, List.append_nil, g5]
  · rw [if_neg hlt]
    rw [List.drop_of_length_le (by rw [cs_len]; omega), List.append_nil] at g5
    exact g5
structure StripB (w : World) (x y : Str) : Prop where
  is : StripIs w x y
theorem Strip_segs {w : World} {x y : Str} {R : List Nat} {S : List (List Nat × Bool)} (e : cs x = flatS S ++ R) (hR : R = [] ∨ R = [34]) (hc : ∀ g ∈ S, Clean g.1) (hq : 34 ∈ cs x) (hx : x.length ≤ 1000) (hy : cs y = unqS S ++ R) : StripB w x y := by
  have h1 : stripOf x = y := cs_inj ((strip_segs e hR hc).trans hy.symm)
  have hf : (Builtin.Str.occurrences x (Str.ofString "\"") 0 x.length 1).isEmpty = false := by
    have h2 := StrLaws.found_one x 34
    rw [show (⟨#[34]⟩ : Str) = Str.ofString "\"" from by decide, decide_eq_true (show 34 ∈ x.cps.toList from hq), Bool.not_eq_true'] at h2
    exact h2
  have he : escEnd false x.cps.toList = false := by
    show escEnd false (cs x) = false
    rw [e, esc_run S hc]
    rcases hR with rfl | rfl <;> rfl
  rw [← h1]
  exact ⟨StripIs.yes hf hx he⟩
theorem Strip_no {w : World} {x : Str} (h : 34 ∉ cs x) : StripB w x x := by
  refine ⟨StripIs.no ?_⟩
  have h2 := StrLaws.found_one x 34
  rw [show (⟨#[34]⟩ : Str) = Str.ofString "\"" from by decide, decide_eq_false (show ¬ 34 ∈ x.cps.toList from h), Bool.not_eq_false'] at h2
  exact h2
end Mine
namespace Mine
set_option maxRecDepth 100000
open PySem PySem.W PySem.Calls PyProof.Rows PySem.Spec
/-- five letters with five signs -/
structure Row5 (r0 r1 r2 r3 r4 : Str) (h0 h1 h2 h3 h4 : Nat) : Prop where
  w0 : Wd r0 h0
  w1 : Wd r1 h1
  w2 : Wd r2 h2
  w3 : Wd r3 h3
  w4 : Wd r4 h4
  nd : [h0, h1, h2, h3, h4].Nodup
theorem mix_shape (r0 r1 r2 r3 r4 : Str) (a b : Nat) (ha : a < 4) (hb : b < 5) :
    (a < b ∧ ∃ p m s, mixS r0 r1 r2 r3 r4 a b = p ++ r0 :: (m ++ r1 :: s) ∧ p ++ m ++ s = [r2, r3, r4]) ∨ (b ≤ a ∧ ∃ p m s, mixS r0 r1 r2 r3 r4 a b = p ++ r1 :: (m ++ r0 :: s) ∧ p ++ m ++ s = [r2, r3, r4]) := by
  have ha' := nat_lt4 a ha
  have hb' := nat_lt5 b hb
  rcases ha' with rfl | rfl | rfl | rfl <;> rcases hb' with rfl | rfl | rfl | rfl | rfl
  · exact .inr ⟨by decide, [], [], [r2, r3, r4], rfl, rfl⟩
  · exact .inl ⟨by decide, [], [], [r2, r3, r4], rfl, rfl⟩
  · exact .inl ⟨by decide, [], [r2], [r3, r4], rfl, rfl⟩
  · exact .inl ⟨by decide, [], [r2, r3], [r4], rfl, rfl⟩
  · exact .inl ⟨by decide, [], [r2, r3, r4], [], rfl, rfl⟩
  · exact .inr ⟨by decide, [], [r2], [r3, r4], rfl, rfl⟩
  · exact .inr ⟨by decide, [r2], [], [r3, r4], rfl, rfl⟩
  · exact .inl ⟨by decide, [r2], [], [r3, r4], rfl, rfl⟩
  · exact .inl ⟨by decide, [r2], [r3], [r4], rfl, rfl⟩
  · exact .inl ⟨by decide, [r2], [r3, r4], [], rfl, rfl⟩
  · exact .inr ⟨by decide, [], [r2, r3], [r4], rfl, rfl⟩
  · exact .inr ⟨by decide, [r2], [r3], [r4], rfl, rfl⟩
  · exact .inr ⟨by decide, [r2, r3], [], [r4], rfl, rfl⟩
  · exact .inl ⟨by decide, [r2, r3], [], [r4], rfl, rfl⟩
  · exact .inl ⟨by decide, [r2, r3], [r4], [], rfl, rfl⟩
  · exact .inr ⟨by decide, [], [r2, r3, r4], [], rfl, rfl⟩
  · exact .inr ⟨by decide, [r2], [r3, r4], [], rfl, rfl⟩
  · exact .inr ⟨by decide, [r2, r3], [r4], [], rfl, rfl⟩
  · exact .inr ⟨by decide, [r2, r3, r4], [], [], rfl, rfl⟩
  · exact .inl ⟨by decide, [r2, r3, r4], [], [], rfl, rfl⟩
theorem starts_y {y r text : Str} {k h : Nat} {B : List Nat} (wy : Wd y k) (wr : Wd r h) (e : cs text = cs y ++ B) (ne : k ≠ h) : Txt.startswith text r = false := by
  cases hs : Txt.startswith text r with
  | false => rfl
  | true =>
    exfalso
    obtain ⟨B', e'⟩ := starts_iff.mp hs
    obtain ⟨d, e1, _⟩ := wy.is
    obtain ⟨d', e2, _⟩ := wr.is
    rw [e, e1, e2] at e'
    exact ne (List.cons.inj e').1
theorem ends_z {z r text : Str} {k h : Nat} {A : List Nat} (wz : Wd z k) (wr : Wd r h) (e : cs text = A ++ cs z) (ne : k ≠ h) : Txt.endswith text r = false := by
  cases hs : Txt.endswith text r with
  | false => rfl
  | true =>
    exfalso
    obtain ⟨A', e'⟩ := ends_iff.mp hs
    obtain ⟨d, e1, hd⟩ := wz.is
    obtain ⟨d', e2, hd'⟩ := wr.is
    have hk := wz.hi
    have hh := wr.hi
    rw [e, e1, e2] at e'
    have g1 : (A ++ k :: d)[A.length]? = some k := by rw [List.getElem?_append_right (Nat.le_refl _), Nat.sub_self]; rfl
    have g2 : (A' ++ h :: d')[A'.length]? = some h := by rw [List.getElem?_append_right (Nat.le_refl _), Nat.sub_self]; rfl
    rcases Nat.lt_trichotomy A.length A'.length with hl | hl | hl
    · rw [← e'] at g2
      rcases hd.low _ (mem_after hl g2) with h1 | h1 <;> rw [h1] at hh <;> exact absurd hh (by decide)
    · rw [e', hl, g2] at g1
      exact ne (Option.some.inj g1).symm
    · rw [e'] at g1
      rcases hd'.low _ (mem_after hl g1) with h1 | h1 <;> rw [h1] at hk <;> exact absurd hk (by decide)
noncomputable def segOf (r0 r1 x : Str) : List Nat × Bool := (cs x, !([r0, r1].any (· == x)))
theorem cs_shown (r0 r1 : Str) : ∀ ms : List Str, cs (tx (ms.map (showI r0 r1))) = flatS (ms.map (segOf r0 r1))
  | [] => rfl
  | x :: ms => by
    rw [List.map_cons, cs_tx_cons, cs_shown r0 r1 ms, List.map_cons]
    unfold showI segOf
    cases hc : [r0, r1].any (· == x)
    · rw [if_neg (by decide), cs_app, cs_app, cs_q]
      simp only [Bool.not_false, flatS, List.append_assoc, List.cons_append, List.nil_append]
    · rw [if_pos rfl]; rfl
theorem unq_app : ∀ (a b : List (List Nat × Bool)), unqS (a ++ b) = unqS a ++ unqS b
  | [], _ => rfl
  | (w, true) :: a, b => by show unqS (a ++ b) = _; rw [unq_app a b]; rfl
  | (w, false) :: a, b => by show w ++ unqS (a ++ b) = _; rw [unq_app a b]; exact (List.append_assoc ..).symm
theorem unq_none (r0 r1 : Str) : ∀ p : List Str, (∀ x ∈ p, x ≠ r0 ∧ x ≠ r1) → unqS (p.map (segOf r0 r1)) = []
  | [], _ => rfl
  | x :: p, h => by
    have hx := h x (List.mem_cons_self ..)
    have e : [r0, r1].any (· == x) = false := by
      simp only [List.any_cons, List.any_nil, Bool.or_false, Bool.or_eq_false_iff, beq_eq_false_iff_ne]
      exact ⟨hx.1.symm, hx.2.symm⟩
    rw [List.map_cons]
    unfold segOf
    rw [e]
    exact unq_none r0 r1 p fun y hy => h y (List.mem_cons_of_mem _ hy)
theorem flat_mark : ∀ {S : List (List Nat × Bool)}, (∃ w, (w, true) ∈ S) → 34 ∈ flatS S
  | (w, true) :: r, _ => List.mem_cons_self ..
  | (w, false) :: r, ⟨v, hv⟩ => by
    rcases List.mem_cons.mp hv with h | h
    · cases h
    · exact List.mem_append_right _ (flat_mark ⟨v, h⟩)
theorem tx_len_le {l : List Str} {n : Nat} (h : ∀ x ∈ l, x.length ≤ n) : (tx l).length ≤ n * l.length := by
  rw [← cs_len, cs_join0, List.length_flatten, List.map_map]
  have e : (l.map (List.length ∘ cs)) = l.map (·.length) := List.map_congr_left fun x _ => cs_len x
  rw [e]
  exact sum_len_le n l h
theorem falls5 (a b c d e : Str) : (fallsOf [a, b, c, d, e]).length ≤ 4 ∧ 0 ≤ (fallsOf [a, b, c, d, e]).sum ∧ (fallsOf [a, b, c, d, e]).sum ≤ 20 := by
  unfold fallsOf
  rw [show rangeKs 1 (((([a, b, c, d, e] : List Str).length : Nat) : Int) - 1).toNat = [1, 2, 3, 4] from rfl]
  simp only [List.foldl_cons, List.foldl_nil]
  repeat' split
  all_goals decide
theorem idx_shape1 {p m s : List Str} {x y : Str} (hx : x ∉ p) (hy : y ∉ p) (ne : x ≠ y) : (p ++ x :: (m ++ y :: s)).idxOf x < (p ++ x :: (m ++ y :: s)).idxOf y := by
  rw [List.idxOf_append, if_neg hx, List.idxOf_append, if_neg hy, List.idxOf_cons_self, List.idxOf_cons, show (x == y) = false from by simpa using ne]
  show 0 + p.length < _ + 1 + p.length
  omega
section
variable {w : World} {r0 r1 r2 r3 r4 : Str} {h0 h1 h2 h3 h4 : Nat}
theorem Row5.nes (R : Row5 r0 r1 r2 r3 r4 h0 h1 h2 h3 h4) : (h0 ≠ h1 ∧ h0 ≠ h2 ∧ h0 ≠ h3 ∧ h0 ≠ h4) ∧ (h1 ≠ h2 ∧ h1 ≠ h3 ∧ h1 ≠ h4) ∧ (h2 ≠ h3 ∧ h2 ≠ h4) ∧ h3 ≠ h4 := by
  have := R.nd
  simp only [List.nodup_cons, List.mem_cons, List.not_mem_nil, or_false, not_or, List.nodup_nil, and_true, not_false_eq_true] at this
  exact this
theorem Row5.off3 (R : Row5 r0 r1 r2 r3 r4 h0 h1 h2 h3 h4) : (∀ x ∈ [r2, r3, r4], h0 ∉ cs x) ∧ (∀ x ∈ [r2, r3, r4], h1 ∉ cs x) ∧ (∀ x ∈ [r2, r3, r4], x ≠ r0 ∧ x ≠ r1) ∧ (∀ x ∈ [r2, r3, r4], ∃ k, Wd x k ∧ k ≠ h0 ∧ k ≠ h1) := by
  obtain ⟨⟨a1, a2, a3, a4⟩, ⟨b2, b3, b4⟩, ⟨c3, c4⟩, d4⟩ := R.nes
  refine ⟨?_, ?_, ?_, ?_⟩
  · intro x hx
    simp only [List.mem_cons, List.not_mem_nil, or_false] at hx
    rcases hx with rfl | rfl | rfl
    · exact R.w2.off R.w0.hi a2
    · exact R.w3.off R.w0.hi a3
    · exact R.w4.off R.w0.hi a4
  · intro x hx
    simp only [List.mem_cons, List.not_mem_nil, or_false] at hx
    rcases hx with rfl | rfl | rfl
    · exact R.w2.off R.w1.hi b2
    · exact R.w3.off R.w1.hi b3
    · exact R.w4.off R.w1.hi b4
  · intro x hx
    simp only [List.mem_cons, List.not_mem_nil, or_false] at hx
    rcases hx with rfl | rfl | rfl
    · exact ⟨R.w2.ne R.w0 a2.symm, R.w2.ne R.w1 b2.symm⟩
    · exact ⟨R.w3.ne R.w0 a3.symm, R.w3.ne R.w1 b3.symm⟩
    · exact ⟨R.w4.ne R.w0 a4.symm, R.w4.ne R.w1 b4.symm⟩
  · intro x hx
    simp only [List.mem_cons, List.not_mem_nil, or_false] at hx
    rcases hx with rfl | rfl | rfl
    · exact ⟨_, R.w2, a2.symm, b2.symm⟩
    · exact ⟨_, R.w3, a3.symm, b3.symm⟩
    · exact ⟨_, R.w4, a4.symm, b4.symm⟩
/-- what is known of any letter of the row -/
theorem Row5.any (R : Row5 r0 r1 r2 r3 r4 h0 h1 h2 h3 h4) {x : Str} (hx : x = r0 ∨ x = r1 ∨ x ∈ [r2, r3, r4]) : ∃ k, Wd x k ∧ (x = r0 ∨ k ≠ h0) ∧ (x = r1 ∨ k ≠ h1) := by
  have hn := R.nes.1.1
  rcases hx with rfl | rfl | hx
  · exact ⟨_, R.w0, .inl rfl, .inr hn⟩
  · exact ⟨_, R.w1, .inr hn.symm, .inl rfl⟩
  · obtain ⟨k, a, b, c⟩ := R.off3.2.2.2 x hx
    exact ⟨k, a, .inr b, .inr c⟩
theorem Row5.e2 (R : Row5 r0 r1 r2 r3 r4 h0 h1 h2 h3 h4) {m0 m1 m2 m3 m4 : Str} (hm0 : m0 = r0 ∨ m0 = r1 ∨ m0 ∈ [r2, r3, r4]) (hm4 : m4 = r0 ∨ m4 = r1 ∨ m4 ∈ [r2, r3, r4]) (hl : (tx [m0, m1, m2, m3, m4]).length ≤ 1000) :
    EllB w (Txt.join (Str.ofString "...") [r0, r1]) (tx [m0, m1, m2, m3, m4]) (m0 == r0 && m4 == r1) := by
  have l0 := R.w0.len
  have l1 := R.w1.len
  have hE := Ell_2 (w := w) (got := tx [m0, m1, m2, m3, m4]) R.w0.no46 (NoD.of R.w1.no46) l0.1 l1.1 R.w0.le200 R.w1.le200 hl
  obtain ⟨k0, v0, n0, _⟩ := R.any hm0
  obtain ⟨k4, v4, _, n4⟩ := R.any hm4
  have e0 : cs (tx [m0, m1, m2, m3, m4]) = cs m0 ++ cs (tx [m1, m2, m3, m4]) := cs_tx_cons _ _
  have e4 : cs (tx [m0, m1, m2, m3, m4]) = cs (tx [m0, m1, m2, m3]) ++ cs m4 := by
    have := cs_tx_app [m0, m1, m2, m3] [m4]
    rw [show ([m0, m1, m2, m3] ++ [m4] : List Str) = [m0, m1, m2, m3, m4] from rfl] at this
    rw [this, cs_tx_cons m4 []]
    congr 1
    exact List.append_nil _
  by_cases c0 : m0 = r0
  · by_cases c4 : m4 = r1
    · subst c0 c4
      have s1 : Txt.startswith (tx [m0, m1, m2, m3, m4]) m0 = true := starts_iff.mpr ⟨_, e0⟩
      have s2 : Txt.endswith (tx [m0, m1, m2, m3, m4]) m4 = true := ends_iff.mpr ⟨_, e4⟩
      have s3 : m0.length + m4.length ≤ (tx [m0, m1, m2, m3, m4]).length := by
        have hq := congrArg List.length e4
        have hq2 := congrArg List.length (cs_tx_cons m0 [m1, m2, m3])
        simp only [List.length_append, cs_len] at hq hq2
        omega
      rw [s1, s2, decide_eq_true s3] at hE
      rw [beq_self_eq_true, beq_self_eq_true]
      exact hE
    · rw [ends_z v4 R.w1 e4 (n4.resolve_left c4), Bool.and_false, Bool.false_and] at hE
      rw [show (m4 == r1) = false from by simpa using c4, Bool.and_false]
      exact hE
  · rw [starts_y v0 R.w0 e0 (n0.resolve_left c0), Bool.false_and, Bool.false_and] at hE
    rw [show (m0 == r0) = false from by simpa using c0, Bool.false_and]
    exact hE
theorem five_of {l : List Str} (h : l.length = 5) : ∃ a b c d e, l = [a, b, c, d, e] := by
  match l, h with
  | [a, b, c, d, e], _ => exact ⟨a, b, c, d, e, rfl⟩
theorem Row5.turn (R : Row5 r0 r1 r2 r3 r4 h0 h1 h2 h3 h4) (a b : Nat) (ha : a < 4) (hb : b < 5) : TurnFacts w r0 r1 (mixS r0 r1 r2 r3 r4 a b) (decide (a < b)) := by
  obtain ⟨o0, o1, on, ow⟩ := R.off3
  have hn := R.nes.1.1
  have hne := R.w0.ne R.w1 hn
  have hall : ∀ x ∈ mixS r0 r1 r2 r3 r4 a b, x = r0 ∨ x = r1 ∨ x ∈ [r2, r3, r4] := by
    rcases mix_shape r0 r1 r2 r3 r4 a b ha hb with ⟨_, p, m, s, e, h⟩ | ⟨_, p, m, s, e, h⟩ <;>
    · intro x hx
      rw [e] at hx
      rw [← h]
      simp only [List.mem_append, List.mem_cons] at hx ⊢
      rcases hx with hx | hx | hx | hx | hx
      · exact .inr (.inr (.inl (.inl hx)))
      · first | exact .inl hx | exact .inr (.inl hx)
      · exact .inr (.inr (.inl (.inr hx)))
      · first | exact .inl hx | exact .inr (.inl hx)
      · exact .inr (.inr (.inr hx))
  have hlen : (mixS r0 r1 r2 r3 r4 a b).length = 5 := by
    unfold mixS
    rw [insS_len]
    simp only [List.length_append, List.length_take, List.length_drop, List.length_cons, List.length_nil]
    omega
  have hl3 : ∀ x ∈ mixS r0 r1 r2 r3 r4 a b, x.length ≤ 3 := fun x hx => by
    obtain ⟨k, v, _⟩ := R.any (hall x hx)
    exact v.len.2
  have htl : (tx (mixS r0 r1 r2 r3 r4 a b)).length ≤ 1000 := by
    have := tx_len_le hl3
    rw [hlen] at this
    omega
  have hf : (fallsOf (mixS r0 r1 r2 r3 r4 a b)).length ≤ 4 ∧ 0 ≤ (fallsOf (mixS r0 r1 r2 r3 r4 a b)).sum ∧ (fallsOf (mixS r0 r1 r2 r3 r4 a b)).sum ≤ 20 := by
    obtain ⟨m0, m1, m2, m3, m4, e⟩ := five_of hlen
    rw [e]
    exact falls5 ..
  have he2 : ∃ b2, EllIs w (Txt.join (Str.ofString "...") [r0, r1]) (Txt.join (Str.ofString "") (mixS r0 r1 r2 r3 r4 a b)) b2 ∧ b2 = ((mixS r0 r1 r2 r3 r4 a b).getD 0 Str.empty == r0 && (mixS r0 r1 r2 r3 r4 a b).getD 4 Str.empty == r1) := by
    obtain ⟨m0, m1, m2, m3, m4, e⟩ := five_of hlen
    rw [e] at hall htl ⊢
    exact ⟨_, (R.e2 (hall m0 (by simp)) (hall m4 (by simp)) htl).is, rfl⟩
  rcases mix_shape r0 r1 r2 r3 r4 a b ha hb with ⟨hab, p, m, s, e, h⟩ | ⟨hab, p, m, s, e, h⟩
  · have hp : ∀ x ∈ p, x ≠ r0 ∧ x ≠ r1 := fun x hx => on x (by rw [← h]; simp [hx])
    have hm : ∀ x ∈ m, x ≠ r0 ∧ x ≠ r1 := fun x hx => on x (by rw [← h]; simp [hx])
    have hs : ∀ x ∈ s, x ≠ r0 ∧ x ≠ r1 := fun x hx => on x (by rw [← h]; simp [hx])
    rw [← h] at o0 o1
    have h1 := fun hl => e1_yes (w := w) (p := p) (m := m) (s := s) R.w0 R.w1 hn o0 o1 hl
    rw [← e] at h1
    rw [decide_eq_true hab]
    refine ⟨(h1 htl).is, he2, by rw [e]; simp, by rw [e]; simp, ?_, fun _ => ?_, R.w0.len.2, R.w1.len.2, hl3, hf.1, hf.2.1, hf.2.2⟩
    · have h5 := idx_shape1 (m := m) (s := s) (fun q => (hp _ q).1 rfl) (fun q => (hp _ q).2 rfl) hne
      rw [← e] at h5
      exact (decide_eq_true (by omega)).symm
    · have a0 : [r0, r1].any (· == r0) = true := by simp
      have a1 : [r0, r1].any (· == r1) = true := by simp
      suffices hS : StripB w (tx ((mixS r0 r1 r2 r3 r4 a b).map (showI r0 r1))) (tx [r0, r1]) from @StripB.is _ _ _ hS
      refine Strip_segs (w := w) (R := []) (S := (mixS r0 r1 r2 r3 r4 a b).map (segOf r0 r1)) ((cs_shown r0 r1 _).trans (List.append_nil _).symm) (.inl rfl) ?_ ?_ ?_ ?_
      · intro g hg
        obtain ⟨x, hx, rfl⟩ := List.mem_map.mp hg
        obtain ⟨k, v, _⟩ := R.any (hall x hx)
        exact v.clean
      · rw [cs_shown]
        have hx2 : r2 ∈ p ++ m ++ s := by rw [h]; simp
        have hx3 : r2 ∈ mixS r0 r1 r2 r3 r4 a b := by
          rw [e]
          simp only [List.mem_append, List.mem_cons] at hx2 ⊢
          rcases hx2 with (hx | hx) | hx
          · exact .inl hx
          · exact .inr (.inr (.inl hx))
          · exact .inr (.inr (.inr (.inr hx)))
        have hr2 := on r2 (by simp)
        refine flat_mark ⟨cs r2, List.mem_map.mpr ⟨r2, hx3, ?_⟩⟩
        unfold segOf
        rw [show [r0, r1].any (· == r2) = false from by simp [hr2.1.symm, hr2.2.symm]]
        rfl
      · have := tx_len_le (l := (mixS r0 r1 r2 r3 r4 a b).map (showI r0 r1)) (n := 5) (fun y hy => by
          obtain ⟨x, hx, rfl⟩ := List.mem_map.mp hy
          exact showI_len (hl3 x hx))
        rw [List.length_map, hlen] at this
        omega
      · rw [e]
        rw [List.map_append, List.map_cons, List.map_append, List.map_cons, unq_app, unq_none r0 r1 p hp, List.nil_append]
        rw [show segOf r0 r1 r0 = (cs r0, false) from by unfold segOf; rw [a0]; rfl, show segOf r0 r1 r1 = (cs r1, false) from by unfold segOf; rw [a1]; rfl]
        show cs (tx [r0, r1]) = cs r0 ++ unqS (m.map (segOf r0 r1) ++ (cs r1, false) :: s.map (segOf r0 r1)) ++ []
        rw [unq_app, unq_none r0 r1 m hm, List.nil_append, List.append_nil]
        show _ = cs r0 ++ (cs r1 ++ unqS (s.map (segOf r0 r1)))
        rw [unq_none r0 r1 s hs, cs_tx_cons, cs_tx_cons]
        rfl
  · have hp : ∀ x ∈ p, x ≠ r0 ∧ x ≠ r1 := fun x hx => on x (by rw [← h]; simp [hx])
    have hm : ∀ x ∈ m, x ≠ r0 ∧ x ≠ r1 := fun x hx => on x (by rw [← h]; simp [hx])
    rw [← h] at o0 o1
    have h1 := fun hl => e1_no (w := w) (p := p) (m := m) (s := s) R.w0 R.w1 hn o0 o1 hl
    rw [← e] at h1
    rw [decide_eq_false (show ¬ a < b by omega)]
    refine ⟨(h1 htl).is, he2, by rw [e]; simp, by rw [e]; simp, ?_, (fun hh => by cases hh), R.w0.len.2, R.w1.len.2, hl3, hf.1, hf.2.1, hf.2.2⟩
    have h5 := idx_shape1 (m := m) (s := s) (fun q => (hp _ q).2 rfl) (fun q => (hp _ q).1 rfl) hne.symm
    rw [← e] at h5
    exact (decide_eq_false (by omega)).symm
end
end Mine
namespace Mine
set_option maxRecDepth 100000
open PySem PySem.W PySem.Calls PyProof.Rows PySem.Spec
theorem ell2_yes {w : World} {p q got : Str} {M : List Nat} (hp : 46 ∉ cs p) (hq : NoD (cs q)) (lp : 0 < p.length) (lq : 0 < q.length) (lp' : p.length ≤ 200) (lq' : q.length ≤ 200) (lg : got.length ≤ 1000)
    (e : cs got = cs p ++ (M ++ cs q)) : EllB w (Txt.join (Str.ofString "...") [p, q]) got true := by
  have hE := Ell_2 (w := w) (got := got) hp hq lp lq lp' lq' lg
  have hl := congrArg List.length e
  simp only [List.length_append, cs_len] at hl
  rw [starts_iff.mpr ⟨_, e⟩, ends_iff.mpr ⟨cs p ++ M, by rw [e, List.append_assoc]⟩, decide_eq_true (by omega)] at hE
  exact hE
theorem cut_is (p q : Str) : p ++ Str.ofString "..." ++ q = Txt.join (Str.ofString "...") [p, q] := by
  apply cs_inj
  rw [cs_jdots, cs_app, cs_app, cs_dots]
  rfl
theorem fourth_is (p q : Str) : p ++ Str.ofString "...." ++ q = Txt.join (Str.ofString "...") [p, Str.ofString "." ++ q] := by
  apply cs_inj
  rw [cs_jdots, cs_app, cs_app, show cs (Str.ofString "....") = [46, 46, 46, 46] from by decide]
  show _ = cs p ++ [46, 46, 46] ++ cs (Str.ofString "." ++ q)
  rw [cs_app, show cs (Str.ofString ".") = [46] from by decide]
  simp only [List.append_assoc, List.cons_append, List.nil_append]
theorem join1 (sep p : Str) : Txt.join sep [p] = p := by
  apply cs_inj
  show (p.cps ++ #[]).toList = _ <;> simp [cs]
section
variable {w : World} {r0 r1 r2 r3 r4 : Str} {h0 h1 h2 h3 h4 : Nat}
theorem Row5.all (R : Row5 r0 r1 r2 r3 r4 h0 h1 h2 h3 h4) {x : Str} (hx : x ∈ [r0, r1, r2, r3, r4]) : ∃ k, Wd x k := by
  simp only [List.mem_cons, List.not_mem_nil, or_false] at hx
  rcases hx with rfl | rfl | rfl | rfl | rfl
  · exact ⟨_, R.w0⟩
  · exact ⟨_, R.w1⟩
  · exact ⟨_, R.w2⟩
  · exact ⟨_, R.w3⟩
  · exact ⟨_, R.w4⟩
theorem Row5.no (R : Row5 r0 r1 r2 r3 r4 h0 h1 h2 h3 h4) {l : List Str} (hl : ∀ x ∈ l, x ∈ [r0, r1, r2, r3, r4]) : 46 ∉ cs (tx l) :=
  off_tx fun x hx => by
    obtain ⟨k, v⟩ := R.all (hl x hx)
    exact v.no46
theorem Row5.len (R : Row5 r0 r1 r2 r3 r4 h0 h1 h2 h3 h4) {l : List Str} (hl : ∀ x ∈ l, x ∈ [r0, r1, r2, r3, r4]) : (tx l).length ≤ 3 * l.length :=
  tx_len_le fun x hx => by
    obtain ⟨k, v⟩ := R.all (hl x hx)
    exact v.len.2
theorem tx_len_cons (a : Str) (l : List Str) : (tx (a :: l)).length = a.length + (tx l).length := by
  have := congrArg List.length (cs_tx_cons a l)
  simp only [List.length_append, cs_len] at this
  exact this
theorem Row5.parts (R : Row5 r0 r1 r2 r3 r4 h0 h1 h2 h3 h4) :
    (46 ∉ cs (tx [r0, r1, r2]) ∧ 46 ∉ cs (tx [r3, r4]) ∧ 46 ∉ cs (tx [r0, r1, r2, r3, r4])) ∧
    (0 < (tx [r0, r1, r2]).length ∧ (tx [r0, r1, r2]).length ≤ 9) ∧ (0 < (tx [r3, r4]).length ∧ (tx [r3, r4]).length ≤ 6) ∧ ((tx [r0, r1, r2, r3, r4]).length = (tx [r0, r1, r2]).length + (tx [r3, r4]).length) ∧
    cs (tx [r0, r1, r2, r3, r4]) = cs (tx [r0, r1, r2]) ++ cs (tx [r3, r4]) := by
  have e : cs (tx [r0, r1, r2, r3, r4]) = cs (tx [r0, r1, r2]) ++ cs (tx [r3, r4]) := cs_tx_app [r0, r1, r2] [r3, r4]
  have el := congrArg List.length e
  simp only [List.length_append, cs_len] at el
  have a0 := R.w0.len
  have a3 := R.w3.len
  refine ⟨⟨R.no (by simp), R.no (by simp), R.no (by simp)⟩, ⟨?_, R.len (by simp)⟩, ⟨?_, R.len (by simp)⟩, el, e⟩
  · rw [tx_len_cons]; omega
  · rw [tx_len_cons]; omega
/-- the sizes in the forms that are asked -/
structure Sizes (h t x : Str) : Prop where
  h0 : 0 < h.length
  t0 : 0 < t.length
  hl : h.length ≤ 200
  tl : t.length ≤ 200
  g : x.length ≤ 1000
theorem Row5.sizes (R : Row5 r0 r1 r2 r3 r4 h0 h1 h2 h3 h4) : Sizes (tx [r0, r1, r2]) (tx [r3, r4]) (tx [r0, r1, r2, r3, r4]) := by
  obtain ⟨_, ⟨a1, a2⟩, ⟨b1, b2⟩, c, _⟩ := R.parts
  exact ⟨a1, b1, Nat.le_trans a2 (by decide), Nat.le_trans b2 (by decide), by rw [c]; exact Nat.le_trans (Nat.add_le_add a2 b2) (by decide)⟩
theorem Row5.b1 (R : Row5 r0 r1 r2 r3 r4 h0 h1 h2 h3 h4) : EllB w (tx [r0, r1, r2, r3, r4]) (tx [r0, r1, r2, r3, r4]) true := by
  have h := Ell_no (w := w) (got := tx [r0, r1, r2, r3, r4]) R.parts.1.2.2
  rw [beq_self_eq_true] at h
  exact h
theorem Row5.b2 (R : Row5 r0 r1 r2 r3 r4 h0 h1 h2 h3 h4) : EllB w (tx [r0, r1, r2] ++ Str.ofString "..." ++ tx [r3, r4]) (tx [r0, r1, r2, r3, r4]) true := by
  obtain ⟨⟨n1, n2, n3⟩, ⟨a1, a2⟩, ⟨b1, b2⟩, c, e⟩ := R.parts
  rw [cut_is]
  exact ell2_yes (M := []) n1 (.of n2) a1 b1 R.sizes.hl R.sizes.tl R.sizes.g e
theorem Row5.b3 (R : Row5 r0 r1 r2 r3 r4 h0 h1 h2 h3 h4) : EllB w (tx [r0, r1, r2] ++ Str.ofString "..." ++ tx [r3, r4]) (tx [r0, r1, r2] ++ Str.ofString "\n" ++ tx [r3, r4]) true := by
  obtain ⟨⟨n1, n2, n3⟩, ⟨a1, a2⟩, ⟨b1, b2⟩, c, e⟩ := R.parts
  rw [cut_is]
  refine ell2_yes (M := cs (Str.ofString "\n")) n1 (.of n2) a1 b1 R.sizes.hl R.sizes.tl ?_ ?_
  · rw [Str.length_append, Str.length_append, show (Str.ofString "\n").length = 1 from rfl]; omega
  · rw [cs_app, cs_app, List.append_assoc]
theorem Row5.b4 (R : Row5 r0 r1 r2 r3 r4 h0 h1 h2 h3 h4) : EllB w (tx [r0, r1, r2] ++ Str.ofString "...." ++ tx [r3, r4]) (tx [r0, r1, r2] ++ Str.ofString "." ++ tx [r3, r4]) true := by
  obtain ⟨⟨n1, n2, n3⟩, ⟨a1, a2⟩, ⟨b1, b2⟩, c, e⟩ := R.parts
  rw [fourth_is]
  have hl : (Str.ofString "." ++ tx [r3, r4]).length = 1 + (tx [r3, r4]).length := by rw [Str.length_append]; rfl
  have he : cs (Str.ofString "." ++ tx [r3, r4]) = 46 :: cs (tx [r3, r4]) := by rw [cs_app]; rfl
  refine ell2_yes (M := []) n1 ?_ a1 (by omega) (by omega) (by omega) ?_ ?_
  · rw [he]; exact .cons n2 46
  · rw [Str.length_append, Str.length_append, show (Str.ofString ".").length = 1 from rfl]; omega
  · rw [List.nil_append, cs_app, cs_app, cs_app, List.append_assoc]
theorem Row5.b5 (R : Row5 r0 r1 r2 r3 r4 h0 h1 h2 h3 h4) : EllB w (Txt.join (Str.ofString "...") [Str.ofString "", r4, r0, Str.ofString ""]) (tx [r0, r1, r2, r3, r4] ++ tx [r0, r1, r2, r3, r4]) true := by
  obtain ⟨⟨n1, n2, n3⟩, ⟨a1, a2⟩, ⟨b1, b2⟩, c, e⟩ := R.parts
  have l0 := R.w0.len
  have l4 := R.w4.len
  obtain ⟨x, hx⟩ : ∃ x, x = tx [r0, r1, r2, r3, r4] ++ tx [r0, r1, r2, r3, r4] := ⟨_, rfl⟩
  rw [← hx]
  have hlx : x.length = (tx [r0, r1, r2, r3, r4]).length + (tx [r0, r1, r2, r3, r4]).length := by rw [hx, Str.length_append]
  have hE := Ell_4 (w := w) (got := x) R.w4.no46 R.w0.no46 R.w4.le200 R.w0.le200 (by omega)
  -- the last letter: its first place
  have e4 : cs (tx [r0, r1, r2, r3, r4]) = cs (tx [r0, r1, r2, r3]) ++ cs r4 := by
    have := cs_tx_app [r0, r1, r2, r3] [r4]
    rw [show ([r0, r1, r2, r3] ++ [r4] : List Str) = [r0, r1, r2, r3, r4] from rfl] at this
    rw [this, cs_tx_cons r4 []]
    congr 1
    exact List.append_nil _
  have hl4 := congrArg List.length e4
  simp only [List.length_append, cs_len] at hl4
  have ex : cs x = cs (tx [r0, r1, r2, r3]) ++ (cs r4 ++ cs (tx [r0, r1, r2, r3, r4])) := by rw [hx, cs_app, e4, List.append_assoc]
  have hA : StrLaws.At x r4 x.length (cs (tx [r0, r1, r2, r3])).length := at_here ex (by rw [cs_len]; omega)
  have ex0 : cs x = cs (tx [r0, r1, r2, r3, r4]) ++ (cs r0 ++ cs (tx [r1, r2, r3, r4])) := by
    rw [hx, cs_app]
    exact congrArg (cs (tx [r0, r1, r2, r3, r4]) ++ ·) (cs_tx_cons r0 [r1, r2, r3, r4])
  have hl0 := tx_len_cons r0 [r1, r2, r3, r4]
  have hA0 : StrLaws.At x r0 x.length (cs (tx [r0, r1, r2, r3, r4])).length := at_here ex0 (by rw [cs_len]; omega)
  have f4 : ffind x r4 0 x.length ≠ -1 ∧ ffind x r4 0 x.length ≤ ((tx [r0, r1, r2, r3]).length : Int) := by
    rcases ffind_spec x r4 0 x.length with ⟨_, h2⟩ | ⟨i, g1, g2, g3, g4⟩
    · exact absurd hA (h2 _ (Nat.zero_le _))
    · rw [g1]
      refine ⟨by omega, ?_⟩
      by_cases hi : i ≤ (tx [r0, r1, r2, r3]).length
      · omega
      · exact absurd hA (g4 _ (Nat.zero_le _) (by rw [cs_len]; omega))
  have b4 := ffind_bound x r4 0 x.length
  have f0 : 0 ≤ ffind x r0 (ffind x r4 0 x.length + r4.length).toNat x.length := by
    rcases ffind_spec x r0 (ffind x r4 0 x.length + r4.length).toNat x.length with ⟨_, h2⟩ | ⟨i, g1, g2, g3, g4⟩
    · exact absurd hA0 (h2 _ (by rw [cs_len]; omega))
    · rw [g1]; omega
  rw [decide_eq_true f0, decide_eq_true (by omega)] at hE
  exact hE
/-- the wants that fail -/
theorem Row5.c1 (R : Row5 r0 r1 r2 r3 r4 h0 h1 h2 h3 h4) : EllB w (Txt.join (Str.ofString "...") [tx [r0, r1, r2]]) (tx [r0, r1, r2, r3, r4]) false := by
  obtain ⟨⟨n1, n2, n3⟩, ⟨a1, a2⟩, ⟨b1, b2⟩, c, e⟩ := R.parts
  have h := Ell_no (w := w) (got := tx [r0, r1, r2, r3, r4]) n1
  rw [join1]
  rw [show (tx [r0, r1, r2] == tx [r0, r1, r2, r3, r4]) = false from by
    rw [beq_eq_false_iff_ne]; intro q; rw [← q] at c; omega] at h
  exact h
theorem Row5.c2 (R : Row5 r0 r1 r2 r3 r4 h0 h1 h2 h3 h4) : EllB w (Txt.join (Str.ofString "...") [tx [r3, r4]]) (tx [r0, r1, r2, r3, r4]) false := by
  obtain ⟨⟨n1, n2, n3⟩, ⟨a1, a2⟩, ⟨b1, b2⟩, c, e⟩ := R.parts
  have h := Ell_no (w := w) (got := tx [r0, r1, r2, r3, r4]) n2
  rw [join1]
  rw [show (tx [r3, r4] == tx [r0, r1, r2, r3, r4]) = false from by
    rw [beq_eq_false_iff_ne]; intro q; rw [← q] at c; omega] at h
  exact h
theorem Row5.c3 (R : Row5 r0 r1 r2 r3 r4 h0 h1 h2 h3 h4) : EllB w (Txt.join (Str.ofString "...") [tx [r0, r1, r2], r2 ++ tx [r3, r4]]) (tx [r0, r1, r2, r3, r4]) false := by
  obtain ⟨⟨n1, n2, n3⟩, ⟨a1, a2⟩, ⟨b1, b2⟩, c, e⟩ := R.parts
  have l2 := R.w2.len
  have hl : (r2 ++ tx [r3, r4]).length = r2.length + (tx [r3, r4]).length := Str.length_append ..
  have hq : 46 ∉ cs (r2 ++ tx [r3, r4]) := by
    have := R.no (l := [r2, r3, r4]) (by simp)
    rw [cs_tx_cons, ← cs_app] at this
    exact this
  have h := Ell_2 (w := w) (got := tx [r0, r1, r2, r3, r4]) n1 (.of hq) a1 (by omega) R.sizes.hl (by omega) R.sizes.g
  rw [show decide ((tx [r0, r1, r2]).length + (r2 ++ tx [r3, r4]).length ≤ (tx [r0, r1, r2, r3, r4]).length) = false from decide_eq_false (by omega), Bool.and_false] at h
  exact h
theorem Row5.c45 (R : Row5 r0 r1 r2 r3 r4 h0 h1 h2 h3 h4) {x : Str} {k : Nat} (wx : Wd x k) : EllB w (Txt.join (Str.ofString "...") [tx [r0, r1, r2], x, tx [r3, r4]]) (tx [r0, r1, r2, r3, r4]) false := by
  obtain ⟨⟨n1, n2, n3⟩, ⟨a1, a2⟩, ⟨b1, b2⟩, c, e⟩ := R.parts
  have lx := wx.len
  have h := Ell_3 (w := w) (got := tx [r0, r1, r2, r3, r4]) n1 wx.no46 (.of n2) a1 b1 R.sizes.hl wx.le200 R.sizes.tl R.sizes.g
  have hb := ffind_bound (tx [r0, r1, r2, r3, r4]) x (tx [r0, r1, r2]).length ((tx [r0, r1, r2, r3, r4]).length - (tx [r3, r4]).length)
  rw [show decide (0 ≤ ffind (tx [r0, r1, r2, r3, r4]) x (tx [r0, r1, r2]).length ((tx [r0, r1, r2, r3, r4]).length - (tx [r3, r4]).length)) = false from decide_eq_false (by omega), Bool.and_false] at h
  exact h
theorem Row5.c6 (R : Row5 r0 r1 r2 r3 r4 h0 h1 h2 h3 h4) : EllB w (Txt.join (Str.ofString "...") [tx [r0, r1, r2] ++ Str.ofString "...." ++ tx [r3, r4]]) (tx [r0, r1, r2, r3, r4]) false := by
  obtain ⟨⟨n1, n2, n3⟩, ⟨a1, a2⟩, ⟨b1, b2⟩, c, e⟩ := R.parts
  rw [join1, fourth_is]
  have hl : (Str.ofString "." ++ tx [r3, r4]).length = 1 + (tx [r3, r4]).length := by rw [Str.length_append]; rfl
  have he : cs (Str.ofString "." ++ tx [r3, r4]) = 46 :: cs (tx [r3, r4]) := by rw [cs_app]; rfl
  have h := Ell_2 (w := w) (q := Str.ofString "." ++ tx [r3, r4]) (got := tx [r0, r1, r2, r3, r4]) n1 (by rw [he]; exact .cons n2 46) a1 (by omega) R.sizes.hl (by omega) R.sizes.g
  have hend : Txt.endswith (tx [r0, r1, r2, r3, r4]) (Str.ofString "." ++ tx [r3, r4]) = false := by
    cases hs : Txt.endswith (tx [r0, r1, r2, r3, r4]) (Str.ofString "." ++ tx [r3, r4]) with
    | false => rfl
    | true =>
      obtain ⟨A, hA⟩ := ends_iff.mp hs
      rw [he] at hA
      exact absurd (by rw [hA]; simp) n3
  rw [hend, Bool.and_false, Bool.false_and] at h
  exact h
theorem Row5.c7 (R : Row5 r0 r1 r2 r3 r4 h0 h1 h2 h3 h4) : EllB w (Txt.join (Str.ofString "...") [Str.ofString "", r2, r2, Str.ofString ""]) (tx [r0, r1, r2, r3, r4]) false := by
  obtain ⟨⟨n1, n2, n3⟩, ⟨a1, a2⟩, ⟨b1, b2⟩, c, e⟩ := R.parts
  obtain ⟨⟨p1, p2, p3, p4⟩, ⟨q2, q3, q4⟩, ⟨s3, s4⟩, d4⟩ := R.nes
  have l2 := R.w2.len
  have h := Ell_4 (w := w) (got := tx [r0, r1, r2, r3, r4]) R.w2.no46 R.w2.no46 R.w2.le200 R.w2.le200 R.sizes.g
  have e2 : cs (tx [r0, r1, r2, r3, r4]) = cs (tx [r0, r1]) ++ (cs r2 ++ cs (tx [r3, r4])) := by
    rw [← cs_tx_cons]; exact cs_tx_app [r0, r1] [r2, r3, r4]
  have hl2 := congrArg List.length e2
  simp only [List.length_append, cs_len] at hl2
  have f := fun lo => find_w (lo := lo) (hi := (tx [r0, r1, r2, r3, r4]).length) R.w2 e2 (off_tx fun x hx => by
    simp only [List.mem_cons, List.not_mem_nil, or_false] at hx
    rcases hx with rfl | rfl
    · exact R.w0.off R.w2.hi p2.symm
    · exact R.w1.off R.w2.hi q2.symm) (off_tx fun x hx => by
    simp only [List.mem_cons, List.not_mem_nil, or_false] at hx
    rcases hx with rfl | rfl
    · exact R.w3.off R.w2.hi s3
    · exact R.w4.off R.w2.hi s4)
  rw [f 0, if_pos ⟨Nat.zero_le _, by rw [cs_len]; omega⟩, f, if_neg (by rw [cs_len]; omega)] at h
  rw [show decide ((0 : Int) ≤ -1) = false from rfl, Bool.and_false] at h
  exact h
theorem Row5.c8 (R : Row5 r0 r1 r2 r3 r4 h0 h1 h2 h3 h4) : EllB w (Txt.join (Str.ofString "...") [Str.ofString "", r1 ++ r2, r2 ++ r3, Str.ofString ""]) (tx [r0, r1, r2, r3, r4]) false := by
  obtain ⟨⟨n1, n2, n3⟩, ⟨a1, a2⟩, ⟨b1, b2⟩, c, e⟩ := R.parts
  obtain ⟨⟨p1, p2, p3, p4⟩, ⟨q2, q3, q4⟩, ⟨s3, s4⟩, d4⟩ := R.nes
  have l1 := R.w1.len
  have l2 := R.w2.len
  have l3 := R.w3.len
  have l12 : (r1 ++ r2).length = r1.length + r2.length := Str.length_append ..
  have l23 : (r2 ++ r3).length = r2.length + r3.length := Str.length_append ..
  have n12 : 46 ∉ cs (r1 ++ r2) := by
    rw [cs_app]; intro hm
    rcases List.mem_append.mp hm with hm | hm
    · exact R.w1.no46 hm
    · exact R.w2.no46 hm
  have n23 : 46 ∉ cs (r2 ++ r3) := by
    rw [cs_app]; intro hm
    rcases List.mem_append.mp hm with hm | hm
    · exact R.w2.no46 hm
    · exact R.w3.no46 hm
  have h := Ell_4 (w := w) (got := tx [r0, r1, r2, r3, r4]) n12 n23 (by omega) (by omega) R.sizes.g
  have e2 : cs (tx [r0, r1, r2, r3, r4]) = cs (tx [r0, r1]) ++ (cs (r2 ++ r3) ++ cs (tx [r4])) := by
    rw [cs_app, List.append_assoc, ← cs_tx_cons, ← cs_tx_cons]; exact cs_tx_app [r0, r1] [r2, r3, r4]
  have e1 : cs (tx [r0, r1, r2, r3, r4]) = cs r0 ++ (cs (r1 ++ r2) ++ cs (tx [r3, r4])) := by
    rw [cs_app, List.append_assoc, ← cs_tx_cons, ← cs_tx_cons, ← cs_tx_cons]
  have hl1 := congrArg List.length e1
  simp only [List.length_append, cs_len] at hl1
  have g2 := R.w2.hi
  obtain ⟨d1, i1, j1⟩ := R.w1.is
  obtain ⟨d2, i2, j2⟩ := R.w2.is
  have u1 : ffind (tx [r0, r1, r2, r3, r4]) (r1 ++ r2) 0 (tx [r0, r1, r2, r3, r4]).length = r0.length := by
    have := ffind_at (h := h1) (d := d1 ++ cs r2) 0 (tx [r0, r1, r2, r3, r4]).length e1 (by rw [cs_app, i1]; rfl) (R.w0.off R.w1.hi p1.symm) (by
      intro hm
      rcases List.mem_append.mp hm with hm | hm
      · have := R.w1.hi
        rcases j1.low _ hm with h1 | h1 <;> omega
      · exact R.w2.off R.w1.hi q2 hm) (off_tx fun x hx => by
      simp only [List.mem_cons, List.not_mem_nil, or_false] at hx
      rcases hx with rfl | rfl
      · exact R.w3.off R.w1.hi q3
      · exact R.w4.off R.w1.hi q4)
    rw [if_pos ⟨Nat.zero_le _, by rw [cs_len]; omega⟩, cs_len] at this
    exact this
  have u2 := fun lo => ffind_at (h := h2) (d := d2 ++ cs r3) lo (tx [r0, r1, r2, r3, r4]).length e2 (by rw [cs_app, i2]; rfl) (off_tx fun x hx => by
      simp only [List.mem_cons, List.not_mem_nil, or_false] at hx
      rcases hx with rfl | rfl
      · exact R.w0.off R.w2.hi p2.symm
      · exact R.w1.off R.w2.hi q2.symm) (by
      intro hm
      rcases List.mem_append.mp hm with hm | hm
      · rcases j2.low _ hm with h1 | h1 <;> omega
      · exact R.w3.off R.w2.hi s3 hm) (off_tx fun x hx => by
      simp only [List.mem_cons, List.not_mem_nil, or_false] at hx
      rcases hx with rfl
      exact R.w4.off R.w2.hi s4)
  have l01 : (tx [r0, r1]).length = r0.length + r1.length := by
    rw [tx_len_cons, tx_len_cons]; rfl
  rw [u1, u2, if_neg (by rw [cs_len]; omega), show decide ((0 : Int) ≤ -1) = false from rfl, Bool.and_false] at h
  exact h
theorem Row5.s25 (R : Row5 r0 r1 r2 r3 r4 h0 h1 h2 h3 h4) : StripB w (Str.ofString "\"" ++ tx [r0, r1, r2] ++ Str.ofString "\"" ++ tx [r0, r1, r2, r3, r4] ++ Str.ofString "\"") (tx [r0, r1, r2, r3, r4] ++ Str.ofString "\"") := by
  obtain ⟨⟨n1, n2, n3⟩, ⟨a1, a2⟩, ⟨b1, b2⟩, c, e⟩ := R.parts
  have k : ∀ l : List Str, (∀ x ∈ l, x ∈ [r0, r1, r2, r3, r4]) → Clean (cs (tx l)) := by
    intro l
    induction l with
    | nil => intro _; exact Clean.nil
    | cons x l ih =>
      intro hl
      rw [cs_tx_cons]
      obtain ⟨k, v⟩ := R.all (hl x (List.mem_cons_self ..))
      exact v.clean.app (ih fun y hy => hl y (List.mem_cons_of_mem _ hy))
  have lq : (Str.ofString "\"").length = 1 := rfl
  refine Strip_segs (R := [34]) (S := [(cs (tx [r0, r1, r2]), true), (cs (tx [r0, r1, r2, r3, r4]), false)]) ?_ (.inr rfl) ?_ ?_ ?_ ?_
  · rw [cs_app, cs_app, cs_app, cs_app, cs_q]
    simp only [flatS, List.append_assoc, List.cons_append, List.nil_append]
  · intro g hg
    simp only [List.mem_cons, List.not_mem_nil, or_false] at hg
    rcases hg with rfl | rfl
    · exact k _ (by simp)
    · exact k _ (by simp)
  · rw [cs_app, cs_q]; simp
  · rw [Str.length_append, Str.length_append, Str.length_append, Str.length_append, lq]; omega
  · rw [cs_app, cs_q]
    simp only [unqS, List.append_nil]
end
end Mine
namespace Mine
set_option maxRecDepth 100000
open PySem PySem.W PySem.Calls PyProof.Rows PySem.Spec
-- polynomials by their coefficients
noncomputable def evC (q : Int) : List Nat → Int
  | [] => 0
  | c :: r => (c : Int) + q * evC q r
noncomputable def incC : List Nat → Nat → List Nat
  | [], 0 => [1]
  | [], s + 1 => 0 :: incC [] s
  | c :: r, 0 => (c + 1) :: r
  | c :: r, s + 1 => c :: incC r s
noncomputable def addC : List Nat → List Nat → List Nat
  | [], l => l
  | l, [] => l
  | a :: r, b :: t => (a + b) :: addC r t
noncomputable def scaleC (a : Nat) : List Nat → List Nat
  | [] => []
  | b :: t => (a * b) :: scaleC a t
noncomputable def mulC : List Nat → List Nat → List Nat
  | [], _ => []
  | a :: r, l => addC (scaleC a l) (0 :: mulC r l)
noncomputable def shiftC : Nat → List Nat → List Nat
  | 0, l => l
  | n + 1, l => 0 :: shiftC n l
noncomputable def zeroC : List Nat → Bool
  | [] => true
  | c :: r => c == 0 && zeroC r
noncomputable def eqC : List Nat → List Nat → Bool
  | [], l => zeroC l
  | l, [] => zeroC l
  | a :: r, b :: t => a == b && eqC r t
theorem ev_inc (q : Int) : ∀ (l : List Nat) (s : Nat), evC q (incC l s) = evC q l + q ^ s
  | [], 0 => by simp [incC, evC]
  | [], s + 1 => by
    simp only [incC, evC, ev_inc q [] s, Int.pow_succ]
    grind
  | c :: r, 0 => by
    simp only [incC, evC, Int.pow_zero]
    grind
  | c :: r, s + 1 => by
    simp only [incC, evC, ev_inc q r s, Int.pow_succ]
    grind
theorem ev_add (q : Int) : ∀ l t : List Nat, evC q (addC l t) = evC q l + evC q t
  | [], l => by simp [addC, evC]
  | a :: r, [] => by simp [addC, evC]
  | a :: r, b :: t => by
    simp only [addC, evC, ev_add q r t]
    grind
theorem ev_scale (q : Int) (a : Nat) : ∀ l : List Nat, evC q (scaleC a l) = a * evC q l
  | [] => by simp [scaleC, evC]
  | b :: t => by
    simp only [scaleC, evC, ev_scale q a t]
    grind
theorem ev_mul (q : Int) : ∀ l t : List Nat, evC q (mulC l t) = evC q l * evC q t
  | [], l => by simp [mulC, evC]
  | a :: r, l => by
    simp only [mulC, ev_add, ev_scale, evC, ev_mul q r l]
    grind
theorem ev_shift (q : Int) : ∀ (n : Nat) (l : List Nat), evC q (shiftC n l) = q ^ n * evC q l
  | 0, l => by simp [shiftC]
  | n + 1, l => by
    simp only [shiftC, evC, ev_shift q n l, Int.pow_succ]
    grind
theorem ev_zero (q : Int) : ∀ l : List Nat, zeroC l = true → evC q l = 0
  | [], _ => rfl
  | c :: r, h => by
    simp only [zeroC, Bool.and_eq_true, beq_iff_eq] at h
    simp only [evC, ev_zero q r h.2, h.1]
    simp
theorem ev_eq (q : Int) : ∀ l t : List Nat, eqC l t = true → evC q l = evC q t
  | [], l, h => by rw [ev_zero q l (by cases l <;> exact h)]; rfl
  | a :: r, [], h => by rw [ev_zero q (a :: r) h]; rfl
  | a :: r, b :: t, h => by
    simp only [eqC, Bool.and_eq_true, beq_iff_eq] at h
    simp only [evC, ev_eq q r t h.2, h.1]
noncomputable def gaussC : Nat → Nat → List Nat
  | 0, b => if 0 < b then [] else [1]
  | a + 1, b => if a + 1 < b then [] else if b = 0 ∨ b = a + 1 then [1] else addC (gaussC a (b - 1)) (shiftC b (gaussC a b))
theorem ev_gauss (q : Int) : ∀ (a b : Nat), evC q (gaussC a b) = gauss a (b : Int) q
  | 0, b => by
    simp only [gaussC, gauss]
    by_cases h : 0 < b
    · rw [if_pos h, if_pos (by omega)]; rfl
    · rw [if_neg h, if_neg (by omega)]; simp [evC]
  | a + 1, b => by
    simp only [gaussC, gauss]
    by_cases h : a + 1 < b
    · rw [if_pos h, if_pos (show (b : Int) < 0 ∨ (a : Int) + 1 < (b : Int) by omega)]; rfl
    · rw [if_neg h, if_neg (show ¬ ((b : Int) < 0 ∨ (a : Int) + 1 < (b : Int)) by omega)]
      by_cases h2 : b = 0 ∨ b = a + 1
      · rw [if_pos h2, if_pos (show (b : Int) = 0 ∨ (b : Int) = (a : Int) + 1 by omega)]; simp [evC]
      · rw [if_neg h2, if_neg (show ¬ ((b : Int) = 0 ∨ (b : Int) = (a : Int) + 1) by omega), ev_add, ev_shift, ev_gauss q a (b - 1), ev_gauss q a b]
        rw [show ((b - 1 : Nat) : Int) = (b : Int) - 1 from by omega, Int.toNat_natCast]
-- orders
noncomputable def fallsN : Nat → List Nat → List Nat
  | _, [] => []
  | _, [_] => []
  | k, a :: b :: r => if b < a then k :: fallsN (k + 1) (b :: r) else fallsN (k + 1) (b :: r)
noncomputable def insN (l : List Nat) (n : Nat) (y : Nat) : List Nat := l.take n ++ y :: l.drop n
noncomputable def mixN (p0 p1 p2 p3 p4 a b : Nat) : List Nat := insN (([p2, p3, p4] : List Nat).take a ++ [p0] ++ ([p2, p3, p4] : List Nat).drop a) b p1
noncomputable def incAt (C : List (List Nat)) (f : List Nat) : List (List Nat) := C.set f.length (incC (C.getD f.length []) f.sum)
noncomputable def toldBC (p0 p1 p2 p3 p4 a : Nat) : Nat → List (List Nat) → List (List Nat)
  | 0, C => C
  | b + 1, C => if a < b then incAt (toldBC p0 p1 p2 p3 p4 a b C) (fallsN 1 (mixN p0 p1 p2 p3 p4 a b)) else toldBC p0 p1 p2 p3 p4 a b C
noncomputable def toldAC (p0 p1 p2 p3 p4 : Nat) : Nat → List (List Nat) → List (List Nat)
  | 0, C => C
  | a + 1, C => toldBC p0 p1 p2 p3 p4 a 5 (toldAC p0 p1 p2 p3 p4 a C)
noncomputable def dueC (ps r sf k : Nat) : List Nat := if r ≤ k ∧ sf ≤ k then shiftC (ps + (k - r) * (k - sf)) (mulC (gaussC (2 + sf - r) (k - r)) (gaussC (3 + r - sf) (k - sf))) else []
noncomputable def goodP : List Nat → Bool
  | [p0, p1, p2, p3, p4] => decide ([p0, p1, p2, p3, p4].Nodup) && [p0, p1, p2, p3, p4].all (· < 5) &&
    (let C := toldAC p0 p1 p2 p3 p4 4 [[], [], [], [], []]
     let f := fallsN 1 [p0, p1]
     let g := fallsN 1 [p2, p3, p4]
     (List.range 5).all fun k => eqC (C.getD k []) (dueC (f.sum + g.sum) f.length g.length k))
  | _ => false
noncomputable def allTo : Nat → List (List Nat)
  | 0 => [[]]
  | i + 1 => (allTo i).flatMap fun l => (List.range (i + 1)).map fun n => insN l n i
noncomputable def permTo (ps : Nat → Nat) : Nat → List Nat
  | 0 => []
  | i + 1 => insN (permTo ps i) (ps i) i
theorem perm_mem (ps : Nat → Nat) (h : ∀ i, ps i < i + 1) : ∀ i, permTo ps i ∈ allTo i
  | 0 => List.mem_singleton.mpr rfl
  | i + 1 => List.mem_flatMap.mpr ⟨permTo ps i, perm_mem ps h i, List.mem_map.mpr ⟨ps i, List.mem_range.mpr (h i), rfl⟩⟩
theorem all_good : (allTo 5).all goodP = true := by decide +kernel
theorem perm_good (ps : Nat → Nat) (h : ∀ i, ps i < i + 1) : goodP (permTo ps 5) = true := List.all_eq_true.mp all_good _ (perm_mem ps h 5)
end Mine
namespace Mine
set_option maxRecDepth 100000
open PySem PySem.W PySem.Calls PyProof.Rows PySem.Spec
noncomputable def hdI (xs : List Int) (i : Nat) : Nat := (20000 + 3000 * (i : Int) + ((xs.getD i 0).fdiv 180).fmod 3000).toNat
noncomputable def ltI (xs : List Int) (i : Nat) : Str := letterI (i : Int) (xs.getD i 0)
theorem hd_bounds (xs : List Int) (i : Nat) : 20000 + 3000 * i ≤ hdI xs i ∧ hdI xs i < 23000 + 3000 * i := by
  have h1 := Int.fmod_nonneg_of_pos ((xs.getD i 0).fdiv 180) (b := 3000) (by decide)
  have h2 := Int.fmod_lt_of_pos ((xs.getD i 0).fdiv 180) (b := 3000) (by decide)
  unfold hdI
  omega
theorem hd_lt (xs : List Int) {i j : Nat} (h : i < j) : hdI xs i < hdI xs j := by
  have h1 := hd_bounds xs i
  have h2 := hd_bounds xs j
  omega
theorem dress_is (k x : Int) : Dress (cs (dressI k x)) := by
  unfold dressI
  split
  · split
    · exact .inl (by decide)
    · split
      · exact .inr (.inl (by decide))
      · exact .inr (.inr (by decide))
  · exact .inl (by decide)
theorem lt_cs (xs : List Int) (i : Nat) : cs (ltI xs i) = hdI xs i :: cs (dressI (i : Int) (xs.getD i 0)) := by
  unfold ltI letterI
  rw [cs_app]; rfl
theorem lt_wd (xs : List Int) (i : Nat) : Wd (ltI xs i) (hdI xs i) := ⟨by have := hd_bounds xs i; omega, _, lt_cs xs i, dress_is _ _⟩
theorem lt_sc (xs : List Int) (i j : Nat) : strcollI (ltI xs i) (ltI xs j) = scI i j := by
  have hl : ∀ a b : Nat, a < b → decide ((ltI xs a).cps.toList < (ltI xs b).cps.toList) = true := by
    intro a b h
    show decide (cs (ltI xs a) < cs (ltI xs b)) = true
    rw [lt_cs, lt_cs, StrLaws.lt_cons_cons, decide_eq_true (hd_lt xs h)]; rfl
  have hg : ∀ a b : Nat, a < b → decide ((ltI xs b).cps.toList < (ltI xs a).cps.toList) = false := by
    intro a b h
    show decide (cs (ltI xs b) < cs (ltI xs a)) = false
    have h1 := hd_lt xs h
    rw [lt_cs, lt_cs, StrLaws.lt_cons_cons, decide_eq_false (by omega), Bool.false_or, show (hdI xs b == hdI xs a) = false from by simp; omega]; rfl
  have he : ∀ l : List Nat, decide (l < l) = false := fun l => by
    induction l with
    | nil => exact StrLaws.lt_nil_nil
    | cons c r ih => rw [StrLaws.lt_cons_cons, ih]; simp
  unfold strcollI scI
  rcases Nat.lt_trichotomy i j with h | h | h
  · rw [hl i j h, hg i j h, if_neg (by omega), if_pos (by omega)]; rfl
  · subst h
    rw [he, if_neg (by omega), if_neg (by omega)]; rfl
  · rw [hl j i h, hg j i h, if_pos (by omega)]; rfl
theorem lt_zero (xs : List Int) : 34 ∉ cs (ltI xs 0) := by
  have hb := hd_bounds xs 0
  rw [lt_cs, show cs (dressI ((0 : Nat) : Int) (xs.getD 0 0)) = [] from by
    unfold dressI
    rw [if_neg (by decide)]
    decide]
  simp only [List.mem_singleton]
  omega
theorem lt_ok (xs : List Int) (i : Nat) (hi : i < 5) : PySem.PyData.strOk (ltI xs i) = true := by
  have hb := hd_bounds xs i
  show (ltI xs i).cps.all (· < 0x110000) = true
  rw [Array.all_eq_true_iff_forall_mem]
  intro c hc
  have hc' : c ∈ cs (ltI xs i) := by simpa [cs] using hc
  rcases (lt_wd xs i).mem hc' with h | h | h <;> simp <;> omega
theorem letters_are (xs : List Int) : lettersTo xs 5 = [ltI xs 0, ltI xs 1, ltI xs 2, ltI xs 3, ltI xs 4] := rfl
theorem letters_get (xs : List Int) : ∀ i, i < 5 → (lettersTo xs 5).getD i Str.empty = ltI xs i
  | 0, _ => rfl
  | 1, _ => rfl
  | 2, _ => rfl
  | 3, _ => rfl
  | 4, _ => rfl
  | n + 5, h => absurd h (Nat.not_lt.mpr (Nat.le_add_left 5 n))
theorem letters_sc (xs : List Int) (a b : Nat) (ha : a < 5) (hb : b < 5) : strcollI ((lettersTo xs 5).getD a Str.empty) ((lettersTo xs 5).getD b Str.empty) = scI a b := by
  rw [letters_get xs a ha, letters_get xs b hb]
  exact lt_sc xs a b
theorem q_facts (xs : List Int) {q : Int} (h : xs.sum.fmod 2001 - 1000 = q) : -1000 ≤ q ∧ q ≤ 1000 ∧ q.natAbs ≤ 1000 := by
  have h1 := Int.fmod_nonneg_of_pos xs.sum (b := 2001) (by decide)
  have h2 := Int.fmod_lt_of_pos xs.sum (b := 2001) (by decide)
  omega
theorem insS_map {f : Nat → Str} {l : List Nat} {x : Int} {y : Nat} (h0 : 0 ≤ x) (h1 : x.toNat ≤ l.length) : insS (l.map f) x (f y) = (insN l x.toNat y).map f := by
  unfold insS insN
  rw [if_neg (by omega), List.length_map, Nat.min_eq_left h1, List.map_append, List.map_cons, List.map_take, List.map_drop]
noncomputable def atI (xs : List Int) (i : Nat) : Nat := ((xs.getD i 0).fmod ((i : Int) + 1)).toNat
theorem permTo_len (ps : Nat → Nat) : ∀ i, (permTo ps i).length = i
  | 0 => rfl
  | i + 1 => by
    have := permTo_len ps i
    simp only [permTo, insN, List.length_append, List.length_cons, List.length_take, List.length_drop]
    omega
theorem row_map (xs : List Int) : ∀ i, rowTo xs i = (permTo (atI xs) i).map (ltI xs)
  | 0 => rfl
  | i + 1 => by
    have h1 := Int.fmod_nonneg_of_pos (xs.getD i 0) (b := (i : Int) + 1) (by omega)
    have h2 := Int.fmod_lt_of_pos (xs.getD i 0) (b := (i : Int) + 1) (by omega)
    rw [rowTo, row_map xs i]
    show insS ((permTo (atI xs) i).map (ltI xs)) _ (ltI xs i) = _
    rw [insS_map h1 (by rw [permTo_len]; omega)]
    rfl
theorem at_lt (xs : List Int) (i : Nat) : atI xs i < i + 1 := by
  have h1 := Int.fmod_nonneg_of_pos (xs.getD i 0) (b := (i : Int) + 1) (by omega)
  have h2 := Int.fmod_lt_of_pos (xs.getD i 0) (b := (i : Int) + 1) (by omega)
  unfold atI
  omega
/-- what the order of the row's letters is -/
structure Ord5 (p0 p1 p2 p3 p4 : Nat) : Prop where
  nd : [p0, p1, p2, p3, p4].Nodup
  lt : ∀ x ∈ [p0, p1, p2, p3, p4], x < 5
  due : ∀ k, k < 5 → eqC ((toldAC p0 p1 p2 p3 p4 4 [[], [], [], [], []]).getD k []) (dueC ((fallsN 1 [p0, p1]).sum + (fallsN 1 [p2, p3, p4]).sum) (fallsN 1 [p0, p1]).length (fallsN 1 [p2, p3, p4]).length k) = true
theorem row_is (xs : List Int) : ∃ p0 p1 p2 p3 p4, rowTo xs 5 = [ltI xs p0, ltI xs p1, ltI xs p2, ltI xs p3, ltI xs p4] ∧ Ord5 p0 p1 p2 p3 p4 := by
  have hg := perm_good (atI xs) (at_lt xs)
  have hr := row_map xs 5
  have hl := permTo_len (atI xs) 5
  generalize permTo (atI xs) 5 = P at hg hr hl
  match P, hl with
  | [p0, p1, p2, p3, p4], _ =>
    refine ⟨p0, p1, p2, p3, p4, hr, ?_⟩
    simp only [goodP, Bool.and_eq_true, decide_eq_true_eq] at hg
    refine ⟨hg.1.1, fun x hx => ?_, fun k hk => ?_⟩
    · have := List.all_eq_true.mp hg.1.2 x hx
      simpa using this
    · exact List.all_eq_true.mp hg.2 k (List.mem_range.mpr hk)
theorem Ord5.ok {p0 p1 p2 p3 p4 : Nat} (o : Ord5 p0 p1 p2 p3 p4) (xs : List Int) : ∀ x ∈ [ltI xs p0, ltI xs p1, ltI xs p2, ltI xs p3, ltI xs p4], PySem.PyData.strOk x = true := by
  intro x hx
  obtain ⟨p, hp, rfl⟩ := List.mem_map.mp (show x ∈ [p0, p1, p2, p3, p4].map (ltI xs) from hx)
  exact lt_ok xs p (o.lt p hp)
theorem Ord5.row {p0 p1 p2 p3 p4 : Nat} (o : Ord5 p0 p1 p2 p3 p4) (xs : List Int) : Row5 (ltI xs p0) (ltI xs p1) (ltI xs p2) (ltI xs p3) (ltI xs p4) (hdI xs p0) (hdI xs p1) (hdI xs p2) (hdI xs p3) (hdI xs p4) := by
  refine ⟨lt_wd .., lt_wd .., lt_wd .., lt_wd .., lt_wd .., ?_⟩
  have inj : ∀ i j, i ≠ j → hdI xs i ≠ hdI xs j := fun i j h => by
    rcases Nat.lt_trichotomy i j with h1 | h1 | h1
    · have := hd_lt xs h1; omega
    · exact absurd h1 h
    · have := hd_lt xs h1; omega
  have h := o.nd
  simp only [List.nodup_cons, List.mem_cons, List.not_mem_nil, or_false, not_or, List.nodup_nil, and_true, not_false_eq_true] at h ⊢
  obtain ⟨⟨a1, a2, a3, a4⟩, ⟨b2, b3, b4⟩, ⟨c3, c4⟩, d4⟩ := h
  exact ⟨⟨inj _ _ a1, inj _ _ a2, inj _ _ a3, inj _ _ a4⟩, ⟨inj _ _ b2, inj _ _ b3, inj _ _ b4⟩, ⟨inj _ _ c3, inj _ _ c4⟩, inj _ _ d4⟩
-- falls
theorem sc_one (xs : List Int) (i j : Nat) : (strcollI (ltI xs i) (ltI xs j) = 1) = (j < i) := by
  rw [lt_sc]
  unfold scI
  apply propext
  constructor
  · intro h
    split at h
    · omega
    · split at h <;> omega
  · intro h
    rw [if_pos (by omega)]
theorem falls2 (xs : List Int) (a b : Nat) : fallsOf [ltI xs a, ltI xs b] = (fallsN 1 [a, b]).map (fun n : Nat => (n : Int)) := by
  unfold fallsOf
  rw [show rangeKs 1 (((([ltI xs a, ltI xs b] : List Str).length : Nat) : Int) - 1).toNat = [1] from rfl]
  simp only [List.foldl_cons, List.foldl_nil, fallsN]
  show (if strcollI (ltI xs a) (ltI xs b) = 1 then _ else _) = _
  simp only [sc_one]
  repeat' split
  all_goals first | rfl | (exfalso; omega)
theorem falls3 (xs : List Int) (a b c : Nat) : fallsOf [ltI xs a, ltI xs b, ltI xs c] = (fallsN 1 [a, b, c]).map (fun n : Nat => (n : Int)) := by
  unfold fallsOf
  rw [show rangeKs 1 (((([ltI xs a, ltI xs b, ltI xs c] : List Str).length : Nat) : Int) - 1).toNat = [1, 2] from rfl]
  simp only [List.foldl_cons, List.foldl_nil, fallsN]
  show (if strcollI (ltI xs b) (ltI xs c) = 1 then (if strcollI (ltI xs a) (ltI xs b) = 1 then _ else _) ++ _ else (if strcollI (ltI xs a) (ltI xs b) = 1 then _ else _)) = _
  simp only [sc_one]
  repeat' split
  all_goals first | rfl | (exfalso; omega)
theorem falls_five (xs : List Int) (a b c d e : Nat) : fallsOf [ltI xs a, ltI xs b, ltI xs c, ltI xs d, ltI xs e] = (fallsN 1 [a, b, c, d, e]).map (fun n : Nat => (n : Int)) := by
  have key : ∀ (l : List Int), (if strcollI (ltI xs d) (ltI xs e) = 1 then (if strcollI (ltI xs c) (ltI xs d) = 1 then (if strcollI (ltI xs b) (ltI xs c) = 1 then (if strcollI (ltI xs a) (ltI xs b) = 1 then [1] else []) ++ [2] else (if strcollI (ltI xs a) (ltI xs b) = 1 then [1] else [])) ++ [3] else (if strcollI (ltI xs b) (ltI xs c) = 1 then (if strcollI (ltI xs a) (ltI xs b) = 1 then [1] else []) ++ [2] else (if strcollI (ltI xs a) (ltI xs b) = 1 then [1] else []))) ++ [4] else (if strcollI (ltI xs c) (ltI xs d) = 1 then (if strcollI (ltI xs b) (ltI xs c) = 1 then (if strcollI (ltI xs a) (ltI xs b) = 1 then [1] else []) ++ [2] else (if strcollI (ltI xs a) (ltI xs b) = 1 then [1] else [])) ++ [3] else (if strcollI (ltI xs b) (ltI xs c) = 1 then (if strcollI (ltI xs a) (ltI xs b) = 1 then [1] else []) ++ [2] else (if strcollI (ltI xs a) (ltI xs b) = 1 then [1] else [])))) = l →
      l = (fallsN 1 [a, b, c, d, e]).map (fun n : Nat => (n : Int)) := by
    intro l hl
    rw [← hl]
    simp only [sc_one, fallsN]
    repeat' split
    all_goals first | rfl | (exfalso; omega)
  exact key _ rfl
end Mine
namespace Mine
set_option maxRecDepth 100000
open PySem PySem.W PySem.Calls PyProof.Rows PySem.Spec
theorem mix_len (p0 p1 p2 p3 p4 a b : Nat) : (mixN p0 p1 p2 p3 p4 a b).length = 5 := by
  unfold mixN insN
  simp only [List.length_append, List.length_take, List.length_drop, List.length_cons, List.length_nil]
  omega
theorem mix_map (xs : List Int) (p0 p1 p2 p3 p4 a b : Nat) (hb : b < 5) : mixS (ltI xs p0) (ltI xs p1) (ltI xs p2) (ltI xs p3) (ltI xs p4) a b = (mixN p0 p1 p2 p3 p4 a b).map (ltI xs) := by
  have h : insS ((([p2, p3, p4] : List Nat).take a ++ [p0] ++ ([p2, p3, p4] : List Nat).drop a).map (ltI xs)) (b : Int) (ltI xs p1) = _ := insS_map (by omega) (by
    simp only [List.length_append, List.length_take, List.length_drop, List.length_cons, List.length_nil]
    omega)
  rw [Int.toNat_natCast] at h
  unfold mixN
  rw [← h, List.map_append, List.map_append, List.map_take, List.map_drop]
  rfl
theorem five_ofN {l : List Nat} (h : l.length = 5) : ∃ a b c d e, l = [a, b, c, d, e] := by
  match l, h with
  | [a, b, c, d, e], _ => exact ⟨a, b, c, d, e, rfl⟩
theorem falls_mix (xs : List Int) (p0 p1 p2 p3 p4 a b : Nat) (hb : b < 5) : fallsOf (mixS (ltI xs p0) (ltI xs p1) (ltI xs p2) (ltI xs p3) (ltI xs p4) a b) = (fallsN 1 (mixN p0 p1 p2 p3 p4 a b)).map (fun n : Nat => (n : Int)) := by
  rw [mix_map xs p0 p1 p2 p3 p4 a b hb]
  obtain ⟨m0, m1, m2, m3, m4, e⟩ := five_ofN (mix_len p0 p1 p2 p3 p4 a b)
  rw [e]
  exact falls_five xs m0 m1 m2 m3 m4
theorem sum_cast : ∀ l : List Nat, (l.map (fun n : Nat => (n : Int))).sum = ((l.sum : Nat) : Int)
  | [] => rfl
  | a :: r => by
    rw [List.map_cons, List.sum_cons, List.sum_cons, sum_cast r]; omega
theorem getD_map {q : Int} (C : List (List Nat)) (n : Nat) : (C.map (evC q)).getD n 0 = evC q (C.getD n []) := by
  rw [List.getD_eq_getElem?_getD, List.getD_eq_getElem?_getD, List.getElem?_map]
  cases C[n]? <;> rfl
theorem told_step {q : Int} {ms : List Str} {f : List Nat} (hf : fallsOf ms = f.map (fun n : Nat => (n : Int))) (b : Bool) (C : List (List Nat)) :
    toldI q ms b (C.map (evC q)) = (if b = true then incAt C f else C).map (evC q) := by
  unfold toldI
  rw [hf, sum_cast, List.length_map, Int.toNat_natCast]
  cases b
  · rw [if_neg (by decide), if_neg (by decide)]
  · rw [if_pos rfl, if_pos rfl]
    unfold incAt
    rw [getD_map, List.map_set, ev_inc]
theorem told_B (xs : List Int) (q : Int) (p0 p1 p2 p3 p4 a : Nat) : ∀ b, b ≤ 5 → ∀ C : List (List Nat),
    toldB q (mixS (ltI xs p0) (ltI xs p1) (ltI xs p2) (ltI xs p3) (ltI xs p4)) (fun a b => decide (a < b)) a b (C.map (evC q)) = (toldBC p0 p1 p2 p3 p4 a b C).map (evC q)
  | 0, _, _ => rfl
  | b + 1, h, C => by
    rw [toldB, told_B xs q p0 p1 p2 p3 p4 a b (by omega) C, told_step (falls_mix xs p0 p1 p2 p3 p4 a b (by omega)), toldBC]
    by_cases hab : a < b
    · rw [if_pos hab, if_pos (decide_eq_true hab)]
    · rw [if_neg hab, if_neg (by simp [hab])]
theorem told_A (xs : List Int) (q : Int) (p0 p1 p2 p3 p4 : Nat) (C : List (List Nat)) : ∀ a,
    toldA q (mixS (ltI xs p0) (ltI xs p1) (ltI xs p2) (ltI xs p3) (ltI xs p4)) (fun a b => decide (a < b)) a (C.map (evC q)) = (toldAC p0 p1 p2 p3 p4 a C).map (evC q)
  | 0 => rfl
  | a + 1 => by
    rw [toldA, told_A xs q p0 p1 p2 p3 p4 C a, told_B xs q p0 p1 p2 p3 p4 a 5 (Nat.le_refl _)]
    rfl
theorem fallsN2 (a b : Nat) : (fallsN 1 [a, b]).length ≤ 1 ∧ (fallsN 1 [a, b]).sum ≤ 1 := by
  simp only [fallsN]
  split <;> decide
theorem fallsN3 (a b c : Nat) : (fallsN 1 [a, b, c]).length ≤ 2 ∧ (fallsN 1 [a, b, c]).sum ≤ 3 := by
  simp only [fallsN]
  repeat' split
  all_goals decide
theorem falls2_le (xs : List Int) (a b : Nat) : (fallsOf [ltI xs a, ltI xs b]).length ≤ 1 ∧ 0 ≤ (fallsOf [ltI xs a, ltI xs b]).sum ∧ (fallsOf [ltI xs a, ltI xs b]).sum ≤ 1 := by
  rw [falls2, List.length_map, sum_cast]
  exact ⟨(fallsN2 a b).1, Int.natCast_nonneg _, Int.ofNat_le.mpr (fallsN2 a b).2⟩
theorem falls3_le (xs : List Int) (a b c : Nat) : (fallsOf [ltI xs a, ltI xs b, ltI xs c]).length ≤ 2 ∧ 0 ≤ (fallsOf [ltI xs a, ltI xs b, ltI xs c]).sum ∧ (fallsOf [ltI xs a, ltI xs b, ltI xs c]).sum ≤ 3 := by
  rw [falls3, List.length_map, sum_cast]
  exact ⟨(fallsN3 a b c).1, Int.natCast_nonneg _, Int.ofNat_le.mpr (fallsN3 a b c).2⟩
theorem places_le {f g : List Int} (hf : f.length ≤ 1 ∧ 0 ≤ f.sum ∧ f.sum ≤ 1) (hg : g.length ≤ 2 ∧ 0 ≤ g.sum ∧ g.sum ≤ 3) : 0 ≤ (f ++ g).sum ∧ (f ++ g).sum ≤ 4 := by
  rw [List.sum_append]
  exact ⟨Int.add_nonneg hf.2.1 hg.2.1, Int.add_le_add hf.2.2 hg.2.2⟩
theorem all_rs : ∀ (r : Fin 2) (s : Fin 3), ((2 : Int) - ((r.val : Nat) : Int) + ((s.val : Nat) : Int)).toNat = 2 + s.val - r.val ∧ ((3 : Int) - ((s.val : Nat) : Int) + ((r.val : Nat) : Int)).toNat = 3 + r.val - s.val := by decide
theorem ev_due (q : Int) (ps r sf k : Nat) (hr : r ≤ 1) (hs : sf ≤ 2) : evC q (dueC ps r sf k) = dueI (ps : Int) (r : Int) (sf : Int) q (k : Int) := by
  unfold dueC dueI
  by_cases h : r ≤ k ∧ sf ≤ k
  · rw [if_pos h, if_pos (Int.ofNat_le.mpr h.1), if_pos (Int.ofNat_le.mpr h.2), ev_shift, ev_mul, ev_gauss, ev_gauss]
    have e1 : ((k - r : Nat) : Int) = (k : Int) - r := Int.ofNat_sub h.1
    have e2 : ((k - sf : Nat) : Int) = (k : Int) - sf := Int.ofNat_sub h.2
    obtain ⟨e3, e4⟩ := all_rs ⟨r, Nat.lt_succ_of_le hr⟩ ⟨sf, Nat.lt_succ_of_le hs⟩
    have e5 : ((ps : Int) + ((k : Int) - r) * ((k : Int) - sf)).toNat = ps + (k - r) * (k - sf) := by
      rw [← e1, ← e2]
      have : ((ps : Int) + ((k - r : Nat) : Int) * ((k - sf : Nat) : Int)) = ((ps + (k - r) * (k - sf) : Nat) : Int) := by
        rw [Int.natCast_add, Int.natCast_mul]
      rw [this, Int.toNat_natCast]
    rw [e1, e2, e5, show ((2 : Int) - r + sf).toNat = 2 + sf - r from e3, show ((3 : Int) - sf + r).toNat = 3 + r - sf from e4]
  · rw [if_neg h]
    by_cases h1 : (r : Int) ≤ (k : Int)
    · rw [if_pos h1, if_neg (fun h2 => h ⟨Int.ofNat_le.mp h1, Int.ofNat_le.mp h2⟩)]; rfl
    · rw [if_neg h1]; rfl
theorem Ord5.dues {p0 p1 p2 p3 p4 : Nat} (o : Ord5 p0 p1 p2 p3 p4) (xs : List Int) (q : Int) (k : Nat) (hk : k < 5) :
    (toldA q (mixS (ltI xs p0) (ltI xs p1) (ltI xs p2) (ltI xs p3) (ltI xs p4)) (fun a b => decide (a < b)) 4 [0, 0, 0, 0, 0]).getD k 0 =
      dueI (fallsOf [ltI xs p0, ltI xs p1] ++ fallsOf [ltI xs p2, ltI xs p3, ltI xs p4]).sum ((fallsOf [ltI xs p0, ltI xs p1]).length : Int) ((fallsOf [ltI xs p2, ltI xs p3, ltI xs p4]).length : Int) q (k : Int) := by
  have h1 := told_A xs q p0 p1 p2 p3 p4 [[], [], [], [], []] 4
  rw [show ([[], [], [], [], []] : List (List Nat)).map (evC q) = [0, 0, 0, 0, 0] from rfl] at h1
  rw [h1, getD_map, ev_eq q _ _ (o.due k hk), falls2, falls3, List.sum_append, sum_cast, sum_cast, List.length_map, List.length_map, ev_due q _ _ _ _ (fallsN2 _ _).1 (fallsN3 _ _ _).1, Int.natCast_add]
open Builtin.Int (intBits)
theorem q_bits {q : Int} (h : q.natAbs ≤ 1000) : intBits q ≤ 10 := intBits_le_iff.mpr (by omega)
theorem gauss_bits {q : Int} (h : q.natAbs ≤ 1000) : ∀ (a : Nat) (b : Int), a ≤ 6 → intBits (gauss a b q) ≤ 100 * (a + 1)
  | 0, b, _ => by
    unfold gauss
    split
    · exact intBits_le_iff.mpr (by decide)
    · exact intBits_le_iff.mpr (by decide)
  | a + 1, b, ha => by
    unfold gauss
    split
    · exact intBits_le_iff.mpr (Nat.two_pow_pos _)
    · split
      · refine intBits_le_iff.mpr (Nat.lt_of_lt_of_le (show (1 : Int).natAbs < 2 ^ 1 by decide) (Nat.pow_le_pow_right (by decide) (by omega)))
      · rename_i h1 h2
        have hb : b.toNat ≤ 6 := by omega
        have g1 := gauss_bits h a (b - 1) (by omega)
        have g2 := gauss_bits h a b (by omega)
        have g3 := intBits_mul_le (intBits_pow_le (q_bits h) b.toNat) g2
        have g4 := intBits_add_le g1 g3
        omega
theorem gauss_bits7 {q : Int} (h : q.natAbs ≤ 1000) (a : Nat) (b : Int) (ha : a ≤ 6) : intBits (gauss a b q) ≤ 700 := Nat.le_trans (gauss_bits h a b ha) (Nat.mul_le_mul_left 100 (Nat.succ_le_succ ha))
theorem all_rsk : ∀ (r : Fin 2) (s : Fin 3) (k : Fin 5), (((k.val : Nat) : Int) - ((r.val : Nat) : Int)) * (((k.val : Nat) : Int) - ((s.val : Nat) : Int)) ≤ 16 ∧ ((2 : Int) - ((r.val : Nat) : Int) + ((s.val : Nat) : Int)).toNat ≤ 6 ∧ ((3 : Int) - ((s.val : Nat) : Int) + ((r.val : Nat) : Int)).toNat ≤ 6 := by decide
theorem due_fits {q : Int} (h : q.natAbs ≤ 1000) (ps r sf k : Int) (hr0 : 0 ≤ r) (hr : r ≤ 1) (hs0 : 0 ≤ sf) (hs : sf ≤ 2) (hp : ps ≤ 4) (hk0 : 0 ≤ k) (hk : k < 5) :
    IntMulOk (gauss (2 - r + sf).toNat (k - r) q) (gauss (3 - sf + r).toNat (k - sf) q) ∧ IntMulOk (q ^ (ps + (k - r) * (k - sf)).toNat) (gauss (2 - r + sf).toNat (k - r) q * gauss (3 - sf + r).toNat (k - sf) q) ∧ (r ≤ k → sf ≤ k → 0 ≤ ps → 0 ≤ ps + (k - r) * (k - sf)) ∧ (r ≤ k → sf ≤ k → ps + (k - r) * (k - sf) ≤ 20) := by
  obtain ⟨r', rfl⟩ := Int.eq_ofNat_of_zero_le hr0
  obtain ⟨s', rfl⟩ := Int.eq_ofNat_of_zero_le hs0
  obtain ⟨k', rfl⟩ := Int.eq_ofNat_of_zero_le hk0
  obtain ⟨e, eA, eB⟩ := all_rsk ⟨r', Nat.lt_succ_of_le (Int.ofNat_le.mp hr)⟩ ⟨s', Nat.lt_succ_of_le (Int.ofNat_le.mp hs)⟩ ⟨k', Int.ofNat_lt.mp hk⟩
  have g1 := gauss_bits7 h _ ((k' : Int) - r') eA
  have g2 := gauss_bits7 h _ ((k' : Int) - s') eB
  have e20 : ps + ((k' : Int) - r') * ((k' : Int) - s') ≤ 20 := Int.add_le_add hp e
  have g3 := Nat.le_trans (intBits_pow_le (q_bits h) (ps + ((k' : Int) - r') * ((k' : Int) - s')).toNat) (Nat.succ_le_succ (Nat.mul_le_mul_left 10 (Int.toNat_le.mpr e20)))
  exact ⟨.of_le g1 g2 (by decide), .of_le g3 (intBits_mul_le g1 g2) (by decide), fun h1 h2 h3 => Int.add_nonneg h3 (Int.mul_nonneg (Int.sub_nonneg.mpr h1) (Int.sub_nonneg.mpr h2)), fun _ _ => e20⟩
end Mine
namespace Mine
set_option maxRecDepth 100000
open PySem PySem.W PySem.Calls PyProof.Rows PySem.Spec
theorem strs5 {v : List Value} {a b c d e : Str} (h : StrsAre v [a, b, c, d, e]) : ∃ t0 t1 t2 t3 t4, v = [.str a t0, .str b t1, .str c t2, .str d t3, .str e t4] := by
  cases h with
  | cons _ t0 h => cases h with
    | cons _ t1 h => cases h with
      | cons _ t2 h => cases h with
        | cons _ t3 h => cases h with
          | cons _ t4 h => cases h with
            | nil => exact ⟨t0, t1, t2, t3, t4, rfl⟩
theorem app_le {a b : Str} {m n : Nat} (ha : a.length ≤ m) (hb : b.length ≤ n) : (a ++ b).length ≤ m + n := by
  rw [Str.length_append]; exact Nat.add_le_add ha hb
theorem wt_all {ws : List Str} (h : ∀ x ∈ ws, x.length ≤ 30) (hl : ws.length ≤ 4) : (ws.map (·.length)).sum + ws.length ≤ 1048576 := by
  have := sum_len_le 30 ws h
  omega
theorem wt1 {a : Str} (ha : a.length ≤ 30) : (([a].map (·.length)).sum + [a].length : Nat) ≤ 1048576 :=
  wt_all (List.forall_mem_cons.mpr ⟨ha, fun _ h => nomatch h⟩) (by show 1 ≤ 4; decide)
theorem wt2 {a b : Str} (ha : a.length ≤ 30) (hb : b.length ≤ 30) : (([a, b].map (·.length)).sum + [a, b].length : Nat) ≤ 1048576 :=
  wt_all (List.forall_mem_cons.mpr ⟨ha, List.forall_mem_cons.mpr ⟨hb, fun _ h => nomatch h⟩⟩) (by show 2 ≤ 4; decide)
theorem wt3 {a b c : Str} (ha : a.length ≤ 30) (hb : b.length ≤ 30) (hc : c.length ≤ 30) : (([a, b, c].map (·.length)).sum + [a, b, c].length : Nat) ≤ 1048576 :=
  wt_all (List.forall_mem_cons.mpr ⟨ha, List.forall_mem_cons.mpr ⟨hb, List.forall_mem_cons.mpr ⟨hc, fun _ h => nomatch h⟩⟩⟩) (by show 3 ≤ 4; decide)
theorem wt4 {a b c d : Str} (ha : a.length ≤ 30) (hb : b.length ≤ 30) (hc : c.length ≤ 30) (hd : d.length ≤ 30) : (([a, b, c, d].map (·.length)).sum + [a, b, c, d].length : Nat) ≤ 1048576 :=
  wt_all (List.forall_mem_cons.mpr ⟨ha, List.forall_mem_cons.mpr ⟨hb, List.forall_mem_cons.mpr ⟨hc, List.forall_mem_cons.mpr ⟨hd, fun _ h => nomatch h⟩⟩⟩⟩) (by show 4 ≤ 4; decide)
section
variable {w : World} {dp un : Nat} {fr : Option (List Env)} {gd : Option (List Code)} {s : Shared} {mean : ExcName → Option Value} {mg mb : Str → Option Value}
    {Q : Flow → Shared → Prop} {E : Value → Shared → Prop} {h₀ : Heap} {L fa : Addr} {cd : Value}
set_option maxHeartbeats 4000000 in
theorem law_body {a : Addr} {vs : List Value} {ns : List Int} {o1 o2 o3 : Obj} {v2 v3 : Option Value}
    (X : (Mine.hd.heap_39 w.params).In h₀) (T : Top Mine.hd.view_39 (looseW Mine.hd.view_39 []) mean mg mb h₀) (hd : dp + 9 < recursionLimit) (hun : (Ard dp un fr gd).units + 64 < cLine) (hbare : AllBare s.gens)
    (F : Fr h₀ L s.heap (fun _ => none)) (N : News h₀ L s.heap [(L + 3, o3), (L + 2, o2), (L + 1, o1)]) (d1 : o1.data = Data.cell (some (.ref a))) (d2 : o2.data = Data.cell v2) (d3 : o3.data = Data.cell v3)
    (hl : h₀.IsList a vs.toArray) (hi : IntsAre vs ns) (hn : ns.length ≤ 63)
    (h : ∀ s' m', Fr h₀ L s'.heap m' → AllBare s'.gens → s'.os = s.os → Q (.ret (.bool true)) s') :
    wpAny (model Challenge.rw_wr0014_01.row.prog w) (Ard dp un fr gd) (execs (lawBody w.params) (envOfC (Str.ofString "law") (lawScope w.params) L fa cd)) Q E s := by
  have hlen : (lawBody w.params).length = 26 := rfl
  show wpAny _ _ (execs (List.drop 0 (lawBody w.params)) _) _ _ _
  refine execs_at 0 (by rw [hlen]; decide) ?_
  refine st0 (s := s) X T hd F N d2 fun h0 tk0 B u1 u2 u3 u4 u5 o2' F0 d2' N0 => ?_
  show wpAny _ _ (execs (List.drop 1 (lawBody w.params)) _) _ _ _
  refine execs_at 1 (by rw [hlen]; decide) ?_
  refine st1 (m := fun _ => none) (nb := 0) X T hd F0 N0 d2' d1 hl hi hn fun h1 tk1 D ys xs F1 N1 iN hx5 hxb => ?_
  show wpAny _ _ (execs (List.drop 2 (lawBody w.params)) _) _ _ _
  refine execs_at 2 (by rw [hlen]; decide) ?_
  have N1' : News h₀ L h1 [(D, LCg.lst ys), (L + 3, o3)] := fun p hp => N1 p (by
    simp only [List.mem_cons, List.not_mem_nil, or_false] at hp ⊢
    rcases hp with rfl | rfl
    · exact .inl rfl
    · exact .inr (.inr (.inl rfl)))
  have hD3 : @Ne Nat D (L + 3) := fun e => by
    have g1 := (N1' (D, LCg.lst ys) (by simp)).1
    have g2 := (N1' (L + 3, o3) (by simp)).1
    rw [show D = L + 3 from e] at g1
    have g3 := g1.symm.trans g2
    have g4 : (LCg.lst ys).data = o3.data := congrArg Obj.data (Option.some.inj g3)
    rw [d3] at g4
    cases g4
  refine st2 (rest := []) X T hd (by exact rfl) F1 N1' iN fun h2 tk2 tq F2 N2 => ?_
  obtain ⟨q, hqe⟩ : ∃ q, xs.sum.fmod 2001 - 1000 = q := ⟨_, rfl⟩
  rw [hqe] at F2
  obtain ⟨hq1, hq2, hqa⟩ := q_facts xs hqe
  show wpAny _ _ (execs (List.drop 3 (lawBody w.params)) _) _ _ _
  refine execs_at 3 (by rw [hlen]; decide) ?_
  refine st3 F2 N2 X fun h3 tk3 Lt F3 N3 ne31 ne32 => ?_
  show wpAny _ _ (execs (List.drop 4 (lawBody w.params)) _) _ _ _
  refine execs_at 4 (by rw [hlen]; decide) ?_
  refine st4 F3 N3 X fun h4 tk4 Rw F4 N4 ne41 ne42 ne43 => ?_
  show wpAny _ _ (execs (List.drop 5 (lawBody w.params)) _) _ _ _
  refine execs_at 5 (by rw [hlen]; decide) ?_
  refine st5 (s := { s with heap := h4, toks := tk4 }) X T hd hbare (by exact rfl) (by exact rfl) (by exact rfl) F4 N4 ne41 ne42 ne31 ne43 ne32 iN hx5 hxb fun s5 m5 vL vR nl nr F5 hm5 N5 sL sR hb5 ho5 => ?_
  have q5 : m5 (Str.ofString "q") = some (.int q tq) := (hm5 _ (by simp)).trans rfl
  have L5 : m5 (Str.ofString "letters") = some (.ref Lt) := (hm5 _ (by simp)).trans rfl
  have R5 : m5 (Str.ofString "row") = some (.ref Rw) := (hm5 _ (by simp)).trans rfl
  clear hm5
  obtain ⟨p0, p1, p2, p3, p4, hrow, O⟩ := row_is xs
  rw [hrow] at sR
  obtain ⟨t0, t1, t2, t3, t4, rfl⟩ := strs5 sR
  have R := O.row xs
  have hsc := letters_sc xs
  have ok5 : OkAll [ltI xs p0, ltI xs p1, ltI xs p2, ltI xs p3, ltI xs p4] := O.ok xs
  have hdues := fun k hk => O.dues xs q k hk
  have hf2 := falls2_le xs p0 p1
  have hf3 := falls3_le xs p2 p3 p4
  have hz := lt_zero xs
  have hL0 : (lettersTo xs 5).getD (Int.toNat 0) Str.empty = ltI xs 0 := rfl
  have hLl : (lettersTo xs 5).length = 5 := lettersTo_len xs 5
  generalize lettersTo xs 5 = lts at sL hsc hL0 hLl
  generalize ltI xs 0 = lt0 at hz hL0
  generalize ltI xs p0 = r0, ltI xs p1 = r1, ltI xs p2 = r2, ltI xs p3 = r3, ltI xs p4 = r4 at R ok5 hdues hf2 hf3 sR N5
  generalize hdI xs p0 = k0, hdI xs p1 = k1, hdI xs p2 = k2, hdI xs p3 = k3, hdI xs p4 = k4 at R
  clear hrow O iN
  have N5' : News h₀ L s5.heap [(Rw, PySem.W.listOf #[.str r0 t0, .str r1 t1, .str r2 t2, .str r3 t3, .str r4 t4] nr), (Lt, PySem.W.listOf vL.toArray nl), (D, LCg.lst ys), (L + 3, o3)] := N5
  clear N5
  show wpAny _ _ (execs (List.drop 6 (lawBody w.params)) _) _ _ _
  refine execs_at 6 (by rw [hlen]; decide) ?_
  refine st6 (s := s5) X T hd hb5 L5 F5 N5' sL hLl hsc fun s6 m6 F6 hm6 N6 hb6 ho6 => ?_
  have q6 : m6 (Str.ofString "q") = some (.int q tq) := (hm6 _ (by simp)).trans q5
  have L6 : m6 (Str.ofString "letters") = some (.ref Lt) := (hm6 _ (by simp)).trans L5
  have R6 : m6 (Str.ofString "row") = some (.ref Rw) := (hm6 _ (by simp)).trans R5
  clear hm6
  show wpAny _ _ (execs (List.drop 7 (lawBody w.params)) _) _ _ _
  refine execs_at 7 (by rw [hlen]; decide) ?_
  refine st7 (s := s6) R6 d3 F6 N6 X ne43 ne32 hD3 fun h7 tk7 Tw Th o3' F7 d3' N7 ne71 ne72 => ?_
  show wpAny _ _ (execs (List.drop 8 (lawBody w.params)) _) _ _ _
  refine execs_at 8 (by rw [hlen]; decide) ?_
  refine st8 F7 N7 X fun h8 tk8 Td z0 z1 z2 z3 z4 F8 N8 ne8 => ?_
  show wpAny _ _ (execs (List.drop 9 (lawBody w.params)) _) _ _ _
  refine execs_at 9 (by rw [hlen]; decide) ?_
  refine st9 (s := { s6 with heap := h8, toks := tk8 }) (vT := [.int 0 z0, .int 0 z1, .int 0 z2, .int 0 z3, .int 0 z4]) (xs := [0, 0, 0, 0, 0]) (bH := fun a b => decide (a < b)) X T hd hb6 (by exact rfl) (by exact rfl) (by exact q6) d3'
    (.cons _ _ (.cons _ _ (.cons _ _ (.cons _ _ (.cons _ _ .nil))))) rfl hq1 hq2 ne8 (fun a b ha hb => R.turn a b ha hb) F8 N8 fun s9 m9 vT F9 hm9 iT N9 hb9 ho9 => ?_
  have H9 : m9 (Str.ofString "three") = some (.ref Th) := (hm9 _ (by simp)).trans rfl
  have D9 : m9 (Str.ofString "told") = some (.ref Td) := (hm9 _ (by simp)).trans rfl
  have q9 : m9 (Str.ofString "q") = some (.int q tq) := (hm9 _ (by simp)).trans q6
  have L9 : m9 (Str.ofString "letters") = some (.ref Lt) := (hm9 _ (by simp)).trans L6
  have R9 : m9 (Str.ofString "row") = some (.ref Rw) := (hm9 _ (by simp)).trans R6
  clear hm9
  have S2 : StrsAre [Value.str r0 t0, Value.str r1 t1] [r0, r1] := .cons _ _ (.cons _ _ .nil)
  have S3 : StrsAre [Value.str r2 t2, Value.str r3 t3, Value.str r4 t4] [r2, r3, r4] := .cons _ _ (.cons _ _ (.cons _ _ .nil))
  show wpAny _ _ (execs (List.drop 10 (lawBody w.params)) _) _ _ _
  refine execs_at 10 (by rw [hlen]; decide) ?_
  refine st10 (s := s9) hun X T hd (fun x hx => ok5 x (List.mem_append_left [r2, r3, r4] hx)) ok5 S2 sR H9 R9 d3' F9 N9 fun h10 tk10 F10 N10 => ?_
  show wpAny _ _ (execs (List.drop 11 (lawBody w.params)) _) _ _ _
  refine execs_at 11 (by rw [hlen]; decide) ?_
  refine st11 X T hd H9 d3' S2 S3 F10 N10 fun h11 tk11 Pl vP F11 iP N11 => ?_
  show wpAny _ _ (execs (List.drop 12 (lawBody w.params)) _) _ _ _
  refine execs_at 12 (by rw [hlen]; decide) ?_
  refine st12 X T hd (by exact H9) d3' S2 S3 F11 N11 fun h12 tk12 tr ts m12 F12 r12 s12 hm12 N12 => ?_
  have P12 : m12 (Str.ofString "places") = some (.ref Pl) := (hm12 _ (by simp)).trans rfl
  have D12 : m12 (Str.ofString "told") = some (.ref Td) := (hm12 _ (by simp)).trans D9
  have q12 : m12 (Str.ofString "q") = some (.int q tq) := (hm12 _ (by simp)).trans q9
  have L12 : m12 (Str.ofString "letters") = some (.ref Lt) := (hm12 _ (by simp)).trans L9
  have R12 : m12 (Str.ofString "row") = some (.ref Rw) := (hm12 _ (by simp)).trans R9
  clear hm12
  have N12' : News h₀ L h12 [(Pl, { cls := .type "list", data := Data.seq vP.toArray }), (Td, PySem.W.listOf vT.toArray 0), (Rw, PySem.W.listOf #[.str r0 t0, .str r1 t1, .str r2 t2, .str r3 t3, .str r4 t4] nr), (Lt, PySem.W.listOf vL.toArray nl)] := fun p hp => N12 p (by
    simp only [List.mem_cons, List.not_mem_nil, or_false] at hp ⊢
    rcases hp with rfl | rfl | rfl | rfl
    · exact .inl rfl
    · exact .inr (.inl rfl)
    · exact .inr (.inr (.inr (.inr (.inl rfl))))
    · exact .inr (.inr (.inr (.inr (.inr (.inl rfl))))))
  have hps := places_le hf2 hf3
  have hfit := fun (k : Int) (h0 : 0 ≤ k) (h5 : k < 5) => due_fits hqa (fallsOf [r0, r1] ++ fallsOf [r2, r3, r4]).sum ((fallsOf [r0, r1]).length : Int) ((fallsOf [r2, r3, r4]).length : Int) k (Int.natCast_nonneg _) (Int.ofNat_le.mpr hf2.1) (Int.natCast_nonneg _) (Int.ofNat_le.mpr hf3.1) hps.2 h0 h5
  show wpAny _ _ (execs (List.drop 13 (lawBody w.params)) _) _ _ _
  refine execs_at 13 (by rw [hlen]; decide) ?_
  refine st13 (s := { s9 with heap := h12, toks := tk12 }) (q := q) X T hd hb9 (Int.natCast_nonneg _) (Int.ofNat_le.mpr hf2.1) (Int.natCast_nonneg _) (Int.ofNat_le.mpr hf3.1) hqa P12 D12 q12 r12 s12 iP iT (by rw [toldA_len]; rfl) F12 N12' hps
    (fun k a b => (hfit k a b).1) (fun k a b => (hfit k a b).2.1) (fun k a b c d => (hfit k a b).2.2.1 c d hps.1) (fun k a b => (hfit k a b).2.2.2) hdues fun s13 m13 F13 hm13 N13 hb13 ho13 => ?_
  have L13 : m13 (Str.ofString "letters") = some (.ref Lt) := (hm13 _ (by simp)).trans L12
  have R13 : m13 (Str.ofString "row") = some (.ref Rw) := (hm13 _ (by simp)).trans R12
  clear hm13 hfit hdues
  have N13' : News h₀ L s13.heap [(Rw, PySem.W.listOf #[.str r0 t0, .str r1 t1, .str r2 t2, .str r3 t3, .str r4 t4] nr), (Lt, PySem.W.listOf vL.toArray nl)] := fun p hp => N13 p (by
    simp only [List.mem_cons, List.not_mem_nil, or_false] at hp ⊢
    rcases hp with rfl | rfl
    · exact .inr (.inr (.inl rfl))
    · exact .inr (.inr (.inr rfl)))
  clear N13
  have l0 := R.w0.len.2
  have l1 := R.w1.len.2
  have l2 := R.w2.len.2
  have l3 := R.w3.len.2
  have l4 := R.w4.len.2
  show wpAny _ _ (execs (List.drop 14 (lawBody w.params)) _) _ _ _
  refine execs_at 14 (by rw [hlen]; decide) ?_
  refine st14 (s := s13) X l0 l1 l2 l3 l4 R13 F13 N13' fun h14 tk14 tt F14 N14 => ?_
  show wpAny _ _ (execs (List.drop 15 (lawBody w.params)) _) _ _ _
  refine execs_at 15 (by rw [hlen]; decide) ?_
  refine st15 X l0 l1 l2 l3 l4 (by exact R13) F14 N14 fun h15 tk15 th F15 N15 => ?_
  show wpAny _ _ (execs (List.drop 16 (lawBody w.params)) _) _ _ _
  refine execs_at 16 (by rw [hlen]; decide) ?_
  refine st16 X l0 l1 l2 l3 l4 (by exact R13) F15 N15 fun h16 tk16 tl F16 N16 => ?_
  obtain ⟨_, ⟨_, lh⟩, ⟨_, ltl⟩, ltx, _⟩ := R.parts
  show wpAny _ _ (execs (List.drop 17 (lawBody w.params)) _) _ _ _
  refine execs_at 17 (by rw [hlen]; decide) ?_
  refine st17 X (by exact Nat.le_trans lh (by decide)) (by exact Nat.le_trans ltl (by decide)) (by exact rfl) (by exact rfl) F16 N16 fun h17 tk17 tc F17 N17 => ?_
  show wpAny _ _ (execs (List.drop 18 (lawBody w.params)) _) _ _ _
  refine execs_at 18 (by rw [hlen]; decide) ?_
  refine st18 X l0 l4 (by exact R13) F17 N17 fun h18 tk18 tv F18 N18 => ?_
  show wpAny _ _ (execs (List.drop 19 (lawBody w.params)) _) _ _ _
  refine execs_at 19 (by rw [hlen]; decide) ?_
  refine st19 X (by exact Nat.le_trans lh (by decide)) (by exact Nat.le_trans ltl (by decide)) (by exact rfl) (by exact rfl) F18 N18 fun h19 tk19 tf F19 N19 => ?_
  show wpAny _ _ (execs (List.drop 20 (lawBody w.params)) _) _ _ _
  refine execs_at 20 (by rw [hlen]; decide) ?_
  refine st20 (s := { s13 with heap := h19, toks := tk19 }) X T hd hb13 (by exact rfl) (by exact rfl) (by exact rfl) (by exact rfl) (by exact rfl) (by exact rfl) (Nat.le_trans (Nat.le_of_eq ltx) (Nat.le_trans (Nat.add_le_add lh ltl) (by decide))) (Nat.le_trans lh (by decide)) (Nat.le_trans ltl (by decide)) F19 N19 R.b1 R.b2 R.b3 R.b4 R.b5 (Ell_0 (by decide)) fun s20 m20 F20 hm20 N20 hb20 ho20 => ?_
  have L20 : m20 (Str.ofString "letters") = some (.ref Lt) := (hm20 _ (by simp)).trans L13
  have R20 : m20 (Str.ofString "row") = some (.ref Rw) := (hm20 _ (by simp)).trans R13
  have hh20 : m20 (Str.ofString "head") = some (.str (tx [r0, r1, r2]) th) := (hm20 _ (by simp)).trans rfl
  have tl20 : m20 (Str.ofString "tail") = some (.str (tx [r3, r4]) tl) := (hm20 _ (by simp)).trans rfl
  have tt20 : m20 (Str.ofString "text") = some (.str (tx [r0, r1, r2, r3, r4]) tt) := (hm20 _ (by simp)).trans rfl
  have fo20 : m20 (Str.ofString "fourth") = some (.str (tx [r0, r1, r2] ++ Str.ofString "...." ++ tx [r3, r4]) tf) := (hm20 _ (by simp)).trans rfl
  clear hm20
  show wpAny _ _ (execs (List.drop 21 (lawBody w.params)) _) _ _ _
  refine execs_at 21 (by rw [hlen]; decide) ?_
  refine st21 (s := s20) X l2 (Nat.le_trans ltl (by decide)) R20 hh20 tl20 F20 N20 fun h21 tk21 Wn A1 A2 A3 A4 A5 tz F21 N21 ne21 => ?_
  show wpAny _ _ (execs (List.drop 22 (lawBody w.params)) _) _ _ _
  refine execs_at 22 (by rw [hlen]; decide) ?_
  refine st22 X l1 l2 l3 (by exact R20) (by exact rfl) (by exact fo20) F21 N21 ne21 fun h22 tk22 A6 A7 A8 v1 v2 v3 v4 v5 v6 F22 N22 => ?_
  show wpAny _ _ (execs (List.drop 23 (lawBody w.params)) _) _ _ _
  refine execs_at 23 (by rw [hlen]; decide) ?_
  have bh := Nat.le_trans lh (show 9 ≤ 30 by decide)
  have bt := Nat.le_trans ltl (show 6 ≤ 30 by decide)
  have b0 := Nat.le_trans l0 (show 3 ≤ 30 by decide)
  have b2 := Nat.le_trans l2 (show 3 ≤ 30 by decide)
  have b4 := Nat.le_trans l4 (show 3 ≤ 30 by decide)
  have be : (Str.ofString "").length ≤ 30 := by decide
  refine st23 (s := { s20 with heap := h22, toks := tk22 }) (its := [.ref A1, .ref A2, .ref A3, .ref A4, .ref A5, .ref A6, .ref A7, .ref A8]) X T hd hb20 (by exact rfl) (by exact tt20) (by news_mem) ?_ F22 N22 fun s23 m23 F23 hm23 N23 hb23 ho23 => ?_
  · intro i x hx
    rcases i with _ | _ | _ | _ | _ | _ | _ | _ | i
    · exact ⟨A1, _, _, (Option.some.inj hx).symm, by news_mem, .cons _ _ .nil, wt1 bh, @EllB.is _ _ _ _ R.c1⟩
    · exact ⟨A2, _, _, (Option.some.inj hx).symm, by news_mem, .cons _ _ .nil, wt1 bt, @EllB.is _ _ _ _ R.c2⟩
    · exact ⟨A3, _, _, (Option.some.inj hx).symm, by news_mem, .cons _ _ (.cons _ _ .nil), wt2 bh (Nat.le_trans (app_le l2 ltl) (by decide)), @EllB.is _ _ _ _ R.c3⟩
    · exact ⟨A4, _, _, (Option.some.inj hx).symm, by news_mem, .cons _ _ (.cons _ _ (.cons _ _ .nil)), wt3 bh b0 bt, @EllB.is _ _ _ _ (R.c45 R.w0)⟩
    · exact ⟨A5, _, _, (Option.some.inj hx).symm, by news_mem, .cons _ _ (.cons _ _ (.cons _ _ .nil)), wt3 bh b4 bt, @EllB.is _ _ _ _ (R.c45 R.w4)⟩
    · exact ⟨A6, _, _, (Option.some.inj hx).symm, by news_mem, .cons _ _ .nil, wt1 (Nat.le_trans (app_le (app_le lh (Nat.le_refl 4)) ltl) (by decide)), @EllB.is _ _ _ _ R.c6⟩
    · exact ⟨A7, _, _, (Option.some.inj hx).symm, by news_mem, .cons _ _ (.cons _ _ (.cons _ _ (.cons _ _ .nil))), wt4 be b2 b2 be, @EllB.is _ _ _ _ R.c7⟩
    · exact ⟨A8, _, _, (Option.some.inj hx).symm, by news_mem, .cons _ _ (.cons _ _ (.cons _ _ (.cons _ _ .nil))), wt4 be (Nat.le_trans (app_le l1 l2) (by decide)) (Nat.le_trans (app_le l2 l3) (by decide)) be, @EllB.is _ _ _ _ R.c8⟩
    · cases hx
  have L23 : m23 (Str.ofString "letters") = some (.ref Lt) := (hm23 _ (by simp)).trans L20
  have hh23 : m23 (Str.ofString "head") = some (.str (tx [r0, r1, r2]) th) := (hm23 _ (by simp)).trans hh20
  have tt23 : m23 (Str.ofString "text") = some (.str (tx [r0, r1, r2, r3, r4]) tt) := (hm23 _ (by simp)).trans tt20
  clear hm23
  have N23' : News h₀ L s23.heap [(Rw, PySem.W.listOf #[.str r0 t0, .str r1 t1, .str r2 t2, .str r3 t3, .str r4 t4] nr), (Lt, PySem.W.listOf vL.toArray nl)] := fun p hp => N23 p (by
    simp only [List.mem_cons, List.not_mem_nil, or_false] at hp ⊢
    rcases hp with rfl | rfl
    · exact .inr (.inr (.inr (.inr (.inr (.inr (.inr (.inr (.inr (.inl rfl)))))))))
    · exact .inr (.inr (.inr (.inr (.inr (.inr (.inr (.inr (.inr (.inr rfl))))))))))
  show wpAny _ _ (execs (List.drop 24 (lawBody w.params)) _) _ _ _
  refine execs_at 24 (by rw [hlen]; decide) ?_
  refine st24 (s := s23) X T hd hb23 L23 sL hLl (by rw [hL0]; exact @StripB.is _ _ _ (Strip_no hz)) F23 N23' fun s24 F24 N24 hb24 ho24 => ?_
  show wpAny _ _ (execs (List.drop 25 (lawBody w.params)) _) _ _ _
  refine execs_at 25 (by rw [hlen]; decide) ?_
  refine st25 (s := s24) X T hd hb24 hh23 tt23 (Nat.le_trans lh (by decide)) (Nat.le_trans (Nat.le_of_eq ltx) (Nat.le_trans (Nat.add_le_add lh ltl) (by decide))) (@StripB.is _ _ _ R.s25) F24 N24 fun s25 F25 N25 hb25 ho25 => ?_
  rw [beq_self_eq_true]
  exact h s25 _ F25 hb25 (by rw [ho25, ho24, ho23]; exact ho20.trans (ho13.trans (ho9.trans (ho6.trans ho5))))
end
end Mine
namespace Mine
set_option maxRecDepth 100000
open PySem PySem.W PySem.Calls PyProof.Rows PySem.Spec
set_option maxHeartbeats 4000000 in
theorem law0 : PySem.Challenge.rw_wr0014_01.Holds := hd (by
  w_on
  k_fill
  intro w s₀ s₁ mg mb G Y fa o pm cd doc dV kV ho hd hcd hD hmg hg args vals as hpre hlay hrd hwl hlo
  have KX := kIn_of Y
  refine Ground.open G fun T _ _ _ _ => ?_
  clear hmg G Y
  wrow_args hpre hlay hrd hwl hlo
  refine enter_call ?_
  w_top on
  w_call any ho hd hcd hD T F
  k_drop
  with_reducible rename (Fr _ _ _ _) => F9
  with_reducible rename (News _ _ _ _) => N9
  with_reducible rename (IntsAre _ _) => I9
  with_reducible rename (Heap.IsList _ _ _) => L9
  with_reducible rename (¬ _ < _) => C9
  show wpAny _ _ (execs (lawBody w.params) (envOfC (Str.ofString "law") (lawScope w.params) s₁.heap.objs.size fa _)) _ _ _
  refine law_body (s := { s₁ with heap := _, toks := _ }) KX T (by show callerA.depth + 1 + 9 < recursionLimit; decide) (by show callerA.units + 3 + 64 < cLine; decide) (by show AllBare s₁.gens; rw [hg]; exact AllBare.empty) F9 N9 (by assumption) (by assumption) (by assumption) L9 I9 (by omega) ?_
  intro s' m' F' hb' ho'
  refine ⟨.inl ⟨_, _, [], rfl, fun _ => rfl, ReadsW.bool true, ?_, fun _ => ⟨List.nodup_nil, fun _ hm => (nomatch hm)⟩⟩, .of_keep F'.keep, ho', hb'⟩
  wrow_post)
end Mine

theorem PySem.Challenge.cw_wr0014_01_holds : PySem.Challenge.rw_wr0014_01.Holds :=
  Mine.law0
