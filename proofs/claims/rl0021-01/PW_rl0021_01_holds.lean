import PyProof.Rows.All
import Wide.All
import OpenK.AllK
import Wide.FinOn
import PySem.Challenge.RW_rl0021_01
set_option Elab.async false
set_option linter.unusedVariables false
section
open PySem PySem.W PyProof.Rows
set_option maxRecDepth 100000
set_option maxHeartbeats 8000000
namespace Mine
local macro_rules | `(tactic| k_head) => `(tactic| x_head)
open_top hd for PySem.Challenge.rw_rl0021_01
end Mine
end
section
open PySem PySem.W PyProof.Rows PySem.Calls
set_option maxRecDepth 100000
set_option maxHeartbeats 0
namespace Mine
abbrev PR : Program := PySem.Challenge.rw_rl0021_01.row.prog
abbrev AR (fr : Option (List Env)) (gd : Option (List Code)) : Around := { handled := none, depth := 400, frames := fr, guards := gd, units := 100 }
abbrev AR2 (fr : Option (List Env)) (gd : Option (List Code)) : Around := { handled := none, depth := 500, frames := fr, guards := gd, units := 200 }
def Grow (h h' : Heap) : Prop := ∀ b o, h.get? b = some o → h'.get? b = some o
theorem Grow.refl (h : Heap) : Grow h h := fun _ _ e => e
theorem Grow.trans {a b c : Heap} (x : Grow a b) (y : Grow b c) : Grow a c := fun k o e => y k o (x k o e)
theorem Grow.ns {h h' : Heap} {L : Addr} {m : Str → Option Value} (g : Grow h h') (n : h.Ns L m) : h'.Ns L m := by
  obtain ⟨o, es, ep, ho, r⟩ := n
  exact ⟨o, es, ep, g _ _ ho, r⟩
theorem Grow.fr {h₀ h h' : Heap} {L : Addr} {m : Str → Option Value} (g : Grow h h') (F : Fr h₀ L h m) : Fr h₀ L h' m :=
  ⟨g.ns F.ns, fun b o e => g b o (F.keep b o e), F.above⟩
theorem Grow.news {h₀ h h' : Heap} {L : Addr} {news : List (Addr × Obj)} (g : Grow h h') (N : News h₀ L h news) : News h₀ L h' news :=
  fun p hp => ⟨g _ _ (N p hp).1, (N p hp).2⟩
theorem Grow.add {h₀ h h' : Heap} {L D : Addr} {o : Obj} {m : Str → Option Value} {news : List (Addr × Obj)} (g : Grow h h') (F : Fr h₀ L h m) (N : News h₀ L h news)
    (hD : h'.get? D = some o) (hn : h.get? D = none) : News h₀ L h' ((D, o) :: news) := by
  intro p hp
  rcases List.mem_cons.mp hp with rfl | hp
  · obtain ⟨oL, _, _, hL, _⟩ := F.ns
    refine ⟨hD, fun e => ?_, ?_⟩
    · have e' : D = L := e
      rw [e', hL] at hn; cases hn
    · cases q : h₀.get? D with
      | none => rfl
      | some o' => rw [F.keep _ _ q] at hn; cases hn
  · exact g.news N p hp
theorem Grow.isList {h h' : Heap} {l : Addr} {its : Array Value} (g : Grow h h') (x : h.IsList l its) : h'.IsList l its := by
  obtain ⟨o, ho, r⟩ := x
  exact ⟨o, g _ _ ho, r⟩
theorem Grow.kin {K : Frag} {h h' : Heap} (g : Grow h h') (X : K.In h) : K.In h' := X.keeps g

theorem weaken {α : Type} {M : Model} {A : Around} {t : Sem α} {Q : α → Shared → Prop} {E : Value → Shared → Prop} {s : Shared} (hh : A.handled = none) (hd : A.depth ≤ 400) (hu : A.units ≤ 100)
    (h : wpAny M (AR A.frames A.guards) t Q E s) : wpAny M A t Q E s := fun Γ p hΓ =>
  h Γ p ⟨hΓ.1.trans hh, Nat.le_trans hΓ.2.1 hd, hΓ.2.2.1, hΓ.2.2.2.1, Nat.le_trans hΓ.2.2.2.2 hu⟩

theorem weaken2 {α : Type} {M : Model} {A : Around} {t : Sem α} {Q : α → Shared → Prop} {E : Value → Shared → Prop} {s : Shared} (hh : A.handled = none) (hd : A.depth ≤ 500) (hu : A.units ≤ 200)
    (h : wpAny M (AR2 A.frames A.guards) t Q E s) : wpAny M A t Q E s := fun Γ p hΓ =>
  h Γ p ⟨hΓ.1.trans hh, Nat.le_trans hΓ.2.1 hd, hΓ.2.2.1, hΓ.2.2.2.1, Nat.le_trans hΓ.2.2.2.2 hu⟩

theorem enter {prog : Program} {w : World} {A : Around} {s : Shared} {K : Frag} {p : Program} {loose : List Str} {mean : ExcName → Option Value} {mg mb : Str → Option Value}
    {Q E : Value → Shared → Prop} {name qual : Str} {params : Arguments} {body : List Stmt} {scope : Scope} {dV kV doc pm cdv ct oc : Value} {an od : Option Addr} {osl : Array (Option Value)} {f : Addr} {args : List Value} {binds : List (Str × Value)}
    (X : K.In s.heap) (T : Top p loose mean mg mb s.heap)
    (ho : K.lookup f = some ⟨oc, od, .func (fnOf name qual params body scope dV kV doc pm an cdv ct), osl⟩) (hcd : codeIn K cdv qual = true) (hroom : A.depth < recursionLimit)
    (hbind : BindsTo s (fnOf name qual params body scope dV kV doc pm an cdv ct) ⟨args, []⟩ binds) (hloc : ∀ y ∈ binds, scope.names.lookup y.1 = some .local)
    (h : ∀ h₁ L, Fr s.heap L h₁ (fun y => binds.reverse.lookup y) → News s.heap L h₁ [] →
      wpAny (model prog w) (A.deeper (envOf qual scope L f cdv)) (execs body (envOf qual scope L f cdv))
        (fun fl s' => Q (match fl with | .ret v => v | _ => .none) s') (fun _ _ => False)
        { s with heap := h₁, toks := s.toks + binds.length })
    (hco : scope.isCoroutine = false := by rfl) (hgen : scope.isGenerator = false := by rfl) (hk : scope.kind = .function := by rfl)
    (hcell : ∀ x ∈ scope.names, x.2 ≠ .cell := by decide) : wpAny (model prog w) A (call (.ref f) args) Q E s := by
  refine wpAny_call (codeAny_call_def (fd := fnOf name qual params body scope dV kV doc pm an cdv ct) (body := body) (binds := binds) hroom (X _ _ ho) rfl T.nolimit (codeRec_of X hcd) rfl hbind hcell hloc (fun h₁ hns hk₁ => ?_) hco hgen hk)
  exact wpAny_mono (h h₁ _ ⟨hns, hk₁, Nat.le_refl _⟩ News.nil) (fun fl s' hl => hl) fun _ _ x => x.elim
end Mine
end
section
open PySem PySem.W PyProof.Rows PySem.Calls
set_option maxRecDepth 100000
set_option maxHeartbeats 0
namespace Mine
/-- what stands beside the k-th bit -/
def besideL (bs : List Int) (k : Nat) : List Int :=
  List.take (min (k : Int).toNat bs.length - (if (k : Int) - 1 > 0 then (k : Int) - 1 else 0).toNat) (List.drop (if (k : Int) - 1 > 0 then (k : Int) - 1 else 0).toNat bs) ++
    List.take (min ((k : Int) + 2).toNat bs.length - ((k : Int) + 1).toNat) (List.drop ((k : Int) + 1).toNat bs)
/-- the bits behind a turn of the k-th row -/
def toldL (bs : List Int) (k : Nat) : List Int :=
  List.take (k : Int).toNat bs ++ [if bs.getD (k : Int).toNat 0 = 1 ∨ ((besideL bs k).any fun x => x == 1) = true then 0 else 1] ++ List.drop ((k : Int) + 1).toNat bs
section
theorem told_end {s : Shared} {Q : Value → Shared → Prop} {bs : List Int} {k : Nat}
    (hret : ∀ D ws h' tk', Grow s.heap h' → h'.get? D = some (listOf (List.toArray ws) 0) → s.heap.get? D = none → IntsAre ws (toldL bs k) → Q (.ref D) { s with heap := h', toks := tk' })
    {D L : Addr} {ws : List Value} {h' : Heap} {tk' : Nat} {m : Str → Option Value} {rest : List (Addr × Obj)} {r : Int} (F : Fr s.heap L h' m) (N : News s.heap L h' ((D, listOf (List.toArray ws) 0) :: rest))
    (hi : IntsAre ws (List.take (k : Int).toNat bs ++ [r] ++ List.drop ((k : Int) + 1).toNat bs)) (hr : r = if bs.getD (k : Int).toNat 0 = 1 ∨ ((besideL bs k).any fun x => x == 1) = true then 0 else 1) :
    Q (.ref D) { heap := h', gens := s.gens, drawn := s.drawn, toks := tk', os := s.os } := by
  subst hr
  exact hret D ws h' tk' F.keep (N _ (.head _)).1 (N _ (.head _)).2.2 hi
local macro_rules | `(tactic| walk_at "subscriptTail Name Slice ref ref") => `(tactic| (k_here; (with_reducible show wpAny _ _ (subscriptTail _ (PySem.Expr.Slice _ _ none _) (Value.ref _) (Value.ref _)) _ _ _); k_dflt (refine' kmk_slice_ints ?F ?N ?l ?p ?q ?i ?m rfl ?_ ?s ?t ?z; (case F => k_asm); (case N => k_asm); (case l => kmk_list); (case p => kmk_part); (case q => kmk_part); (case i => l_ints); (case m => first | exact kmk_from (by assumption) (by omega) | exact kmk_upto (by assumption) (by omega) | exact kmk_run (by assumption) (by omega) (by omega)); (case s => with_unfolding_all rfl); (case t => kmk_pure); (case z => exact kmk_sz (by assumption) (by rw [sizeLine_eq]; omega))); intro D' ws' h' F' N' l1 hI' hC' hL'; clear l1 hC'; (try k_sweep)))
local macro_rules | `(tactic| walk_at "binaryOp Add ref ref") => `(tactic| (k_here; (with_reducible show wpAny _ _ (binaryOp _ (Value.ref _) (Value.ref _)) _ _ _); k_dflt (refine' kmk_add_ints ?F ?N ?a ?b ?i ?j ?_ ?z; (case F => k_asm); (case N => k_asm); (case a => kmk_list); (case b => kmk_list); (case i => l_ints); (case j => l_ints); (case z => (simp only [sizeLine_eq, List.length_append, List.length_cons, List.length_nil, List.length_take, List.length_drop]; omega))); intro D' ws' h' F' N' l1 hI'; clear l1; (try k_sweep)))
local macro_rules | `(tactic| k_steps) => `(tactic| repeat' (first | (k_unfold; (try dsimp only)) | ((with_reducible show wpAny _ _ (eval _ _) _ _ _); dsimp only; walk1) | ((with_reducible show wpAny _ _ (execs _ _) _ _ _); dsimp only; walk1) | walk1 | (dsimp only; walk1) | fail "no step"))
theorem told {w : World} {fr gd} {s : Shared} {p : Program} {loose : List Str} {mean : ExcName → Option Value} {mg mb : Str → Option Value} {Q E : Value → Shared → Prop} {bl : Addr} {vs : List Value} {bs : List Int} {k : Nat} {tk : Tok}
    (X : (Mine.hd.heap_39 w.params).In s.heap) (T : Top p loose mean mg mb s.heap)
    (hb : s.heap.IsList bl vs.toArray) (hi : IntsAre vs bs) (hk : k < bs.length) (hl : bs.length ≤ 6)
    (hret : ∀ D ws h' tk', Grow s.heap h' → h'.get? D = some (listOf (List.toArray ws) 0) → s.heap.get? D = none → IntsAre ws (toldL bs k) → Q (.ref D) { s with heap := h', toks := tk' }) :
    wpAny (model PR w) (AR fr gd) (call (.ref 74) [.ref bl, .int (k : Int) tk]) Q E s := by
  have hfill : (fun (_ : OpenLaw) (_ : Params → Frag) => True) PySem.Challenge.rw_rl0021_01 Mine.hd.heap_39 := by
    k_fill
    trivial
  clear hfill
  k_dflt (refine' enter (binds := [(Str.ofString "bits", .ref bl), (Str.ofString "k", .int (k : Int) tk)]) X T ?k6 ?k7 ?k8 ?k9 ?kB ?_ ?c2 ?c3 ?c4 ?c5)
  case k6 => k_is
  case k7 => k_is
  case k8 => exact of_decide_eq_true rfl
  case k9 => exact BindsTo.of_eq rfl
  case kB => exact locs rfl
  case c2 => exact rfl
  case c3 => exact rfl
  case c4 => exact rfl
  case c5 => decide
  intro h₁ L F N
  dsimp only [List.reverse_cons, List.reverse_nil, List.nil_append, List.cons_append, List.length_cons, List.length_nil] at *
  k_fold
  w_strict k_steps
  · exact told_end hret (by assumption) (by assumption) (by assumption) (by rw [if_pos (.inl (by assumption))])
  · exact told_end hret (by assumption) (by assumption) (by assumption) (by rw [if_pos (.inr (by assumption))])
  · refine told_end hret (by assumption) (by assumption) (by assumption) ?_
    rw [if_neg]
    rintro (q | q)
    · exact absurd q (by assumption)
    · have e : ((besideL bs k).any fun x => x == 1) = false := by assumption
      rw [e] at q
      cases q
end
end Mine
end
section
open PySem PySem.W PyProof.Rows PySem.Calls PySem.Builtin PySem.Builtin.Str
set_option maxRecDepth 100000
set_option maxHeartbeats 0
namespace Mine
def rowIn (x : Nat) : Str := ⟨#[32, 32, x]⟩
def rowOut (x : Nat) : Str := ⟨#[32, x]⟩
def midOf (x : Nat) : Str := ⟨#[32, 32, x, 13, 10, 32, 32, x, 13, 10]⟩
def wantOf (x : Nat) : Str := ⟨#[46, 46, 46, 32, 32, x, 13, 10, 32, 32, x, 13, 10, 46, 46, 46]⟩
def nil : Str := ⟨#[]⟩
theorem letters {P : Nat → Prop} (h : ∀ c : Fin 26, P (97 + c.val)) {x : Nat} (hx : 97 ≤ x ∧ x < 123) : P x := by
  have := h ⟨x - 97, by omega⟩
  rwa [show 97 + (⟨x - 97, by omega⟩ : Fin 26).val = x by show 97 + (x - 97) = x; omega] at this
theorem want_has {x : Nat} (hx : 97 ≤ x ∧ x < 123) : (occurrences (wantOf x) (Str.ofString "...") 0 (wantOf x).length 1).isEmpty = false :=
  letters (P := fun x => (occurrences (wantOf x) (Str.ofString "...") 0 (wantOf x).length 1).isEmpty = false) (by decide +kernel) hx
theorem want_split {x : Nat} (hx : 97 ≤ x ∧ x < 123) : Txt.split (wantOf x) (Str.ofString "...") = [nil, midOf x, nil] :=
  letters (P := fun x => Txt.split (wantOf x) (Str.ofString "...") = [nil, midOf x, nil]) (by decide +kernel) hx
/-- the first place from lo on, in a text up to hi -/
theorem occ_one (x y : Str) (lo hi : Nat) :
    (occurrences x y lo hi 1 = [] ∧ ∀ i, lo ≤ i → i ≤ hi → ¬ (i + y.length ≤ hi ∧ subAt x y i = true)) ∨
    ∃ i r, occurrences x y lo hi 1 = i :: r ∧ lo ≤ i ∧ i + y.length ≤ hi := by
  rw [StrLaws.occ_eq]
  rcases StrLaws.occ_first x y hi 1 (Nat.le_refl _) (List.range' lo (hi + 1 - lo)) lo (fun i h => (List.mem_range'_1.mp h).1) with ⟨h0, hn⟩ | ⟨pre, a, post, e, h0, ha, _⟩
  · refine .inl ⟨by rw [h0], fun i h1 h2 h3 => hn i (List.mem_range'_1.mpr ⟨h1, by omega⟩) h3⟩
  · have hm : a ∈ List.range' lo (hi + 1 - lo) := by rw [e]; simp
    have hl := (List.mem_range'_1.mp hm).1
    rw [← Array.getElem?_toList] at h0
    cases hq : ((forIn (List.range' lo (hi + 1 - lo)) ((#[] : Array Nat), lo) (StrLaws.occBody x y hi 1)).run.fst).toList with
    | nil => rw [hq] at h0; cases h0
    | cons b r =>
      rw [hq] at h0
      cases h0
      exact .inr ⟨a, r, rfl, hl, ha.1⟩
def find4 (x y : Str) (i j : Int) : Int := match occurrences x y (fromIndex x.length i) (min (fromIndex x.length j) x.length) 1 with | k :: _ => (k : Int) | [] => -1
theorem gives_find4 (x y : Str) (i j : Int) (t u v z : Tok) : Gives («str.find» ⟨[.str x t, .str y u, .int i v, .int j z], []⟩) (.int (find4 x y i j)) := by
  unfold find4
  show Gives (match occurrences x y (fromIndex x.length i) (min (fromIndex x.length j) x.length) 1 with | k :: _ => retInt k | [] => (do rule "str.find.not-found"; retInt (-1))) _
  cases occurrences x y (fromIndex x.length i) (min (fromIndex x.length j) x.length) 1 with
  | nil => exact .rule (.of_eq rfl)
  | cons k _ => exact .of_eq rfl
theorem call_find4 {prog : Program} {w : World} {A : Around} {E : Value → Shared → Prop} {s : Shared} {x y : Str} {i j : Int} {t u v z : Tok} {Q : Value → Shared → Prop}
    (hq : Q (.int (find4 x y i j) s.toks) { s with toks := s.toks + 1 }) : wpAny (model prog w) A (call (.builtin "str.find") [.str x t, .str y u, .int i v, .int j z]) Q E s :=
  call_gives F.slot_str_find (typeIs_str _ _ _) F.entry_str_find (F.args_str_find_4 _ _ _ _) (gives_find4 x y i j t u v z) hq
theorem from_nat (n k : Nat) : fromIndex n (k : Int) = k := by unfold fromIndex; rw [if_neg (by omega)]; omega
theorem subAt_nil (x : Str) (i : Nat) : subAt x nil i = true := by
  unfold subAt nil
  simp [Str.length]
  omega
theorem find4_nil {x : Str} {k : Nat} (h : k ≤ x.length) : find4 x nil (k : Int) (x.length : Int) = k := by
  unfold find4
  rw [from_nat, from_nat, Nat.min_self, StrLaws.occ_eq]
  rcases StrLaws.occ_first x nil x.length 1 (Nat.le_refl _) (List.range' k (x.length + 1 - k)) k (fun i h => (List.mem_range'_1.mp h).1) with ⟨h0, hn⟩ | ⟨pre, a, post, e, h0, ha, hp⟩
  · exact absurd ⟨h, subAt_nil x k⟩ (hn k (List.mem_range'_1.mpr ⟨Nat.le_refl _, by omega⟩))
  · have hak : a = k := by
      cases pre with
      | nil =>
        have : (List.range' k (x.length + 1 - k)).head? = some a := by rw [e]; rfl
        rw [List.head?_range', if_neg (by omega)] at this
        exact (Option.some.inj this).symm
      | cons b r =>
        exfalso
        have hb : b ∈ List.range' k (x.length + 1 - k) := by rw [e]; simp
        have := List.mem_range'_1.mp hb
        exact hp b (.head _) ⟨by show b + 0 ≤ x.length; omega, subAt_nil x b⟩
    subst hak
    rw [← Array.getElem?_toList] at h0
    cases hq : ((forIn (List.range' a (x.length + 1 - a)) ((#[] : Array Nat), a) (StrLaws.occBody x nil x.length 1)).run.fst).toList with
    | nil => rw [hq] at h0; cases h0
    | cons b r => rw [hq] at h0; cases h0; rfl
/-- is y in x -/
def hasText (x y : Str) : Bool := !(occurrences x y 0 x.length 1).isEmpty
theorem find4_zero (x y : Str) : (find4 x y 0 (x.length : Int) < 0 ∧ hasText x y = false) ∨ ∃ k : Nat, find4 x y 0 (x.length : Int) = k ∧ k + y.length ≤ x.length ∧ hasText x y = true := by
  unfold find4 hasText
  rw [show (0 : Int) = ((0 : Nat) : Int) from rfl, from_nat, from_nat, Nat.min_self]
  rcases occ_one x y 0 x.length with ⟨h, _⟩ | ⟨i, r, h, _, hi⟩
  · rw [h]; exact .inl ⟨by decide, rfl⟩
  · rw [h]; exact .inr ⟨i, rfl, hi, rfl⟩
end Mine
end
section
open PySem PySem.W PyProof.Rows PySem.Calls PySem.Builtin PySem.Builtin.Str
set_option maxRecDepth 100000
set_option maxHeartbeats 0
namespace Mine
section
variable {prog : Program} {w : World} {A : Around} {E : Value → Shared → Prop} {s : Shared} {h₀ : Heap} {L : Addr} {m : Str → Option Value} {news : List (Addr × Obj)} {Q : Value → Shared → Prop} {x : Nat}
theorem call_split {t u : Tok} (hx : 97 ≤ x ∧ x < 123) (F : Fr h₀ L s.heap m) (N : News h₀ L s.heap news)
    (h : ∀ D h' k t1 t2 t3, Fr h₀ L h' m → News h₀ L h' ((D, listOf #[.str nil t1, .str (midOf x) t2, .str nil t3] 0) :: news) → Q (.ref D) { s with heap := h', toks := k }) :
    wpAny (model prog w) A (call (.builtin "str.split") [.str (wantOf x) t, .str (Str.ofString "...") u]) Q E s := by
  refine splitN1A F N (by decide +kernel) (fun l h' k e _ _ _ F' N' => ?_) (by show 16 + 2 ≤ _; rw [sizeLine_eq]; omega)
  rw [want_split hx] at e
  match l, e with
  | [(_, t1), (_, t2), (_, t3)], rfl => exact h _ h' k t1 t2 t3 F' N'
theorem notin_want {t u : Tok} (hx : 97 ≤ x ∧ x < 123) (h : Q (.bool false) s) : wpAny (model prog w) A (compareOp .NotIn (.str (Str.ofString "...") u) (.str (wantOf x) t)) Q E s := by
  refine notIn_str ?_
  rw [want_has hx]
  exact h
theorem truthy_nil {t : Tok} {Q : Bool → Shared → Prop} (h : Q false { s with toks := s.toks + 1 + 1 }) : wpAny (model prog w) A (truthy (.str nil t)) Q E s :=
  PySem.P.truthy_str (by decide) h
theorem len_nil {t : Tok} (h : Q (.int 0 (s.toks + 1)) { s with toks := s.toks + 1 + 1 }) : wpAny (model prog w) A (call (.builtin "len") [.str nil t]) Q E s := len_str (by decide) h
theorem len_mid {t : Tok} (h : Q (.int 10 (s.toks + 1)) { s with toks := s.toks + 1 + 1 }) : wpAny (model prog w) A (call (.builtin "len") [.str (midOf x) t]) Q E s := len_str (by show ¬ ((10 : Nat) : Int) ≥ 2 ^ 63; decide) h
theorem find_nil {got : Str} {i : Int} {t u v z : Tok} (h0 : 0 ≤ i) (h1 : i ≤ got.length) (h : Q (.int i s.toks) { s with toks := s.toks + 1 }) :
    wpAny (model prog w) A (call (.builtin "str.find") [.str got t, .str nil u, .int i v, .int (got.length : Int) z]) Q E s := by
  obtain ⟨k, rfl⟩ := Int.eq_ofNat_of_zero_le h0
  refine call_find4 ?_
  rw [find4_nil (by omega)]
  exact h
theorem find_mid {got : Str} {t u v z : Tok} (hn : ∀ r : Int, r < 0 → hasText got (midOf x) = false → Q (.int r s.toks) { s with toks := s.toks + 1 })
    (hp : ∀ k : Nat, k + 10 ≤ got.length → hasText got (midOf x) = true → Q (.int (k : Int) s.toks) { s with toks := s.toks + 1 }) :
    wpAny (model prog w) A (call (.builtin "str.find") [.str got t, .str (midOf x) u, .int 0 v, .int (got.length : Int) z]) Q E s := by
  refine call_find4 ?_
  rcases find4_zero got (midOf x) with ⟨h1, h2⟩ | ⟨k, h1, h2, h3⟩
  · exact hn _ h1 h2
  · rw [h1]; exact hp k h2 h3
theorem elli_end {s : Shared} {Q : Value → Shared → Prop} {got : Str}
    (hret : ∀ h' tk', Grow s.heap h' → Q (.bool (hasText got (midOf x))) { s with heap := h', toks := tk' })
    {L : Addr} {h' : Heap} {tk' : Nat} {b : Bool} (F : Fr s.heap L h' m) (hb : hasText got (midOf x) = b) :
    Q (.bool b) { heap := h', gens := s.gens, drawn := s.drawn, toks := tk', os := s.os } := by
  subst hb
  exact hret h' tk' F.keep
end
section
local macro_rules | `(tactic| walk_at "compareOp NotIn str str") => `(tactic| (k_here; refine notin_want (by assumption) ?_))
local macro_rules | `(tactic| walk_at "call builtin:str.split") => `(tactic| (k_here; refine call_split (by assumption) (by k_asm) (by k_asm) ?_; intro D' h' k' t1' t2' t3' F' N'))
local macro_rules | `(tactic| walk_at "truthy str") => `(tactic| (k_here; refine truthy_nil ?_))
local macro_rules | `(tactic| walk_at "call builtin:str.find") => `(tactic| (k_here; first | refine find_nil (by omega) (by omega) ?_ | (refine find_mid ?_ ?_ <;> intro k' hk' hm')))
local macro_rules | `(tactic| walk_at "call builtin:len") => `(tactic| (k_here; first | refine len_nil ?_ | refine len_mid ?_))
local macro_rules | `(tactic| k_steps) => `(tactic| repeat' (first | (k_unfold; (try dsimp only)) | ((with_reducible show wpAny _ _ (eval _ _) _ _ _); dsimp only; walk1) | ((with_reducible show wpAny _ _ (execs _ _) _ _ _); dsimp only; walk1) | walk1 | (dsimp only; walk1) | fail "no step"))
theorem elli {w : World} {fr gd} {s : Shared} {p : Program} {loose : List Str} {mean : ExcName → Option Value} {mg mb : Str → Option Value} {Q E : Value → Shared → Prop} {x : Nat} {got : Str} {t0 t1 : Tok}
    (X : (Mine.hd.heap_39 w.params).In s.heap) (T : Top p loose mean mg mb s.heap) (hx : 97 ≤ x ∧ x < 123) (hg : got.length ≤ 100)
    (hret : ∀ h' tk', Grow s.heap h' → Q (.bool (hasText got (midOf x))) { s with heap := h', toks := tk' }) :
    wpAny (model PR w) (AR2 fr gd) (call (.ref 38) [.str (wantOf x) t0, .str got t1]) Q E s := by
  have hfill : (fun (_ : OpenLaw) (_ : Params → Frag) => True) PySem.Challenge.rw_rl0021_01 Mine.hd.heap_39 := by
    k_fill
    trivial
  clear hfill
  k_dflt (refine' enter (binds := [(Str.ofString "want", .str (wantOf x) t0), (Str.ofString "got", .str got t1)]) X T ?k6 ?k7 ?k8 ?k9 ?kB ?_ ?c2 ?c3 ?c4 ?c5)
  case k6 => k_is
  case k7 => k_is
  case k8 => exact of_decide_eq_true rfl
  case k9 => exact BindsTo.of_eq rfl
  case kB => exact locs rfl
  case c2 => exact rfl
  case c3 => exact rfl
  case c4 => exact rfl
  case c5 => decide
  intro h₁ L F N
  dsimp only [List.reverse_cons, List.reverse_nil, List.nil_append, List.cons_append, List.length_cons, List.length_nil] at *
  k_fold
  w_strict k_steps
  · exact elli_end hret (by assumption) (by assumption)
  · exact elli_end hret (by assumption) (by assumption)
end
end Mine
end
section
open PySem PySem.W PyProof.Rows PySem.Calls PySem.Builtin PySem.Builtin.Str
set_option maxRecDepth 100000
set_option maxHeartbeats 0
namespace Mine
theorem while_unroll {prog : Program} {w : World} {A : Around} {R : Result → Shared → Prop} {s : Shared} {test : PySem.Expr} {body : List Stmt} {env : Env}
    (h : wpAny (model prog w) A (isTrue test env (eval test env)) (fun b s₂ =>
        if b = true then wpAny (model prog w) A (execs body env) (fun f s₃ => match f with
            | .next | .cont => codeAny (model prog w) A (.whileLoop test body [] env) R s₃
            | .brk => R (.ok .next) s₃
            | .ret v => R (.ok (.ret v)) s₃) (notedBy (model prog w) A env fun e s' => R (.error e) s') s₂
        else R (.ok .next) s₂)
        (notedBy (model prog w) A env fun e s' => R (.error e) s') s) : codeAny (model prog w) A (.whileLoop test body [] env) R s := by
  refine codeAny_of_tree ?_
  show wpAny _ A ((whileTurn test body [] env).onRaise (fun x => do noteFrame x env; theTreesLotGoes x)) _ _ s
  refine wpAny_noted ?_
  simp only [whileTurn]
  refine wpAny_bind (wpAny_mono h (fun b s₂ h₂ => ?_) fun _ _ h' => h')
  cases b with
  | false =>
    simp only [Bool.false_eq_true, if_false] at h₂ ⊢
    exact wpAny_bind (wpAny_execs_nil (wpAny_pure h₂))
  | true =>
    simp only [if_true] at h₂ ⊢
    refine wpAny_bind (wpAny_mono h₂ (fun f s₃ h₃ => ?_) fun _ _ h' => h')
    cases f with
    | next => exact wpAny_pure ⟨rfl, h₃⟩
    | cont => exact wpAny_pure ⟨rfl, h₃⟩
    | brk => exact wpAny_pure h₃
    | ret v => exact wpAny_pure h₃
section
variable {prog : Program} {w : World} {A : Around} {E : Value → Shared → Prop} {s : Shared} {Q : Value → Shared → Prop} {x : Nat}
theorem item_blank {value slice : PySem.Expr} {t u : Tok} (h : Q (.str ⟨#[32]⟩ s.toks) { s with toks := s.toks + 1 })
    (hs : subscripted slice false (.str (rowIn x) t) (.int 0 u) = operate [.str (rowIn x) t, .int 0 u] (getItem (.str (rowIn x) t) (.int 0 u)))
    (ht : ∀ r, letTemporaryGo value (.str (rowIn x) t) r = pure ()) : wpAny (model prog w) A (subscriptTail value slice (.str (rowIn x) t) (.int 0 u)) Q E s :=
  KXi.item (n := 3) rfl (by decide) (by decide) (by decide) (fun _ => h) hs ht
theorem eq_blank {t u : Tok} (h : Q (.bool true) s) : wpAny (model prog w) A (compareOp .Eq (.str ⟨#[32]⟩ t) (.str (Str.ofString " ") u)) Q E s := by
  refine eq_str ?_
  rw [show ((⟨#[32]⟩ : Str) == Str.ofString " ") = true by decide +kernel]
  exact h
theorem len_in {t : Tok} (h : Q (.int 3 (s.toks + 1)) { s with toks := s.toks + 1 + 1 }) : wpAny (model prog w) A (call (.builtin "len") [.str (rowIn x) t]) Q E s := len_str (by show ¬ ((3 : Nat) : Int) ≥ 2 ^ 63; decide) h
end
section
local macro_rules | `(tactic| walk_at "PAD") => `(tactic| fail "pad")
local macro_rules | `(tactic| walk_at "subscriptTail Name Name str int") => `(tactic| (k_here; refine item_blank ?_ (by with_unfolding_all rfl) (by intro _; with_unfolding_all rfl)))
local macro_rules | `(tactic| walk_at "compareOp Eq str str") => `(tactic| (k_here; refine eq_blank ?_))
local macro_rules | `(tactic| walk_at "call builtin:len") => `(tactic| (k_here; refine len_in ?_))
local macro_rules | `(tactic| walk_at "exec While BoolOp cons nil") => `(tactic| (k_here; refine wpAny_While (while_unroll ?_)))
local macro_rules | `(tactic| walk_at "exec While") => `(tactic| (k_here; refine wpAny_While (while_unroll ?_)))
local macro_rules | `(tactic| k_steps) => `(tactic| repeat' (first | (k_unfold; (try dsimp only)) | ((with_reducible show codeAny _ _ (Code.whileLoop _ _ _ _) _ _); dsimp only; refine while_unroll ?_) | (dsimp only; (with_reducible show codeAny _ _ (Code.whileLoop _ _ _ _) _ _); refine while_unroll ?_) | ((with_reducible show wpAny _ _ (eval _ _) _ _ _); dsimp only; walk1) | ((with_reducible show wpAny _ _ (execs _ _) _ _ _); dsimp only; walk1) | walk1 | (dsimp only; walk1) | fail "no step"))
theorem strip {w : World} {fr gd} {s : Shared} {p : Program} {loose : List Str} {mean : ExcName → Option Value} {mg mb : Str → Option Value} {Q E : Value → Shared → Prop} {x : Nat} {t0 t1 : Tok}
    (X : (Mine.hd.heap_39 w.params).In s.heap) (T : Top p loose mean mg mb s.heap)
    (hret : ∀ t h' tk', Grow s.heap h' → Q (.str (rowOut x) t) { s with heap := h', toks := tk' }) :
    wpAny (model PR w) (AR2 fr gd) (call (.ref 45) [.str (rowIn x) t0, .int 1 t1]) Q E s := by
  have hfill : (fun (_ : OpenLaw) (_ : Params → Frag) => True) PySem.Challenge.rw_rl0021_01 Mine.hd.heap_39 := by
    k_fill
    trivial
  clear hfill
  k_dflt (refine' enter (binds := [(Str.ofString "s", .str (rowIn x) t0), (Str.ofString "amount", .int 1 t1)]) X T ?k6 ?k7 ?k8 ?k9 ?kB ?_ ?c2 ?c3 ?c4 ?c5)
  case k6 => k_is
  case k7 => k_is
  case k8 => exact of_decide_eq_true rfl
  case k9 => exact BindsTo.of_eq rfl
  case kB => exact locs rfl
  case c2 => exact rfl
  case c3 => exact rfl
  case c4 => exact rfl
  case c5 => decide
  intro h₁ L F N
  dsimp only [List.reverse_cons, List.reverse_nil, List.nil_append, List.cons_append, List.length_cons, List.length_nil] at *
  k_fold
  w_strict k_steps
  rename_i F' N'
  exact hret _ _ _ F'.keep
end
end Mine
end
section
open PySem PySem.W PyProof.Rows PySem.Calls PySem.Builtin PySem.Builtin.Re
set_option maxRecDepth 100000
set_option maxHeartbeats 0
namespace Mine
def code1 : Array Nat := #[14, 4, 0, 1, 1, 6, 1, 16, 46, 1]
def code2 : Array Nat := #[14, 9, 4, 1, 2, 16, 10, 16, 13, 0, 7, 7, 16, 13, 16, 10, 15, 18, 5, 16, 10, 15, 13, 11, 16, 13, 5, 5, 0, 16, 10, 1, 15, 2, 0, 1]
def drive : Nat → Sre.M → Sre.M
  | 0, m => m
  | n + 1, m => drive n (m.runFor reTurnSteps)
def told? (m : Sre.M) : Option (Option (Nat × Nat)) := match m.outcome with
  | some .matched => some (some (m.start, m.handed))
  | some .failed => some none
  | _ => none
def found (code text : Array Nat) (start : Nat) (must : Bool) : Option (Option (Nat × Nat)) := told? (drive 30 (Sre.forSearch code text 0 start text.size must))
theorem runFor_done {m : Sre.M} (h : m.outcome.isSome = true) : ∀ n, m.runFor n = m
  | 0 => rfl
  | n + 1 => by unfold Sre.M.runFor; rw [if_pos h]
theorem drive_done {m : Sre.M} (h : m.outcome.isSome = true) : ∀ n, drive n m = m
  | 0 => rfl
  | n + 1 => by unfold drive; rw [runFor_done h]; exact drive_done h n
section
variable {M : Model} {A : Around} {E : Value → Shared → Prop} {s : Shared}
theorem wp_drive {Q : Sre.M → Shared → Prop} : ∀ (j N : Nat) (m : Sre.M), j < N → (drive (j + 1) m).outcome.isSome = true → Q (drive (j + 1) m) s → wpAny M A (reDrive N m) Q E s
  | j, 0, _, h, _, _ => absurd h (Nat.not_lt_zero _)
  | j, N + 1, m, h, ho, hq => by
    unfold reDrive
    dsimp only
    cases hm : (m.runFor reTurnSteps).outcome.isSome with
    | true =>
      rw [if_pos rfl]
      unfold drive at hq
      rw [drive_done hm] at hq
      exact wpAny_pure hq
    | false =>
      rw [if_neg Bool.false_ne_true]
      cases j with
      | zero =>
        exfalso
        have : (m.runFor reTurnSteps).outcome.isSome = true := ho
        rw [hm] at this
        cases this
      | succ j => exact wpAny_bind (wpAny_rule (wp_drive j N _ (Nat.lt_of_succ_lt_succ h) ho hq))
theorem wp_toEnd {m : Sre.M} {Q : Option Sre.M → Shared → Prop} {r : Option (Nat × Nat)} (h : told? (drive 30 m) = some r)
    (hp : ∀ m' a b, r = some (a, b) → m'.start = a → m'.handed = b → Q (some m') s) (hn : r = none → Q none s) : wpAny M A (reRunToEnd m) Q E s := by
  unfold reRunToEnd
  have hs : (drive 30 m).outcome.isSome = true := by
    unfold told? at h
    revert h
    cases (drive 30 m).outcome with
    | none => intro h; cases h
    | some _ => intro _; rfl
  refine wpAny_bind (wp_drive 29 _ _ (by decide) hs ?_)
  clear hs
  generalize drive 30 m = m' at h
  refine wpAny_bind ?_
  refine wpAny_forIn_list _ (fun _ _ s' => s' = s) _ (fun i rest b s' hs' => ?_) (fun b s' hs' => ?_) _ _ rfl
  · subst hs'
    split
    · exact wpAny_bind (wpAny_rule (wpAny_pure rfl))
    · exact wpAny_pure rfl
  · subst hs'
    unfold told? at h
    revert h
    cases m'.outcome with
    | none => intro h; cases h
    | some o =>
      cases o with
      | matched => intro h; cases h; exact wpAny_pure (hp m' _ _ rfl rfl rfl)
      | failed => intro h; cases h; exact wpAny_pure (hn rfl)
      | stuck _ => intro h; cases h
end
theorem found_n0 {x : Nat} (hx : 97 ≤ x ∧ x < 123) : found code2 #[46, x, 10] 0 false = some (some (2, 3)) :=
  letters (P := fun x => found code2 #[46, x, 10] 0 false = some (some (2, 3))) (by decide +kernel) hx
theorem found_n1 {x : Nat} (hx : 97 ≤ x ∧ x < 123) : found code2 #[46, x, 10] 3 false = some none :=
  letters (P := fun x => found code2 #[46, x, 10] 3 false = some none) (by decide +kernel) hx
theorem found_r0 {x : Nat} (hx : 97 ≤ x ∧ x < 123) : found code2 #[46, x, 13] 0 false = some (some (2, 3)) :=
  letters (P := fun x => found code2 #[46, x, 13] 0 false = some (some (2, 3))) (by decide +kernel) hx
theorem found_r1 {x : Nat} (hx : 97 ≤ x ∧ x < 123) : found code2 #[46, x, 13] 3 false = some none :=
  letters (P := fun x => found code2 #[46, x, 13] 3 false = some none) (by decide +kernel) hx
theorem found_c0 {x : Nat} (hx : 97 ≤ x ∧ x < 123) : found code2 #[46, x, 13, 10] 0 false = some (some (2, 4)) :=
  letters (P := fun x => found code2 #[46, x, 13, 10] 0 false = some (some (2, 4))) (by decide +kernel) hx
theorem found_c1 {x : Nat} (hx : 97 ≤ x ∧ x < 123) : found code2 #[46, x, 13, 10] 4 false = some none :=
  letters (P := fun x => found code2 #[46, x, 13, 10] 4 false = some none) (by decide +kernel) hx
theorem found_d0 {x : Nat} (hx : 97 ≤ x ∧ x < 123) : found code1 #[46, x, 13, 10] 0 false = some (some (0, 1)) :=
  letters (P := fun x => found code1 #[46, x, 13, 10] 0 false = some (some (0, 1))) (by decide +kernel) hx
theorem found_d1 {x : Nat} (hx : 97 ≤ x ∧ x < 123) : found code1 #[46, x, 13, 10] 1 false = some none :=
  letters (P := fun x => found code1 #[46, x, 13, 10] 1 false = some none) (by decide +kernel) hx
end Mine
end
section
open PySem PySem.W PyProof.Rows PySem.Calls PySem.Builtin PySem.Builtin.Re
set_option maxRecDepth 100000
set_option maxHeartbeats 0
namespace Mine
theorem rp_attrs : PlainAttrs "re.Pattern" :=
  ⟨⟨"object.__getattribute__", by rw [typeLookup_type, builtinLookup_eq_fast]; kernel_rfl, by decide +kernel⟩, by rw [typeLookup_type, builtinLookup_eq_fast]; kernel_rfl⟩
theorem rp_slot : Slot "re.Pattern" "sub" "re.Pattern.sub" :=
  .of (owner := "re.Pattern") (n := "sub") (by rw [typeLookup_type, builtinLookup_eq_fast]; kernel_rfl) (by decide +kernel) (by decide +kernel) (by decide +kernel)
    (by first | exact .inl (by decide +kernel) | exact .inr (by decide +kernel)) (by rw [isSubtype_type]; kernel_rfl)
theorem rp_type : typeOf (.builtin "re.Pattern.sub") = pure (.type "method_descriptor") := by show builtinType _ = _; rw [builtinType_eq_fast]; kernel_rfl
theorem rp_entry : entryFor table "re.Pattern.sub" = some Builtin.«re.Pattern.sub» := entryFor_of_tree (by kernel_rfl)
theorem rp_loop : entryFor table "re.Pattern.sub.loop" = some Builtin.«re.Pattern.sub.loop» := entryFor_of_tree (by kernel_rfl)
theorem rp_owner : Manifest.owners.lookup (String.ofList ['n', 'r', 'e', 't', 't', 'a', 'P', '.', 'e', 'r'].reverse) = some Manifest.sig_re_Pattern := by kernel_rfl
theorem rp_args (a b c : Value) : argsOk "re.Pattern.sub" ⟨[a, b, c], []⟩ := by
  unfold argsOk; rw [signature?_of (id := "re.Pattern.sub") (n := ['b', 'u', 's']) (o := ['n', 'r', 'e', 't', 't', 'a', 'P', '.', 'e', 'r']) (by kernel_rfl) rp_owner]; kernel_rfl
theorem str_nocall : typeLookup (.type "str") "__call__" = pure none := by rw [typeLookup_type, builtinLookup_eq_fast]; kernel_rfl

/-- a compiled pattern at P, its words at C -/
structure Pat (h : Heap) (P C : Addr) (code : Array Nat) : Prop where
  obj : ∃ a b c d : Value, h.get? P = some ⟨.type "re.Pattern", none, .fields #[a, b, .int 0 0, c, d, .ref C, .int 0 0], #[]⟩
  words : ∃ n vs, h.get? C = some ⟨.type "tuple", none, .seq vs n, #[]⟩ ∧ (vs.map reRawOf).map (·.toNat) = code
theorem Pat.grow {h h' : Heap} {P C : Addr} {code : Array Nat} (p : Pat h P C code) (g : Grow h h') : Pat h' P C code := by
  obtain ⟨⟨a, b, c, d, e⟩, ⟨n, vs, f, k⟩⟩ := p
  exact ⟨⟨a, b, c, d, g _ _ e⟩, ⟨n, vs, g _ _ f, k⟩⟩
section
variable {prog : Program} {w : World} {A : Around} {E : Value → Shared → Prop} {s : Shared} {P C l : Addr} {code : Array Nat} {x : Str} {tx : Tok}
theorem wp_target {M : Model} {Q : ReTarget → Shared → Prop} (p : Pat s.heap P C code)
    (h : Q { pattern := .ref P, string := .str x tx, code, text := x.cps, kind := 0, groups := 0, pos := 0, lim := x.cps.size } s) : wpAny M A (reWholeTarget (.ref P) (.str x tx)) Q E s := by
  obtain ⟨⟨a, b, c, d, e⟩, ⟨n, vs, f, k⟩⟩ := p
  unfold reWholeTarget
  refine wpAny_bind (wpAny_fieldsOf e rfl ?_)
  refine wpAny_bind (wpAny_bind (wpAny_pure (wpAny_pure ?_)))
  show wpAny M A (do
    let words ← reRawItems (.ref C)
    pure { pattern := Value.ref P, string := .str x tx, code := words.map (·.toNat), text := x.cps, kind := 0, groups := 0, pos := 0, lim := x.cps.size }) Q E s
  unfold reRawItems
  refine wpAny_bind (wpAny_bind (wpAny_seqItems f rfl (wpAny_pure (wpAny_pure ?_))))
  show Q { pattern := Value.ref P, string := .str x tx, code := (vs.map reRawOf).map (·.toNat), text := x.cps, kind := 0, groups := 0, pos := 0, lim := x.cps.size } s
  rw [k]
  exact h

theorem upd_list {h₀ h : Heap} {l : Addr} {its : Array Value} {e : Nat} {f : Array Value → Array Value} (g : Grow h₀ h) (hl : h.get? l = some (listOf its e)) (hn : h₀.get? l = none) :
    Grow h₀ (h.update l (Obj.mapSeq f)) ∧ ∃ e', (h.update l (Obj.mapSeq f)).get? l = some (listOf (f its) e') := by
  refine ⟨fun b o q => ?_, _, Heap.get?_update_self _ hl rfl⟩
  have hb : b ≠ l := fun z => by rw [z, hn] at q; cases q
  exact (Heap.get?_update_ne _ _ _ _ hb).trans (g b o q)
abbrev loopArgs (P : Addr) (x : Str) (tx : Tok) (r : Str) (tr : Tok) (n dn st : Int) (must : Bool) (l : Addr) : Args :=
  ⟨[.ref P, .str x tx, .str r tr, rawInt 0, rawInt 0, rawInt n, rawInt dn, rawInt st, .bool must, .ref l, .bool false], []⟩
abbrev postOf (prog : Program) (w : World) (A : Around) (R : Result → Shared → Prop) : Fin → Shared → Prop :=
  fun fin s' => match fin with | .done f => R (.ok f) s' | .again c' => c'.quiet = true ∧ codeAny (model prog w) A c' R s'
variable {R : Result → Shared → Prop} {h₀ : Heap} {its : Array Value} {e : Nat} {r : Str} {tr : Tok} {n : Int} {dn st a b : Nat} {must : Bool}
theorem loop_hit (p : Pat h₀ P C code) (g : Grow h₀ s.heap) (hl : s.heap.get? l = some (listOf its e)) (hn : h₀.get? l = none) (hz : its.size ≤ 10) (hx : x.cps.size ≤ 10)
    (hf : found code x.cps st must = some (some (a, b)))
    (k : ∀ its' e' h' tk, Grow h₀ h' → h'.get? l = some (listOf its' e') → (if dn < a then ∃ t, its' = (its.push (.str ⟨x.cps.extract dn a⟩ t)).push (.str r tr) else its' = its.push (.str r tr)) →
      codeAny (model prog w) A (.builtin "re.Pattern.sub.loop" (loopArgs P x tx r tr (n + 1) b b (b == a) l)) R { s with heap := h', toks := tk }) :
    codeAny (model prog w) A (.builtin "re.Pattern.sub.loop" (loopArgs P x tx r tr n dn st must l)) R s := by
  refine codeAny_builtin rp_loop ?_
  unfold Builtin.«re.Pattern.sub.loop»
  refine wpAny_bind (wp_target (p.grow g) ?_)
  refine wpAny_bind (wpAny_bind (wpAny_pure (wpAny_pure ?_)))
  refine wpAny_bind (m := reNextFound _ (st : Int).toNat must) ?_
  unfold reNextFound
  refine wp_toEnd (r := some (a, b)) hf (fun m' a' b' h1 h2 h3 => ?_) fun h => nomatch h
  cases h1
  subst h2 h3
  by_cases hd : dn < m'.start
  · obtain ⟨g1, e1, q1⟩ := upd_list (f := fun xs => xs.push (.str ⟨x.cps.extract dn m'.start⟩ s.toks)) g hl hn
    obtain ⟨g2, e2, q2⟩ := upd_list (f := fun xs => xs.push (.str r tr)) g1 q1 hn
    dsimp only
    rw [if_pos (show (dn : Int).toNat < m'.start from hd), if_pos (show ((0 : Int) == 0) = true from rfl)]
    refine wpAny_bind (m := mkStr ⟨x.cps.extract dn m'.start⟩) (wpAny_mkStr ?_ ?_)
    · refine wpAny_bind (wpAny_updateSeq hl rfl ?_ (by rw [sizeLine_eq]; omega) (by rw [Array.size_push, sizeLine_eq]; omega))
      refine wpAny_bind (wpAny_pure ?_)
      rw [if_pos (show ((Value.str r tr) != Value.none) = true from rfl)]
      refine wpAny_bind (wpAny_updateSeq q1 rfl ?_ (by rw [Array.size_push, sizeLine_eq]; omega) (by rw [Array.size_push, Array.size_push, sizeLine_eq]; omega))
      exact wpAny_pure ⟨plainId_quiet (by decide +kernel) _, k _ _ _ _ g2 q2 (by rw [if_pos hd]; exact ⟨_, rfl⟩)⟩
    · show (x.cps.extract dn m'.start).size ≤ _
      rw [Array.size_extract, sizeLine_eq]
      omega
  · obtain ⟨g2, e2, q2⟩ := upd_list (f := fun xs => xs.push (.str r tr)) g hl hn
    dsimp only
    rw [if_neg (show ¬ (dn : Int).toNat < m'.start from hd), if_pos (show ((0 : Int) == 0) = true from rfl)]
    refine wpAny_bind (wpAny_pure ?_)
    rw [if_pos (show ((Value.str r tr) != Value.none) = true from rfl)]
    refine wpAny_bind (wpAny_updateSeq hl rfl ?_ (by rw [sizeLine_eq]; omega) (by rw [Array.size_push, sizeLine_eq]; omega))
    exact wpAny_pure ⟨plainId_quiet (by decide +kernel) _, k _ _ _ _ g2 q2 (by rw [if_neg hd])⟩
theorem loop_end (p : Pat h₀ P C code) (g : Grow h₀ s.heap) (hl : s.heap.get? l = some (listOf its e)) (hn : h₀.get? l = none) (hz : its.size ≤ 10) (hi : 1 ≤ its.size) (hx : x.cps.size ≤ 10)
    (hf : found code x.cps st must = some none) {ys : List Str}
    (ha : ∀ t, StrsAre (if dn < x.cps.size then its.push (.str ⟨x.cps.extract dn x.cps.size⟩ t) else its).toList ys) (hy : (ys.map (·.length)).sum ≤ 1000)
    (k : ∀ h' tk t, Grow h₀ h' → R (.ok (.ret (.str (Txt.join nil ys) t))) { s with heap := h', toks := tk }) :
    codeAny (model prog w) A (.builtin "re.Pattern.sub.loop" (loopArgs P x tx r tr n dn st must l)) R s := by
  refine codeAny_builtin rp_loop ?_
  unfold Builtin.«re.Pattern.sub.loop»
  refine wpAny_bind (wp_target (p.grow g) ?_)
  refine wpAny_bind (wpAny_bind (wpAny_pure (wpAny_pure ?_)))
  refine wpAny_bind (m := reNextFound _ (st : Int).toNat must) ?_
  unfold reNextFound
  refine wp_toEnd (r := none) hf (fun _ _ _ h => nomatch h) fun _ => ?_
  dsimp only
  have fin : ∀ (its' : Array Value) (e' : Nat) (h' : Heap) (tk : Nat), Grow h₀ h' → h'.get? l = some (listOf its' e') → 1 ≤ its'.size → StrsAre its'.toList ys →
      wpAny (model prog w) (A.under (Code.builtin "re.Pattern.sub.loop" (loopArgs P x tx r tr n dn st must l)))
        (do
          let joiner ← reSlice x.cps 0 0 0
          let c ← seqItems? (.ref l)
          let text ← if (c.getD #[]).isEmpty = true then pure joiner else call (.builtin "str.join") [joiner, .ref l]
          if false = true then do ret (← holding [text] do newTuple [text, ← mkInt n]) else ret text)
        (postOf prog w A R) (fun e s' => R (.error e) s') { s with heap := h', toks := tk } := by
    intro its' e' h' tk g' q' hs ha'
    refine wpAny_bind (m := mkStr ⟨x.cps.extract 0 0⟩) (wpAny_mkStr ?_ ?_)
    · refine wpAny_bind (wpAny_seqItems q' rfl ?_)
      have hne : its'.isEmpty = false := by
        rw [Array.isEmpty_eq_false_iff]
        intro z; rw [z] at hs; exact absurd hs (by decide)
      rw [if_neg (show ¬ (((some its').getD #[]).isEmpty = true) from by rw [show ((some its').getD #[]) = its' from rfl, hne]; exact Bool.false_ne_true)]
      have hj : (⟨x.cps.extract 0 0⟩ : Str) = nil := by unfold nil; congr 1; simp
      rw [hj]
      refine wpAny_bind (join_list ⟨_, q', rfl, e', rfl⟩ ha' (by show _ + _ * 0 ≤ _; omega) fun t' k' => ?_)
      dsimp only
      rw [if_neg Bool.false_ne_true]
      exact wpAny_pure (k _ _ _ g')
    · show (x.cps.extract 0 0).size ≤ _
      simp
  by_cases hd : dn < x.cps.size
  · obtain ⟨g1, e1, q1⟩ := upd_list (f := fun xs => xs.push (.str ⟨x.cps.extract dn x.cps.size⟩ s.toks)) g hl hn
    rw [if_pos (show (dn : Int).toNat < x.cps.size from hd)]
    refine wpAny_bind (m := mkStr ⟨x.cps.extract dn x.cps.size⟩) (wpAny_mkStr ?_ ?_)
    · refine wpAny_bind (wpAny_updateSeq hl rfl ?_ (by rw [sizeLine_eq]; omega) (by rw [Array.size_push, sizeLine_eq]; omega))
      have q := ha s.toks
      rw [if_pos hd] at q
      exact fin _ _ _ _ g1 q1 (by rw [Array.size_push]; omega) q
    · show (x.cps.extract dn x.cps.size).size ≤ _
      rw [Array.size_extract, sizeLine_eq]
      omega
  · rw [if_neg (show ¬ (dn : Int).toNat < x.cps.size from hd)]
    have q := ha 0
    rw [if_neg hd] at q
    exact fin its e s.heap s.toks g hl hi q
theorem call_sub {Q : Value → Shared → Prop} (p : Pat s.heap P C code) (hr : r.cps.contains 92 = false)
    (k : ∀ l h', Grow s.heap h' → h'.get? l = some (listOf #[] 0) → s.heap.get? l = none →
      codeAny (model prog w) A (.builtin "re.Pattern.sub.loop" (loopArgs P x tx r tr 0 ((0 : Nat) : Int) ((0 : Nat) : Int) false l)) (fun r s' => match r with | .ok (.ret v) => Q v s' | .ok _ => False | .error e => E e s') { s with heap := h' }) :
    wpAny (model prog w) A (call (.builtin "re.Pattern.sub") [.ref P, .str r tr, .str x tx]) Q E s := by
  obtain ⟨a, b, c, d, ho⟩ := p.obj
  refine wpAny_call (codeAny_call_builtin rp_slot.plain rp_entry (rp_slot.check _ _ _ _ _ _ _ _ ⟨_, ho, rfl⟩ (rp_args _ _ _) ?_))
  unfold Builtin.«re.Pattern.sub» reSubstitute
  have e1 : reNamed "re.Pattern.sub" "sub" ["repl", "string", "count"] 2 [.str r tr, .str x tx] [] = pure [some (.str r tr), some (.str x tx), none] := by kernel_rfl
  dsimp only
  rw [e1]
  refine wpAny_bind (wpAny_pure ?_)
  refine wpAny_bind (wpAny_pure ?_)
  refine wpAny_bind (wpAny_specialOf (typeIs_str _ _ _) str_nocall ?_)
  rw [if_neg (show ¬ ((none : Option Value).isSome = true) from Bool.false_ne_true)]
  refine wpAny_bind (m := asStr? (.str r tr)) (wpAny_pure ?_)
  refine wpAny_bind (wpAny_pure ?_)
  rw [if_neg (show ¬ ((none : Option Value).isSome = true) from Bool.false_ne_true), hr, if_pos (show (!false) = true from rfl)]
  refine wpAny_bind (wpAny_pure ?_)
  refine wpAny_bind (wpAny_holding (wp_target p ?_))
  dsimp only
  rw [if_neg (show ¬ (((0 : Int) == 1) = true) from Bool.false_ne_true)]
  refine wpAny_bind (wpAny_newList ?_ (by decide))
  refine wpAny_pure ⟨plainId_quiet (by decide +kernel) _, k s.heap.objs.size _ (fun b o e => Heap.get?_push_of_some _ e) (Heap.get?_push_size _ rfl) ?_⟩
  cases q : s.heap.get? s.heap.objs.size with
  | none => rfl
  | some o => exact absurd (Heap.lt_size q) (Nat.lt_irrefl _)
/-- what the pieces of one hit are -/
def pieces (x r : Str) (a b : Nat) : List Str := (if 0 < a then [⟨x.cps.extract 0 a⟩] else []) ++ [r] ++ (if b < x.cps.size then [⟨x.cps.extract b x.cps.size⟩] else [])
theorem sub_once {Q : Value → Shared → Prop} (p : Pat s.heap P C code) (hr : r.cps.contains 92 = false) (hx : x.cps.size ≤ 10) (hz : r.cps.size ≤ 10) (hab : (b == a) = false)
    (f0 : found code x.cps 0 false = some (some (a, b))) (f1 : found code x.cps b false = some none)
    (k : ∀ h' tk t, Grow s.heap h' → Q (.str (Txt.join nil (pieces x r a b)) t) { s with heap := h', toks := tk }) :
    wpAny (model prog w) A (call (.builtin "re.Pattern.sub") [.ref P, .str r tr, .str x tx]) Q E s := by
  refine call_sub p hr fun l h' g hl hn => ?_
  refine loop_hit p g hl hn (by decide) hx f0 fun its' e' h2 tk g2 hl2 hi => ?_
  rw [hab]
  have hlen : ∀ u v : Nat, Str.length ⟨x.cps.extract u v⟩ ≤ 10 := fun u v => by
    show (x.cps.extract u v).size ≤ 10
    rw [Array.size_extract]; omega
  have hrl : r.length ≤ 10 := hz
  refine loop_end p g2 hl2 hn ?_ ?_ hx f1 (ys := pieces x r a b) ?_ ?_ fun h3 tk3 t3 g3 => k h3 tk3 t3 g3
  · split at hi
    · obtain ⟨t, rfl⟩ := hi; simp only [Array.size_push, List.size_toArray, List.length_nil]; omega
    · subst hi; simp only [Array.size_push, List.size_toArray, List.length_nil]; omega
  · split at hi
    · obtain ⟨t, rfl⟩ := hi; simp only [Array.size_push, List.size_toArray, List.length_nil]; omega
    · subst hi; simp only [Array.size_push, List.size_toArray, List.length_nil]; omega
  · intro t
    unfold pieces
    by_cases ha : 0 < a
    · rw [if_pos ha] at hi ⊢
      obtain ⟨t', rfl⟩ := hi
      by_cases hb : b < x.cps.size
      · rw [if_pos hb, if_pos hb]; exact .cons _ _ (.cons _ _ (.cons _ _ .nil))
      · rw [if_neg hb, if_neg hb]; exact .cons _ _ (.cons _ _ .nil)
    · rw [if_neg ha] at hi ⊢
      subst hi
      by_cases hb : b < x.cps.size
      · rw [if_pos hb, if_pos hb]; exact .cons _ _ (.cons _ _ .nil)
      · rw [if_neg hb, if_neg hb]; exact .cons _ _ .nil
  · unfold pieces
    have h1 := hlen 0 a
    have h2 := hlen b x.cps.size
    split <;> split <;> simp only [List.nil_append, List.cons_append, List.map_cons, List.map_nil, List.sum_cons, List.sum_nil, List.append_nil] <;> omega
end
end Mine
end
section
open PySem PySem.W PyProof.Rows PySem.Calls PySem.Builtin PySem.Builtin.Re
set_option maxRecDepth 100000
set_option maxHeartbeats 0
namespace Mine
theorem pat_of {K : Frag} {h : Heap} {P C : Addr} {code : Array Nat} {a b c d : Value} {vs : Array Value} {n : Nat} (X : K.In h)
    (h1 : K.lookup P = some ⟨.type "re.Pattern", none, .fields #[a, b, .int 0 0, c, d, .ref C, .int 0 0], #[]⟩) (h2 : K.lookup C = some ⟨.type "tuple", none, .seq vs n, #[]⟩) (h3 : (vs.map reRawOf).map (·.toNat) = code) : Pat h P C code :=
  ⟨⟨a, b, c, d, X _ _ h1⟩, ⟨n, vs, X _ _ h2, h3⟩⟩
theorem pat1 {w : World} {h : Heap} (X : (Mine.hd.heap_39 w.params).In h) : Pat h 50 49 code1 := by
  have hfill : (fun (_ : OpenLaw) (_ : Params → Frag) => True) PySem.Challenge.rw_rl0021_01 Mine.hd.heap_39 := by
    k_fill
    trivial
  clear hfill
  k_dflt (refine' pat_of X ?a ?b ?c)
  case a => k_is
  case b => k_is
  case c => kernel_rfl
theorem pat2 {w : World} {h : Heap} (X : (Mine.hd.heap_39 w.params).In h) : Pat h 55 54 code2 := by
  have hfill : (fun (_ : OpenLaw) (_ : Params → Frag) => True) PySem.Challenge.rw_rl0021_01 Mine.hd.heap_39 := by
    k_fill
    trivial
  clear hfill
  k_dflt (refine' pat_of X ?a ?b ?c)
  case a => k_is
  case b => k_is
  case c => kernel_rfl
def ends : List Str := [⟨#[10]⟩, ⟨#[13]⟩, ⟨#[13, 10]⟩]
/-- the row as it is sent: a dot, the letter, the line end -/
def sentIn (x : Nat) (e : Str) : Str := ⟨#[46, x] ++ e.cps⟩
def crlf : Str := ⟨#[13, 10]⟩
theorem once_ends {x : Nat} (hx : 97 ≤ x ∧ x < 123) {e : Str} (he : e ∈ ends) : ∃ a b, (b == a) = false ∧ found code2 (sentIn x e).cps 0 false = some (some (a, b)) ∧ found code2 (sentIn x e).cps b false = some none ∧
    Txt.join nil (pieces (sentIn x e) (Str.ofString "\r\n") a b) = sentIn x crlf := by
  rcases List.mem_cons.mp he with rfl | he
  · exact ⟨2, 3, rfl, found_n0 hx, found_n1 hx, letters (P := fun x => Txt.join nil (pieces (sentIn x ⟨#[10]⟩) (Str.ofString "\r\n") 2 3) = sentIn x crlf) (by decide +kernel) hx⟩
  rcases List.mem_cons.mp he with rfl | he
  · exact ⟨2, 3, rfl, found_r0 hx, found_r1 hx, letters (P := fun x => Txt.join nil (pieces (sentIn x ⟨#[13]⟩) (Str.ofString "\r\n") 2 3) = sentIn x crlf) (by decide +kernel) hx⟩
  rcases List.mem_cons.mp he with rfl | he
  · exact ⟨2, 4, rfl, found_c0 hx, found_c1 hx, letters (P := fun x => Txt.join nil (pieces (sentIn x ⟨#[13, 10]⟩) (Str.ofString "\r\n") 2 4) = sentIn x crlf) (by decide +kernel) hx⟩
  · cases he
def dotted (x : Nat) : Str := ⟨#[46, 46, x, 13, 10]⟩
theorem once_dot {x : Nat} (hx : 97 ≤ x ∧ x < 123) : Txt.join nil (pieces (sentIn x crlf) (Str.ofString "..") 0 1) = dotted x :=
  letters (P := fun x => Txt.join nil (pieces (sentIn x crlf) (Str.ofString "..") 0 1) = dotted x) (by decide +kernel) hx
section
variable {prog : Program} {w : World} {A : Around} {E : Value → Shared → Prop} {s : Shared} {h₀ : Heap} {L : Addr} {m : Str → Option Value} {news : List (Addr × Obj)} {Q : Value → Shared → Prop} {x : Nat} {e : Str}
theorem sub_eol {tr tx : Tok} (X : (Mine.hd.heap_39 w.params).In h₀) (F : Fr h₀ L s.heap m) (N : News h₀ L s.heap news) (hx : 97 ≤ x ∧ x < 123) (he : e ∈ ends)
    (k : ∀ h' tk t, Fr h₀ L h' m → News h₀ L h' news → Q (.str (sentIn x crlf) t) { s with heap := h', toks := tk }) :
    wpAny (model prog w) A (call (.builtin "re.Pattern.sub") [.ref 55, .str (Str.ofString "\r\n") tr, .str (sentIn x e) tx]) Q E s := by
  obtain ⟨a, b, h1, h2, h3, h4⟩ := once_ends hx he
  refine sub_once (pat2 (X.keeps F.keep)) (by decide +kernel) ?_ (by decide +kernel) h1 h2 h3 fun h' tk t g => ?_
  · rcases List.mem_cons.mp he with rfl | he
    · exact Nat.le_of_ble_eq_true rfl
    rcases List.mem_cons.mp he with rfl | he
    · exact Nat.le_of_ble_eq_true rfl
    rcases List.mem_cons.mp he with rfl | he
    · exact Nat.le_of_ble_eq_true rfl
    · cases he
  · rw [h4]
    exact k h' tk t (Grow.fr g F) (Grow.news g N)
theorem sub_dot {tr tx : Tok} (X : (Mine.hd.heap_39 w.params).In h₀) (F : Fr h₀ L s.heap m) (N : News h₀ L s.heap news) (hx : 97 ≤ x ∧ x < 123)
    (k : ∀ h' tk t, Fr h₀ L h' m → News h₀ L h' news → Q (.str (dotted x) t) { s with heap := h', toks := tk }) :
    wpAny (model prog w) A (call (.builtin "re.Pattern.sub") [.ref 50, .str (Str.ofString "..") tr, .str (sentIn x crlf) tx]) Q E s := by
  refine sub_once (pat1 (X.keeps F.keep)) (by decide +kernel) (by show 4 ≤ 10; decide) (by decide +kernel) (a := 0) (b := 1) rfl (found_d0 hx) (found_d1 hx) fun h' tk t g => ?_
  rw [once_dot hx]
  exact k h' tk t (Grow.fr g F) (Grow.news g N)
theorem meth_sub {P C : Addr} {code : Array Nat} {pl : Sem Bool} {Q : Value × List Value → Shared → Prop} (p : Pat s.heap P C code) (h : Q (.builtin "re.Pattern.sub", [.ref P]) s) : wpAny (model prog w) A (getMethod (.ref P) (Str.ofString "sub") pl) Q E s := by
  obtain ⟨a, b, c, d, ho⟩ := p.obj
  refine getMethod_builtin ⟨_, ho, rfl⟩ rp_attrs rp_slot rp_type (fun a' ha => ?_) h
  cases ha
  exact ⟨_, ho, rfl⟩
end
section
local macro_rules | `(tactic| walk_at "getMethod ref") => `(tactic| (k_here; first | refine meth_sub (pat1 (by k_in)) ?_ | refine meth_sub (pat2 (by k_in)) ?_))
local macro_rules | `(tactic| walk_at "call builtin:re.Pattern.sub") => `(tactic| (k_here; first | (refine sub_eol (by k_asm) (by k_asm) (by k_asm) (by assumption) (by assumption) ?_; intro h' tk' t' F' N') | (refine sub_dot (by k_asm) (by k_asm) (by k_asm) (by assumption) ?_; intro h' tk' t' F' N')))
local macro_rules | `(tactic| k_steps) => `(tactic| repeat' (first | (k_unfold; (try dsimp only)) | ((with_reducible show wpAny _ _ (eval _ _) _ _ _); dsimp only; walk1) | ((with_reducible show wpAny _ _ (execs _ _) _ _ _); dsimp only; walk1) | walk1 | (dsimp only; walk1) | fail "no step"))
theorem quote {w : World} {fr gd} {s : Shared} {p : Program} {loose : List Str} {mean : ExcName → Option Value} {mg mb : Str → Option Value} {Q E : Value → Shared → Prop} {x : Nat} {e : Str} {t0 : Tok}
    (X : (Mine.hd.heap_39 w.params).In s.heap) (T : Top p loose mean mg mb s.heap) (hx : 97 ≤ x ∧ x < 123) (he : e ∈ ends)
    (hret : ∀ t h' tk', Grow s.heap h' → Q (.str (dotted x) t) { s with heap := h', toks := tk' }) :
    wpAny (model PR w) (AR2 fr gd) (call (.ref 62) [.str (sentIn x e) t0]) Q E s := by
  have hfill : (fun (_ : OpenLaw) (_ : Params → Frag) => True) PySem.Challenge.rw_rl0021_01 Mine.hd.heap_39 := by
    k_fill
    trivial
  clear hfill
  k_dflt (refine' enter (binds := [(Str.ofString "data", .str (sentIn x e) t0)]) X T ?k6 ?k7 ?k8 ?k9 ?kB ?_ ?c2 ?c3 ?c4 ?c5)
  case k6 => k_is
  case k7 => k_is
  case k8 => exact of_decide_eq_true rfl
  case k9 => exact BindsTo.of_eq rfl
  case kB => exact locs rfl
  case c2 => exact rfl
  case c3 => exact rfl
  case c4 => exact rfl
  case c5 => decide
  intro h₁ L F N
  dsimp only [List.reverse_cons, List.reverse_nil, List.nil_append, List.cons_append, List.length_cons, List.length_nil] at *
  k_fold
  w_strict k_steps
  rename_i F' N'
  exact hret _ _ _ F'.keep
end
end Mine
end
section
open PySem PySem.W PyProof.Rows PySem.Calls
set_option maxRecDepth 100000
set_option maxHeartbeats 0
namespace Mine
/-- tokens are only ever made -/
theorem runs_toks {M : Model} {Γ : Ctx} {p : Pos} {t : Sem PySem.Fin} {fs : List Frame} {s s' : Shared} {e : End} (h : Runs M Γ p t fs s e s') : s.toks ≤ s'.toks := by
  induction h with
  | fresh _ ih => exact Nat.le_trans (Nat.le_succ _) ih
  | call _ _ i1 i2 => exact Nat.le_trans i1 i2
  | resumeFresh _ _ _ _ i1 i2 => exact Nat.le_trans i1 i2
  | resumeSuspended _ _ _ _ i1 i2 => exact Nat.le_trans i1 i2
  | segRet _ _ i1 i2 => exact Nat.le_trans i1 i2
  | segGen _ _ i1 i2 => exact Nat.le_trans i1 i2
  | segSuspGen _ _ _ _ i1 i2 => exact Nat.le_trans i1 i2
  | _ => first | exact Nat.le_refl _ | assumption
theorem wakes_toks {M : Model} {Γ : Ctx} {p : Pos} {g : Nat} {r : Resume} {s s' : Shared} {res : GenResult} (h : Wakes M Γ p g r s res s') : s.toks ≤ s'.toks := by
  unfold Wakes at h
  split at h
  · cases h
  · split at h
    · obtain ⟨e, s₁, hr, _, _, rfl⟩ := h; have z := runs_toks hr; exact z
    · rw [h.2]; exact Nat.le_refl _
    · rw [h.2]; exact Nat.le_refl _
  · obtain ⟨e, s₁, hr, _, _, rfl⟩ := h; have z := runs_toks hr; exact z
  · rw [h.2]; exact Nat.le_refl _
  · rw [h.2]; exact Nat.le_refl _
theorem wp_toks {α : Type} {M : Model} {Γ : Ctx} {Q : α → Pos → Shared → Prop} {E : Value → Pos → Shared → Prop} {n : Nat} (t : Sem α) (p : Pos) (s : Shared) (hn : n ≤ s.toks) (h : Sem.wp M Γ t Q E p s) :
    Sem.wp M Γ t (fun a p' s' => Q a p' s' ∧ n ≤ s'.toks) (fun e p' s' => E e p' s' ∧ n ≤ s'.toks) p s := by
  induction t generalizing p s with
  | pure x => exact ⟨h, hn⟩
  | raise v => exact ⟨h, hn⟩
  | unsupported | finish | yield | fork | await | register => exact h
  | fresh k ih => exact ih _ _ _ (Nat.le_succ_of_le hn) h
  | rule _ k ih | «at» _ k ih | alloc _ k ih | loadIfAlive _ k ih | point _ k ih | ask k ih | os _ _ k ih | handled _ k ih | newGen _ k ih | stack k ih | thread k ih => exact ih _ _ _ hn h
  | load a _ k ih | genState a k ih => obtain ⟨o, ho, h⟩ := h; exact ⟨o, ho, ih _ _ _ hn h⟩
  | update a _ f k ih | choose _ _ k ih => obtain ⟨ha, h⟩ := h; exact ⟨ha, ih _ _ _ hn h⟩
  | call c hd g l k ih => obtain ⟨r, s', hr, h⟩ := h; exact ⟨r, s', hr, ih _ _ _ (Nat.le_trans hn (runs_toks hr)) h⟩
  | resume g r l k ih => obtain ⟨res, s', hw, h⟩ := h; exact ⟨res, s', hw, ih _ _ _ (Nat.le_trans hn (wakes_toks hw)) h⟩
theorem any_toks {α : Type} {M : Model} {A : Around} {t : Sem α} {Q : α → Shared → Prop} {E : Value → Shared → Prop} {s : Shared} (h : wpAny M A t Q E s) : wpAny M A t (fun a s' => Q a s' ∧ s.toks ≤ s'.toks) E s :=
  fun Γ p hΓ => Sem.wp_mono M Γ t (fun _ _ _ x => x) (fun _ _ _ x => x.1) p s (wp_toks t p s (Nat.le_refl _) (h Γ p hΓ))
end Mine
end
section
open PySem PySem.W PyProof.Rows PySem.Calls
set_option maxRecDepth 100000
set_option maxHeartbeats 0
namespace Mine
section
variable {prog : Program} {w : World} {A : Around} {E : Value → Shared → Prop} {s₁ : Shared}
/-- a comprehension without a test over a list: each item with what is made of it -/
theorem comp_list {env : Env} {elt : PySem.Expr} {x : Str} {scope : Scope} {Q : Value → Shared → Prop} {l : Addr} {vs : List Value} {F : Value → Value → Prop}
    (hh : A.handled = none) (hl : s₁.heap.IsList l vs.toArray) (hz : vs.length ≤ 100)
    (he : ∀ C (i : Nat) (v : Value) (s₃ : Shared) m₃ E', vs[i]? = some v → s₃.heap.Ns C m₃ → m₃ x = some v → Grow s₁.heap s₃.heap → s₁.toks ≤ s₃.toks → wpAny (model prog w) A (eval elt (compEnv scope C env)) (fun y s₄ => F v y ∧ Keeps s₃ s₄) E' s₃)
    (hf : ∀ D (ys : List Value) n h' tk, Grow s₁.heap h' → h'.get? D = some (listOf (List.toArray ys) n) → s₁.heap.get? D = none → Paired F vs ys → Q (.ref D) { s₁ with heap := h', toks := tk }) :
    wpAny (model prog w) A (pyIter (.ref l)) (CompPost prog w A env scope x [] elt Q) E s₁ := by
  have hlt : l < s₁.heap.objs.size := by obtain ⟨_, e, _⟩ := hl; exact Heap.lt_size e
  refine wpAny_pyIter_list hl ?_
  have up : ∀ h' : Heap, (∀ b o', b ∉ [s₁.heap.objs.size] → (s₁.heap.push { cls := .type "list_iterator", data := .fields #[.ref l, .int 0 0] }).get? b = some o' → h'.get? b = some o') → Grow s₁.heap h' :=
    fun h' hk b o' e => hk b o' (fun q => absurd (Heap.lt_size e) (by rw [List.mem_singleton.mp q]; exact Nat.lt_irrefl _)) (Heap.get?_push_of_some _ e)
  refine ⟨fun _ => true, F, s₁.heap.objs.size, [s₁.heap.objs.size, l], [s₁.heap.objs.size], vs.toArray.size, _, _, rfl, Walks.list hh _ l (Nat.ne_of_lt hlt) vs.toArray, (by rw [List.size_toArray, sizeLine_eq]; omega),
    ⟨⟨_, Heap.get?_push_size _ rfl, rfl, rfl⟩, hl.at fun o e => Heap.get?_push_of_some _ e⟩, ?_, ⟨?_, ?_⟩, ?_⟩
  · intro b hb
    show b < (s₁.heap.push _).objs.size
    rw [Heap.size_push]
    rcases List.mem_cons.mp hb with rfl | hb
    · exact Nat.lt_succ_self _
    · rw [List.mem_singleton.mp hb]; exact Nat.lt_succ_of_lt hlt
  · intro C i v s₃ m₃ E' hP hn hm hk htk
    rw [List.forIn_nil]
    exact wpAny_pure ⟨rfl, s₃.heap, s₃.toks, rfl, fun _ _ e => e⟩
  · intro C i v s₃ m₃ E' hP hp hn hm hk htk
    exact he C i v s₃ m₃ E' (by simpa using hP) hn hm (up _ hk) htk
  · intro D h' tk ys vs' hnew hlD hplD hlen hP hF hk
    have e' : vs' = vs := by simpa using walked_is hlen hP
    subst e'
    obtain ⟨n, hn⟩ := hplD
    rw [List.filter_eq_self.mpr (fun _ _ => rfl)] at hF
    refine hf D ys.toList n h' tk (up h' hk) (by rw [Array.toArray_toList]; exact hn) ?_ hF
    cases e : s₁.heap.get? D with
    | none => rfl
    | some o' => rw [Heap.get?_push_of_some _ e] at hnew; cases hnew
end
end Mine
end
section
open PySem PySem.W PyProof.Rows PySem.Calls PySem.Builtin PySem.Builtin.Str
set_option maxRecDepth 100000
set_option maxHeartbeats 0
namespace Mine
theorem strsAre_get {vs : List Value} {ss : List Str} (h : StrsAre vs ss) {k : Nat} {y : Str} (e : ss[k]? = some y) : ∃ t, vs[k]? = some (.str y t) := by
  induction h generalizing k with
  | nil => cases e
  | cons y' t _ ih =>
    cases k with
    | zero => cases e; exact ⟨t, rfl⟩
    | succ k => exact ih e
theorem strsAre_take {vs : List Value} {ss : List Str} (h : StrsAre vs ss) : ∀ k, StrsAre (vs.take k) (ss.take k) := by
  induction h with
  | nil => intro k; rw [List.take_nil, List.take_nil]; exact .nil
  | cons y' t _ ih =>
    intro k
    cases k with
    | zero => exact .nil
    | succ k => exact .cons _ _ (ih k)
theorem strsAre_append {vs ws : List Value} {ss us : List Str} (h : StrsAre vs ss) (g : StrsAre ws us) : StrsAre (vs ++ ws) (ss ++ us) := by
  induction h with
  | nil => exact g
  | cons y' t _ ih => exact .cons _ _ ih
theorem pick_upto {vs : List Value} {y : Int} (h : 0 ≤ y) : slicePick vs.toArray none (some y) none = (vs.take y.toNat).toArray := by
  have e : sliceBounds none (some y) none vs.toArray.size = (((0 : Nat) : Int), ((min y.toNat vs.toArray.size : Nat) : Int), 1) := by
    simp only [sliceBounds, Option.getD_none, show (1 : Int) > 0 by decide, if_true, if_neg (show ¬ (y < 0) by omega)]
    congr 1
    congr 1
    omega
  rw [kmk_pick_nat _ e]
  show ((vs.drop 0).take (min y.toNat vs.toArray.size - 0)).toArray = _
  rw [List.drop_zero, Nat.sub_zero, List.size_toArray, kmk_take_min]
theorem pick_from {vs : List Value} {y : Int} (h : 0 ≤ y) : slicePick vs.toArray (some y) none none = (vs.drop y.toNat).toArray := by
  have e : sliceBounds (some y) none none vs.toArray.size = (((min y.toNat vs.toArray.size : Nat) : Int), ((vs.toArray.size : Nat) : Int), 1) := by
    simp only [sliceBounds, Option.getD_none, show (1 : Int) > 0 by decide, if_true, if_neg (show ¬ (y < 0) by omega)]
    congr 1
    omega
  rw [kmk_pick_nat _ e]
  show ((vs.drop (min y.toNat vs.toArray.size)).take (vs.toArray.size - min y.toNat vs.toArray.size)).toArray = _
  rw [List.size_toArray, kmk_drop_min, List.take_of_length_le (by rw [List.length_drop]; omega)]
section
variable {prog : Program} {w : World} {A : Around} {E : Value → Shared → Prop} {s : Shared} {h₀ : Heap} {L : Addr} {m : Str → Option Value} {news : List (Addr × Obj)} {Q : Value → Shared → Prop} {x : Nat}
theorem add_row {t u : Tok} (h : ∀ t' tk, Q (.str (rowIn x) t') { s with toks := tk }) : wpAny (model prog w) A (binaryOp .Add (.str (Str.ofString "  ") t) (.str ⟨#[x]⟩ u)) Q E s := by
  refine add_str (fun t' tk => ?_) (by show 2 + 1 ≤ _; rw [sizeLine_eq]; omega)
  exact h t' tk
theorem item_page {value slice : PySem.Expr} {a : Addr} {vs : List Value} {ss : List Str} {k : Int} {u : Tok} {y : Str} (hl : s.heap.IsList a vs.toArray) (hi : StrsAre vs ss) (h0 : 0 ≤ k) (h6 : k < 100) (hy : ss[k.toNat]? = some y)
    (h : ∀ t, Q (.str y t) s)
    (hs : subscripted slice false (.ref a) (.int k u) = operate [.ref a, .int k u] (getItem (.ref a) (.int k u))) :
    wpAny (model prog w) A (subscriptTail value slice (.ref a) (.int k u)) Q E s := by
  obtain ⟨t, e⟩ := strsAre_get hi hy
  exact tail_any hl.typeIs slot_list_getitem.lookup (wpAny_getItem_list hl h0 (by omega) (by simpa using e) (h t)) hs
theorem eq_in {t u : Tok} (h : Q (.bool true) s) : wpAny (model prog w) A (compareOp .Eq (.str (rowIn x) t) (.str (rowIn x) u)) Q E s := by
  refine eq_str ?_
  rw [show (rowIn x == rowIn x) = true from beq_self_eq_true _]
  exact h
theorem eq_out {t u : Tok} (h : Q (.bool false) s) : wpAny (model prog w) A (compareOp .Eq (.str (rowOut x) t) (.str (rowIn x) u)) Q E s := by
  refine eq_str ?_
  rw [show (rowOut x == rowIn x) = false from beq_eq_false_iff_ne.mpr fun q => by
    have := congrArg Str.length q
    exact absurd this (by show ¬ (2 = 3); decide)]
  exact h
theorem slice_page {value slice : PySem.Expr} {l : Addr} {vs zs : List Value} {lo hi : Option Int} {vl vu : Value} {h : Heap} {g : Array GenState} {d : Drawn} {tk : Nat} {os : OsState} (F : Fr h₀ L h m) (N : News h₀ L h news) (hl : h.IsList l vs.toArray) (pl : IsPart vl lo) (pu : IsPart vu hi) (e : slicePick vs.toArray lo hi none = zs.toArray) (hz : vs.length ≤ 100)
    (k : ∀ D h', Fr h₀ L h' m → News h₀ L h' ((D, listOf zs.toArray 0) :: news) → Q (.ref D) ⟨h', g, d, tk, os⟩)
    (hs : subscripted slice false (.ref l) (.ref h.objs.size) = operate [.ref h.objs.size, .ref l] (getItem (.ref l) (.ref h.objs.size))) (ht : ∀ r, letTemporaryGo value (.ref l) r = pure ()) :
    wpAny (model prog w) A (subscriptTail value slice (.ref l) (.ref h.objs.size)) Q E ⟨h.push { cls := .type "slice", data := .fields #[vl, vu, .none] }, g, d, tk, os⟩ :=
  kmk_slice_lit (s := ⟨h, g, d, tk, os⟩) F N hl pl pu (by rw [e]) (fun D h' F' N' _ => k D h' F' N') hs ht (by rw [List.size_toArray, sizeLine_eq]; omega)
theorem add_page {a b : Addr} {vs ws : List Value} (F : Fr h₀ L s.heap m) (N : News h₀ L s.heap news) (ha : s.heap.IsList a vs.toArray) (hb : s.heap.IsList b ws.toArray) (hz : vs.length + ws.length ≤ 100)
    (k : ∀ D h', Fr h₀ L h' m → News h₀ L h' ((D, listOf (vs ++ ws).toArray 0) :: news) → Q (.ref D) { s with heap := h' }) : wpAny (model prog w) A (binaryOp .Add (.ref a) (.ref b)) Q E s :=
  add_lists (hsz := by rw [sizeLine_eq]; omega) F N ha hb fun h' F' N' => k _ h' F' N'
end
theorem page_end {s : Shared} {Q : Value → Shared → Prop} {ss : List Str} {vs : List Value} {k : Nat} {y : Str} (hi : StrsAre vs ss)
    (hret : ∀ D ws h' tk', Grow s.heap h' → h'.get? D = some (listOf (List.toArray ws) 0) → s.heap.get? D = none → StrsAre ws (ss.take k ++ [y] ++ ss.drop (k + 1)) → Q (.ref D) { s with heap := h', toks := tk' })
    {D L : Addr} {h' : Heap} {tk' : Nat} {t : Tok} {m : Str → Option Value} {rest : List (Addr × Obj)} (F : Fr s.heap L h' m)
    (N : News s.heap L h' ((D, listOf (List.take (k : Int).toNat vs ++ [Value.str y t] ++ List.drop ((k : Int) + 1).toNat vs).toArray 0) :: rest)) :
    Q (.ref D) { heap := h', gens := s.gens, drawn := s.drawn, toks := tk', os := s.os } :=
  hret D _ h' tk' F.keep (N _ (.head _)).1 (N _ (.head _)).2.2 (strsAre_append (strsAre_append (strsAre_take hi _) (.cons _ _ .nil)) (StrsAre.drop' hi _))
section
variable {w : World} {A : Around} {E : Value → Shared → Prop} {s : Shared} {h₀ : Heap} {L : Addr} {m : Str → Option Value} {news : List (Addr × Obj)} {Q : Value → Shared → Prop} {x : Nat} {p : Program} {loose : List Str} {mean : ExcName → Option Value} {mg mb : Str → Option Value}
theorem strip_at {t0 t1 : Tok} (X : (Mine.hd.heap_39 w.params).In h₀) (T : Top p loose mean mg mb h₀) (F : Fr h₀ L s.heap m) (N : News h₀ L s.heap news) (hh : A.handled = none) (hd : A.depth ≤ 500) (hu : A.units ≤ 200)
    (k : ∀ t h' tk', Fr h₀ L h' m → News h₀ L h' news → Q (.str (rowOut x) t) { s with heap := h', toks := tk' }) :
    wpAny (model PR w) A (call (.ref 45) [.str (rowIn x) t0, .int 1 t1]) Q E s :=
  weaken2 hh hd hu (strip (X.keeps F.keep) (T.keeps F.keep) fun t h' tk' g => k t h' tk' (Grow.fr g F) (Grow.news g N))
end
section
local macro_rules | `(tactic| walk_at "binaryOp Add str str") => `(tactic| (k_here; refine add_row ?_; intro t' tk'))
local macro_rules | `(tactic| walk_at "subscriptTail Name Name ref int") => `(tactic| (k_here; refine item_page (Fr.lst (by k_asm) (by k_asm)) (by assumption) (by omega) (by omega) (by assumption) ?_ (by with_unfolding_all rfl); intro t'))
local macro_rules | `(tactic| walk_at "compareOp Eq str str") => `(tactic| (k_here; first | refine eq_in ?_ | refine eq_out ?_))
local macro_rules | `(tactic| walk_at "subscriptTail Name Slice ref ref") => `(tactic| (k_here; k_dflt (refine' slice_page ?F ?N ?l ?p ?q ?e ?z ?_ ?s ?t; (case F => k_asm); (case N => k_asm); (case l => exact Fr.lst (by k_asm) (by k_asm)); (case p => kmk_part); (case q => kmk_part); (case e => first | exact pick_upto (by omega) | exact pick_from (by omega)); (case z => omega); (case s => with_unfolding_all rfl); (case t => kmk_pure)); intro D' h' F' N'; (try k_sweep)))
local macro_rules | `(tactic| walk_at "binaryOp Add ref ref") => `(tactic| (k_here; k_dflt (refine' add_page ?F ?N ?a ?b ?z ?_; (case F => k_asm); (case N => k_asm); (case a => kmk_list); (case b => kmk_list); (case z => (simp only [List.length_append, List.length_cons, List.length_nil, List.length_take, List.length_drop]; omega))); intro D' h' F' N'; (try k_sweep)))
local macro_rules | `(tactic| walk_at "call ref") => `(tactic| (k_here; refine strip_at (by k_asm) (by k_asm) (by k_asm) (by k_asm) rfl (Nat.le_of_ble_eq_true rfl) (Nat.le_of_ble_eq_true rfl) ?_; intro t' h' tk' F' N'))
local macro_rules | `(tactic| k_steps) => `(tactic| repeat' (first | (k_unfold; (try dsimp only)) | ((with_reducible show wpAny _ _ (eval _ _) _ _ _); dsimp only; walk1) | ((with_reducible show wpAny _ _ (execs _ _) _ _ _); dsimp only; walk1) | walk1 | (dsimp only; walk1) | fail "no step"))
theorem turn_in {w : World} {fr gd} {s : Shared} {p : Program} {loose : List Str} {mean : ExcName → Option Value} {mg mb : Str → Option Value} {Q E : Value → Shared → Prop} {pl : Addr} {vs : List Value} {ss : List Str} {k : Nat} {x : Nat} {e : Str} {tk tl te : Tok}
    (X : (Mine.hd.heap_39 w.params).In s.heap) (T : Top p loose mean mg mb s.heap)
    (hb : s.heap.IsList pl vs.toArray) (hi : StrsAre vs ss) (hv : vs.length ≤ 6) (hy : ss[(k : Int).toNat]? = some (rowIn x)) (hk : k ≤ 6)
    (hret : ∀ D ws h' tk', Grow s.heap h' → h'.get? D = some (listOf (List.toArray ws) 0) → s.heap.get? D = none → StrsAre ws (ss.take k ++ [rowOut x] ++ ss.drop (k + 1)) → Q (.ref D) { s with heap := h', toks := tk' }) :
    wpAny (model PR w) (AR fr gd) (call (.ref 67) [.ref pl, .int (k : Int) tk, .str ⟨#[x]⟩ tl, .str e te]) Q E s := by
  have hfill : (fun (_ : OpenLaw) (_ : Params → Frag) => True) PySem.Challenge.rw_rl0021_01 Mine.hd.heap_39 := by
    k_fill
    trivial
  clear hfill
  k_dflt (refine' enter (binds := [(Str.ofString "page", .ref pl), (Str.ofString "k", .int (k : Int) tk), (Str.ofString "letter", .str ⟨#[x]⟩ tl), (Str.ofString "end", .str e te)]) X T ?k6 ?k7 ?k8 ?k9 ?kB ?_ ?c2 ?c3 ?c4 ?c5)
  case k6 => k_is
  case k7 => k_is
  case k8 => exact of_decide_eq_true rfl
  case k9 => exact BindsTo.of_eq rfl
  case kB => exact locs rfl
  case c2 => exact rfl
  case c3 => exact rfl
  case c4 => exact rfl
  case c5 => decide
  intro h₁ L F N
  dsimp only [List.reverse_cons, List.reverse_nil, List.nil_append, List.cons_append, List.length_cons, List.length_nil] at *
  k_fold
  w_strict k_steps
  exact page_end hi hret (by assumption) (by assumption)
end
theorem tt_of {b : Bool} (h : (b == true) = true) : b = true := by cases b <;> simp_all
theorem ff_of {b : Bool} (h : (b == true) = false) : b = false := by cases b <;> simp_all
theorem page_endM {s : Shared} {Q : Value → Shared → Prop} {ss : List Str} {vs : List Value} {k : Nat} {y : Str} (hi : StrsAre vs ss)
    (hret : ∀ D ws h' tk', Grow s.heap h' → h'.get? D = some (listOf (List.toArray ws) 0) → s.heap.get? D = none → StrsAre ws (ss.take k ++ [y] ++ ss.drop (k + 1)) → Q (.ref D) { s with heap := h', toks := tk' })
    {D L : Addr} {h' : Heap} {tk' : Nat} {t : Tok} {m : Str → Option Value} {news : List (Addr × Obj)} (F : Fr s.heap L h' m) (N : News s.heap L h' news)
    (hm : (D, listOf (List.take (k : Int).toNat vs ++ [Value.str y t] ++ List.drop ((k : Int) + 1).toNat vs).toArray 0) ∈ news) :
    Q (.ref D) { heap := h', gens := s.gens, drawn := s.drawn, toks := tk', os := s.os } :=
  hret D _ h' tk' F.keep (N _ hm).1 (N _ hm).2.2 (strsAre_append (strsAre_append (strsAre_take hi _) (.cons _ _ .nil)) (StrsAre.drop' hi _))
theorem paired_strs {f : Str → Str} {vs : List Value} {ss : List Str} (h : StrsAre vs ss) {ys : List Value} (p : Paired (fun v r => ∀ a t, v = .str a t → ∃ t', r = .str (f a) t') vs ys) : StrsAre ys (ss.map f) := by
  induction h generalizing ys with
  | nil => cases p; exact .nil
  | cons y t _ ih =>
    cases p with
    | cons hf hr =>
      obtain ⟨t', rfl⟩ := hf y t rfl
      exact .cons _ _ (ih hr)
/-- texts on the way of a row that comes in -/
def dotRow (x : Nat) : Str := ⟨#[46, x]⟩
def backRow (x : Nat) : Str := ⟨#[32, 32, x, 13, 10]⟩
def want1 (x : Nat) : Str := ⟨#[46, 46, 46, 32, 32, x]⟩
def want2 (x : Nat) : Str := ⟨#[46, 46, 46, 32, 32, x, 13, 10]⟩
def want3 (x : Nat) : Str := ⟨#[46, 46, 46, 32, 32, x, 13, 10, 32, 32, x]⟩
theorem out_replace {x : Nat} (hx : 97 ≤ x ∧ x < 123) : Txt.replace (rowOut x) (Str.ofString " ") (Str.ofString ".") = dotRow x :=
  letters (P := fun x => Txt.replace (rowOut x) (Str.ofString " ") (Str.ofString ".") = dotRow x) (by decide +kernel) hx
theorem dotted_replace {x : Nat} (hx : 97 ≤ x ∧ x < 123) : Txt.replace (dotted x) (Str.ofString ".") (Str.ofString " ") = backRow x :=
  letters (P := fun x => Txt.replace (dotted x) (Str.ofString ".") (Str.ofString " ") = backRow x) (by decide +kernel) hx
theorem back_slice {x : Nat} (hx : 97 ≤ x ∧ x < 123) : Txt.slice (backRow x) none (some (-2)) = rowIn x :=
  letters (P := fun x => Txt.slice (backRow x) none (some (-2)) = rowIn x) (by decide +kernel) hx
theorem ends_short {e : Str} (he : e ∈ ends) : e.length ≤ 2 := by
  rcases List.mem_cons.mp he with rfl | he
  · decide
  rcases List.mem_cons.mp he with rfl | he
  · decide
  rcases List.mem_cons.mp he with rfl | he
  · decide
  · cases he
section
variable {prog : Program} {w : World} {A : Around} {E : Value → Shared → Prop} {s : Shared} {h₀ : Heap} {L : Addr} {m : Str → Option Value} {news : List (Addr × Obj)} {Q : Value → Shared → Prop} {x : Nat} {e : Str}
theorem rep_out {t : Tok} {u v : Nat} (hx : 97 ≤ x ∧ x < 123) (hu : u ≠ 0) (hv : v ≠ 0) (huv : u ≠ v) (h : ∀ t' k, s.toks ≤ k → Q (.str (dotRow x) t') { s with toks := k }) :
    wpAny (model prog w) A (call (.builtin "str.replace") [.str (rowOut x) t, .str (Str.ofString " ") u, .str (Str.ofString ".") v]) Q E s := by
  refine wpAny_mono (any_toks (SC.replaceW (Q := fun r s' => ∃ t' k, r = .str (dotRow x) t' ∧ s' = { s with toks := k }) hu hv huv (by decide +kernel) (by show 2 ≤ _; decide) (by decide +kernel) (fun t' k => ⟨t', k, by rw [out_replace hx], rfl⟩))) (fun r s' q => ?_) fun _ _ z => z
  obtain ⟨⟨t', k, rfl, rfl⟩, ht⟩ := q
  exact h t' k ht
theorem rep_back {t : Tok} {u v : Nat} (hx : 97 ≤ x ∧ x < 123) (hu : u ≠ 0) (hv : v ≠ 0) (huv : u ≠ v) (h : ∀ t' k, Q (.str (backRow x) t') { s with toks := k }) :
    wpAny (model prog w) A (call (.builtin "str.replace") [.str (dotted x) t, .str (Str.ofString ".") u, .str (Str.ofString " ") v]) Q E s := by
  refine SC.replaceW hu hv huv (by decide +kernel) (by show 5 ≤ _; decide) (by decide +kernel) ?_
  rw [dotted_replace hx]; exact h
theorem add_sent {t u : Tok} (he : e ∈ ends) (h : ∀ t' tk, s.toks ≤ tk → Q (.str (sentIn x e) t') { s with toks := tk }) : wpAny (model prog w) A (binaryOp .Add (.str (dotRow x) t) (.str e u)) Q E s := by
  refine wpAny_mono (any_toks (add_str (Q := fun r s' => ∃ t' k, r = .str (sentIn x e) t' ∧ s' = { s with toks := k }) (fun t' tk => ⟨t', tk, rfl, rfl⟩) (by have := ends_short he; show 2 + _ ≤ _; rw [sizeLine_eq]; omega))) (fun r s' q => ?_) fun _ _ z => z
  obtain ⟨⟨t', k, rfl, rfl⟩, ht⟩ := q
  exact h t' k ht
theorem add_w1 {t u : Tok} (h : ∀ t' tk, Q (.str (want1 x) t') { s with toks := tk }) : wpAny (model prog w) A (binaryOp .Add (.str (Str.ofString "...") t) (.str (rowIn x) u)) Q E s :=
  add_str (fun t' tk => h t' tk) (by show 3 + 3 ≤ _; rw [sizeLine_eq]; omega)
theorem add_w2 {t u : Tok} (h : ∀ t' tk, Q (.str (want2 x) t') { s with toks := tk }) : wpAny (model prog w) A (binaryOp .Add (.str (want1 x) t) (.str (Str.ofString "\r\n") u)) Q E s :=
  add_str (fun t' tk => h t' tk) (by show 6 + 2 ≤ _; rw [sizeLine_eq]; omega)
theorem add_w3 {t u : Tok} (h : ∀ t' tk, Q (.str (want3 x) t') { s with toks := tk }) : wpAny (model prog w) A (binaryOp .Add (.str (want2 x) t) (.str (rowIn x) u)) Q E s :=
  add_str (fun t' tk => h t' tk) (by show 8 + 3 ≤ _; rw [sizeLine_eq]; omega)
theorem add_w4 {t u : Tok} (h : ∀ t' tk, Q (.str (wantOf x) t') { s with toks := tk }) : wpAny (model prog w) A (binaryOp .Add (.str (want3 x) t) (.str (Str.ofString "\r\n...") u)) Q E s :=
  add_str (fun t' tk => h t' tk) (by show 11 + 5 ≤ _; rw [sizeLine_eq]; omega)
theorem add_crlf {a : Str} {t u : Tok} (ha : a.length ≤ 10) (h : ∀ t' tk, Q (.str (a ++ crlf) t') { s with toks := tk }) : wpAny (model prog w) A (binaryOp .Add (.str a t) (.str (Str.ofString "\r\n") u)) Q E s :=
  add_str (fun t' tk => h t' tk) (by show _ + 2 ≤ _; rw [sizeLine_eq]; omega)
theorem comp_rows {env : Env} {elt : PySem.Expr} {y : Str} {scope : Scope} {l : Addr} {vs : List Value} {ss : List Str}
    (hh : A.handled = none) (hl : s.heap.IsList l vs.toArray) (hi : StrsAre vs ss) (hz : vs.length ≤ 100) (F : Fr h₀ L s.heap m) (N : News h₀ L s.heap news)
    (hs : ∀ a ∈ ss, a.length ≤ 10)
    (he : ∀ C a t s₃ m₃ E', a.length ≤ 10 → s₃.heap.Ns C m₃ → m₃ y = some (.str a t) → wpAny (model prog w) A (eval elt (compEnv scope C env)) (fun r s₄ => (∃ t', r = .str (a ++ crlf) t') ∧ Keeps s₃ s₄) E' s₃)
    (hf : ∀ D ys n h' tk, Fr h₀ L h' m → News h₀ L h' ((D, listOf (List.toArray ys) n) :: news) → StrsAre ys (ss.map (· ++ crlf)) → Q (.ref D) { s with heap := h', toks := tk }) :
    wpAny (model prog w) A (pyIter (.ref l)) (CompPost prog w A env scope y [] elt Q) E s := by
  refine comp_list (F := fun v r => ∀ a t, v = .str a t → ∃ t', r = .str (a ++ crlf) t') hh hl hz (fun C i v s₃ m₃ E' hv hn hm _ _ => ?_) fun D ys n h' tk g hD hn p => ?_
  · obtain ⟨a, ha, hk⟩ := (StrsAre.areOf hi).get i v hv
    obtain ⟨t, rfl⟩ := hk
    refine wpAny_mono (he C a t s₃ m₃ E' (hs a (List.mem_of_getElem? ha)) hn hm) (fun r s₄ q => ⟨fun a' t' e => ?_, q.2⟩) fun _ _ z => z
    cases e
    exact q.1
  · exact hf D ys n h' tk (Grow.fr g F) (Grow.add g F N hD hn) (paired_strs hi p)
theorem join_at {D : Addr} {ys : List Value} {us : List Str} {n : Nat} {t : Tok} (N : News h₀ L s.heap news) (hm : (D, listOf (List.toArray ys) n) ∈ news) (hi : StrsAre ys us) (hz : (us.map (·.length)).sum ≤ 100)
    (h : ∀ t' k, Q (.str (Txt.join (Str.ofString "") us) t') { s with toks := k }) : wpAny (model prog w) A (call (.builtin "str.join") [.str (Str.ofString "") t, .ref D]) Q E s :=
  join_list (News.isList N hm) hi (by rw [show (Str.ofString "").length = 0 by decide +kernel]; omega) h
theorem cut_back {value slice : PySem.Expr} {t u : Tok} {h : Heap} {g : Array GenState} {d : Drawn} {tk : Nat} {os : OsState} (hx : 97 ≤ x ∧ x < 123) (F : Fr h₀ L h m) (N : News h₀ L h news)
    (k : ∀ h' t' k', Fr h₀ L h' m → News h₀ L h' news → Q (.str (rowIn x) t') ⟨h', g, d, k', os⟩)
    (hs : subscripted slice false (.str (backRow x) t) (.ref h.objs.size) = operate [.ref h.objs.size, .str (backRow x) t] (getItem (.str (backRow x) t) (.ref h.objs.size)))
    (ht : ∀ r, letTemporaryGo value (.str (backRow x) t) r = pure ()) :
    wpAny (model prog w) A (subscriptTail value slice (.str (backRow x) t) (.ref h.objs.size)) Q E ⟨h.push { cls := .type "slice", data := .fields #[.none, .int (-2) u, .none] }, g, d, tk, os⟩ := by
  refine slice_strN_ns (s := ⟨h, g, d, tk, os⟩) F N (fun h' t' k' F' N' => ?_) hs ht (by show 5 ≤ _; rw [sizeLine_eq]; omega)
  rw [back_slice hx]
  exact k h' t' k' F' N'
end
section
variable {w : World} {A : Around} {E : Value → Shared → Prop} {s : Shared} {h₀ : Heap} {L : Addr} {m : Str → Option Value} {news : List (Addr × Obj)} {Q : Value → Shared → Prop} {x : Nat} {e : Str} {p : Program} {loose : List Str} {mean : ExcName → Option Value} {mg mb : Str → Option Value}
theorem quote_at {t0 : Tok} (X : (Mine.hd.heap_39 w.params).In h₀) (T : Top p loose mean mg mb h₀) (F : Fr h₀ L s.heap m) (N : News h₀ L s.heap news) (hx : 97 ≤ x ∧ x < 123) (he : e ∈ ends) (hh : A.handled = none) (hd : A.depth ≤ 500) (hu : A.units ≤ 200)
    (k : ∀ t h' tk', s.toks ≤ tk' → Fr h₀ L h' m → News h₀ L h' news → Q (.str (dotted x) t) { s with heap := h', toks := tk' }) :
    wpAny (model PR w) A (call (.ref 62) [.str (sentIn x e) t0]) Q E s := by
  refine wpAny_mono (any_toks (weaken2 hh hd hu (quote (Q := fun v s' => ∃ t h' tk', v = .str (dotted x) t ∧ s' = { s with heap := h', toks := tk' } ∧ Grow s.heap h') (X.keeps F.keep) (T.keeps F.keep) hx he fun t h' tk' g => ⟨t, h', tk', rfl, rfl, g⟩))) (fun v s' q => ?_) fun _ _ z => z
  obtain ⟨⟨t, h', tk', rfl, rfl, g⟩, ht⟩ := q
  exact k t h' tk' ht (Grow.fr g F) (Grow.news g N)
theorem elli_at {got : Str} {t0 t1 : Tok} (X : (Mine.hd.heap_39 w.params).In h₀) (T : Top p loose mean mg mb h₀) (F : Fr h₀ L s.heap m) (N : News h₀ L s.heap news) (hx : 97 ≤ x ∧ x < 123) (hg : got.length ≤ 100) (hh : A.handled = none) (hd : A.depth ≤ 500) (hu : A.units ≤ 200)
    (k : ∀ h' tk', Fr h₀ L h' m → News h₀ L h' news → Q (.bool (hasText got (midOf x))) { s with heap := h', toks := tk' }) :
    wpAny (model PR w) A (call (.ref 38) [.str (wantOf x) t0, .str got t1]) Q E s :=
  weaken2 hh hd hu (elli (X.keeps F.keep) (T.keeps F.keep) hx hg fun h' tk' g => k h' tk' (Grow.fr g F) (Grow.news g N))
end
section
local macro_rules | `(tactic| walk_at "binaryOp Add str str") => `(tactic| (k_here; first | (refine add_row ?_; intro t' tk') | (refine add_sent (by assumption) ?_; intro t' tk' hT'; dsimp only at hT') | (refine add_w1 ?_; intro t' tk') | (refine add_w2 ?_; intro t' tk') | (refine add_w3 ?_; intro t' tk') | (refine add_w4 ?_; intro t' tk') | (refine add_crlf (by assumption) ?_; intro t' tk')))
local macro_rules | `(tactic| walk_at "execs cons") => `(tactic| (k_here; with_reducible refine wpAny_execs_cons ?_))
local macro_rules | `(tactic| walk_at "execs nil") => `(tactic| (k_here; with_reducible refine wpAny_execs_nil ?_))
local macro_rules | `(tactic| walk_at "call builtin:str.replace") => `(tactic| (k_here; first | (refine rep_out (by assumption) (by omega) (by omega) (by omega) ?_; intro t' k' hT'; dsimp only at hT') | (refine rep_back (by assumption) (by omega) (by omega) (by omega) ?_; intro t' k')))
local macro_rules | `(tactic| walk_at "call builtin:str.join") => `(tactic| (k_here; refine join_at (by k_asm) (by k_mem) (by assumption) (by assumption) ?_; intro t' k'))
local macro_rules | `(tactic| walk_at "Exists") => `(tactic| exact ⟨_, rfl⟩)
local macro_rules | `(tactic| walk_at "Keeps") => `(tactic| exact ⟨_, _, rfl, fun _ _ e => e⟩)
local macro_rules | `(tactic| walk_at "pyIter ref") => `(tactic| (k_here; (refine' comp_rows (ss := ?ss) rfl ?l ?i ?z ?F ?N ?hs ?he ?fin); (case F => k_asm); (case N => k_asm); (case l => kmk_list); (case i => exact strsAre_append (strsAre_append (strsAre_take (by assumption) _) (.cons _ _ .nil)) (StrsAre.drop' (by assumption) _)); (case z => (simp only [List.length_append, List.length_cons, List.length_nil, List.length_take, List.length_drop]; omega)); (case hs => assumption); (case' he => intro C a t s3 m3 E' ha' hn' hm'); (case' fin => intro D' ys' n' h' tk' F' N' hI')))
local macro_rules | `(tactic| walk_at "subscriptTail Name Slice str ref") => `(tactic| (k_here; refine cut_back (by assumption) (by k_asm) (by k_asm) ?_ (by with_unfolding_all rfl) (by intro _; with_unfolding_all rfl); intro h' t' k' F' N'))
local macro_rules | `(tactic| walk_at "subscriptTail Name Name ref int") => `(tactic| (k_here; refine item_page (Fr.lst (by k_asm) (by k_asm)) (by assumption) (by omega) (by omega) (by assumption) ?_ (by with_unfolding_all rfl); intro t'))
local macro_rules | `(tactic| walk_at "compareOp Eq str str") => `(tactic| (k_here; first | refine eq_in ?_ | refine eq_out ?_))
local macro_rules | `(tactic| walk_at "subscriptTail Name Slice ref ref") => `(tactic| (k_here; k_dflt (refine' slice_page ?F ?N ?l ?p ?q ?e ?z ?_ ?s ?t; (case F => k_asm); (case N => k_asm); (case l => exact Fr.lst (by k_asm) (by k_asm)); (case p => kmk_part); (case q => kmk_part); (case e => first | exact pick_upto (by omega) | exact pick_from (by omega)); (case z => omega); (case s => with_unfolding_all rfl); (case t => kmk_pure)); intro D' h' F' N'; (try k_sweep)))
local macro_rules | `(tactic| walk_at "binaryOp Add ref ref") => `(tactic| (k_here; k_dflt (refine' add_page ?F ?N ?a ?b ?z ?_; (case F => k_asm); (case N => k_asm); (case a => kmk_list); (case b => kmk_list); (case z => (simp only [List.length_append, List.length_cons, List.length_nil, List.length_take, List.length_drop]; omega))); intro D' h' F' N'; (try k_sweep)))
local macro_rules | `(tactic| walk_at "call ref") => `(tactic| (k_here; first | (refine quote_at (by k_asm) (by k_asm) (by k_asm) (by k_asm) (by assumption) (by assumption) rfl (Nat.le_of_ble_eq_true rfl) (Nat.le_of_ble_eq_true rfl) ?_; intro t' h' tk' hT' F' N'; dsimp only at hT') | (refine elli_at (by k_asm) (by k_asm) (by k_asm) (by k_asm) (by assumption) (by assumption) rfl (Nat.le_of_ble_eq_true rfl) (Nat.le_of_ble_eq_true rfl) ?_; intro h' tk' F' N')))
local macro_rules | `(tactic| k_steps) => `(tactic| repeat' (first | (k_unfold; (try dsimp only)) | ((with_reducible show wpAny _ _ (eval _ _) _ _ _); dsimp only; walk1) | ((with_reducible show wpAny _ _ (execs _ _) _ _ _); dsimp only; walk1) | walk1 | (dsimp only; walk1) | fail "no step"))
theorem turn_out {w : World} {fr gd} {s : Shared} {p : Program} {loose : List Str} {mean : ExcName → Option Value} {mg mb : Str → Option Value} {Q E : Value → Shared → Prop} {pl : Addr} {vs : List Value} {ss : List Str} {k : Nat} {x : Nat} {e : Str} {tk tl te : Tok}
    (X : (Mine.hd.heap_39 w.params).In s.heap) (T : Top p loose mean mg mb s.heap)
    (hb : s.heap.IsList pl vs.toArray) (hi : StrsAre vs ss) (hv : vs.length ≤ 6) (hy : ss[(k : Int).toNat]? = some (rowOut x)) (hk : k ≤ 6) (hx : 97 ≤ x ∧ x < 123) (he : e ∈ ends) (hsh : ∀ a ∈ List.take (k : Int).toNat ss ++ [rowIn x] ++ List.drop ((k : Int) + 1).toNat ss, a.length ≤ 10)
    (hsum : (((List.take (k : Int).toNat ss ++ [rowIn x] ++ List.drop ((k : Int) + 1).toNat ss).map (· ++ crlf)).map (·.length)).sum ≤ 100) (hgot : (Txt.join (Str.ofString "") ((List.take (k : Int).toNat ss ++ [rowIn x] ++ List.drop ((k : Int) + 1).toNat ss).map (· ++ crlf))).length ≤ 100)
    (hsame : ∀ h' tk', Grow s.heap h' → hasText (Txt.join (Str.ofString "") ((List.take (k : Int).toNat ss ++ [rowIn x] ++ List.drop ((k : Int) + 1).toNat ss).map (· ++ crlf))) (midOf x) = true → Q (.ref pl) { s with heap := h', toks := tk' })
    (hret : hasText (Txt.join (Str.ofString "") ((List.take (k : Int).toNat ss ++ [rowIn x] ++ List.drop ((k : Int) + 1).toNat ss).map (· ++ crlf))) (midOf x) = false → ∀ D ws h' tk', Grow s.heap h' → h'.get? D = some (listOf (List.toArray ws) 0) → s.heap.get? D = none → StrsAre ws (ss.take k ++ [rowIn x] ++ ss.drop (k + 1)) → Q (.ref D) { s with heap := h', toks := tk' }) :
    wpAny (model PR w) (AR fr gd) (call (.ref 67) [.ref pl, .int (k : Int) tk, .str ⟨#[x]⟩ tl, .str e te]) Q E s := by
  have hfill : (fun (_ : OpenLaw) (_ : Params → Frag) => True) PySem.Challenge.rw_rl0021_01 Mine.hd.heap_39 := by
    k_fill
    trivial
  clear hfill
  k_dflt (refine' enter (binds := [(Str.ofString "page", .ref pl), (Str.ofString "k", .int (k : Int) tk), (Str.ofString "letter", .str ⟨#[x]⟩ tl), (Str.ofString "end", .str e te)]) X T ?k6 ?k7 ?k8 ?k9 ?kB ?_ ?c2 ?c3 ?c4 ?c5)
  case k6 => k_is
  case k7 => k_is
  case k8 => exact of_decide_eq_true rfl
  case k9 => exact BindsTo.of_eq rfl
  case kB => exact locs rfl
  case c2 => exact rfl
  case c3 => exact rfl
  case c4 => exact rfl
  case c5 => decide
  intro h₁ L F N
  dsimp only [List.reverse_cons, List.reverse_nil, List.nil_append, List.cons_append, List.length_cons, List.length_nil] at *
  k_fold
  w_strict k_steps
  · exact hsame _ _ (Fr.keep (by assumption)) (tt_of (by assumption))
  · exact page_endM hi (hret (ff_of (by assumption))) (by assumption) (by assumption) (by k_mem)
end
end Mine
end
section
open PySem PySem.W PyProof.Rows PySem.Calls PySem.Builtin PySem.Builtin.Str
set_option maxRecDepth 100000
set_option maxHeartbeats 0
namespace Mine
def rowOf (x : Nat) (b : Bool) : Str := if b then rowIn x else rowOut x
def rows (x : Nat) (B : List Bool) : List Str := B.map (rowOf x)
def bint (b : Bool) : Int := if b then 1 else 0
def bitsOf (B : List Bool) : List Int := B.map bint
def noTwo : List Bool → Bool
  | [] => true
  | true :: true :: _ => false
  | _ :: r => noTwo r
def beside (B : List Bool) (k : Nat) : Bool := (decide (1 ≤ k) && B.getD (k - 1) false) || B.getD (k + 1) false
/-- a turn of the k-th row -/
def stepB (B : List Bool) (k : Nat) : List Bool := B.take k ++ [!(B.getD k false) && !(beside B k)] ++ B.drop (k + 1)
def pages : Nat → List (List Bool)
  | 0 => [[]]
  | n + 1 => (pages n).flatMap fun B => [false :: B, true :: B]
theorem mem_pages : ∀ (B : List Bool), B ∈ pages B.length
  | [] => .head _
  | b :: B => List.mem_flatMap.mpr ⟨B, mem_pages B, by cases b <;> simp⟩
/-- is p the head of l -/
def headed : List Nat → List Nat → Bool
  | [], _ => true
  | _ :: _, [] => false
  | a :: p, b :: l => Nat.beq a b && headed p l
def within (p : List Nat) : List Nat → Bool
  | [] => headed p []
  | b :: l => headed p (b :: l) || within p l
theorem headed_iff : ∀ p l : List Nat, headed p l = true ↔ l.take p.length = p
  | [], l => by simp [headed]
  | a :: p, [] => by simp [headed]
  | a :: p, b :: l => by
    simp only [headed, Bool.and_eq_true, headed_iff p l, List.length_cons, List.take_succ_cons, List.cons.injEq]
    constructor
    · rintro ⟨h1, h2⟩; exact ⟨(Nat.eq_of_beq_eq_true h1).symm, h2⟩
    · rintro ⟨h1, h2⟩; exact ⟨by rw [h1]; exact Nat.beq_refl _, h2⟩
theorem within_iff (p : List Nat) : ∀ l : List Nat, within p l = true ↔ ∃ i, i + p.length ≤ l.length ∧ (l.drop i).take p.length = p
  | [] => by
    simp only [within, headed_iff]
    constructor
    · intro h
      have : p = [] := by rw [← h]; simp
      subst this
      exact ⟨0, by simp, by simp⟩
    · rintro ⟨i, h1, h2⟩
      rw [List.drop_nil] at h2
      exact h2
  | b :: l => by
    simp only [within, Bool.or_eq_true, headed_iff, within_iff p l]
    constructor
    · rintro (h | ⟨i, h1, h2⟩)
      · refine ⟨0, ?_, by simpa using h⟩
        have := congrArg List.length h
        rw [List.length_take] at this
        omega
      · exact ⟨i + 1, by simp only [List.length_cons]; omega, by simpa using h2⟩
    · rintro ⟨i, h1, h2⟩
      cases i with
      | zero => exact .inl (by simpa using h2)
      | succ i => exact .inr ⟨i, by simp only [List.length_cons] at h1; omega, by simpa using h2⟩
theorem hasText_within (x y : Str) : hasText x y = within y.cps.toList x.cps.toList := by
  rw [Bool.eq_iff_iff, within_iff]
  unfold hasText
  rw [StrLaws.found_iff]
  constructor
  · rintro ⟨i, h1, h2⟩
    rw [StrLaws.subAt_eq] at h2
    exact ⟨i, by simpa [Str.length] using h1, by simpa [Str.length] using h2⟩
  · rintro ⟨i, h1, h2⟩
    refine ⟨i, by simpa [Str.length] using h1, ?_⟩
    rw [StrLaws.subAt_eq]
    simpa [Str.length] using h2
theorem glued_flat {g : Str} (hg : g.cps = #[]) : ∀ (us : List Str) (a : Array Nat), (us.foldl (fun acc p => acc ++ g.cps ++ p.cps) a).toList = a.toList ++ us.flatMap (·.cps.toList)
  | [], a => by simp
  | u :: us, a => by rw [List.foldl_cons, glued_flat hg us, hg]; simp
theorem join_flat (us : List Str) : (Txt.join (Str.ofString "") us).cps.toList = us.flatMap (·.cps.toList) := by
  show (List.foldl (fun acc p => acc ++ (Str.ofString "").cps ++ p.cps) (us.headD Str.empty).cps (us.drop 1)).toList = _
  rw [glued_flat (by decide +kernel)]
  cases us with
  | nil => rfl
  | cons u us => simp
def grownL (x : Nat) (ss : List Str) (k : Nat) : List Str := List.take (k : Int).toNat ss ++ [rowIn x] ++ List.drop ((k : Int) + 1).toNat ss
def gotOf (x : Nat) (ss : List Str) (k : Nat) : Str := Txt.join (Str.ofString "") ((grownL x ss k).map (· ++ crlf))
/-- the signs of a page whose rows are told by bits -/
def signsOf (x : Nat) : List Bool → List Nat
  | [] => []
  | true :: B => 32 :: 32 :: x :: 13 :: 10 :: signsOf x B
  | false :: B => 32 :: x :: 13 :: 10 :: signsOf x B
theorem signs_rows (x : Nat) : ∀ B : List Bool, ((rows x B).map (· ++ crlf)).flatMap (·.cps.toList) = signsOf x B
  | [] => rfl
  | true :: B => by
    show (rowIn x ++ crlf).cps.toList ++ ((rows x B).map (· ++ crlf)).flatMap (·.cps.toList) = _
    rw [signs_rows x B]; rfl
  | false :: B => by
    show (rowOut x ++ crlf).cps.toList ++ ((rows x B).map (· ++ crlf)).flatMap (·.cps.toList) = _
    rw [signs_rows x B]; rfl
def putB (B : List Bool) (k : Nat) : List Bool := B.take k ++ [true] ++ B.drop (k + 1)
theorem grown_rows (x : Nat) (B : List Bool) (k : Nat) : grownL x (rows x B) k = rows x (putB B k) := by
  unfold grownL rows putB
  rw [show ((k : Int)).toNat = k by omega, show ((k : Int) + 1).toNat = k + 1 by omega, List.map_append, List.map_append, List.map_take, List.map_drop]
  rfl
def midL (x : Nat) : List Nat := [32, 32, x, 13, 10, 32, 32, x, 13, 10]
def pageOk (x : Nat) (B : List Bool) (k : Nat) : Bool := !(noTwo B) || B.getD k false || (within (midL x) (signsOf x (putB B k)) == beside B k)
/-- the letter a for another: what stands within what stays -/
def relab (x n : Nat) : Nat := bif Nat.beq n 97 then x else n
theorem headed_map {f : Nat → Nat} : ∀ p l : List Nat, (∀ a ∈ p, ∀ b ∈ l, Nat.beq (f a) (f b) = Nat.beq a b) → headed (p.map f) (l.map f) = headed p l
  | [], _, _ => by simp [headed]
  | _ :: _, [], _ => by simp [headed]
  | a :: p, b :: l, h => by
    have ih := headed_map p l fun c hc d hd => h c (.tail _ hc) d (.tail _ hd)
    show (Nat.beq (f a) (f b) && headed (p.map f) (l.map f)) = (Nat.beq a b && headed p l)
    rw [ih, h a (.head _) b (.head _)]
theorem within_map {f : Nat → Nat} (p : List Nat) : ∀ l : List Nat, (∀ a ∈ p, ∀ b ∈ l, Nat.beq (f a) (f b) = Nat.beq a b) → within (p.map f) (l.map f) = within p l
  | [], h => headed_map p [] h
  | b :: l, h => by
    have ih := within_map p l fun c hc d hd => h c hc d (.tail _ hd)
    have hh := headed_map p (b :: l) h
    show (headed (p.map f) ((b :: l).map f) || within (p.map f) (l.map f)) = (headed p (b :: l) || within p l)
    rw [ih, hh]
def sign4 (n : Nat) : Prop := n = 32 ∨ n = 97 ∨ n = 13 ∨ n = 10
theorem relab_same {x : Nat} (hx : 97 ≤ x) {a b : Nat} (ha : sign4 a) (hb : sign4 b) : Nat.beq (relab x a) (relab x b) = Nat.beq a b := by
  have h1 : ∀ c, sign4 c → relab x c = if c = 97 then x else c := by
    intro c hc
    unfold relab
    rcases hc with rfl | rfl | rfl | rfl <;> rfl
  rw [h1 a ha, h1 b hb, Bool.eq_iff_iff, Nat.beq_eq, Nat.beq_eq]
  rcases ha with rfl | rfl | rfl | rfl <;> rcases hb with rfl | rfl | rfl | rfl <;> simp <;> omega
theorem mid_sign {a : Nat} (h : a ∈ midL 97) : sign4 a := by
  unfold sign4
  revert a
  decide
theorem signs_sign : ∀ (B : List Bool) {a : Nat}, a ∈ signsOf 97 B → sign4 a
  | [], _, h => by cases h
  | true :: B, a, h => by
    have h' : a ∈ 32 :: 32 :: 97 :: 13 :: 10 :: signsOf 97 B := h
    simp only [List.mem_cons] at h'
    unfold sign4
    rcases h' with h | h | h | h | h | h <;> first | omega | exact signs_sign B h
  | false :: B, a, h => by
    have h' : a ∈ 32 :: 97 :: 13 :: 10 :: signsOf 97 B := h
    simp only [List.mem_cons] at h'
    unfold sign4
    rcases h' with h | h | h | h | h <;> first | omega | exact signs_sign B h
theorem signs_map (x : Nat) : ∀ B : List Bool, signsOf x B = (signsOf 97 B).map (relab x)
  | [] => rfl
  | true :: B => by
    show 32 :: 32 :: x :: 13 :: 10 :: signsOf x B = 32 :: 32 :: x :: 13 :: 10 :: (signsOf 97 B).map (relab x)
    rw [signs_map x B]
  | false :: B => by
    show 32 :: x :: 13 :: 10 :: signsOf x B = 32 :: x :: 13 :: 10 :: (signsOf 97 B).map (relab x)
    rw [signs_map x B]
theorem pageOk_a {x : Nat} (hx : 97 ≤ x) (B : List Bool) (k : Nat) : pageOk x B k = pageOk 97 B k := by
  unfold pageOk
  rw [signs_map x, show midL x = (midL 97).map (relab x) from rfl, within_map _ _ fun a ha b hb => relab_same hx (mid_sign ha) (signs_sign _ hb)]
theorem page4 : ∀ B ∈ pages 4, ∀ k ∈ List.range 4, pageOk 97 B k = true := by decide +kernel
theorem page5 : ∀ B ∈ pages 5, ∀ k ∈ List.range 5, pageOk 97 B k = true := by decide +kernel
theorem page6 : ∀ B ∈ pages 6, ∀ k ∈ List.range 6, pageOk 97 B k = true := by decide +kernel
theorem page_ok {x : Nat} (hx : 97 ≤ x ∧ x < 123) {B : List Bool} (hn : B.length = 4 ∨ B.length = 5 ∨ B.length = 6) {k : Nat} (hk : k < B.length) : pageOk x B k = true := by
  have hm := mem_pages B
  have hr : k ∈ List.range B.length := List.mem_range.mpr hk
  rw [pageOk_a hx.1]
  revert hm hr
  rcases hn with h | h | h <;> rw [h] <;> intro hm hr
  · exact page4 B hm k hr
  · exact page5 B hm k hr
  · exact page6 B hm k hr
theorem has_beside {x : Nat} (hx : 97 ≤ x ∧ x < 123) {B : List Bool} (hn : B.length = 4 ∨ B.length = 5 ∨ B.length = 6) {k : Nat} (hk : k < B.length) (h2 : noTwo B = true) (hb : B.getD k false = false) :
    hasText (gotOf x (rows x B) k) (midOf x) = beside B k := by
  have h := page_ok hx hn hk
  unfold pageOk at h
  rw [h2, hb] at h
  rw [hasText_within]
  unfold gotOf
  rw [join_flat, grown_rows, signs_rows]
  have h' : within (midL x) (signsOf x (putB B k)) = beside B k := by simpa using h
  exact h'
theorem step4 : ∀ B ∈ pages 4, ∀ k ∈ List.range 4, (!(noTwo B) || noTwo (stepB B k)) = true ∧ toldL (bitsOf B) k = bitsOf (stepB B k) := by decide +kernel
theorem step5 : ∀ B ∈ pages 5, ∀ k ∈ List.range 5, (!(noTwo B) || noTwo (stepB B k)) = true ∧ toldL (bitsOf B) k = bitsOf (stepB B k) := by decide +kernel
theorem step6 : ∀ B ∈ pages 6, ∀ k ∈ List.range 6, (!(noTwo B) || noTwo (stepB B k)) = true ∧ toldL (bitsOf B) k = bitsOf (stepB B k) := by decide +kernel
theorem step_ok {B : List Bool} (hn : B.length = 4 ∨ B.length = 5 ∨ B.length = 6) {k : Nat} (hk : k < B.length) : (!(noTwo B) || noTwo (stepB B k)) = true ∧ toldL (bitsOf B) k = bitsOf (stepB B k) := by
  have hm := mem_pages B
  have hr : k ∈ List.range B.length := List.mem_range.mpr hk
  revert hm hr
  rcases hn with h | h | h <;> rw [h] <;> intro hm hr
  · exact step4 B hm k hr
  · exact step5 B hm k hr
  · exact step6 B hm k hr
theorem step_noTwo {B : List Bool} (hn : B.length = 4 ∨ B.length = 5 ∨ B.length = 6) {k : Nat} (hk : k < B.length) (h2 : noTwo B = true) : noTwo (stepB B k) = true := by
  have := (step_ok hn hk).1
  rw [h2] at this
  simpa using this
theorem step_len {B : List Bool} {k : Nat} (hk : k < B.length) : (stepB B k).length = B.length := by
  unfold stepB
  simp only [List.length_append, List.length_take, List.length_drop, List.length_cons, List.length_nil]
  omega
theorem rows_get {x : Nat} {B : List Bool} {k : Nat} (hk : k < B.length) : (rows x B)[(k : Int).toNat]? = some (rowOf x (B.getD k false)) := by
  unfold rows
  rw [show ((k : Int)).toNat = k by omega, List.getElem?_map, List.getD_eq_getElem?_getD, List.getElem?_eq_getElem hk]
  rfl
theorem cut_back_in {B : List Bool} {k : Nat} (hk : k < B.length) : B.take k ++ [B.getD k false] ++ B.drop (k + 1) = B := by
  rw [List.getD_eq_getElem?_getD, List.getElem?_eq_getElem hk, Option.getD_some, List.append_assoc, List.singleton_append, List.getElem_cons_drop, List.take_append_drop]
theorem row_len (x : Nat) (b : Bool) : (rowOf x b).length ≤ 3 := by cases b <;> exact Nat.le_of_ble_eq_true rfl
theorem rows_sum (x : Nat) : ∀ B : List Bool, (((rows x B).map (· ++ crlf)).map (·.length)).sum ≤ 5 * B.length
  | [] => Nat.le_refl _
  | b :: B => by
    show (rowOf x b ++ crlf).length + (((rows x B).map (· ++ crlf)).map (·.length)).sum ≤ 5 * (B.length + 1)
    have h1 := rows_sum x B
    have h2 : (rowOf x b ++ crlf).length ≤ 5 := by cases b <;> exact Nat.le_of_ble_eq_true rfl
    omega
theorem put_len {B : List Bool} {k : Nat} (hk : k < B.length) : (putB B k).length = B.length := by
  unfold putB
  simp only [List.length_append, List.length_take, List.length_drop, List.length_cons, List.length_nil]
  omega
theorem join_len (us : List Str) : (Txt.join (Str.ofString "") us).length = (us.map (·.length)).sum := by
  show (Txt.join (Str.ofString "") us).cps.size = _
  rw [← Array.length_toList, join_flat, List.length_flatMap]
  rfl
theorem rows_map_take (x : Nat) (B : List Bool) (k : Nat) (b : Bool) : (rows x B).take k ++ [rowOf x b] ++ (rows x B).drop (k + 1) = rows x (B.take k ++ [b] ++ B.drop (k + 1)) := by
  unfold rows
  rw [List.map_append, List.map_append, List.map_take, List.map_drop]
  rfl
theorem turnB {w : World} {fr gd} {s : Shared} {p : Program} {loose : List Str} {mean : ExcName → Option Value} {mg mb : Str → Option Value} {Q E : Value → Shared → Prop} {pl : Addr} {vs : List Value} {nn : Nat} {B : List Bool} {k : Nat} {x : Nat} {e : Str} {tk tl te : Tok}
    (X : (Mine.hd.heap_39 w.params).In s.heap) (T : Top p loose mean mg mb s.heap)
    (hb : s.heap.get? pl = some (listOf (List.toArray vs) nn)) (hi : StrsAre vs (rows x B)) (hn : B.length = 4 ∨ B.length = 5 ∨ B.length = 6) (hk : k < B.length) (h2 : noTwo B = true) (hx : 97 ≤ x ∧ x < 123) (he : e ∈ ends)
    (hret : ∀ D ws n' h' tk', Grow s.heap h' → h'.get? D = some (listOf (List.toArray ws) n') → (s.heap.get? D = none ∨ (D = pl ∧ ws = vs ∧ n' = nn)) → StrsAre ws (rows x (stepB B k)) → Q (.ref D) { s with heap := h', toks := tk' }) :
    wpAny (model PR w) (AR fr gd) (call (.ref 67) [.ref pl, .int (k : Int) tk, .str ⟨#[x]⟩ tl, .str e te]) Q E s := by
  have hL : s.heap.IsList pl vs.toArray := ⟨_, hb, rfl, nn, rfl⟩
  have hv : vs.length ≤ 6 := by
    have := (StrsAre.areOf hi).length
    rw [this]
    show (B.map _).length ≤ 6
    rw [List.length_map]
    omega
  have hg := rows_get (x := x) hk
  cases hbk : B.getD k false with
  | true =>
    rw [hbk] at hg
    refine turn_in X T hL hi hv hg (by omega) fun D ws h' tk' g hD hf hws => hret D ws 0 h' tk' g hD (.inl hf) ?_
    have e1 : stepB B k = B.take k ++ [false] ++ B.drop (k + 1) := by unfold stepB; rw [hbk]; rfl
    rw [e1, ← rows_map_take]
    exact hws
  | false =>
    rw [hbk] at hg
    have hgr : List.take (k : Int).toNat (rows x B) ++ [rowIn x] ++ List.drop ((k : Int) + 1).toNat (rows x B) = rows x (putB B k) := grown_rows x B k
    have hbs := has_beside hx hn hk h2 hbk
    unfold gotOf grownL at hbs
    have hsum := rows_sum x (putB B k)
    rw [put_len hk] at hsum
    refine turn_out X T hL hi hv hg (by omega) hx he ?_ ?_ ?_ (fun h' tk' g ht => ?_) fun hf D ws h' tk' g hD hfr hws => ?_
    · rw [hgr]
      intro a ha
      obtain ⟨b, _, rfl⟩ := List.mem_map.mp ha
      have := row_len x b
      omega
    · rw [hgr]; omega
    · rw [hgr, join_len]; omega
    · rw [hbs] at ht
      have e1 : stepB B k = B := by
        unfold stepB
        rw [ht, show (!(B.getD k false) && !true) = B.getD k false by rw [hbk]; rfl]
        exact cut_back_in hk
      exact hret pl vs nn h' tk' g (g _ _ hb) (.inr ⟨rfl, rfl, rfl⟩) (by rw [e1]; exact hi)
    · rw [hbs] at hf
      have e1 : stepB B k = putB B k := by unfold stepB putB; rw [hf, hbk]; rfl
      refine hret D ws 0 h' tk' g hD (.inl hfr) ?_
      rw [e1, ← hgr, show ((k : Int)).toNat = k by omega, show ((k : Int) + 1).toNat = k + 1 by omega]
      exact hws
theorem toldB {w : World} {fr gd} {s : Shared} {p : Program} {loose : List Str} {mean : ExcName → Option Value} {mg mb : Str → Option Value} {Q E : Value → Shared → Prop} {bl : Addr} {vs : List Value} {nn : Nat} {B : List Bool} {k : Nat} {tk : Tok}
    (X : (Mine.hd.heap_39 w.params).In s.heap) (T : Top p loose mean mg mb s.heap)
    (hb : s.heap.get? bl = some (listOf (List.toArray vs) nn)) (hi : IntsAre vs (bitsOf B)) (hn : B.length = 4 ∨ B.length = 5 ∨ B.length = 6) (hk : k < B.length)
    (hret : ∀ D ws h' tk', Grow s.heap h' → h'.get? D = some (listOf (List.toArray ws) 0) → s.heap.get? D = none → IntsAre ws (bitsOf (stepB B k)) → Q (.ref D) { s with heap := h', toks := tk' }) :
    wpAny (model PR w) (AR fr gd) (call (.ref 74) [.ref bl, .int (k : Int) tk]) Q E s := by
  have hl : (bitsOf B).length = B.length := List.length_map ..
  refine told X T ⟨_, hb, rfl, nn, rfl⟩ hi (by omega) (by omega) fun D ws h' tk' g hD hf hws => hret D ws h' tk' g hD hf ?_
  rw [← (step_ok hn hk).2]
  exact hws
end Mine
end
section
set_option maxRecDepth 100000
set_option maxHeartbeats 0
namespace Mine
def roundB (o : List Nat) (B : List Bool) : List Bool := o.foldl stepB B
def iter (o : List Nat) : Nat → List Bool → List Bool
  | 0, B => B
  | j + 1, B => iter o j (roundB o B)
def orders : Nat → List (List Nat)
  | 0 => [[]]
  | n + 1 => (orders n).flatMap fun o => (List.range (n + 1)).map fun p => o.take p ++ [n] ++ o.drop p
def menu (n : Nat) : List Nat := if n = 4 then [3, 5] else if n = 5 then [2, 3, 8] else [3, 7, 11]
/-- turns of rows that are no neighbours may be swapped: an order's normal form -/
def ins (a : Nat) : List Nat → List Nat
  | [] => [a]
  | b :: r => bif Nat.ble (b + 2) a then b :: ins a r else a :: b :: r
def norm : List Nat → List Nat
  | [] => []
  | a :: r => ins a (norm r)
def reps4 : List (List Nat) := [[0, 1, 2, 3], [0, 1, 3, 2], [0, 2, 1, 3], [0, 3, 2, 1], [1, 0, 2, 3], [1, 0, 3, 2], [2, 1, 0, 3], [3, 2, 1, 0]]
def reps5 : List (List Nat) := [[0, 1, 2, 3, 4], [0, 1, 2, 4, 3], [0, 1, 3, 2, 4], [0, 1, 4, 3, 2], [0, 2, 1, 3, 4], [0, 2, 1, 4, 3], [0, 3, 2, 1, 4], [0, 4, 3, 2, 1], [1, 0, 2, 3, 4], [1, 0, 2, 4, 3], [1, 0, 3, 2, 4], [1, 0, 4, 3, 2], [2, 1, 0, 3, 4], [2, 1, 0, 4, 3], [3, 2, 1, 0, 4], [4, 3, 2, 1, 0]]
def reps6 : List (List Nat) := [[0, 1, 2, 3, 4, 5], [0, 1, 2, 3, 5, 4], [0, 1, 2, 4, 3, 5], [0, 1, 2, 5, 4, 3], [0, 1, 3, 2, 4, 5], [0, 1, 3, 2, 5, 4], [0, 1, 4, 3, 2, 5], [0, 1, 5, 4, 3, 2], [0, 2, 1, 3, 4, 5], [0, 2, 1, 3, 5, 4], [0, 2, 1, 4, 3, 5], [0, 2, 1, 5, 4, 3], [0, 3, 2, 1, 4, 5], [0, 3, 2, 1, 5, 4], [0, 4, 3, 2, 1, 5], [0, 5, 4, 3, 2, 1], [1, 0, 2, 3, 4, 5], [1, 0, 2, 3, 5, 4], [1, 0, 2, 4, 3, 5], [1, 0, 2, 5, 4, 3], [1, 0, 3, 2, 4, 5], [1, 0, 3, 2, 5, 4], [1, 0, 4, 3, 2, 5], [1, 0, 5, 4, 3, 2], [2, 1, 0, 3, 4, 5], [2, 1, 0, 3, 5, 4], [2, 1, 0, 4, 3, 5], [2, 1, 0, 5, 4, 3], [3, 2, 1, 0, 4, 5], [3, 2, 1, 0, 5, 4], [4, 3, 2, 1, 0, 5], [5, 4, 3, 2, 1, 0]]
/-- a page as a number: a digit of base 16 a row -/
def enc : List Bool → Nat
  | [] => 0
  | b :: B => (if b then 1 else 0) + 16 * enc B
/-- the value first, then what is done with it -/
def force {α : Type} (m : Nat) (k : Nat → α) : α := match m with
  | 0 => k 0
  | m + 1 => k (m + 1)
theorem force_eq {α : Type} (m : Nat) (k : Nat → α) : force m k = k m := by cases m <;> rfl
def turnP (a b m : Nat) : Nat := bif Nat.beq (Nat.land m a) 0 then (bif Nat.beq (Nat.land m b) 0 then Nat.add m a else m) else Nat.sub m a
def own (k : Nat) : Nat := 16 ^ k
def next (k : Nat) : Nat := 16 ^ (k + 1) + 16 ^ k / 16
def roundK {α : Type} : List Nat → Nat → (Nat → α) → α
  | [], m, c => c m
  | k :: o, m, c => force (turnP (own k) (next k) m) fun m' => roundK o m' c
def digit (acc k : Nat) : Nat := Nat.mod (Nat.div acc (16 ^ k)) 16
def good (n r acc : Nat) : Bool := (menu n).contains r && (List.range n).all (fun k => Nat.beq (digit acc k) (digit acc (n - 1 - k))) && Nat.beq (2 * digit acc 0 + digit acc 1) r
def chase (n : Nat) (o : List Nat) (m₀ : Nat) : (fuel r m acc : Nat) → Bool
  | 0, _, _, _ => false
  | f + 1, r, m, acc => roundK o m fun m' => force (Nat.add acc m') fun acc' => bif Nat.beq m' m₀ then good n (r + 1) acc' else chase n o m₀ f (r + 1) m' acc'
def chk (n : Nat) (o : List Nat) (B : List Bool) : Bool := !(noTwo B) || force (enc B) fun m => chase n o m 11 0 m 0
theorem norm4 : ∀ o ∈ orders 4, reps4.contains (norm o) = true := by decide +kernel
theorem norm5 : ∀ o ∈ orders 5, reps5.contains (norm o) = true := by decide +kernel
theorem norm6 : ∀ o ∈ orders 6, reps6.contains (norm o) = true := by decide +kernel
theorem chk4 : ∀ o ∈ reps4, ∀ B ∈ pages 4, chk 4 o B = true := by decide +kernel
theorem chk5 : ∀ o ∈ reps5, ∀ B ∈ pages 5, chk 5 o B = true := by decide +kernel
theorem chk6 : ∀ o ∈ reps6, ∀ B ∈ pages 6, chk 6 o B = true := by decide +kernel
theorem swap4 : ∀ B ∈ pages 4, ∀ a ∈ List.range 4, ∀ b ∈ List.range 4, (!(Nat.ble (b + 2) a) || stepB (stepB B b) a == stepB (stepB B a) b) = true := by decide +kernel
theorem swap5 : ∀ B ∈ pages 5, ∀ a ∈ List.range 5, ∀ b ∈ List.range 5, (!(Nat.ble (b + 2) a) || stepB (stepB B b) a == stepB (stepB B a) b) = true := by decide +kernel
theorem swap6 : ∀ B ∈ pages 6, ∀ a ∈ List.range 6, ∀ b ∈ List.range 6, (!(Nat.ble (b + 2) a) || stepB (stepB B b) a == stepB (stepB B a) b) = true := by decide +kernel

def Six (n : Nat) : Prop := n = 4 ∨ n = 5 ∨ n = 6
theorem enc4 : ∀ B ∈ pages 4, ∀ k ∈ List.range 4, enc (stepB B k) = turnP (own k) (next k) (enc B) := by decide +kernel
theorem enc5 : ∀ B ∈ pages 5, ∀ k ∈ List.range 5, enc (stepB B k) = turnP (own k) (next k) (enc B) := by decide +kernel
theorem enc6 : ∀ B ∈ pages 6, ∀ k ∈ List.range 6, enc (stepB B k) = turnP (own k) (next k) (enc B) := by decide +kernel
theorem enc_step {B : List Bool} (hn : Six B.length) {k : Nat} (hk : k < B.length) : enc (stepB B k) = turnP (own k) (next k) (enc B) := by
  have hm := mem_pages B
  have hr : k ∈ List.range B.length := List.mem_range.mpr hk
  revert hm hr
  rcases hn with h | h | h <;> rw [h] <;> intro hm hr
  · exact enc4 B hm k hr
  · exact enc5 B hm k hr
  · exact enc6 B hm k hr
theorem swap_ok {B : List Bool} (hn : Six B.length) {a b : Nat} (ha : a < B.length) (hab : b + 2 ≤ a) : stepB (stepB B b) a = stepB (stepB B a) b := by
  have hm := mem_pages B
  have h1 : a ∈ List.range B.length := List.mem_range.mpr ha
  have h2 : b ∈ List.range B.length := List.mem_range.mpr (by omega)
  have hle : Nat.ble (b + 2) a = true := Nat.ble_eq_true_of_le hab
  have key : (!(Nat.ble (b + 2) a) || stepB (stepB B b) a == stepB (stepB B a) b) = true := by
    revert hm h1 h2
    rcases hn with h | h | h <;> rw [h] <;> intro hm h1 h2
    · exact swap4 B hm a h1 b h2
    · exact swap5 B hm a h1 b h2
    · exact swap6 B hm a h1 b h2
  rw [hle] at key
  exact eq_of_beq (by simpa using key)
theorem round_cons (k : Nat) (o : List Nat) (B : List Bool) : roundB (k :: o) B = roundB o (stepB B k) := rfl
theorem round_len {o : List Nat} : ∀ {B : List Bool}, (∀ k ∈ o, k < B.length) → (roundB o B).length = B.length := by
  induction o with
  | nil => intro B _; rfl
  | cons k o ih =>
    intro B h
    have hk := h k (.head _)
    rw [round_cons, ih (by rw [step_len hk]; exact fun j hj => h j (.tail _ hj)), step_len hk]
theorem ins_round {n a : Nat} (hn : Six n) (ha : a < n) : ∀ (l : List Nat) (B : List Bool), B.length = n → (∀ k ∈ l, k < n) → roundB (ins a l) B = roundB (a :: l) B := by
  intro l
  induction l with
  | nil => intro B _ _; rfl
  | cons b r ih =>
    intro B hB hl
    have hb := hl b (.head _)
    unfold ins
    cases hc : Nat.ble (b + 2) a with
    | false => rfl
    | true =>
      have hab := Nat.le_of_ble_eq_true hc
      show roundB (b :: ins a r) B = _
      rw [round_cons, ih (stepB B b) (by rw [step_len (by omega), hB]) (fun k hk => hl k (.tail _ hk)), round_cons, round_cons, round_cons, swap_ok (by rw [hB]; exact hn) (by omega) hab]
theorem ins_mem {a : Nat} : ∀ {l : List Nat} {k : Nat}, k ∈ ins a l → k = a ∨ k ∈ l := by
  intro l
  induction l with
  | nil => intro k h; exact .inl (List.mem_singleton.mp h)
  | cons b r ih =>
    intro k h
    unfold ins at h
    cases hc : Nat.ble (b + 2) a with
    | false =>
      rw [hc] at h
      rcases List.mem_cons.mp h with h | h
      · exact .inl h
      · exact .inr h
    | true =>
      rw [hc] at h
      rcases List.mem_cons.mp h with h | h
      · exact .inr (by rw [h]; exact .head _)
      · rcases ih h with h | h
        · exact .inl h
        · exact .inr (.tail _ h)
theorem norm_mem : ∀ {l : List Nat} {k : Nat}, k ∈ norm l → k ∈ l := by
  intro l
  induction l with
  | nil => intro k h; exact h
  | cons a r ih =>
    intro k h
    rcases ins_mem h with h | h
    · rw [h]; exact .head _
    · exact .tail _ (ih h)
theorem norm_round {n : Nat} (hn : Six n) : ∀ (l : List Nat) (B : List Bool), B.length = n → (∀ k ∈ l, k < n) → roundB (norm l) B = roundB l B := by
  intro l
  induction l with
  | nil => intro B _ _; rfl
  | cons a r ih =>
    intro B hB hl
    have ha := hl a (.head _)
    show roundB (ins a (norm r)) B = _
    rw [ins_round hn ha _ _ hB (fun k hk => hl k (.tail _ (norm_mem hk))), round_cons, round_cons, ih _ (by rw [step_len (by omega), hB]) (fun k hk => hl k (.tail _ hk))]
theorem roundK_eq {α : Type} {n : Nat} (hn : Six n) (c : Nat → α) : ∀ (o : List Nat) (B : List Bool), B.length = n → (∀ k ∈ o, k < n) → roundK o (enc B) c = c (enc (roundB o B)) := by
  intro o
  induction o with
  | nil => intro B _ _; rfl
  | cons k o ih =>
    intro B hB ho
    have hk := ho k (.head _)
    unfold roundK
    rw [force_eq, ← enc_step (by rw [hB]; exact hn) (by omega), ih _ (by rw [step_len (by omega), hB]) (fun j hj => ho j (.tail _ hj))]
    rfl
theorem enc_inj : ∀ {B B' : List Bool}, B.length = B'.length → enc B = enc B' → B = B'
  | [], [], _, _ => rfl
  | [], _ :: _, h, _ => by cases h
  | _ :: _, [], h, _ => by cases h
  | b :: B, b' :: B', h, e => by
    unfold enc at e
    have h' : B.length = B'.length := by simpa using h
    cases b <;> cases b' <;> simp only [if_true, Bool.false_eq_true, if_false] at e
    · rw [enc_inj h' (by omega)]
    · omega
    · omega
    · rw [enc_inj h' (by omega)]
theorem iter_succ (o : List Nat) : ∀ (j : Nat) (B : List Bool), iter o (j + 1) B = roundB o (iter o j B)
  | 0, _ => rfl
  | j + 1, B => by
    show iter o (j + 1) (roundB o B) = roundB o (iter o j (roundB o B))
    exact iter_succ o j _
theorem iter_len {o : List Nat} {n : Nat} (ho : ∀ k ∈ o, k < n) {B : List Bool} (hB : B.length = n) : ∀ j, (iter o j B).length = n
  | 0 => hB
  | j + 1 => by rw [iter_succ, round_len (by rw [iter_len ho hB j]; exact ho), iter_len ho hB j]
def seen (o : List Nat) (B : List Bool) (r : Nat) : List (List Bool) := (List.range r).map fun j => iter o (j + 1) B
theorem seen_succ (o : List Nat) (B : List Bool) (r : Nat) : seen o B (r + 1) = seen o B r ++ [iter o (r + 1) B] := by
  unfold seen
  rw [List.range_succ, List.map_append]
  rfl
theorem chase_spec {n : Nat} (hn : Six n) {o : List Nat} (ho : ∀ k ∈ o, k < n) {B : List Bool} (hB : B.length = n) : ∀ (f r : Nat), chase n o (enc B) f r (enc (iter o r B)) ((seen o B r).map enc).sum = true →
    ∃ r', r < r' ∧ r' ≤ r + f ∧ iter o r' B = B ∧ (∀ j, r < j → j < r' → iter o j B ≠ B) ∧ good n r' ((seen o B r').map enc).sum = true
  | 0, r, h => by cases h
  | f + 1, r, h => by
    unfold chase at h
    rw [roundK_eq hn _ o _ (iter_len ho hB r) ho, force_eq, ← iter_succ] at h
    have hs : ((seen o B r).map enc).sum + enc (iter o (r + 1) B) = ((seen o B (r + 1)).map enc).sum := by
      rw [seen_succ, List.map_append, List.sum_append]; simp
    have hs' : Nat.add ((seen o B r).map enc).sum (enc (iter o (r + 1) B)) = ((seen o B (r + 1)).map enc).sum := hs
    rw [hs'] at h
    cases hc : Nat.beq (enc (iter o (r + 1) B)) (enc B) with
    | true =>
      rw [hc] at h
      refine ⟨r + 1, Nat.lt_succ_self _, by omega, enc_inj (by rw [iter_len ho hB, hB]) (Nat.eq_of_beq_eq_true hc), fun j h1 h2 => absurd h1 (by omega), h⟩
    | false =>
      rw [hc] at h
      obtain ⟨r', h1, h2, h3, h4, h5⟩ := chase_spec hn ho hB f (r + 1) h
      refine ⟨r', by omega, by omega, h3, fun j g1 g2 => ?_, h5⟩
      by_cases hj : j = r + 1
      · subst hj
        intro e
        rw [e, Nat.beq_refl] at hc
        cases hc
      · exact h4 j (by omega) g2
def times (V : List (List Bool)) (k : Nat) : Nat := V.countP fun B => B.getD k false
theorem times_le (V : List (List Bool)) (k : Nat) : times V k ≤ V.length := List.countP_le_length
theorem sum_heads : ∀ V : List (List Bool), (∀ B ∈ V, 0 < B.length) → (V.map enc).sum = times V 0 + 16 * ((V.map List.tail).map enc).sum
  | [], _ => rfl
  | [] :: V, h => absurd (h [] (.head _)) (Nat.lt_irrefl _)
  | (b :: B) :: V, h => by
    have ih := sum_heads V fun B hB => h B (.tail _ hB)
    show enc (b :: B) + (V.map enc).sum = times ((b :: B) :: V) 0 + 16 * (enc B + ((V.map List.tail).map enc).sum)
    rw [ih]
    unfold times
    cases b
    · rw [List.countP_cons_of_neg (by simp)]
      show 0 + 16 * enc B + _ = _
      omega
    · rw [List.countP_cons_of_pos (by simp)]
      show 1 + 16 * enc B + _ = _
      omega
theorem times_tail (V : List (List Bool)) (k : Nat) : times V (k + 1) = times (V.map List.tail) k := by
  unfold times
  rw [List.countP_map]
  congr 1
  funext B
  cases B <;> rfl
theorem digit_sum : ∀ (k : Nat) (V : List (List Bool)), (∀ B ∈ V, k < B.length) → V.length ≤ 15 → digit (V.map enc).sum k = times V k
  | 0, V, h, hl => by
    have h1 := sum_heads V h
    have h2 := times_le V 0
    show (V.map enc).sum / 16 ^ 0 % 16 = _
    rw [h1, Nat.pow_zero, Nat.div_one]
    omega
  | k + 1, V, h, hl => by
    have h1 := sum_heads V fun B hB => Nat.lt_of_le_of_lt (Nat.zero_le _) (h B hB)
    have h2 := times_le V 0
    have ih := digit_sum k (V.map List.tail) (fun B hB => by
      obtain ⟨B', hB', rfl⟩ := List.mem_map.mp hB
      have := h B' hB'
      rw [List.length_tail]; omega) (by rw [List.length_map]; exact hl)
    have e : (V.map enc).sum / 16 = ((V.map List.tail).map enc).sum := by omega
    show (V.map enc).sum / 16 ^ (k + 1) % 16 = _
    rw [times_tail, ← ih, Nat.pow_succ, Nat.mul_comm, ← Nat.div_div_eq_div_mul, e]
    rfl
theorem orders_mem : ∀ {n : Nat} {o : List Nat}, o ∈ orders n → ∀ k ∈ o, k < n
  | 0, o, h, k, hk => by
    rw [List.mem_singleton.mp h] at hk; cases hk
  | n + 1, o, h, k, hk => by
    obtain ⟨o', h1, h2⟩ := List.mem_flatMap.mp h
    obtain ⟨p, _, rfl⟩ := List.mem_map.mp h2
    rcases List.mem_append.mp hk with hk | hk
    · rcases List.mem_append.mp hk with hk | hk
      · exact Nat.lt_succ_of_lt (orders_mem h1 k (List.mem_of_mem_take hk))
      · rw [List.mem_singleton.mp hk]; exact Nat.lt_succ_self _
    · exact Nat.lt_succ_of_lt (orders_mem h1 k (List.mem_of_mem_drop hk))
theorem chk_ok {n : Nat} (hn : Six n) {o : List Nat} (ho : o ∈ orders n) {B : List Bool} (hB : B.length = n) : chk n (norm o) B = true := by
  have hm := mem_pages B
  rw [hB] at hm
  rcases hn with rfl | rfl | rfl
  · exact chk4 _ (by simpa using norm4 o ho) B hm
  · exact chk5 _ (by simpa using norm5 o ho) B hm
  · exact chk6 _ (by simpa using norm6 o ho) B hm
theorem iter_norm {n : Nat} (hn : Six n) {o : List Nat} (ho : ∀ k ∈ o, k < n) {B : List Bool} (hB : B.length = n) : ∀ j, iter (norm o) j B = iter o j B
  | 0 => rfl
  | j + 1 => by rw [iter_succ, iter_succ, iter_norm hn ho hB j, norm_round hn o _ (iter_len ho hB j) ho]
theorem plain {n : Nat} (hn : Six n) {o : List Nat} (ho : o ∈ orders n) {B : List Bool} (hB : B.length = n) (h2 : noTwo B = true) :
    ∃ r, 1 ≤ r ∧ r ≤ 11 ∧ r ∈ menu n ∧ iter o r B = B ∧ (∀ j, 1 ≤ j → j < r → iter o j B ≠ B) ∧ (∀ k, k < n → times (seen o B r) k = times (seen o B r) (n - 1 - k)) ∧ 2 * times (seen o B r) 0 + times (seen o B r) 1 = r := by
  have hm := orders_mem ho
  have h := chk_ok hn ho hB
  unfold chk at h
  rw [h2, force_eq] at h
  have h' : chase n (norm o) (enc B) 11 0 (enc B) 0 = true := by simpa using h
  obtain ⟨r, h1, h3, h4, h5, h6⟩ := chase_spec hn (fun k hk => hm k (norm_mem hk)) hB 11 0 h'
  have hs : seen (norm o) B r = seen o B r := by
    unfold seen
    exact List.map_congr_left fun j _ => iter_norm hn hm hB _
  rw [hs] at h6
  unfold good at h6
  have hd : ∀ k, k < n → digit ((seen o B r).map enc).sum k = times (seen o B r) k := fun k hk => digit_sum k _ (fun B' hB' => by
    obtain ⟨j, _, rfl⟩ := List.mem_map.mp hB'
    rw [iter_len hm hB]; exact hk) (by unfold seen; rw [List.length_map, List.length_range]; omega)
  simp only [Bool.and_eq_true] at h6
  obtain ⟨⟨g1, g2⟩, g3⟩ := h6
  have hn1 : 4 ≤ n := by rcases hn with h | h | h <;> omega
  refine ⟨r, h1, by omega, by simpa using g1, by rw [← iter_norm hn hm hB]; exact h4, fun j j1 j2 => by rw [← iter_norm hn hm hB]; exact h5 j j1 j2, fun k hk => ?_, ?_⟩
  · have := Nat.eq_of_beq_eq_true (List.all_eq_true.mp g2 k (List.mem_range.mpr hk))
    rw [hd k hk, hd (n - 1 - k) (by omega)] at this
    exact this
  · have := Nat.eq_of_beq_eq_true g3
    rw [hd 0 (by omega), hd 1 (by omega)] at this
    exact this
end Mine
end
section
open PySem PySem.W PyProof.Rows PySem.Calls
set_option maxRecDepth 100000
set_option maxHeartbeats 0
namespace Mine
section
variable {prog : Program} {w : World} {A : Around} {E : Value → Shared → Prop} {s : Shared} {env : Env} {h₀ : Heap}
/-- a ledger lives on where one other object changes -/
theorem news_but {L I : Addr} {h h' : Heap} {news : List (Addr × Obj)} (N : News h₀ L h news) (hI : ∀ p ∈ news, p.1 ≠ I) (hs : Heap.ExtBut I h h') : News h₀ L h' news :=
  fun p hp => ⟨hs _ _ (hI p hp) (N p hp).1, (N p hp).2⟩
theorem fr_but {L I : Addr} {h h' : Heap} {m : Str → Option Value} (F : Fr h₀ L h m) (hL : I ≠ L) (h0 : h₀.get? I = none) (hs : Heap.ExtBut I h h') : Fr h₀ L h' m := by
  refine ⟨F.ns.extBut hs (Ne.symm hL), fun b o e => hs b o (fun z => ?_) (F.keep b o e), F.above⟩
  rw [z, h0] at e
  cases e
theorem for_list {x : Str} {px : Pos} {body : List Stmt} {Q : Flow → Shared → Prop} {m : Str → Option Value} {news : List (Addr × Obj)} {l : Addr} {vs : List Value} {nn : Nat}
    (hh : A.handled = none) (hx : env.kindOf x = some .local) (hp : (env.scope.kind == .class || (env.scope.kind == .module && env.locals != env.globals)) = false)
    (F : Fr h₀ env.locals s.heap m) (N : News h₀ env.locals s.heap news)
    (J : Nat → (Str → Option Value) → List (Addr × Obj) → Prop) (hJ : J 0 m news)
    (hl : ∀ i m' news', J i m' news' → (l, listOf (List.toArray vs) nn) ∈ news') (hc : ∀ i m' news', J i m' news' → ∀ p ∈ news', p.2.cls ≠ .type "list_iterator" ∨ ∃ v, p.2.data = .cell v)
    (turn : ∀ (i : Nat) (v : Value) m₁ news₁ own h tk, vs[i]? = some v → J i m₁ news₁ → Fr h₀ env.locals h (fun y => if y = x then some v else m₁ y) → News h₀ env.locals h (news₁ ++ own) →
      wpAny (model prog w) A (execs body env) (fun f s₂ => f = .next ∧ ∃ h' tk' m' news', s₂ = { s with heap := h', toks := tk' } ∧ Fr h₀ env.locals h' m' ∧ News h₀ env.locals h' (news' ++ own) ∧ J (i + 1) m' news') E { s with heap := h, toks := tk })
    (done : ∀ m' news' h' tk', J vs.length m' news' → Fr h₀ env.locals h' m' → News h₀ env.locals h' news' → Q .next { s with heap := h', toks := tk' })
    (hE : PassesOwn (model prog w) A env E) :
    wpAny (model prog w) A (pyIter (.ref l)) (fun it s₂ => codeAny (model prog w) A (.forLoop (.Name x px) it body [] env) (fun r s' => match r with | .ok f => Q f s' | .error e => cameBackBy (model prog w) A env E e s') s₂) E s := by
  have hlm := hl 0 m news hJ
  refine wpAny_pyIter_list (News.isList N hlm) ?_
  have hnew : ∀ b o, s.heap.get? b = some o → b ≠ s.heap.objs.size := fun b o e => Nat.ne_of_lt (Heap.lt_size e)
  obtain ⟨oL, _, _, hL, _⟩ := id F.ns
  have hIL : s.heap.objs.size ≠ env.locals := Ne.symm (hnew _ _ hL)
  have hI0 : h₀.get? s.heap.objs.size = none := by
    cases q : h₀.get? s.heap.objs.size with
    | none => rfl
    | some o => exact absurd (Heap.lt_size (F.keep _ _ q)) (Nat.lt_irrefl _)
  generalize hI : s.heap.objs.size = I at hIL hI0 ⊢
  refine codeAny_forLoop (fun n s' => ∃ i m' news' h' tk', s' = { s with heap := h', toks := tk' } ∧ i ≤ vs.length ∧ n = vs.length + 1 - i ∧ h'.IsListIter I l i ∧ Fr h₀ env.locals h' m' ∧ News h₀ env.locals h' news' ∧ J i m' news') ?_ (vs.length + 1)
    ⟨0, m, news, _, s.toks, rfl, Nat.zero_le _, rfl, ⟨_, hI ▸ Heap.get?_push_size _ rfl, rfl, rfl⟩, F.push _, (fun p hp => ⟨Heap.get?_push_of_some _ (N p hp).1, (N p hp).2⟩), hJ⟩
  rintro n s' ⟨i, m', news', h', tk', rfl, hi, rfl, hit, F', N', hJ'⟩
  have hne : ∀ p ∈ news', p.1 ≠ I := fun p hp z => by
    obtain ⟨o, ho, hcls, hdat⟩ := hit
    have e := (N' p hp).1
    rw [z, ho] at e
    cases e
    rcases hc i m' news' hJ' p hp with q | ⟨v, q⟩
    · exact q hcls
    · rw [hdat] at q; cases q
  have hlist := News.isList N' (hl i m' news' hJ')
  cases hv : vs[i]? with
  | none =>
    refine wpAny_pyNext_list_end hh hit hlist (by simpa using hv) fun h₁ he => wpAny_execs_nil ?_
    have hsz : i = vs.length := Nat.le_antisymm hi (by simpa using hv)
    subst hsz
    exact done m' news' h₁ tk' hJ' (fr_but F' hIL hI0 he) (news_but N' hne he)
  | some v =>
    have hlt : i < vs.length := (List.getElem?_eq_some_iff.mp hv).1
    refine wpAny_pyNext_list_item hit hlist (by simpa using hv) fun h₁ hit₁ hs₁ => ?_
    have F₁ := fr_but F' hIL hI0 hs₁.extBut
    have N₁ := news_but N' hne hs₁.extBut
    obtain ⟨o, ho, hcls, hdat⟩ := hit₁
    have NO : News h₀ env.locals h₁ (news' ++ [(I, o)]) := fun p hp => by
      rcases List.mem_append.mp hp with hp | hp
      · exact N₁ p hp
      · rw [List.mem_singleton.mp hp]; exact ⟨ho, hIL, hI0⟩
    refine wpAny_assign_Name (wpAny_storeName_local hx F₁.ns (fun h₂ hn₂ hs₂ => ?_) hp)
    refine wpAny_passesOwn hE (wpAny_mono (turn i v m' news' [(I, o)] h₂ (tk' + 1) hv hJ' (F₁.set hn₂ hs₂) (NO.set hs₂)) (fun f s₂ q => ?_) fun _ _ e => e)
    obtain ⟨rfl, h₃, tk₃, m₃, news₃, rfl, F₃, N₃, J₃⟩ := q
    refine ⟨vs.length + 1 - (i + 1), by omega, i + 1, m₃, news₃, h₃, tk₃, rfl, hlt, rfl, ⟨o, (N₃ (I, o) (List.mem_append_right _ (.head _))).1, hcls, hdat⟩, F₃, fun p hp => N₃ p (List.mem_append_left _ hp), J₃⟩
theorem for_range {x : Str} {px : Pos} {body : List Stmt} {Q : Flow → Shared → Prop} {m : Str → Option Value} {news : List (Addr × Obj)} {r : Addr} {n : Nat} {t u v : Tok}
    (hh : A.handled = none) (hx : env.kindOf x = some .local) (hp : (env.scope.kind == .class || (env.scope.kind == .module && env.locals != env.globals)) = false)
    (hr : IsRange s.heap r 0 (n : Int) 1 t u v) (hn : n ≤ 100)
    (F : Fr h₀ env.locals s.heap m) (N : News h₀ env.locals s.heap news)
    (J : Nat → (Str → Option Value) → List (Addr × Obj) → Prop) (hJ : J 0 m news)
    (hc : ∀ i m' news', J i m' news' → ∀ p ∈ news', p.2.cls ≠ .type "range_iterator" ∨ ∃ v, p.2.data = .cell v)
    (turn : ∀ (i : Nat) (t : Tok) m₁ news₁ own h tk, i < n → J i m₁ news₁ → (∀ p ∈ news₁, ∀ q ∈ own, q.1 ≠ p.1) → Fr h₀ env.locals h (fun y => if y = x then some (.int (i : Int) t) else m₁ y) → News h₀ env.locals h (news₁ ++ own) →
      wpAny (model prog w) A (execs body env) (fun f s₂ => f = .next ∧ ∃ h' tk' m' news', s₂ = { s with heap := h', toks := tk' } ∧ Fr h₀ env.locals h' m' ∧ News h₀ env.locals h' (news' ++ own) ∧ J (i + 1) m' news') E { s with heap := h, toks := tk })
    (done : ∀ m' news' h' tk', J n m' news' → Fr h₀ env.locals h' m' → News h₀ env.locals h' news' → Q .next { s with heap := h', toks := tk' })
    (hE : PassesOwn (model prog w) A env E) :
    wpAny (model prog w) A (pyIter (.ref r)) (fun it s₂ => codeAny (model prog w) A (.forLoop (.Name x px) it body [] env) (fun r s' => match r with | .ok f => Q f s' | .error e => cameBackBy (model prog w) A env E e s') s₂) E s := by
  have hsz : Builtin.Range.rangeSize 0 (n : Int) 1 = (n : Int) := by
    unfold Builtin.Range.rangeSize
    simp only [show (1 : Int) > 0 by decide, if_true]
    first | (split <;> omega) | omega
  have hsm : Builtin.Range.small 0 (n : Int) 1 = true := by
    unfold Builtin.Range.small
    rw [hsz]
    unfold Builtin.Range.rangeFitsLong
    simp only [show (1 : Int) > 0 by decide, if_true, Bool.and_eq_true, Bool.or_eq_true, decide_eq_true_eq]
    omega
  refine wpAny_pyIter_range hr hsm ?_
  rw [hsz]
  have hnew : ∀ b o, s.heap.get? b = some o → b ≠ s.heap.objs.size := fun b o e => Nat.ne_of_lt (Heap.lt_size e)
  obtain ⟨oL, _, _, hL, _⟩ := id F.ns
  have hIL : s.heap.objs.size ≠ env.locals := Ne.symm (hnew _ _ hL)
  have hI0 : h₀.get? s.heap.objs.size = none := by
    cases q : h₀.get? s.heap.objs.size with
    | none => rfl
    | some o => exact absurd (Heap.lt_size (F.keep _ _ q)) (Nat.lt_irrefl _)
  generalize hI : s.heap.objs.size = I at hIL hI0 ⊢
  refine codeAny_forLoop (fun k s' => ∃ i m' news' h' tk', s' = { s with heap := h', toks := tk' } ∧ i ≤ n ∧ k = n + 1 - i ∧ IsRangeIter h' I (i : Int) ((n : Int) - i) 1 ∧ Fr h₀ env.locals h' m' ∧ News h₀ env.locals h' news' ∧ J i m' news') ?_ (n + 1)
    ⟨0, m, news, _, s.toks, rfl, Nat.zero_le _, rfl, by simpa using (hI ▸ Heap.get?_push_size _ rfl : _), F.push _, (fun p hp => ⟨Heap.get?_push_of_some _ (N p hp).1, (N p hp).2⟩), hJ⟩
  rintro k s' ⟨i, m', news', h', tk', rfl, hi, rfl, hit, F', N', hJ'⟩
  have hne : ∀ p ∈ news', p.1 ≠ I := fun p hp z => by
    have e := (N' p hp).1
    rw [z, hit] at e
    rcases hc i m' news' hJ' p hp with q | ⟨v, q⟩
    · exact q (by rw [← Option.some.inj e])
    · rw [← Option.some.inj e] at q; cases q
  by_cases hlt : i < n
  · refine wpAny_pyNext_range_item hit (by omega) fun h₁ hit₁ hs₁ => ?_
    have F₁ := fr_but F' hIL hI0 hs₁.extBut
    have N₁ := news_but N' hne hs₁.extBut
    have e1 : ((i : Int) + 1) = ((i + 1 : Nat) : Int) := by omega
    have e2 : ((n : Int) - i - 1) = (n : Int) - ((i + 1 : Nat) : Int) := by omega
    rw [e1, e2] at hit₁
    have NO : News h₀ env.locals h₁ (news' ++ [(I, { cls := .type "range_iterator", dict := none, data := .fields #[rawInt ((i + 1 : Nat) : Int), rawInt ((n : Int) - ((i + 1 : Nat) : Int)), rawInt 1], slots := #[] })]) := fun p hp => by
      rcases List.mem_append.mp hp with hp | hp
      · exact N₁ p hp
      · rw [List.mem_singleton.mp hp]; exact ⟨hit₁, hIL, hI0⟩
    refine wpAny_assign_Name (wpAny_storeName_local hx F₁.ns (fun h₂ hn₂ hs₂ => ?_) hp)
    refine wpAny_passesOwn hE (wpAny_mono (turn i _ m' news' _ h₂ _ hlt hJ' (fun p hp q hq => by rw [List.mem_singleton.mp hq]; exact fun z => hne p hp z.symm) (F₁.set hn₂ hs₂) (NO.set hs₂)) (fun f s₂ q => ?_) fun _ _ e => e)
    obtain ⟨rfl, h₃, tk₃, m₃, news₃, rfl, F₃, N₃, J₃⟩ := q
    exact ⟨n + 1 - (i + 1), by omega, i + 1, m₃, news₃, h₃, tk₃, rfl, hlt, rfl, (N₃ _ (List.mem_append_right _ (.head _))).1, F₃, fun p hp => N₃ p (List.mem_append_left _ hp), J₃⟩
  · refine wpAny_pyNext_range_end hh hit (by omega) fun h₁ he => wpAny_execs_nil ?_
    have hsz : i = n := by omega
    subst hsz
    exact done m' news' h₁ tk' hJ' (fr_but F' hIL hI0 he) (news_but N' hne he)
end
end Mine
end
section
open PySem PySem.W PyProof.Rows PySem.Calls
set_option maxRecDepth 100000
set_option maxHeartbeats 0
namespace Mine
/-- the law's own text, read out of the program -/
def lawBody : List Stmt := match PySem.Challenge.pw_rl0021_01.main.body.getLast? with
  | some (.FunctionDef _ _ body _ _ _ _ _ _ _) => body
  | _ => []
def lawScope : Scope := match PySem.Challenge.pw_rl0021_01.main.body.getLast? with
  | some (.FunctionDef _ _ _ _ _ _ sc _ _ _) => sc
  | _ => { kind := .function, names := [], isGenerator := false, isCoroutine := false, more := [] }
def stm (i : Nat) : Stmt := lawBody.getD i (.Pass ⟨0, 0, 0, 0⟩)
abbrev envL (L fa : Addr) (cd : Value) : Env := envOfC (Str.ofString "law") lawScope L fa cd
abbrev AL (fr : Option (List Env)) (gd : Option (List Code)) : Around := { handled := none, depth := 350, frames := fr, guards := gd, units := 20 }
theorem body_is : lawBody = [stm 0, stm 1, stm 2, stm 3, stm 4, stm 5, stm 6, stm 7, stm 8, stm 9, stm 10, stm 11] := rfl
end Mine
end
section
open PySem PySem.W PyProof.Rows PySem.Calls
set_option maxRecDepth 100000
set_option maxHeartbeats 0
namespace Mine
def sizeN (n : Nat) : Nat := 4 + min 2 (n / 2)
theorem size_is (n : Nat) : (4 + if (n : Int).fdiv 2 < 2 then (n : Int).fdiv 2 else 2) = ((sizeN n : Nat) : Int) := by
  unfold sizeN
  rw [Int.fdiv_eq_ediv_of_nonneg _ (by omega)]
  split <;> omega
theorem size_six (n : Nat) : Six (sizeN n) := by
  unfold Six sizeN
  omega
def numsOf (ns : List Int) : List Int := (ns ++ [1, 2, 4, 3, 6, 9].drop ns.length).take (sizeN ns.length)
theorem nums_len (ns : List Int) : (numsOf ns).length = sizeN ns.length := by
  unfold numsOf sizeN
  simp only [List.length_take, List.length_append, List.length_drop, List.length_cons, List.length_nil]
  omega
section
variable {w : World} {fr : Option (List Env)} {gd : Option (List Code)} {g : Array GenState} {d : Drawn} {os : OsState} {tk : Nat} {p : Program} {loose : List Str} {mean : ExcName → Option Value} {mg mb : Str → Option Value} {Q : Flow → Shared → Prop} {E : Value → Shared → Prop} {h₀ h : Heap} {L fa sl : Addr} {cd : Value} {m : Str → Option Value} {news : List (Addr × Obj)} {vs : List Value} {ns : List Int} {n : Nat} {t : Tok}
local macro_rules | `(tactic| walk_at "eval Name") => `(tactic| (k_here; k_dflt (refine' nameX_L ?F ?v ?_ ?a ?b; (case F => k_asm); (case a => rfl); (case b => rfl); (case v => assumption))))
local macro_rules | `(tactic| walk_at "subscriptTail Name Slice ref ref") => `(tactic| (k_here; k_dflt (refine' slice_page ?F ?N ?l ?p ?q ?e ?z ?_ ?s ?t; (case F => k_asm); (case N => k_asm); (case l => kmk_list); (case p => kmk_part); (case q => kmk_part); (case e => first | exact pick_upto (by omega) | exact pick_from (by omega)); (case z => (simp only [List.length_append, List.length_cons, List.length_nil, List.length_take, List.length_drop]; omega)); (case s => with_unfolding_all rfl); (case t => kmk_pure)); intro D' h' F' N'; (try k_sweep)))
local macro_rules | `(tactic| walk_at "binaryOp Add ref ref") => `(tactic| (k_here; k_dflt (refine' add_page ?F ?N ?a ?b ?z ?_; (case F => k_asm); (case N => k_asm); (case a => kmk_list); (case b => kmk_list); (case z => (simp only [List.length_append, List.length_cons, List.length_nil, List.length_take, List.length_drop]; omega))); intro D' h' F' N'; (try k_sweep)))
local macro_rules | `(tactic| k_steps) => `(tactic| repeat' (first | (k_unfold; (try dsimp only)) | ((with_reducible show wpAny _ _ (eval _ _) _ _ _); dsimp only; walk1) | ((with_reducible show wpAny _ _ (execs _ _) _ _ _); dsimp only; walk1) | walk1 | (dsimp only; walk1) | fail "no step"))
theorem seg0 (X : (Mine.hd.heap_39 w.params).In h₀) (T : Top p loose mean mg mb h₀) (F : Fr h₀ L h m) (N : News h₀ L h news)
    (hs : m (Str.ofString "script") = some (.ref sl)) (hL : h₀.IsList sl vs.toArray) (hI : IntsAre vs ns) (hn : ns.length ≤ 63)
    (k : ∀ h' tk' t, Fr h₀ L h' (fun y => if y = Str.ofString "size" then some (.int ((sizeN ns.length : Nat) : Int) t) else m y) → News h₀ L h' news → Q .next ⟨h', g, d, tk', os⟩) :
    wpAny (model PR w) (AL fr gd) (exec (stm 0) (envL L fa cd)) Q E ⟨h, g, d, tk, os⟩ := by
  have hfill : (fun (_ : OpenLaw) (_ : Params → Frag) => True) PySem.Challenge.rw_rl0021_01 Mine.hd.heap_39 := by
    k_fill
    trivial
  clear hfill
  conv in stm 0 => whnf
  unfold envL
  conv in lawScope => whnf
  w_strict k_steps
  rw [← size_is] at k
  exact k _ _ _ (by assumption) (by assumption)
theorem seg1 (X : (Mine.hd.heap_39 w.params).In h₀) (T : Top p loose mean mg mb h₀) (F : Fr h₀ L h m) (N : News h₀ L h news)
    (hs : m (Str.ofString "script") = some (.ref sl)) (hL : h₀.IsList sl vs.toArray) (hI : IntsAre vs ns) (hn : ns.length ≤ 63) (hv : vs.length ≤ 63)
    (hz : m (Str.ofString "size") = some (.int (n : Int) t)) (h6 : n = 4 ∨ n = 5 ∨ n = 6)
    (k : ∀ h' tk' D ws, IntsAre ws ((ns ++ [1, 2, 4, 3, 6, 9].drop ns.length).take n) → Fr h₀ L h' (fun y => if y = Str.ofString "numbers" then some (.ref D) else m y) → News h₀ L h' ((D, listOf (List.toArray ws) 0) :: news) → Q .next ⟨h', g, d, tk', os⟩) :
    wpAny (model PR w) (AL fr gd) (exec (stm 1) (envL L fa cd)) Q E ⟨h, g, d, tk, os⟩ := by
  have hfill : (fun (_ : OpenLaw) (_ : Params → Frag) => True) PySem.Challenge.rw_rl0021_01 Mine.hd.heap_39 := by
    k_fill
    trivial
  clear hfill
  conv in stm 1 => whnf
  unfold envL
  conv in lawScope => whnf
  w_strict k_steps
  rename_i F' N'
  have q := (hI.append (IntsAre.drop (.cons 1 tk (.cons 2 (tk + 1) (.cons 4 (tk + 1 + 1) (.cons 3 (tk + 1 + 1 + 1) (.cons 6 (tk + 1 + 1 + 1 + 1) (.cons 9 (tk + 1 + 1 + 1 + 1 + 1) .nil)))))) ns.length)).take n
  refine k _ _ _ _ q F' fun p hp => N' p ?_
  rcases List.mem_cons.mp hp with rfl | hp
  · exact .head _
  · exact .tail _ (.tail _ (.tail _ (.tail _ hp)))
end
end Mine
end
section
open PySem PySem.W PyProof.Rows PySem.Calls
set_option maxRecDepth 100000
set_option maxHeartbeats 0
namespace Mine
theorem fmod26 (n : Int) : 97 ≤ (97 + n.fmod 26).toNat ∧ (97 + n.fmod 26).toNat < 123 := by
  rw [Int.fmod_eq_emod_of_nonneg _ (by omega)]
  omega
theorem News.part {h₀ h : Heap} {L : Addr} {all keep : List (Addr × Obj)} (N : News h₀ L h all) (sub : ∀ p ∈ keep, p ∈ all) : News h₀ L h keep := fun p hp => N p (sub p hp)
theorem all_nil {all : List (Addr × Obj)} : ∀ p ∈ ([] : List (Addr × Obj)), p ∈ all := fun _ h => by cases h
theorem all_cons {all keep : List (Addr × Obj)} {q : Addr × Obj} (h : q ∈ all) (r : ∀ p ∈ keep, p ∈ all) : ∀ p ∈ q :: keep, p ∈ all := fun p hp => by
  rcases List.mem_cons.mp hp with rfl | hp
  · exact h
  · exact r p hp
theorem all_self {keep : List (Addr × Obj)} : ∀ p ∈ keep, p ∈ keep := fun _ h => h
theorem all_tail {all keep : List (Addr × Obj)} {q : Addr × Obj} (r : ∀ p ∈ keep, p ∈ all) : ∀ p ∈ keep, p ∈ q :: all := fun p hp => .tail _ (r p hp)
def notCell (o : Obj) : Prop := ∀ v, o.data ≠ .cell v
theorem notCell_list {vs : List Value} {n : Nat} : notCell (listOf vs.toArray n) := fun _ e => by cases e
section
variable {prog : Program} {w : World} {A : Around} {E : Value → Shared → Prop} {h₀ h : Heap} {L a : Addr} {m : Str → Option Value} {news : List (Addr × Obj)} {g : Array GenState} {d : Drawn} {os : OsState} {tk : Nat}
theorem chr_letter {n : Int} {t : Tok} {Q : Value → Shared → Prop} (k : ∀ x tk t', 97 ≤ x ∧ x < 123 → Q (.str ⟨#[x]⟩ t') ⟨h, g, d, tk, os⟩) :
    wpAny (model prog w) A (call (.builtin "chr") [.int (97 + n.fmod 26) t]) Q E ⟨h, g, d, tk, os⟩ :=
  chr_of_range (by have := fmod26 n; omega) (by have := fmod26 n; omega) (k _ _ _ (fmod26 n))
theorem sum_at {l : Addr} {vs : List Value} {ns : List Int} {Q : Value → Shared → Prop} (F : Fr h₀ L h m) (N : News h₀ L h news) (hh : A.handled = none) (hl : h.IsList l vs.toArray) (hi : IntsAre vs ns)
    (k : ∀ h' tk' t', Fr h₀ L h' m → News h₀ L h' news → Q (.int ns.sum t') ⟨h', g, d, tk', os⟩) : wpAny (model prog w) A (call (.builtin "sum") [.ref l]) Q E ⟨h, g, d, tk, os⟩ :=
  LSm.sum_ints (s := ⟨h, g, d, tk, os⟩) F N hh hl hi k
theorem item_ends {value slice : PySem.Expr} {T : Addr} {t1 t2 t3 u : Tok} {n : Int} {Q : Value → Shared → Prop} (N : News h₀ L h news)
    (hm : (T, ({ cls := .type "tuple", data := .seq #[.str (Str.ofString "\n") t1, .str (Str.ofString "\r") t2, .str (Str.ofString "\r\n") t3] } : Obj)) ∈ news)
    (k : ∀ e t', e ∈ ends → Q (.str e t') ⟨h, g, d, tk, os⟩)
    (hs : subscripted slice false (.ref T) (.int (n.fmod 3) u) = operate [.ref T, .int (n.fmod 3) u] (getItem (.ref T) (.int (n.fmod 3) u)) := by with_unfolding_all rfl) :
    wpAny (model prog w) A (subscriptTail value slice (.ref T) (.int (n.fmod 3) u)) Q E ⟨h, g, d, tk, os⟩ := by
  have h3 : n.fmod 3 = 0 ∨ n.fmod 3 = 1 ∨ n.fmod 3 = 2 := by
    rw [Int.fmod_eq_emod_of_nonneg _ (by omega)]
    omega
  have hT : IsTup h T [.str (Str.ofString "\n") t1, .str (Str.ofString "\r") t2, .str (Str.ofString "\r\n") t3].toArray := News.isTup N hm
  rcases h3 with e | e | e <;> rw [e] at hs ⊢
  · refine item_tupleT hT (by decide) (by decide) (j := 0) rfl rfl (k _ _ ?_) hs
    rw [show Str.ofString "\n" = ⟨#[10]⟩ by decide +kernel]
    exact .head _
  · refine item_tupleT hT (by decide) (by decide) (j := 1) rfl rfl (k _ _ ?_) hs
    rw [show Str.ofString "\r" = ⟨#[13]⟩ by decide +kernel]
    exact .tail _ (.head _)
  · refine item_tupleT hT (by decide) (by decide) (j := 2) rfl rfl (k _ _ ?_) hs
    rw [show Str.ofString "\r\n" = ⟨#[13, 10]⟩ by decide +kernel]
    exact .tail _ (.tail _ (.head _))
/-- a cell is stored anew; what is kept of the ledger is said -/
theorem store_cell {cn : Str} {cs : Scope} {ccd : Value} {cl : List (Str × Addr)} {x : Str} {v : Value} {v₀ : Option Value} {c : Addr} {o : Obj} {Q : Unit → Shared → Prop} (keep : List (Addr × Obj))
    (F : Fr h₀ L h m) (N : News h₀ L h news) (hc : cl.lookup x = some c) (hm : (c, o) ∈ news) (hd : o.data = .cell v₀)
    (sub : ∀ p ∈ keep, p ∈ news ∧ (notCell p.2 ∨ @Ne Nat p.1 c))
    (k : ∀ h' o', Fr h₀ L h' m → News h₀ L h' ((c, o') :: keep) → o'.data = .cell (some v) → Q () ⟨h', g, d, tk, os⟩)
    (hk : cs.kind = .function := by rfl) (hx : (envX cn cs L a ccd cl).kindOf x = some .cell := by rfl) : wpAny (model prog w) A (storeName (envX cn cs L a ccd cl) x v) Q E ⟨h, g, d, tk, os⟩ := by
  have hmem := N (c, o) hm
  have hcL : @Ne Nat c L := hmem.2.1
  have hc0 : h₀.get? c = none := hmem.2.2
  refine wpAny_storeName_cell (s := ⟨h, g, d, tk, os⟩) hk hx hc ⟨o, hmem.1, hd⟩ fun h' hv hs => ?_
  obtain ⟨o', ho', hd'⟩ := hv
  refine k h' o' ⟨F.ns.sameBut hs (Ne.symm hcL), fun b ob e => (hs.2 b (fun q => ?_)).trans (F.keep b ob e), F.above⟩ (fun p hp => ?_) hd'
  · have q' : b = c := q
    rw [q', hc0] at e; cases e
  · rcases List.mem_cons.mp hp with rfl | hp
    · exact ⟨ho', hcL, hc0⟩
    · obtain ⟨h1, h2⟩ := sub p hp
      have hne : @Ne Nat p.1 c := by
        rcases h2 with h2 | h2
        · intro q
          have e1 := (N p h1).1
          have q' : p.1 = c := q
          have e2 : h.get? c = some o := hmem.1
          rw [q', e2] at e1
          cases e1
          exact h2 _ hd
        · exact h2
      exact ⟨(hs.2 p.1 hne).trans (N p h1).1, (N p h1).2⟩
end
section
variable {w : World} {fr : Option (List Env)} {gd : Option (List Code)} {g : Array GenState} {d : Drawn} {os : OsState} {tk : Nat} {p : Program} {loose : List Str} {mean : ExcName → Option Value} {mg mb : Str → Option Value} {Q : Flow → Shared → Prop} {E : Value → Shared → Prop} {h₀ h : Heap} {L fa sl : Addr} {cd : Value} {m : Str → Option Value} {news : List (Addr × Obj)} {vs : List Value} {ns : List Int} {n : Nat} {t : Tok}
local macro_rules | `(tactic| walk_at "eval Name") => `(tactic| (k_here; k_dflt (refine' nameX_L ?F ?v ?_ ?a ?b; (case F => k_asm); (case a => rfl); (case b => rfl); (case v => assumption))))
local macro_rules | `(tactic| walk_at "call builtin:sum") => `(tactic| (k_here; k_dflt (refine' sum_at ?F ?N rfl ?l ?i ?_; (case F => k_asm); (case N => k_asm); (case l => kmk_list); (case i => assumption)); intro h' tk' t' F' N'; (try k_sweep)))
local macro_rules | `(tactic| walk_at "call builtin:chr") => `(tactic| (k_here; refine chr_letter ?_; intro x' tk' t' hx'))
local macro_rules | `(tactic| walk_at "subscriptTail") => `(tactic| (k_here; (with_reducible show wpAny _ _ (subscriptTail _ _ (Value.ref _) (Value.int _ _)) _ _ _); k_dflt (refine item_ends (by k_asm) (by k_mem) ?_); intro e' t' he'))
local macro_rules | `(tactic| k_steps) => `(tactic| repeat' (first | (k_unfold; (try dsimp only)) | ((with_reducible show wpAny _ _ (eval _ _) _ _ _); dsimp only; walk1) | ((with_reducible show wpAny _ _ (execs _ _) _ _ _); dsimp only; walk1) | walk1 | (dsimp only; walk1) | fail "no step"))
theorem seg2 {D : Addr} {ws : List Value} {o1 o2 : Obj} {v0 : Option Value} (X : (Mine.hd.heap_39 w.params).In h₀) (T : Top p loose mean mg mb h₀) (F : Fr h₀ L h m) (N : News h₀ L h [(D, listOf (List.toArray ws) 0), (L + 1, o1), (L + 1 + 1, o2)])
    (hs : m (Str.ofString "numbers") = some (.ref D)) (hI : IntsAre ws ns) (hd : o1.data = .cell v0)
    (k : ∀ h' tk' t1 t2 x e o', 97 ≤ x ∧ x < 123 → e ∈ ends → Fr h₀ L h' (fun y => if y = Str.ofString "end" then some (.str e t2) else m y) →
      News h₀ L h' [(L + 1, o'), (D, listOf (List.toArray ws) 0), (L + 1 + 1, o2)] → o'.data = .cell (some (.str ⟨#[x]⟩ t1)) → Q .next ⟨h', g, d, tk', os⟩) :
    wpAny (model PR w) (AL fr gd) (exec (stm 2) (envL L fa cd)) Q E ⟨h, g, d, tk, os⟩ := by
  have hfill : (fun (_ : OpenLaw) (_ : Params → Frag) => True) PySem.Challenge.rw_rl0021_01 Mine.hd.heap_39 := by
    k_fill
    trivial
  clear hfill
  conv in stm 2 => whnf
  unfold envL
  conv in lawScope => whnf
  w_strict k_steps
  refine k _ _ _ _ _ _ _ (by assumption) (by assumption) (by assumption) (News.part (by assumption) ?_) (by assumption)
  exact all_cons (by k_mem) (all_cons (by k_mem) (all_cons (by k_mem) all_nil))
end
end Mine
end
section
open PySem PySem.W PyProof.Rows PySem.Calls
set_option maxRecDepth 100000
set_option maxHeartbeats 0
namespace Mine
def bodyOf : Stmt → List Stmt
  | .For _ _ b _ _ => b
  | .While _ b _ _ => b
  | _ => []
def iterOf : Stmt → PySem.Expr
  | .For _ i _ _ _ => i
  | .While t _ _ _ => t
  | _ => .Constant .none 0 ⟨0, 0, 0, 0⟩
def nats (o : List Nat) : List Int := o.map fun k : Nat => (k : Int)
def lastOne (B : List Bool) : Bool := B.getLast?.getD false
def nextB (B : List Bool) (x : Int) : Bool := !(lastOne B) && decide (x.fmod 2 = 1)
theorem last_ints : ∀ B : List Bool, decide ((bitsOf B).drop (B.length - 1) = [1]) = lastOne B := by
  intro B
  rcases List.eq_nil_or_concat B with rfl | ⟨C, b, rfl⟩
  · rfl
  · unfold bitsOf lastOne
    rw [List.concat_eq_append, List.map_append, List.length_append, List.length_singleton, Nat.add_sub_cancel, List.getLast?_concat]
    rw [show C.length = (List.map bint C).length by simp, List.drop_left]
    cases b <;> rfl
theorem noTwo_snoc : ∀ {B : List Bool} {b : Bool}, noTwo B = true → (lastOne B = true → b = false) → noTwo (B ++ [b]) = true
  | [], b, _, _ => by cases b <;> rfl
  | [false], b, _, _ => by cases b <;> rfl
  | [true], b, _, h => by rw [h rfl]; rfl
  | false :: c :: B, b, h, hl => by
    have ih := @noTwo_snoc (c :: B) b h (fun e => hl (by simpa [lastOne, List.getLast?_cons_cons] using e))
    exact ih
  | true :: false :: B, b, h, hl => by
    have ih := @noTwo_snoc (false :: B) b h (fun e => hl (by simpa [lastOne, List.getLast?_cons_cons] using e))
    exact ih
  | true :: true :: B, b, h, _ => by cases h
theorem next_noTwo {B : List Bool} {x : Int} (h : noTwo B = true) : noTwo (B ++ [nextB B x]) = true :=
  noTwo_snoc h fun e => by unfold nextB; rw [e]; rfl
theorem bint_next {B : List Bool} {x : Int} (h : lastOne B = false) : x.fmod 2 = bint (nextB B x) := by
  have h2 : x.fmod 2 = 0 ∨ x.fmod 2 = 1 := by
    rw [Int.fmod_eq_emod_of_nonneg _ (by omega)]
    omega
  unfold nextB
  rw [h]
  rcases h2 with e | e <;> rw [e] <;> rfl
theorem pick_last (vs : List Value) : slicePick vs.toArray (some (-1)) none none = (vs.drop (vs.length - 1)).toArray := by
  have e : sliceBounds (some (-1)) none none vs.toArray.size = (((vs.length - 1 : Nat) : Int), ((vs.toArray.size : Nat) : Int), 1) := by
    simp only [sliceBounds, Option.getD_none, show (1 : Int) > 0 by decide, if_true, List.size_toArray]
    congr 1
    simp only [show (-1 : Int) < 0 by decide, if_true]
    omega
  rw [kmk_pick_nat _ e]
  show ((vs.drop (vs.length - 1)).take (vs.toArray.size - (vs.length - 1))).toArray = _
  rw [List.size_toArray, List.take_of_length_le (by rw [List.length_drop]; omega)]
section
variable {prog : Program} {w : World} {A : Around} {E : Value → Shared → Prop} {h₀ h : Heap} {L a : Addr} {m : Str → Option Value} {news : List (Addr × Obj)} {g : Array GenState} {d : Drawn} {os : OsState} {tk : Nat}
theorem item_int {value slice : PySem.Expr} {l : Addr} {vs : List Value} {ns : List Int} {i : Nat} {t : Tok} {Q : Value → Shared → Prop} (hl : h.IsList l vs.toArray) (hi : IntsAre vs ns) (hk : i < ns.length) (h6 : i < 100)
    (k : ∀ t', Q (.int (ns.getD i 0) t') ⟨h, g, d, tk, os⟩)
    (hs : subscripted slice false (.ref l) (.int (i : Int) t) = operate [.ref l, .int (i : Int) t] (getItem (.ref l) (.int (i : Int) t))) :
    wpAny (model prog w) A (subscriptTail value slice (.ref l) (.int (i : Int) t)) Q E ⟨h, g, d, tk, os⟩ := by
  have e : ∃ t', vs[i]? = some (.int (ns.getD i 0) t') := by
    clear hl k hs h6
    induction hi generalizing i with
    | nil => exact absurd hk (Nat.not_lt_zero _)
    | cons a t _ ih =>
      cases i with
      | zero => exact ⟨_, rfl⟩
      | succ i =>
        obtain ⟨t', e⟩ := ih (Nat.lt_of_succ_lt_succ hk)
        exact ⟨t', by simpa using e⟩
  obtain ⟨t', e⟩ := e
  exact tail_any hl.typeIs slot_list_getitem.lookup (wpAny_getItem_list hl (by omega) (by omega) (by simpa using e) (k t')) hs
theorem range_at {n : Int} {t : Tok} {Q : Value → Shared → Prop} (F : Fr h₀ L h m) (N : News h₀ L h news)
    (k : ∀ h' r tk' t₁ u₁ v₁, IsRange h' r 0 n 1 t₁ u₁ v₁ → Fr h₀ L h' m → News h₀ L h' news → Q (.ref r) ⟨h', g, d, tk', os⟩) :
    wpAny (model prog w) A (call (.type "range") [.int n t]) Q E ⟨h, g, d, tk, os⟩ :=
  range1_rows (s := ⟨h, g, d, tk, os⟩) F N fun h' tk' t₁ u₁ v₁ r F' N' _ => k h' _ tk' t₁ u₁ v₁ r F' N'
theorem append_keep {D : Addr} {its : List Value} {n : Nat} {x : Value} {Q : Value → Shared → Prop} (keep : List (Addr × Obj)) (F : Fr h₀ L h m) (N : News h₀ L h news) (hm : (D, listOf its.toArray n) ∈ news) (hz : its.length ≤ 100)
    (sub : ∀ p ∈ keep, p ∈ news ∧ @Ne Nat p.1 D)
    (k : ∀ h', Fr h₀ L h' m → News h₀ L h' ((D, listOf (its ++ [x]).toArray (n + 1)) :: keep) → Q .none ⟨h', g, d, tk, os⟩) : wpAny (model prog w) A (call (.builtin "list.append") [.ref D, x]) Q E ⟨h, g, d, tk, os⟩ := by
  have z := N _ hm
  refine append_at (s := ⟨h, g, d, tk, os⟩) (hsz := by rw [List.size_toArray, sizeLine_eq]; omega) z.1 fun h' hs ho' => k h' (F.change hs z.2.1 z.2.2) fun p hp => ?_
  rcases List.mem_cons.mp hp with rfl | hp
  · rw [List.push_toArray] at ho'
    exact ⟨ho', z.2⟩
  · obtain ⟨h1, h2⟩ := sub p hp
    exact ⟨(hs.2 p.1 h2).trans (N p h1).1, (N p h1).2⟩
theorem eq_last {l1 l2 : Addr} {vs : List Value} {B : List Bool} {t : Tok} {Q : Value → Shared → Prop} (hl : h.IsList l1 (vs.drop (vs.length - 1)).toArray) (hr : h.IsList l2 [Value.int 1 t].toArray) (hi : IntsAre vs (bitsOf B)) (hu : A.units + 64 < cLine)
    (k : Q (.bool (lastOne B)) ⟨h, g, d, tk, os⟩) : wpAny (model prog w) A (compareOp .Eq (.ref l1) (.ref l2)) Q E ⟨h, g, d, tk, os⟩ := by
  have hlen : vs.length = B.length := by
    rw [IntsAre.length hi]; unfold bitsOf; rw [List.length_map]
  refine ke_eq_ints hl hr (hi.drop _) (.cons 1 t .nil) hu ?_
  rw [hlen, last_ints]
  exact k
theorem mod_place {x : Int} {t u : Tok} {i : Nat} {Q : Value → Shared → Prop} (k : ∀ t' tk' p, p ≤ i → Q (.int ((p : Nat) : Int) t') ⟨h, g, d, tk', os⟩) :
    wpAny (model prog w) A (binaryOp .Mod (.int x t) (.int ((i : Int) + 1) u)) Q E ⟨h, g, d, tk, os⟩ := by
  refine mod_int' (by omega) ?_
  have e : x.fmod ((i : Int) + 1) = ((x.fmod ((i : Int) + 1)).toNat : Int) ∧ (x.fmod ((i : Int) + 1)).toNat ≤ i := by
    rw [Int.fmod_eq_emod_of_nonneg _ (by omega)]
    have h1 := Int.emod_nonneg x (show ((i : Int) + 1) ≠ 0 by omega)
    have h2 := Int.emod_lt_of_pos x (show (0 : Int) < (i : Int) + 1 by omega)
    omega
  rw [e.1]
  exact k _ _ _ e.2
theorem list_at {vs : List Value} {Q : Value → Shared → Prop} (F : Fr h₀ L h m) (N : News h₀ L h news) (hz : vs.length ≤ 100)
    (k : ∀ l h', Fr h₀ L h' m → News h₀ L h' ((l, listOf vs.toArray 0) :: news) → (∀ p ∈ news, p.1 < l) → Q (.ref l) ⟨h', g, d, tk, os⟩) : wpAny (model prog w) A (newList vs) Q E ⟨h, g, d, tk, os⟩ :=
  newList_K (s := ⟨h, g, d, tk, os⟩) F N (fun l h' F' N' l1 => k l h' F' N' l1) (by rw [sizeLine_eq]; omega)
theorem add_pageL {a b : Addr} {vs ws : List Value} {Q : Value → Shared → Prop} (F : Fr h₀ L h m) (N : News h₀ L h news) (ha : h.IsList a vs.toArray) (hb : h.IsList b ws.toArray) (hz : vs.length + ws.length ≤ 100)
    (k : ∀ D h', Fr h₀ L h' m → News h₀ L h' ((D, listOf (vs ++ ws).toArray 0) :: news) → (∀ p ∈ news, p.1 < D) → Q (.ref D) ⟨h', g, d, tk, os⟩) : wpAny (model prog w) A (binaryOp .Add (.ref a) (.ref b)) Q E ⟨h, g, d, tk, os⟩ :=
  add_lists (s := ⟨h, g, d, tk, os⟩) (hsz := by rw [sizeLine_eq]; omega) F N ha hb fun h' F' N' => k _ h' F' N' fun p hp => Heap.lt_size (N p hp).1
theorem nats_put {ov : List Value} {o : List Nat} (hov : IntsAre ov (nats o)) (p i : Nat) (t : Tok) : IntsAre (ov.take ((p : Int)).toNat ++ [.int (i : Int) t] ++ ov.drop ((p : Int)).toNat) (nats (o.take p ++ [i] ++ o.drop p)) := by
  have e : nats (o.take p ++ [i] ++ o.drop p) = (nats o).take p ++ [(i : Int)] ++ (nats o).drop p := by
    unfold nats
    rw [List.map_append, List.map_append, List.map_take, List.map_drop]
    rfl
  rw [e, Int.toNat_natCast]
  exact ((hov.take p).append (.cons _ _ .nil)).append (hov.drop p)
theorem bits_put {bv : List Value} {B : List Bool} (hbv : IntsAre bv (bitsOf B)) {b : Bool} {v : Int} {t : Tok} (e : v = bint b) : IntsAre (bv ++ [.int v t]) (bitsOf (B ++ [b])) := by
  unfold bitsOf
  rw [List.map_append, e]
  exact hbv.append (.cons _ _ .nil)
end
section
variable {w : World} {fr : Option (List Env)} {gd : Option (List Code)} {g : Array GenState} {d : Drawn} {os : OsState} {tk : Nat} {p : Program} {loose : List Str} {mean : ExcName → Option Value} {mg mb : Str → Option Value} {Q : Flow → Shared → Prop} {E : Value → Shared → Prop} {h₀ h : Heap} {L fa sl : Addr} {cd : Value} {m : Str → Option Value} {news : List (Addr × Obj)} {vs : List Value} {ns : List Int} {n : Nat} {t : Tok}
local macro_rules | `(tactic| walk_at "LOOK") => `(tactic| first | assumption | exact rfl | (refine (if_neg (by decide)).trans ?_; walk_at "LOOK"))
local macro_rules | `(tactic| walk_at "eval Name") => `(tactic| (k_here; k_dflt (refine' nameX_L ?F ?v ?_ ?a ?b; (case F => k_asm); (case a => rfl); (case b => rfl); (case v => walk_at "LOOK"))))
local macro_rules | `(tactic| walk_at "subscriptTail Name Slice ref ref") => `(tactic| (k_here; k_dflt (refine' slice_page ?F ?N ?l ?p ?q ?e ?z ?_ ?s ?t; (case F => k_asm); (case N => k_asm); (case l => kmk_list); (case p => kmk_part); (case q => kmk_part); (case e => first | exact pick_last _ | exact pick_upto (by omega) | exact pick_from (by omega)); (case z => first | omega | (simp only [List.length_append, List.length_cons, List.length_nil, List.length_take, List.length_drop]; omega)); (case s => with_unfolding_all rfl); (case t => kmk_pure)); intro D' h' F' N'; (try k_sweep)))
local macro_rules | `(tactic| walk_at "binaryOp Add ref ref") => `(tactic| (k_here; k_dflt (refine' add_pageL ?F ?N ?a ?b ?z ?_; (case F => k_asm); (case N => k_asm); (case a => kmk_list); (case b => kmk_list); (case z => first | omega | (simp only [List.length_append, List.length_cons, List.length_nil, List.length_take, List.length_drop]; omega))); intro D' h' F' N' l1; (try k_lt l1); (try k_sweep)))
local macro_rules | `(tactic| walk_at "compareOp Eq ref ref") => `(tactic| (k_here; k_dflt (refine eq_last (by kmk_list) (by kmk_list) (by assumption) ?u ?_; (case u => k_units))))
local macro_rules | `(tactic| walk_at "subscriptTail Name Name ref int") => `(tactic| (k_here; k_dflt (refine item_int (by kmk_list) (by assumption) (by assumption) (by omega) ?_ (by with_unfolding_all rfl)); intro t'))
local macro_rules | `(tactic| walk_at "binaryOp Mod int int") => `(tactic| (k_here; (refine mod_place ?_); intro t' tk' p' hp'))
local macro_rules | `(tactic| walk_at "newList") => `(tactic| (k_here; k_dflt (refine list_at (by k_asm) (by k_asm) (by first | decide | (simp only [List.length_cons, List.length_nil]; omega)) ?_); intro l' h' F' N' l1; (try k_lt l1); (try k_sweep)))
local macro_rules | `(tactic| walk_at "call type:range") => `(tactic| (k_here; k_dflt (refine range_at (by k_asm) (by k_asm) ?_); intro h' r' tk' t1' u1' v1' hR' F' N'; (try k_sweep)))
local macro_rules | `(tactic| k_steps) => `(tactic| repeat' (first | (k_unfold; (try dsimp only)) | ((with_reducible show wpAny _ _ (eval _ _) _ _ _); dsimp only; walk1) | ((with_reducible show wpAny _ _ (execs _ _) _ _ _); dsimp only; walk1) | walk1 | (dsimp only; walk1) | fail "no step"))
theorem seg3 {D : Addr} {ws : List Value} {o1 o2 : Obj} (X : (Mine.hd.heap_39 w.params).In h₀) (T : Top p loose mean mg mb h₀) (F : Fr h₀ L h m) (N : News h₀ L h [(L + 1, o1), (D, listOf (List.toArray ws) 0), (L + 1 + 1, o2)])
    (k : ∀ h' tk' Bd Od m', m' (Str.ofString "bits") = some (.ref Bd) → m' (Str.ofString "order") = some (.ref Od) → (∀ y, y ≠ Str.ofString "bits" → y ≠ Str.ofString "order" → m' y = m y) → Fr h₀ L h' m' →
      News h₀ L h' [(Bd, listOf (List.toArray []) 0), (Od, listOf (List.toArray []) 0), (D, listOf (List.toArray ws) 0), (L + 1, o1), (L + 1 + 1, o2)] → @Ne Nat Od Bd → @Ne Nat D Bd → @Ne Nat (L + 1) Bd → @Ne Nat (L + 1 + 1) Bd → Q .next ⟨h', g, d, tk', os⟩) :
    wpAny (model PR w) (AL fr gd) (exec (stm 3) (envL L fa cd)) Q E ⟨h, g, d, tk, os⟩ := by
  have hfill : (fun (_ : OpenLaw) (_ : Params → Frag) => True) PySem.Challenge.rw_rl0021_01 Mine.hd.heap_39 := by
    k_fill
    trivial
  clear hfill
  conv in stm 3 => whnf
  unfold envL
  conv in lawScope => whnf
  w_strict k_steps
  refine k _ _ _ _ _ rfl rfl (fun y h1 h2 => ?_) (by assumption) (News.part (by assumption) ?_) ?_ ?_ ?_ ?_
  · first
    | exact (if_neg h1).trans (if_neg h2)
    | exact (if_neg h2).trans (if_neg h1)
  · repeat' (first | exact all_nil | refine all_cons (by k_mem) ?_)
  all_goals omega
theorem body4 {Bd Od D : Addr} {bv ov ws : List Value} {nb no i : Nat} {B : List Bool} {o : List Nat} {own : List (Addr × Obj)} (X : (Mine.hd.heap_39 w.params).In h₀) (T : Top p loose mean mg mb h₀) (F : Fr h₀ L h m)
    (N : News h₀ L h ((Bd, listOf bv.toArray nb) :: (Od, listOf ov.toArray no) :: (D, listOf ws.toArray 0) :: own)) (hOB : @Ne Nat Od Bd) (hDB : @Ne Nat D Bd) (hne : ∀ q ∈ own, @Ne Nat q.1 Bd)
    (hb : m (Str.ofString "bits") = some (.ref Bd)) (ho : m (Str.ofString "order") = some (.ref Od)) (hn : m (Str.ofString "numbers") = some (.ref D)) (hk : m (Str.ofString "k") = some (.int (i : Int) t))
    (hbv : IntsAre bv (bitsOf B)) (hov : IntsAre ov (nats o)) (hws : IntsAre ws ns) (hi : i < ns.length) (hvb : bv.length ≤ 6) (hvo : ov.length ≤ 6) (hi6 : i < 6)
    (k : ∀ h' tk' bv' nb' Od' ov' m' p, IntsAre bv' (bitsOf (B ++ [nextB B (ns.getD i 0)])) → IntsAre ov' (nats (o.take p ++ [i] ++ o.drop p)) → p ≤ i →
      m' (Str.ofString "order") = some (.ref Od') → (∀ y, y ≠ Str.ofString "place" → y ≠ Str.ofString "order" → m' y = m y) → Fr h₀ L h' m' →
      News h₀ L h' ((Bd, listOf bv'.toArray nb') :: (Od', listOf ov'.toArray 0) :: (D, listOf ws.toArray 0) :: own) → @Ne Nat Od' Bd → Q .next ⟨h', g, d, tk', os⟩) :
    wpAny (model PR w) (AL fr gd) (execs (bodyOf (stm 4)) (envL L fa cd)) Q E ⟨h, g, d, tk, os⟩ := by
  have hfill : (fun (_ : OpenLaw) (_ : Params → Frag) => True) PySem.Challenge.rw_rl0021_01 Mine.hd.heap_39 := by
    k_fill
    trivial
  clear hfill
  conv in bodyOf (stm 4) => whnf
  unfold envL
  conv in lawScope => whnf
  w_strict k_steps
  all_goals refine append_keep ((Od, listOf ov.toArray no) :: (D, listOf ws.toArray 0) :: own) (by k_asm) (by k_asm) (by k_mem) (by omega) ?_ ?_
  any_goals
    intro p hp
    rcases List.mem_cons.mp hp with rfl | hp
    · exact ⟨by k_mem, hOB⟩
    rcases List.mem_cons.mp hp with rfl | hp
    · exact ⟨by k_mem, hDB⟩
    · refine ⟨?_, hne _ hp⟩
      repeat (first | exact hp | apply List.Mem.tail)
  all_goals
    intro h' F' N'
    k_sweep
  w_strict k_steps
  all_goals
    refine k _ _ _ _ _ _ _ _ (bits_put hbv ?_) (nats_put hov _ _ _) (by assumption) rfl (fun y h1 h2 => (if_neg h2).trans (if_neg h1)) (by assumption) (News.part (by assumption) (all_cons (by k_mem) (all_cons (by k_mem) (all_cons (by k_mem) (fun p hp => by repeat (first | exact hp | apply List.Mem.tail)))))) (by omega)
  · unfold nextB
    rw [show lastOne B = true by assumption]
    rfl
  · exact bint_next (by assumption)
end
end Mine
end
section
open PySem PySem.W PyProof.Rows PySem.Calls
set_option maxRecDepth 100000
set_option maxHeartbeats 0
namespace Mine
abbrev NoE : Value → Shared → Prop := fun _ _ => False
section
variable {w : World} {fr : Option (List Env)} {gd : Option (List Code)} {g : Array GenState} {d : Drawn} {os : OsState} {tk : Nat} {p : Program} {loose : List Str} {mean : ExcName → Option Value} {mg mb : Str → Option Value} {E : Value → Shared → Prop} {h₀ h : Heap} {L fa sl : Addr} {cd : Value} {m : Str → Option Value} {news : List (Addr × Obj)} {vs : List Value} {ns : List Int} {n : Nat} {t : Tok}
section
variable {Q : Value → Shared → Prop}
local macro_rules | `(tactic| walk_at "eval Name") => `(tactic| (k_here; k_dflt (refine' nameX_L ?F ?v ?_ ?a ?b; (case F => k_asm); (case a => rfl); (case b => rfl); (case v => assumption))))
local macro_rules | `(tactic| walk_at "call type:range") => `(tactic| (k_here; k_dflt (refine range_at (by k_asm) (by k_asm) ?_); intro h' r' tk' t1' u1' v1' hR' F' N'; (try k_sweep)))
local macro_rules | `(tactic| k_steps) => `(tactic| repeat' (first | (k_unfold; (try dsimp only)) | ((with_reducible show wpAny _ _ (eval _ _) _ _ _); dsimp only; walk1) | ((with_reducible show wpAny _ _ (execs _ _) _ _ _); dsimp only; walk1) | walk1 | (dsimp only; walk1) | fail "no step"))
theorem iter4 (X : (Mine.hd.heap_39 w.params).In h₀) (T : Top p loose mean mg mb h₀) (F : Fr h₀ L h m) (N : News h₀ L h news) (hz : m (Str.ofString "size") = some (.int (n : Int) t))
    (k : ∀ h' r tk' t₁ u₁ v₁, IsRange h' r 0 (n : Int) 1 t₁ u₁ v₁ → Fr h₀ L h' m → News h₀ L h' news → Q (.ref r) ⟨h', g, d, tk', os⟩) :
    wpAny (model PR w) (AL fr gd) (eval (iterOf (stm 4)) (envL L fa cd)) Q E ⟨h, g, d, tk, os⟩ := by
  have hfill : (fun (_ : OpenLaw) (_ : Params → Frag) => True) PySem.Challenge.rw_rl0021_01 Mine.hd.heap_39 := by
    k_fill
    trivial
  clear hfill
  conv in iterOf (stm 4) => whnf
  unfold envL
  conv in lawScope => whnf
  w_strict k_steps
  exact k _ _ _ _ _ _ (by assumption) (by assumption) (by assumption)
end
theorem stm4_is : ∃ px pos, stm 4 = .For (.Name (Str.ofString "k") px) (iterOf (stm 4)) (bodyOf (stm 4)) [] pos := ⟨_, _, rfl⟩
theorem ordersPut {i q : Nat} {o : List Nat} (ho : o ∈ orders i) (hq : q ≤ i) : o.take q ++ [i] ++ o.drop q ∈ orders (i + 1) :=
  List.mem_flatMap.mpr ⟨o, ho, List.mem_map.mpr ⟨q, List.mem_range.mpr (by omega), rfl⟩⟩
theorem orders_len : ∀ {n : Nat} {o : List Nat}, o ∈ orders n → o.length = n
  | 0, o, h => by rw [List.mem_singleton.mp h]; rfl
  | n + 1, o, h => by
    obtain ⟨o', h1, h2⟩ := List.mem_flatMap.mp h
    obtain ⟨q, hq, rfl⟩ := List.mem_map.mp h2
    have := orders_len h1
    have := List.mem_range.mp hq
    simp only [List.length_append, List.length_take, List.length_drop, List.length_cons, List.length_nil]
    omega
theorem ints_len {vs : List Value} {B : List Bool} (h : IntsAre vs (bitsOf B)) : vs.length = B.length := by
  rw [IntsAre.length h]; unfold bitsOf; rw [List.length_map]
theorem nats_len {vs : List Value} {o : List Nat} (h : IntsAre vs (nats o)) : vs.length = o.length := by
  rw [IntsAre.length h]; unfold nats; rw [List.length_map]
theorem list_ne {q : Addr × Obj} {vs : List Value} {n : Nat} (e : q.2 = listOf vs.toArray n) (T : String) (hT : T ≠ "list") : q.2.cls ≠ .type T := by
  rw [e]
  intro z
  exact hT (Value.type.inj z).symm
variable {Q : Flow → Shared → Prop}
def J4 (m : Str → Option Value) (Bd D : Addr) (ws : List Value) (o1 o2 : Obj) (L : Addr) (i : Nat) (m' : Str → Option Value) (news' : List (Addr × Obj)) : Prop :=
  ∃ bv nb Od ov no B o, B.length = i ∧ noTwo B = true ∧ o ∈ orders i ∧ IntsAre bv (bitsOf B) ∧ IntsAre ov (nats o) ∧ m' (Str.ofString "order") = some (.ref Od) ∧
    (∀ y, y ≠ Str.ofString "k" → y ≠ Str.ofString "place" → y ≠ Str.ofString "order" → m' y = m y) ∧ @Ne Nat Od Bd ∧
    news' = [(Bd, listOf bv.toArray nb), (Od, listOf ov.toArray no), (D, listOf ws.toArray 0), (L + 1, o1), (L + 1 + 1, o2)]
theorem seg4 {Bd Od D : Addr} {ws : List Value} {o1 o2 : Obj} {v1 v2 : Option Value} (X : (Mine.hd.heap_39 w.params).In h₀) (T : Top p loose mean mg mb h₀) (F : Fr h₀ L h m)
    (N : News h₀ L h [(Bd, listOf (List.toArray []) 0), (Od, listOf (List.toArray []) 0), (D, listOf ws.toArray 0), (L + 1, o1), (L + 1 + 1, o2)]) (hOB : @Ne Nat Od Bd) (hDB : @Ne Nat D Bd) (h1B : @Ne Nat (L + 1) Bd) (h2B : @Ne Nat (L + 1 + 1) Bd)
    (hb : m (Str.ofString "bits") = some (.ref Bd)) (ho : m (Str.ofString "order") = some (.ref Od)) (hn : m (Str.ofString "numbers") = some (.ref D)) (hz : m (Str.ofString "size") = some (.int (n : Int) t))
    (hws : IntsAre ws ns) (hl : ns.length = n) (h6 : Six n) (hd1 : o1.data = .cell v1) (hd2 : o2.data = .cell v2)
    (k : ∀ h' tk' bv nb Od' ov no B o m', B.length = n → noTwo B = true → o ∈ orders n → IntsAre bv (bitsOf B) → IntsAre ov (nats o) → m' (Str.ofString "order") = some (.ref Od') →
      (∀ y, y ≠ Str.ofString "k" → y ≠ Str.ofString "place" → y ≠ Str.ofString "order" → m' y = m y) → Fr h₀ L h' m' →
      News h₀ L h' [(Bd, listOf bv.toArray nb), (Od', listOf ov.toArray no), (D, listOf ws.toArray 0), (L + 1, o1), (L + 1 + 1, o2)] → Q .next ⟨h', g, d, tk', os⟩) :
    wpAny (model PR w) (AL fr gd) (exec (stm 4) (envL L fa cd)) Q NoE ⟨h, g, d, tk, os⟩ := by
  obtain ⟨px, pos, e4⟩ := stm4_is
  have body : ∀ (Q' : Flow → Shared → Prop) {i : Nat} {Od : Addr} {bv ov : List Value} {nb no : Nat} {B : List Bool} {o : List Nat} {own : List (Addr × Obj)} {m : Str → Option Value} {h : Heap} {tk : Nat} {t : Tok} (F : Fr h₀ L h m)
    (N : News h₀ L h ((Bd, listOf bv.toArray nb) :: (Od, listOf ov.toArray no) :: (D, listOf ws.toArray 0) :: own)) (hOB : @Ne Nat Od Bd) (hDB : @Ne Nat D Bd) (hne : ∀ q ∈ own, @Ne Nat q.1 Bd)
    (hb : m (Str.ofString "bits") = some (.ref Bd)) (ho : m (Str.ofString "order") = some (.ref Od)) (hn : m (Str.ofString "numbers") = some (.ref D)) (hk : m (Str.ofString "k") = some (.int (i : Int) t))
    (hbv : IntsAre bv (bitsOf B)) (hov : IntsAre ov (nats o)) (hi : i < ns.length) (hvb : bv.length ≤ 6) (hvo : ov.length ≤ 6) (hi6 : i < 6)
    (k : ∀ h' tk' bv' nb' Od' ov' m' p, IntsAre bv' (bitsOf (B ++ [nextB B (ns.getD i 0)])) → IntsAre ov' (nats (o.take p ++ [i] ++ o.drop p)) → p ≤ i →
      m' (Str.ofString "order") = some (.ref Od') → (∀ y, y ≠ Str.ofString "place" → y ≠ Str.ofString "order" → m' y = m y) → Fr h₀ L h' m' →
      News h₀ L h' ((Bd, listOf bv'.toArray nb') :: (Od', listOf ov'.toArray 0) :: (D, listOf ws.toArray 0) :: own) → @Ne Nat Od' Bd → Q' .next ⟨h', g, d, tk', os⟩),
    wpAny (model PR w) (AL fr gd) (execs (bodyOf (stm 4)) (envL L fa cd)) Q' NoE ⟨h, g, d, tk, os⟩ :=
      fun Q' {i Od bv ov nb no B o own m h tk t} F N a1 a2 a3 a4 a5 a6 a7 a8 a9 a10 a11 a12 a13 k => body4 X T F N a1 a2 a3 a4 a5 a6 a7 a8 a9 hws a10 a11 a12 a13 k
  have it : ∀ (Q' : Value → Shared → Prop), (∀ h' r tk' t₁ u₁ v₁, IsRange h' r 0 (n : Int) 1 t₁ u₁ v₁ → Fr h₀ L h' m → News h₀ L h' [(Bd, listOf (List.toArray []) 0), (Od, listOf (List.toArray []) 0), (D, listOf ws.toArray 0), (L + 1, o1), (L + 1 + 1, o2)] → Q' (.ref r) ⟨h', g, d, tk', os⟩) →
    wpAny (model PR w) (AL fr gd) (eval (iterOf (stm 4)) (envL L fa cd)) Q' NoE ⟨h, g, d, tk, os⟩ := fun Q' k => iter4 X T F N hz k
  have hs : ∀ x, foldedSetIterable (iterOf (stm 4)) (envL L fa cd) x = pure x := fun _ => rfl
  have hn6 : n ≤ 6 := by rcases h6 with h | h | h <;> omega
  rw [e4]
  generalize iterOf (stm 4) = it4 at it hs
  generalize bodyOf (stm 4) = bd4 at body
  refine wpAny_For (it _ fun h₁ r tk₁ t₁ u₁ v₁ hr F₁ N₁ => ?_) hs
  refine for_range (env := envL L fa cd) (s := ⟨h₁, g, d, tk₁, os⟩) rfl rfl rfl hr (by omega) F₁ N₁ (J4 m Bd D ws o1 o2 L) ?_ ?_ ?_ ?_ PassesOwn.never
  · exact ⟨[], 0, Od, [], 0, [], [], rfl, rfl, .head _, .nil, .nil, ho, fun _ _ _ _ => rfl, hOB, rfl⟩
  · rintro i m' news' ⟨bv, nb, Od', ov, no, B, o, _, _, _, _, _, _, _, _, rfl⟩ q hq
    rcases List.mem_cons.mp hq with rfl | hq
    · exact .inl (list_ne rfl "range_iterator" (by decide))
    rcases List.mem_cons.mp hq with rfl | hq
    · exact .inl (list_ne rfl "range_iterator" (by decide))
    rcases List.mem_cons.mp hq with rfl | hq
    · exact .inl (list_ne rfl "range_iterator" (by decide))
    rcases List.mem_cons.mp hq with rfl | hq
    · exact .inr ⟨_, hd1⟩
    · rw [List.mem_singleton.mp hq]
      exact .inr ⟨_, hd2⟩
  · rintro i t' m' news' own h₂ tk₂ hi ⟨bv, nb, Od', ov, no, B, o, b1, b2, b3, b4, b5, b6, b7, b8, rfl⟩ ha F₂ N₂
    refine body _ (Od := Od') (bv := bv) (ov := ov) (nb := nb) (no := no) (B := B) (o := o) (i := i) (t := t') (own := (L + 1, o1) :: (L + 1 + 1, o2) :: own) F₂ N₂ b8 hDB ?_ ?_ ?_ ?_ ?_ b4 b5 (by omega) (by rw [ints_len b4]; omega) (by rw [nats_len b5, orders_len b3]; omega) (by omega) ?_
    · intro q hq
      rcases List.mem_cons.mp hq with rfl | hq
      · exact h1B
      rcases List.mem_cons.mp hq with rfl | hq
      · exact h2B
      · exact ha (Bd, _) (.head _) q hq
    · exact (if_neg (by decide)).trans ((b7 _ (by decide) (by decide) (by decide)).trans hb)
    · exact (if_neg (by decide)).trans b6
    · exact (if_neg (by decide)).trans ((b7 _ (by decide) (by decide) (by decide)).trans hn)
    · exact if_pos rfl
    · intro h₃ tk₃ bv' nb' Od₃ ov' m₃ q c1 c2 c3 c4 c5 F₃ N₃ c6
      refine ⟨rfl, h₃, tk₃, m₃, [(Bd, listOf bv'.toArray nb'), (Od₃, listOf ov'.toArray 0), (D, listOf ws.toArray 0), (L + 1, o1), (L + 1 + 1, o2)], rfl, F₃, N₃, bv', nb', Od₃, ov', 0, _, _, ?_, next_noTwo b2, ordersPut b3 c3, c1, c2, c4, fun y y1 y2 y3 => ?_, c6, rfl⟩
      · rw [List.length_append, b1]; rfl
      · exact (c5 y y2 y3).trans ((if_neg y1).trans (b7 y y1 y2 y3))
  · rintro m' news' h₂ tk₂ ⟨bv, nb, Od', ov, no, B, o, b1, b2, b3, b4, b5, b6, b7, b8, rfl⟩ F₂ N₂
    exact k _ _ _ _ _ _ _ _ _ _ b1 b2 b3 b4 b5 b6 b7 F₂ N₂
end
end Mine
end
section
open PySem PySem.W PyProof.Rows PySem.Calls
set_option maxRecDepth 100000
set_option maxHeartbeats 0
namespace Mine
section
variable {prog : Program} {w : World} {A : Around} {E : Value → Shared → Prop} {env : Env}
/-- a comprehension over a list, the names of the frame about it free -/
theorem comp_free {s : Shared} {elt iter : PySem.Expr} {x : Str} {px : Pos} {scope : Scope} {cl : List (Str × Addr)} {pos : Pos} {Q : Value → Shared → Prop} (V : Value → Value → Prop) (hh : A.handled = none)
    (hclos : closureFor scope env = pure cl) (hcell : ∀ y ∈ scope.names, y.2 ≠ .cell) (hkind : scope.kind = .function)
    (hnames : ∀ y ∈ scope.names, y.2 = .local → scope.names.lookup y.1 = some .local) (hx : scope.names.lookup x = some .local)
    (h : wpAny (model prog w) A (eval iter env) (fun xv s₁ => ∃ l vs, xv = .ref l ∧ s₁.heap.IsList l (List.toArray vs) ∧ vs.length ≤ 100 ∧
      (∀ C (i : Nat) v s₃ m₃ E', vs[i]? = some v → s₃.heap.Ns C m₃ → m₃ x = some v → Grow s₁.heap s₃.heap → wpAny (model prog w) A (eval elt (compEnvC scope cl C env)) (fun y s₄ => V v y ∧ Keeps s₃ s₄) E' s₃) ∧
      (∀ D ys n h' tk, Grow s₁.heap h' → h'.get? D = some (listOf (List.toArray ys) n) → s₁.heap.get? D = none → Paired V vs ys → Q (.ref D) { s₁ with heap := h', toks := tk })) E s)
    (hs : ∀ x, foldedSetIterable iter env x = pure x := by intro _; rfl) :
    wpAny (model prog w) A (eval (.ListComp elt [⟨.Name x px, iter, [], 0⟩] scope pos) env) Q E s := by
  refine wpAny_ListComp_free (fun _ => true) V hclos hcell hkind hnames hx (wpAny_mono h (fun xv s₁ h₁ => ?_) fun _ _ z => z) hs
  obtain ⟨l, vs, rfl, hl, hz, he, hf⟩ := h₁
  have hlt : l < s₁.heap.objs.size := by obtain ⟨_, e, _⟩ := hl; exact Heap.lt_size e
  refine wpAny_pyIter_list hl ?_
  have up : ∀ h' : Heap, (∀ b o', b ∉ [s₁.heap.objs.size] → (s₁.heap.push { cls := .type "list_iterator", data := .fields #[.ref l, .int 0 0] }).get? b = some o' → h'.get? b = some o') → Grow s₁.heap h' :=
    fun h' hk b o' e => hk b o' (fun q => absurd (Heap.lt_size e) (by rw [List.mem_singleton.mp q]; exact Nat.lt_irrefl _)) (Heap.get?_push_of_some _ e)
  refine ⟨s₁.heap.objs.size, [s₁.heap.objs.size, l], [s₁.heap.objs.size], vs.toArray.size, _, _, rfl, Walks.list hh _ l (Nat.ne_of_lt hlt) vs.toArray, (by rw [List.size_toArray, sizeLine_eq]; omega),
    ⟨⟨_, Heap.get?_push_size _ rfl, rfl, rfl⟩, hl.at fun o e => Heap.get?_push_of_some _ e⟩, ?_, ⟨?_, ?_⟩, ?_⟩
  · intro b hb
    show b < (s₁.heap.push _).objs.size
    rw [Heap.size_push]
    rcases List.mem_cons.mp hb with rfl | hb
    · exact Nat.lt_succ_self _
    · rw [List.mem_singleton.mp hb]; exact Nat.lt_succ_of_lt hlt
  · intro C i v s₃ m₃ E' _ hP hn hm hk htk
    rw [List.forIn_nil]
    exact wpAny_pure ⟨rfl, s₃.heap, s₃.toks, rfl, fun _ _ e => e⟩
  · intro C i v s₃ m₃ E' _ hP hp hn hm hk htk
    exact he C i v s₃ m₃ E' (by simpa using hP) hn hm (up _ hk)
  · intro D h' tk ys vs' hnew hlD hplD hlen hP hF hk
    have e' : vs' = vs := by simpa using walked_is hlen hP
    subst e'
    obtain ⟨n, hn⟩ := hplD
    rw [List.filter_eq_self.mpr (fun _ _ => rfl)] at hF
    refine hf D ys.toList n h' tk (up h' hk) (by rw [Array.toArray_toList]; exact hn) ?_ hF
    cases e : s₁.heap.get? D with
    | none => rfl
    | some o' => rw [Heap.get?_push_of_some _ e] at hnew; cases hnew
theorem comp_freeA {s : Shared} {elt iter : PySem.Expr} {x y : Str} {px py : Pos} {scope : Scope} {cl : List (Str × Addr)} {pos spos : Pos} {Q : Flow → Shared → Prop} (V : Value → Value → Prop) (hh : A.handled = none)
    (hsw : swapsWith (.ListComp elt [⟨.Name x px, iter, [], 0⟩] scope pos) (some (.Name y py)) spos.line env = pure true)
    (hclos : closureFor scope env = pure cl) (hcell : ∀ z ∈ scope.names, z.2 ≠ .cell) (hkind : scope.kind = .function)
    (hnames : ∀ z ∈ scope.names, z.2 = .local → scope.names.lookup z.1 = some .local) (hx : scope.names.lookup x = some .local)
    (hy : env.kindOf y = some .local) (hp : (env.scope.kind == .class || (env.scope.kind == .module && env.locals != env.globals)) = false)
    (h : wpAny (model prog w) A (eval iter env) (fun xv s₁ => ∃ l vs h₀ m news, xv = .ref l ∧ s₁.heap.IsList l (List.toArray vs) ∧ vs.length ≤ 100 ∧ Fr h₀ env.locals s₁.heap m ∧ News h₀ env.locals s₁.heap news ∧
      (∀ C (i : Nat) v s₃ m₃ E', vs[i]? = some v → s₃.heap.Ns C m₃ → m₃ x = some v → Grow s₁.heap s₃.heap → wpAny (model prog w) A (eval elt (compEnvC scope cl C env)) (fun y s₄ => V v y ∧ Keeps s₃ s₄) E' s₃) ∧
      (∀ D ys n h' tk, Fr h₀ env.locals h' (fun z => if z = y then some (.ref D) else m z) → News h₀ env.locals h' ((D, listOf (List.toArray ys) n) :: news) → Paired V vs ys → Q .next { s₁ with heap := h', toks := tk })) E s)
    (hs : ∀ x, foldedSetIterable iter env x = pure x := by intro _; rfl) :
    wpAny (model prog w) A (exec (.Assign [.Name y py] (.ListComp elt [⟨.Name x px, iter, [], 0⟩] scope pos) spos) env) Q E s := by
  refine wpAny_Assign_ListComp_free (fun _ => true) V hsw hclos hcell hkind hnames hx hy hp (wpAny_mono h (fun xv s₁ h₁ => ?_) fun _ _ z => z) hs
  obtain ⟨l, vs, h₀, m, news, rfl, hl, hz, F, N, he, hf⟩ := h₁
  have hlt : l < s₁.heap.objs.size := by obtain ⟨_, e, _⟩ := hl; exact Heap.lt_size e
  refine wpAny_pyIter_list hl ?_
  have up : ∀ h' : Heap, (∀ b o', b ∉ [s₁.heap.objs.size] → (s₁.heap.push { cls := .type "list_iterator", data := .fields #[.ref l, .int 0 0] }).get? b = some o' → h'.get? b = some o') → Grow s₁.heap h' :=
    fun h' hk b o' e => hk b o' (fun q => absurd (Heap.lt_size e) (by rw [List.mem_singleton.mp q]; exact Nat.lt_irrefl _)) (Heap.get?_push_of_some _ e)
  have hLlt : env.locals < s₁.heap.objs.size := F.ns.lt
  refine ⟨s₁.heap.objs.size, [s₁.heap.objs.size, l], [s₁.heap.objs.size], vs.toArray.size, _, _, m, rfl, Walks.list hh _ l (Nat.ne_of_lt hlt) vs.toArray, (by rw [List.size_toArray, sizeLine_eq]; omega),
    ⟨⟨_, Heap.get?_push_size _ rfl, rfl, rfl⟩, hl.at fun o e => Heap.get?_push_of_some _ e⟩, ?_, (fun q => Nat.ne_of_lt hLlt (List.mem_singleton.mp q)), (F.push _).ns, ⟨?_, ?_⟩, ?_⟩
  · intro b hb
    show b < (s₁.heap.push _).objs.size
    rw [Heap.size_push]
    rcases List.mem_cons.mp hb with rfl | hb
    · exact Nat.lt_succ_self _
    · rw [List.mem_singleton.mp hb]; exact Nat.lt_succ_of_lt hlt
  · intro C i v s₃ m₃ E' _ hP hn hm hk htk
    rw [List.forIn_nil]
    exact wpAny_pure ⟨rfl, s₃.heap, s₃.toks, rfl, fun _ _ e => e⟩
  · intro C i v s₃ m₃ E' _ hP hp hn hm hk htk
    exact he C i v s₃ m₃ E' (by simpa using hP) hn hm (up _ hk)
  · intro D h' tk ys vs' hnew hlD hplD hlen hP hF hns hk
    have e' : vs' = vs := by simpa using walked_is hlen hP
    subst e'
    obtain ⟨n, hn⟩ := hplD
    rw [List.filter_eq_self.mpr (fun _ _ => rfl)] at hF
    have old : ∀ b o, b ≠ env.locals → s₁.heap.get? b = some o → h'.get? b = some o := fun b o hb e =>
      hk b o hb (fun q => absurd (Heap.lt_size e) (by rw [List.mem_singleton.mp q]; exact Nat.lt_irrefl _)) (Heap.get?_push_of_some _ e)
    have hL0 : h₀.get? env.locals = none := Heap.get?_none_of_le F.above
    have hD1 : s₁.heap.get? D = none := by
      cases e : s₁.heap.get? D with
      | none => rfl
      | some o' => rw [Heap.get?_push_of_some _ e] at hnew; cases hnew
    refine hf D ys.toList n h' tk ⟨hns, fun b o e => old b o (fun q => by rw [q, hL0] at e; cases e) (F.keep b o e), F.above⟩ (fun p hp' => ?_) hF
    rcases List.mem_cons.mp hp' with rfl | hp'
    · refine ⟨by rw [Array.toArray_toList]; exact hn, fun e => ?_, ?_⟩
      · obtain ⟨oL, _, _, hL, _⟩ := F.ns
        have e' : D = env.locals := e
        rw [e', hL] at hD1; cases hD1
      · cases q : h₀.get? D with
        | none => rfl
        | some o' => have := F.keep _ _ q; rw [hD1] at this; cases this
    · exact ⟨old _ _ (N p hp').2.1 (N p hp').1, (N p hp').2⟩
end
section
variable {w : World} {A : Around} {E : Value → Shared → Prop} {L fa : Addr} {cd : Value}
def scRow : Scope := { kind := .function, names := [(Str.ofString ".0", .local), (Str.ofString "bit", .local), (Str.ofString "letter", .free)], isGenerator := false, isCoroutine := false, more := [] }
def eltRow (p1 p2 p3 p4 p5 p6 p7 : Pos) : PySem.Expr :=
  .BinOp (.BinOp (.Constant (.str (Str.ofString " ")) 0 p1) .Mult (.BinOp (.Constant (.int 1) 0 p2) .Add (.Name (Str.ofString "bit") p3) p4) p5) .Add (.Name (Str.ofString "letter") p6) p7
theorem blanks (b : Bool) (x : Nat) : Txt.mul (Str.ofString " ") (1 + bint b) ++ (⟨#[x]⟩ : Str) = rowOf x b := by
  cases b
  · show Txt.mul (Str.ofString " ") (1 + 0) ++ (⟨#[x]⟩ : Str) = _
    rw [show Txt.mul (Str.ofString " ") (1 + 0) = ⟨#[32]⟩ by decide +kernel]
    rfl
  · show Txt.mul (Str.ofString " ") (1 + 1) ++ (⟨#[x]⟩ : Str) = _
    rw [show Txt.mul (Str.ofString " ") (1 + 1) = ⟨#[32, 32]⟩ by decide +kernel]
    rfl
theorem blanks_len (b : Bool) : (Txt.mul (Str.ofString " ") (1 + bint b)).length ≤ 2 := by cases b <;> decide +kernel
theorem clos_row : closureFor scRow (envL L fa cd) = pure [(Str.ofString "letter", L + 1)] := rfl
theorem elt_row {p1 p2 p3 p4 p5 p6 p7 : Pos} {C : Addr} {s₃ : Shared} {m₃ : Str → Option Value} {x : Nat} {b : Bool} {t tl : Tok} (hn : s₃.heap.Ns C m₃) (hb : m₃ (Str.ofString "bit") = some (.int (bint b) t)) (hc : s₃.heap.IsCell (L + 1) (some (.str ⟨#[x]⟩ tl))) :
    wpAny (model PR w) A (eval (eltRow p1 p2 p3 p4 p5 p6 p7) (compEnvC scRow [(Str.ofString "letter", L + 1)] C (envL L fa cd))) (fun y s₄ => (∃ t', y = .str (rowOf x b) t') ∧ Keeps s₃ s₄) E s₃ := by
  unfold eltRow
  refine wpAny_BinOp (wpAny_BinOp (wpAny_Constant_str (wpAny_BinOp (wpAny_Constant_int (ldVarK hn hb (add_int ?_))))))
  refine SB.mul (mulOk_of 1 2 (by decide) ?_ ?_ (by decide) (by decide)) fun t1 k1 => ?_
  · cases b <;> decide
  · cases b <;> decide
  refine ldCellK rfl hc ?_
  refine add_str (fun t' tk => ?_) ?_
  · rw [blanks]
    exact ⟨⟨_, rfl⟩, _, _, rfl, fun _ _ e => e⟩
  · have := blanks_len b
    rw [sizeLine_eq]
    show _ + 1 ≤ _
    omega
end
end Mine
end
section
open PySem PySem.W PyProof.Rows PySem.Calls
set_option maxRecDepth 100000
set_option maxHeartbeats 0
namespace Mine
theorem bits_get {vs : List Value} {B : List Bool} (h : IntsAre vs (bitsOf B)) : ∀ {i : Nat} {v : Value}, vs[i]? = some v → ∃ b t, v = .int (bint b) t := by
  induction B generalizing vs with
  | nil =>
    intro i v e
    cases h
    cases e
  | cons b B ih =>
    intro i v e
    cases h with
    | cons _ t h' =>
      cases i with
      | zero => cases e; exact ⟨b, t, rfl⟩
      | succ i => exact ih h' e
def ToRow (x : Nat) (v y : Value) : Prop := ∀ b t, v = .int (bint b) t → ∃ t', y = .str (rowOf x b) t'
theorem to_rows {x : Nat} {vs ys : List Value} {B : List Bool} (h : IntsAre vs (bitsOf B)) (p : Paired (ToRow x) vs ys) : StrsAre ys (rows x B) := by
  induction B generalizing vs ys with
  | nil =>
    cases h
    cases p
    exact .nil
  | cons b B ih =>
    cases h with
    | cons _ t h' =>
      cases p with
      | cons p1 p2 =>
        obtain ⟨t', rfl⟩ := p1 b t rfl
        exact .cons _ _ (ih h' p2)
section
variable {w : World} {fr : Option (List Env)} {gd : Option (List Code)} {g : Array GenState} {d : Drawn} {os : OsState} {tk : Nat} {p : Program} {loose : List Str} {mean : ExcName → Option Value} {mg mb : Str → Option Value} {E : Value → Shared → Prop} {h₀ h : Heap} {L fa sl : Addr} {cd : Value} {m : Str → Option Value} {news : List (Addr × Obj)} {vs : List Value} {ns : List Int} {n : Nat} {t : Tok} {Q : Flow → Shared → Prop}
theorem stm5_is : ∃ py p1 p2 p3 p4 p5 p6 p7 px pi pos spos, stm 5 = .Assign [.Name (Str.ofString "first") py] (.ListComp (eltRow p1 p2 p3 p4 p5 p6 p7) [⟨.Name (Str.ofString "bit") px, .Name (Str.ofString "bits") pi, [], 0⟩] scRow pos) spos ∧
    swapsWith (.ListComp (eltRow p1 p2 p3 p4 p5 p6 p7) [⟨.Name (Str.ofString "bit") px, .Name (Str.ofString "bits") pi, [], 0⟩] scRow pos) (some (.Name (Str.ofString "first") py)) spos.line (envL L fa cd) = pure true := ⟨_, _, _, _, _, _, _, _, _, _, _, _, rfl, rfl⟩
theorem seg5 {Bd : Addr} {bv : List Value} {nb x : Nat} {tl : Tok} {o1 : Obj} {B : List Bool} (F : Fr h₀ L h m) (N : News h₀ L h news) (hm : (Bd, listOf bv.toArray nb) ∈ news) (hm1 : (L + 1, o1) ∈ news)
    (hb : m (Str.ofString "bits") = some (.ref Bd)) (hd1 : o1.data = .cell (some (.str ⟨#[x]⟩ tl))) (hi : IntsAre bv (bitsOf B)) (hl : B.length ≤ 6)
    (k : ∀ h' tk' Fd fs nf, StrsAre fs (rows x B) → Fr h₀ L h' (fun y => if y = Str.ofString "first" then some (.ref Fd) else m y) → News h₀ L h' ((Fd, listOf fs.toArray nf) :: news) → Q .next ⟨h', g, d, tk', os⟩) :
    wpAny (model PR w) (AL fr gd) (exec (stm 5) (envL L fa cd)) Q E ⟨h, g, d, tk, os⟩ := by
  obtain ⟨py, p1, p2, p3, p4, p5, p6, p7, px, pi, pos, spos, e5, hsw⟩ := stm5_is (L := L) (fa := fa) (cd := cd)
  rw [e5]
  have hc : h.IsCell (L + 1) (some (.str ⟨#[x]⟩ tl)) := ⟨o1, (N _ hm1).1, hd1⟩
  refine comp_freeA (ToRow x) rfl hsw clos_row (by decide) rfl (by decide) rfl rfl rfl (nameX_L F hb ?_) (fun _ => rfl)
  refine ⟨Bd, bv, h₀, m, news, rfl, News.isList N hm, by rw [ints_len hi]; omega, F, N, fun C i v s₃ m₃ E' hv hn hx hg => ?_, fun D ys n' h' tk' F' N' pp => ?_⟩
  · obtain ⟨b, t, rfl⟩ := bits_get hi hv
    refine wpAny_mono (elt_row hn hx (hc.keeps hg)) (fun y s₄ q => ⟨fun b' t' e => ?_, q.2⟩) fun _ _ z => z
    have e1 : bint b = bint b' := (Value.int.inj e).1
    have e2 : b = b' := by cases b <;> cases b' <;> first | rfl | cases e1
    rw [← e2]
    exact q.1
  · exact k _ _ _ _ _ (to_rows hi pp) F' N'
local macro_rules | `(tactic| walk_at "LOOK") => `(tactic| first | assumption | exact rfl | (refine (if_neg (by decide)).trans ?_; walk_at "LOOK"))
local macro_rules | `(tactic| walk_at "eval Name") => `(tactic| (k_here; k_dflt (refine' nameX_L ?F ?v ?_ ?a ?b; (case F => k_asm); (case a => rfl); (case b => rfl); (case v => walk_at "LOOK"))))
local macro_rules | `(tactic| walk_at "newList") => `(tactic| (k_here; k_dflt (refine list_at (by k_asm) (by k_asm) (by first | decide | (simp only [List.length_cons, List.length_nil]; omega)) ?_); intro l' h' F' N' l1; (try k_lt l1); (try k_sweep)))
local macro_rules | `(tactic| k_steps) => `(tactic| repeat' (first | (k_unfold; (try dsimp only)) | ((with_reducible show wpAny _ _ (eval _ _) _ _ _); dsimp only; walk1) | ((with_reducible show wpAny _ _ (execs _ _) _ _ _); dsimp only; walk1) | walk1 | (dsimp only; walk1) | fail "no step"))
theorem seg6 {Fd Bd Od : Addr} {f1 f2 f3 : Obj} {o1 o2 : Obj} {v2 : Option Value} (X : (Mine.hd.heap_39 w.params).In h₀) (T : Top p loose mean mg mb h₀) (F : Fr h₀ L h m)
    (N : News h₀ L h [(L + 1, o1), (L + 1 + 1, o2), (Fd, f1), (Bd, f2), (Od, f3)]) (hf : m (Str.ofString "first") = some (.ref Fd)) (hd2 : o2.data = .cell v2) (g1 : notCell f1) (g2 : notCell f2) (g3 : notCell f3)
    (k : ∀ h' tk' Pd Ud o', Fr h₀ L h' (fun y => if y = Str.ofString "dues" then some (.ref Ud) else m y) →
      News h₀ L h' [(Pd, listOf #[.ref Fd] 0), (Ud, listOf #[.ref Fd] 0), (L + 1, o1), (L + 1 + 1, o'), (Fd, f1), (Bd, f2), (Od, f3)] → o'.data = .cell (some (.ref Pd)) → Q .next ⟨h', g, d, tk', os⟩) :
    wpAny (model PR w) (AL fr gd) (exec (stm 6) (envL L fa cd)) Q E ⟨h, g, d, tk, os⟩ := by
  have hfill : (fun (_ : OpenLaw) (_ : Params → Frag) => True) PySem.Challenge.rw_rl0021_01 Mine.hd.heap_39 := by
    k_fill
    trivial
  clear hfill
  conv in stm 6 => whnf
  unfold envL
  conv in lawScope => whnf
  w_strict k_steps
  rename_i Pd h1 a1 Ud h2 a2 Td h3 a3 h4 F' N'
  refine store_cell [(Pd, listOf #[.ref Fd] 0), (Ud, listOf #[.ref Fd] 0), (L + 1, o1), (Fd, f1), (Bd, f2), (Od, f3)] F' N' rfl (by k_mem) hd2 ?_ ?_
  · intro p hp
    rcases List.mem_cons.mp hp with rfl | hp
    · exact ⟨by k_mem, .inl notCell_list⟩
    rcases List.mem_cons.mp hp with rfl | hp
    · exact ⟨by k_mem, .inl notCell_list⟩
    rcases List.mem_cons.mp hp with rfl | hp
    · exact ⟨by k_mem, .inr (by dsimp only; omega)⟩
    rcases List.mem_cons.mp hp with rfl | hp
    · exact ⟨by k_mem, .inl g1⟩
    rcases List.mem_cons.mp hp with rfl | hp
    · exact ⟨by k_mem, .inl g2⟩
    · rw [List.mem_singleton.mp hp]
      exact ⟨by k_mem, .inl g3⟩
  clear F' N'
  intro h5 o5 F5 N5 d5
  w_strict k_steps
  refine k _ _ _ _ _ (by assumption) (News.part (by assumption) (all_cons (by k_mem) (all_cons (by k_mem) (all_cons (by k_mem) (all_cons (by k_mem) (all_cons (by k_mem) (all_cons (by k_mem) (all_cons (by k_mem) all_nil)))))))) (by assumption)
end
end Mine
end
section
open PySem PySem.W PyProof.Rows PySem.Calls PySem.Spec
set_option maxRecDepth 100000
set_option maxHeartbeats 0
namespace Mine
def rowsD (x : Nat) (B : List Bool) : PyData := .list ((rows x B).map PyData.str)
theorem strs_carried : ∀ {vs : List Value} {ss : List Str}, StrsAre vs ss → CarriedAll vs (ss.map PyData.str) := by
  intro vs ss h
  induction h with
  | nil => exact .nil
  | cons y t _ ih => exact .cons (.str _ t) ih
theorem row_inj {x : Nat} {b b' : Bool} : (rowOf x b == rowOf x b') = (b == b') := by
  cases b <;> cases b' <;> first
    | exact beq_self_eq_true _
    | (refine beq_eq_false_iff_ne.mpr fun q => ?_
       have := congrArg Str.length q
       exact absurd this (by first | (show ¬ (2 = 3); decide) | (show ¬ (3 = 2); decide)))
theorem eqv_rows (x : Nat) : ∀ B B' : List Bool, PyData.eqv (rowsD x B) (rowsD x B') = (B == B') := by
  intro B B'
  show PyData.eqv (.list _) (.list _) = _
  simp only [PyData.eqv]
  induction B generalizing B' with
  | nil => cases B' <;> simp [rows, PyData.eqvAll]
  | cons b B ih =>
    cases B' with
    | nil => simp [rows, PyData.eqvAll]
    | cons b' B' =>
      have := ih B'
      simp only [rows, List.map_cons, PyData.eqvAll, PyData.eqv] at this ⊢
      rw [this, row_inj]
      rfl
theorem row_ok {x : Nat} (hx : 97 ≤ x ∧ x < 123) (b : Bool) : PyData.strOk (rowOf x b) = true := by
  cases b
  · exact letters (P := fun x => PyData.strOk (rowOf x false) = true) (by decide +kernel) hx
  · exact letters (P := fun x => PyData.strOk (rowOf x true) = true) (by decide +kernel) hx
theorem lay_rows {x : Nat} (hx : 97 ≤ x ∧ x < 123) (B : List Bool) : (rowsD x B).canLay0 = true := by
  show PyData.canLay0 (.list _) = true
  simp only [PyData.canLay0]
  induction B with
  | nil => rfl
  | cons b B ih =>
    simp only [rows, List.map_cons, PyData.canLayAll0, PyData.canLay0] at ih ⊢
    rw [row_ok hx, ih]
    rfl
theorem depth_strs (x : Nat) : ∀ B : List Bool, PyData.depthAll ((rows x B).map PyData.str) = 0
  | [] => rfl
  | b :: B => by
    have := depth_strs x B
    simp only [rows, List.map_cons, PyData.depthAll, PyData.depth] at this ⊢
    omega
theorem depth_rows (x : Nat) (B : List Bool) : (rowsD x B).depth = 1 := by
  show PyData.depth (.list _) = 1
  simp only [PyData.depth]
  rw [depth_strs]
theorem shaped_rows {x : Nat} (hx : 97 ≤ x ∧ x < 123) (B : List Bool) : SeqAt.shaped (rowsD x B) = true := by
  unfold SeqAt.shaped
  rw [lay_rows hx, depth_rows]
  rfl
/-- the pages upon a shelf: each value a made list of rows -/
def Shelf (x : Nat) (pgs : List (Addr × Obj)) (pv : List Value) (Bs : List (List Bool)) : Prop :=
  Paired (fun v B => ∃ a ws n, v = .ref a ∧ (a, listOf (List.toArray ws) n) ∈ pgs ∧ StrsAre ws (rows x B)) pv Bs
theorem Shelf.mono {x : Nat} {pgs pgs' : List (Addr × Obj)} {pv : List Value} {Bs : List (List Bool)} (S : Shelf x pgs pv Bs) (h : ∀ p ∈ pgs, p ∈ pgs') : Shelf x pgs' pv Bs := by
  unfold Shelf at S ⊢
  induction S with
  | nil => exact .nil
  | cons q _ ih =>
    obtain ⟨a, ws, n, h1, h2, h3⟩ := q
    exact .cons ⟨a, ws, n, h1, h _ h2, h3⟩ ih
theorem Shelf.snoc {x : Nat} {pgs : List (Addr × Obj)} {pv : List Value} {Bs : List (List Bool)} {B : List Bool} {a : Addr} {ws : List Value} {n : Nat} (S : Shelf x pgs pv Bs) (hm : (a, listOf (List.toArray ws) n) ∈ pgs) (hi : StrsAre ws (rows x B)) :
    Shelf x pgs (pv ++ [.ref a]) (Bs ++ [B]) := Paired.snoc S ⟨a, ws, n, rfl, hm, hi⟩
theorem Shelf.len {x : Nat} {pgs : List (Addr × Obj)} {pv : List Value} {Bs : List (List Bool)} (S : Shelf x pgs pv Bs) : pv.length = Bs.length := Paired.length S
theorem Shelf.get {x : Nat} {pgs : List (Addr × Obj)} {pv : List Value} {Bs : List (List Bool)} (S : Shelf x pgs pv Bs) : ∀ {i : Nat} {v : Value}, pv[i]? = some v → ∃ B a ws n, Bs[i]? = some B ∧ v = .ref a ∧ (a, listOf (List.toArray ws) n) ∈ pgs ∧ StrsAre ws (rows x B) := by
  unfold Shelf at S
  induction S with
  | nil => intro i v e; cases e
  | cons q _ ih =>
    intro i v e
    cases i with
    | zero =>
      obtain ⟨a, ws, n, h1, h2, h3⟩ := q
      cases e
      exact ⟨_, a, ws, n, rfl, h1, h2, h3⟩
    | succ i => exact ih e
theorem Shelf.reads {x : Nat} {pgs all : List (Addr × Obj)} {pv : List Value} {Bs : List (List Bool)} {h₀ h : Heap} {L : Addr} (S : Shelf x pgs pv Bs) (N : News h₀ L h all) (hs : ∀ p ∈ pgs, p ∈ all) : ∃ as, ReadsAll h pv (Bs.map (rowsD x)) as := by
  unfold Shelf at S
  induction S with
  | nil => exact ⟨_, .nil⟩
  | cons q _ ih =>
    obtain ⟨a, ws, n, rfl, h2, h3⟩ := q
    obtain ⟨as, ih⟩ := ih
    exact ⟨_, .cons (reads_newData (News.isList N (hs _ h2)) (strs_carried h3)) ih⟩
theorem lay_shelf {x : Nat} (hx : 97 ≤ x ∧ x < 123) : ∀ Bs : List (List Bool), PyData.canLayAll0 (Bs.map (rowsD x)) = true
  | [] => rfl
  | B :: Bs => by
    simp only [List.map_cons, PyData.canLayAll0]
    rw [lay_rows hx, lay_shelf hx Bs]
    rfl
theorem depth_shelf (x : Nat) : ∀ Bs : List (List Bool), PyData.depthAll (Bs.map (rowsD x)) ≤ 1
  | [] => Nat.zero_le _
  | B :: Bs => by
    simp only [List.map_cons, PyData.depthAll]
    have := depth_shelf x Bs
    have := depth_rows x B
    omega
theorem shaped_shelf {x : Nat} (hx : 97 ≤ x ∧ x < 123) (Bs : List (List Bool)) : SeqAt.shaped (.list (Bs.map (rowsD x))) = true := by
  unfold SeqAt.shaped
  simp only [PyData.canLay0, PyData.depth]
  rw [lay_shelf hx]
  have := depth_shelf x Bs
  rw [Bool.true_and]
  exact decide_eq_true (by omega)
section
variable {prog : Program} {w : World} {A : Around} {E : Value → Shared → Prop} {h₀ h : Heap} {L a : Addr} {m : Str → Option Value} {news : List (Addr × Obj)} {g : Array GenState} {d : Drawn} {os : OsState} {tk : Nat}
theorem ne_rows {b : Addr} {vs ws : List Value} {x : Nat} {B B' : List Bool} {Q : Value → Shared → Prop} (hx : 97 ≤ x ∧ x < 123) (ha : h.IsList a vs.toArray) (hb : h.IsList b ws.toArray) (hi : StrsAre vs (rows x B)) (hj : StrsAre ws (rows x B')) (hu : A.units + 64 < cLine)
    (k : Q (.bool (!(B == B'))) ⟨h, g, d, tk, os⟩) : wpAny (model prog w) A (compareOp .NotEq (.ref a) (.ref b)) Q E ⟨h, g, d, tk, os⟩ := by
  refine ne_dataH (reads_newData ha (strs_carried hi)) (reads_newData hb (strs_carried hj)) (shaped_rows hx B) (shaped_rows hx B') hu ?_
  show Q (.bool (!PyData.eqv (rowsD x B) (rowsD x B'))) _
  rw [eqv_rows]
  exact k
theorem len_at {l : Addr} {vs : List Value} {n : Nat} {Q : Value → Shared → Prop} (hl : h.IsList l vs.toArray) (hn : vs.length = n) (hz : n ≤ 100) (k : ∀ t' tk', Q (.int (n : Int) t') ⟨h, g, d, tk', os⟩) :
    wpAny (model prog w) A (call (.builtin "len") [.ref l]) Q E ⟨h, g, d, tk, os⟩ := by
  refine len_list hl (by rw [List.size_toArray]; omega) ?_
  rw [List.size_toArray, hn]
  exact k _ _
theorem item_last {value slice : PySem.Expr} {l : Addr} {vs : List Value} {v : Value} {t : Tok} {Q : Value → Shared → Prop} (hl : h.IsList l vs.toArray) (hv : vs.getLast? = some v) (hz : vs.length ≤ 100) (k : Q v ⟨h, g, d, tk, os⟩)
    (hs : subscripted slice false (.ref l) (.int (-1) t) = operate [.ref l, .int (-1) t] (getItem (.ref l) (.int (-1) t))) :
    wpAny (model prog w) A (subscriptTail value slice (.ref l) (.int (-1) t)) Q E ⟨h, g, d, tk, os⟩ := by
  have h1 : 1 ≤ vs.length := by
    cases vs with
    | nil => cases hv
    | cons _ _ => simp
  refine tail_any hl.typeIs slot_list_getitem.lookup (wpAny_getItem_list_neg hl (by omega) (by rw [List.size_toArray]; omega) (by omega) ?_ k) hs
  rw [List.getLast?_eq_getElem?] at hv
  rw [List.size_toArray, List.getElem?_toArray, ← hv]
  congr 1
  omega
theorem lt_yes {i j : Int} {t u : Tok} {Q : Value → Shared → Prop} (hij : i < j) (k : Q (.bool true) ⟨h, g, d, tk, os⟩) : wpAny (model prog w) A (compareOp .Lt (.int i t) (.int j u)) Q E ⟨h, g, d, tk, os⟩ := by
  refine lt_int ?_
  rw [decide_eq_true hij]
  exact k
theorem eq_yes {i j : Int} {t u : Tok} {Q : Value → Shared → Prop} (hij : i = j) (k : Q (.bool true) ⟨h, g, d, tk, os⟩) : wpAny (model prog w) A (compareOp .Eq (.int i t) (.int j u)) Q E ⟨h, g, d, tk, os⟩ := by
  refine eq_int ?_
  subst hij
  simpa using k
theorem eq_no {i j : Int} {t u : Tok} {Q : Value → Shared → Prop} (hij : ¬ i = j) (k : Q (.bool false) ⟨h, g, d, tk, os⟩) : wpAny (model prog w) A (compareOp .Eq (.int i t) (.int j u)) Q E ⟨h, g, d, tk, os⟩ := by
  refine eq_int ?_
  rw [show (i == j) = false from beq_eq_false_iff_ne.mpr hij]
  exact k
end
section
variable {w : World} {fr : Option (List Env)} {gd : Option (List Code)} {g : Array GenState} {d : Drawn} {os : OsState} {tk : Nat} {p : Program} {loose : List Str} {mean : ExcName → Option Value} {mg mb : Str → Option Value} {E : Value → Shared → Prop} {h₀ h : Heap} {L fa sl : Addr} {cd : Value} {m : Str → Option Value} {news : List (Addr × Obj)} {vs : List Value} {ns : List Int} {n : Nat} {t : Tok} {Q : Bool → Shared → Prop}
local macro_rules | `(tactic| walk_at "eval Name") => `(tactic| (k_here; k_dflt (first | (refine' nameX_L ?F ?v ?_ ?a ?b; (case F => k_asm); (case a => rfl); (case b => rfl); (case v => assumption)) | (refine' nameX_C ?N ?c ?m ?d ?_ ?a ?b; (case a => rfl); (case b => rfl); (case N => k_asm); (case c => rfl); (case m => assumption); (case d => assumption)))))
local macro_rules | `(tactic| walk_at "call builtin:len") => `(tactic| (k_here; k_dflt (refine len_at (News.isList (by k_asm) (by assumption)) (by assumption) (by omega) ?_); intro t' tk'))
local macro_rules | `(tactic| walk_at "subscriptTail") => `(tactic| (k_here; (with_reducible show wpAny _ _ (subscriptTail _ _ (Value.ref _) (Value.int _ _)) _ _ _); k_dflt (refine item_last (News.isList (by k_asm) (by assumption)) (by assumption) (by omega) ?_ (by with_unfolding_all rfl))))
local macro_rules | `(tactic| walk_at "compareOp NotEq ref ref") => `(tactic| (k_here; k_dflt (refine ne_rows (by assumption) (News.isList (by k_asm) (by assumption)) (News.isList (by k_asm) (by assumption)) (by assumption) (by assumption) ?u ?_; (case u => k_units))))
local macro_rules | `(tactic| walk_at "compareOp Lt int int") => `(tactic| (k_here; refine lt_yes (by omega) ?_))
local macro_rules | `(tactic| walk_at "compareOp Eq int int") => `(tactic| (k_here; first | refine eq_yes (by omega) ?_ | refine eq_no (by omega) ?_))
local macro_rules | `(tactic| k_steps) => `(tactic| repeat' (first | (k_unfold; (try dsimp only)) | ((with_reducible show wpAny _ _ (eval _ _) _ _ _); dsimp only; walk1) | ((with_reducible show wpAny _ _ (execs _ _) _ _ _); dsimp only; walk1) | walk1 | (dsimp only; walk1) | fail "no step"))
theorem test7 {Pd Fd a : Addr} {o2 : Obj} {pv fs ws : List Value} {np nf na r r' x : Nat} {B B' : List Bool} (X : (Mine.hd.heap_39 w.params).In h₀) (T : Top p loose mean mg mb h₀) (F : Fr h₀ L h m) (N : News h₀ L h news)
    (hf : m (Str.ofString "first") = some (.ref Fd)) (m2 : (L + 1 + 1, o2) ∈ news) (hd2 : o2.data = .cell (some (.ref Pd))) (mP : (Pd, listOf pv.toArray np) ∈ news) (mF : (Fd, listOf fs.toArray nf) ∈ news) (ma : (a, listOf ws.toArray na) ∈ news)
    (hpv : pv.length = r') (hr' : r' = r + 1) (hr : r ≤ 11) (hv : pv.getLast? = some (.ref a)) (hx : 97 ≤ x ∧ x < 123) (hfs : StrsAre fs (rows x B')) (hws : StrsAre ws (rows x B))
    (k : ∀ tk', Q (decide (r = 0) || !(B == B')) ⟨h, g, d, tk', os⟩) :
    wpAny (model PR w) (AL fr gd) (isTrue (iterOf (stm 7)) (envL L fa cd) (eval (iterOf (stm 7)) (envL L fa cd))) Q E ⟨h, g, d, tk, os⟩ := by
  have hfill : (fun (_ : OpenLaw) (_ : Params → Frag) => True) PySem.Challenge.rw_rl0021_01 Mine.hd.heap_39 := by
    k_fill
    trivial
  clear hfill
  have e7 : ∃ e, e = iterOf (stm 7) := ⟨_, rfl⟩
  obtain ⟨e, he⟩ := e7
  rw [← he]
  conv at he => rhs; whnf
  subst he
  unfold envL
  conv in lawScope => whnf
  by_cases h0 : r = 0
  · have k' : ∀ tk', Q true ⟨h, g, d, tk', os⟩ := by
      intro tk'
      have := k tk'
      rw [decide_eq_true h0] at this
      exact this
    w_strict k_steps
    exact k' _
  · have k' : ∀ tk', Q (!(B == B')) ⟨h, g, d, tk', os⟩ := by
      intro tk'
      have := k tk'
      rw [decide_eq_false h0] at this
      exact this
    w_strict k_steps
    · have e : (B == B') = true := by assumption
      rw [e] at k'
      exact k' _
    · have e : (B == B') = false := by assumption
      rw [e] at k'
      exact k' _
end
end Mine
end
section
open PySem PySem.W PyProof.Rows PySem.Calls PySem.Spec
set_option maxRecDepth 100000
set_option maxHeartbeats 0
namespace Mine
def nth (l : List Stmt) (i : Nat) : Stmt := l.getD i (.Pass ⟨0, 0, 0, 0⟩)
section
variable {w : World} {fr : Option (List Env)} {gd : Option (List Code)} {g : Array GenState} {d : Drawn} {os : OsState} {tk : Nat} {p : Program} {loose : List Str} {mean : ExcName → Option Value} {mg mb : Str → Option Value} {E : Value → Shared → Prop} {h₀ h : Heap} {L fa sl : Addr} {cd : Value} {m : Str → Option Value} {news : List (Addr × Obj)} {vs : List Value} {ns : List Int} {n : Nat} {t : Tok}
section
variable {Q : Value → Shared → Prop}
theorem turn_at {pl : Addr} {nn : Nat} {B : List Bool} {k x : Nat} {e : Str} {tk' tl te : Tok} (X : (Mine.hd.heap_39 w.params).In h₀) (T : Top p loose mean mg mb h₀) (F : Fr h₀ L h m) (N : News h₀ L h news)
    (hm : (pl, listOf (List.toArray vs) nn) ∈ news) (hi : StrsAre vs (rows x B)) (hn : Six B.length) (hk : k < B.length) (h2 : noTwo B = true) (hx : 97 ≤ x ∧ x < 123) (he : e ∈ ends)
    (c : ∀ D ws n' h' tk', Fr h₀ L h' m → News h₀ L h' ((D, listOf (List.toArray ws) n') :: news) → StrsAre ws (rows x (stepB B k)) → Q (.ref D) ⟨h', g, d, tk', os⟩) :
    wpAny (model PR w) (AL fr gd) (call (.ref 67) [.ref pl, .int (k : Int) tk', .str ⟨#[x]⟩ tl, .str e te]) Q E ⟨h, g, d, tk, os⟩ := by
  refine weaken rfl (Nat.le_of_ble_eq_true rfl) (Nat.le_of_ble_eq_true rfl) ?_
  refine turnB (s := ⟨h, g, d, tk, os⟩) (X.keeps F.keep) (T.keeps F.keep) (N _ hm).1 hi hn hk h2 hx he fun D ws n' h' tk' gr hD hf hws => ?_
  refine c D ws n' h' tk' (gr.fr F) ?_ hws
  rcases hf with hf | ⟨e1, e2, e3⟩
  · exact gr.add F N hD hf
  · subst e1 e2 e3
    intro q hq
    rcases List.mem_cons.mp hq with rfl | hq
    · exact gr.news N _ hm
    · exact gr.news N _ hq
theorem told_at {bl : Addr} {nn : Nat} {B : List Bool} {k : Nat} {tk' : Tok} (X : (Mine.hd.heap_39 w.params).In h₀) (T : Top p loose mean mg mb h₀) (F : Fr h₀ L h m) (N : News h₀ L h news)
    (hm : (bl, listOf (List.toArray vs) nn) ∈ news) (hi : IntsAre vs (bitsOf B)) (hn : Six B.length) (hk : k < B.length)
    (c : ∀ D ws h' tk', Fr h₀ L h' m → News h₀ L h' ((D, listOf (List.toArray ws) 0) :: news) → IntsAre ws (bitsOf (stepB B k)) → Q (.ref D) ⟨h', g, d, tk', os⟩) :
    wpAny (model PR w) (AL fr gd) (call (.ref 74) [.ref bl, .int (k : Int) tk']) Q E ⟨h, g, d, tk, os⟩ := by
  refine weaken rfl (Nat.le_of_ble_eq_true rfl) (Nat.le_of_ble_eq_true rfl) ?_
  refine toldB (s := ⟨h, g, d, tk, os⟩) (X.keeps F.keep) (T.keeps F.keep) (N _ hm).1 hi hn hk fun D ws h' tk' gr hD hf hws => ?_
  exact c D ws h' tk' (gr.fr F) (gr.add F N hD hf) hws
end
variable {Q : Flow → Shared → Prop}
local macro_rules | `(tactic| walk_at "LOOK") => `(tactic| first | assumption | exact rfl | (refine (if_neg (by decide)).trans ?_; walk_at "LOOK"))
local macro_rules | `(tactic| walk_at "eval Name") => `(tactic| (k_here; k_dflt (first | (refine' nameX_L ?F ?v ?_ ?a ?b; (case F => k_asm); (case a => rfl); (case b => rfl); (case v => walk_at "LOOK")) | (refine' nameX_C ?N ?c ?m ?d ?_ ?a ?b; (case a => rfl); (case b => rfl); (case N => k_asm); (case c => rfl); (case m => first | assumption | exact List.mem_cons_of_mem _ (by assumption)); (case d => assumption)))))
local macro_rules | `(tactic| walk_at "subscriptTail") => `(tactic| (k_here; (with_reducible show wpAny _ _ (subscriptTail _ _ (Value.ref _) (Value.int _ _)) _ _ _); k_dflt (refine item_last (News.isList (by k_asm) (by assumption)) (by assumption) (by omega) ?_ (by with_unfolding_all rfl))))
local macro_rules | `(tactic| walk_at "call ref") => `(tactic| (k_here; first | (refine turn_at (by k_asm) (by k_asm) (by k_asm) (by k_asm) (by assumption) (by assumption) (by assumption) (by assumption) (by assumption) (by assumption) (by assumption) ?_; intro D' ws' n' h' tk' F' N' hS'; (try k_sweep)) | (refine told_at (by k_asm) (by k_asm) (by k_asm) (by k_asm) (List.mem_cons_of_mem _ (by assumption)) (by assumption) (by assumption) (by assumption) ?_; intro D' ws' h' tk' F' N' hI'; (try k_sweep))))
local macro_rules | `(tactic| k_steps) => `(tactic| repeat' (first | (k_unfold; (try dsimp only)) | ((with_reducible show wpAny _ _ (eval _ _) _ _ _); dsimp only; walk1) | ((with_reducible show wpAny _ _ (execs _ _) _ _ _); dsimp only; walk1) | walk1 | (dsimp only; walk1) | fail "no step"))
theorem page7 {Pd a : Addr} {o2 : Obj} {pv : List Value} {np : Nat} (X : (Mine.hd.heap_39 w.params).In h₀) (F : Fr h₀ L h m) (N : News h₀ L h news)
    (m2 : (L + 1 + 1, o2) ∈ news) (hd2 : o2.data = .cell (some (.ref Pd))) (mP : (Pd, listOf pv.toArray np) ∈ news) (hz : pv.length ≤ 100) (hv : pv.getLast? = some (.ref a))
    (k : ∀ h' tk', Fr h₀ L h' (fun y => if y = Str.ofString "page" then some (.ref a) else m y) → News h₀ L h' news → Q .next ⟨h', g, d, tk', os⟩) :
    wpAny (model PR w) (AL fr gd) (exec (nth (bodyOf (stm 7)) 0) (envL L fa cd)) Q E ⟨h, g, d, tk, os⟩ := by
  have hfill : (fun (_ : OpenLaw) (_ : Params → Frag) => True) PySem.Challenge.rw_rl0021_01 Mine.hd.heap_39 := by
    k_fill
    trivial
  clear hfill
  conv in nth _ _ => whnf
  unfold envL
  conv in lawScope => whnf
  w_strict k_steps
  exact k _ _ (by assumption) (by assumption)
theorem turn7 {Gd Bd : Addr} {o1 : Obj} {gv bv : List Value} {ng nb k x : Nat} {B : List Bool} {e : Str} {tl te tkk : Tok} (X : (Mine.hd.heap_39 w.params).In h₀) (T : Top p loose mean mg mb h₀) (F : Fr h₀ L h m) (N : News h₀ L h news)
    (hp : m (Str.ofString "page") = some (.ref Gd)) (hb : m (Str.ofString "bits") = some (.ref Bd)) (hk : m (Str.ofString "k") = some (.int (k : Int) tkk)) (hend : m (Str.ofString "end") = some (.str e te))
    (m1 : (L + 1, o1) ∈ news) (hd1 : o1.data = .cell (some (.str ⟨#[x]⟩ tl))) (mG : (Gd, listOf gv.toArray ng) ∈ news) (mB : (Bd, listOf bv.toArray nb) ∈ news)
    (hgv : StrsAre gv (rows x B)) (hbv : IntsAre bv (bitsOf B)) (hn : Six B.length) (hk' : k < B.length) (h2 : noTwo B = true) (hx : 97 ≤ x ∧ x < 123) (he : e ∈ ends)
    (c : ∀ h' tk' Gd' gv' ng' Bd' bv' m', StrsAre gv' (rows x (stepB B k)) → IntsAre bv' (bitsOf (stepB B k)) → m' (Str.ofString "page") = some (.ref Gd') → m' (Str.ofString "bits") = some (.ref Bd') →
      (∀ y, y ≠ Str.ofString "page" → y ≠ Str.ofString "bits" → m' y = m y) → Fr h₀ L h' m' → News h₀ L h' ((Gd', listOf gv'.toArray ng') :: (Bd', listOf bv'.toArray 0) :: news) → Q .next ⟨h', g, d, tk', os⟩) :
    wpAny (model PR w) (AL fr gd) (execs (bodyOf (nth (bodyOf (stm 7)) 1)) (envL L fa cd)) Q E ⟨h, g, d, tk, os⟩ := by
  have hfill : (fun (_ : OpenLaw) (_ : Params → Frag) => True) PySem.Challenge.rw_rl0021_01 Mine.hd.heap_39 := by
    k_fill
    trivial
  clear hfill
  conv in bodyOf (nth _ _) => whnf
  unfold envL
  conv in lawScope => whnf
  w_strict k_steps
  exact c _ _ _ _ _ _ _ _ (by assumption) (by assumption) rfl rfl (fun y h1 h2 => (if_neg h1).trans (if_neg h2)) (by assumption)
    (News.part (by assumption) (all_cons (by k_mem) (all_cons (by k_mem) fun q hq => .tail _ (.tail _ (.tail _ hq)))))
theorem nats_get {vs : List Value} {o : List Nat} (hi : IntsAre vs (nats o)) : ∀ {i : Nat} {v : Value}, vs[i]? = some v → ∃ k t, o[i]? = some k ∧ v = .int (k : Int) t := by
  induction o generalizing vs with
  | nil =>
    intro i v e
    cases hi
    cases e
  | cons k o ih =>
    intro i v e
    cases hi with
    | cons _ t h' =>
      cases i with
      | zero => cases e; exact ⟨k, t, rfl, rfl⟩
      | succ i => exact ih h' e
theorem for7_is : ∃ px pi pos, nth (bodyOf (stm 7)) 1 = .For (.Name (Str.ofString "k") px) (.Name (Str.ofString "order") pi) (bodyOf (nth (bodyOf (stm 7)) 1)) [] pos := ⟨_, _, _, rfl⟩
/-- between two turns of a round: i rows have turned -/
def J7 (m : Str → Option Value) (rest : List (Addr × Obj)) (o : List Nat) (B : List Bool) (x : Nat) (i : Nat) (m' : Str → Option Value) (news' : List (Addr × Obj)) : Prop :=
  ∃ Gd gv ng Bd bv nb C, C = roundB (o.take i) B ∧ C.length = B.length ∧ noTwo C = true ∧ StrsAre gv (rows x C) ∧ IntsAre bv (bitsOf C) ∧ m' (Str.ofString "page") = some (.ref Gd) ∧ m' (Str.ofString "bits") = some (.ref Bd) ∧
    (∀ y, y ≠ Str.ofString "k" → y ≠ Str.ofString "page" → y ≠ Str.ofString "bits" → m' y = m y) ∧ news' = (Gd, listOf (List.toArray gv) ng) :: (Bd, listOf (List.toArray bv) nb) :: rest
def Plain (rest : List (Addr × Obj)) : Prop := ∀ q ∈ rest, (∃ vs n, q.2 = listOf (List.toArray vs) n) ∨ ∃ v, q.2.data = .cell v
theorem roundB_snoc (o : List Nat) (k : Nat) (B : List Bool) : roundB (o ++ [k]) B = stepB (roundB o B) k := by
  unfold roundB
  rw [List.foldl_append]
  rfl
theorem round7 {Gd Bd Od : Addr} {o1 : Obj} {gv bv ov : List Value} {ng nb no x : Nat} {B : List Bool} {o : List Nat} {e : Str} {tl te : Tok} {rest : List (Addr × Obj)} (X : (Mine.hd.heap_39 w.params).In h₀) (T : Top p loose mean mg mb h₀) (F : Fr h₀ L h m)
    (N : News h₀ L h ((Gd, listOf gv.toArray ng) :: (Bd, listOf bv.toArray nb) :: rest)) (hr : Plain rest)
    (hp : m (Str.ofString "page") = some (.ref Gd)) (hb : m (Str.ofString "bits") = some (.ref Bd)) (ho : m (Str.ofString "order") = some (.ref Od)) (hend : m (Str.ofString "end") = some (.str e te))
    (m1 : (L + 1, o1) ∈ rest) (hd1 : o1.data = .cell (some (.str ⟨#[x]⟩ tl))) (mO : (Od, listOf ov.toArray no) ∈ rest)
    (hgv : StrsAre gv (rows x B)) (hbv : IntsAre bv (bitsOf B)) (hov : IntsAre ov (nats o)) (hn : Six B.length) (hk' : ∀ k ∈ o, k < B.length) (h2 : noTwo B = true) (hx : 97 ≤ x ∧ x < 123) (he : e ∈ ends)
    (c : ∀ h' tk' Gd' gv' ng' Bd' bv' nb' m', StrsAre gv' (rows x (roundB o B)) → IntsAre bv' (bitsOf (roundB o B)) → noTwo (roundB o B) = true → m' (Str.ofString "page") = some (.ref Gd') → m' (Str.ofString "bits") = some (.ref Bd') →
      (∀ y, y ≠ Str.ofString "k" → y ≠ Str.ofString "page" → y ≠ Str.ofString "bits" → m' y = m y) → Fr h₀ L h' m' → News h₀ L h' ((Gd', listOf gv'.toArray ng') :: (Bd', listOf bv'.toArray nb') :: rest) → Q .next ⟨h', g, d, tk', os⟩) :
    wpAny (model PR w) (AL fr gd) (exec (nth (bodyOf (stm 7)) 1) (envL L fa cd)) Q NoE ⟨h, g, d, tk, os⟩ := by
  obtain ⟨px, pi, pos, e7⟩ := for7_is
  have body : ∀ (Q' : Flow → Shared → Prop) {Gd Bd : Addr} {gv bv : List Value} {ng nb k : Nat} {B : List Bool} {tkk : Tok} {m : Str → Option Value} {h : Heap} {tk : Nat} {news : List (Addr × Obj)} (F : Fr h₀ L h m) (N : News h₀ L h news)
    (hp : m (Str.ofString "page") = some (.ref Gd)) (hb : m (Str.ofString "bits") = some (.ref Bd)) (hk : m (Str.ofString "k") = some (.int (k : Int) tkk)) (hend : m (Str.ofString "end") = some (.str e te))
    (m1 : (L + 1, o1) ∈ news) (mG : (Gd, listOf gv.toArray ng) ∈ news) (mB : (Bd, listOf bv.toArray nb) ∈ news)
    (hgv : StrsAre gv (rows x B)) (hbv : IntsAre bv (bitsOf B)) (hn : Six B.length) (hk' : k < B.length) (h2 : noTwo B = true)
    (c : ∀ h' tk' Gd' gv' ng' Bd' bv' m', StrsAre gv' (rows x (stepB B k)) → IntsAre bv' (bitsOf (stepB B k)) → m' (Str.ofString "page") = some (.ref Gd') → m' (Str.ofString "bits") = some (.ref Bd') →
      (∀ y, y ≠ Str.ofString "page" → y ≠ Str.ofString "bits" → m' y = m y) → Fr h₀ L h' m' → News h₀ L h' ((Gd', listOf gv'.toArray ng') :: (Bd', listOf bv'.toArray 0) :: news) → Q' .next ⟨h', g, d, tk', os⟩),
    wpAny (model PR w) (AL fr gd) (execs (bodyOf (nth (bodyOf (stm 7)) 1)) (envL L fa cd)) Q' NoE ⟨h, g, d, tk, os⟩ :=
      fun Q' {Gd Bd gv bv ng nb k B tkk m h tk news} F N a1 a2 a3 a4 a5 a6 a7 a8 a9 a10 a11 a12 c => turn7 X T F N a1 a2 a3 a4 a5 hd1 a6 a7 a8 a9 a10 a11 a12 hx he c
  rw [e7]
  generalize bodyOf (nth (bodyOf (stm 7)) 1) = bd7 at body
  refine wpAny_For (nameX_L F ho ?_) (fun _ => rfl)
  refine for_list (env := envL L fa cd) (s := ⟨h, g, d, tk, os⟩) (l := Od) (vs := ov) (nn := no) rfl rfl rfl F N (J7 m rest o B x) ?_ ?_ ?_ ?_ ?_ PassesOwn.never
  · exact ⟨Gd, gv, ng, Bd, bv, nb, B, rfl, rfl, h2, hgv, hbv, hp, hb, fun _ _ _ _ => rfl, rfl⟩
  · rintro i m' news' ⟨Gd', gv', ng', Bd', bv', nb', C, _, _, _, _, _, _, _, _, rfl⟩
    exact .tail _ (.tail _ mO)
  · rintro i m' news' ⟨Gd', gv', ng', Bd', bv', nb', C, _, _, _, _, _, _, _, _, rfl⟩ q hq
    rcases List.mem_cons.mp hq with rfl | hq
    · exact .inl (list_ne rfl "list_iterator" (by decide))
    rcases List.mem_cons.mp hq with rfl | hq
    · exact .inl (list_ne rfl "list_iterator" (by decide))
    rcases hr q hq with ⟨us, n', e1⟩ | e1
    · exact .inl (list_ne e1 "list_iterator" (by decide))
    · exact .inr e1
  · rintro i v m' news' own h₂ tk₂ hv ⟨Gd', gv', ng', Bd', bv', nb', C, b1, b2, b3, b4, b5, b6, b7, b8, rfl⟩ F₂ N₂
    obtain ⟨k, t', hk1, rfl⟩ := nats_get hov hv
    have hko : k ∈ o := List.mem_of_getElem? hk1
    have hkC : k < C.length := by rw [b2]; exact hk' k hko
    have hnC : Six C.length := by rw [b2]; exact hn
    refine body _ (Gd := Gd') (Bd := Bd') (gv := gv') (bv := bv') (ng := ng') (nb := nb') (k := k) (B := C) (tkk := t') F₂ N₂ ?_ ?_ ?_ ?_ ?_ ?_ ?_ b4 b5 hnC hkC b3 ?_
    · exact (if_neg (by decide)).trans b6
    · exact (if_neg (by decide)).trans b7
    · exact if_pos rfl
    · exact (if_neg (by decide)).trans ((b8 _ (by decide) (by decide) (by decide)).trans hend)
    · exact List.mem_append_left _ (.tail _ (.tail _ m1))
    · exact List.mem_append_left _ (.head _)
    · exact List.mem_append_left _ (.tail _ (.head _))
    · intro h₃ tk₃ Gd₃ gv₃ ng₃ Bd₃ bv₃ m₃ c1 c2 c3 c4 c5 F₃ N₃
      refine ⟨rfl, h₃, tk₃, m₃, _, rfl, F₃, News.part N₃ (keep := ((Gd₃, listOf gv₃.toArray ng₃) :: (Bd₃, listOf bv₃.toArray 0) :: rest) ++ own) ?_, Gd₃, gv₃, ng₃, Bd₃, bv₃, 0, stepB C k, ?_, ?_, step_noTwo hnC hkC b3, c1, c2, c3, c4, fun y y1 y2 y3 => ?_, rfl⟩
      · refine all_cons (.head _) (all_cons (.tail _ (.head _)) fun q hq => .tail _ (.tail _ (.tail _ (.tail _ hq))))
      · have : o.take (i + 1) = o.take i ++ [k] := by rw [List.take_add_one, hk1]; rfl
        rw [this, roundB_snoc, b1]
      · rw [step_len hkC, b2]
      · exact (c5 y y2 y3).trans ((if_neg y1).trans (b8 y y1 y2 y3))
  · rintro m' news' h₂ tk₂ ⟨Gd', gv', ng', Bd', bv', nb', C, b1, b2, b3, b4, b5, b6, b7, b8, rfl⟩ F₂ N₂
    rw [nats_len hov, List.take_length] at b1
    subst b1
    exact c _ _ _ _ _ _ _ _ _ b4 b5 b3 b6 b7 b8 F₂ N₂
end
end Mine
end
section
open PySem PySem.W PyProof.Rows PySem.Calls PySem.Spec
set_option maxRecDepth 100000
set_option maxHeartbeats 0
namespace Mine
section
variable {w : World} {fr : Option (List Env)} {gd : Option (List Code)} {g : Array GenState} {d : Drawn} {os : OsState} {tk : Nat} {p : Program} {loose : List Str} {mean : ExcName → Option Value} {mg mb : Str → Option Value} {E : Value → Shared → Prop} {h₀ h : Heap} {L fa sl : Addr} {cd : Value} {m : Str → Option Value} {news : List (Addr × Obj)} {vs : List Value} {ns : List Int} {n : Nat} {t : Tok}
theorem comp_row {Q : Value → Shared → Prop} {p1 p2 p3 p4 p5 p6 p7 px pi pos : Pos} {Bd : Addr} {bv : List Value} {nb x : Nat} {tl : Tok} {o1 : Obj} {B : List Bool} (F : Fr h₀ L h m) (N : News h₀ L h news) (hb : m (Str.ofString "bits") = some (.ref Bd)) (hm : (Bd, listOf bv.toArray nb) ∈ news) (hm1 : (L + 1, o1) ∈ news)
    (hd1 : o1.data = .cell (some (.str ⟨#[x]⟩ tl))) (hi : IntsAre bv (bitsOf B)) (hl : B.length ≤ 6)
    (k : ∀ h' tk' Cd cv nc, StrsAre cv (rows x B) → Fr h₀ L h' m → News h₀ L h' ((Cd, listOf (List.toArray cv) nc) :: news) → Q (.ref Cd) ⟨h', g, d, tk', os⟩) :
    wpAny (model PR w) (AL fr gd) (eval (.ListComp (eltRow p1 p2 p3 p4 p5 p6 p7) [⟨.Name (Str.ofString "bit") px, .Name (Str.ofString "bits") pi, [], 0⟩] scRow pos) (envL L fa cd)) Q E ⟨h, g, d, tk, os⟩ := by
  have hc : h.IsCell (L + 1) (some (.str ⟨#[x]⟩ tl)) := ⟨o1, (N _ hm1).1, hd1⟩
  refine comp_free (ToRow x) rfl clos_row (by decide) rfl (by decide) rfl (nameX_L F hb ?_) (fun _ => rfl)
  refine ⟨Bd, bv, rfl, News.isList N hm, by rw [ints_len hi]; omega, fun C i v s₃ m₃ E' hv hn hx hg => ?_, fun D ys n' h' tk' gr hD hf pp => ?_⟩
  · obtain ⟨b, t, rfl⟩ := bits_get hi hv
    refine wpAny_mono (elt_row hn hx (hc.keeps hg)) (fun y s₄ q => ⟨fun b' t' e => ?_, q.2⟩) fun _ _ z => z
    have e1 : bint b = bint b' := (Value.int.inj e).1
    have e2 : b = b' := by cases b <;> cases b' <;> first | rfl | cases e1
    rw [← e2]
    exact q.1
  · exact k _ _ _ _ _ (to_rows hi pp) (gr.fr F) (gr.add F N hD hf)
variable {Q : Flow → Shared → Prop}
local macro_rules | `(tactic| walk_at "LOOK") => `(tactic| first | assumption | exact rfl | (refine (if_neg (by decide)).trans ?_; walk_at "LOOK"))
local macro_rules | `(tactic| walk_at "MEM") => `(tactic| first | assumption | exact List.Mem.head _ | (refine List.mem_cons_of_mem _ ?_; walk_at "MEM"))
local macro_rules | `(tactic| walk_at "eval Name") => `(tactic| (k_here; k_dflt (first | (refine' nameX_L ?F ?v ?_ ?a ?b; (case F => k_asm); (case a => rfl); (case b => rfl); (case v => walk_at "LOOK")) | (refine' nameX_C ?N ?c ?m ?d ?_ ?a ?b; (case a => rfl); (case b => rfl); (case N => k_asm); (case c => rfl); (case m => walk_at "MEM"); (case d => assumption)))))
local macro_rules | `(tactic| walk_at "newList") => `(tactic| (k_here; k_dflt (refine list_at (by k_asm) (by k_asm) (by first | decide | (simp only [List.length_cons, List.length_nil]; omega)) ?_); intro l' h' F' N' l1; (try k_lt l1); (try k_sweep)))
local macro_rules | `(tactic| walk_at "binaryOp Add ref ref") => `(tactic| (k_here; k_dflt (refine' add_pageL ?F ?N ?a ?b ?z ?_; (case F => k_asm); (case N => k_asm); (case a => exact News.isList (by k_asm) (by walk_at "MEM")); (case b => exact News.isList (by k_asm) (by walk_at "MEM")); (case z => first | omega | (simp only [List.length_append, List.length_cons, List.length_nil, List.length_take, List.length_drop]; omega))); intro D' h' F' N' l1; (try k_lt l1); (try k_sweep)))
local macro_rules | `(tactic| walk_at "eval ListComp") => `(tactic| (k_here; k_dflt (refine comp_row (by k_asm) (by k_asm) (by walk_at "LOOK") (by walk_at "MEM") (by walk_at "MEM") (by assumption) (by assumption) (by assumption) ?_); intro h' tk' C' cv' nc' hC' F' N'; (try k_sweep)))
local macro_rules | `(tactic| k_steps) => `(tactic| repeat' (first | (k_unfold; (try dsimp only)) | ((with_reducible show wpAny _ _ (eval _ _) _ _ _); dsimp only; walk1) | ((with_reducible show wpAny _ _ (execs _ _) _ _ _); dsimp only; walk1) | walk1 | (dsimp only; walk1) | fail "no step"))
theorem store7 {Gd Bd Pd Ud : Addr} {o1 o2 : Obj} {gv bv pv uv : List Value} {ng nb np nu x : Nat} {B : List Bool} {tl : Tok} (keep : List (Addr × Obj)) (X : (Mine.hd.heap_39 w.params).In h₀) (T : Top p loose mean mg mb h₀) (F : Fr h₀ L h m) (N : News h₀ L h news)
    (hp : m (Str.ofString "page") = some (.ref Gd)) (hb : m (Str.ofString "bits") = some (.ref Bd)) (hu : m (Str.ofString "dues") = some (.ref Ud))
    (m1 : (L + 1, o1) ∈ news) (hd1 : o1.data = .cell (some (.str ⟨#[x]⟩ tl))) (m2 : (L + 1 + 1, o2) ∈ news) (hd2 : o2.data = .cell (some (.ref Pd)))
    (mG : (Gd, listOf gv.toArray ng) ∈ news) (mB : (Bd, listOf bv.toArray nb) ∈ news) (mP : (Pd, listOf pv.toArray np) ∈ news) (mU : (Ud, listOf uv.toArray nu) ∈ news)
    (hbv : IntsAre bv (bitsOf B)) (hl : B.length ≤ 6) (hpv : pv.length ≤ 20) (huv : uv.length ≤ 20) (hk : ∀ q ∈ keep, q ∈ news ∧ (notCell q.2 ∨ @Ne Nat q.1 (L + 1 + 1)))
    (c : ∀ h' tk' Pd' Ud' Cd cv nc o2' m', StrsAre cv (rows x B) → m' (Str.ofString "dues") = some (.ref Ud') → (∀ y, y ≠ Str.ofString "dues" → m' y = m y) → o2'.data = .cell (some (.ref Pd')) → Fr h₀ L h' m' →
      News h₀ L h' ((Pd', listOf (pv ++ [Value.ref Gd]).toArray 0) :: (Ud', listOf (uv ++ [Value.ref Cd]).toArray 0) :: (Cd, listOf (List.toArray cv) nc) :: (L + 1 + 1, o2') :: keep) → Q .next ⟨h', g, d, tk', os⟩) :
    wpAny (model PR w) (AL fr gd) (exec (nth (bodyOf (stm 7)) 2) (envL L fa cd)) Q E ⟨h, g, d, tk, os⟩ := by
  have hfill : (fun (_ : OpenLaw) (_ : Params → Frag) => True) PySem.Challenge.rw_rl0021_01 Mine.hd.heap_39 := by
    k_fill
    trivial
  clear hfill
  conv in nth _ _ => whnf
  unfold envL
  conv in lawScope => whnf
  w_strict k_steps
  rename_i l1a h6 i4 Pn h5 i3 h4 tkk Cn cvn ncn hCn l2a h3 i2 Un h2 i1 Tn h1 i0 hh FF NN
  refine store_cell ((Pn, listOf (pv ++ [Value.ref Gd]).toArray 0) :: (Un, listOf (uv ++ [Value.ref Cn]).toArray 0) :: (Cn, listOf (List.toArray cvn) ncn) :: keep) FF NN rfl (List.mem_append_right [_, _, _, _, _, _] m2) hd2 ?_ ?_
  · intro q hq
    rcases List.mem_cons.mp hq with rfl | hq
    · exact ⟨by k_mem, .inl notCell_list⟩
    rcases List.mem_cons.mp hq with rfl | hq
    · exact ⟨by k_mem, .inl notCell_list⟩
    rcases List.mem_cons.mp hq with rfl | hq
    · exact ⟨by k_mem, .inl notCell_list⟩
    · exact ⟨List.mem_append_right [_, _, _, _, _, _] (hk q hq).1, (hk q hq).2⟩
  clear FF NN
  intro h7 o7 F7 N7 d7
  w_strict k_steps
  refine c _ _ Pn Un Cn cvn ncn o7 _ hCn rfl (fun y hy => if_neg hy) (by assumption) (by assumption) (News.part (by assumption) ?_)
  exact all_cons (by k_mem) (all_cons (by k_mem) (all_cons (by k_mem) (all_cons (by k_mem) fun q hq => .tail _ (.tail _ (.tail _ (.tail _ hq))))))
end
end Mine
end
section
open PySem PySem.W PyProof.Rows PySem.Calls PySem.Spec
set_option maxRecDepth 100000
set_option maxHeartbeats 0
namespace Mine
def all (o : List Nat) (B : List Bool) (r : Nat) : List (List Bool) := (List.range (r + 1)).map fun j => iter o j B
theorem all_succ (o : List Nat) (B : List Bool) (r : Nat) : all o B (r + 1) = all o B r ++ [iter o (r + 1) B] := by
  unfold all
  rw [List.range_succ, List.map_append]
  rfl
theorem all_len (o : List Nat) (B : List Bool) (r : Nat) : (all o B r).length = r + 1 := by
  unfold all
  rw [List.length_map, List.length_range]
theorem all_get (o : List Nat) (B : List Bool) (r : Nat) : (all o B r)[r]? = some (iter o r B) := by
  unfold all
  rw [List.getElem?_map, List.getElem?_range (by omega)]
  rfl
theorem Shelf.last {x : Nat} {pgs : List (Addr × Obj)} {pv : List Value} {o : List Nat} {B : List Bool} {r : Nat} (S : Shelf x pgs pv (all o B r)) : ∃ a ws n, pv.getLast? = some (.ref a) ∧ (a, listOf (List.toArray ws) n) ∈ pgs ∧ StrsAre ws (rows x (iter o r B)) := by
  have hl := S.len
  rw [all_len] at hl
  have h1 : r < pv.length := by omega
  obtain ⟨C, a, ws, n, e1, e2, e3, e4⟩ := S.get (List.getElem?_eq_getElem h1)
  rw [all_get] at e1
  cases e1
  refine ⟨a, ws, n, ?_, e3, e4⟩
  rw [List.getLast?_eq_getElem?, hl, Nat.add_sub_cancel, List.getElem?_eq_getElem h1, e2]
theorem listed {q : Addr × Obj} (h : ∃ vs n, q.2 = listOf (List.toArray vs) n) : notCell q.2 := by
  obtain ⟨vs, n, e⟩ := h
  rw [e]
  exact notCell_list
section
variable {w : World} {fr : Option (List Env)} {gd : Option (List Code)} {g : Array GenState} {d : Drawn} {os : OsState} {tk : Nat} {p : Program} {loose : List Str} {mean : ExcName → Option Value} {mg mb : Str → Option Value} {E : Value → Shared → Prop} {h₀ h : Heap} {L fa sl : Addr} {cd : Value} {m : Str → Option Value} {news : List (Addr × Obj)} {vs : List Value} {ns : List Int} {n : Nat} {t : Tok} {Q : Flow → Shared → Prop}
theorem body7_is : bodyOf (stm 7) = [nth (bodyOf (stm 7)) 0, nth (bodyOf (stm 7)) 1, nth (bodyOf (stm 7)) 2] := rfl
theorem while7_is : ∃ pos, stm 7 = .While (iterOf (stm 7)) (bodyOf (stm 7)) [] pos := ⟨_, rfl⟩
/-- behind r rounds -/
def W9 (m : Str → Option Value) (L Fd Od : Addr) (fs ov : List Value) (nf no : Nat) (o1 : Obj) (o : List Nat) (B : List Bool) (x r : Nat) (m' : Str → Option Value) (news' : List (Addr × Obj)) : Prop :=
  ∃ Pd pv np Ud uv nu Bd bv nb o2 pgs, Shelf x pgs pv (all o B r) ∧ Shelf x pgs uv (all o B r) ∧ IntsAre bv (bitsOf (iter o r B)) ∧ noTwo (iter o r B) = true ∧ m' (Str.ofString "dues") = some (.ref Ud) ∧ m' (Str.ofString "bits") = some (.ref Bd) ∧
    (∀ y, y ≠ Str.ofString "k" → y ≠ Str.ofString "page" → y ≠ Str.ofString "bits" → y ≠ Str.ofString "dues" → m' y = m y) ∧ o2.data = .cell (some (.ref Pd)) ∧ (Fd, listOf (List.toArray fs) nf) ∈ pgs ∧ (∀ q ∈ pgs, ∃ vs n, q.2 = listOf (List.toArray vs) n) ∧
    news' = (Pd, listOf (List.toArray pv) np) :: (Ud, listOf (List.toArray uv) nu) :: (Bd, listOf (List.toArray bv) nb) :: (Od, listOf (List.toArray ov) no) :: (L + 1, o1) :: (L + 1 + 1, o2) :: pgs
theorem roundW {Fd Od : Addr} {fs ov : List Value} {nf no x r : Nat} {o1 : Obj} {o : List Nat} {B : List Bool} {e : Str} {tl te : Tok} {m' : Str → Option Value} {news' : List (Addr × Obj)} (X : (Mine.hd.heap_39 w.params).In h₀) (T : Top p loose mean mg mb h₀) (F : Fr h₀ L h m') (N : News h₀ L h news')
    (ho : m (Str.ofString "order") = some (.ref Od)) (hend : m (Str.ofString "end") = some (.str e te)) (hd1 : o1.data = .cell (some (.str ⟨#[x]⟩ tl))) (hov : IntsAre ov (nats o)) (hn : Six B.length) (hk' : ∀ k ∈ o, k < B.length) (hx : 97 ≤ x ∧ x < 123) (he : e ∈ ends) (hr : r ≤ 11)
    (J : W9 m L Fd Od fs ov nf no o1 o B x r m' news') (c : ∀ h' tk' m₂ news₂, Fr h₀ L h' m₂ → News h₀ L h' news₂ → W9 m L Fd Od fs ov nf no o1 o B x (r + 1) m₂ news₂ → Q .next ⟨h', g, d, tk', os⟩) :
    wpAny (model PR w) (AL fr gd) (execs (bodyOf (stm 7)) (envL L fa cd)) Q NoE ⟨h, g, d, tk, os⟩ := by
  obtain ⟨Pd, pv, np, Ud, uv, nu, Bd, bv, nb, o2, pgs, b1, b2, b3, b4, b5, b6, b7, b8, b9, b10, rfl⟩ := J
  obtain ⟨a, gv, ng, l1, l2, l3⟩ := b1.last
  have hpl := b1.len
  have hul := b2.len
  rw [all_len] at hpl hul
  have hlen : (iter o r B).length = B.length := iter_len hk' rfl r
  have hn' : Six (iter o r B).length := by rw [hlen]; exact hn
  have hl6 : B.length ≤ 6 := by rcases hn with h | h | h <;> omega
  rw [body7_is]
  refine wpAny_execs_cons (page7 X F N (.tail _ (.tail _ (.tail _ (.tail _ (.tail _ (.head _)))))) b8 (.head _) (by omega) l1 fun h1 tk1 F1 N1 => ?_)
  refine wpAny_execs_cons (round7 (Gd := a) (Bd := Bd) (gv := gv) (bv := bv) (ng := ng) (nb := nb) (ov := ov) (no := no) (Od := Od) (o := o) (B := iter o r B) (rest := (Pd, listOf (List.toArray pv) np) :: (Ud, listOf (List.toArray uv) nu) :: (Od, listOf (List.toArray ov) no) :: (L + 1, o1) :: (L + 1 + 1, o2) :: pgs) X T F1
    (News.part N1 (all_cons (.tail _ (.tail _ (.tail _ (.tail _ (.tail _ (.tail _ l2)))))) (all_cons (by k_mem) (all_cons (by k_mem) (all_cons (by k_mem) (all_cons (by k_mem) (all_cons (by k_mem) (all_cons (by k_mem) fun q hq => .tail _ (.tail _ (.tail _ (.tail _ (.tail _ (.tail _ hq)))))))))))) ) ?_ (if_pos rfl) ((if_neg (by decide)).trans b6)
    ((if_neg (by decide)).trans ((b7 _ (by decide) (by decide) (by decide) (by decide)).trans ho)) ((if_neg (by decide)).trans ((b7 _ (by decide) (by decide) (by decide) (by decide)).trans hend)) (by k_mem) hd1 (by k_mem) l3 b3 hov hn' (by rw [hlen]; exact hk') b4 hx he
    fun h2 tk2 Gd2 gv2 ng2 Bd2 bv2 nb2 m2 c1 c2 c3 c4 c5 c6 F2 N2 => ?_)
  · intro q hq
    rcases List.mem_cons.mp hq with rfl | hq
    · exact .inl ⟨_, _, rfl⟩
    rcases List.mem_cons.mp hq with rfl | hq
    · exact .inl ⟨_, _, rfl⟩
    rcases List.mem_cons.mp hq with rfl | hq
    · exact .inl ⟨_, _, rfl⟩
    rcases List.mem_cons.mp hq with rfl | hq
    · exact .inr ⟨_, hd1⟩
    rcases List.mem_cons.mp hq with rfl | hq
    · exact .inr ⟨_, b8⟩
    · exact .inl (b10 q hq)
  have hlr : (roundB o (iter o r B)).length = B.length := by rw [round_len (by rw [hlen]; exact hk'), hlen]
  refine wpAny_execs_cons (store7 (Gd := Gd2) (Bd := Bd2) (Pd := Pd) (Ud := Ud) (gv := gv2) (bv := bv2) (pv := pv) (uv := uv) (ng := ng2) (nb := nb2) (np := np) (nu := nu) (B := roundB o (iter o r B)) ((Gd2, listOf (List.toArray gv2) ng2) :: (Bd2, listOf (List.toArray bv2) nb2) :: (Od, listOf (List.toArray ov) no) :: (L + 1, o1) :: pgs) X T F2 N2 c4 c5
    ((c6 _ (by decide) (by decide) (by decide)).trans ((if_neg (by decide)).trans b5)) (by k_mem) hd1 (by k_mem) b8 (by k_mem) (by k_mem) (by k_mem) (by k_mem) c2 (by omega) (by omega) (by omega) ?_ fun h3 tk3 Pd3 Ud3 Cd3 cv3 nc3 o3 m3 d1 d2 d3 d4 F3 N3 => wpAny_execs_nil ?_)
  · intro q hq
    rcases List.mem_cons.mp hq with rfl | hq
    · exact ⟨by k_mem, .inl notCell_list⟩
    rcases List.mem_cons.mp hq with rfl | hq
    · exact ⟨by k_mem, .inl notCell_list⟩
    rcases List.mem_cons.mp hq with rfl | hq
    · exact ⟨by k_mem, .inl notCell_list⟩
    rcases List.mem_cons.mp hq with rfl | hq
    · exact ⟨by k_mem, .inr (by dsimp only; omega)⟩
    · exact ⟨.tail _ (.tail _ (.tail _ (.tail _ (.tail _ (.tail _ (.tail _ hq)))))), .inl (listed (b10 q hq))⟩
  · have e1 : iter o (r + 1) B = roundB o (iter o r B) := iter_succ o r B
    refine c h3 tk3 m3 ((Pd3, listOf (pv ++ [Value.ref Gd2]).toArray 0) :: (Ud3, listOf (uv ++ [Value.ref Cd3]).toArray 0) :: (Bd2, listOf (List.toArray bv2) nb2) :: (Od, listOf (List.toArray ov) no) :: (L + 1, o1) :: (L + 1 + 1, o3) :: (Gd2, listOf (List.toArray gv2) ng2) :: (Cd3, listOf (List.toArray cv3) nc3) :: pgs) F3
      (News.part N3 (all_cons (by k_mem) (all_cons (by k_mem) (all_cons (by k_mem) (all_cons (by k_mem) (all_cons (by k_mem) (all_cons (by k_mem) (all_cons (by k_mem) (all_cons (by k_mem) fun q hq => .tail _ (.tail _ (.tail _ (.tail _ (.tail _ (.tail _ (.tail _ (.tail _ hq))))))))))))))))
      ⟨Pd3, pv ++ [Value.ref Gd2], 0, Ud3, uv ++ [Value.ref Cd3], 0, Bd2, bv2, nb2, o3, _, ?_, ?_, ?_, ?_, d2, ?_, ?_, d4, .tail _ (.tail _ b9), ?_, rfl⟩
    · rw [all_succ, e1]
      exact Shelf.snoc (b1.mono fun q hq => .tail _ (.tail _ hq)) (.head _) c1
    · rw [all_succ, e1]
      exact Shelf.snoc (b2.mono fun q hq => .tail _ (.tail _ hq)) (.tail _ (.head _)) d1
    · rw [e1]; exact c2
    · rw [e1]; exact c3
    · exact (d3 _ (by decide)).trans c5
    · intro y y1 y2 y3 y4
      exact (d3 y y4).trans ((c6 y y1 y2 y3).trans ((if_neg y2).trans (b7 y y1 y2 y3 y4)))
    · intro q hq
      rcases List.mem_cons.mp hq with rfl | hq
      · exact ⟨_, _, rfl⟩
      rcases List.mem_cons.mp hq with rfl | hq
      · exact ⟨_, _, rfl⟩
      · exact b10 q hq
end
end Mine
end
section
open PySem PySem.W PyProof.Rows PySem.Calls PySem.Spec
set_option maxRecDepth 100000
set_option maxHeartbeats 0
namespace Mine
section
variable {w : World} {fr : Option (List Env)} {gd : Option (List Code)} {g : Array GenState} {d : Drawn} {os : OsState} {tk : Nat} {p : Program} {loose : List Str} {mean : ExcName → Option Value} {mg mb : Str → Option Value} {E : Value → Shared → Prop} {h₀ h : Heap} {L fa sl : Addr} {cd : Value} {m : Str → Option Value} {news : List (Addr × Obj)} {vs : List Value} {ns : List Int} {n : Nat} {t : Tok} {Q : Flow → Shared → Prop}
theorem seg7 {Fd Bd Od Pd Ud : Addr} {fs bv ov : List Value} {nf nb no np nu x R : Nat} {o1 o2 : Obj} {o : List Nat} {B : List Bool} {e : Str} {tl te : Tok} (X : (Mine.hd.heap_39 w.params).In h₀) (T : Top p loose mean mg mb h₀) (F : Fr h₀ L h m)
    (N : News h₀ L h [(Pd, listOf #[.ref Fd] np), (Ud, listOf #[.ref Fd] nu), (L + 1, o1), (L + 1 + 1, o2), (Fd, listOf (List.toArray fs) nf), (Bd, listOf (List.toArray bv) nb), (Od, listOf (List.toArray ov) no)])
    (hf : m (Str.ofString "first") = some (.ref Fd)) (hb : m (Str.ofString "bits") = some (.ref Bd)) (ho : m (Str.ofString "order") = some (.ref Od)) (hu : m (Str.ofString "dues") = some (.ref Ud)) (hend : m (Str.ofString "end") = some (.str e te))
    (hd1 : o1.data = .cell (some (.str ⟨#[x]⟩ tl))) (hd2 : o2.data = .cell (some (.ref Pd))) (hfs : StrsAre fs (rows x B)) (hbv : IntsAre bv (bitsOf B)) (hov : IntsAre ov (nats o)) (hn : Six B.length) (h2 : noTwo B = true) (hk' : ∀ k ∈ o, k < B.length) (hx : 97 ≤ x ∧ x < 123) (he : e ∈ ends)
    (hR1 : 1 ≤ R) (hR : R ≤ 11) (hRi : iter o R B = B) (hRn : ∀ j, 1 ≤ j → j < R → iter o j B ≠ B)
    (k : ∀ h' tk' m' Pd pv np Ud uv nu o2 pgs, Shelf x pgs pv (all o B R) → Shelf x pgs uv (all o B R) → m' (Str.ofString "dues") = some (.ref Ud) →
      (∀ y, y ≠ Str.ofString "k" → y ≠ Str.ofString "page" → y ≠ Str.ofString "bits" → y ≠ Str.ofString "dues" → m' y = m y) → o2.data = .cell (some (.ref Pd)) → Fr h₀ L h' m' →
      News h₀ L h' ((Pd, listOf (List.toArray pv) np) :: (Ud, listOf (List.toArray uv) nu) :: (L + 1 + 1, o2) :: pgs) → Q .next ⟨h', g, d, tk', os⟩) :
    wpAny (model PR w) (AL fr gd) (exec (stm 7) (envL L fa cd)) Q NoE ⟨h, g, d, tk, os⟩ := by
  obtain ⟨pos, e7⟩ := while7_is
  have body : ∀ (Q' : Flow → Shared → Prop) {r : Nat} {m' : Str → Option Value} {news' : List (Addr × Obj)} {h : Heap} {tk : Nat} (F : Fr h₀ L h m') (N : News h₀ L h news') (hr : r ≤ 11) (J : W9 m L Fd Od fs ov nf no o1 o B x r m' news')
    (c : ∀ h' tk' m₂ news₂, Fr h₀ L h' m₂ → News h₀ L h' news₂ → W9 m L Fd Od fs ov nf no o1 o B x (r + 1) m₂ news₂ → Q' .next ⟨h', g, d, tk', os⟩),
    wpAny (model PR w) (AL fr gd) (execs (bodyOf (stm 7)) (envL L fa cd)) Q' NoE ⟨h, g, d, tk, os⟩ :=
      fun Q' {r m' news' h tk} F N hr J c => roundW X T F N ho hend hd1 hov hn hk' hx he hr J c
  have test : ∀ (Q' : Bool → Shared → Prop) {r : Nat} {m' : Str → Option Value} {news' : List (Addr × Obj)} {h : Heap} {tk : Nat} (F : Fr h₀ L h m') (N : News h₀ L h news') (hr : r ≤ 11) (J : W9 m L Fd Od fs ov nf no o1 o B x r m' news')
    (c : ∀ tk', Q' (decide (r = 0) || !(iter o r B == B)) ⟨h, g, d, tk', os⟩),
    wpAny (model PR w) (AL fr gd) (isTrue (iterOf (stm 7)) (envL L fa cd) (eval (iterOf (stm 7)) (envL L fa cd))) Q' NoE ⟨h, g, d, tk, os⟩ := by
    intro Q' r m' news' h tk F N hr J c
    obtain ⟨Pd, pv, np, Ud, uv, nu, Bd, bv, nb, o2, pgs, b1, b2, b3, b4, b5, b6, b7, b8, b9, b10, rfl⟩ := J
    obtain ⟨a, gv, ng, l1, l2, l3⟩ := b1.last
    have hpl := b1.len
    rw [all_len] at hpl
    exact test7 (r := r) X T F N ((b7 _ (by decide) (by decide) (by decide) (by decide)).trans hf) (by k_mem) b8 (by k_mem) (.tail _ (.tail _ (.tail _ (.tail _ (.tail _ (.tail _ b9)))))) (.tail _ (.tail _ (.tail _ (.tail _ (.tail _ (.tail _ l2)))))) hpl rfl hr l1 hx hfs l3 c
  rw [e7]
  generalize bodyOf (stm 7) = bd7 at body
  generalize iterOf (stm 7) = it7 at test
  refine While_inv (s := ⟨h, g, d, tk, os⟩) (L := L) (h₀ := h₀) (fun n m' news' => ∃ r, r ≤ R ∧ n = R - r ∧ W9 m L Fd Od fs ov nf no o1 o B x r m' news') (n₀ := R) (m := m)
    (news := (Pd, listOf #[.ref Fd] np) :: (Ud, listOf #[.ref Fd] nu) :: (Bd, listOf (List.toArray bv) nb) :: (Od, listOf (List.toArray ov) no) :: (L + 1, o1) :: (L + 1 + 1, o2) :: [(Fd, listOf (List.toArray fs) nf)]) F
    (News.part N (all_cons (by k_mem) (all_cons (by k_mem) (all_cons (by k_mem) (all_cons (by k_mem) (all_cons (by k_mem) (all_cons (by k_mem) (all_cons (by k_mem) all_nil)))))))) ?_ ?_ PassesOwn.never
  · have e0 : all o B 0 = [B] := rfl
    have S : Shelf x [(Fd, listOf (List.toArray fs) nf)] [Value.ref Fd] (all o B 0) := by
      rw [e0]
      exact .cons ⟨Fd, fs, nf, rfl, .head _, hfs⟩ .nil
    exact ⟨0, Nat.zero_le _, rfl, Pd, [Value.ref Fd], np, Ud, [Value.ref Fd], nu, Bd, bv, nb, o2, _, S, S, hbv, h2, hu, hb, fun _ _ _ _ _ => rfl, hd2, .head _, fun q hq => ⟨fs, nf, by rw [List.mem_singleton.mp hq]⟩, rfl⟩
  · rintro n' m' news' h₁ tk₁ F₁ N₁ ⟨r, hr, rfl, J⟩
    refine test _ F₁ N₁ (by omega) J fun tk₂ => ?_
    by_cases hrR : r = R
    · subst hrR
      have hb : (decide (r = 0) || !(iter o r B == B)) = false := by
        rw [hRi, decide_eq_false (by omega)]
        simp
      rw [hb]
      rw [if_neg (by decide)]
      obtain ⟨Pd, pv, np, Ud, uv, nu, Bd, bv, nb, o2, pgs, b1, b2, b3, b4, b5, b6, b7, b8, b9, b10, rfl⟩ := J
      exact k _ _ _ _ _ _ _ _ _ _ _ b1 b2 b5 b7 b8 F₁ (News.part N₁ (all_cons (by k_mem) (all_cons (by k_mem) (all_cons (by k_mem) fun q hq => .tail _ (.tail _ (.tail _ (.tail _ (.tail _ (.tail _ hq)))))))))
    · have hb : (decide (r = 0) || !(iter o r B == B)) = true := by
        by_cases h0 : r = 0
        · rw [decide_eq_true h0]; rfl
        · rw [beq_eq_false_iff_ne.mpr (hRn r (by omega) (by omega))]
          simp
      rw [hb]
      rw [if_pos rfl]
      refine body _ F₁ N₁ (by omega) J fun h' tk' m₂ news₂ F₂ N₂ J₂ => ?_
      exact WhileStep.intro (s := ⟨h, g, d, tk, os⟩) F₂ N₂ (n' := R - (r + 1)) (by omega) ⟨r + 1, by omega, rfl, J₂⟩
end
end Mine
end
section
open PySem PySem.W PyProof.Rows PySem.Calls PySem.Spec
set_option maxRecDepth 100000
set_option maxHeartbeats 0
namespace Mine
def scOut : Scope := { kind := .function, names := [(Str.ofString ".0", .local), (Str.ofString "k", .cell), (Str.ofString "sum", .globalImplicit), (Str.ofString "pages", .free)], isGenerator := false, isCoroutine := false, more := [] }
section
variable {prog : Program} {w : World} {A : Around} {E : Value → Shared → Prop} {env : Env} {h₀ : Heap} {L : Addr} {m : Str → Option Value} {news : List (Addr × Obj)}
theorem newEnv_out {M : Model} {s : Shared} {globals : Addr} {cl : List (Str × Addr)} {qual : Str} {Q : Env → Shared → Prop}
    (h : Q { scope := scOut, locals := s.heap.objs.size, globals := globals, cells := (Str.ofString "k", s.heap.objs.size + 1) :: cl, qual := qual, func := none, code := env.code, frame := env.frame, builtins := env.builtins }
      { s with heap := (s.heap.push { cls := .type "dict", data := .dict #[] }).push { cls := .type "cell", data := .cell none } }) :
    wpAny M A (newFunctionEnv scOut globals cl [] qual none .none (some env)) Q E s := by
  simp only [newFunctionEnv, Option.isSome_some, if_true]
  refine wpAny_bind (wpAny_alloc ?_)
  refine wpAny_bind (wpAny_layCells _ (fun name kind cells => by cases hkc : kind == NameKind.cell <;> simp [hkc]) _ _ _ _ ?_)
  rw [show ({ s with heap := s.heap.push { cls := .type "dict", data := .dict #[] } } : Shared).heap.objs.size = s.heap.objs.size + 1 from Heap.size_push ..]
  refine wpAny_bind ?_
  rw [List.forIn_nil]
  exact wpAny_pure (wpAny_pure h)
theorem block_cell {elt iter : PySem.Expr} {px pos : Pos} {s₂ : Shared} {I : Addr} {n : Nat} {cl : List (Str × Addr)} {V : Nat → Value → Prop} {RR : Value → Addr → Result → Shared → Prop} (hh : A.handled = none)
    (F : Fr h₀ L s₂.heap m) (N : News h₀ L s₂.heap news) (hI : IsRangeIter s₂.heap I 0 (n : Int) 1) (hIL : L ≠ I) (hI0 : h₀.get? I = none) (off : ∀ p ∈ news, p.1 ≠ I) (hn : n ≤ 100)
    (he : ∀ (Q' : Value → Shared → Prop) (E' : Value → Shared → Prop) (i : Nat) C c oc t h tk all, i < n → oc.data = .cell (some (.int (i : Int) t)) → Fr h₀ L h m → News h₀ L h all → (c, oc) ∈ all → (∀ q ∈ news, q ∈ all) →
      (∀ v h' tk', V i v → Fr h₀ L h' m → News h₀ L h' all → Q' v { s₂ with heap := h', toks := tk' }) → wpAny (model prog w) A (eval elt (compEnvC scOut ((Str.ofString "k", c) :: cl) C env)) Q' E' { s₂ with heap := h, toks := tk })
    (hRR : ∀ D C h tk m' ys, Fr h₀ L h m → News h₀ L h ((D, LCg.lst ys) :: news) → h.Ns C m' → h₀.get? C = none → C ≠ L → D ≠ C → (∀ p ∈ news, p.1 ≠ C) → ys.length = n → (∀ i v, ys[i]? = some v → V i v) → RR (.ref D) C (.ok .next) { s₂ with heap := h, toks := tk }) :
    wpAny (model prog w) A (newList []) (fun acc s₃ => wpAny (model prog w) A (newFunctionEnv scOut env.globals cl [] env.qual none .none (some env)) (fun cenv s₄ =>
      codeAny (model prog w) A (.compStart (.ListComp elt [⟨.Name (Str.ofString "k") px, iter, [], 0⟩] scOut pos) 0 (.ref I) acc { cenv with scope := relabel scOut env }) (RR acc cenv.locals) s₄) E s₃) E s₂ := by
  have W := LCg.range_walks (prog := prog) (w := w) (A := A) (I := I) hh 0 n
  refine wpAny_newObj_type (newEnv_out ?_)
  dsimp only
  generalize hH2 : s₂.heap.push { cls := .type "list", dict := none, data := .seq ([] : List Value).toArray } = H2
  have hC : H2.objs.size = s₂.heap.objs.size + 1 := by rw [← hH2, Heap.size_push]
  generalize hH3 : H2.push { cls := .type "dict", data := .dict #[] } = H3
  have hc : H3.objs.size = s₂.heap.objs.size + 2 := by rw [← hH3, Heap.size_push, hC]
  rw [show H2.objs.size + 1 = H3.objs.size by rw [hc, hC]]
  generalize hH4 : H3.push { cls := .type "cell", data := .cell none } = H4
  generalize hDn : s₂.heap.objs.size = D at hC hc ⊢
  generalize hCn : H2.objs.size = C at hC ⊢
  generalize hcn : H3.objs.size = c at hc ⊢
  have up2 : ∀ b o, s₂.heap.get? b = some o → H2.get? b = some o := fun b o e => hH2 ▸ Heap.get?_push_of_some _ e
  have up3 : ∀ b o, H2.get? b = some o → H3.get? b = some o := fun b o e => hH3 ▸ Heap.get?_push_of_some _ e
  have up4 : ∀ b o, H3.get? b = some o → H4.get? b = some o := fun b o e => hH4 ▸ Heap.get?_push_of_some _ e
  have old : ∀ b o, s₂.heap.get? b = some o → H4.get? b = some o := fun b o e => up4 _ _ (up3 _ _ (up2 _ _ e))
  have hD4 : H4.get? D = some (LCg.lst []) := up4 _ _ (up3 _ _ (by rw [← hH2, ← hDn]; exact Heap.get?_push_size _ rfl))
  have hN4 : H4.Ns C (fun _ => none) := by
    have q : H3.Ns C (fun _ => none) := by
      rw [← hH3, ← hCn]
      exact Heap.Ns.new H2 (.type "dict")
    exact q.keeps up4
  have hc4 : H4.IsCell c none := ⟨_, by rw [← hH4, ← hcn]; exact Heap.get?_push_size _ rfl, rfl⟩
  have fresh₀ : ∀ a, D ≤ a → h₀.get? a = none := fun a ha => by
    cases e : h₀.get? a with
    | none => rfl
    | some o' => exact absurd (Heap.lt_size (F.keep a o' e)) (by rw [hDn]; exact Nat.not_lt.mpr ha)
  have hLlt : @LT.lt Nat _ L D := hDn ▸ F.ns.lt
  have hIlt : @LT.lt Nat _ I D := hDn ▸ Heap.lt_size hI
  have hnews : ∀ p ∈ news, @LT.lt Nat _ p.1 D := fun p hp => hDn ▸ Heap.lt_size (N p hp).1
  have nDC : @Ne Nat D C := by omega
  have nDc : @Ne Nat D c := by omega
  have nCc : @Ne Nat C c := by omega
  have nDL : @Ne Nat D L := fun q => Nat.ne_of_lt hLlt q.symm
  have nCL : @Ne Nat C L := by omega
  have ncL : @Ne Nat c L := by omega
  have nIC : @Ne Nat I C := by omega
  have nIc : @Ne Nat I c := by omega
  have nID : @Ne Nat I D := Nat.ne_of_lt hIlt
  have hD0 : h₀.get? D = none := fresh₀ D (Nat.le_refl _)
  have hC0 : h₀.get? C = none := fresh₀ C (by omega)
  have hc0 : h₀.get? c = none := fresh₀ c (by omega)
  have offD : ∀ p ∈ news, @Ne Nat p.1 D := fun p hp => Nat.ne_of_lt (hnews p hp)
  have offC : ∀ p ∈ news, @Ne Nat p.1 C := fun p hp q => by have := hnews p hp; omega
  have offc : ∀ p ∈ news, @Ne Nat p.1 c := fun p hp q => by have := hnews p hp; omega
  have loop : ∀ s₃ : Shared, s₃ = { s₂ with heap := H4 } →
      codeAny (model prog w) A (.compLoop (.ListComp elt [⟨.Name (Str.ofString "k") px, iter, [], 0⟩] scOut pos) 0 (.ref I) (.ref D) (compEnvC scOut ((Str.ofString "k", c) :: cl) C env)) (RR (.ref D) C) s₃ := by
    rintro s₃ rfl
    refine codeAny_compLoop_tests
      (fun k s' => ∃ h' tk i ys m' oc, s' = { s₂ with heap := h', toks := tk } ∧ i ≤ n ∧ k = n + 1 - i ∧ ys.length = i ∧ IsRangeIter h' I (0 + (i : Nat) * 1) ((n : Int) - (i : Nat)) 1 ∧ Fr h₀ L h' m ∧ h'.Ns C m' ∧ h'.IsCell c oc ∧ News h₀ L h' ((D, LCg.lst ys) :: news) ∧ (∀ j v, ys[j]? = some v → V j v)) ?_ (n + 1)
      ⟨H4, s₂.toks, 0, [], _, none, rfl, Nat.zero_le _, rfl, rfl, by simpa using old _ _ hI, F.keeps old, hN4, hc4, ?_, fun j v e => by simp at e⟩
    · rintro k s' ⟨h', tk, i, ys, m', oc, rfl, hi, rfl, hyl, hst', F', hn', hc', N', hV⟩
      by_cases hlt : i < n
      · refine W.item i _ _ _ hlt hst' fun v h₂ tk₂ hPv hst₂ hk₂ => ?_
        obtain ⟨t, rfl⟩ := hPv
        rw [show (0 : Int) + (i : Int) = (i : Int) by omega]
        have hc₂ : h₂.IsCell c oc := by obtain ⟨o, e, r⟩ := hc'; exact ⟨o, hk₂ _ _ (fun q => nIc (List.mem_singleton.mp q).symm) e, r⟩
        refine wpAny_assign_Name (wpAny_storeName_cell (c := c) (v₀ := oc) rfl ?_ rfl hc₂ fun h₃ hv₃ hs₃ => ?_)
        · with_unfolding_all rfl
        refine wpAny_tests_nil ?_
        simp only [if_true]
        obtain ⟨ock, hock, hockd⟩ := hv₃
        have F₂ : Fr h₀ L h₂ m := LCg.fr_but F' hk₂ hIL hI0
        have F₃ : Fr h₀ L h₃ m := F₂.change hs₃ ncL hc0
        have hns₂ : h₂.Ns C m' := hn'.at' fun o e => hk₂ _ o (fun q => nIC (List.mem_singleton.mp q).symm) e
        have hns₃ : h₃.Ns C m' := hns₂.sameBut hs₃ nCc
        obtain ⟨oC, heC, hoC⟩ := LCg.ns_obj hns₃
        have hst₃ : IsRangeIter h₃ I (0 + ((i + 1 : Nat)) * 1) ((n : Int) - ((i + 1 : Nat))) 1 := by
          have e : h₂.get? I = _ := hst₂
          show h₃.get? I = _
          exact hs₃.extBut _ _ nIc e
        have N₂ : News h₀ L h₂ ((D, LCg.lst ys) :: news) := LCg.news_but N' hk₂ fun q hq => by
          rcases List.mem_cons.mp hq with rfl | hq
          · exact fun z => nID z.symm
          · exact off q hq
        have N₃ : News h₀ L h₃ ((I, _) :: (c, ock) :: (C, oC) :: (D, LCg.lst ys) :: news) := fun q hq => by
          rcases List.mem_cons.mp hq with rfl | hq
          · exact ⟨hst₃, fun z => hIL z.symm, hI0⟩
          rcases List.mem_cons.mp hq with rfl | hq
          · exact ⟨hock, ncL, hc0⟩
          rcases List.mem_cons.mp hq with rfl | hq
          · exact ⟨heC, nCL, hC0⟩
          · refine ⟨hs₃.extBut _ _ ?_ (N₂ q hq).1, (N₂ q hq).2⟩
            rcases List.mem_cons.mp hq with rfl | hq
            · exact nDc
            · exact offc q hq
        refine he _ _ i C c ock t h₃ _ _ hlt hockd F₃ N₃ (.tail _ (.head _)) (fun q hq => .tail _ (.tail _ (.tail _ (.tail _ hq)))) fun v h₄ tk₄ hv F₄ N₄ => ?_
        have zI := (N₄ _ (.head _)).1
        have zc := (N₄ _ (.tail _ (.head _))).1
        have zC := (N₄ _ (.tail _ (.tail _ (.head _)))).1
        have zD := (N₄ _ (.tail _ (.tail _ (.tail _ (.head _))))).1
        refine append_at (hsz := by rw [List.size_toArray, sizeLine_eq]; omega) zD fun h₅ hs₅ hD₅ => ?_
        refine ⟨n + 1 - (i + 1), by omega, h₅, tk₄, i + 1, ys ++ [v], m', some (.int (i : Int) t), rfl, hlt, rfl, by rw [List.length_append, List.length_singleton, hyl], hs₅.extBut _ _ nID zI, F₄.change hs₅ nDL hD0,
          (hoC.ns zC).sameBut hs₅ (Ne.symm nDC), ⟨ock, hs₅.extBut _ _ (Ne.symm nDc) zc, hockd⟩, fun q hq => ?_, fun j v' e => ?_⟩
        · rcases List.mem_cons.mp hq with rfl | hq
          · exact ⟨hD₅.trans (congrArg some (LCg.lst_snoc ys v)), nDL, hD0⟩
          · have z := N₄ q (.tail _ (.tail _ (.tail _ (.tail _ hq))))
            exact ⟨hs₅.extBut _ _ (offD q hq) z.1, z.2⟩
        · by_cases hj : j < ys.length
          · rw [List.getElem?_append_left hj] at e
            exact hV j v' e
          · rw [List.getElem?_append_right (by omega)] at e
            have : j - ys.length = 0 := by
              cases hq : j - ys.length with
              | zero => rfl
              | succ q => rw [hq] at e; simp at e
            rw [this] at e
            cases e
            rw [show j = i by omega]
            exact hv
      · obtain rfl : i = n := Nat.le_antisymm hi (Nat.not_lt.mp hlt)
        refine W.done _ _ _ hst' fun h₂ tk₂ hk₂ => ?_
        refine hRR D C h₂ tk₂ m' ys (LCg.fr_but F' hk₂ hIL hI0) (LCg.news_but N' hk₂ fun q hq => ?_) (hn'.at' fun o e => hk₂ _ o (fun q => nIC (List.mem_singleton.mp q).symm) e) hC0 nCL nDC offC hyl hV
        rcases List.mem_cons.mp hq with rfl | hq
        · exact fun z => nID z.symm
        · exact off q hq
    · intro q hq
      rcases List.mem_cons.mp hq with rfl | hq
      · exact ⟨hD4, nDL, hD0⟩
      · exact ⟨old _ _ (N q hq).1, (N q hq).2⟩
  exact codeAny_compStart_list (loop _ rfl) (W.self 0 _ _ _ (by simpa using old _ _ hI) (loop _ rfl))
end
end Mine
end
section
open PySem PySem.W PyProof.Rows PySem.Calls PySem.Spec
set_option maxRecDepth 100000
set_option maxHeartbeats 0
namespace Mine
section
variable {prog : Program} {w : World} {A : Around} {E : Value → Shared → Prop} {env : Env} {h₀ : Heap} {m : Str → Option Value}
theorem comp_cellA {s : Shared} {elt iter : PySem.Expr} {y : Str} {px py pos spos : Pos} {cl : List (Str × Addr)} {V : Nat → Value → Prop} {Q : Flow → Shared → Prop} (hh : A.handled = none)
    (hsw : swapsWith (.ListComp elt [⟨.Name (Str.ofString "k") px, iter, [], 0⟩] scOut pos) (some (.Name y py)) spos.line env = pure true)
    (hclos : closureFor scOut env = pure cl) (hy : env.kindOf y = some .local) (hp : (env.scope.kind == .class || (env.scope.kind == .module && env.locals != env.globals)) = false)
    (h : wpAny (model prog w) A (eval iter env) (fun xv s₁ => ∃ r t u v n news, xv = .ref r ∧ IsRange s₁.heap r 0 ((n : Nat) : Int) 1 t u v ∧ n ≤ 100 ∧ Fr h₀ env.locals s₁.heap m ∧ News h₀ env.locals s₁.heap news ∧
      (∀ (Q' : Value → Shared → Prop) (E' : Value → Shared → Prop) (i : Nat) C c oc t h tk all, i < n → oc.data = .cell (some (.int (i : Int) t)) → Fr h₀ env.locals h m → News h₀ env.locals h all → (c, oc) ∈ all → (∀ q ∈ news, q ∈ all) →
        (∀ v h' tk', V i v → Fr h₀ env.locals h' m → News h₀ env.locals h' all → Q' v { s₁ with heap := h', toks := tk' }) → wpAny (model prog w) A (eval elt (compEnvC scOut ((Str.ofString "k", c) :: cl) C env)) Q' E' { s₁ with heap := h, toks := tk }) ∧
      (∀ D ys h' tk, Fr h₀ env.locals h' (fun z => if z = y then some (.ref D) else m z) → News h₀ env.locals h' ((D, listOf (List.toArray ys) ys.length) :: news) → ys.length = n → (∀ i v, ys[i]? = some v → V i v) → Q .next { s₁ with heap := h', toks := tk })) E s)
    (hs : ∀ x, foldedSetIterable iter env x = pure x := by intro _; rfl) :
    wpAny (model prog w) A (exec (.Assign [.Name y py] (.ListComp elt [⟨.Name (Str.ofString "k") px, iter, [], 0⟩] scOut pos) spos) env) Q E s := by
  rw [exec_Assign_Name_used _ _ _ _ hsw]
  refine wpAny_bind (wpAny_standAt (wpAny_bind ?_))
  show wpAny _ A (do let _ ← comprehension (.ListComp elt [⟨.Name (Str.ofString "k") px, iter, [], 0⟩] scOut pos) scOut env _ (newList []) false (eval iter env) (some (assign (.Name y py) env))) _ _ s
  refine wpAny_bind (wpAny_mono (wpAny_comprehension_free (use := some (assign (.Name y py) env)) (Q := fun _ s' => Q .next s') rfl hs hclos rfl (by decide)
    (wpAny_mono h (fun xv s₁ h₁ => ?_) fun _ _ e => e)) (fun _ s' hq => wpAny_pure (wpAny_pure hq)) fun _ _ e => e)
  obtain ⟨r, t, u, v, n, news, rfl, hr, hn, F, N, he, hf⟩ := h₁
  have hsz : Builtin.Range.rangeSize 0 (n : Int) 1 = (n : Int) := by
    unfold Builtin.Range.rangeSize
    simp only [show (1 : Int) > 0 by decide, if_true]
    first | (split <;> omega) | omega
  have hsm : Builtin.Range.small 0 (n : Int) 1 = true := by
    unfold Builtin.Range.small
    rw [hsz]
    unfold Builtin.Range.rangeFitsLong
    simp only [show (1 : Int) > 0 by decide, if_true, Bool.and_eq_true, Bool.or_eq_true, decide_eq_true_eq]
    omega
  refine wpAny_pyIter_range hr hsm ?_
  refine block_cell (V := V) hh (F.keeps fun _ _ e => Heap.get?_push_of_some _ e) (N.grown fun _ _ e => Heap.get?_push_of_some _ e) (by show IsRangeIter _ _ _ _ _; rw [hsz]; simpa using Heap.get?_push_size _ rfl) (Nat.ne_of_lt F.ns.lt) (next_is_new F) (fun p hp => Nat.ne_of_lt (Heap.lt_size (N p hp).1)) hn
    (fun Q' E' i C c oc t h tk all a1 a2 a3 a4 a5 a6 a7 => he Q' E' i C c oc t h tk all a1 a2 a3 a4 a5 a6 a7) ?_
  intro D C h' tk m' ys F' N' hnC hC₀ hCL hDC offC hyl hV
  show wpAny _ A (assign (.Name y py) env (.ref D)) _ _ _
  refine wpAny_assign_Name (wpAny_storeName_local hy F'.ns (fun h₂ hn₂ hs₂ => ?_) hp)
  have hL₀ : h₀.get? env.locals = none := Heap.get?_none_of_le F'.above
  have F₂ : Fr h₀ env.locals h₂ (fun z => if z = y then some (.ref D) else m z) := ⟨hn₂, fun b o e => hs₂.extBut b o (fun q => by rw [q, hL₀] at e; cases e) (F'.keep b o e), F'.above⟩
  refine ⟨m', hnC.sameBut hs₂ hCL, fun h'' hs'' => hf D ys h'' _ (F₂.change hs'' hCL hC₀) (fun p hp => ?_) hyl hV⟩
  have z : h₂.get? p.1 = some p.2 := hs₂.extBut _ _ (N' p hp).2.1 (N' p hp).1
  refine ⟨hs''.extBut _ _ ?_ z, (N' p hp).2⟩
  rcases List.mem_cons.mp hp with rfl | hp
  · exact hDC
  · exact offC p hp
end
end Mine
end
section
open PySem PySem.W PyProof.Rows PySem.Calls PySem.Spec
set_option maxRecDepth 100000
set_option maxHeartbeats 0
namespace Mine
def valueOf : Stmt → PySem.Expr
  | .Assign _ v _ => v
  | _ => .Constant .none 0 ⟨0, 0, 0, 0⟩
def compElt : PySem.Expr → PySem.Expr
  | .ListComp e _ _ _ => e
  | e => e
def compIter : PySem.Expr → PySem.Expr
  | .ListComp _ (g :: _) _ _ => g.iter
  | e => e
def argOf : PySem.Expr → PySem.Expr
  | .Call _ (a :: _) _ _ => a
  | e => e
def scIn : Scope := { kind := .function, names := [(Str.ofString ".0", .local), (Str.ofString "one", .local), (Str.ofString "len", .globalImplicit), (Str.ofString "k", .free)], isGenerator := false, isCoroutine := false, more := [] }
def elt9 : PySem.Expr := compElt (valueOf (stm 9))
def iter9 : PySem.Expr := compIter (valueOf (stm 9))
def in9 : PySem.Expr := argOf elt9
def eltIn : PySem.Expr := compElt in9
def iterIn : PySem.Expr := compIter in9
abbrev envO (L fa : Addr) (cd : Value) (c C : Addr) : Env := compEnvC scOut [(Str.ofString "k", c), (Str.ofString "pages", L + 1 + 1)] C (envL L fa cd)
theorem in9_is : ∃ px pos, in9 = .ListComp eltIn [⟨.Name (Str.ofString "one") px, iterIn, [], 0⟩] scIn pos := ⟨_, _, rfl⟩
theorem stm9_is {L fa : Addr} {cd : Value} : ∃ py px pos spos, stm 9 = .Assign [.Name (Str.ofString "inside") py] (.ListComp elt9 [⟨.Name (Str.ofString "k") px, iter9, [], 0⟩] scOut pos) spos ∧
    swapsWith (.ListComp elt9 [⟨.Name (Str.ofString "k") px, iter9, [], 0⟩] scOut pos) (some (.Name (Str.ofString "inside") py)) spos.line (envL L fa cd) = pure true := ⟨_, _, _, _, rfl, rfl⟩
theorem clos_out {L fa : Addr} {cd : Value} : closureFor scOut (envL L fa cd) = pure [(Str.ofString "pages", L + 1 + 1)] := rfl
theorem clos_in {L fa c C : Addr} {cd : Value} : closureFor scIn (envO L fa cd c C) = pure [(Str.ofString "k", c)] := rfl
section
variable {L fa c C C' : Addr} {cd : Value} {cl : List (Str × Addr)}
theorem kind_one : (compEnvC scIn cl C' (envO L fa cd c C)).kindOf (Str.ofString "one") = some .local := lookup_relabel_local (env := envO L fa cd c C) (names := scIn.names) rfl
theorem kind_ko : (envO L fa cd c C).kindOf (Str.ofString "k") = some .cell := by with_unfolding_all rfl
theorem kind_L : (envL L fa cd).kindOf (Str.ofString "pages") = some .cell := rfl
theorem kind_po : (envO L fa cd c C).kindOf (Str.ofString "pages") = some .cell := by with_unfolding_all rfl
theorem kind_ki : (compEnvC scIn cl C' (envO L fa cd c C)).kindOf (Str.ofString "k") = some .cell := by
  have e : ((envO L fa cd c C).kindOf (Str.ofString "k") == some NameKind.cell) = true := by rw [kind_ko]; rfl
  have e2 : ((envO L fa cd c C).scope.kind == ScopeKind.function) = true := rfl
  show List.lookup (Str.ofString "k") (List.map (fun x : Str × NameKind => if (x.2 == NameKind.free && (envO L fa cd c C).scope.kind == ScopeKind.function && (envO L fa cd c C).kindOf x.1 == some NameKind.cell) = true then (x.1, NameKind.cell) else (x.1, x.2)) scIn.names) = _
  simp only [scIn, List.map_cons, List.map_nil, e, e2]
  rfl
end
section
variable {w : World} {fr : Option (List Env)} {gd : Option (List Code)} {g : Array GenState} {d : Drawn} {os : OsState} {tk : Nat} {p : Program} {loose : List Str} {mean : ExcName → Option Value} {mg mb : Str → Option Value} {E : Value → Shared → Prop} {h₀ h : Heap} {L fa sl : Addr} {cd : Value} {m : Str → Option Value} {news : List (Addr × Obj)} {vs : List Value} {ns : List Int} {n : Nat} {t : Tok}
section
variable {prog : Program} {A : Around} {Q : Value → Shared → Prop}
theorem len_row {x : Nat} {b : Bool} {t : Tok} (k : ∀ t' tk', Q (.int (2 + bint b) t') ⟨h, g, d, tk', os⟩) : wpAny (model prog w) A (call (.builtin "len") [.str (rowOf x b) t]) Q E ⟨h, g, d, tk, os⟩ := by
  have e : ((rowOf x b).length : Int) = 2 + bint b := by cases b <;> rfl
  refine len_str (by rw [e]; cases b <;> decide) ?_
  rw [e]
  exact k _ _
theorem item_row {value slice : PySem.Expr} {a : Addr} {vs : List Value} {B : List Bool} {x k : Nat} {u : Tok} (hl : h.IsList a vs.toArray) (hi : StrsAre vs (rows x B)) (hk : k < B.length) (h6 : k < 100)
    (c : ∀ t, Q (.str (rowOf x (B.getD k false)) t) ⟨h, g, d, tk, os⟩) (hs : subscripted slice false (.ref a) (.int (k : Int) u) = operate [.ref a, .int (k : Int) u] (getItem (.ref a) (.int (k : Int) u))) :
    wpAny (model prog w) A (subscriptTail value slice (.ref a) (.int (k : Int) u)) Q E ⟨h, g, d, tk, os⟩ :=
  item_page (s := ⟨h, g, d, tk, os⟩) hl hi (by omega) (by omega) (rows_get hk) c hs
end
section
variable {Q : Value → Shared → Prop}
local macro_rules | `(tactic| walk_at "eval Name") => `(tactic| (k_here; (with_reducible show wpAny _ _ (eval (Expr.Name (Str.ofString "one") _) _) _ _ _); refine ldVarK (by assumption) (by assumption) ?_ rfl kind_one))
local macro_rules | `(tactic| walk_at "eval Name") => `(tactic| (k_here; (with_reducible show wpAny _ _ (eval (Expr.Name (Str.ofString "k") _) _) _ _ _); refine ldCellK rfl (by assumption) ?_ rfl kind_ki))
local macro_rules | `(tactic| walk_at "call builtin:len") => `(tactic| (k_here; refine len_row ?_; intro t' tk'))
local macro_rules | `(tactic| walk_at "subscriptTail Name Name ref int") => `(tactic| (k_here; k_dflt (refine item_row (by assumption) (by assumption) (by assumption) (by omega) ?_ (by with_unfolding_all rfl)); intro t'))
local macro_rules | `(tactic| k_steps) => `(tactic| repeat' (first | (k_unfold; (try dsimp only)) | ((with_reducible show wpAny _ _ (eval _ _) _ _ _); dsimp only; walk1) | ((with_reducible show wpAny _ _ (execs _ _) _ _ _); dsimp only; walk1) | walk1 | (dsimp only; walk1) | fail "no step"))
theorem elt_in {C' C c a : Addr} {m₃ : Str → Option Value} {ws : List Value} {x k : Nat} {B : List Bool} {t : Tok} (X : (Mine.hd.heap_39 w.params).In h₀) (T : Top p loose mean mg mb h₀) (F : Fr h₀ L h m)
    (hn : h.Ns C' m₃) (h1 : m₃ (Str.ofString "one") = some (.ref a)) (ha : h.IsList a ws.toArray) (hws : StrsAre ws (rows x B)) (hc : h.IsCell c (some (.int (k : Int) t))) (hk : k < B.length) (h6 : k < 6)
    (kk : ∀ t' tk', Q (.int (2 + bint (B.getD k false) - 2) t') ⟨h, g, d, tk', os⟩) :
    wpAny (model PR w) (AL fr gd) (eval eltIn (compEnvC scIn [(Str.ofString "k", c)] C' (envO L fa cd c C))) Q E ⟨h, g, d, tk, os⟩ := by
  have hfill : (fun (_ : OpenLaw) (_ : Params → Frag) => True) PySem.Challenge.rw_rl0021_01 Mine.hd.heap_39 := by
    k_fill
    trivial
  clear hfill
  conv in eltIn => whnf
  replace hn : h.Ns (compEnvC scIn [(Str.ofString "k", c)] C' (envO L fa cd c C)).locals m₃ := hn
  w_strict k_steps
  exact kk _ _
end
theorem strs_unique {ws : List Value} {ss ss' : List Str} (h : StrsAre ws ss) (h' : StrsAre ws ss') : ss = ss' := by
  induction h generalizing ss' with
  | nil => cases h'; rfl
  | cons y t _ ih =>
    cases h' with
    | cons _ _ h'' => rw [ih h'']
theorem rows_unique {x : Nat} : ∀ {B B' : List Bool}, rows x B = rows x B' → B = B'
  | [], [], _ => rfl
  | [], _ :: _, h => by cases h
  | _ :: _, [], h => by cases h
  | b :: B, b' :: B', h => by
    have h1 : rowOf x b = rowOf x b' := (List.cons.inj h).1
    have h2 : rows x B = rows x B' := (List.cons.inj h).2
    rw [rows_unique h2]
    have : (rowOf x b == rowOf x b') = true := by rw [h1]; exact beq_self_eq_true _
    rw [row_inj] at this
    rw [eq_of_beq this]
def Rel (x : Nat) (pgs : List (Addr × Obj)) (v : Value) (B : List Bool) : Prop := ∃ a ws n, v = .ref a ∧ (a, listOf (List.toArray ws) n) ∈ pgs ∧ StrsAre ws (rows x B)
theorem rel_unique {x : Nat} {pgs : List (Addr × Obj)} {v : Value} {B B' : List Bool} (N : News h₀ L h news) (hs : ∀ q ∈ pgs, q ∈ news) (r : Rel x pgs v B) (r' : Rel x pgs v B') : B = B' := by
  obtain ⟨a, ws, n, rfl, h1, h2⟩ := r
  obtain ⟨a', ws', n', e, h1', h2'⟩ := r'
  cases e
  have e1 := (N _ (hs _ h1)).1
  have e2 := (N _ (hs _ h1')).1
  dsimp only at e1 e2
  rw [e1] at e2
  have e3 : (List.toArray ws) = (List.toArray ws') := by
    have := Option.some.inj e2
    have := congrArg Obj.data this
    exact (Data.seq.inj this).1
  have e4 : ws = ws' := by simpa using e3
  subst e4
  exact rows_unique (strs_unique h2 h2')
theorem rel_ints {x : Nat} {pgs : List (Addr × Obj)} {f : List Bool → Int} {vs ys : List Value} {Bs : List (List Bool)} (S : Shelf x pgs vs Bs) (q : Paired (fun v y => ∀ B, Rel x pgs v B → ∃ t, y = .int (f B) t) vs ys) : IntsAre ys (Bs.map f) := by
  unfold Shelf at S
  induction S generalizing ys with
  | nil => cases q; exact .nil
  | cons r _ ih =>
    cases q with
    | cons q1 q2 =>
      obtain ⟨t, rfl⟩ := q1 _ r
      exact .cons _ _ (ih q2)
theorem Shelf.drop {x : Nat} {pgs : List (Addr × Obj)} {pv : List Value} {Bs : List (List Bool)} (S : Shelf x pgs pv Bs) : ∀ i, Shelf x pgs (pv.drop i) (Bs.drop i) := by
  unfold Shelf at S ⊢
  induction S with
  | nil => intro i; rw [List.drop_nil, List.drop_nil]; exact .nil
  | cons r r' ih =>
    intro i
    cases i with
    | zero => exact .cons r r'
    | succ i => exact ih i
section
variable {Q : Value → Shared → Prop}
local macro_rules | `(tactic| walk_at "eval Name") => `(tactic| (k_here; (with_reducible show wpAny _ _ (eval (Expr.Name (Str.ofString "pages") _) _) _ _ _); refine ldCellK rfl (by assumption) ?_ rfl kind_po))
local macro_rules | `(tactic| walk_at "subscriptTail Name Slice ref ref") => `(tactic| (k_here; k_dflt (refine' slice_page ?F ?N ?l ?p ?q ?e ?z ?_ ?s ?t; (case F => k_asm); (case N => k_asm); (case l => exact News.isList (by k_asm) (by assumption)); (case p => kmk_part); (case q => kmk_part); (case e => exact pick_from (by omega)); (case z => omega); (case s => with_unfolding_all rfl); (case t => kmk_pure)); intro D' h' F' N'; (try k_sweep)))
local macro_rules | `(tactic| k_steps) => `(tactic| repeat' (first | (k_unfold; (try dsimp only)) | ((with_reducible show wpAny _ _ (eval _ _) _ _ _); dsimp only; walk1) | ((with_reducible show wpAny _ _ (execs _ _) _ _ _); dsimp only; walk1) | walk1 | (dsimp only; walk1) | fail "no step"))
theorem iter_in {C c Pd : Addr} {pv : List Value} {np : Nat} (X : (Mine.hd.heap_39 w.params).In h₀) (F : Fr h₀ L h m) (N : News h₀ L h news) (hc : h.IsCell (L + 1 + 1) (some (.ref Pd))) (mP : (Pd, listOf (List.toArray pv) np) ∈ news) (hz : pv.length ≤ 20)
    (kk : ∀ h' tk' D, Fr h₀ L h' m → News h₀ L h' ((D, listOf (List.toArray (pv.drop 1)) 0) :: news) → Q (.ref D) ⟨h', g, d, tk', os⟩) :
    wpAny (model PR w) (AL fr gd) (eval iterIn (envO L fa cd c C)) Q E ⟨h, g, d, tk, os⟩ := by
  have hfill : (fun (_ : OpenLaw) (_ : Params → Frag) => True) PySem.Challenge.rw_rl0021_01 Mine.hd.heap_39 := by
    k_fill
    trivial
  clear hfill
  conv in iterIn => whnf
  w_strict k_steps
  exact kk _ _ _ (by assumption) (by assumption)
end
section
variable {Q : Value → Shared → Prop}
theorem comp_in {px pos : Pos} {C c Pd : Addr} {o2 oc : Obj} {pv : List Value} {np x k : Nat} {t : Tok} {pgs : List (Addr × Obj)} {Bs : List (List Bool)} (X : (Mine.hd.heap_39 w.params).In h₀) (T : Top p loose mean mg mb h₀) (F : Fr h₀ L h m) (N : News h₀ L h news)
    (m2 : (L + 1 + 1, o2) ∈ news) (hd2 : o2.data = .cell (some (.ref Pd))) (mP : (Pd, listOf (List.toArray pv) np) ∈ news) (S : Shelf x pgs pv Bs) (hs : ∀ q ∈ pgs, q ∈ news) (mc : (c, oc) ∈ news) (hoc : oc.data = .cell (some (.int (k : Int) t)))
    (hBs : ∀ B ∈ Bs, k < B.length) (hz : pv.length ≤ 20) (h6 : k < 6)
    (kk : ∀ h' tk' D ys ny, Fr h₀ L h' m → News h₀ L h' ((D, listOf (List.toArray ys) ny) :: news) → IntsAre ys ((Bs.drop 1).map fun B => 2 + bint (B.getD k false) - 2) → Q (.ref D) ⟨h', g, d, tk', os⟩) :
    wpAny (model PR w) (AL fr gd) (eval (.ListComp eltIn [⟨.Name (Str.ofString "one") px, iterIn, [], 0⟩] scIn pos) (envO L fa cd c C)) Q E ⟨h, g, d, tk, os⟩ := by
  have it := fun (Q' : Value → Shared → Prop) kk => iter_in (Q := Q') (E := E) (fa := fa) (cd := cd) (C := C) (c := c) (g := g) (d := d) (os := os) (tk := tk) (fr := fr) (gd := gd) X F N ⟨_, (N _ m2).1, hd2⟩ mP hz kk
  have fs : ∀ x, foldedSetIterable iterIn (envO L fa cd c C) x = pure x := fun _ => rfl
  have el := fun (Q' : Value → Shared → Prop) (E' : Value → Shared → Prop) (h' : Heap) (g' : Array GenState) (d' : Drawn) (tk' : Nat) (os' : OsState) (C' a : Addr) (m₃ : Str → Option Value) (ws : List Value) (B : List Bool) a1 a2 a3 a4 a5 a6 a7 a8 => elt_in (Q := Q') (E := E') (h := h') (tk := tk') (C' := C') (a := a) (m₃ := m₃) (ws := ws) (B := B) (x := x) (k := k) (t := t) (C := C) (c := c) (g := g') (d := d') (os := os') (fr := fr) (gd := gd) (fa := fa) (cd := cd) (L := L) (m := m) X T a1 a2 a3 a4 a5 a6 a7 h6 a8
  generalize iterIn = it9 at it fs
  generalize eltIn = el9 at el
  refine comp_free (fun v y => ∀ B, Rel x pgs v B → ∃ t, y = .int (2 + bint (B.getD k false) - 2) t) rfl clos_in (by decide) rfl (by decide) rfl (it _ fun h₁ tk₁ D F₁ N₁ => ?_) fs
  refine ⟨D, pv.drop 1, rfl, News.isList N₁ (.head _), by rw [List.length_drop]; omega, fun C' i v s₃ m₃ E' hv hn hx hg => ?_, fun D' ys ny h' tk' gr hD hf pp => ?_⟩
  · obtain ⟨B, a, ws, n', e1, rfl, e3, e4⟩ := (S.drop 1).get hv
    have hB : B ∈ Bs := List.mem_of_mem_drop (List.mem_of_getElem? e1)
    have N₃ := hg.news N₁
    obtain ⟨h₃, g₃, d₃, tk₃, os₃⟩ := s₃
    refine el _ E' h₃ g₃ d₃ tk₃ os₃ C' a m₃ ws B (hg.fr F₁) hn hx (News.isList N₃ (.tail _ (hs _ e3))) e4 ⟨oc, (N₃ _ (.tail _ mc)).1, hoc⟩ (hBs B hB) fun t' tk' => ⟨fun B' r => ⟨t', ?_⟩, h₃, tk', rfl, fun _ _ z => z⟩
    rw [rel_unique N₃ (fun q hq => .tail _ (hs q hq)) r ⟨a, ws, n', rfl, e3, e4⟩]
  · exact kk _ _ _ _ _ (gr.fr F₁) (News.part (gr.add F₁ N₁ hD hf) (all_cons (.head _) fun q hq => .tail _ (.tail _ hq))) (rel_ints (S.drop 1) pp)
end
end
end Mine
end
section
open PySem PySem.W PyProof.Rows PySem.Calls PySem.Spec
set_option maxRecDepth 100000
set_option maxHeartbeats 0
namespace Mine
theorem elt9_is : ∃ pn px pos pc, elt9 = .Call (.Name (Str.ofString "sum") pn) [.ListComp eltIn [⟨.Name (Str.ofString "one") px, iterIn, [], 0⟩] scIn pos] [] pc := ⟨_, _, _, _, rfl⟩
theorem times_sum (k : Nat) : ∀ Bs : List (List Bool), (Bs.map fun B => 2 + bint (B.getD k false) - 2).sum = ((times Bs k : Nat) : Int)
  | [] => rfl
  | B :: Bs => by
    have ih := times_sum k Bs
    rw [List.map_cons, List.sum_cons, ih]
    unfold times
    cases hb : B.getD k false with
    | true => rw [List.countP_cons_of_pos (by simpa using hb)]; show (2 + 1 - 2 : Int) + _ = _; omega
    | false => rw [List.countP_cons_of_neg (by simpa using hb)]; show (2 + 0 - 2 : Int) + _ = _; omega
theorem ints_of {ys : List Value} {n : Nat} {f : Nat → Int} (hl : ys.length = n) (h : ∀ (i : Nat) (v : Value), ys[i]? = some v → ∃ t, v = Value.int (f i) t) : IntsAre ys ((List.range n).map f) := by
  induction n generalizing ys with
  | zero =>
    rw [List.length_eq_zero_iff.mp hl]
    exact .nil
  | succ n ih =>
    rcases List.eq_nil_or_concat ys with rfl | ⟨zs, z, rfl⟩
    · cases hl
    · rw [List.concat_eq_append] at hl h ⊢
      have hz : zs.length = n := by simpa using hl
      rw [List.range_succ, List.map_append]
      refine (ih hz fun i v e => h i v ?_).append ?_
      · rw [List.getElem?_append_left (List.getElem?_eq_some_iff.mp e).1]; exact e
      · obtain ⟨t, rfl⟩ := h n z (by rw [← hz, List.getElem?_append_right (Nat.le_refl _)]; simp)
        exact .cons _ _ .nil
section
variable {w : World} {fr : Option (List Env)} {gd : Option (List Code)} {g : Array GenState} {d : Drawn} {os : OsState} {tk : Nat} {p : Program} {loose : List Str} {mean : ExcName → Option Value} {mg mb : Str → Option Value} {E : Value → Shared → Prop} {h₀ h : Heap} {L fa sl : Addr} {cd : Value} {m : Str → Option Value} {news : List (Addr × Obj)} {vs : List Value} {ns : List Int} {n : Nat} {t : Tok}
section
variable {Q : Value → Shared → Prop}
local macro_rules | `(tactic| walk_at "PAD") => `(tactic| fail "pad")
local macro_rules | `(tactic| walk_at "eval ListComp") => `(tactic| (k_here; (refine comp_in (by k_asm) (by k_asm) (by k_asm) (by k_asm) (by assumption) (by assumption) (by assumption) (by assumption) (by assumption) (by assumption) (by assumption) (by assumption) (by assumption) (by assumption) ?_); intro h' tk' D' ys' ny' F' N' hI'; (try k_sweep)))
local macro_rules | `(tactic| walk_at "call builtin:sum") => `(tactic| (k_here; k_dflt (refine' sum_at ?F ?N rfl ?l ?i ?_; (case F => k_asm); (case N => k_asm); (case l => exact News.isList (by k_asm) (List.Mem.head _)); (case i => assumption)); intro h' tk' t' F' N'; (try k_sweep)))
local macro_rules | `(tactic| k_steps) => `(tactic| repeat' (first | (k_unfold; (try dsimp only)) | ((with_reducible show wpAny _ _ (eval _ _) _ _ _); dsimp only; walk1) | ((with_reducible show wpAny _ _ (execs _ _) _ _ _); dsimp only; walk1) | walk1 | (dsimp only; walk1) | fail "no step"))
theorem elt_out {C c Pd : Addr} {o2 oc : Obj} {pv : List Value} {np x k : Nat} {t : Tok} {pgs : List (Addr × Obj)} {Bs : List (List Bool)} (X : (Mine.hd.heap_39 w.params).In h₀) (T : Top p loose mean mg mb h₀) (F : Fr h₀ L h m) (N : News h₀ L h news)
    (m2 : (L + 1 + 1, o2) ∈ news) (hd2 : o2.data = .cell (some (.ref Pd))) (mP : (Pd, listOf (List.toArray pv) np) ∈ news) (S : Shelf x pgs pv Bs) (hs : ∀ q ∈ pgs, q ∈ news) (mc : (c, oc) ∈ news) (hoc : oc.data = .cell (some (.int (k : Int) t)))
    (hBs : ∀ B ∈ Bs, k < B.length) (hz : pv.length ≤ 20) (h6 : k < 6)
    (kk : ∀ h' tk' t', Fr h₀ L h' m → News h₀ L h' news → Q (.int ((times (Bs.drop 1) k : Nat) : Int) t') ⟨h', g, d, tk', os⟩) :
    wpAny (model PR w) (AL fr gd) (eval elt9 (envO L fa cd c C)) Q E ⟨h, g, d, tk, os⟩ := by
  have hfill : (fun (_ : OpenLaw) (_ : Params → Frag) => True) PySem.Challenge.rw_rl0021_01 Mine.hd.heap_39 := by
    k_fill
    trivial
  clear hfill
  obtain ⟨pn, px, pos, pc, e⟩ := elt9_is
  rw [e]
  w_strict k_steps
  rw [times_sum]
  exact kk _ _ _ (by assumption) (News.part (by assumption) fun q hq => .tail _ hq)
end
section
variable {Q : Value → Shared → Prop}
local macro_rules | `(tactic| walk_at "eval Name") => `(tactic| (k_here; k_dflt (refine' nameX_L ?F ?v ?_ ?a ?b; (case F => k_asm); (case a => rfl); (case b => rfl); (case v => assumption))))
local macro_rules | `(tactic| walk_at "call type:range") => `(tactic| (k_here; k_dflt (refine range_at (by k_asm) (by k_asm) ?_); intro h' r' tk' t1' u1' v1' hR' F' N'; (try k_sweep)))
local macro_rules | `(tactic| k_steps) => `(tactic| repeat' (first | (k_unfold; (try dsimp only)) | ((with_reducible show wpAny _ _ (eval _ _) _ _ _); dsimp only; walk1) | ((with_reducible show wpAny _ _ (execs _ _) _ _ _); dsimp only; walk1) | walk1 | (dsimp only; walk1) | fail "no step"))
theorem range9 (X : (Mine.hd.heap_39 w.params).In h₀) (T : Top p loose mean mg mb h₀) (F : Fr h₀ L h m) (N : News h₀ L h news) (hz : m (Str.ofString "size") = some (.int (n : Int) t))
    (k : ∀ h' r tk' t₁ u₁ v₁, IsRange h' r 0 (n : Int) 1 t₁ u₁ v₁ → Fr h₀ L h' m → News h₀ L h' news → Q (.ref r) ⟨h', g, d, tk', os⟩) :
    wpAny (model PR w) (AL fr gd) (eval iter9 (envL L fa cd)) Q E ⟨h, g, d, tk, os⟩ := by
  have hfill : (fun (_ : OpenLaw) (_ : Params → Frag) => True) PySem.Challenge.rw_rl0021_01 Mine.hd.heap_39 := by
    k_fill
    trivial
  clear hfill
  conv in iter9 => whnf
  unfold envL
  conv in lawScope => whnf
  w_strict k_steps
  exact k _ _ _ _ _ _ (by assumption) (by assumption) (by assumption)
end
variable {Q : Flow → Shared → Prop}
theorem seg9 {Pd : Addr} {o2 : Obj} {pv : List Value} {np x : Nat} {pgs : List (Addr × Obj)} {Bs : List (List Bool)} (X : (Mine.hd.heap_39 w.params).In h₀) (T : Top p loose mean mg mb h₀) (F : Fr h₀ L h m) (N : News h₀ L h news)
    (m2 : (L + 1 + 1, o2) ∈ news) (hd2 : o2.data = .cell (some (.ref Pd))) (mP : (Pd, listOf (List.toArray pv) np) ∈ news) (S : Shelf x pgs pv Bs) (hs : ∀ q ∈ pgs, q ∈ news)
    (hz : m (Str.ofString "size") = some (.int (n : Int) t)) (hn : n ≤ 6) (hBs : ∀ B ∈ Bs, B.length = n) (hpv : pv.length ≤ 20)
    (kk : ∀ h' tk' D ys, Fr h₀ L h' (fun z => if z = Str.ofString "inside" then some (.ref D) else m z) → News h₀ L h' ((D, listOf (List.toArray ys) (List.length ys)) :: news) → IntsAre ys ((List.range n).map fun i => ((times (Bs.drop 1) i : Nat) : Int)) → Q .next ⟨h', g, d, tk', os⟩) :
    wpAny (model PR w) (AL fr gd) (exec (stm 9) (envL L fa cd)) Q E ⟨h, g, d, tk, os⟩ := by
  obtain ⟨py, px, pos, spos, e9, hsw⟩ := stm9_is (L := L) (fa := fa) (cd := cd)
  rw [e9]
  have it := fun (Q' : Value → Shared → Prop) kk => range9 (Q := Q') (E := E) (fa := fa) (cd := cd) (g := g) (d := d) (os := os) (tk := tk) (fr := fr) (gd := gd) X T F N hz kk
  have fs : ∀ x, foldedSetIterable iter9 (envL L fa cd) x = pure x := fun _ => rfl
  have el := fun (Q' : Value → Shared → Prop) (E' : Value → Shared → Prop) (h' : Heap) (tk' : Nat) (C c : Addr) (oc : Obj) (k : Nat) (t : Tok) (all : List (Addr × Obj)) a1 a2 a3 a4 a5 a6 a7 a8 a9 a10 a11 => elt_out (Q := Q') (E := E') (h := h') (tk := tk') (C := C) (c := c) (oc := oc) (k := k) (t := t) (news := all) (g := g) (d := d) (os := os) (fr := fr) (gd := gd) (fa := fa) (cd := cd) (L := L) (m := m) (x := x) (pgs := pgs) (Bs := Bs) (pv := pv) (np := np) (o2 := o2) (Pd := Pd) X T a1 a2 a3 hd2 a4 S a5 a6 a7 a8 a9 a10 a11
  generalize iter9 = it9 at it fs hsw ⊢
  generalize elt9 = el9 at el hsw ⊢
  refine comp_cellA (env := envL L fa cd) (h₀ := h₀) (m := m) (V := fun i v => ∃ t, v = .int ((times (Bs.drop 1) i : Nat) : Int) t) rfl hsw clos_out rfl rfl (it _ fun h₁ r tk₁ t₁ u₁ v₁ hr F₁ N₁ => ?_) fs
  refine ⟨r, t₁, u₁, v₁, n, news, rfl, hr, by omega, F₁, N₁, fun Q' E' i C c oc t h' tk' all b1 b2 b3 b4 b5 b6 b7 => ?_, fun D ys h' tk' F' N' hyl hV => ?_⟩
  · exact el Q' E' h' tk' C c oc i t all b3 b4 (b6 _ m2) (b6 _ mP) (fun q hq => b6 q (hs q hq)) b5 b2 (fun B hB => by rw [hBs B hB]; exact b1) hpv (by omega) fun h'' tk'' t'' F'' N'' => b7 _ _ _ ⟨_, rfl⟩ F'' N''
  · exact kk h' tk' D ys F' N' (ints_of hyl hV)
end
end Mine
end
section
open PySem PySem.W PyProof.Rows PySem.Calls PySem.Spec
set_option maxRecDepth 100000
set_option maxHeartbeats 0
namespace Mine
abbrev tupOf (vs : Array Value) : Obj := { cls := .type "tuple", data := .seq vs }
section
variable {prog : Program} {w : World} {A : Around} {E : Value → Shared → Prop} {h₀ h : Heap} {L a : Addr} {m : Str → Option Value} {news : List (Addr × Obj)} {g : Array GenState} {d : Drawn} {os : OsState} {tk : Nat} {Q : Value → Shared → Prop}
theorem item_menu {value slice : PySem.Expr} {T T1 T2 T3 : Addr} {a1 a2 b1 b2 b3 c1 c2 c3 u : Tok} {n R : Nat} (N : News h₀ L h news) (hm : (T, tupOf #[.ref T1, .ref T2, .ref T3]) ∈ news)
    (m1 : (T1, tupOf #[.int 3 a1, .int 5 a2]) ∈ news) (m2 : (T2, tupOf #[.int 2 b1, .int 3 b2, .int 8 b3]) ∈ news) (m3 : (T3, tupOf #[.int 3 c1, .int 7 c2, .int 11 c3]) ∈ news) (h6 : Six n) (hR : R ∈ menu n)
    (k : ∀ Ti vs ns, (Ti, tupOf (List.toArray vs)) ∈ news → IntsAre vs ns → (ns.any (· == (R : Int))) = true → Q (.ref Ti) ⟨h, g, d, tk, os⟩)
    (hs : subscripted slice false (.ref T) (.int ((n : Int) - 4) u) = operate [.ref T, .int ((n : Int) - 4) u] (getItem (.ref T) (.int ((n : Int) - 4) u)) := by with_unfolding_all rfl) :
    wpAny (model prog w) A (subscriptTail value slice (.ref T) (.int ((n : Int) - 4) u)) Q E ⟨h, g, d, tk, os⟩ := by
  have hT : IsTup h T [Value.ref T1, Value.ref T2, Value.ref T3].toArray := News.isTup N hm
  rcases h6 with rfl | rfl | rfl
  · refine item_tupleT hT (by decide) (by decide) (j := 0) rfl rfl (k T1 [.int 3 a1, .int 5 a2] [3, 5] m1 (.cons _ _ (.cons _ _ .nil)) ?_) hs
    rcases List.mem_cons.mp hR with rfl | hR
    · rfl
    · rw [List.mem_singleton.mp hR]; rfl
  · refine item_tupleT hT (by decide) (by decide) (j := 1) rfl rfl (k T2 [.int 2 b1, .int 3 b2, .int 8 b3] [2, 3, 8] m2 (.cons _ _ (.cons _ _ (.cons _ _ .nil))) ?_) hs
    rcases List.mem_cons.mp hR with rfl | hR
    · rfl
    rcases List.mem_cons.mp hR with rfl | hR
    · rfl
    · rw [List.mem_singleton.mp hR]; rfl
  · refine item_tupleT hT (by decide) (by decide) (j := 2) rfl rfl (k T3 [.int 3 c1, .int 7 c2, .int 11 c3] [3, 7, 11] m3 (.cons _ _ (.cons _ _ (.cons _ _ .nil))) ?_) hs
    rcases List.mem_cons.mp hR with rfl | hR
    · rfl
    rcases List.mem_cons.mp hR with rfl | hR
    · rfl
    · rw [List.mem_singleton.mp hR]; rfl
theorem notin_menu {T : Addr} {vs : List Value} {ns : List Int} {x : Int} {u : Tok} (N : News h₀ L h news) (hm : (T, tupOf (List.toArray vs)) ∈ news) (hi : IntsAre vs ns) (hx : (ns.any (· == x)) = true) (k : Q (.bool false) ⟨h, g, d, tk, os⟩) :
    wpAny (model prog w) A (compareOp .NotIn (.int x u) (.ref T)) Q E ⟨h, g, d, tk, os⟩ := by
  refine notin_tuple_ints (News.isTup N hm) hi ?_
  rw [hx]
  exact k
theorem rev_at {value slice : PySem.Expr} {l : Addr} {vs : List Value} {ns : List Int} {vk : Value} {ops : List Value} (F : Fr h₀ L h m) (N : News h₀ L h news) (hl : h.IsList l vs.toArray) (pk : IsPart vk (some (-1))) (hi : IntsAre vs ns) (hz : vs.length ≤ 100)
    (k : ∀ D ws h', Fr h₀ L h' m → News h₀ L h' ((D, listOf (List.toArray ws) 0) :: news) → IntsAre ws ns.reverse → Q (.ref D) ⟨h', g, d, tk, os⟩)
    (hs : subscripted slice false (.ref l) (.ref h.objs.size) = operate ops (getItem (.ref l) (.ref h.objs.size))) (ht : ∀ r, letTemporaryGo value (.ref l) r = pure ()) :
    wpAny (model prog w) A (subscriptTail value slice (.ref l) (.ref h.objs.size)) Q E ⟨h.push { cls := .type "slice", data := .fields #[.none, .none, vk] }, g, d, tk, os⟩ :=
  krv_ints (s := ⟨h, g, d, tk, os⟩) F N hl pk hi (fun D ws h' F' N' _ hI _ => k D ws h' F' N' hI) hs ht (by rw [List.size_toArray, sizeLine_eq]; omega)
theorem ne_same {l1 l2 : Addr} {vs ws : List Value} {ns ms : List Int} (hl : h.IsList l1 vs.toArray) (hr : h.IsList l2 ws.toArray) (hi : IntsAre vs ns) (hj : IntsAre ws ms) (e : ms = ns) (hu : A.units + 64 < cLine)
    (k : Q (.bool false) ⟨h, g, d, tk, os⟩) : wpAny (model prog w) A (compareOp .NotEq (.ref l1) (.ref l2)) Q E ⟨h, g, d, tk, os⟩ := by
  refine ke_ne_ints hl hr hi hj hu ?_
  rw [e, decide_eq_true rfl]
  exact k
theorem item_first {value slice : PySem.Expr} {l : Addr} {vs : List Value} {ns : List Int} {t : Tok} (hl : h.IsList l vs.toArray) (hi : IntsAre vs ns) (hk : 0 < ns.length)
    (k : ∀ t', Q (.int (ns.getD 0 0) t') ⟨h, g, d, tk, os⟩) (hs : subscripted slice false (.ref l) (.int 0 t) = operate [.ref l, .int 0 t] (getItem (.ref l) (.int 0 t))) :
    wpAny (model prog w) A (subscriptTail value slice (.ref l) (.int 0 t)) Q E ⟨h, g, d, tk, os⟩ := item_int (i := 0) hl hi hk (by omega) k hs
theorem item_second {value slice : PySem.Expr} {l : Addr} {vs : List Value} {ns : List Int} {t : Tok} (hl : h.IsList l vs.toArray) (hi : IntsAre vs ns) (hk : 1 < ns.length)
    (k : ∀ t', Q (.int (ns.getD 1 0) t') ⟨h, g, d, tk, os⟩) (hs : subscripted slice false (.ref l) (.int 1 t) = operate [.ref l, .int 1 t] (getItem (.ref l) (.int 1 t))) :
    wpAny (model prog w) A (subscriptTail value slice (.ref l) (.int 1 t)) Q E ⟨h, g, d, tk, os⟩ := item_int (i := 1) hl hi hk (by omega) k hs
theorem eq_shelves {P U : Addr} {pv uv : List Value} {np nu x : Nat} {pgs : List (Addr × Obj)} {Bs : List (List Bool)} (N : News h₀ L h news) (mP : (P, listOf (List.toArray pv) np) ∈ news) (mU : (U, listOf (List.toArray uv) nu) ∈ news)
    (hx : 97 ≤ x ∧ x < 123) (S : Shelf x pgs pv Bs) (S' : Shelf x pgs uv Bs) (hs : ∀ q ∈ pgs, q ∈ news) (hu : A.units + 64 < cLine) (k : Q (.bool true) ⟨h, g, d, tk, os⟩) :
    wpAny (model prog w) A (compareOp .Eq (.ref P) (.ref U)) Q E ⟨h, g, d, tk, os⟩ := by
  obtain ⟨as, R⟩ := S.reads N hs
  obtain ⟨bs, R'⟩ := S'.reads N hs
  refine eq_dataH (reads_list_at (N _ mP).1 rfl rfl R) (reads_list_at (N _ mU).1 rfl rfl R') (shaped_shelf hx Bs) (shaped_shelf hx Bs) hu ?_
  rw [SeqAt.eqv_refl _ (SeqAt.canLay_of_shaped (shaped_shelf hx Bs))]
  exact k
end
section
variable {w : World} {fr : Option (List Env)} {gd : Option (List Code)} {g : Array GenState} {d : Drawn} {os : OsState} {tk : Nat} {p : Program} {loose : List Str} {mean : ExcName → Option Value} {mg mb : Str → Option Value} {E : Value → Shared → Prop} {h₀ h : Heap} {L fa sl : Addr} {cd : Value} {m : Str → Option Value} {news : List (Addr × Obj)} {vs : List Value} {ns : List Int} {n : Nat} {t : Tok} {Q : Flow → Shared → Prop}
local macro_rules | `(tactic| walk_at "MEM") => `(tactic| first | assumption | exact List.Mem.head _ | (refine List.mem_cons_of_mem _ ?_; walk_at "MEM"))
local macro_rules | `(tactic| walk_at "eval Name") => `(tactic| (k_here; k_dflt (first | (refine' nameX_L ?F ?v ?_ ?a ?b; (case F => k_asm); (case a => rfl); (case b => rfl); (case v => assumption)) | (refine' nameX_C ?N ?c ?m ?d ?_ ?a ?b; (case a => rfl); (case b => rfl); (case N => k_asm); (case c => rfl); (case m => assumption); (case d => assumption)))))
local macro_rules | `(tactic| walk_at "call builtin:len") => `(tactic| (k_here; k_dflt (refine len_at (News.isList (by k_asm) (by assumption)) (by assumption) (by omega) ?_); intro t' tk'))
local macro_rules | `(tactic| walk_at "subscriptTail") => `(tactic| (k_here; k_dflt (refine item_menu (by k_asm) (by k_mem) (by k_mem) (by k_mem) (by k_mem) (by assumption) (by assumption) ?_); intro Ti' vs' ns' hm' hi' hr'))
local macro_rules | `(tactic| walk_at "compareOp NotIn int ref") => `(tactic| (k_here; k_dflt (refine notin_menu (by k_asm) (by assumption) (by assumption) (by assumption) ?_)))
local macro_rules | `(tactic| walk_at "subscriptTail Name Slice ref ref") => `(tactic| (k_here; k_dflt (refine' rev_at ?F ?N ?l ?k ?i ?z ?_ ?s ?t; (case F => k_asm); (case N => k_asm); (case l => exact News.isList (by k_asm) (by walk_at "MEM")); (case k => exact IsPart.int _ _); (case i => assumption); (case z => omega); (case s => with_unfolding_all rfl); (case t => kmk_pure)); intro D' ws' h' F' N' hI'; (try k_sweep)))
local macro_rules | `(tactic| walk_at "compareOp NotEq ref ref") => `(tactic| (k_here; k_dflt (refine ne_same (News.isList (by k_asm) (by walk_at "MEM")) (News.isList (by k_asm) (by walk_at "MEM")) (by assumption) (by assumption) (by assumption) ?u ?_; (case u => k_units))))
local macro_rules | `(tactic| walk_at "subscriptTail Name Constant ref int") => `(tactic| (k_here; (first | ((with_reducible show wpAny _ _ (subscriptTail _ _ (Value.ref _) (Value.int 0 _)) _ _ _); k_dflt (refine item_first (News.isList (by k_asm) (by assumption)) (by assumption) (by omega) ?_ (by with_unfolding_all rfl))) | ((with_reducible show wpAny _ _ (subscriptTail _ _ (Value.ref _) (Value.int 1 _)) _ _ _); k_dflt (refine item_second (News.isList (by k_asm) (by assumption)) (by assumption) (by omega) ?_ (by with_unfolding_all rfl)))); intro t'))
local macro_rules | `(tactic| walk_at "compareOp Eq ref ref") => `(tactic| (k_here; k_dflt (refine eq_shelves (by k_asm) (by assumption) (by assumption) (by assumption) (by assumption) (by assumption) (by assumption) ?u ?_; (case u => k_units))))
local macro_rules | `(tactic| walk_at "compareOp Eq int int") => `(tactic| (k_here; refine eq_yes (by assumption) ?_))
local macro_rules | `(tactic| k_steps) => `(tactic| repeat' (first | (k_unfold; (try dsimp only)) | ((with_reducible show wpAny _ _ (eval _ _) _ _ _); dsimp only; walk1) | ((with_reducible show wpAny _ _ (execs _ _) _ _ _); dsimp only; walk1) | walk1 | (dsimp only; walk1) | fail "no step"))
theorem seg8 {Pd : Addr} {o2 : Obj} {pv : List Value} {np r' : Nat} (X : (Mine.hd.heap_39 w.params).In h₀) (T : Top p loose mean mg mb h₀) (F : Fr h₀ L h m) (N : News h₀ L h news)
    (m2 : (L + 1 + 1, o2) ∈ news) (hd2 : o2.data = .cell (some (.ref Pd))) (mP : (Pd, listOf pv.toArray np) ∈ news) (hpv : pv.length = r') (hr : r' ≤ 20)
    (k : ∀ h' tk' t', Fr h₀ L h' (fun y => if y = Str.ofString "rounds" then some (.int ((r' : Int) - 1) t') else m y) → News h₀ L h' news → Q .next ⟨h', g, d, tk', os⟩) :
    wpAny (model PR w) (AL fr gd) (exec (stm 8) (envL L fa cd)) Q E ⟨h, g, d, tk, os⟩ := by
  have hfill : (fun (_ : OpenLaw) (_ : Params → Frag) => True) PySem.Challenge.rw_rl0021_01 Mine.hd.heap_39 := by
    k_fill
    trivial
  clear hfill
  conv in stm 8 => whnf
  unfold envL
  conv in lawScope => whnf
  w_strict k_steps
  exact k _ _ _ (by assumption) (by assumption)
theorem seg10 {D : Addr} {ys : List Value} {ny R : Nat} {t1 t2 : Tok} (X : (Mine.hd.heap_39 w.params).In h₀) (T : Top p loose mean mg mb h₀) (F : Fr h₀ L h m) (N : News h₀ L h news)
    (hr : m (Str.ofString "rounds") = some (.int (R : Int) t1)) (hz : m (Str.ofString "size") = some (.int (n : Int) t2)) (hi : m (Str.ofString "inside") = some (.ref D)) (mD : (D, listOf ys.toArray ny) ∈ news)
    (h6 : Six n) (hR : R ∈ menu n) (hI : IntsAre ys ns) (hrev : ns.reverse = ns) (hl : ys.length ≤ 20)
    (k : ∀ h' tk', Fr h₀ L h' m → News h₀ L h' news → Q .next ⟨h', g, d, tk', os⟩) :
    wpAny (model PR w) (AL fr gd) (exec (stm 10) (envL L fa cd)) Q E ⟨h, g, d, tk, os⟩ := by
  have hfill : (fun (_ : OpenLaw) (_ : Params → Frag) => True) PySem.Challenge.rw_rl0021_01 Mine.hd.heap_39 := by
    k_fill
    trivial
  clear hfill
  conv in stm 10 => whnf
  unfold envL
  conv in lawScope => whnf
  w_strict k_steps
  exact k _ _ (by assumption) (News.part (by assumption) fun q hq => by repeat (first | exact hq | apply List.Mem.tail))
theorem seg11 {D Pd Ud : Addr} {o2 : Obj} {ys pv uv : List Value} {ny np nu R x : Nat} {t1 t2 : Tok} {pgs : List (Addr × Obj)} {Bs : List (List Bool)} (X : (Mine.hd.heap_39 w.params).In h₀) (T : Top p loose mean mg mb h₀) (F : Fr h₀ L h m) (N : News h₀ L h news)
    (hr : m (Str.ofString "rounds") = some (.int (R : Int) t1)) (hi : m (Str.ofString "inside") = some (.ref D)) (hu : m (Str.ofString "dues") = some (.ref Ud)) (mD : (D, listOf ys.toArray ny) ∈ news)
    (hI : IntsAre ys ns) (hl : 4 ≤ ns.length) (hsum : 2 * ns.getD 0 0 + ns.getD 1 0 = (R : Int)) (m2 : (L + 1 + 1, o2) ∈ news) (hd2 : o2.data = .cell (some (.ref Pd)))
    (mP : (Pd, listOf (List.toArray pv) np) ∈ news) (mU : (Ud, listOf (List.toArray uv) nu) ∈ news) (hx : 97 ≤ x ∧ x < 123) (S : Shelf x pgs pv Bs) (S' : Shelf x pgs uv Bs) (hs : ∀ q ∈ pgs, q ∈ news)
    (k : ∀ h' tk', Fr h₀ L h' m → News h₀ L h' news → Q (.ret (.bool true)) ⟨h', g, d, tk', os⟩) :
    wpAny (model PR w) (AL fr gd) (exec (stm 11) (envL L fa cd)) Q E ⟨h, g, d, tk, os⟩ := by
  have hfill : (fun (_ : OpenLaw) (_ : Params → Frag) => True) PySem.Challenge.rw_rl0021_01 Mine.hd.heap_39 := by
    k_fill
    trivial
  clear hfill
  conv in stm 11 => whnf
  unfold envL
  conv in lawScope => whnf
  w_strict k_steps
  exact k _ _ F N
end
end Mine
end
section
open PySem PySem.W PyProof.Rows PySem.Calls PySem.Spec
set_option maxRecDepth 100000
set_option maxHeartbeats 0
namespace Mine
theorem all_drop (o : List Nat) (B : List Bool) (r : Nat) : (all o B r).drop 1 = seen o B r := by
  unfold all seen
  rw [List.range_succ_eq_map, List.map_cons, List.drop_succ_cons, List.drop_zero, List.map_map]
  rfl
theorem mirror {n : Nat} {f : Nat → Int} (h : ∀ k, k < n → f k = f (n - 1 - k)) : ((List.range n).map f).reverse = (List.range n).map f := by
  refine List.ext_getElem (by simp) fun i h1 h2 => ?_
  have hi : i < n := by simpa using h2
  rw [List.getElem_reverse, List.getElem_map, List.getElem_map, List.getElem_range, List.getElem_range, List.length_map, List.length_range]
  exact (h i hi).symm
theorem at_first {n : Nat} {f : Nat → Int} {i : Nat} (h : i < n) : ((List.range n).map f).getD i 0 = f i := by
  rw [List.getD_eq_getElem?_getD, List.getElem?_map, List.getElem?_range h]
  rfl
theorem all_each {o : List Nat} {B : List Bool} {r n : Nat} (ho : ∀ k ∈ o, k < n) (hB : B.length = n) : ∀ C ∈ all o B r, C.length = n := by
  intro C hC
  unfold all at hC
  obtain ⟨j, _, rfl⟩ := List.mem_map.mp hC
  exact iter_len ho hB j
theorem weakenL {α : Type} {M : Model} {A : Around} {t : Sem α} {Q : α → Shared → Prop} {E : Value → Shared → Prop} {s : Shared} (hh : A.handled = none) (hd : A.depth ≤ 350) (hu : A.units ≤ 20)
    (h : wpAny M (AL A.frames A.guards) t Q E s) : wpAny M A t Q E s := fun Γ p hΓ =>
  h Γ p ⟨hΓ.1.trans hh, Nat.le_trans hΓ.2.1 hd, hΓ.2.2.1, hΓ.2.2.2.1, Nat.le_trans hΓ.2.2.2.2 hu⟩
section
variable {w : World} {fr : Option (List Env)} {gd : Option (List Code)} {g : Array GenState} {d : Drawn} {os : OsState} {tk : Nat} {p : Program} {loose : List Str} {mean : ExcName → Option Value} {mg mb : Str → Option Value} {E : Value → Shared → Prop} {h₀ h : Heap} {L fa sl : Addr} {cd : Value} {m : Str → Option Value} {news : List (Addr × Obj)} {vs : List Value} {ns : List Int} {Q : Flow → Shared → Prop}
theorem law_body {o1 o2 : Obj} {v1 v2 : Option Value} (X : (Mine.hd.heap_39 w.params).In h₀) (T : Top p loose mean mg mb h₀) (F : Fr h₀ L h m) (N : News h₀ L h [(L + 1 + 1, o2), (L + 1, o1)])
    (hs : m (Str.ofString "script") = some (.ref sl)) (hL : h₀.IsList sl vs.toArray) (hI : IntsAre vs ns) (hn : ns.length ≤ 63) (hd1 : o1.data = .cell v1) (hd2 : o2.data = .cell v2)
    (k : ∀ h' tk' m' news', Fr h₀ L h' m' → News h₀ L h' news' → Q (.ret (.bool true)) ⟨h', g, d, tk', os⟩) :
    wpAny (model PR w) (AL fr gd) (execs lawBody (envL L fa cd)) Q NoE ⟨h, g, d, tk, os⟩ := by
  have hv : vs.length ≤ 63 := by rw [IntsAre.length hI]; exact hn
  have h6 := size_six ns.length
  generalize hz : sizeN ns.length = n at h6
  rw [body_is]
  refine wpAny_execs_cons (seg0 X T F N hs hL hI hn fun hA tkA tA FA NA => ?_)
  rw [hz] at FA
  refine wpAny_execs_cons (seg1 (n := n) (t := tA) X T FA NA ((if_neg (by decide)).trans hs) hL hI hn hv (if_pos rfl) h6 fun hB tkB D ws wI FB NB => ?_)
  generalize hnu : (ns ++ [1, 2, 4, 3, 6, 9].drop ns.length).take n = nu at wI
  have hnl : nu.length = n := by
    have := nums_len ns
    unfold numsOf at this
    rw [hz, hnu] at this
    exact this
  refine wpAny_execs_cons (seg2 X T FB (News.part NB (all_cons (by k_mem) (all_cons (by k_mem) (all_cons (by k_mem) all_nil)))) (if_pos rfl) wI hd1 fun hC tkC t1 te x e o1' hx he FC NC hd1' => ?_)
  refine wpAny_execs_cons (seg3 X T FC (News.part NC (all_cons (by k_mem) (all_cons (by k_mem) (all_cons (by k_mem) all_nil)))) fun hD tkD Bd Od m3 e1 e2 e3 FD ND n1 n2 n3 n4 => ?_)
  have m3n : m3 (Str.ofString "numbers") = some (.ref D) := (e3 _ (by decide) (by decide)).trans ((if_neg (by decide)).trans (if_pos rfl))
  have m3s : m3 (Str.ofString "size") = some (.int (n : Int) tA) := (e3 _ (by decide) (by decide)).trans ((if_neg (by decide)).trans ((if_neg (by decide)).trans (if_pos rfl)))
  have m3e : m3 (Str.ofString "end") = some (.str e te) := (e3 _ (by decide) (by decide)).trans (if_pos rfl)
  clear e3
  refine wpAny_execs_cons (seg4 X T FD ND n1 n2 n3 n4 e1 e2 m3n m3s wI hnl h6 hd1' hd2 fun hE tkE bv nb Od' ov no B o m4 b1 b2 b3 b4 b5 b6 b7 FE NE => ?_)
  have m4b : m4 (Str.ofString "bits") = some (.ref Bd) := (b7 _ (by decide) (by decide) (by decide)).trans e1
  have m4s := (b7 _ (by decide) (by decide) (by decide)).trans m3s
  have m4e := (b7 _ (by decide) (by decide) (by decide)).trans m3e
  clear b7 m3n m3s m3e
  have h6B : Six B.length := by rw [b1]; exact h6
  have hB6 : B.length ≤ 6 := by rcases h6B with q | q | q <;> omega
  have hom := orders_mem b3
  refine wpAny_execs_cons (seg5 FE NE (by k_mem) (by k_mem) m4b hd1' b4 hB6 fun hF tkF Fd fs nf c1 FF NF => ?_)
  refine wpAny_execs_cons (seg6 (f1 := listOf fs.toArray nf) (f2 := listOf bv.toArray nb) (f3 := listOf ov.toArray no) X T FF (News.part NF (all_cons (by k_mem) (all_cons (by k_mem) (all_cons (by k_mem) (all_cons (by k_mem) (all_cons (by k_mem) all_nil)))))) (if_pos rfl) hd2 notCell_list notCell_list notCell_list fun hG tkG Pd Ud o2' FG NG hd2' => ?_)
  obtain ⟨R, r1, r2, r3, r4, r5, r6, r7⟩ := plain h6 b3 b1 b2
  refine wpAny_execs_cons (seg7 (R := R) (te := te) (e := e) X T FG NG ((if_neg (by decide)).trans (if_pos rfl)) ((if_neg (by decide)).trans ((if_neg (by decide)).trans m4b)) ((if_neg (by decide)).trans ((if_neg (by decide)).trans b6)) (if_pos rfl) ((if_neg (by decide)).trans ((if_neg (by decide)).trans m4e))
    hd1' hd2' c1 b4 b5 h6B b2 (by rw [b1]; exact hom) hx he r1 r2 r4 r5 fun hH tkH m7 Pd pv np Ud uv nu o2 pgs s1 s2 d1 d2 d3 FH NH => ?_)
  have m7s := (d2 (Str.ofString "size") (by decide) (by decide) (by decide) (by decide)).trans ((if_neg (by decide)).trans ((if_neg (by decide)).trans m4s))
  have hpl := s1.len
  rw [all_len] at hpl
  refine wpAny_execs_cons (seg8 (r' := R + 1) X T FH NH (by k_mem) d3 (by k_mem) hpl (by omega) fun hJ tkJ tr FJ NJ => ?_)
  rw [show (((R + 1 : Nat) : Int) - 1) = (R : Int) by omega] at FJ
  refine wpAny_execs_cons (seg9 (n := n) (x := x) (Bs := all o B R) X T FJ NJ (by k_mem) d3 (by k_mem) s1 (fun q hq => .tail _ (.tail _ (.tail _ hq))) ((if_neg (by decide)).trans m7s) (by rcases h6 with q | q | q <;> omega) (all_each hom b1) (by omega) fun hK tkK Di ys FK NK yI => ?_)
  rw [all_drop] at yI
  have hn1 : 4 ≤ n := by rcases h6 with q | q | q <;> omega
  have hyl : ys.length = n := by rw [IntsAre.length yI, List.length_map, List.length_range]
  refine wpAny_execs_cons (seg10 (n := n) X T FK NK ((if_neg (by decide)).trans (if_pos rfl)) ((if_neg (by decide)).trans ((if_neg (by decide)).trans m7s)) (if_pos rfl) (by k_mem) h6 r3 yI (mirror fun i hi => by rw [r6 i hi]) (by rcases h6 with q | q | q <;> omega) fun hM tkM FM NM => ?_)
  refine wpAny_execs_cons (seg11 (R := R) (x := x) (t2 := tr) (Bs := all o B R) X T FM NM ((if_neg (by decide)).trans (if_pos rfl)) (if_pos rfl) ((if_neg (by decide)).trans ((if_neg (by decide)).trans d1)) (by k_mem) yI (by rw [List.length_map, List.length_range]; exact hn1) ?_ (by k_mem) d3 (by k_mem) (by k_mem) hx s1 s2 (fun q hq => .tail _ (.tail _ (.tail _ (.tail _ hq)))) fun hP tkP FP NP => ?_)
  · rw [at_first (by omega), at_first (by omega)]
    omega
  · exact k _ _ _ _ FP NP
end
end Mine
end
section
open PySem PySem.W PyProof.Rows PySem.Calls PySem.Spec
set_option maxRecDepth 100000 in
set_option maxHeartbeats 0 in
theorem PySem.Challenge.cw_rl0021_01_holds : PySem.Challenge.rw_rl0021_01.Holds := by
  refine Mine.hd ?_
  k_go0
  k_fold
  refine wpAny_noRaise (Mine.weakenL ?_ ?_ ?_ ?_)
  · rfl
  · exact Nat.le_of_ble_eq_true rfl
  · exact Nat.le_of_ble_eq_true rfl
  show wpAny _ _ (execs Mine.lawBody (Mine.envL _ _ _)) _ _ _
  refine Mine.law_body (by assumption) (by assumption) (by assumption) (by assumption) rfl (by assumption) (by assumption) (by omega) (by assumption) (by assumption) ?_
  intro h' tk' m' news' F' N'
  w_strict k_steps
  all_goals w_report
end
