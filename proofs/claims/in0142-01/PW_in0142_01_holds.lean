import PyProof.Rows.All
import Wide.All
import OpenK.AllK
import Wide.FinOn
import PySem.Challenge.RW_in0142_01
set_option Elab.async false

section
set_option compiler.extract_closed false
open PySem PySem.Spec PySem.Calls PySem.W PyProof.Rows
set_option Elab.async false
set_option linter.unusedVariables false
set_option linter.unusedSimpArgs false
namespace Mine
section
set_option Elab.async false
section
local macro_rules | `(tactic| o_head $t) => `(tactic| (skip; assumption))
set_option maxRecDepth 100000 in
set_option maxHeartbeats 8000000 in
theorem fragX (h : PySem.Challenge.rw_in0142_01.row.Holds) : PySem.Challenge.rw_in0142_01.row.Holds := by
  x_head
set_option maxRecDepth 100000 in
set_option maxHeartbeats 8000000 in
theorem fragK (h : PySem.Challenge.rw_in0142_01.row.Holds) : PySem.Challenge.rw_in0142_01.row.Holds := by
  k_head
end

/-- the objects of the top, less the two code tables that the law's run grows -/
noncomputable def KN (P : Params) : Frag := (fragX.heap_1 P).filter fun p => !(p.1 == 74 || p.1 == 232)

theorem lookup_filter (g : Addr → Bool) (a : Addr) (o : Obj) : ∀ l : Frag, (l.filter fun p => g p.1).lookup a = some o → l.lookup a = some o
  | [], e => e
  | (b, ob) :: r, e => by
    have ih := lookup_filter g a o r
    rw [List.filter_cons] at e
    cases hab : a == b with
    | true =>
      have hb : a = b := by simpa using hab
      subst hb
      split at e
      · simpa [List.lookup_cons] using e
      · rename_i hn
        exfalso
        have hga : g a = false := by simpa using hn
        have : ∀ l : Frag, (l.filter fun p => g p.1).lookup a = none := by
          intro l
          induction l with
          | nil => rfl
          | cons q r ih =>
            rw [List.filter_cons]
            split
            · rename_i hq
              have hne : (a == q.1) = false := by
                cases h : a == q.1 with
                | false => rfl
                | true => have : a = q.1 := by simpa using h
                          rw [← this, hga] at hq; cases hq
              show (match a == q.1 with | true => some q.2 | false => List.lookup a _) = none
              rw [hne]; exact ih
            · exact ih
        rw [this] at e; cases e
    | false =>
      show (match a == b with | true => some ob | false => List.lookup a r) = some o
      rw [hab]
      split at e
      · change (match a == b with | true => some ob | false => List.lookup a _) = some o at e
        rw [hab] at e; exact ih e
      · exact ih e
theorem KN_in {P : Params} {h : Heap} (X : (fragX.heap_1 P).In h) : (KN P).In h := fun a o e => X a o (lookup_filter (fun b => !(b == 74 || b == 232)) a o _ e)

set_option maxRecDepth 100000 in
theorem fragK_of (P : Params) : (fragK.heap_1 P).map (fun p => (fragX.heap_1 P).lookup p.1) = (fragK.heap_1 P).map (fun p => some p.2) := by
  kernel_rfl
theorem sub_of_map {K K' : Frag} (e : K'.map (fun p => K.lookup p.1) = K'.map (fun p => some p.2)) {h : Heap} (X : K.In h) : K'.In h := by
  intro a o he
  have hm : (a, o) ∈ K' := by
    clear e
    induction K' with
    | nil => cases he
    | cons p r ih =>
      rw [List.lookup_cons] at he
      split at he
      · rename_i hap
        have : a = p.1 := by simpa using hap
        cases he
        rw [this]; exact List.Mem.head _
      · exact List.Mem.tail _ (ih he)
  have := List.map_inj_left.mp e (a, o) hm
  exact X a o this
theorem fragK_in {P : Params} {h : Heap} (X : (fragX.heap_1 P).In h) : (fragK.heap_1 P).In h := sub_of_map (fragK_of P) X
end

section
set_option Elab.async false
/-- an activation of which only bounds are known -/
noncomputable abbrev AR (d u : Nat) : Around := { handled := none, depth := d, frames := none, guards := none, units := u }
theorem wk {α : Type} {M : Model} {A : Around} {t : Sem α} {Q : α → Shared → Prop} {E : Value → Shared → Prop} {s : Shared} {d u : Nat} (hh : A.handled = none) (hd : A.depth ≤ d) (hu : A.units ≤ u)
    (h : wpAny M (AR d u) t Q E s) : wpAny M A t Q E s :=
  fun Γ p hΓ => h Γ p ⟨hΓ.1.trans hh, Nat.le_trans hΓ.2.1 hd, fun _ e => (nomatch e), fun _ e => (nomatch e), Nat.le_trans hΓ.2.2.2.2 hu⟩
theorem keeps_refl (s : Shared) (t : Nat) : Keeps s { s with toks := t } := ⟨s.heap, t, rfl, fun _ _ e => e⟩
noncomputable def KNin (w : World) (h : Heap) : Prop := (KN w.params).In h
end

section
set_option Elab.async false
namespace Cj
theorem al {zzp zzq : Prop} (h : zzp ∧ zzq) : zzp := h.1
theorem ar {zzp zzq : Prop} (h : zzp ∧ zzq) : zzq := h.2
end Cj
noncomputable abbrev PR : Program := PySem.Challenge.rw_in0142_01.row.prog
theorem KNin.keeps {w : World} {h h' : Heap} (X : KNin w h) (k : ∀ b o, h.get? b = some o → h'.get? b = some o) : KNin w h' := Frag.In.keeps X k

theorem enter {prog : Program} {w : World} {A : Around} {E : Value → Shared → Prop} {s : Shared} {Q : Value → Shared → Prop} {K : Frag} {name qual : Str} {params : Arguments} {body : List Stmt} {scope : Scope} {dV kV doc pm cdv ct oc : Value} {an od : Option Addr} {osl : Array (Option Value)} {f : Addr} {vs : List Value} {binds : List (Str × Value)}
    (X₀ : K.In s.heap) (hlim : s.heap.NoLimit) (hroom : A.depth < recursionLimit)
    (ho : K.lookup f = some ⟨oc, od, .func (fnOf name qual params body scope dV kV doc pm an cdv ct), osl⟩) (hcd : codeIn K cdv qual = true)
    (hbind : BindsTo s (fnOf name qual params body scope dV kV doc pm an cdv ct) ⟨vs, []⟩ binds) (hloc : ∀ y ∈ binds, scope.names.lookup y.1 = some .local)
    (h : ∀ L h₁, Fr s.heap L h₁ (fun y => binds.reverse.lookup y) → News s.heap L h₁ [] →
      wpAny (model prog w) (A.deeper (envOf qual scope L f cdv)) (execs body (envOf qual scope L f cdv))
        (fun fl s' => Q (match fl with | .ret v => v | _ => .none) s') (fun _ _ => False)
        { s with heap := h₁, toks := s.toks + binds.length })
    (hco : scope.isCoroutine = false) (hgen : scope.isGenerator = false) (hk : scope.kind = .function)
    (hcell : ∀ x ∈ scope.names, x.2 ≠ .cell) : wpAny (model prog w) A (call (.ref f) vs) Q E s := by
  refine wpAny_call ?_
  refine codeAny_call_def (fd := fnX name qual params body scope [] dV kV doc pm an cdv ct) (body := body) (binds := binds) hroom (X₀ _ _ ho) rfl hlim (codeRec_of X₀ hcd) rfl hbind hcell hloc (fun h₁ hns hk₁ => ?_) hco hgen hk
  exact wpAny_mono (h _ h₁ ⟨hns, hk₁, Nat.le_refl _⟩ News.nil) (fun fl s' hl => hl) fun _ _ y => y.elim

theorem News.keeps {h₀ h h' : Heap} {L : Addr} {news : List (Addr × Obj)} (N : News h₀ L h news) (k : ∀ b o, h.get? b = some o → h'.get? b = some o) : News h₀ L h' news :=
  fun p hp => ⟨k _ _ (N p hp).1, (N p hp).2⟩

/-- a contract used in a frame -/
theorem use_con {M : Model} {A : Around} {E : Value → Shared → Prop} {s : Shared} {Q : Value → Shared → Prop} {h₀ : Heap} {L : Addr} {m : Str → Option Value} {news : List (Addr × Obj)} {f : Value} {vs : List Value} {Post : Value → Heap → Prop}
    (F : Fr h₀ L s.heap m) (N : News h₀ L s.heap news)
    (C : wpAny M A (call f vs) (fun v s' => Post v s'.heap ∧ Keeps s s') (fun _ _ => False) s)
    (h : ∀ v h' tk', Fr h₀ L h' m → News h₀ L h' news → (∀ b o, s.heap.get? b = some o → h'.get? b = some o) → Post v h' → Q v { s with heap := h', toks := tk' }) :
    wpAny M A (call f vs) Q E s :=
  wpAny_mono C (fun v s' hp => by
    obtain ⟨hp, h', tk', rfl, k⟩ := hp
    exact h v h' tk' (F.keeps k) (News.keeps N k) k hp) fun _ _ x => x.elim
end

section
set_option Elab.async false
set_option linter.unusedVariables false
section
open PySem.W.X
variable {w : World} {E : Value → Shared → Prop} {h : Heap} {g : Array GenState} {d : Drawn} {tk : Nat} {os : OsState}
local macro_rules | `(tactic| x_close) => `(tactic| exact ⟨rfl, keeps_refl _ _⟩)
set_option maxRecDepth 100000 in
set_option maxHeartbeats 0 in
theorem issub_x {c : Addr} {t : Tok} (hc : h.get? c = some ⟨.type "tuple", none, .seq #[.type "str", .type "bytes"] t, #[]⟩) :
    wpAny (model PySem.Challenge.rw_in0142_01.row.prog w) (AR 450 250) (call (.builtin "issubclass") [.type "str", .ref c])
      (fun v s' => v = .bool true ∧ Keeps ⟨h, g, d, tk, os⟩ s') E ⟨h, g, d, tk, os⟩ := by
  x_run
end
theorem issub_ {w : World} {A : Around} {E : Value → Shared → Prop} {s : Shared} {Q : Value → Shared → Prop} {h₀ : Heap} {L : Addr} {m : Str → Option Value} {news : List (Addr × Obj)} {c : Addr} {t : Tok} (F : Fr h₀ L s.heap m) (N : News h₀ L s.heap news)
    (hm : (c, (⟨.type "tuple", none, .seq #[.type "str", .type "bytes"] t, #[]⟩ : Obj)) ∈ news) (hA : A.handled = none) (hd : A.depth ≤ 450) (hu : A.units ≤ 250)
    (h : ∀ h' tk', Fr h₀ L h' m → News h₀ L h' news → Q (.bool true) { s with heap := h', toks := tk' }) :
    wpAny (model PySem.Challenge.rw_in0142_01.row.prog w) A (call (.builtin "issubclass") [.type "str", .ref c]) Q E s :=
  use_con (Post := fun v _ => v = .bool true) F N (wk hA hd hu (issub_x (N.get hm))) fun v h' tk' F' N' _ hv => by subst hv; exact h h' tk' F' N'
section
set_option maxRecDepth 100000 in
set_option maxHeartbeats 0 in
theorem fspath_x : ∀ (w : World) (p₀ : Program) (loose : List Str) (mean : ExcName → Option Value) (mg mb : Str → Option Value) (s : Shared) (X : (fragK.heap_1 w.params).In s.heap) (T : Top p₀ loose mean mg mb s.heap) (p : Str) (t : Tok) (E : Value → Shared → Prop),
   wpAny (model PySem.Challenge.rw_in0142_01.row.prog w) (AR 440 240) (call (.ref 161) [.str p t]) (fun v s' => v = .str p t ∧ Keeps s s') E s := by
  k_fill
  intro w p₀ loose mean mg mb s X T p t E
  refine' enter (binds := [(Str.ofString "path", .str p t)]) X T.nolimit (by decide) ?k6 ?k7 ?k9 ?kB ?_ ?c2 ?c3 ?c4 ?c5
  case k6 => k_is
  case k7 => k_is
  case k9 => exact BindsTo.of_eq rfl
  case kB => exact locs rfl
  case c2 => exact rfl
  case c3 => exact rfl
  case c4 => exact rfl
  case c5 => decide
  intro L h1 F N
  try dsimp only
  try k_fold
  k_steps
  refine' issub_ ?F ?N ?m ?a ?b ?c ?_
  case F => k_asm
  case N => k_asm
  case m => k_mem
  case a => exact rfl
  case b => exact Nat.le_of_ble_eq_true rfl
  case c => exact Nat.le_of_ble_eq_true rfl
  intro h' tk' F' N'
  try dsimp only
  try k_fold
  k_steps
  exact ⟨_, _, rfl, Fr.keep (by assumption)⟩
theorem get_sep_x : ∀ (w : World) (p₀ : Program) (loose : List Str) (mean : ExcName → Option Value) (mg mb : Str → Option Value) (s : Shared) (X : (fragK.heap_1 w.params).In s.heap) (T : Top p₀ loose mean mg mb s.heap) (p : Str) (t : Tok) (E : Value → Shared → Prop),
   wpAny (model PySem.Challenge.rw_in0142_01.row.prog w) (AR 440 240) (call (.ref 182) [.str p t]) (fun v s' => (∃ u, v = .str (Str.ofString "/") u) ∧ Keeps s s') E s := by
  k_fill
  intro w p₀ loose mean mg mb s X T p t E
  refine' enter (binds := [(Str.ofString "path", .str p t)]) X T.nolimit (by decide) ?k6 ?k7 ?k9 ?kB ?_ ?c2 ?c3 ?c4 ?c5
  case k6 => k_is
  case k7 => k_is
  case k9 => exact BindsTo.of_eq rfl
  case kB => exact locs rfl
  case c2 => exact rfl
  case c3 => exact rfl
  case c4 => exact rfl
  case c5 => decide
  intro L h1 F N
  try dsimp only
  try k_fold
  k_steps
  exact ⟨_, _, rfl, Fr.keep (by assumption)⟩
end
section
variable {w : World} {A : Around} {E : Value → Shared → Prop} {s : Shared} {Q : Value → Shared → Prop} {h₀ : Heap} {L : Addr} {m : Str → Option Value} {news : List (Addr × Obj)} {p : Str} {t : Tok}
  {p₀ : Program} {loose : List Str} {mean : ExcName → Option Value} {mg mb : Str → Option Value}
theorem fspath_ (F : Fr h₀ L s.heap m) (N : News h₀ L s.heap news) (X : (fragK.heap_1 w.params).In h₀) (Y : KNin w h₀) (T : Top p₀ loose mean mg mb h₀) (hA : A.handled = none) (hd : A.depth ≤ 440) (hu : A.units ≤ 240)
    (h : ∀ h' tk', Fr h₀ L h' m → News h₀ L h' news → Q (.str p t) { s with heap := h', toks := tk' }) :
    wpAny (model PySem.Challenge.rw_in0142_01.row.prog w) A (call (.ref 161) [.str p t]) Q E s :=
  use_con (Post := fun v _ => v = .str p t) F N (wk hA hd hu (fspath_x w p₀ loose mean mg mb s (X.keeps F.keep) (T.keeps F.keep) p t _)) fun v h' tk' F' N' _ hv => by subst hv; exact h h' tk' F' N'
theorem get_sep_ (F : Fr h₀ L s.heap m) (N : News h₀ L s.heap news) (X : (fragK.heap_1 w.params).In h₀) (Y : KNin w h₀) (T : Top p₀ loose mean mg mb h₀) (hA : A.handled = none) (hd : A.depth ≤ 440) (hu : A.units ≤ 240)
    (h : ∀ u h' tk', Fr h₀ L h' m → News h₀ L h' news → Q (.str (Str.ofString "/") u) { s with heap := h', toks := tk' }) :
    wpAny (model PySem.Challenge.rw_in0142_01.row.prog w) A (call (.ref 182) [.str p t]) Q E s :=
  use_con (Post := fun v _ => ∃ u, v = .str (Str.ofString "/") u) F N (wk hA hd hu (get_sep_x w p₀ loose mean mg mb s (X.keeps F.keep) (T.keeps F.keep) p t _)) fun v h' tk' F' N' _ hv => by
    obtain ⟨u, rfl⟩ := hv
    exact h u h' tk' F' N'
end
end

section
open PySem.Builtin PySem.Builtin.Str
set_option Elab.async false
/-- a text by its signs' numbers -/
noncomputable def tx (l : List Nat) : PySem.Str := ⟨l.toArray⟩
theorem tx_toList (l : List Nat) : (tx l).cps.toList = l := by simp [tx]
theorem tx_of (x : PySem.Str) : tx x.cps.toList = x := by cases x; simp [tx]
theorem tx_len (l : List Nat) : (tx l).length = l.length := by simp [tx, PySem.Str.length]
theorem tx_app (a b : List Nat) : tx a ++ tx b = tx (a ++ b) := by
  apply PySem.Str.ext'
  rw [PySem.Str.cps_append]
  simp [tx]
theorem tx_inj {a b : List Nat} (h : tx a = tx b) : a = b := by
  have := congrArg (fun x : PySem.Str => x.cps.toList) h
  simpa [tx] using this
theorem tx_beq (a b : List Nat) : (tx a == tx b) = decide (a = b) := by
  rw [Bool.eq_iff_iff]
  simp only [beq_iff_eq, decide_eq_true_eq]
  exact ⟨tx_inj, fun e => by rw [e]⟩
theorem lit_slash : PySem.Str.ofString "/" = tx [47] := by decide +kernel
theorem lit_dot : PySem.Str.ofString "." = tx [46] := by decide +kernel
theorem lit_dotdot : PySem.Str.ofString ".." = tx [46, 46] := by decide +kernel
theorem lit_empty : PySem.Str.ofString "" = tx [] := by decide +kernel
theorem lit_quote : PySem.Str.ofString "\"" = tx [34] := by decide +kernel

theorem clip_lo (n i : Nat) : max (0 : Int) (min (i : Int) (n : Int)) = ((min i n : Nat) : Int) := by omega
theorem range_take (l : List Nat) (a b : Nat) (hb : b ≤ l.length) : (sliceRange (a : Int) (b : Int) 1).filterMap (l.toArray[·]?) = (l.drop a).take (b - a) := by
  have e : sliceRange (a : Int) (b : Int) 1 = (List.range (b - a)).map fun k => a + k := by
    unfold sliceRange
    simp only [show (1 : Int) > 0 by decide, if_true, Int.ediv_one, Int.one_mul]
    have : (if (a : Int) < (b : Int) then (b : Int) - a + 1 - 1 else 0).toNat = b - a := by split <;> omega
    rw [this]
    apply List.map_congr_left
    intro k _
    omega
  rw [e]
  clear e
  induction hn : b - a generalizing a with
  | zero => simp
  | succ n ih =>
    have hal : a < l.length := by omega
    rw [List.range_succ_eq_map, List.map_cons, List.filterMap_cons]
    have h0 : l.toArray[a + 0]? = some l[a] := by simp [hal]
    rw [h0]
    show l[a] :: _ = _
    have hd : l.drop a = l[a] :: l.drop (a + 1) := List.drop_eq_getElem_cons hal
    rw [hd, List.take_succ_cons]
    congr 1
    have := ih (a + 1) (by omega)
    rw [← this, List.map_map]
    congr 1
    apply List.map_congr_left
    intro k _
    show a + (k + 1) = a + 1 + k
    omega
theorem slice_made (l : List Nat) (lo hi : Option Int) (a b : Nat) (hb : b ≤ l.length) (e : strSliceIndices lo hi 1 l.length = sliceRange (a : Int) (b : Int) 1) : Txt.slice (tx l) lo hi = tx ((l.drop a).take (b - a)) := by
  unfold Txt.slice
  rw [tx_len, e]
  have hr := range_take l a b hb
  split
  · rename_i h
    have hlen : (sliceRange (a : Int) (b : Int) 1).length = l.length := by simpa using h
    have h2 : (sliceRange (a : Int) (b : Int) 1).length = b - a := by
      unfold sliceRange
      simp only [show (1 : Int) > 0 by decide, if_true, Int.ediv_one, List.length_map, List.length_range]
      split <;> omega
    have h3 : b - a = l.length := by omega
    by_cases hl : l = []
    · subst hl; simp
    · have hp : 0 < l.length := List.length_pos_iff.mpr hl
      have ha : a = 0 := by omega
      have hbl : b = l.length := by omega
      subst ha; rw [hbl]; simp
  · show PySem.Str.mk _ = PySem.Str.mk _
    have : ((tx l).cps)= l.toArray := rfl
    rw [this, hr]
theorem slice_ss (l : List Nat) (i j : Nat) : Txt.slice (tx l) (some (i : Int)) (some (j : Int)) = tx ((l.drop i).take (j - i)) := by
  rw [slice_made l _ _ (min i l.length) (min j l.length) (by omega)]
  · congr 1
    by_cases hi : i ≤ l.length
    · rw [Nat.min_eq_left hi]
      by_cases hj : j ≤ l.length
      · rw [Nat.min_eq_left hj]
      · rw [Nat.min_eq_right (by omega)]
        rw [List.take_of_length_le (by simp), List.take_of_length_le (by simp; omega)]
    · have e1 : min i l.length = l.length := by omega
      rw [e1, List.drop_eq_nil_of_le (Nat.le_refl _), List.drop_eq_nil_of_le (show l.length ≤ i by omega)]
      simp
  · unfold strSliceIndices
    have h1 : ¬ ((i : Int) < 0) := by omega
    have h2 : ¬ ((j : Int) < 0) := by omega
    simp only [show (1 : Int) > 0 by decide, if_true, h1, h2, if_false, clip_lo]
theorem slice_ns (l : List Nat) (j : Nat) : Txt.slice (tx l) none (some (j : Int)) = tx (l.take j) := by
  have : Txt.slice (tx l) none (some (j : Int)) = Txt.slice (tx l) (some ((0 : Nat) : Int)) (some (j : Int)) := by
    unfold Txt.slice
    rw [StrLaws.sliceIdx_none_lo]; rfl
  rw [this, slice_ss]; simp
theorem slice_sn (l : List Nat) (i : Nat) : Txt.slice (tx l) (some (i : Int)) none = tx (l.drop i) := by
  have : Txt.slice (tx l) (some (i : Int)) none = Txt.slice (tx l) (some (i : Int)) (some (l.length : Int)) := by
    unfold Txt.slice
    rw [StrLaws.sliceIdx_none_hi, tx_len]
  rw [this, slice_ss]
  congr 1
  rw [List.take_of_length_le (by simp)]

/-- parts glued by one sign -/
noncomputable def jn (c : Nat) : List (List Nat) → List Nat
  | [] => []
  | [a] => a
  | a :: b :: r => a ++ c :: jn c (b :: r)
theorem join_tx (c : Nat) : ∀ ps : List (List Nat), PySem.Str.join (tx [c]) (ps.map tx) = tx (jn c ps)
  | [] => rfl
  | [a] => rfl
  | a :: b :: r => by
    have ih := join_tx c (b :: r)
    show tx a ++ tx [c] ++ PySem.Str.join (tx [c]) ((b :: r).map tx) = _
    rw [ih, tx_app, tx_app]
    simp [jn]
theorem jn_inj (c : Nat) : ∀ {a b : List (List Nat)}, a ≠ [] → b ≠ [] → (∀ p ∈ a, c ∉ p) → (∀ p ∈ b, c ∉ p) → jn c a = jn c b → a = b
  | [], _, h, _, _, _, _ => absurd rfl h
  | _ :: _, [], _, h, _, _, _ => absurd rfl h
  | [x], [y], _, _, _, _, e => by rw [show x = y from e]
  | [x], y :: z :: r, _, _, ha, hb, e => by
    exfalso
    have e' : x = y ++ c :: jn c (z :: r) := e
    exact ha x (List.mem_singleton.mpr rfl) (by rw [e']; simp)
  | x :: z :: r, [y], _, _, ha, hb, e => by
    exfalso
    have e' : x ++ c :: jn c (z :: r) = y := e
    exact hb y (List.mem_singleton.mpr rfl) (by rw [← e']; simp)
  | x :: z :: r, y :: z' :: r', _, _, ha, hb, e => by
    have e' : x ++ c :: jn c (z :: r) = y ++ c :: jn c (z' :: r') := e
    have hx : c ∉ x := ha x (List.mem_cons_self ..)
    have hy : c ∉ y := hb y (List.mem_cons_self ..)
    have key : ∀ (x y : List Nat) (s t : List Nat), c ∉ x → c ∉ y → x ++ c :: s = y ++ c :: t → x = y ∧ s = t := by
      intro x
      induction x with
      | nil =>
        intro y s t _ hy e
        cases y with
        | nil => exact ⟨rfl, (List.cons.inj e).2⟩
        | cons d y => exact absurd (by rw [← (List.cons.inj e).1]; simp) hy
      | cons d x ih =>
        intro y s t hx hy e
        cases y with
        | nil => exact absurd (by rw [(List.cons.inj e).1]; simp) hx
        | cons f y =>
          obtain ⟨e1, e2⟩ := List.cons.inj e
          obtain ⟨e3, e4⟩ := ih y s t (fun h => hx (List.mem_cons_of_mem _ h)) (fun h => hy (List.mem_cons_of_mem _ h)) e2
          exact ⟨by rw [e1, e3], e4⟩
    obtain ⟨e1, e2⟩ := key x y _ _ hx hy e'
    have := jn_inj c (a := z :: r) (b := z' :: r') (by simp) (by simp) (fun p hp => ha p (List.mem_cons_of_mem _ hp)) (fun p hp => hb p (List.mem_cons_of_mem _ hp)) e2
    rw [e1, this]
theorem split_ne (x y : PySem.Str) : Txt.split x y ≠ [] := by
  unfold Txt.split
  split
  · simp
  · split
    · simp
    · rw [StrLaws.partsBetween_eq]
      cases occurrences x y 0 x.length (x.length + 1) <;> simp [StrLaws.partsFrom]
theorem map_tx_toList (ps : List PySem.Str) : (ps.map fun p => p.cps.toList).map tx = ps := by
  rw [List.map_map]
  conv => rhs; rw [← List.map_id ps]
  apply List.map_congr_left
  intro p _
  exact tx_of p
theorem split_tx (c : Nat) {ps : List (List Nat)} (h : ps ≠ []) (hf : ∀ p ∈ ps, c ∉ p) : Txt.split (tx (jn c ps)) (tx [c]) = ps.map tx := by
  have h1 := StrLaws.join_split (tx (jn c ps)) (tx [c])
  have h2 := StrLaws.split_free (tx (jn c ps)) c
  have h3 := split_ne (tx (jn c ps)) (tx [c])
  generalize hs : Txt.split (tx (jn c ps)) (tx [c]) = S at h1 h3
  have h2' : ∀ p ∈ S, c ∉ p.cps.toList := fun p hp => h2 p (by rw [show (⟨#[c]⟩ : PySem.Str) = tx [c] from rfl, hs]; exact hp)
  rw [← map_tx_toList S]
  rw [← map_tx_toList S, join_tx] at h1
  have := jn_inj c (a := S.map fun p => p.cps.toList) (b := ps) (by simpa using h3) h (by simpa using h2') hf (tx_inj h1)
  rw [this]
theorem jn_len (c : Nat) : ∀ ps : List (List Nat), (jn c ps).length ≤ (ps.map (·.length)).sum + ps.length
  | [] => Nat.zero_le _
  | [a] => by simp [jn]
  | a :: b :: r => by
    have := jn_len c (b :: r)
    simp only [jn, List.length_append, List.length_cons, List.map_cons, List.sum_cons] at this ⊢
    omega

theorem join_lit (ps : List (List Nat)) : Txt.join (PySem.Str.ofString "/") (ps.map tx) = tx (jn 47 ps) := by
  rw [lit_slash]
  show glued _ _ = _
  rw [StrLaws.glued_eq_join]
  exact join_tx 47 ps
theorem jn_len_eq (c : Nat) : ∀ ps : List (List Nat), ps ≠ [] → (jn c ps).length + 1 = (ps.map (·.length)).sum + ps.length
  | [], h => absurd rfl h
  | [a], _ => by simp [jn]
  | a :: b :: r, _ => by
    have := jn_len_eq c (b :: r) (by simp)
    simp only [jn, List.length_append, List.length_cons, List.map_cons, List.sum_cons] at this ⊢
    omega
theorem le_sum : ∀ {l : List Nat} {a : Nat}, a ∈ l → a ≤ l.sum
  | b :: r, a, h => by
    rcases List.mem_cons.mp h with rfl | h
    · simp
    · have := le_sum h; simp; omega
theorem map_tx_len (ps : List (List Nat)) : (ps.map tx).map (·.length) = ps.map (·.length) := by
  rw [List.map_map]
  apply List.map_congr_left
  intro p _
  exact tx_len p
/-- the walk of normpath upon an absolute path's parts -/
noncomputable def np_step (S : List (List Nat)) (p : List Nat) : List (List Nat) := if p = [] ∨ p = [46] then S else if p = [46, 46] then S.dropLast else S ++ [p]
noncomputable def np (ps : List (List Nat)) : List (List Nat) := ps.foldl np_step []
theorem np_snoc (ps : List (List Nat)) (p : List Nat) : np (ps ++ [p]) = np_step (np ps) p := by simp [np, List.foldl_append]
theorem sum_dropLast (S : List (List Nat)) : (S.dropLast.map (·.length)).sum + S.dropLast.length ≤ (S.map (·.length)).sum + S.length := by
  induction S with
  | nil => simp
  | cons a r ih =>
    cases r with
    | nil => simp
    | cons b r => simp only [List.dropLast_cons_cons, List.map_cons, List.sum_cons, List.length_cons] at ih ⊢; omega
theorem np_bound (ps : List (List Nat)) : ((np ps).map (·.length)).sum + (np ps).length ≤ (ps.map (·.length)).sum + ps.length := by
  have : ∀ (ps S : List (List Nat)), ((ps.foldl np_step S).map (·.length)).sum + (ps.foldl np_step S).length ≤ (S.map (·.length)).sum + S.length + ((ps.map (·.length)).sum + ps.length) := by
    intro ps
    induction ps with
    | nil => intro S; simp
    | cons p r ih =>
      intro S
      have h1 := ih (np_step S p)
      have h2 : ((np_step S p).map (·.length)).sum + (np_step S p).length ≤ (S.map (·.length)).sum + S.length + (p.length + 1) := by
        unfold np_step
        split
        · omega
        · split
          · have := sum_dropLast S; omega
          · simp only [List.map_append, List.map_cons, List.map_nil, List.sum_append, List.sum_cons, List.sum_nil, List.length_append, List.length_cons, List.length_nil]; omega
      simp only [List.foldl_cons, List.map_cons, List.sum_cons, List.length_cons]
      omega
  have := this ps []
  simpa [np] using this
theorem np_free (ps : List (List Nat)) : ∀ q ∈ np ps, q ≠ [] ∧ q ≠ [46] ∧ q ≠ [46, 46] ∧ q ∈ ps := by
  have : ∀ (ps S all : List (List Nat)), (∀ q ∈ S, q ≠ [] ∧ q ≠ [46] ∧ q ≠ [46, 46] ∧ q ∈ all) → (∀ q ∈ ps, q ∈ all) → ∀ q ∈ ps.foldl np_step S, q ≠ [] ∧ q ≠ [46] ∧ q ≠ [46, 46] ∧ q ∈ all := by
    intro ps
    induction ps with
    | nil => intro S all h _; exact h
    | cons p r ih =>
      intro S all h hp
      refine ih (np_step S p) all ?_ (fun q hq => hp q (List.mem_cons_of_mem _ hq))
      intro q hq
      unfold np_step at hq
      split at hq
      · exact h q hq
      · rename_i h1
        split at hq
        · exact h q (List.dropLast_subset _ hq)
        · rename_i h2
          rcases List.mem_append.mp hq with hq | hq
          · exact h q hq
          · rw [List.mem_singleton.mp hq]
            exact ⟨fun e => h1 (.inl e), fun e => h1 (.inr e), h2, hp p (List.mem_cons_self ..)⟩
  exact this ps [] ps (fun _ h => nomatch h) (fun _ h => h)
theorem dbl_le (P : List Nat) : P.length ≤ (StrLaws.dbl 34 P).length := by
  induction P with
  | nil => simp
  | cons a r ih => simp only [StrLaws.dbl]; split <;> simp <;> omega
end

section
set_option Elab.async false
section
variable {prog : Program} {w : World} {A : Around} {E : Value → Shared → Prop} {s : Shared} {x y z : PySem.Str} {t u : Tok} {h₀ : Heap} {L : Addr} {m : Str → Option Value} {news : List (Addr × Obj)} {l : List Nat} {value slice : Expr}
theorem sz {n : Nat} (h : n ≤ 1000000) : n ≤ sizeLine := by rw [sizeLine_eq]; omega
theorem truthy_t {Q : Bool → Shared → Prop} (h : l ≠ []) (hn : (tx l).length ≤ 1000000) (hq : Q true { s with toks := s.toks + 1 + 1 }) : wpAny (model prog w) A (truthy (.str (tx l) t)) Q E s := by
  refine PySem.P.truthy_str (by omega) ?_
  have : ((tx l).length : Int) ≠ 0 := by rw [tx_len]; have := List.length_pos_iff.mpr h; omega
  rw [show ((((tx l).length : Int) != 0) = true) from by simpa using this]; exact hq
theorem truthy_n {Q : Bool → Shared → Prop} (h : l = []) (hq : Q false { s with toks := s.toks + 1 + 1 }) : wpAny (model prog w) A (truthy (.str (tx l) t)) Q E s := by
  subst h
  exact PySem.P.truthy_str (by rw [tx_len]; decide) hq
theorem eqs_true {Q : Value → Shared → Prop} (e : x = y) (h : Q (.bool true) s) : wpAny (model prog w) A (compareOp .Eq (.str x t) (.str y u)) Q E s := eq_str (by rw [beq_iff_eq.mpr e]; exact h)
theorem eqs_false {Q : Value → Shared → Prop} (e : x ≠ y) (h : Q (.bool false) s) : wpAny (model prog w) A (compareOp .Eq (.str x t) (.str y u)) Q E s := eq_str (by rw [beq_eq_false_iff_ne.mpr e]; exact h)
theorem nes_false {Q : Value → Shared → Prop} (e : x = y) (h : Q (.bool false) s) : wpAny (model prog w) A (compareOp .NotEq (.str x t) (.str y u)) Q E s := ne_str (by rw [bne, beq_iff_eq.mpr e]; exact h)
theorem nes_true {Q : Value → Shared → Prop} (e : x ≠ y) (h : Q (.bool true) s) : wpAny (model prog w) A (compareOp .NotEq (.str x t) (.str y u)) Q E s := ne_str (by rw [bne, beq_eq_false_iff_ne.mpr e]; exact h)
theorem adds {Q : Value → Shared → Prop} (e : x ++ y = z) (hz : z.length ≤ 1000000) (h : ∀ t' k, Q (.str z t') { s with toks := k }) : wpAny (model prog w) A (binaryOp .Add (.str x t) (.str y u)) Q E s :=
  PyProof.Rows.add_str (by rw [e]; exact h) (by
    have : x.length + y.length = z.length := by rw [← e]; exact (strLen_append x y).symm
    rw [this]; exact sz hz)
theorem sl_ns {Q : Value → Shared → Prop} {j : Int} {uj : Tok} (hF : Fr h₀ L s.heap m) (hN : News h₀ L s.heap news) (e : Txt.slice x none (some j) = y) (hz : x.length ≤ 1000000) (h : ∀ h' t' k, Fr h₀ L h' m → News h₀ L h' news → Q (.str y t') { s with heap := h', toks := k })
    (hs : subscripted slice false (.str x t) (.ref s.heap.objs.size) = operate [.ref s.heap.objs.size, .str x t] (getItem (.str x t) (.ref s.heap.objs.size)) := by with_unfolding_all rfl)
    (ht : ∀ r, letTemporaryGo value (.str x t) r = pure () := by intro _; with_unfolding_all rfl) :
    wpAny (model prog w) A (subscriptTail value slice (.str x t) (.ref s.heap.objs.size)) Q E { s with heap := s.heap.push { cls := .type "slice", data := .fields #[.none, .int j uj, .none] } } :=
  slice_strN_ns hF hN (by rw [e]; exact h) hs ht (sz hz)
theorem sl_sn {Q : Value → Shared → Prop} {j : Int} {uj : Tok} (hF : Fr h₀ L s.heap m) (hN : News h₀ L s.heap news) (e : Txt.slice x (some j) none = y) (hz : x.length ≤ 1000000) (h : ∀ h' t' k, Fr h₀ L h' m → News h₀ L h' news → Q (.str y t') { s with heap := h', toks := k })
    (hs : subscripted slice false (.str x t) (.ref s.heap.objs.size) = operate [.ref s.heap.objs.size, .str x t] (getItem (.str x t) (.ref s.heap.objs.size)) := by with_unfolding_all rfl)
    (ht : ∀ r, letTemporaryGo value (.str x t) r = pure () := by intro _; with_unfolding_all rfl) :
    wpAny (model prog w) A (subscriptTail value slice (.str x t) (.ref s.heap.objs.size)) Q E { s with heap := s.heap.push { cls := .type "slice", data := .fields #[.int j uj, .none, .none] } } :=
  slice_strN_sn hF hN (by rw [e]; exact h) hs ht (sz hz)
theorem sl_ss {Q : Value → Shared → Prop} {i j : Int} {ui uj : Tok} (hF : Fr h₀ L s.heap m) (hN : News h₀ L s.heap news) (e : Txt.slice x (some i) (some j) = y) (hz : x.length ≤ 1000000) (h : ∀ h' t' k, Fr h₀ L h' m → News h₀ L h' news → Q (.str y t') { s with heap := h', toks := k })
    (hs : subscripted slice false (.str x t) (.ref s.heap.objs.size) = operate [.ref s.heap.objs.size, .str x t] (getItem (.str x t) (.ref s.heap.objs.size)) := by with_unfolding_all rfl)
    (ht : ∀ r, letTemporaryGo value (.str x t) r = pure () := by intro _; with_unfolding_all rfl) :
    wpAny (model prog w) A (subscriptTail value slice (.str x t) (.ref s.heap.objs.size)) Q E { s with heap := s.heap.push { cls := .type "slice", data := .fields #[.int i ui, .int j uj, .none] } } :=
  slice_strN_ss hF hN (by rw [e]; exact h) hs ht (sz hz)
theorem ltI_t {Q : Value → Shared → Prop} {a b : Int} (e : a < b) (h : Q (.bool true) s) : wpAny (model prog w) A (compareOp .Lt (.int a t) (.int b u)) Q E s := PyProof.Rows.lt_int (by rw [decide_eq_true e]; exact h)
theorem ltI_f {Q : Value → Shared → Prop} {a b : Int} (e : ¬ a < b) (h : Q (.bool false) s) : wpAny (model prog w) A (compareOp .Lt (.int a t) (.int b u)) Q E s := PyProof.Rows.lt_int (by rw [decide_eq_false e]; exact h)
theorem gtI_t {Q : Value → Shared → Prop} {a b : Int} (e : b < a) (h : Q (.bool true) s) : wpAny (model prog w) A (compareOp .Gt (.int a t) (.int b u)) Q E s := PyProof.Rows.gt_int (by rw [decide_eq_true e]; exact h)
theorem gtI_f {Q : Value → Shared → Prop} {a b : Int} (e : ¬ b < a) (h : Q (.bool false) s) : wpAny (model prog w) A (compareOp .Gt (.int a t) (.int b u)) Q E s := PyProof.Rows.gt_int (by rw [decide_eq_false e]; exact h)
theorem geI_t {Q : Value → Shared → Prop} {a b : Int} (e : b ≤ a) (h : Q (.bool true) s) : wpAny (model prog w) A (compareOp .GtE (.int a t) (.int b u)) Q E s := PyProof.Rows.ge_int (by rw [decide_eq_true e]; exact h)
theorem geI_f {Q : Value → Shared → Prop} {a b : Int} (e : ¬ b ≤ a) (h : Q (.bool false) s) : wpAny (model prog w) A (compareOp .GtE (.int a t) (.int b u)) Q E s := PyProof.Rows.ge_int (by rw [decide_eq_false e]; exact h)
theorem neI_t {Q : Value → Shared → Prop} {a b : Int} (e : ¬ a = b) (h : Q (.bool true) s) : wpAny (model prog w) A (compareOp .NotEq (.int a t) (.int b u)) Q E s := PyProof.Rows.ne_int (by rw [bne, beq_eq_false_iff_ne.mpr e]; exact h)
theorem neI_f {Q : Value → Shared → Prop} {a b : Int} (e : a = b) (h : Q (.bool false) s) : wpAny (model prog w) A (compareOp .NotEq (.int a t) (.int b u)) Q E s := PyProof.Rows.ne_int (by rw [bne, beq_iff_eq.mpr e]; exact h)
theorem item_s {Q : Value → Shared → Prop} {i : Int} {ch : Nat} (h0 : 0 ≤ i) (hi : i < 2 ^ 63) (e : l[i.toNat]? = some ch) (h : ∀ t' k, Q (.str (tx [ch]) t') { s with toks := k })
    (hs : subscripted slice false (.str (tx l) t) (.int i u) = operate [.str (tx l) t, .int i u] (getItem (.str (tx l) t) (.int i u)) := by with_unfolding_all rfl) (hg : ∀ r, letTemporaryGo value (.str (tx l) t) r = pure () := by intro _; with_unfolding_all rfl) :
    wpAny (model prog w) A (subscriptTail value slice (.str (tx l) t) (.int i u)) Q E s := by
  have hlt : i.toNat < l.length := (List.getElem?_eq_some_iff.mp e).1
  refine subscriptTail_builtin (typeIs_str _ _ _) slot_str_getitem.lookup (getItem_str (c := ch) (by simp only [Bool.or_eq_false_iff, decide_eq_false_iff_not]; omega) ?_ (h _ _)) hs hg
  have : seqIndex? i (tx l).length = some i.toNat := by
    unfold seqIndex?
    rw [tx_len]
    have h1 : ¬ i < 0 := by omega
    simp only [h1, if_false]
    rw [if_pos (by simp only [Bool.and_eq_true, decide_eq_true_eq]; omega)]
  rw [this]
  show (tx l).cps[i.toNat]? = some ch
  simpa [tx] using e
theorem len_s {Q : Value → Shared → Prop} (hz : x.length ≤ 1000000) (h : ∀ t' k, Q (.int (x.length : Int) t') { s with toks := k }) : wpAny (model prog w) A (call (.builtin "len") [.str x t]) Q E s :=
  PyProof.Rows.len_str (by omega) (h _ _)
theorem finds {Q : Value → Shared → Prop} {i : Int} (e : Txt.find x y = i) (h : ∀ t' k, Q (.int i t') { s with toks := k }) : wpAny (model prog w) A (call (.builtin "str.find") [.str x t, .str y u]) Q E s := KXw.find e h
theorem finds3 {Q : Value → Shared → Prop} {i j : Int} {v : Tok} (e : Txt.find3 x y j = i) (h : ∀ t' k, Q (.int i t') { s with toks := k }) : wpAny (model prog w) A (call (.builtin "str.find") [.str x t, .str y u, .int j v]) Q E s := PySem.SC.find3 (by rw [e]; exact h _ _)
theorem intOf {Q : Value → Shared → Prop} {n : Int} (e : PySem.intText? x = some n) (hl : x.length ≤ 640) (h : ∀ t' k, Q (.int n t') { s with toks := k }) : wpAny (model prog w) A (call (.type "int") [.str x t]) Q E s := KIN.call_text e hl (h _ _)
theorem splits {Q : Value → Shared → Prop} {ys : List PySem.Str} (hF : Fr h₀ L s.heap m) (hN : News h₀ L s.heap news) (hy : y.length ≠ 0) (e : Txt.split x y = ys) (hz : x.length ≤ 1000000)
    (h : ∀ a vs h' k, StrsAre vs ys → Fr h₀ L h' m → News h₀ L h' ((a, W.listOf vs.toArray 0) :: news) → (∀ p ∈ news, p.1 < a) → Q (.ref a) { s with heap := h', toks := k }) :
    wpAny (model prog w) A (call (.builtin "str.split") [.str x t, .str y u]) Q E s :=
  splitN1A hF hN (by simpa using hy) (fun l h' k el hs _ _ F' N' => by
    have e2 : l.map (·.1) = ys := el.trans e
    rw [e2] at hs
    exact h _ _ h' k hs F' N' (fun p hp => Heap.lt_size (hN p hp).1)) (by rw [sizeLine_eq]; omega)
theorem news_isList {a : Addr} {vs : List Value} {n : Nat} (N : News h₀ L s.heap news) (hm : (a, W.listOf vs.toArray n) ∈ news) : s.heap.IsList a vs.toArray := ⟨_, N.get hm, rfl, n, rfl⟩
theorem truthy_lt {a : Addr} {vs : List Value} {n : Nat} {Q : Bool → Shared → Prop} (N : News h₀ L s.heap news) (hm : (a, W.listOf vs.toArray n) ∈ news) (hne : vs ≠ []) (hz : vs.length ≤ 1000000) (hq : Q true { s with toks := s.toks + 1 + 1 }) :
    wpAny (model prog w) A (truthy (.ref a)) Q E s :=
  wpAny_truthy_list (news_isList N hm) (by simp; omega) (by
    have : (!vs.toArray.isEmpty) = true := by simp [hne]
    rw [this]; exact hq)
theorem item_last {a : Addr} {vs us : List Value} {v : Value} {n : Nat} {Q : Value → Shared → Prop} (N : News h₀ L s.heap news) (hm : (a, W.listOf vs.toArray n) ∈ news) (e : vs = us ++ [v]) (hz : vs.length ≤ 1000000) (hq : Q v s)
    (hs : subscripted slice false (.ref a) (.int (-1) t) = operate [.ref a, .int (-1) t] (getItem (.ref a) (.int (-1) t)) := by with_unfolding_all rfl) (hg : ∀ r, letTemporaryGo value (.ref a) r = pure () := by intro _; with_unfolding_all rfl) :
    wpAny (model prog w) A (subscriptTail value slice (.ref a) (.int (-1) t)) Q E s := by
  have hl := news_isList N hm
  subst e
  refine subscriptTail_builtin hl.typeIs slot_list_getitem.lookup (wpAny_getItem_list_neg hl (by decide) (by simp; omega) (by decide) ?_ hq) hs hg
  have : ((-1 : Int) + ((us ++ [v]).toArray.size : Nat)).toNat = us.length := by simp; omega
  rw [this]; simp
theorem item_at {a : Addr} {vs : List Value} {v : Value} {n : Nat} {k : Int} {Q : Value → Shared → Prop} (N : News h₀ L s.heap news) (hm : (a, W.listOf vs.toArray n) ∈ news) (h0 : 0 ≤ k) (hfit : k < 2 ^ 63) (e : vs[k.toNat]? = some v) (hq : Q v s)
    (hs : subscripted slice false (.ref a) (.int k t) = operate [.ref a, .int k t] (getItem (.ref a) (.int k t)) := by with_unfolding_all rfl) (hg : ∀ r, letTemporaryGo value (.ref a) r = pure () := by intro _; with_unfolding_all rfl) :
    wpAny (model prog w) A (subscriptTail value slice (.ref a) (.int k t)) Q E s :=
  item_list (news_isList N hm) h0 hfit (by simpa using e) hq hs hg
theorem joins {a : Addr} {vs : List Value} {ys : List PySem.Str} {n : Nat} {Q : Value → Shared → Prop} (N : News h₀ L s.heap news) (hm : (a, W.listOf vs.toArray n) ∈ news) (hi : StrsAre vs ys) (e : Txt.join x ys = z)
    (hok : (ys.map (·.length)).sum + ys.length * x.length ≤ 16777216) (h : ∀ t' k, Q (.str z t') { s with toks := k }) : wpAny (model prog w) A (call (.builtin "str.join") [.str x t, .ref a]) Q E s :=
  join_list (news_isList N hm) (by simpa using hi) hok (by rw [e]; exact h)
theorem pops {D : Addr} {vs us : List Value} {v : Value} {n : Nat} {news' : List (Addr × Obj)} {Q : Value → Shared → Prop} (F : Fr h₀ L s.heap m) (N : News h₀ L s.heap news) (e : vs = us ++ [v]) (hz : vs.length ≤ 1000000) (U : Upd D (W.listOf vs.toArray n) (W.listOf us.toArray (n + 1)) news news')
    (h : ∀ h', Fr h₀ L h' m → News h₀ L h' news' → Q v { s with heap := h' }) : wpAny (model prog w) A (call (.builtin "list.pop") [.ref D]) Q E s :=
  kl_pop F N (by subst e; exact kpa_last _ _) U (by simp only [List.toList_toArray]; exact sz hz) h
theorem strsAre_snoc {vs : List Value} {ys : List PySem.Str} {y : PySem.Str} (h : StrsAre vs (ys ++ [y])) : ∃ us t, vs = us ++ [.str y t] ∧ StrsAre us ys := by
  induction ys generalizing vs with
  | nil =>
    cases h with
    | cons y t r => cases r; exact ⟨[], t, rfl, .nil⟩
  | cons z ys ih =>
    cases h with
    | cons _ t r =>
      obtain ⟨us, t', rfl, hu⟩ := ih r
      exact ⟨.str z t :: us, t', rfl, .cons z t hu⟩
theorem strsAre_push {vs : List Value} {ys : List PySem.Str} {y : PySem.Str} {t : Tok} (h : StrsAre vs ys) : StrsAre (vs ++ [.str y t]) (ys ++ [y]) := by
  induction h with
  | nil => exact .cons y t .nil
  | cons z t' _ ih => exact .cons z t' ih
theorem strsAre_len {vs : List Value} {ys : List PySem.Str} (h : StrsAre vs ys) : vs.length = ys.length := by
  induction h with
  | nil => rfl
  | cons z t' _ ih => simp [ih]
theorem strsAre_get {vs : List Value} {ys : List PySem.Str} (h : StrsAre vs ys) {i : Nat} {v : Value} (e : vs[i]? = some v) : ∃ y t, ys[i]? = some y ∧ v = .str y t := by
  induction h generalizing i with
  | nil => simp at e
  | cons z t' _ ih =>
    cases i with
    | zero => simp at e; exact ⟨z, t', by simp, e.symm⟩
    | succ i => simp at e; obtain ⟨y, t, h1, h2⟩ := ih e; exact ⟨y, t, by simpa using h1, h2⟩
theorem strsAre_at {vs : List Value} {ys : List PySem.Str} (h : StrsAre vs ys) {i : Nat} {y : PySem.Str} (e : ys[i]? = some y) : ∃ t, vs[i]? = some (.str y t) := by
  induction h generalizing i with
  | nil => simp at e
  | cons z t' _ ih =>
    cases i with
    | zero => simp at e; exact ⟨t', by simp [e]⟩
    | succ i => simp at e; obtain ⟨t, h1⟩ := ih e; exact ⟨t, by simpa using h1⟩
end
end

section
set_option Elab.async false
section
variable {prog : Program} {w : World} {A : Around} {E : Value → Shared → Prop} {s : Shared} {env : Env} {h₀ : Heap} {x : Str} {body : List Stmt} {Q : Flow → Shared → Prop}

/-- the end of a turn -/
noncomputable def TurnEnd {σ : Type} (h₀ : Heap) (L : Addr) (x : Str) (m₀ : Str → Option Value) (Led : σ → List (Addr × Obj)) (cst : List (Addr × Obj)) (stored : List Str) (adr : List Addr) (J : σ → List (Addr × Obj) → Prop) (tl own : List (Addr × Obj)) (s₁ s₂ : Shared) : Prop :=
  ∃ h' tk m' c add, s₂ = { s₁ with heap := h', toks := tk } ∧ Fr h₀ L h' m' ∧ News h₀ L h' (Led c ++ (cst ++ (add ++ (tl ++ own)))) ∧ OwnOff add adr ∧ OwnOff own (add.map (·.1)) ∧ (∀ z, z ≠ x → stored.contains z = false → m' z = m₀ z) ∧ J c (add ++ tl)
noncomputable def TurnPost {σ : Type} (h₀ : Heap) (L : Addr) (x : Str) (m₀ : Str → Option Value) (Led : σ → List (Addr × Obj)) (cst : List (Addr × Obj)) (stored : List Str) (adr : List Addr) (J : σ → List (Addr × Obj) → Prop) (tl own : List (Addr × Obj)) (s₁ : Shared) (Q : Flow → Shared → Prop) (f : Flow) (s₂ : Shared) : Prop :=
  match f with
  | .ret v => Q (.ret v) s₂
  | .brk => Q .next s₂
  | _ => TurnEnd h₀ L x m₀ Led cst stored adr J tl own s₁ s₂
theorem own_app {a b : List (Addr × Obj)} {adr : List Addr} (h1 : OwnOff a adr) (h2 : OwnOff b adr) : OwnOff (a ++ b) adr := fun p hp b' hb =>
  (List.mem_append.mp hp).elim (fun h => h1 p h b' hb) (fun h => h2 p h b' hb)

set_option maxHeartbeats 1600000 in
theorem for_led {σ : Type} {l : Addr} {vs : List Value} {nn : Nat} {m₀ : Str → Option Value} {news : List (Addr × Obj)} (Led : σ → List (Addr × Obj)) (cst : List (Addr × Obj)) (stored : List Str) (J : Nat → σ → List (Addr × Obj) → Prop) (adr : List Addr) (c₀ : σ)
    (hh : A.handled = none) (F : Fr h₀ env.locals s.heap m₀) (N : News h₀ env.locals s.heap news) (hn : ∀ p ∈ Led c₀ ++ cst, p ∈ news) (hl : (l, W.listOf vs.toArray nn) ∈ cst) (hadr : ∀ c, (Led c ++ cst).map (·.1) = adr) (hj : J 0 c₀ [])
    (turn : ∀ i v c tl (u : Str → Option Value) h tk own, vs[i]? = some v → OwnOff own adr → OwnOff own (tl.map (·.1)) → OwnOff tl adr → J i c tl → Fr h₀ env.locals h (fun y => if y = x then some v else if stored.contains y then u y else m₀ y) → News h₀ env.locals h (Led c ++ (cst ++ (tl ++ own))) →
      wpAny (model prog w) A (execs body env) (TurnPost h₀ env.locals x m₀ Led cst stored adr (J (i + 1)) tl own { s with heap := h, toks := tk } Q) E { s with heap := h, toks := tk })
    (done : ∀ c tl (u : Str → Option Value) h tk, OwnOff tl adr → J vs.length c tl → Fr h₀ env.locals h (fun y => if y = x then u y else if stored.contains y then u y else m₀ y) → News h₀ env.locals h (Led c ++ (cst ++ tl)) → Q .next { s with heap := h, toks := tk }) :
    wpAny (model prog w) A (pyIter (.ref l)) (fun it s₂ => LoopAtV prog w A h₀ env x body Q E it s₂) E s := by
  have split : ∀ c tl, (Led c ++ (cst ++ tl)).map (·.1) = adr ++ tl.map (·.1) := fun c tl => by rw [← List.append_assoc, List.map_append, hadr c]
  refine kdl_iter (news := Led c₀ ++ (cst ++ [])) (nn := nn) (fun i m nx => ∃ c tl, nx = Led c ++ (cst ++ tl) ∧ OwnOff tl adr ∧ (∀ z, z ≠ x → stored.contains z = false → m z = m₀ z) ∧ J i c tl) hh
    (List.mem_append.mpr (.inr (List.mem_append.mpr (.inl hl)))) F (fun p hp => N p (hn p (by simpa using hp))) ⟨c₀, [], rfl, fun _ hp => (nomatch hp), fun _ _ _ => rfl, hj⟩ ?_ ?_
  · rintro i v m₁ nx h tk own hv hoff _ ⟨c, tl, rfl, ht, hm, hJ⟩ F₁ N₁
    have e : (fun y => if y = x then some v else m₁ y) = fun y => if y = x then some v else if stored.contains y then m₁ y else m₀ y := by
      funext y
      by_cases h1 : y = x
      · simp [h1]
      · simp only [if_neg h1]
        cases h2 : stored.contains y with
        | true => simp
        | false => simp only [Bool.false_eq_true, if_false]; exact hm y h1 h2
    rw [e] at F₁
    have hof : OwnOff own (adr ++ tl.map (·.1)) := by rw [← split c tl]; exact hoff
    have ho1 : OwnOff own adr := fun p hp b hb => hof p hp b (List.mem_append.mpr (.inl hb))
    have ho2 : OwnOff own (tl.map (·.1)) := fun p hp b hb => hof p hp b (List.mem_append.mpr (.inr hb))
    have N₂ : News h₀ env.locals h (Led c ++ (cst ++ (tl ++ own))) := by simpa only [List.append_assoc] using N₁
    refine wpAny_mono (turn i v c tl m₁ h tk own hv ho1 ho2 ht hJ F₁ N₂) (fun f s₂ p => ?_) fun _ _ z => z
    have fin : TurnEnd h₀ env.locals x m₀ Led cst stored adr (J (i + 1)) tl own { s with heap := h, toks := tk } s₂ →
        InvEndG h₀ env.locals (fun m' nx => (l, W.listOf vs.toArray nn) ∈ nx ∧ ∃ c tl, nx = Led c ++ (cst ++ tl) ∧ OwnOff tl adr ∧ (∀ z, z ≠ x → stored.contains z = false → m' z = m₀ z) ∧ J (i + 1) c tl) own { s with heap := h, toks := tk } s₂ := by
      rintro ⟨h', tk', m', c', add, e', F', N', ha, hoa, hm', hJ'⟩
      refine ⟨h', tk', m', _, Led c' ++ (cst ++ (add ++ tl)), e', F', N', ?_, ?_, ?_, ?_⟩
      · intro p hp
        rcases List.mem_append.mp hp with h | h
        · exact List.mem_append.mpr (.inl h)
        · rcases List.mem_append.mp h with h | h
          · exact List.mem_append.mpr (.inr (List.mem_append.mpr (.inl h)))
          · refine List.mem_append.mpr (.inr (List.mem_append.mpr (.inr ?_)))
            rw [← List.append_assoc]; exact List.mem_append.mpr (.inl h)
      · intro p hp
        exact List.mem_append.mpr (.inr (List.mem_append.mpr (.inr (List.mem_append.mpr (.inr (List.mem_append.mpr (.inr hp)))))))
      · rw [split, List.map_append]
        intro p hp b hb
        rcases List.mem_append.mp hb with hb | hb
        · exact ho1 p hp b hb
        · rcases List.mem_append.mp hb with hb | hb
          · exact hoa p hp b hb
          · exact ho2 p hp b hb
      · exact ⟨List.mem_append.mpr (.inr (List.mem_append.mpr (.inl hl))), c', add ++ tl, rfl, own_app ha ht, hm', hJ'⟩
    cases f with
    | ret v => exact p
    | brk => exact p
    | next => exact fin p
    | cont => exact fin p
  · rintro m₁ nx h tk ⟨c, tl, rfl, ht, hm, hJ⟩ F₁ N₁
    refine done c tl m₁ h tk ht hJ ?_ N₁
    have e : (fun y => if y = x then m₁ y else if stored.contains y then m₁ y else m₀ y) = m₁ := by
      funext y
      by_cases h1 : y = x
      · simp [h1]
      · simp only [if_neg h1]
        cases h2 : stored.contains y with
        | true => simp
        | false => simp only [Bool.false_eq_true, if_false]; exact (hm y h1 h2).symm
    rw [e]; exact F₁

/-- the end of a turn that turns one list -/
noncomputable def OneEnd (h₀ : Heap) (L : Addr) (x : Str) (m₀ : Str → Option Value) (D : Addr) (cst : List (Addr × Obj)) (stored : List Str) (J : List Value → Prop) (own : List (Addr × Obj)) (s₁ s₂ : Shared) : Prop :=
  ∃ h' tk m' its k, s₂ = { s₁ with heap := h', toks := tk } ∧ Fr h₀ L h' m' ∧ News h₀ L h' ((D, W.listOf (List.toArray its) k) :: (cst ++ own)) ∧ (∀ z, z ≠ x → stored.contains z = false → m' z = m₀ z) ∧ J its
noncomputable def OnePost (h₀ : Heap) (L : Addr) (x : Str) (m₀ : Str → Option Value) (D : Addr) (cst : List (Addr × Obj)) (stored : List Str) (J : List Value → Prop) (own : List (Addr × Obj)) (s₁ : Shared) (Q : Flow → Shared → Prop) (f : Flow) (s₂ : Shared) : Prop :=
  match f with
  | .ret v => Q (.ret v) s₂
  | .brk => Q .next s₂
  | _ => OneEnd h₀ L x m₀ D cst stored J own s₁ s₂
theorem OneEnd.intro {L : Addr} {m₀ m' : Str → Option Value} {D : Addr} {cst : List (Addr × Obj)} {stored : List Str} {J : List Value → Prop} {own news : List (Addr × Obj)} {s₁ : Shared} {h' : Heap} {tk : Nat} {its : Array Value} {k : Nat}
    (F : Fr h₀ L h' m') (N : News h₀ L h' news) (hm : (D, W.listOf its k) ∈ news) (hc : ∀ p ∈ cst, p ∈ news) (ho : ∀ p ∈ own, p ∈ news) (hk : ∀ z, z ≠ x → stored.contains z = false → m' z = m₀ z) (hj : J its.toList) :
    OneEnd h₀ L x m₀ D cst stored J own s₁ { s₁ with heap := h', toks := tk } :=
  ⟨h', tk, m', its.toList, k, rfl, F, fun p hp => by
    rcases List.mem_cons.mp hp with rfl | hp
    · exact N _ hm
    · exact (List.mem_append.mp hp).elim (fun h => N p (hc p h)) fun h => N p (ho p h), hk, hj⟩
theorem for_one {l D : Addr} {vs : List Value} {nn k₀ : Nat} {its₀ : Array Value} {m₀ : Str → Option Value} {cst : List (Addr × Obj)} (stored : List Str) (J : Nat → List Value → Prop)
    (hh : A.handled = none) (F : Fr h₀ env.locals s.heap m₀) (N : News h₀ env.locals s.heap ((D, W.listOf its₀ k₀) :: cst)) (hl : (l, W.listOf vs.toArray nn) ∈ cst) (hj : J 0 its₀.toList)
    (turn : ∀ i v its k (u : Str → Option Value) h tk own, vs[i]? = some v → OwnOff own (D :: cst.map (·.1)) → J i its → Fr h₀ env.locals h (fun y => if y = x then some v else if stored.contains y then u y else m₀ y) → News h₀ env.locals h ((D, W.listOf (List.toArray its) k) :: (cst ++ own)) →
      wpAny (model prog w) A (execs body env) (OnePost h₀ env.locals x m₀ D cst stored (J (i + 1)) own { s with heap := h, toks := tk } Q) E { s with heap := h, toks := tk })
    (done : ∀ its k (u : Str → Option Value) h tk, J vs.length its → Fr h₀ env.locals h (fun y => if y = x then u y else if stored.contains y then u y else m₀ y) → News h₀ env.locals h ((D, W.listOf (List.toArray its) k) :: cst) → Q .next { s with heap := h, toks := tk }) :
    wpAny (model prog w) A (pyIter (.ref l)) (fun it s₂ => LoopAtV prog w A h₀ env x body Q E it s₂) E s := by
  refine for_led (σ := List Value × Nat) (nn := nn) (fun c => [(D, W.listOf (List.toArray c.1) c.2)]) cst stored (fun i c tl => tl = [] ∧ J i c.1) (D :: cst.map (·.1)) (its₀.toList, k₀) hh F N ?_ hl ?_ ⟨rfl, hj⟩ ?_ ?_
  · intro p hp; simpa using hp
  · intro c; rfl
  · rintro i v ⟨its, k⟩ tl u h tk own hv ho _ _ ⟨rfl, hJ⟩ F₁ N₁
    refine wpAny_mono (turn i v its k u h tk own hv ho hJ F₁ (by simpa using N₁)) (fun f s₂ p => ?_) fun _ _ z => z
    have fin : OneEnd h₀ env.locals x m₀ D cst stored (J (i + 1)) own { s with heap := h, toks := tk } s₂ →
        TurnEnd h₀ env.locals x m₀ (fun c : List Value × Nat => [(D, W.listOf (List.toArray c.1) c.2)]) cst stored (D :: cst.map (·.1)) (fun c tl => tl = [] ∧ J (i + 1) c.1) [] own { s with heap := h, toks := tk } s₂ := by
      rintro ⟨h', tk', m', its', k', e, F', N', hm, hJ'⟩
      exact ⟨h', tk', m', (its', k'), [], e, F', by simpa using N', fun _ hp => (nomatch hp), fun _ _ _ hb => (nomatch hb), hm, rfl, hJ'⟩
    cases f with
    | ret v => exact p
    | brk => exact p
    | next => exact fin p
    | cont => exact fin p
  · rintro ⟨its, k⟩ tl u h tk _ ⟨rfl, hJ⟩ F₁ N₁
    exact done its k u h tk hJ F₁ (by simpa using N₁)
end
/-- where the walk is to stop -/
noncomputable def Halt (P : Prop) : Prop := P
theorem Halt.out {P : Prop} (h : Halt P) : P := h
end

section
open PySem.Builtin PySem.Builtin.Str
set_option Elab.async false
theorem getD_tx (l : List Nat) (i : Nat) : (tx l).cps.getD i 0 = l.getD i 0 := by simp [tx, Array.getD_eq_getD_getElem?]
theorem find_tx (a b : List Nat) (c : Nat) (i : Nat) (hi : i ≤ a.length) (hn : ∀ v, i ≤ v → v < a.length → a.getD v 0 ≠ c) : Txt.find3 (tx (a ++ c :: b)) (tx [c]) (i : Int) = ((a.length : Nat) : Int) := by
  have hfi : fromIndex (tx (a ++ c :: b)).length (i : Int) = i := by unfold fromIndex; rw [if_neg (by omega)]; omega
  have hc : (a ++ c :: b).getD a.length 0 = c := by simp [List.getD]
  rcases StrLaws.find3_spec (tx (a ++ c :: b)) c (i : Int) with ⟨_, h⟩ | ⟨k, h1, h2, h3, h4, h5⟩
  · exact absurd (by rw [getD_tx]; exact hc) (h a.length (by rw [hfi]; exact hi) (by rw [tx_len]; simp))
  · rw [hfi] at h2 h5
    rw [getD_tx] at h4
    have hk : k = a.length := by
      rcases Nat.lt_trichotomy k a.length with hlt | he | hgt
      · exact absurd (by rw [← h4]; simp [List.getD, List.getElem?_append_left hlt]) (hn k h2 hlt)
      · exact he
      · exact absurd (by rw [getD_tx]; exact hc) (h5 a.length hi hgt)
    rw [← hk]; exact h1
theorem find_tx0 (a b : List Nat) (c : Nat) (hn : c ∉ a) : Txt.find (tx (a ++ c :: b)) (tx [c]) = ((a.length : Nat) : Int) := by
  have h := find_tx a b c 0 (Nat.zero_le _) (fun v _ hv e => hn (by
    have : a.getD v 0 = a[v] := by simp [List.getD, hv]
    rw [this] at e; rw [← e]; exact List.getElem_mem hv))
  have e : Txt.find (tx (a ++ c :: b)) (tx [c]) = Txt.find3 (tx (a ++ c :: b)) (tx [c]) ((0 : Nat) : Int) := by
    unfold Txt.find Txt.find3
    rfl
  rw [e]; exact h
/-- the digits of a number -/
noncomputable def dg (n : Nat) : List Nat := (Nat.toDigits 10 n).map Char.toNat
theorem dg_str (n : Nat) : PySem.Str.ofString (toString ((n : Nat) : Int)) = tx (dg n) := by
  rw [← tx_of (PySem.Str.ofString (toString ((n : Nat) : Int))), PySem.W.KIN.signs_num]; rfl
theorem dg_mem {n c : Nat} (h : c ∈ dg n) : 48 ≤ c ∧ c ≤ 57 := by
  obtain ⟨ch, hch, e⟩ := List.mem_map.mp h
  have r := digit_range (Nat.isDigit_of_mem_toDigits (by decide) (by decide) hch)
  rw [← e]; exact r
theorem dg_len {n : Nat} (h : n < 65536) : (dg n).length ≤ 10 := by
  have := PySem.W.KT.len_num (n := (n : Int)) (by omega) (by omega)
  rw [dg_str, tx_len] at this
  omega
theorem dg_reads {n : Nat} (h : n < 65536) : PySem.intText? (tx (dg n)) = some (n : Int) := by
  rw [← dg_str]; exact PySem.W.KIN.num_reads (by omega) (by omega)
theorem strs5 {vs : List Value} {a b c d e : PySem.Str} (h : StrsAre vs [a, b, c, d, e]) : ∃ t1 t2 t3 t4 t5, vs = [.str a t1, .str b t2, .str c t3, .str d t4, .str e t5] := by
  cases h with
  | cons _ t1 h => cases h with
    | cons _ t2 h => cases h with
      | cons _ t3 h => cases h with
        | cons _ t4 h => cases h with
          | cons _ t5 h => cases h; exact ⟨t1, t2, t3, t4, t5, rfl⟩
/-- the reply of parse229 -/
noncomputable def rep229 (m n : Nat) : List Nat := [50, 50, 57, 32, 103, 111, 32, 40] ++ (m :: m :: m :: (dg n ++ [m, 41]))
theorem rep229_find (m n : Nat) : Txt.find (tx (rep229 m n)) (PySem.Str.ofString "(") = 7 := by
  rw [show PySem.Str.ofString "(" = tx [40] from by decide +kernel]
  exact find_tx0 [50, 50, 57, 32, 103, 111, 32] (m :: m :: m :: (dg n ++ [m, 41])) 40 (by decide)
theorem rep229_find3 (m n : Nat) (hm : m ≠ 41) : Txt.find3 (tx (rep229 m n)) (PySem.Str.ofString ")") (7 + 1) = 12 + ((dg n).length : Int) := by
  rw [show PySem.Str.ofString ")" = tx [41] from by decide +kernel]
  have e : rep229 m n = ([50, 50, 57, 32, 103, 111, 32, 40] ++ (m :: m :: m :: (dg n ++ [m]))) ++ 41 :: [] := by simp [rep229]
  rw [e]
  have := find_tx ([50, 50, 57, 32, 103, 111, 32, 40] ++ (m :: m :: m :: (dg n ++ [m]))) [] 41 8 (by simp) ?_
  · rw [show ((7 : Int) + 1) = ((8 : Nat) : Int) from rfl, this]; simp; omega
  · intro v h1 h2 h3
    have hv : (m :: m :: m :: (dg n ++ [m])).getD (v - 8) 0 = 41 := by
      rw [← h3]; simp only [List.getD]; rw [List.getElem?_append_right (by simpa using h1)]; simp
    have hlt : v - 8 < (m :: m :: m :: (dg n ++ [m])).length := by simp at h2 ⊢; omega
    have : 41 ∈ (m :: m :: m :: (dg n ++ [m])) := by
      rw [← hv]; simp only [List.getD, List.getElem?_eq_getElem hlt]; exact List.getElem_mem hlt
    simp only [List.mem_cons, List.mem_append, List.not_mem_nil, or_false] at this
    rcases this with h | h | h | h | h
    · exact hm h.symm
    · exact hm h.symm
    · exact hm h.symm
    · have := dg_mem h; omega
    · exact hm h.symm
theorem rep229_len (m n : Nat) : (rep229 m n).length = 13 + (dg n).length := by simp [rep229]; omega
end

section
set_option Elab.async false
/-- a def entered, the objects handed to it laid into its own ledger -/
theorem enterN {prog : Program} {w : World} {A : Around} {E : Value → Shared → Prop} {s : Shared} {Q : Value → Shared → Prop} {K : Frag} {name qual : Str} {params : Arguments} {body : List Stmt} {scope : Scope} {dV kV doc pm cdv ct oc : Value} {an od : Option Addr} {osl : Array (Option Value)} {f : Addr} {vs : List Value} {binds : List (Str × Value)}
    {p : Program} {loose : List Str} {mean : ExcName → Option Value} {mg mb : Str → Option Value} {B : Heap} {objs : List (Addr × Obj)}
    (hB : ∀ b o, B.get? b = some o → s.heap.get? b = some o) (hobj : ∀ p ∈ objs, s.heap.get? p.1 = some p.2 ∧ B.get? p.1 = none)
    (X₀ : K.In B) (T : Top p loose mean mg mb B) (hroom : A.depth < recursionLimit)
    (ho : K.lookup f = some ⟨oc, od, .func (fnOf name qual params body scope dV kV doc pm an cdv ct), osl⟩) (hcd : codeIn K cdv qual = true)
    (hbind : BindsTo s (fnOf name qual params body scope dV kV doc pm an cdv ct) ⟨vs, []⟩ binds) (hloc : ∀ y ∈ binds, scope.names.lookup y.1 = some .local)
    (h : ∀ g L h₁, (∀ b o, B.get? b = some o → g.get? b = some o) → (∀ b o, s.heap.get? b = some o → (∀ p ∈ objs, b ≠ p.1) → g.get? b = some o) → Fr g L h₁ (fun y => binds.reverse.lookup y) → News g L h₁ objs →
      wpAny (model prog w) (A.deeper (envOf qual scope L f cdv)) (execs body (envOf qual scope L f cdv))
        (fun fl s' => Q (match fl with | .ret v => v | _ => .none) s') (fun _ _ => False)
        { s with heap := h₁, toks := s.toks + binds.length })
    (hco : scope.isCoroutine = false) (hgen : scope.isGenerator = false) (hk : scope.kind = .function)
    (hcell : ∀ x ∈ scope.names, x.2 ≠ .cell) : wpAny (model prog w) A (call (.ref f) vs) Q E s := by
  refine wpAny_call ?_
  have X : K.In s.heap := X₀.keeps hB
  refine codeAny_call_def (fd := fnX name qual params body scope [] dV kV doc pm an cdv ct) (body := body) (binds := binds) hroom (X _ _ ho) rfl ((T.keeps hB).nolimit) (codeRec_of X hcd) rfl hbind hcell hloc (fun h₁ hns hk₁ => ?_) hco hgen hk
  refine wpAny_mono (h (hideAll s.heap (objs.map (·.1))) _ h₁ (fun b o e => hideAll_get _ (hB b o e) fun hb => ?_) (fun b o e hne => hideAll_get _ e fun hb => ?_) ⟨hns, fun b o e => hk₁ b o (of_hideAll _ e), Nat.le_of_eq (hideAll_size _ _)⟩ (fun p hp => ⟨hk₁ _ _ (hobj p hp).1, Nat.ne_of_lt (Heap.lt_size (hobj p hp).1), hideAll_none _ (List.mem_map_of_mem hp)⟩)) (fun fl s' hl => hl) fun _ _ y => y.elim
  · obtain ⟨q, hq, rfl⟩ := List.mem_map.mp hb
    rw [(hobj q hq).2] at e; cases e
  · obtain ⟨q, hq, rfl⟩ := List.mem_map.mp hb
    exact hne q hq rfl
/-- what a callee that was entered so keeps -/
theorem keepsN {s : Shared} {g h' : Heap} {L : Addr} {m' : Str → Option Value} {objs news' : List (Addr × Obj)} (hobj : ∀ p ∈ objs, s.heap.get? p.1 = some p.2)
    (hg : ∀ b o, s.heap.get? b = some o → (∀ p ∈ objs, b ≠ p.1) → g.get? b = some o) (F : Fr g L h' m') (N : News g L h' news') (hm : ∀ p ∈ objs, p ∈ news') : ∀ b o, s.heap.get? b = some o → h'.get? b = some o := by
  intro b o e
  by_cases hb : ∃ p ∈ objs, b = p.1
  · obtain ⟨p, hp, rfl⟩ := hb
    rw [hobj p hp] at e; cases e
    exact (N p (hm p hp)).1
  · exact F.keep b o (hg b o e fun p hp h => hb ⟨p, hp, h⟩)
theorem freshN {s : Shared} {g h' : Heap} {L a : Addr} {o : Obj} {objs news' : List (Addr × Obj)} (hg : ∀ b o, s.heap.get? b = some o → (∀ p ∈ objs, b ≠ p.1) → g.get? b = some o) (N : News g L h' news') (hm : (a, o) ∈ news') (hne : ∀ p ∈ objs, a ≠ p.1) : s.heap.get? a = none := by
  cases e : s.heap.get? a with
  | none => rfl
  | some o' =>
    have := hg a o' e hne
    rw [N.fresh hm] at this; cases this
end

local macro_rules | `(tactic| walk_at "lt") => `(tactic| with_reducible (first | assumption | (apply Cj.al; (iterate 18 (first | done | assumption | apply Cj.ar)); done) | ((iterate 18 (first | done | assumption | apply Cj.ar)); done)))
local macro_rules | `(tactic| k_ne) => `(tactic| (refine neN ?_; (try dsimp only); first | (refine Nat.ne_of_lt ?_; walk_at "lt") | (refine Nat.ne_of_gt ?_; walk_at "lt") | (refine Ne.symm ?_; walk_at "lt")))
local macro_rules | `(tactic| walk_at "cF") => `(tactic| any_goals (first | ((with_reducible first | show Fr _ _ _ _ | show News _ _ _ _); k_asm) | ((with_reducible first | show Frag.In _ _ | show KNin _ _ | show Top _ _ _ _ _ _); assumption) | ((with_reducible show LE.le _ _); exact Nat.le_of_ble_eq_true rfl) | ((with_reducible show Around.handled _ = none); exact rfl)))
local macro_rules | `(tactic| walk_at "c1") => `(tactic| (k_whole; intros; (try dsimp only); (try k_fold)))
local macro_rules | `(tactic| walk_at "call ref") => `(tactic| (k_here; (with_reducible refine' fspath_ ..); (with_unfolding_all (walk_at "cF"; walk_at "c1"))))
local macro_rules | `(tactic| walk_at "call ref") => `(tactic| (k_here; (with_reducible refine' get_sep_ ..); (with_unfolding_all (walk_at "cF"; walk_at "c1"))))
local macro_rules | `(tactic| walk_at "truthy str") => `(tactic| (k_here; first | (refine truthy_t (by assumption) (by assumption) ?_) | (refine truthy_n (by assumption) ?_)))
local macro_rules | `(tactic| walk_at "compareOp Eq str str") => `(tactic| (k_here; first | (refine eqs_true (by first | assumption | decide +kernel) ?_) | (refine eqs_false (by first | assumption | decide +kernel) ?_)))
local macro_rules | `(tactic| walk_at "compareOp NotEq str str") => `(tactic| (k_here; first | (refine nes_false (by first | assumption | decide +kernel) ?_) | (refine nes_true (by first | assumption | decide +kernel) ?_)))
local macro_rules | `(tactic| walk_at "subscriptTail Name Slice str ref") => `(tactic| ((with_reducible show wpAny _ _ (subscriptTail _ (Expr.Slice none (some _) none _) _ _) _ _ _); (with_reducible rename Fr _ _ _ _ => F'); (with_reducible rename News _ _ _ _ => N'); (refine sl_ns (s := ⟨_, _, _, _, _⟩) F' N' (by assumption) (by assumption) ?_); intro _ _ _ _ _))
local macro_rules | `(tactic| walk_at "subscriptTail Name Slice str ref") => `(tactic| ((with_reducible show wpAny _ _ (subscriptTail _ (Expr.Slice (some _) none none _) _ _) _ _ _); (with_reducible rename Fr _ _ _ _ => F'); (with_reducible rename News _ _ _ _ => N'); (refine sl_sn (s := ⟨_, _, _, _, _⟩) F' N' (by assumption) (by assumption) ?_); intro _ _ _ _ _))
local macro_rules | `(tactic| walk_at "subscriptTail Name Slice str ref") => `(tactic| ((with_reducible show wpAny _ _ (subscriptTail _ (Expr.Slice (some _) (some _) none _) _ _) _ _ _); (with_reducible rename Fr _ _ _ _ => F'); (with_reducible rename News _ _ _ _ => N'); (refine sl_ss (s := ⟨_, _, _, _, _⟩) F' N' (by assumption) (by assumption) ?_); intro _ _ _ _ _))
local macro_rules | `(tactic| walk_at "binaryOp Add str str") => `(tactic| (k_here; (refine adds (by assumption) (by assumption) ?_); intro _ _))
local macro_rules | `(tactic| walk_at "truthy ref") => `(tactic| (k_here; (with_reducible show wpAny _ _ (truthy (Value.ref _)) _ _ _); (refine' truthy_lt ?N ?m ?e ?z ?_; (case N => k_asm); (case m => k_mem); (case e => assumption); (case z => assumption); k_whole)))
local macro_rules | `(tactic| walk_at "subscriptTail Name Name str int") => `(tactic| (k_here; (with_reducible show wpAny _ _ (subscriptTail _ _ (Value.str (tx _) _) (Value.int _ _)) _ _ _); (with_unfolding_all refine' item_s ?a ?b ?e ?_; (case a => omega); (case b => omega); (case e => assumption); k_whole); intro _ _))
local macro_rules | `(tactic| walk_at "call builtin:len") => `(tactic| (k_here; (with_reducible show wpAny _ _ (call (Value.builtin "len") [Value.str (tx _) _]) _ _ _); (refine len_s (by assumption) ?_); intro _ _))
local macro_rules | `(tactic| walk_at "compareOp Lt int int") => `(tactic| (k_here; first | (refine ltI_t (by omega) ?_) | (refine ltI_f (by omega) ?_)))
local macro_rules | `(tactic| walk_at "compareOp Gt int int") => `(tactic| (k_here; first | (refine gtI_t (by omega) ?_) | (refine gtI_f (by omega) ?_)))
local macro_rules | `(tactic| walk_at "compareOp GtE int int") => `(tactic| (k_here; first | (refine geI_t (by omega) ?_) | (refine geI_f (by omega) ?_)))
local macro_rules | `(tactic| walk_at "compareOp NotEq int int") => `(tactic| (k_here; first | (refine neI_t (by omega) ?_) | (refine neI_f (by omega) ?_)))
local macro_rules | `(tactic| walk_at "subscriptTail Name BinOp str int") => `(tactic| (k_here; (with_reducible show wpAny _ _ (subscriptTail _ _ (Value.str (tx _) _) (Value.int _ _)) _ _ _); (with_unfolding_all refine' item_s ?a ?b ?e ?_; (case a => omega); (case b => omega); (case e => assumption); k_whole); intro _ _))
section
noncomputable abbrev tupOf (vs : Array Value) : Obj := { cls := .type "tuple", data := .seq vs }
set_option maxRecDepth 100000 in
set_option maxHeartbeats 0 in
theorem splitroot_x : ∀ (w : World) (p : Program) (loose : List Str) (mean : ExcName → Option Value) (mg mb : Str → Option Value) (s : Shared) (X : (fragK.heap_1 w.params).In s.heap) (XN : KNin w s.heap) (T : Top p loose mean mg mb s.heap) (r : List Nat) (t : Tok) (Q E : Value → Shared → Prop)
   (hr : r.take 1 ≠ [47]) (hl : (tx (47 :: r)).length ≤ 1000000)
   (hret : ∀ a t1 t2 t3 h' tk', (∀ b o, s.heap.get? b = some o → h'.get? b = some o) → s.heap.get? a = none → h'.get? a = some (tupOf #[.str (Str.ofString "") t1, .str (Str.ofString "/") t2, .str (tx r) t3]) → Q (.ref a) { s with heap := h', toks := tk' }),
   wpAny (model PySem.Challenge.rw_in0142_01.row.prog w) (AR 430 230) (call (.ref 196) [.str (tx (47 :: r)) t]) Q E s := by
  k_fill
  intro w p loose mean mg mb s X XN T r t Q E hr hl hret
  refine' enter (binds := [(Str.ofString "p", .str (tx (47 :: r)) t)]) X T.nolimit (by decide) ?k6 ?k7 ?k9 ?kB ?_ ?c2 ?c3 ?c4 ?c5
  case k6 => k_is
  case k7 => k_is
  case k9 => exact BindsTo.of_eq rfl
  case kB => exact locs rfl
  case c2 => exact rfl
  case c3 => exact rfl
  case c4 => exact rfl
  case c5 => decide
  intro L h1 F N
  have e1 : Txt.slice (tx (47 :: r)) none (some 1) = Str.ofString "/" := by rw [lit_slash]; exact slice_ns _ 1
  have e2 : Txt.slice (tx (47 :: r)) (some 1) (some 2) = tx (r.take 1) := slice_ss _ 1 2
  have e3 : tx (r.take 1) ≠ Str.ofString "/" := by rw [lit_slash]; exact fun e => hr (tx_inj e)
  have e4 : Txt.slice (tx (47 :: r)) (some 1) none = tx r := slice_sn _ 1
  try dsimp only
  try k_fold
  k_steps
  exact hret _ _ _ _ _ _ (Fr.keep (by assumption)) (News.fresh (by assumption) (.head _)) (News.get (by assumption) (.head _))

theorem put_new {h₀ h h' : Heap} {L : Addr} {m : Str → Option Value} {news : List (Addr × Obj)} {a : Addr} {o : Obj} (F : Fr h₀ L h m) (N : News h₀ L h news) (k : ∀ b o, h.get? b = some o → h'.get? b = some o) (hn : h.get? a = none) (ho : h'.get? a = some o) :
    Fr h₀ L h' m ∧ News h₀ L h' ((a, o) :: news) ∧ ∀ p ∈ news, p.1 ≠ a := by
  refine ⟨F.keeps k, fun p hp => ?_, fun p hp e => ?_⟩
  · rcases List.mem_cons.mp hp with rfl | hp
    · refine ⟨ho, fun e => ?_, ?_⟩
      · obtain ⟨oL, _, _, hL, _⟩ := F.ns
        rw [← e, hn] at hL; cases hL
      · cases hq : h₀.get? a with
        | none => rfl
        | some o' => rw [F.keep _ _ hq] at hn; cases hn
    · exact ⟨k _ _ (N p hp).1, (N p hp).2⟩
  · rw [← e, (N p hp).1] at hn; cases hn

section
variable {w : World} {A : Around} {E : Value → Shared → Prop} {s : Shared} {Q : Value → Shared → Prop} {h₀ : Heap} {L : Addr} {m : Str → Option Value} {news : List (Addr × Obj)} {p : Program} {loose : List Str} {mean : ExcName → Option Value} {mg mb : Str → Option Value}
theorem splitroot_ {r : List Nat} {t : Tok} (F : Fr h₀ L s.heap m) (N : News h₀ L s.heap news) (K : (fragK.heap_1 w.params).In h₀) (X : KNin w h₀) (T : Top p loose mean mg mb h₀) (hA : A.handled = none) (hd : A.depth ≤ 430) (hu : A.units ≤ 230)
    (hr : r.take 1 ≠ [47]) (hl : (tx (47 :: r)).length ≤ 1000000)
    (h : ∀ a t1 t2 t3 h' tk', Fr h₀ L h' m → News h₀ L h' ((a, tupOf #[.str (Str.ofString "") t1, .str (Str.ofString "/") t2, .str (tx r) t3]) :: news) → (∀ p ∈ news, p.1 ≠ a) → Q (.ref a) { s with heap := h', toks := tk' }) :
    wpAny (model PySem.Challenge.rw_in0142_01.row.prog w) A (call (.ref 196) [.str (tx (47 :: r)) t]) Q E s :=
  wk hA hd hu (splitroot_x w p loose mean mg mb s (K.keeps F.keep) (X.keeps F.keep) (T.keeps F.keep) r t Q E hr hl fun a t1 t2 t3 h' tk' k hn ho => by
    obtain ⟨F', N', hq⟩ := put_new F N k hn ho
    exact h a t1 t2 t3 h' tk' F' N' hq)
end
end

section
local macro_rules | `(tactic| walk_at "call ref") => `(tactic| (k_here; (with_reducible refine' splitroot_ ..); (with_unfolding_all (walk_at "cF"; assumption; assumption; walk_at "c1"))))
set_option maxRecDepth 100000 in
set_option maxHeartbeats 0 in
set_option pp.maxSteps 3000 in
theorem normpath_x : ∀ (w : World) (p : Program) (loose : List Str) (mean : ExcName → Option Value) (mg mb : Str → Option Value) (s : Shared) (X : (fragK.heap_1 w.params).In s.heap) (XN : KNin w s.heap) (T : Top p loose mean mg mb s.heap) (ps : List (List Nat)) (r : List Nat) (t : Tok) (Q E : Value → Shared → Prop)
   (hps : ps ≠ []) (hf : ∀ q ∈ ps, 47 ∉ q) (hj : r = jn 47 ps) (hr : r.take 1 ≠ [47]) (hl : (tx (47 :: r)).length ≤ 1000000)
   (hret : ∀ t' h' tk', (∀ b o, s.heap.get? b = some o → h'.get? b = some o) → Q (.str (tx (47 :: jn 47 (np ps))) t') { s with heap := h', toks := tk' }),
   wpAny (model PySem.Challenge.rw_in0142_01.row.prog w) (AR 420 220) (call (.ref 203) [.str (tx (47 :: r)) t]) Q E s := by
  k_fill
  intro w p loose mean mg mb s X XN T ps r t Q E hps hf hj hr hl hret
  refine' enter (binds := [(Str.ofString "path", .str (tx (47 :: r)) t)]) X T.nolimit (by decide) ?k6 ?k7 ?k9 ?kB ?_ ?c2 ?c3 ?c4 ?c5
  case k6 => k_is
  case k7 => k_is
  case k9 => exact BindsTo.of_eq rfl
  case kB => exact locs rfl
  case c2 => exact rfl
  case c3 => exact rfl
  case c4 => exact rfl
  case c5 => decide
  intro L h1 F N
  have e0 : (47 :: r : List Nat) ≠ [] := by simp
  have e1 : Txt.split (tx r) (Str.ofString "/") = ps.map tx := by rw [hj, lit_slash]; exact split_tx 47 hps hf
  have e2 : (tx r).length ≤ 1000000 := by rw [tx_len] at hl ⊢; simp at hl; omega
  try dsimp only
  try k_fold
  repeat' (first | (k_here; (with_reducible show wpAny _ _ (call (Value.builtin "str.split") [Value.str _ _, Value.str _ _]) _ _ _); (refine splits (by k_asm) (by k_asm) (by first | assumption | decide +kernel) (by assumption) (by assumption) ?_); intro a' vs' h' tk' hS' F' N' hlt') | (k_here; (with_reducible show wpAny _ _ (subscriptTail _ _ (Value.ref _) (Value.int (-1) _)) _ _ _); (with_unfolding_all refine' item_last ?qzN ?qzm ?qze ?qzz ?_; (case qzN => k_asm); (case qzm => k_mem); (case qze => assumption); (case qzz => assumption); k_whole)) | ((with_reducible show wpAny _ _ (call (Value.builtin "str.join") _ _) _ _ _); (k_here; (refine' joins ?qzN ?qzm ?qzi ?qze ?qzo ?_; (case qzN => k_asm); (case qzm => k_mem); (case qzi => assumption); (case qze => assumption); (case qzo => assumption); k_whole); intro _ _)) | ((with_reducible show wpAny _ _ (call (Value.builtin "list.pop") _ _) _ _ _); (k_here; k_dflt (refine' pops ?qzF ?qzN ?qze ?qzz ?qzU ?_; (case qzF => k_asm); (case qzN => k_asm); (case qze => assumption); (case qzz => assumption); (case qzU => k_upd); k_whole); intro h' F' N'; (try dsimp only [List.nil_append, List.cons_append] at N'))) | (k_unfold; (try dsimp only)) | (k_end; wrow_close) | walk1 | (dsimp only; walk1) | (leave1; walk_say "STEP leave1"; try dsimp only) | fail "no step")
  (rename Fr _ _ _ _ => F9); (rename News _ _ _ _ => N9); (rename StrsAre _ _ => hS)
  (with_unfolding_all refine' for_one (s := ⟨_, _, _, _, _⟩) [] (fun i its => StrsAre its ((np (ps.take i)).map tx)) ?hh F9 N9 ?hl ?hj ?turn ?done)
  case hh => exact rfl
  case hl => k_mem
  case hj => exact StrsAre.nil
  case done =>
    intro its k u h tk hJ F N
    clear F9 N9
    have hJ : StrsAre its ((np ps).map tx) := by
      have hlen := strsAre_len hS; rw [List.length_map] at hlen
      rw [hlen, List.take_length] at hJ; exact hJ
    have b1 : ((np ps).map (·.length)).sum + (np ps).length ≤ 1000000 := by
      have := np_bound ps; have := jn_len_eq 47 ps hps; rw [tx_len, hj] at hl; simp only [List.length_cons] at hl; omega
    have f1 := join_lit (np ps)
    have f2 : (((np ps).map tx).map (·.length)).sum + ((np ps).map tx).length * (Str.ofString "/").length ≤ 16777216 := by
      rw [map_tx_len, lit_slash, tx_len]; simp; omega
    have f3 : Str.ofString "/" ++ tx (jn 47 (np ps)) = tx (47 :: jn 47 (np ps)) := by rw [lit_slash, tx_app]; rfl
    have f4 : (tx (47 :: jn 47 (np ps))).length ≤ 1000000 := by
      rw [tx_len]
      have q1 := np_bound ps
      have q2 := jn_len_eq 47 ps hps
      rw [tx_len, hj] at hl
      simp only [List.length_cons] at hl ⊢
      by_cases hn : np ps = []
      · rw [hn]; simp [jn]
      · have q3 := jn_len_eq 47 (np ps) hn; omega
    have f5 : (47 :: jn 47 (np ps) : List Nat) ≠ [] := by simp
    clear hS e1
    dsimp only
    repeat' (first | (k_here; (with_reducible show wpAny _ _ (call (Value.builtin "str.split") [Value.str _ _, Value.str _ _]) _ _ _); (refine splits (by k_asm) (by k_asm) (by first | assumption | decide +kernel) (by assumption) (by assumption) ?_); intro a' vs' h' tk' hS' F' N' hlt') | (k_here; (with_reducible show wpAny _ _ (subscriptTail _ _ (Value.ref _) (Value.int (-1) _)) _ _ _); (with_unfolding_all refine' item_last ?qzN ?qzm ?qze ?qzz ?_; (case qzN => k_asm); (case qzm => k_mem); (case qze => assumption); (case qzz => assumption); k_whole)) | ((with_reducible show wpAny _ _ (call (Value.builtin "str.join") _ _) _ _ _); (k_here; (refine' joins ?qzN ?qzm ?qzi ?qze ?qzo ?_; (case qzN => k_asm); (case qzm => k_mem); (case qzi => assumption); (case qze => assumption); (case qzo => assumption); k_whole); intro _ _)) | ((with_reducible show wpAny _ _ (call (Value.builtin "list.pop") _ _) _ _ _); (k_here; k_dflt (refine' pops ?qzF ?qzN ?qze ?qzz ?qzU ?_; (case qzF => k_asm); (case qzN => k_asm); (case qze => assumption); (case qzz => assumption); (case qzU => k_upd); k_whole); intro h' F' N'; (try dsimp only [List.nil_append, List.cons_append] at N'))) | (k_unfold; (try dsimp only)) | (k_end; wrow_close) | walk1 | (dsimp only; walk1) | (leave1; walk_say "STEP leave1"; try dsimp only) | fail "no step")
    exact hret _ _ _ (Fr.keep (by assumption))
  case turn =>
    intro i v its k u h tk own hv ho hJ F N
    clear F9 N9
    obtain ⟨y, ty, hy, rfl⟩ := strsAre_get hS hv
    have hi : i < ps.length := by
      have := (List.getElem?_eq_some_iff.mp hy).1
      simpa using this
    have hyp : y = tx ps[i] := by
      have : (ps.map tx)[i]? = some (tx ps[i]) := by simp [hi]
      rw [this] at hy; exact (Option.some.inj hy).symm
    subst hyp
    have hstep : np (ps.take (i + 1)) = np_step (np (ps.take i)) ps[i] := by
      rw [List.take_add_one, show ps[i]?.toList = [ps[i]] from by simp [hi], np_snoc]
    rw [hstep]
    have hbnd : (tx ps[i]).length ≤ 1000000 := by
      have q2 := jn_len_eq 47 ps hps
      rw [tx_len, hj] at hl
      simp only [List.length_cons] at hl
      have : ps[i].length ≤ (ps.map (·.length)).sum := le_sum (List.mem_map_of_mem (List.getElem_mem hi))
      rw [tx_len]; have : 0 < ps.length := by omega
      omega
    have hits : its.length ≤ 1000000 := by
      rw [strsAre_len hJ, List.length_map]
      have q1 := np_bound (ps.take i)
      have q2 := jn_len_eq 47 ps hps
      rw [tx_len, hj] at hl
      simp only [List.length_cons] at hl
      have q3 : ((ps.take i).map (·.length)).sum ≤ (ps.map (·.length)).sum := by
        conv => rhs; rw [← List.take_append_drop i ps, List.map_append, List.sum_append]
        omega
      have q4 : (ps.take i).length ≤ ps.length := by simp; omega
      omega
    have hfree := np_free (ps.take i)
    generalize np (ps.take i) = S at hJ hfree ⊢
    generalize ps[i] = q at hbnd F ⊢
    clear hS hv hy hstep e1
    simp only [List.map_cons, List.map_nil] at ho
    simp only [List.cons_append, List.nil_append] at N
    have fin : ∀ {h' : Heap} {tk' : Nat} {its' : List Value} {k' : Nat} {m' : Str → Option Value} {D : Addr} {m₀ : Str → Option Value} {cst own news : List (Addr × Obj)} {s₁ : Shared} (F : Fr s.heap L h' m') (N : News s.heap L h' news) (hm : (D, W.listOf its'.toArray k') ∈ news) (hc : ∀ p ∈ cst, p ∈ news) (ho : ∀ p ∈ own, p ∈ news) (hk : ∀ z, z ≠ Str.ofString "comp" → List.contains ([] : List Str) z = false → m' z = m₀ z) (hj : StrsAre its' ((np_step S q).map tx)),
        OneEnd s.heap L (Str.ofString "comp") m₀ D cst [] (fun its => StrsAre its ((np_step S q).map tx)) own s₁ { s₁ with heap := h', toks := tk' } := fun F N hm hc ho hk hj => OneEnd.intro F N hm hc ho hk (by simpa using hj)
    by_cases c1 : q = []
    · have hst : np_step S q = S := by simp [np_step, c1]
      rw [← hst] at hJ
      dsimp only
      repeat' (first | (k_here; (with_reducible show wpAny _ _ (call (Value.builtin "str.split") [Value.str _ _, Value.str _ _]) _ _ _); (refine splits (by k_asm) (by k_asm) (by first | assumption | decide +kernel) (by assumption) (by assumption) ?_); intro a' vs' h' tk' hS' F' N' hlt') | (k_here; (with_reducible show wpAny _ _ (subscriptTail _ _ (Value.ref _) (Value.int (-1) _)) _ _ _); (with_unfolding_all refine' item_last ?qzN ?qzm ?qze ?qzz ?_; (case qzN => k_asm); (case qzm => k_mem); (case qze => assumption); (case qzz => assumption); k_whole)) | ((with_reducible show wpAny _ _ (call (Value.builtin "str.join") _ _) _ _ _); (k_here; (refine' joins ?qzN ?qzm ?qzi ?qze ?qzo ?_; (case qzN => k_asm); (case qzm => k_mem); (case qzi => assumption); (case qze => assumption); (case qzo => assumption); k_whole); intro _ _)) | ((with_reducible show wpAny _ _ (call (Value.builtin "list.pop") _ _) _ _ _); (k_here; k_dflt (refine' pops ?qzF ?qzN ?qze ?qzz ?qzU ?_; (case qzF => k_asm); (case qzN => k_asm); (case qze => assumption); (case qzz => assumption); (case qzU => k_upd); k_whole); intro h' F' N'; (try dsimp only [List.nil_append, List.cons_append] at N'))) | (k_unfold; (try dsimp only)) | (k_end; wrow_close) | walk1 | (dsimp only; walk1) | (leave1; walk_say "STEP leave1"; try dsimp only) | fail "no step")
      dsimp only [OnePost]
      exact fin (by k_asm) (by k_asm) (by k_mem) (by k_allIn) (by intro p hp; k_ownIn) (by intro z h1 _; simp [h1]) hJ
    by_cases c2 : q = [46]
    · have hst : np_step S q = S := by simp [np_step, c2]
      rw [← hst] at hJ
      have g1 : tx q = Str.ofString "." := by rw [lit_dot, c2]
      dsimp only
      repeat' (first | (k_here; (with_reducible show wpAny _ _ (call (Value.builtin "str.split") [Value.str _ _, Value.str _ _]) _ _ _); (refine splits (by k_asm) (by k_asm) (by first | assumption | decide +kernel) (by assumption) (by assumption) ?_); intro a' vs' h' tk' hS' F' N' hlt') | (k_here; (with_reducible show wpAny _ _ (subscriptTail _ _ (Value.ref _) (Value.int (-1) _)) _ _ _); (with_unfolding_all refine' item_last ?qzN ?qzm ?qze ?qzz ?_; (case qzN => k_asm); (case qzm => k_mem); (case qze => assumption); (case qzz => assumption); k_whole)) | ((with_reducible show wpAny _ _ (call (Value.builtin "str.join") _ _) _ _ _); (k_here; (refine' joins ?qzN ?qzm ?qzi ?qze ?qzo ?_; (case qzN => k_asm); (case qzm => k_mem); (case qzi => assumption); (case qze => assumption); (case qzo => assumption); k_whole); intro _ _)) | ((with_reducible show wpAny _ _ (call (Value.builtin "list.pop") _ _) _ _ _); (k_here; k_dflt (refine' pops ?qzF ?qzN ?qze ?qzz ?qzU ?_; (case qzF => k_asm); (case qzN => k_asm); (case qze => assumption); (case qzz => assumption); (case qzU => k_upd); k_whole); intro h' F' N'; (try dsimp only [List.nil_append, List.cons_append] at N'))) | (k_unfold; (try dsimp only)) | (k_end; wrow_close) | walk1 | (dsimp only; walk1) | (leave1; walk_say "STEP leave1"; try dsimp only) | fail "no step")
      dsimp only [OnePost]
      exact fin (by k_asm) (by k_asm) (by k_mem) (by k_allIn) (by intro p hp; k_ownIn) (by intro z h1 _; simp [h1]) hJ
    have g2 : tx q ≠ Str.ofString "." := by rw [lit_dot]; exact fun e => c2 (tx_inj e)
    by_cases c3 : q = [46, 46]
    · have g3 : tx q = Str.ofString ".." := by rw [lit_dotdot, c3]
      rcases List.eq_nil_or_concat S with hS0 | ⟨S', z, hS0⟩
      · have hst : np_step S q = S := by simp [np_step, c3, hS0]
        rw [← hst] at hJ
        have g4 : its = [] := by rw [hst, hS0] at hJ; cases hJ; rfl
        dsimp only
        repeat' (first | (k_here; (with_reducible show wpAny _ _ (call (Value.builtin "str.split") [Value.str _ _, Value.str _ _]) _ _ _); (refine splits (by k_asm) (by k_asm) (by first | assumption | decide +kernel) (by assumption) (by assumption) ?_); intro a' vs' h' tk' hS' F' N' hlt') | (k_here; (with_reducible show wpAny _ _ (subscriptTail _ _ (Value.ref _) (Value.int (-1) _)) _ _ _); (with_unfolding_all refine' item_last ?qzN ?qzm ?qze ?qzz ?_; (case qzN => k_asm); (case qzm => k_mem); (case qze => assumption); (case qzz => assumption); k_whole)) | ((with_reducible show wpAny _ _ (call (Value.builtin "str.join") _ _) _ _ _); (k_here; (refine' joins ?qzN ?qzm ?qzi ?qze ?qzo ?_; (case qzN => k_asm); (case qzm => k_mem); (case qzi => assumption); (case qze => assumption); (case qzo => assumption); k_whole); intro _ _)) | ((with_reducible show wpAny _ _ (call (Value.builtin "list.pop") _ _) _ _ _); (k_here; k_dflt (refine' pops ?qzF ?qzN ?qze ?qzz ?qzU ?_; (case qzF => k_asm); (case qzN => k_asm); (case qze => assumption); (case qzz => assumption); (case qzU => k_upd); k_whole); intro h' F' N'; (try dsimp only [List.nil_append, List.cons_append] at N'))) | (k_unfold; (try dsimp only)) | (k_end; wrow_close) | walk1 | (dsimp only; walk1) | (leave1; walk_say "STEP leave1"; try dsimp only) | fail "no step")
        dsimp only [OnePost]
        exact fin (by k_asm) (by k_asm) (by k_mem) (by k_allIn) (by intro p hp; k_ownIn) (by intro z h1 _; simp [h1]) hJ
      · rw [List.concat_eq_append] at hS0
        have hst : np_step S q = S' := by simp [np_step, c3, hS0]
        rw [hS0, List.map_append] at hJ
        obtain ⟨us, tz, hus, hJ'⟩ := strsAre_snoc hJ
        have g4 : its ≠ [] := by rw [hus]; simp
        have g5 : tx z ≠ Str.ofString ".." := by
          rw [lit_dotdot]; intro e; have := tx_inj e
          exact (hfree z (by rw [hS0]; simp)).2.2.1 this
        dsimp only
        repeat' (first | (k_here; (with_reducible show wpAny _ _ (call (Value.builtin "str.split") [Value.str _ _, Value.str _ _]) _ _ _); (refine splits (by k_asm) (by k_asm) (by first | assumption | decide +kernel) (by assumption) (by assumption) ?_); intro a' vs' h' tk' hS' F' N' hlt') | (k_here; (with_reducible show wpAny _ _ (subscriptTail _ _ (Value.ref _) (Value.int (-1) _)) _ _ _); (with_unfolding_all refine' item_last ?qzN ?qzm ?qze ?qzz ?_; (case qzN => k_asm); (case qzm => k_mem); (case qze => assumption); (case qzz => assumption); k_whole)) | ((with_reducible show wpAny _ _ (call (Value.builtin "str.join") _ _) _ _ _); (k_here; (refine' joins ?qzN ?qzm ?qzi ?qze ?qzo ?_; (case qzN => k_asm); (case qzm => k_mem); (case qzi => assumption); (case qze => assumption); (case qzo => assumption); k_whole); intro _ _)) | ((with_reducible show wpAny _ _ (call (Value.builtin "list.pop") _ _) _ _ _); (k_here; k_dflt (refine' pops ?qzF ?qzN ?qze ?qzz ?qzU ?_; (case qzF => k_asm); (case qzN => k_asm); (case qze => assumption); (case qzz => assumption); (case qzU => k_upd); k_whole); intro h' F' N'; (try dsimp only [List.nil_append, List.cons_append] at N'))) | (k_unfold; (try dsimp only)) | (k_end; wrow_close) | walk1 | (dsimp only; walk1) | (leave1; walk_say "STEP leave1"; try dsimp only) | fail "no step")
        dsimp only [OnePost]
        rw [hst]
        exact OneEnd.intro (its := us.toArray) (by k_asm) (by k_asm) (by k_mem) (by k_allIn) (by intro p hp; k_ownIn) (by intro z h1 _; simp [h1]) (by simpa using hJ')
    have g3 : tx q ≠ Str.ofString ".." := by rw [lit_dotdot]; exact fun e => c3 (tx_inj e)
    have hst : np_step S q = S ++ [q] := by simp [np_step, c1, c2, c3]
    dsimp only
    repeat' (first | (k_here; (with_reducible show wpAny _ _ (call (Value.builtin "str.split") [Value.str _ _, Value.str _ _]) _ _ _); (refine splits (by k_asm) (by k_asm) (by first | assumption | decide +kernel) (by assumption) (by assumption) ?_); intro a' vs' h' tk' hS' F' N' hlt') | (k_here; (with_reducible show wpAny _ _ (subscriptTail _ _ (Value.ref _) (Value.int (-1) _)) _ _ _); (with_unfolding_all refine' item_last ?qzN ?qzm ?qze ?qzz ?_; (case qzN => k_asm); (case qzm => k_mem); (case qze => assumption); (case qzz => assumption); k_whole)) | ((with_reducible show wpAny _ _ (call (Value.builtin "str.join") _ _) _ _ _); (k_here; (refine' joins ?qzN ?qzm ?qzi ?qze ?qzo ?_; (case qzN => k_asm); (case qzm => k_mem); (case qzi => assumption); (case qze => assumption); (case qzo => assumption); k_whole); intro _ _)) | ((with_reducible show wpAny _ _ (call (Value.builtin "list.pop") _ _) _ _ _); (k_here; k_dflt (refine' pops ?qzF ?qzN ?qze ?qzz ?qzU ?_; (case qzF => k_asm); (case qzN => k_asm); (case qze => assumption); (case qzz => assumption); (case qzU => k_upd); k_whole); intro h' F' N'; (try dsimp only [List.nil_append, List.cons_append] at N'))) | (k_unfold; (try dsimp only)) | (k_end; wrow_close) | walk1 | (dsimp only; walk1) | (leave1; walk_say "STEP leave1"; try dsimp only) | fail "no step")
    dsimp only [OnePost]
    rw [hst]
    refine OneEnd.intro (its := its.toArray.push (.str (tx q) ty)) (by k_asm) (by k_asm) (by k_mem) (by k_allIn) (by intro p hp; k_ownIn) (by intro z h1 _; simp [h1]) ?_
    have := strsAre_push (t := ty) (y := tx q) hJ
    simpa using this
end

section
local macro_rules | `(tactic| walk_at "pad") => `(tactic| fail "pad")
local macro_rules | `(tactic| walk_at "exec While") => `(tactic| (k_here; refine Halt.out ?_))
noncomputable def pre257 : List Nat := [50, 53, 55, 32, 34]
noncomputable def suf257 : List Nat := [34, 32, 109, 97, 100, 101]
open StrLaws in
set_option maxRecDepth 100000 in
set_option maxHeartbeats 0 in
theorem parse257_x : ∀ (w : World) (p : Program) (loose : List Str) (mean : ExcName → Option Value) (mg mb : Str → Option Value) (s : Shared) (X : (fragK.heap_1 w.params).In s.heap) (XN : KNin w s.heap) (T : Top p loose mean mg mb s.heap) (P R : List Nat) (t : Tok) (Q E : Value → Shared → Prop)
   (hR : R = pre257 ++ (dbl 34 P ++ suf257)) (hl : (tx R).length ≤ 1000000)
   (hret : ∀ t' h' tk', (∀ b o, s.heap.get? b = some o → h'.get? b = some o) → Q (.str (tx P) t') { s with heap := h', toks := tk' }),
   wpAny (model PySem.Challenge.rw_in0142_01.row.prog w) (AR 430 230) (call (.ref 72) [.str (tx R) t]) Q E s := by
  k_fill
  intro w p loose mean mg mb s X XN T P R t Q E hR hl hret
  refine' enter (binds := [(Str.ofString "resp", .str (tx R) t)]) X T.nolimit (by decide) ?k6 ?k7 ?k9 ?kB ?_ ?c2 ?c3 ?c4 ?c5
  case k6 => k_is
  case k7 => k_is
  case k9 => exact BindsTo.of_eq rfl
  case kB => exact locs rfl
  case c2 => exact rfl
  case c3 => exact rfl
  case c4 => exact rfl
  case c5 => decide
  intro L h1 F N
  have e1 : Txt.slice (tx R) none (some 3) = Str.ofString "257" := by
    rw [show Str.ofString "257" = tx [50, 53, 55] from by decide +kernel, hR]; exact slice_ns _ 3
  have e2 : Txt.slice (tx R) (some 3) (some 5) = Str.ofString " \"" := by
    rw [show Str.ofString " \"" = tx [32, 34] from by decide +kernel, hR]; exact slice_ss _ 3 5
  try dsimp only
  try k_fold
  k_steps
  (rename Fr _ _ _ _ => F9); (rename News _ _ _ _ => N9)
  clear e1 e2
  unfold Halt
  refine' ksw_while (s := ⟨_, _, _, _, _⟩) (σ := Nat × Int × Tok × Tok) (fun _ => []) (fun c => [(Str.ofString "i", .int c.2.1 c.2.2.1), (Str.ofString "dirname", .str (tx (P.take c.1)) c.2.2.2)]) (fun _ => True) [Str.ofString "c"]
    (fun c => c.1 ≤ P.length ∧ c.2.1 = 5 + ((dbl 34 (P.take c.1)).length : Int)) (fun c => P.length - c.1) (0, 5, _, _) F9 N9 trivial ?hk ?hp ?turn PassesOwn.never
  case hk =>
    intro p hp
    rcases List.mem_cons.mp hp with rfl | hp
    · with_unfolding_all rfl
    · rcases List.mem_cons.mp hp with rfl | hp
      · show _ = some (Value.str (tx []) _)
        rw [← lit_empty]; with_unfolding_all rfl
      · cases hp
  case hp => exact ⟨Nat.zero_le _, by simp [dbl]⟩
  case turn =>
    rintro ⟨k, z, ti, td⟩ u h tk - ⟨hk, hz⟩ F N
    clear F9 N9
    dsimp only at hk hz
    dsimp only [kstB] at F
    dsimp only
    have hlR : (tx R).length = R.length := tx_len R
    have hdk : dbl 34 P = dbl 34 (P.take k) ++ dbl 34 (P.drop k) := by rw [← dbl_append, List.take_append_drop]
    have hRk : R = (pre257 ++ dbl 34 (P.take k)) ++ (dbl 34 (P.drop k) ++ suf257) := by rw [hR, hdk]; simp
    have hplen : (pre257 ++ dbl 34 (P.take k)).length = z.toNat := by simp [pre257]; omega
    have at0 : R[z.toNat]? = (dbl 34 (P.drop k) ++ suf257)[0]? := by
      rw [hRk, List.getElem?_append_right (by omega)]; congr 1; omega
    have at1 : R[(z + 1).toNat]? = (dbl 34 (P.drop k) ++ suf257)[1]? := by
      rw [hRk, List.getElem?_append_right (by omega)]; congr 1; omega
    by_cases hlt : k < P.length
    · have hd : P.drop k = P[k] :: P.drop (k + 1) := List.drop_eq_getElem_cons hlt
      have htk : P.take (k + 1) = P.take k ++ [P[k]] := by rw [List.take_add_one]; simp [hlt]
      rw [hd] at at0 at1
      generalize P[k] = ch at at0 at1 htk
      have g3 : tx (P.take k) ++ tx [ch] = tx (P.take (k + 1)) := by rw [tx_app, htk]
      have g4 : (tx (P.take (k + 1))).length ≤ 1000000 := by
        have := dbl_le P
        rw [tx_len] at hl ⊢
        rw [hR] at hl
        simp only [List.length_append, List.length_take] at hl ⊢
        omega
      by_cases c1 : ch = 34
      · have a0 : R[z.toNat]? = some ch := by rw [at0]; simp [dbl, c1]
        have a1 : R[(z + 1).toNat]? = some 34 := by rw [at1]; simp [dbl, c1]
        have b1 : z + 1 < (tx R).length := by
          have := (List.getElem?_eq_some_iff.mp a1).1; rw [hlR]; omega
        have g1 : tx [ch] = Str.ofString "\"" := by rw [lit_quote, c1]
        have g2 : tx [34] = Str.ofString "\"" := by rw [lit_quote]
        have hdb : (dbl 34 (P.take (k + 1))).length = (dbl 34 (P.take k)).length + 2 := by rw [htk, dbl_append]; simp [dbl, c1]
        clear at0 at1 hRk hdk hplen
        k_steps
      · have a0 : R[z.toNat]? = some ch := by rw [at0]; simp [dbl, c1]
        have b1 : z < (tx R).length := by
          have := (List.getElem?_eq_some_iff.mp a0).1; rw [hlR]; omega
        have g1 : tx [ch] ≠ Str.ofString "\"" := by rw [lit_quote]; exact fun e => c1 (by simpa using tx_inj e)
        have hdb : (dbl 34 (P.take (k + 1))).length = (dbl 34 (P.take k)).length + 1 := by rw [htk, dbl_append]; simp [dbl, c1]
        clear at0 at1 hRk hdk hplen
        k_steps
    · have hkk : k = P.length := by omega
      have hd : P.drop k = [] := List.drop_eq_nil_of_le (by omega)
      rw [hd] at at0 at1
      have a0 : R[z.toNat]? = some 34 := at0
      have a1 : R[(z + 1).toNat]? = some 32 := at1
      have b1 : z + 1 < (tx R).length := by
        have := (List.getElem?_eq_some_iff.mp a1).1; rw [hlR]; omega
      have g1 : tx [34] = Str.ofString "\"" := by rw [lit_quote]
      have g2 : tx [32] ≠ Str.ofString "\"" := by rw [lit_quote]; exact fun e => by simpa using tx_inj e
      have g5 : P.take k = P := List.take_of_length_le (by omega)
      rw [g5] at F
      clear at0 at1 hRk hdk hplen
      k_steps
      exact hret _ _ _ (Fr.keep (by assumption))
end

section
set_option maxRecDepth 100000 in
set_option maxHeartbeats 0 in
theorem parse229_x : ∀ (w : World) (p : Program) (loose : List Str) (mean : ExcName → Option Value) (mg mb : Str → Option Value) (s : Shared) (B : Heap) (hB : ∀ b o, B.get? b = some o → s.heap.get? b = some o) (X : (fragK.heap_1 w.params).In B) (XN : KNin w B) (T : Top p loose mean mg mb B) (m n : Nat) (t t1 t2 : Tok) (pr : Addr) (Q E : Value → Shared → Prop)
   (hm : m = 124 ∨ m = 33) (hn : n < 65536) (hpr : s.heap.get? pr = some (tupOf #[.str (Str.ofString "host") t1, .int 21 t2]) ∧ B.get? pr = none)
   (hret : ∀ a t1 t2 h' tk', (∀ b o, s.heap.get? b = some o → h'.get? b = some o) → s.heap.get? a = none → h'.get? a = some (tupOf #[.str (Str.ofString "host") t1, .int (n : Int) t2]) → Q (.ref a) { s with heap := h', toks := tk' }),
   wpAny (model PySem.Challenge.rw_in0142_01.row.prog w) (AR 430 230) (call (.ref 65) [.str (tx (rep229 m n)) t, .ref pr]) Q E s := by
  k_fill
  intro w p loose mean mg mb s B hB X XN T m n t t1 t2 pr Q E hm hn hpr hret
  refine' enterN (binds := [(Str.ofString "resp", .str (tx (rep229 m n)) t), (Str.ofString "peer", .ref pr)]) (objs := [(pr, tupOf #[.str (Str.ofString "host") t1, .int 21 t2])]) hB ?ho X T (by decide) ?k6 ?k7 ?k9 ?kB ?_ ?c2 ?c3 ?c4 ?c5
  case ho => intro q hq; rw [List.mem_singleton.mp hq]; exact hpr
  case k6 => k_is
  case k7 => k_is
  case k9 => exact BindsTo.of_eq rfl
  case kB => exact locs rfl
  case c2 => exact rfl
  case c3 => exact rfl
  case c4 => exact rfl
  case c5 => decide
  intro g L h1 hBg hsg F N
  replace X := X.keeps hBg
  replace XN := XN.keeps hBg
  replace T := T.keeps hBg
  have hd := dg_len hn
  have hl : (tx (rep229 m n)).length ≤ 1000000 := by rw [tx_len, rep229_len]; omega
  have e1 : Txt.slice (tx (rep229 m n)) none (some 3) = Str.ofString "229" := by
    rw [show Str.ofString "229" = tx [50, 50, 57] from by decide +kernel]; exact slice_ns _ 3
  have e2 := rep229_find m n
  have e3 := rep229_find3 m n (by omega)
  have e4 : (rep229 m n)[((7 : Int) + 1).toNat]? = some m := rfl
  have e5 : (rep229 m n)[(12 + ((dg n).length : Int) - 1).toNat]? = some m := by
    have : (12 + ((dg n).length : Int) - 1).toNat = 11 + (dg n).length := by omega
    rw [this]
    have e : rep229 m n = ([50, 50, 57, 32, 103, 111, 32, 40, m, m, m] ++ dg n) ++ [m, 41] := by simp [rep229]
    rw [e, List.getElem?_append_right (by simp; omega)]
    have : 11 + (dg n).length - ([50, 50, 57, 32, 103, 111, 32, 40, m, m, m] ++ dg n).length = 0 := by simp; omega
    rw [this]; rfl
  have e6 : Txt.slice (tx (rep229 m n)) (some (7 + 1)) (some (12 + ((dg n).length : Int))) = tx (jn m [[], [], [], dg n, []]) := by
    have := slice_ss (rep229 m n) 8 (12 + (dg n).length)
    rw [show ((7 : Int) + 1) = ((8 : Nat) : Int) from rfl, show (12 + ((dg n).length : Int)) = ((12 + (dg n).length : Nat) : Int) by omega, this]
    congr 1
    have e : rep229 m n = [50, 50, 57, 32, 103, 111, 32, 40] ++ (([m, m, m] ++ dg n ++ [m]) ++ [41]) := by simp [rep229]
    rw [e, List.drop_append_of_le_length (by simp), show List.drop 8 [50, 50, 57, 32, 103, 111, 32, 40] = [] from rfl, List.nil_append, List.take_append_of_le_length (by simp; omega), List.take_of_length_le (by simp; omega)]
    simp [jn]
  have hfree : ∀ q ∈ [[], [], [], dg n, []], m ∉ q := by
    intro q hq hmq
    simp only [List.mem_cons, List.not_mem_nil, or_false] at hq
    rcases hq with rfl | rfl | rfl | rfl | rfl <;> first | cases hmq | (have := dg_mem hmq; omega)
  have e7 : Txt.split (tx (jn m [[], [], [], dg n, []])) (tx [m]) = [tx [], tx [], tx [], tx (dg n), tx []] := split_tx m (by simp) hfree
  have e8 : (tx [m]).length ≠ 0 := by rw [tx_len]; simp
  have e9 : (tx (jn m [[], [], [], dg n, []])).length ≤ 1000000 := by rw [tx_len]; simp [jn]; omega
  have e10 := dg_reads hn
  have e11 : (tx (dg n)).length ≤ 640 := by rw [tx_len]; omega
  have e12 : tx [m] = tx [m] := rfl
  generalize rep229 m n = R at hl e1 e2 e3 e4 e5 e6 F ⊢
  generalize jn m [[], [], [], dg n, []] = J at e6 e7 e9
  try dsimp only
  try k_fold
  repeat' (first | (k_here; (with_reducible show wpAny _ _ (call (Value.builtin "str.split") [Value.str _ _, Value.str _ _]) _ _ _); (refine splits (by k_asm) (by k_asm) (by first | assumption | decide +kernel) (by assumption) (by assumption) ?_); intro a' vs' h' tk' hS' F' N' hlt'; (obtain ⟨t1', t2', t3', t4', t5', hv'⟩ := strs5 hS'); subst hv') | ((with_reducible show wpAny _ _ (call (Value.builtin "str.find") _ _) _ _ _); (k_here; first | (refine finds (by assumption) ?_) | (refine finds3 (by assumption) ?_); intro _ _)) | (k_here; (with_reducible show wpAny _ _ (call (Value.type "int") [Value.str _ _]) _ _ _); (refine intOf (by assumption) (by assumption) ?_); intro _ _) | (k_unfold; (try dsimp only)) | (k_end; wrow_close) | walk1 | (dsimp only; walk1) | (leave1; walk_say "STEP leave1"; try dsimp only) | fail "no step")
  exact hret _ _ _ _ _ (keepsN (by intro q hq; rw [List.mem_singleton.mp hq]; exact hpr.1) hsg (by assumption) (by assumption) (by intro q hq; rw [List.mem_singleton.mp hq]; k_mem)) (freshN hsg (by assumption) (.head _) (by intro q hq; rw [List.mem_singleton.mp hq]; refine Nat.ne_of_gt ?_; dsimp only; omega)) (News.get (by assumption) (.head _))
end

section
set_option Elab.async false
/-! heads and tails of texts -/
theorem starts_tx (x y : List Nat) : Txt.startswith (tx x) (tx y) = (x.take y.length == y) := by
  unfold Txt.startswith
  rw [StrLaws.subAt_eq, tx_len, tx_len, tx_toList, tx_toList, List.drop_zero]
  by_cases h : 0 + y.length ≤ x.length
  · rw [decide_eq_true h]; simp
  · rw [decide_eq_false h]
    have : (x.take y.length == y) = false := by
      rw [beq_eq_false_iff_ne]; intro e
      have := congrArg List.length e; simp at this; omega
    rw [this]; rfl
theorem starts_t (r : List Nat) : Txt.startswith (tx (47 :: r)) (Str.ofString "/") = true := by
  rw [lit_slash, starts_tx]; rfl
theorem starts_f {r : List Nat} (h : r.take 1 ≠ [47]) : Txt.startswith (tx r) (Str.ofString "/") = false := by
  rw [lit_slash, starts_tx]; simpa using h
theorem ends_t : Txt.endswith (tx [47]) (Str.ofString "/") = true := by rw [lit_slash]; decide +kernel
theorem stripLo_f {r : List Nat} (h : r.take 1 ≠ [47]) : PySem.stripLo (Str.ofString "/").cps.contains true (tx r) = 0 := by
  unfold PySem.stripLo
  rw [if_pos rfl, tx_toList, lit_slash]
  cases r with
  | nil => rfl
  | cons a r =>
    have : (tx [47]).cps.contains a = false := by
      rw [Bool.eq_false_iff]; intro e
      have : a ∈ (tx [47]).cps := by simpa using e
      have : a ∈ (tx [47]).cps.toList := by simpa using this
      rw [tx_toList] at this
      simp at this; simp [this] at h
    rw [List.takeWhile_cons, this]; rfl
theorem stripLo_t {r : List Nat} (h : r.take 1 ≠ [47]) : PySem.stripLo (Str.ofString "/").cps.contains true (tx (47 :: r)) = 1 := by
  have h0 := stripLo_f h
  unfold PySem.stripLo at h0 ⊢
  rw [if_pos rfl, tx_toList] at h0 ⊢
  have : (Str.ofString "/").cps.contains 47 = true := by decide +kernel
  rw [List.takeWhile_cons, this]
  simp only [if_true, List.length_cons]
  omega
theorem lstrip_t {r : List Nat} (h : r.take 1 ≠ [47]) : Txt.lstripChars (tx (47 :: r)) (Str.ofString "/") = tx r := by
  unfold Txt.lstripChars Txt.stripBy PySem.stripSame PySem.stripped
  rw [stripLo_t h]
  rw [if_neg (by simp)]
  unfold PySem.stripHi
  rw [if_neg (by decide)]
  refine Str.ext' ?_
  refine Array.toList_inj.mp ?_
  rw [StrLaws.strSub_toList, tx_toList, tx_toList, tx_len]
  simp
section
variable {prog : Program} {w : World} {A : Around} {E : Value → Shared → Prop} {s : Shared} {t u : Tok} {x y z : Str} {Q : Value → Shared → Prop}
theorem starts {b : Bool} (e : Txt.startswith x y = b) (h : Q (.bool b) s) : wpAny (model prog w) A (call (.builtin "str.startswith") [.str x t, .str y u]) Q E s := SC.startswith (by rw [e]; exact h)
theorem iadds {z : Str} (e : x ++ y = z) (hz : z.length ≤ 1000000) (h : ∀ t' k, Q (.str z t') { s with toks := k }) : wpAny (model prog w) A (inplaceOp .Add (.str x t) (.str y u)) Q E s :=
  PyProof.Rows.iadd_str (by rw [e]; exact h) (by
    have : x.length + y.length = z.length := by rw [← e]; exact (strLen_append x y).symm
    rw [this]; exact Nat.le_trans hz (by decide +kernel))
theorem ends {b : Bool} (e : Txt.endswith x y = b) (h : Q (.bool b) s) : wpAny (model prog w) A (call (.builtin "str.endswith") [.str x t, .str y u]) Q E s := SC.endswith (by rw [e]; exact h)
theorem lstrips (e : Txt.lstripChars x y = z) (hl : x.length ≤ 1000000) (h : ∀ t' k, Q (.str z t') { s with toks := k }) : wpAny (model prog w) A (call (.builtin "str.lstrip") [.str x t, .str y u]) Q E s :=
  KXw.lstripChars e (Nat.le_trans hl (by decide +kernel)) h
end
end

local macro_rules | `(tactic| walk_at "call builtin:str.startswith") => `(tactic| (k_here; (with_reducible show wpAny _ _ (call (Value.builtin "str.startswith") [Value.str _ _, Value.str _ _]) _ _ _); (refine starts (by assumption) ?_)))
section
set_option Elab.async false
/-- the order of lists of texts -/
noncomputable def ltW : List (List Nat) → List (List Nat) → Bool
  | [], [] => false
  | [], _ :: _ => true
  | _ :: _, [] => false
  | a :: r, b :: s => if a = b then ltW r s else decide (a < b)
open AutoSeq1 (wpAny_loadPart')
open MeetsSeq
theorem slt {prog : Program} {w : World} {A : Around} {E : Value → Shared → Prop} {s : Shared} {a b : List Nat} {t u : Tok} {Q : Value → Shared → Prop} (h : Q (.bool (decide (a < b))) s) : wpAny (model prog w) A (richCompare .Lt (.str (tx a) t) (.str (tx b) u)) Q E s := by
  have := PyProof.Rows.lt_str (prog := prog) (w := w) (A := A) (E := E) (s := s) (x := tx a) (y := tx b) (t := t) (u := u) (Q := Q) (by rw [tx_toList, tx_toList]; exact h)
  exact this
theorem sgt {prog : Program} {w : World} {A : Around} {E : Value → Shared → Prop} {s : Shared} {a b : List Nat} {t u : Tok} {Q : Value → Shared → Prop} (h : Q (.bool (decide (b < a))) s) : wpAny (model prog w) A (richCompare .Gt (.str (tx a) t) (.str (tx b) u)) Q E s := by
  have := PySem.P.gt_str (prog := prog) (w := w) (A := A) (E := E) (s := s) (x := tx a) (y := tx b) (t := t) (u := u) (Q := Q) (by rw [tx_toList, tx_toList]; exact h)
  exact this

theorem lt_loop (l b : Addr) (vs us : List Value) (xs ys : List (List Nat)) (n n2 : Nat) (hv : StrsAre vs (xs.map tx)) (hu : StrsAre us (ys.map tx)) (k : Nat) :
    ∀ i : Nat, vs.length - i = k → i ≤ vs.length → i ≤ us.length → Meets (Builtin.«list.__eq__.loop» ⟨[.ref l, .ref b, rawInt i, rawInt 0], []⟩)
      (fun _ R s => s.heap.get? l = some (W.listOf vs.toArray n) ∧ s.heap.get? b = some (W.listOf us.toArray n2) ∧
        R (.ok (.ret (.bool (ltW (xs.drop i) (ys.drop i))))) s) := by
  have lv := strsAre_len hv
  have lu := strsAre_len hu
  rw [List.length_map] at lv lu
  induction k with
  | zero =>
    intro i hk hi hi' prog w A R s h
    obtain ⟨hp, g, d, tk, os⟩ := s; obtain ⟨hl, hb, h⟩ := h
    wp_walk using wpAny_loadPart' hl, wpAny_loadPart' hb
    have hi1 : vs.toArray[((i : Nat) : Int).toNat]? = none := by simp; omega
    rw [hi1]
    wp_walk using wpAny_loadPart' hl, wpAny_loadPart' hb
    show R (.ok (.ret (.bool (decide (vs.toArray.size < us.toArray.size))))) _
    have e1 : xs.drop i = [] := List.drop_eq_nil_of_le (by omega)
    rw [e1] at h
    have e2 : decide (vs.toArray.size < us.toArray.size) = ltW ([]) (ys.drop i) := by
      cases hd : ys.drop i with
      | nil => have := congrArg List.length hd; simp at this; simp [ltW]; omega
      | cons y r => have := congrArg List.length hd; simp at this; simp [ltW]; omega
    rw [e2]; exact h
  | succ k ih =>
    intro i hk hi hi' prog w A R s h
    obtain ⟨hp, g, d, tk, os⟩ := s; obtain ⟨hl, hb, h⟩ := h
    wp_walk using wpAny_loadPart' hl, wpAny_loadPart' hb
    have hlt : i < vs.length := by omega
    have hx : i < xs.length := by omega
    obtain ⟨tx1, hx1⟩ := strsAre_at hv (i := i) (y := tx xs[i]) (by simp [hx])
    have hi1 : vs.toArray[((i : Nat) : Int).toNat]? = some (.str (tx xs[i]) tx1) := by simpa using hx1
    have e1 : xs.drop i = xs[i] :: xs.drop (i + 1) := List.drop_eq_getElem_cons hx
    rw [hi1]
    by_cases hy : i < ys.length
    · obtain ⟨ty1, hy1⟩ := strsAre_at hu (i := i) (y := tx ys[i]) (by simp [hy])
      have hi2 : us.toArray[((i : Nat) : Int).toNat]? = some (.str (tx ys[i]) ty1) := by simpa using hy1
      have e2 : ys.drop i = ys[i] :: ys.drop (i + 1) := List.drop_eq_getElem_cons hy
      rw [hi2]
      have hc : ((i : Int) + 1) = ((i + 1 : Nat) : Int) := by push_cast; rfl
      refine wpAny_bind (eqGives_str _ _ _ _ prog w _ _ _ _ ?_)
      rw [tx_beq]
      by_cases hb' : xs[i] = ys[i]
      · rw [decide_eq_true hb']
        wp_walk
        rw [hc]
        exact ⟨plainId_quiet MeetsSeq3.plain_eq_loop _, codeAny_builtin MeetsSeq3.entry_eq_loop (by
          rw [Around.under_plainId MeetsSeq3.plain_eq_loop _]
          refine ih (i + 1) (by omega) (by omega) (by omega) prog w A R _ ⟨hl, hb, ?_⟩
          rw [e1, e2] at h
          simpa [ltW, hb'] using h)⟩
      · rw [decide_eq_false hb']
        wp_walk using wpAny_loadPart' hl, wpAny_loadPart' hb
        rw [hi1, hi2]
        refine wpAny_bind (slt ?_)
        wp_walk
        rw [e1, e2] at h
        have hb2 : ¬ ys[i] = xs[i] := fun e => hb' e.symm
        simpa [ltW, hb', hb2] using h
    · have hi2 : us.toArray[((i : Nat) : Int).toNat]? = none := by simp; omega
      rw [hi2]
      wp_walk using wpAny_loadPart' hl, wpAny_loadPart' hb
      show R (.ok (.ret (.bool (decide (vs.toArray.size < us.toArray.size))))) _
      have e2 : ys.drop i = [] := List.drop_eq_nil_of_le (by omega)
      rw [e1, e2] at h
      have e3 : decide (vs.toArray.size < us.toArray.size) = ltW ((xs[i] :: xs.drop (i + 1))) ([]) := by simp [ltW]; omega
      rw [e3]; exact h
theorem gt_loop (l b : Addr) (vs us : List Value) (xs ys : List (List Nat)) (n n2 : Nat) (hv : StrsAre vs (xs.map tx)) (hu : StrsAre us (ys.map tx)) (k : Nat) :
    ∀ i : Nat, vs.length - i = k → i ≤ vs.length → i ≤ us.length → Meets (Builtin.«list.__eq__.loop» ⟨[.ref l, .ref b, rawInt i, rawInt 4], []⟩)
      (fun _ R s => s.heap.get? l = some (W.listOf vs.toArray n) ∧ s.heap.get? b = some (W.listOf us.toArray n2) ∧
        R (.ok (.ret (.bool (ltW (ys.drop i) (xs.drop i))))) s) := by
  have lv := strsAre_len hv
  have lu := strsAre_len hu
  rw [List.length_map] at lv lu
  induction k with
  | zero =>
    intro i hk hi hi' prog w A R s h
    obtain ⟨hp, g, d, tk, os⟩ := s; obtain ⟨hl, hb, h⟩ := h
    wp_walk using wpAny_loadPart' hl, wpAny_loadPart' hb
    have hi1 : vs.toArray[((i : Nat) : Int).toNat]? = none := by simp; omega
    rw [hi1]
    wp_walk using wpAny_loadPart' hl, wpAny_loadPart' hb
    show R (.ok (.ret (.bool (decide (vs.toArray.size > us.toArray.size))))) _
    have e1 : xs.drop i = [] := List.drop_eq_nil_of_le (by omega)
    rw [e1] at h
    have e2 : decide (vs.toArray.size > us.toArray.size) = ltW (ys.drop i) ([]) := by
      cases hd : ys.drop i with
      | nil => have := congrArg List.length hd; simp at this; simp [ltW]; omega
      | cons y r => have := congrArg List.length hd; simp at this; simp [ltW]; omega
    rw [e2]; exact h
  | succ k ih =>
    intro i hk hi hi' prog w A R s h
    obtain ⟨hp, g, d, tk, os⟩ := s; obtain ⟨hl, hb, h⟩ := h
    wp_walk using wpAny_loadPart' hl, wpAny_loadPart' hb
    have hlt : i < vs.length := by omega
    have hx : i < xs.length := by omega
    obtain ⟨tx1, hx1⟩ := strsAre_at hv (i := i) (y := tx xs[i]) (by simp [hx])
    have hi1 : vs.toArray[((i : Nat) : Int).toNat]? = some (.str (tx xs[i]) tx1) := by simpa using hx1
    have e1 : xs.drop i = xs[i] :: xs.drop (i + 1) := List.drop_eq_getElem_cons hx
    rw [hi1]
    by_cases hy : i < ys.length
    · obtain ⟨ty1, hy1⟩ := strsAre_at hu (i := i) (y := tx ys[i]) (by simp [hy])
      have hi2 : us.toArray[((i : Nat) : Int).toNat]? = some (.str (tx ys[i]) ty1) := by simpa using hy1
      have e2 : ys.drop i = ys[i] :: ys.drop (i + 1) := List.drop_eq_getElem_cons hy
      rw [hi2]
      have hc : ((i : Int) + 1) = ((i + 1 : Nat) : Int) := by push_cast; rfl
      refine wpAny_bind (eqGives_str _ _ _ _ prog w _ _ _ _ ?_)
      rw [tx_beq]
      by_cases hb' : xs[i] = ys[i]
      · rw [decide_eq_true hb']
        wp_walk
        rw [hc]
        exact ⟨plainId_quiet MeetsSeq3.plain_eq_loop _, codeAny_builtin MeetsSeq3.entry_eq_loop (by
          rw [Around.under_plainId MeetsSeq3.plain_eq_loop _]
          refine ih (i + 1) (by omega) (by omega) (by omega) prog w A R _ ⟨hl, hb, ?_⟩
          rw [e1, e2] at h
          simpa [ltW, hb'] using h)⟩
      · rw [decide_eq_false hb']
        wp_walk using wpAny_loadPart' hl, wpAny_loadPart' hb
        rw [hi1, hi2]
        refine wpAny_bind (sgt ?_)
        wp_walk
        rw [e1, e2] at h
        have hb2 : ¬ ys[i] = xs[i] := fun e => hb' e.symm
        simpa [ltW, hb', hb2] using h
    · have hi2 : us.toArray[((i : Nat) : Int).toNat]? = none := by simp; omega
      rw [hi2]
      wp_walk using wpAny_loadPart' hl, wpAny_loadPart' hb
      show R (.ok (.ret (.bool (decide (vs.toArray.size > us.toArray.size))))) _
      have e2 : ys.drop i = [] := List.drop_eq_nil_of_le (by omega)
      rw [e1, e2] at h
      have e3 : decide (vs.toArray.size > us.toArray.size) = ltW ([]) ((xs[i] :: xs.drop (i + 1))) := by simp [ltW]; omega
      rw [e3]; exact h
theorem list_lt (l b : Addr) (vs us : List Value) (xs ys : List (List Nat)) (n n2 : Nat) (hv : StrsAre vs (xs.map tx)) (hu : StrsAre us (ys.map tx)) :
    Meets (Builtin.«list.__lt__» ⟨[.ref l, .ref b], []⟩)
      (fun _ R s => s.heap.get? l = some (W.listOf vs.toArray n) ∧ s.heap.get? b = some (W.listOf us.toArray n2) ∧ R (.ok (.ret (.bool (ltW xs ys)))) s) := by
  intro prog w A R s h
  obtain ⟨hp, g, d, tk, os⟩ := s; obtain ⟨hl, hb, h⟩ := h
  have f3 := AutoSeq1.sub_list_list
  wp_walk using wpAny_loadPart' hl, wpAny_loadPart' hb
  exact ⟨plainId_quiet MeetsSeq3.plain_eq_loop _, codeAny_builtin MeetsSeq3.entry_eq_loop (by
    rw [Around.under_plainId MeetsSeq3.plain_eq_loop _]
    exact lt_loop l b vs us xs ys n n2 hv hu _ 0 rfl (Nat.zero_le _) (Nat.zero_le _) prog w A R _ ⟨hl, hb, by simpa using h⟩)⟩
theorem rc_lt {prog : Program} {w : World} {A : Around} {E : Value → Shared → Prop} {s : Shared} {l b : Addr} {vs us : List Value} {xs ys : List (List Nat)} {n n2 : Nat} {Q : Value → Shared → Prop} (hl : s.heap.get? l = some (W.listOf vs.toArray n)) (hb : s.heap.get? b = some (W.listOf us.toArray n2))
    (hv : StrsAre vs (xs.map tx)) (hu : StrsAre us (ys.map tx)) (hr : A.units < cLine) (h : Q (.bool (ltW xs ys)) s) : wpAny (model prog w) A (richCompare .Lt (.ref l) (.ref b)) Q E s :=
  wpAny_richCompare_same_room (T := "list") ⟨_, hl, rfl⟩ ⟨_, hb, rfl⟩ PySem.F.slot_list_lt (call_meets PySem.F.slot_list_lt ⟨_, hl, rfl⟩ PySem.F.entry_list_lt (PySem.F.args_list_lt_2 _ _) (list_lt l b vs us xs ys n n2 hv hu) ⟨hl, hb, fun e => (nomatch e), h⟩) hr
theorem list_gt (l b : Addr) (vs us : List Value) (xs ys : List (List Nat)) (n n2 : Nat) (hv : StrsAre vs (xs.map tx)) (hu : StrsAre us (ys.map tx)) :
    Meets (Builtin.«list.__gt__» ⟨[.ref l, .ref b], []⟩)
      (fun _ R s => s.heap.get? l = some (W.listOf vs.toArray n) ∧ s.heap.get? b = some (W.listOf us.toArray n2) ∧ R (.ok (.ret (.bool (ltW ys xs)))) s) := by
  intro prog w A R s h
  obtain ⟨hp, g, d, tk, os⟩ := s; obtain ⟨hl, hb, h⟩ := h
  have f3 := AutoSeq1.sub_list_list
  wp_walk using wpAny_loadPart' hl, wpAny_loadPart' hb
  exact ⟨plainId_quiet MeetsSeq3.plain_eq_loop _, codeAny_builtin MeetsSeq3.entry_eq_loop (by
    rw [Around.under_plainId MeetsSeq3.plain_eq_loop _]
    exact gt_loop l b vs us xs ys n n2 hv hu _ 0 rfl (Nat.zero_le _) (Nat.zero_le _) prog w A R _ ⟨hl, hb, by simpa using h⟩)⟩
theorem rc_gt {prog : Program} {w : World} {A : Around} {E : Value → Shared → Prop} {s : Shared} {l b : Addr} {vs us : List Value} {xs ys : List (List Nat)} {n n2 : Nat} {Q : Value → Shared → Prop} (hl : s.heap.get? l = some (W.listOf vs.toArray n)) (hb : s.heap.get? b = some (W.listOf us.toArray n2))
    (hv : StrsAre vs (xs.map tx)) (hu : StrsAre us (ys.map tx)) (hr : A.units < cLine) (h : Q (.bool (ltW ys xs)) s) : wpAny (model prog w) A (richCompare .Gt (.ref l) (.ref b)) Q E s :=
  wpAny_richCompare_same_room (T := "list") ⟨_, hl, rfl⟩ ⟨_, hb, rfl⟩ PySem.F.slot_list_gt (call_meets PySem.F.slot_list_gt ⟨_, hl, rfl⟩ PySem.F.entry_list_gt (PySem.F.args_list_gt_2 _ _) (list_gt l b vs us xs ys n n2 hv hu) ⟨hl, hb, fun e => (nomatch e), h⟩) hr
end

section
set_option Elab.async false
noncomputable def CmpG (prog : Program) (w : World) (A : Around) (op : CmpOp) (P : Nat → Value → Prop) (bt : Nat → Nat → Bool) (G : Heap → Prop) : Prop :=
  ∀ i j vi vj (s : Shared) (Q : Value → Shared → Prop) (E : Value → Shared → Prop), G s.heap → P i vi → P j vj → Q (.bool (bt i j)) s → wpAny (model prog w) A (richCompare op vi vj) Q E s
section
set_option maxRecDepth 100000
variable {prog : Program} {w : World} {A : Around} {R : Result → Shared → Prop} {I : Addr} {fp wr : List Addr} {n : Nat} {P : Nat → Value → Prop} {St : Nat → Heap → Prop}

theorem max_loop (W : Walks prog w A.in1 I fp wr n P St) (bt : Nat → Nat → Bool) (G : Heap → Prop) (hcmp : CmpG prog w A.in1 .Gt P bt G) (S : Addr) (hSf : S ∉ fp)
    (hG : ∀ h h', G h → (∀ b o, b ∉ wr → b ≠ S → h.get? b = some o → h'.get? b = some o) → G h') :
    ∀ (k j : Nat) (s : Shared) (vb : Value) (c : Nat), n - (j + 1) = k → j + 1 ≤ n → St (j + 1) s.heap → G s.heap → P (argBest bt j) vb →
    s.heap.get? S = some { cls := .type "list", dict := none, data := .seq #[vb, vb] c, slots := #[] } →
    (∀ v h' tk, P (argBest bt (n - 1)) v → (∀ b o, b ∉ wr → b ≠ S → s.heap.get? b = some o → h'.get? b = some o) → R (.ok (.ret v)) { s with heap := h', toks := tk }) →
    codeAny (model prog w) A (.builtin "max.loop" ⟨[.ref I, .none, .ref S], []⟩) R s := by
  have hSw : S ∉ wr := fun h => hSf (W.sub _ h)
  have hname : (toString "max" ++ toString ".loop" : String) = "max.loop" := by decide
  intro k
  induction k with
  | zero =>
    intro j s vb c hk hj hst hg hPb hS hR
    have hin : j + 1 = n := by omega
    refine codeAny_builtin PySem.F.entry_max_loop ?_
    rw [Around.under_plainId PySem.F.plain_max_loop _]
    show wpAny _ A.in1 (seqItems? (.ref S) >>= _) _ _ s
    refine wpAny_bind (wpAny_seqItems hS rfl ?_)
    show wpAny _ A.in1 (tryCatch (pyNext (.ref I)) _ >>= _) _ _ s
    refine wpAny_bind (wpAny_tryCatch (W.done s _ _ (hin ▸ hst) fun h' tk hk' => ?_))
    have hS' := hk' S _ hSw hS
    show wpAny _ A.in1 (updateSeq S (fun _ => #[]) >>= _) _ _ _
    refine wpAny_bind ?_
    refine wpAny_updateSeq hS' rfl (wpAny_bind (wpAny_letGo (wpAny_pure ?_)))
    exact hR vb _ tk (by rw [← hin]; exact hPb) fun b o hbw hbS e => (Heap.get?_update_other _ _ (Ne.symm hbS)).trans (hk' b o hbw e)
  | succ k ih =>
    intro j s vb c hk hj hst hg hPb hS hR
    have hlt : j + 1 < n := by omega
    refine codeAny_builtin PySem.F.entry_max_loop ?_
    rw [Around.under_plainId PySem.F.plain_max_loop _]
    show wpAny _ A.in1 (seqItems? (.ref S) >>= _) _ _ s
    refine wpAny_bind (wpAny_seqItems hS rfl ?_)
    show wpAny _ A.in1 (tryCatch (pyNext (.ref I)) _ >>= _) _ _ s
    refine wpAny_bind (wpAny_tryCatch (W.item (j + 1) s _ _ hlt hst fun v h' tk hP hst' hk' => ?_))
    have hS' := hk' S _ hSw hS
    have hg' : G h' := hG _ _ hg fun b o hb _ e => hk' b o hb e
    show wpAny _ A.in1 (tryCatch (holding [v, v] (richCompare .Gt v vb >>= _)) _ >>= _) _ _ _
    refine wpAny_bind (wpAny_tryCatch (wpAny_holding (wpAny_bind (hcmp (j + 1) (argBest bt j) v vb _ _ _ hg' hP hPb ?_))))
    refine wpAny_bind (wpAny_holding (wpAny_truthy_bool ?_))
    refine wpAny_bind (wpAny_letGo (wpAny_pure ?_))
    cases hb : bt (j + 1) (argBest bt j) with
    | true =>
      simp only [if_true]
      refine wpAny_bind ?_
      refine wpAny_updateSeq hS' rfl (wpAny_bind (wpAny_letGo ?_))
      rw [hname]
      refine wpAny_pure ⟨plainId_quiet PySem.F.plain_max_loop _, ih (j + 1) _ v _ (by omega) hlt (W.frame _ _ _ hst' fun b hbf o e => ?_) (hG _ _ hg' fun b o _ hbS e => (Heap.get?_update_other _ _ (Ne.symm hbS)).trans e) (by simp only [argBest, hb, if_true]; exact hP) (Heap.get?_update_self _ hS' rfl)
        fun v' h'' tk'' hP' hk'' => ?_⟩
      · exact (Heap.get?_update_other _ _ (fun h : S = b => hSf (by rw [h]; exact hbf))).trans e
      · exact hR v' h'' tk'' hP' fun b o hbw hbS e => hk'' b o hbw hbS ((Heap.get?_update_other _ _ (Ne.symm hbS)).trans (hk' b o hbw e))
    | false =>
      simp only [Bool.false_eq_true, if_false]
      refine wpAny_bind (wpAny_letGo ?_)
      rw [hname]
      refine wpAny_pure ⟨plainId_quiet PySem.F.plain_max_loop _, ih (j + 1) _ vb c (by omega) hlt hst' hg' (by simp only [argBest, hb, Bool.false_eq_true, if_false]; exact hPb) hS' fun v' h'' tk'' hP' hk'' => ?_⟩
      exact hR v' h'' tk'' hP' fun b o hbw hbS e => hk'' b o hbw hbS (hk' b o hbw e)
theorem call_max {x : Value} {Q : Value → Shared → Prop} {E : Value → Shared → Prop} {s : Shared}
    (h : wpAny (model prog w) A.in1 (pyIter x) (fun it s₂ => ∃ I fp wr n P St bt G, it = .ref I ∧ Walks prog w A.in1 I fp wr n P St ∧ St 0 s₂.heap ∧ (∀ b ∈ fp, b < s₂.heap.objs.size) ∧ 0 < n ∧ CmpG prog w A.in1 .Gt P bt G ∧ G s₂.heap ∧
      (∀ S, s₂.heap.objs.size ≤ S → ∀ h h', G h → (∀ b o, b ∉ wr → b ≠ S → h.get? b = some o → h'.get? b = some o) → G h') ∧
      ∀ v h' tk, P (argBest bt (n - 1)) v → (∀ b o, b ∉ wr → s₂.heap.get? b = some o → h'.get? b = some o) → Q v { s₂ with heap := h', toks := tk }) E s) :
    wpAny (model prog w) A (call (.builtin "max") [x]) Q E s := by
  have hname : (toString "max" ++ toString ".loop" : String) = "max.loop" := by decide
  refine call_function_tree PySem.F.kind_max PySem.F.plain_max PySem.F.entry_max (PySem.F.args_max1 _) ?_
  show wpAny _ A.in1 (Builtin.Builtins.bindParams "max" ["key", "default"] 0 ⟨[], []⟩ >>= _) _ _ s
  refine wpAny_bind (wpAny_of_eq (show Builtin.Builtins.bindParams "max" ["key", "default"] 0 ⟨[], []⟩ = pure [none, none] from rfl) ?_)
  refine wpAny_bind (wpAny_pure ?_)
  refine wpAny_bind (wpAny_mono h (fun it s₂ h₂ => ?_) fun _ _ e => e)
  obtain ⟨I, fp, wr, n, P, St, bt, G, rfl, W, hst, hfp, hn, hcmp, hg, hG, hQ⟩ := h₂
  refine wpAny_bind (wpAny_newObj_type ?_)
  have hSf : s₂.heap.objs.size ∉ fp := fun hm => Nat.lt_irrefl _ (hfp _ hm)
  have hSw : s₂.heap.objs.size ∉ wr := fun h => hSf (W.sub _ h)
  rw [hname]
  have hG' := hG _ (Nat.le_refl _)
  refine wpAny_pure ⟨plainId_quiet PySem.F.plain_max_loop _, ?_⟩
  refine codeAny_builtin PySem.F.entry_max_loop ?_
  rw [Around.under_plainId PySem.F.plain_max_loop _]
  have hS0 : (s₂.heap.push { cls := .type "list", data := .seq #[] }).get? s₂.heap.objs.size = some { cls := .type "list", dict := none, data := .seq #[] 0, slots := #[] } := Heap.get?_push_size _ rfl
  show wpAny _ A.in1 (seqItems? (.ref s₂.heap.objs.size) >>= _) _ _ _
  refine wpAny_bind (wpAny_seqItems hS0 rfl ?_)
  show wpAny _ A.in1 (tryCatch (pyNext (.ref I)) _ >>= _) _ _ _
  have hst0 : St 0 (s₂.heap.push { cls := .type "list", data := .seq #[] }) := W.frame _ _ _ hst fun b _ o e => Heap.get?_push_of_some _ e
  refine wpAny_bind (wpAny_tryCatch (W.item 0 _ _ _ hn hst0 fun v h' tk hP hst' hk' => ?_))
  have hS' := hk' _ _ hSw hS0
  show wpAny _ A.in1 (updateSeq s₂.heap.objs.size (fun _ => #[v, v]) >>= _) _ _ _
  refine wpAny_bind ?_
  refine wpAny_updateSeq hS' rfl ?_
  rw [hname]
  have hg0 : G h' := hG' _ _ (hG' _ _ hg fun b o _ _ e => Heap.get?_push_of_some _ e) fun b o hb _ e => hk' b o hb e
  refine wpAny_pure ⟨plainId_quiet PySem.F.plain_max_loop _, max_loop W bt G hcmp _ hSf hG' _ 0 _ v _ rfl hn (W.frame _ _ _ hst' fun b hbf o e => ?_) (hG' _ _ hg0 fun b o _ hbS e => (Heap.get?_update_other _ _ (Ne.symm hbS)).trans e) hP (Heap.get?_update_self _ hS' rfl) fun v' h'' tk'' hP' hk'' => ?_⟩
  · exact (Heap.get?_update_other _ _ (fun h : _ = b => hSf (by rw [h]; exact hbf))).trans e
  · exact hQ v' h'' tk'' hP' fun b o hbw e => hk'' b o hbw (Nat.ne_of_lt (Heap.lt_size e)) ((Heap.get?_update_other _ _ (Nat.ne_of_gt (Heap.lt_size e))).trans (hk' b o hbw (Heap.get?_push_of_some _ e)))

theorem min_loop (W : Walks prog w A.in1 I fp wr n P St) (bt : Nat → Nat → Bool) (G : Heap → Prop) (hcmp : CmpG prog w A.in1 .Lt P bt G) (S : Addr) (hSf : S ∉ fp)
    (hG : ∀ h h', G h → (∀ b o, b ∉ wr → b ≠ S → h.get? b = some o → h'.get? b = some o) → G h') :
    ∀ (k j : Nat) (s : Shared) (vb : Value) (c : Nat), n - (j + 1) = k → j + 1 ≤ n → St (j + 1) s.heap → G s.heap → P (argBest bt j) vb →
    s.heap.get? S = some { cls := .type "list", dict := none, data := .seq #[vb, vb] c, slots := #[] } →
    (∀ v h' tk, P (argBest bt (n - 1)) v → (∀ b o, b ∉ wr → b ≠ S → s.heap.get? b = some o → h'.get? b = some o) → R (.ok (.ret v)) { s with heap := h', toks := tk }) →
    codeAny (model prog w) A (.builtin "min.loop" ⟨[.ref I, .none, .ref S], []⟩) R s := by
  have hSw : S ∉ wr := fun h => hSf (W.sub _ h)
  have hname : (toString "min" ++ toString ".loop" : String) = "min.loop" := by decide
  intro k
  induction k with
  | zero =>
    intro j s vb c hk hj hst hg hPb hS hR
    have hin : j + 1 = n := by omega
    refine codeAny_builtin PySem.F.entry_min_loop ?_
    rw [Around.under_plainId PySem.F.plain_min_loop _]
    show wpAny _ A.in1 (seqItems? (.ref S) >>= _) _ _ s
    refine wpAny_bind (wpAny_seqItems hS rfl ?_)
    show wpAny _ A.in1 (tryCatch (pyNext (.ref I)) _ >>= _) _ _ s
    refine wpAny_bind (wpAny_tryCatch (W.done s _ _ (hin ▸ hst) fun h' tk hk' => ?_))
    have hS' := hk' S _ hSw hS
    show wpAny _ A.in1 (updateSeq S (fun _ => #[]) >>= _) _ _ _
    refine wpAny_bind ?_
    refine wpAny_updateSeq hS' rfl (wpAny_bind (wpAny_letGo (wpAny_pure ?_)))
    exact hR vb _ tk (by rw [← hin]; exact hPb) fun b o hbw hbS e => (Heap.get?_update_other _ _ (Ne.symm hbS)).trans (hk' b o hbw e)
  | succ k ih =>
    intro j s vb c hk hj hst hg hPb hS hR
    have hlt : j + 1 < n := by omega
    refine codeAny_builtin PySem.F.entry_min_loop ?_
    rw [Around.under_plainId PySem.F.plain_min_loop _]
    show wpAny _ A.in1 (seqItems? (.ref S) >>= _) _ _ s
    refine wpAny_bind (wpAny_seqItems hS rfl ?_)
    show wpAny _ A.in1 (tryCatch (pyNext (.ref I)) _ >>= _) _ _ s
    refine wpAny_bind (wpAny_tryCatch (W.item (j + 1) s _ _ hlt hst fun v h' tk hP hst' hk' => ?_))
    have hS' := hk' S _ hSw hS
    have hg' : G h' := hG _ _ hg fun b o hb _ e => hk' b o hb e
    show wpAny _ A.in1 (tryCatch (holding [v, v] (richCompare .Lt v vb >>= _)) _ >>= _) _ _ _
    refine wpAny_bind (wpAny_tryCatch (wpAny_holding (wpAny_bind (hcmp (j + 1) (argBest bt j) v vb _ _ _ hg' hP hPb ?_))))
    refine wpAny_bind (wpAny_holding (wpAny_truthy_bool ?_))
    refine wpAny_bind (wpAny_letGo (wpAny_pure ?_))
    cases hb : bt (j + 1) (argBest bt j) with
    | true =>
      simp only [if_true]
      refine wpAny_bind ?_
      refine wpAny_updateSeq hS' rfl (wpAny_bind (wpAny_letGo ?_))
      rw [hname]
      refine wpAny_pure ⟨plainId_quiet PySem.F.plain_min_loop _, ih (j + 1) _ v _ (by omega) hlt (W.frame _ _ _ hst' fun b hbf o e => ?_) (hG _ _ hg' fun b o _ hbS e => (Heap.get?_update_other _ _ (Ne.symm hbS)).trans e) (by simp only [argBest, hb, if_true]; exact hP) (Heap.get?_update_self _ hS' rfl)
        fun v' h'' tk'' hP' hk'' => ?_⟩
      · exact (Heap.get?_update_other _ _ (fun h : S = b => hSf (by rw [h]; exact hbf))).trans e
      · exact hR v' h'' tk'' hP' fun b o hbw hbS e => hk'' b o hbw hbS ((Heap.get?_update_other _ _ (Ne.symm hbS)).trans (hk' b o hbw e))
    | false =>
      simp only [Bool.false_eq_true, if_false]
      refine wpAny_bind (wpAny_letGo ?_)
      rw [hname]
      refine wpAny_pure ⟨plainId_quiet PySem.F.plain_min_loop _, ih (j + 1) _ vb c (by omega) hlt hst' hg' (by simp only [argBest, hb, Bool.false_eq_true, if_false]; exact hPb) hS' fun v' h'' tk'' hP' hk'' => ?_⟩
      exact hR v' h'' tk'' hP' fun b o hbw hbS e => hk'' b o hbw hbS (hk' b o hbw e)
theorem call_min {x : Value} {Q : Value → Shared → Prop} {E : Value → Shared → Prop} {s : Shared}
    (h : wpAny (model prog w) A.in1 (pyIter x) (fun it s₂ => ∃ I fp wr n P St bt G, it = .ref I ∧ Walks prog w A.in1 I fp wr n P St ∧ St 0 s₂.heap ∧ (∀ b ∈ fp, b < s₂.heap.objs.size) ∧ 0 < n ∧ CmpG prog w A.in1 .Lt P bt G ∧ G s₂.heap ∧
      (∀ S, s₂.heap.objs.size ≤ S → ∀ h h', G h → (∀ b o, b ∉ wr → b ≠ S → h.get? b = some o → h'.get? b = some o) → G h') ∧
      ∀ v h' tk, P (argBest bt (n - 1)) v → (∀ b o, b ∉ wr → s₂.heap.get? b = some o → h'.get? b = some o) → Q v { s₂ with heap := h', toks := tk }) E s) :
    wpAny (model prog w) A (call (.builtin "min") [x]) Q E s := by
  have hname : (toString "min" ++ toString ".loop" : String) = "min.loop" := by decide
  refine call_function_tree PySem.F.kind_min PySem.F.plain_min PySem.F.entry_min (PySem.F.args_min1 _) ?_
  show wpAny _ A.in1 (Builtin.Builtins.bindParams "min" ["key", "default"] 0 ⟨[], []⟩ >>= _) _ _ s
  refine wpAny_bind (wpAny_of_eq (show Builtin.Builtins.bindParams "min" ["key", "default"] 0 ⟨[], []⟩ = pure [none, none] from rfl) ?_)
  refine wpAny_bind (wpAny_pure ?_)
  refine wpAny_bind (wpAny_mono h (fun it s₂ h₂ => ?_) fun _ _ e => e)
  obtain ⟨I, fp, wr, n, P, St, bt, G, rfl, W, hst, hfp, hn, hcmp, hg, hG, hQ⟩ := h₂
  refine wpAny_bind (wpAny_newObj_type ?_)
  have hSf : s₂.heap.objs.size ∉ fp := fun hm => Nat.lt_irrefl _ (hfp _ hm)
  have hSw : s₂.heap.objs.size ∉ wr := fun h => hSf (W.sub _ h)
  rw [hname]
  have hG' := hG _ (Nat.le_refl _)
  refine wpAny_pure ⟨plainId_quiet PySem.F.plain_min_loop _, ?_⟩
  refine codeAny_builtin PySem.F.entry_min_loop ?_
  rw [Around.under_plainId PySem.F.plain_min_loop _]
  have hS0 : (s₂.heap.push { cls := .type "list", data := .seq #[] }).get? s₂.heap.objs.size = some { cls := .type "list", dict := none, data := .seq #[] 0, slots := #[] } := Heap.get?_push_size _ rfl
  show wpAny _ A.in1 (seqItems? (.ref s₂.heap.objs.size) >>= _) _ _ _
  refine wpAny_bind (wpAny_seqItems hS0 rfl ?_)
  show wpAny _ A.in1 (tryCatch (pyNext (.ref I)) _ >>= _) _ _ _
  have hst0 : St 0 (s₂.heap.push { cls := .type "list", data := .seq #[] }) := W.frame _ _ _ hst fun b _ o e => Heap.get?_push_of_some _ e
  refine wpAny_bind (wpAny_tryCatch (W.item 0 _ _ _ hn hst0 fun v h' tk hP hst' hk' => ?_))
  have hS' := hk' _ _ hSw hS0
  show wpAny _ A.in1 (updateSeq s₂.heap.objs.size (fun _ => #[v, v]) >>= _) _ _ _
  refine wpAny_bind ?_
  refine wpAny_updateSeq hS' rfl ?_
  rw [hname]
  have hg0 : G h' := hG' _ _ (hG' _ _ hg fun b o _ _ e => Heap.get?_push_of_some _ e) fun b o hb _ e => hk' b o hb e
  refine wpAny_pure ⟨plainId_quiet PySem.F.plain_min_loop _, min_loop W bt G hcmp _ hSf hG' _ 0 _ v _ rfl hn (W.frame _ _ _ hst' fun b hbf o e => ?_) (hG' _ _ hg0 fun b o _ hbS e => (Heap.get?_update_other _ _ (Ne.symm hbS)).trans e) hP (Heap.get?_update_self _ hS' rfl) fun v' h'' tk'' hP' hk'' => ?_⟩
  · exact (Heap.get?_update_other _ _ (fun h : _ = b => hSf (by rw [h]; exact hbf))).trans e
  · exact hQ v' h'' tk'' hP' fun b o hbw e => hk'' b o hbw (Nat.ne_of_lt (Heap.lt_size e)) ((Heap.get?_update_other _ _ (Nat.ne_of_gt (Heap.lt_size e))).trans (hk' b o hbw (Heap.get?_push_of_some _ e)))
end
end

section
set_option Elab.async false
/-- the ledger bears lists of texts at these places -/
noncomputable def Rows (news : List (Addr × Obj)) (rs : List Addr) (ws : List (List (List Nat))) : Prop :=
  rs.length = ws.length ∧ ∀ i (hi : i < rs.length) (hj : i < ws.length), ∃ vs k, (rs[i], W.listOf (List.toArray vs) k) ∈ news ∧ StrsAre vs (ws[i].map tx)
section
variable {prog : Program} {w : World} {A : Around} {E : Value → Shared → Prop} {s : Shared} {Q : Value → Shared → Prop} {h₀ : Heap} {L : Addr} {m : Str → Option Value} {news : List (Addr × Obj)}
theorem iter_keeps {I : Addr} {h' : Heap} (F : Fr h₀ L s.heap m) (N : News h₀ L s.heap news) (hI : s.heap.objs.size = I) (o : Obj) (k : ∀ b o', b ∉ [I] → (s.heap.push o).get? b = some o' → h'.get? b = some o') : Fr h₀ L h' m ∧ News h₀ L h' news := by
  have key : ∀ b o', s.heap.get? b = some o' → h'.get? b = some o' := fun b o' e => k b o' (by
    intro hb; rw [List.mem_singleton.mp hb, ← hI] at e; exact absurd (Heap.lt_size e) (Nat.lt_irrefl _)) (Heap.get?_push_of_some _ e)
  exact ⟨F.keeps key, News.keeps N key⟩
theorem min_lists {a : Addr} {rs : List Addr} {ws : List (List (List Nat))} {n : Nat} (F : Fr h₀ L s.heap m) (N : News h₀ L s.heap news) (hm : (a, W.listOf (rs.map Value.ref).toArray n) ∈ news) (hr : Rows news rs ws) (hn : 0 < rs.length) (hA : A.handled = none) (hu : A.in1.units < cLine)
    (h : ∀ i (hi : i < rs.length) h' tk', i = argBest (fun i j => ltW (ws.getD i []) (ws.getD j [])) (rs.length - 1) → Fr h₀ L h' m → News h₀ L h' news → Q (.ref rs[i]) { s with heap := h', toks := tk' }) :
    wpAny (model prog w) A (call (.builtin "min") [.ref a]) Q E s := by
  have hls := news_isList N hm
  have hlt : a < s.heap.objs.size := Heap.lt_size (N.get hm)
  have hne : a ≠ s.heap.objs.size := Nat.ne_of_lt hlt
  refine call_min (wpAny_pyIter_list hls ?_)
  have W := Walks.list (prog := prog) (w := w) (A := A.in1) hA s.heap.objs.size a hne (rs.map Value.ref).toArray
  have hsz : (rs.map Value.ref).toArray.size = rs.length := by simp
  rw [hsz] at W
  refine ⟨_, _, _, rs.length, _, _, (fun i j => ltW (ws.getD i []) (ws.getD j [])), (fun h => ∀ p ∈ news, h.get? p.1 = some p.2), rfl, W, ⟨⟨_, Heap.get?_push_size _ rfl, rfl, rfl⟩, hls.at fun o e => Heap.get?_push_of_some _ e⟩, ?_, hn, ?_, ?_, ?_, ?_⟩
  · intro b hb
    rw [Heap.size_push]
    rcases List.mem_cons.mp hb with rfl | hb
    · exact Nat.lt_succ_self _
    · rw [List.mem_singleton.mp hb]; exact Nat.lt_succ_of_lt hlt
  · intro i j vi vj s' Q' E' hg hi hj hq
    have hi' : (rs.map Value.ref)[i]? = some vi := by simpa using hi
    have hj' : (rs.map Value.ref)[j]? = some vj := by simpa using hj
    have li : i < rs.length := by have := (List.getElem?_eq_some_iff.mp hi').1; simpa using this
    have lj : j < rs.length := by have := (List.getElem?_eq_some_iff.mp hj').1; simpa using this
    have li2 : i < ws.length := hr.1 ▸ li
    have lj2 : j < ws.length := hr.1 ▸ lj
    have ei : vi = .ref rs[i] := by simp [li] at hi'; exact hi'.symm
    have ej : vj = .ref rs[j] := by simp [lj] at hj'; exact hj'.symm
    subst ei ej
    obtain ⟨v1, k1, m1, s1⟩ := hr.2 i li li2
    obtain ⟨v2, k2, m2, s2⟩ := hr.2 j lj lj2
    refine rc_lt (hg _ m1) (hg _ m2) s1 s2 hu ?_
    simpa [List.getD, li2, lj2] using hq
  · exact fun p hp => Heap.get?_push_of_some _ (N p hp).1
  · intro S hS h h' hg hk p hp
    have hp' : p.1 < s.heap.objs.size := Heap.lt_size (N p hp).1
    refine hk _ _ (fun hb => ?_) (fun e => ?_) (hg p hp)
    · rw [List.mem_singleton.mp hb] at hp'; exact Nat.lt_irrefl _ hp'
    · have hS2 : s.heap.objs.size + 1 ≤ S := (Heap.size_push (h := s.heap) _) ▸ hS
      rw [e] at hp'
      exact absurd hp' (Nat.not_lt.mpr (Nat.le_of_succ_le hS2))
  · intro v h' tk hP hk
    generalize hb : argBest (fun i j => ltW (ws.getD i []) (ws.getD j [])) (rs.length - 1) = b at hP
    have hP' : (rs.map Value.ref)[b]? = some v := by simpa using hP
    have li : b < rs.length := by have := (List.getElem?_eq_some_iff.mp hP').1; simpa using this
    have ev : v = .ref rs[b] := by rw [List.getElem?_map, List.getElem?_eq_getElem li] at hP'; exact (Option.some.inj hP').symm
    subst ev
    obtain ⟨F', N'⟩ := iter_keeps F N rfl _ hk
    exact h b li h' tk hb.symm F' N'
theorem max_lists {a : Addr} {rs : List Addr} {ws : List (List (List Nat))} {n : Nat} (F : Fr h₀ L s.heap m) (N : News h₀ L s.heap news) (hm : (a, W.listOf (rs.map Value.ref).toArray n) ∈ news) (hr : Rows news rs ws) (hn : 0 < rs.length) (hA : A.handled = none) (hu : A.in1.units < cLine)
    (h : ∀ i (hi : i < rs.length) h' tk', i = argBest (fun i j => ltW (ws.getD j []) (ws.getD i [])) (rs.length - 1) → Fr h₀ L h' m → News h₀ L h' news → Q (.ref rs[i]) { s with heap := h', toks := tk' }) :
    wpAny (model prog w) A (call (.builtin "max") [.ref a]) Q E s := by
  have hls := news_isList N hm
  have hlt : a < s.heap.objs.size := Heap.lt_size (N.get hm)
  have hne : a ≠ s.heap.objs.size := Nat.ne_of_lt hlt
  refine call_max (wpAny_pyIter_list hls ?_)
  have W := Walks.list (prog := prog) (w := w) (A := A.in1) hA s.heap.objs.size a hne (rs.map Value.ref).toArray
  have hsz : (rs.map Value.ref).toArray.size = rs.length := by simp
  rw [hsz] at W
  refine ⟨_, _, _, rs.length, _, _, (fun i j => ltW (ws.getD j []) (ws.getD i [])), (fun h => ∀ p ∈ news, h.get? p.1 = some p.2), rfl, W, ⟨⟨_, Heap.get?_push_size _ rfl, rfl, rfl⟩, hls.at fun o e => Heap.get?_push_of_some _ e⟩, ?_, hn, ?_, ?_, ?_, ?_⟩
  · intro b hb
    rw [Heap.size_push]
    rcases List.mem_cons.mp hb with rfl | hb
    · exact Nat.lt_succ_self _
    · rw [List.mem_singleton.mp hb]; exact Nat.lt_succ_of_lt hlt
  · intro i j vi vj s' Q' E' hg hi hj hq
    have hi' : (rs.map Value.ref)[i]? = some vi := by simpa using hi
    have hj' : (rs.map Value.ref)[j]? = some vj := by simpa using hj
    have li : i < rs.length := by have := (List.getElem?_eq_some_iff.mp hi').1; simpa using this
    have lj : j < rs.length := by have := (List.getElem?_eq_some_iff.mp hj').1; simpa using this
    have li2 : i < ws.length := hr.1 ▸ li
    have lj2 : j < ws.length := hr.1 ▸ lj
    have ei : vi = .ref rs[i] := by simp [li] at hi'; exact hi'.symm
    have ej : vj = .ref rs[j] := by simp [lj] at hj'; exact hj'.symm
    subst ei ej
    obtain ⟨v1, k1, m1, s1⟩ := hr.2 i li li2
    obtain ⟨v2, k2, m2, s2⟩ := hr.2 j lj lj2
    refine rc_gt (hg _ m1) (hg _ m2) s1 s2 hu ?_
    simpa [List.getD, li2, lj2] using hq
  · exact fun p hp => Heap.get?_push_of_some _ (N p hp).1
  · intro S hS h h' hg hk p hp
    have hp' : p.1 < s.heap.objs.size := Heap.lt_size (N p hp).1
    refine hk _ _ (fun hb => ?_) (fun e => ?_) (hg p hp)
    · rw [List.mem_singleton.mp hb] at hp'; exact Nat.lt_irrefl _ hp'
    · have hS2 : s.heap.objs.size + 1 ≤ S := (Heap.size_push (h := s.heap) _) ▸ hS
      rw [e] at hp'
      exact absurd hp' (Nat.not_lt.mpr (Nat.le_of_succ_le hS2))
  · intro v h' tk hP hk
    generalize hb : argBest (fun i j => ltW (ws.getD j []) (ws.getD i [])) (rs.length - 1) = b at hP
    have hP' : (rs.map Value.ref)[b]? = some v := by simpa using hP
    have li : b < rs.length := by have := (List.getElem?_eq_some_iff.mp hP').1; simpa using this
    have ev : v = .ref rs[b] := by rw [List.getElem?_map, List.getElem?_eq_getElem li] at hP'; exact (Option.some.inj hP').symm
    subst ev
    obtain ⟨F', N'⟩ := iter_keeps F N rfl _ hk
    exact h b li h' tk hb.symm F' N'
end
end

section
set_option Elab.async false
theorem Rows.sub {n₁ news : List (Addr × Obj)} {rs : List Addr} {ws : List (List (List Nat))} (h : Rows n₁ rs ws) (hs : ∀ p ∈ n₁, p ∈ news) : Rows news rs ws :=
  ⟨h.1, fun i hi hj => by obtain ⟨vs, k, hm, hv⟩ := h.2 i hi hj; exact ⟨vs, k, hs _ hm, hv⟩⟩
section
variable {prog : Program} {w : World} {A : Around} {E : Value → Shared → Prop} {s : Shared} {Q : Value → Shared → Prop} {h₀ : Heap} {L : Addr} {m : Str → Option Value} {n₁ news : List (Addr × Obj)}
theorem min_l {a : Addr} {rs : List Addr} {ls : Array Value} {ws : List (List (List Nat))} {n : Nat} (hr : Rows n₁ rs ws) (F : Fr h₀ L s.heap m) (N : News h₀ L s.heap news) (hm : (a, W.listOf ls n) ∈ news) (hs : ∀ p ∈ n₁, p ∈ news) (hls : ls = (rs.map Value.ref).toArray) (hn : 0 < rs.length) (hA : A.handled = none) (hu : A.in1.units < cLine)
    (h : ∀ i (hi : i < rs.length) h' tk', i = argBest (fun i j => ltW (ws.getD i []) (ws.getD j [])) (rs.length - 1) → Fr h₀ L h' m → News h₀ L h' news → Q (.ref rs[i]) { s with heap := h', toks := tk' }) :
    wpAny (model prog w) A (call (.builtin "min") [.ref a]) Q E s :=
  min_lists F N (hls ▸ hm) (hr.sub hs) hn hA hu h
theorem max_l {a : Addr} {rs : List Addr} {ls : Array Value} {ws : List (List (List Nat))} {n : Nat} (hr : Rows n₁ rs ws) (F : Fr h₀ L s.heap m) (N : News h₀ L s.heap news) (hm : (a, W.listOf ls n) ∈ news) (hs : ∀ p ∈ n₁, p ∈ news) (hls : ls = (rs.map Value.ref).toArray) (hn : 0 < rs.length) (hA : A.handled = none) (hu : A.in1.units < cLine)
    (h : ∀ i (hi : i < rs.length) h' tk', i = argBest (fun i j => ltW (ws.getD j []) (ws.getD i [])) (rs.length - 1) → Fr h₀ L h' m → News h₀ L h' news → Q (.ref rs[i]) { s with heap := h', toks := tk' }) :
    wpAny (model prog w) A (call (.builtin "max") [.ref a]) Q E s :=
  max_lists F N (hls ▸ hm) (hr.sub hs) hn hA hu h
end
theorem best2 (bt : Nat → Nat → Bool) (h : bt 1 0 = false) : argBest bt 1 = 0 := by
  show (if bt 1 (argBest bt 0) then 1 else argBest bt 0) = 0
  rw [show argBest bt 0 = 0 from rfl, h]; rfl
section
variable {prog : Program} {w : World} {A : Around} {E : Value → Shared → Prop} {s : Shared} {Q : Value → Shared → Prop} {h₀ : Heap} {L : Addr} {m : Str → Option Value} {n₁ news : List (Addr × Obj)}
theorem min_z {a r₀ : Addr} {rs : List Addr} {ls : Array Value} {ws : List (List (List Nat))} {n : Nat} (hr : Rows n₁ (r₀ :: rs) ws) (hz : argBest (fun i j => ltW (ws.getD i []) (ws.getD j [])) rs.length = 0) (F : Fr h₀ L s.heap m) (N : News h₀ L s.heap news) (hm : (a, W.listOf ls n) ∈ news) (hs : ∀ p ∈ n₁, p ∈ news) (hls : ls = ((r₀ :: rs).map Value.ref).toArray) (hA : A.handled = none) (hu : A.in1.units < cLine)
    (h : ∀ h' tk', Fr h₀ L h' m → News h₀ L h' news → Q (.ref r₀) { s with heap := h', toks := tk' }) :
    wpAny (model prog w) A (call (.builtin "min") [.ref a]) Q E s :=
  min_l hr F N hm hs hls (Nat.succ_pos _) hA hu fun i hi h' tk' hb F' N' => by
    have e : i = 0 := hb.trans hz
    subst e
    exact h h' tk' F' N'
end
end

section
set_option Elab.async false
/-- arguments bound with one tuple made on the way -/
theorem wp_starred {α : Type} {K : Frag} {M : Model} {A : Around} {E : Value → Shared → Prop} {Q : α → Shared → Prop} {s : Shared} {o : Obj} {r : Addr → α}
    (X : K.In s.heap) (q : Q (r s.heap.objs.size) { s with heap := s.heap.push o }) :
    ∀ (t : Sem α) (g : Addr → Option α), peek1 K ⟨M.prog, M.w.params⟩ t = some (o, g) → (∀ D, g D = some (r D)) → wpAny M A t Q E s := by
  intro t
  induction t with
  | rule _ k ih => exact fun g e hg Γ p hΓ => ih () g e hg Γ p hΓ
  | point _ k ih => exact fun g e hg Γ p hΓ => ih () g e hg Γ p hΓ
  | ask k ih => exact fun g e hg Γ p hΓ => ih _ g e hg Γ p hΓ
  | load a _ k ih =>
    intro g e hg Γ p hΓ
    simp only [peek1] at e
    split at e
    · rename_i ob ho; exact ⟨ob, X _ _ ho, ih ob g e hg Γ p hΓ⟩
    · cases e
  | alloc ob k _ =>
    intro g e hg
    have e : some (ob, fun D => peek K ⟨M.prog, M.w.params⟩ (k D)) = some (o, g) := e
    obtain ⟨e1, e2⟩ := Prod.mk.inj (Option.some.inj e)
    subst e1
    subst e2
    have X' : K.In (s.heap.push ob) := X.keeps fun b x hb => Heap.get?_push_of_some _ hb
    show wpAny M A (PySem.alloc ob >>= k) Q E s
    refine wpAny_bind (wpAny_alloc ?_)
    exact (Looks.of_peek (M := M) (h := s.heap.push ob) X' (hg s.heap.objs.size)).here (s := { s with heap := s.heap.push ob }) q
  | _ => intro g e; cases e
/-- a def with a starred parameter entered -/
theorem enterS {prog : Program} {w : World} {A : Around} {E : Value → Shared → Prop} {s : Shared} {Q : Value → Shared → Prop} {K : Frag} {name qual : Str} {params : Arguments} {body : List Stmt} {scope : Scope} {dV kV doc pm cdv ct oc : Value} {an od : Option Addr} {osl : Array (Option Value)} {f : Addr} {vs : List Value} {o : Obj} {g₁ : Addr → Option (List (Str × Value))} {binds : Addr → List (Str × Value)}
    {p : Program} {loose : List Str} {mean : ExcName → Option Value} {mg mb : Str → Option Value}
    (X : K.In s.heap) (T : Top p loose mean mg mb s.heap) (hroom : A.depth < recursionLimit)
    (ho : K.lookup f = some ⟨oc, od, .func (fnOf name qual params body scope dV kV doc pm an cdv ct), osl⟩) (hcd : codeIn K cdv qual = true) (hfr : o.isFreed = false)
    (hp : peek1 K ⟨prog, w.params⟩ (bindArgs (fnOf name qual params body scope dV kV doc pm an cdv ct) ⟨vs, []⟩) = some (o, g₁))
    (hg : ∀ D, g₁ D = some (binds D)) (hloc : ∀ D, ∀ y ∈ binds D, scope.names.lookup y.1 = some .local)
    (h : ∀ D g L h₁, s.heap.get? D = none → (∀ b o, s.heap.get? b = some o → g.get? b = some o) → Fr g L h₁ (fun y => (binds D).reverse.lookup y) → News g L h₁ [(D, o)] →
      wpAny (model prog w) (A.deeper (envOf qual scope L f cdv)) (execs body (envOf qual scope L f cdv))
        (fun fl s' => Q (match fl with | .ret v => v | _ => .none) s') (fun _ _ => False)
        { s with heap := h₁, toks := s.toks + (binds D).length })
    (hco : scope.isCoroutine = false) (hgen : scope.isGenerator = false) (hk : scope.kind = .function)
    (hcell : ∀ x ∈ scope.names, x.2 ≠ .cell) : wpAny (model prog w) A (call (.ref f) vs) Q E s := by
  refine wpAny_call ?_
  refine codeAny_call_function (fd := fnOf name qual params body scope dV kV doc pm an cdv ct) (body := body) hroom (X _ _ ho) rfl hco hgen rfl (codeRec_of X hcd) ?_
  refine wp_starred (o := o) (r := binds) X ?_ _ g₁ hp hg
  have kp : ∀ b ob, s.heap.get? b = some ob → (s.heap.push o).get? b = some ob := fun b ob e => Heap.get?_push_of_some _ e
  have hD : (s.heap.push o).get? s.heap.objs.size = some o := Heap.get?_push_size _ hfr
  have hDn : s.heap.get? s.heap.objs.size = none := by
    cases e : s.heap.get? s.heap.objs.size with
    | none => rfl
    | some x => exact absurd (Heap.lt_size e) (Nat.lt_irrefl _)
  generalize s.heap.objs.size = D at hD hDn ⊢
  generalize s.heap.push o = H at kp hD ⊢
  refine wpAny_newFunctionEnv hcell (hloc D) (fun h₁ hns hsb => ⟨((T.keeps kp).nolimit).fresh _ hsb, codeAny_func ?_⟩) hk
  have hk₁ : ∀ b o, H.get? b = some o → h₁.get? b = some o := fun b o e => hsb.extBut b o (Nat.ne_of_lt (Heap.lt_size e)) (Heap.get?_push_of_some _ e)
  refine wpAny_mono (h D (hideAll H [D]) _ h₁ hDn (fun b ob e => hideAll_get _ (kp b ob e) fun hb => ?_) ⟨hns, fun b o e => hk₁ b o (of_hideAll _ e), Nat.le_of_eq (hideAll_size _ _)⟩ (fun p hp => ?_)) (fun fl s' hl => hl) fun _ _ y => y.elim
  · rw [List.mem_singleton.mp hb, hDn] at e; cases e
  · rw [List.mem_singleton.mp hp]
    exact ⟨hk₁ _ _ hD, Nat.ne_of_lt (Heap.lt_size hD), hideAll_none _ (.head _)⟩
theorem binds_peek {K : Frag} {s : Shared} {fd : FuncData} {args : Args} {binds : List (Str × Value)} (X : K.In s.heap) (h : ∀ S : Setting, peek K S (bindArgs fd args) = some binds) : BindsTo s fd args binds :=
  fun M _ _ _ hq => (Looks.of_peek (M := M) X (h _)).here hq
end

section
set_option Elab.async false
/-- a path from the root, and the walk that it makes -/
structure Pth (r : List Nat) (ws : List (List Nat)) : Prop where
  ex : ∃ ps, ps ≠ [] ∧ (∀ q ∈ ps, 47 ∉ q) ∧ r = jn 47 ps ∧ ws = np ps
  hd : r.take 1 ≠ [47]
  len : (tx (47 :: r)).length ≤ 1000000
theorem jn_take {ws : List (List Nat)} (h : ∀ q ∈ ws, q ≠ [] ∧ 47 ∉ q) : (jn 47 ws).take 1 ≠ [47] := by
  cases ws with
  | nil => simp [jn]
  | cons a r =>
    obtain ⟨h1, h2⟩ := h a (.head _)
    cases a with
    | nil => exact absurd rfl h1
    | cons c a =>
      have hc : c ≠ 47 := fun e => h2 (by rw [e]; exact .head _)
      cases r with
      | nil => simpa [jn] using hc
      | cons b r => simpa [jn] using hc
theorem jn_nonempty {ws : List (List Nat)} (h : ∀ q ∈ ws, q ≠ [] ∧ 47 ∉ q) (hw : ws ≠ []) : jn 47 ws ≠ [] := by
  cases ws with
  | nil => exact absurd rfl hw
  | cons a r =>
    obtain ⟨h1, _⟩ := h a (.head _)
    cases r with
    | nil => simpa [jn] using h1
    | cons b r => simp [jn]
namespace Pth
variable {r : List Nat} {ws : List (List Nat)}
theorem free (P : Pth r ws) : ∀ q ∈ ws, q ≠ [] ∧ q ≠ [46] ∧ q ≠ [46, 46] ∧ 47 ∉ q := by
  obtain ⟨ps, h1, h2, h3, rfl⟩ := P.ex
  intro q hq
  have := np_free ps q hq
  refine ⟨this.1, this.2.1, this.2.2.1, h2 q this.2.2.2⟩
theorem ne (P : Pth r ws) : ∀ q ∈ ws, q ≠ [] ∧ 47 ∉ q := fun q hq => ⟨(P.free q hq).1, (P.free q hq).2.2.2⟩
theorem tot (P : Pth r ws) : (ws.map (·.length)).sum + ws.length ≤ 1000000 := by
  obtain ⟨ps, h1, h2, h3, rfl⟩ := P.ex
  have := np_bound ps
  have := jn_len_eq 47 ps h1
  have hl := P.len
  rw [tx_len, h3] at hl
  simp only [List.length_cons] at hl
  omega
theorem outlen (P : Pth r ws) : (tx (47 :: jn 47 ws)).length ≤ 1000000 := by
  have := P.tot
  rw [tx_len]
  by_cases hn : ws = []
  · rw [hn]; simp [jn]
  · have q3 := jn_len_eq 47 ws hn
    simp only [List.length_cons]; omega
theorem root : Pth [] [] := ⟨⟨[[]], by simp, by simp, rfl, by decide⟩, by simp, by rw [tx_len]; decide⟩
end Pth
end

section
section
variable {w : World} {A : Around} {E : Value → Shared → Prop} {s : Shared} {Q : Value → Shared → Prop} {h₀ : Heap} {L : Addr} {m : Str → Option Value} {news : List (Addr × Obj)} {p : Program} {loose : List Str} {mean : ExcName → Option Value} {mg mb : Str → Option Value}
theorem normpath_ {ps : List (List Nat)} {r : List Nat} {t : Tok} (F : Fr h₀ L s.heap m) (N : News h₀ L s.heap news) (K : (fragK.heap_1 w.params).In h₀) (X : KNin w h₀) (T : Top p loose mean mg mb h₀) (hA : A.handled = none) (hd : A.depth ≤ 420) (hu : A.units ≤ 220)
    (hps : ps ≠ []) (hf : ∀ q ∈ ps, 47 ∉ q) (hj : r = jn 47 ps) (hr : r.take 1 ≠ [47]) (hl : (tx (47 :: r)).length ≤ 1000000)
    (h : ∀ t' h' tk', Fr h₀ L h' m → News h₀ L h' news → Q (.str (tx (47 :: jn 47 (np ps))) t') { s with heap := h', toks := tk' }) :
    wpAny (model PySem.Challenge.rw_in0142_01.row.prog w) A (call (.ref 203) [.str (tx (47 :: r)) t]) Q E s :=
  wk hA hd hu (normpath_x w p loose mean mg mb s (K.keeps F.keep) (X.keeps F.keep) (T.keeps F.keep) ps r t Q E hps hf hj hr hl fun t' h' tk' k =>
    h t' h' tk' (F.keeps k) (News.keeps N k))
end
set_option maxRecDepth 100000 in
set_option maxHeartbeats 0 in
theorem abspath_x : ∀ (w : World) (p : Program) (loose : List Str) (mean : ExcName → Option Value) (mg mb : Str → Option Value) (s : Shared) (X : (fragK.heap_1 w.params).In s.heap) (XN : KNin w s.heap) (T : Top p loose mean mg mb s.heap) (ps : List (List Nat)) (r : List Nat) (t : Tok) (Q E : Value → Shared → Prop)
   (hps : ps ≠ []) (hf : ∀ q ∈ ps, 47 ∉ q) (hj : r = jn 47 ps) (hr : r.take 1 ≠ [47]) (hl : (tx (47 :: r)).length ≤ 1000000)
   (hret : ∀ t' h' tk', (∀ b o, s.heap.get? b = some o → h'.get? b = some o) → Q (.str (tx (47 :: jn 47 (np ps))) t') { s with heap := h', toks := tk' }),
   wpAny (model PySem.Challenge.rw_in0142_01.row.prog w) (AR 415 215) (call (.ref 210) [.str (tx (47 :: r)) t]) Q E s := by
  k_fill
  intro w p loose mean mg mb s X XN T ps r t Q E hps hf hj hr hl hret
  refine' enter (binds := [(Str.ofString "path", .str (tx (47 :: r)) t)]) X T.nolimit (by decide) ?k6 ?k7 ?k9 ?kB ?_ ?c2 ?c3 ?c4 ?c5
  case k6 => k_is
  case k7 => k_is
  case k9 => exact BindsTo.of_eq rfl
  case kB => exact locs rfl
  case c2 => exact rfl
  case c3 => exact rfl
  case c4 => exact rfl
  case c5 => decide
  intro L h1 F N
  have e1 := starts_t r
  try dsimp only
  try k_fold
  repeat' (first | (k_here; (with_reducible show wpAny _ _ (call (Value.ref 203) [Value.str _ _]) _ _ _); (with_unfolding_all refine' normpath_ ?_ ?_ ?_ ?_ ?_ ?_ ?_ ?_ ?qzp1 ?qzp2 ?qzp3 ?qzp4 ?qzp5 ?_; walk_at "cF"; (case qzp1 => assumption); (case qzp2 => assumption); (case qzp3 => assumption); (case qzp4 => assumption); (case qzp5 => assumption); walk_at "c1")) | (k_unfold; (try dsimp only)) | (k_end; wrow_close) | walk1 | (dsimp only; walk1) | (leave1; walk_say "STEP leave1"; try dsimp only) | fail "no step")
  exact hret _ _ _ (Fr.keep (by assumption))
end

section
set_option maxRecDepth 100000 in
set_option maxHeartbeats 0 in
theorem join_x : ∀ (w : World) (p : Program) (loose : List Str) (mean : ExcName → Option Value) (mg mb : Str → Option Value) (s : Shared) (X : (fragK.heap_1 w.params).In s.heap) (XN : KNin w s.heap) (T : Top p loose mean mg mb s.heap) (r : List Nat) (t1 t2 : Tok) (Q E : Value → Shared → Prop)
   (hr : r.take 1 ≠ [47]) (hl : (tx (47 :: r)).length ≤ 1000000)
   (hret : ∀ t' h' tk', (∀ b o, s.heap.get? b = some o → h'.get? b = some o) → Q (.str (tx (47 :: r)) t') { s with heap := h', toks := tk' }),
   wpAny (model PySem.Challenge.rw_in0142_01.row.prog w) (AR 430 230) (call (.ref 189) [.str (tx [47]) t1, .str (tx r) t2]) Q E s := by
  k_fill
  intro w p loose mean mg mb s X XN T r t1 t2 Q E hr hl hret
  refine' enterS (o := { cls := .type "tuple", data := .seq #[.str (tx r) t2] }) (binds := fun D => [(Str.ofString "a", .str (tx [47]) t1), (Str.ofString "p", .ref D)]) X T (by decide) ?k6 ?k7 rfl ?kP ?kG ?kB ?_ ?c2 ?c3 ?c4 ?c5
  case k6 => k_is
  case k7 => k_is
  case kP => exact rfl
  case kG => exact fun _ => rfl
  case kB => exact fun _ => locs rfl
  case c2 => exact rfl
  case c3 => exact rfl
  case c4 => exact rfl
  case c5 => decide
  intro D g L h1 hD hg F N
  have e1 := starts_f hr
  have e2 := ends_t
  have e3 : tx [47] ++ tx r = tx (47 :: r) := by rw [tx_app]; rfl
  have e4 : ([47] : List Nat) ≠ [] := by simp
  replace X := X.keeps hg
  replace XN := XN.keeps hg
  replace T := T.keeps hg
  try dsimp only
  try k_fold
  repeat' (first | (k_here; (with_reducible show wpAny _ _ (call (Value.builtin "str.endswith") [Value.str _ _, Value.str _ _]) _ _ _); (refine ends (by assumption) ?_)) | ((with_reducible show wpAny _ _ (inplaceOp _ (Value.str _ _) (Value.str _ _)) _ _ _); (k_here; (refine iadds (by assumption) (by assumption) ?_); intro _ _)) | (k_unfold; (try dsimp only)) | (k_end; wrow_close) | walk1 | (dsimp only; walk1) | (leave1; walk_say "STEP leave1"; try dsimp only) | fail "no step")
  exact hret _ _ _ (fun b o e => Fr.keep (by assumption) _ _ (hg b o e))
end

section
set_option maxRecDepth 100000 in
set_option maxHeartbeats 0 in
theorem commonprefix_x : ∀ (w : World) (p : Program) (loose : List Str) (mean : ExcName → Option Value) (mg mb : Str → Option Value) (s : Shared) (B : Heap) (hB : ∀ b o, B.get? b = some o → s.heap.get? b = some o) (X : (fragK.heap_1 w.params).In B) (XN : KNin w B) (T : Top p loose mean mg mb B) (a b c : Addr) (vs : List Value) (ws : List (List Nat)) (n1 n2 n3 : Nat) (Q E : Value → Shared → Prop)
   (hv : StrsAre vs (ws.map tx)) (ha : s.heap.get? a = some (W.listOf #[] n1) ∧ B.get? a = none) (hb : s.heap.get? b = some (W.listOf vs.toArray n2) ∧ B.get? b = none) (hc : s.heap.get? c = some (W.listOf #[.ref a, .ref b] n3) ∧ B.get? c = none)
   (hret : ∀ h' tk', (∀ b o, s.heap.get? b = some o → h'.get? b = some o) → Q (.ref a) { s with heap := h', toks := tk' }),
   wpAny (model PySem.Challenge.rw_in0142_01.row.prog w) (AR 430 230) (call (.ref 168) [.ref c]) Q E s := by
  k_fill
  intro w p loose mean mg mb s B hB X XN T a b c vs ws n1 n2 n3 Q E hv ha hb hc hret
  have ho : ∀ q ∈ [(c, W.listOf #[.ref a, .ref b] n3), (a, W.listOf #[] n1), (b, W.listOf vs.toArray n2)], s.heap.get? q.1 = some q.2 ∧ B.get? q.1 = none := by
    intro q hq
    rcases List.mem_cons.mp hq with rfl | hq
    · exact hc
    rcases List.mem_cons.mp hq with rfl | hq
    · exact ha
    rw [List.mem_singleton.mp hq]; exact hb
  refine' enterN (binds := [(Str.ofString "m", .ref c)]) (objs := [(c, W.listOf #[.ref a, .ref b] n3), (a, W.listOf #[] n1), (b, W.listOf vs.toArray n2)]) hB ho X T (by decide) ?k6 ?k7 ?k9 ?kB ?_ ?c2 ?c3 ?c4 ?c5
  case k6 => k_is
  case k7 => k_is
  case k9 => exact BindsTo.of_eq rfl
  case kB => exact locs rfl
  case c2 => exact rfl
  case c3 => exact rfl
  case c4 => exact rfl
  case c5 => decide
  intro g L h1 hBg hsg F N
  replace X := X.keeps hBg
  replace XN := XN.keeps hBg
  replace T := T.keeps hBg
  have hR : Rows [(c, W.listOf #[.ref a, .ref b] n3), (a, W.listOf #[] n1), (b, W.listOf vs.toArray n2)] [a, b] [[], ws] := by
    refine ⟨rfl, fun i h1 h2 => ?_⟩
    match i, h1, h2 with
    | 0, _, _ => exact ⟨[], n1, .tail _ (.head _), StrsAre.nil⟩
    | 1, _, _ => exact ⟨vs, n2, .tail _ (.tail _ (.head _)), hv⟩
  have hz : argBest (fun i j => ltW (([[], ws] : List (List (List Nat))).getD i []) (([[], ws] : List (List (List Nat))).getD j [])) [b].length = 0 := best2 _ (by cases ws <;> rfl)
  try dsimp only
  try k_fold
  repeat' (first | (k_here; (with_reducible show wpAny _ _ (call (Value.builtin "min") [Value.ref _]) _ _ _); (refine' min_z (by assumption) (by assumption) ?qzF ?qzN ?qzm ?qzr ?qzq ?qza ?qzu ?_; (case qzF => k_asm); (case qzN => k_asm); (case qzm => k_mem); (case qzr => k_allIn); (case qzq => exact rfl); (case qza => exact rfl); (case qzu => exact Nat.le_of_ble_eq_true rfl); walk_at "c1")) | (k_here; (with_reducible show wpAny _ _ (call (Value.builtin "max") [Value.ref _]) _ _ _); (refine' max_l (by assumption) ?qzF ?qzN ?qzm ?qzr ?qzq ?qzz ?qza ?qzu ?_; (case qzF => k_asm); (case qzN => k_asm); (case qzm => k_mem); (case qzr => k_allIn); (case qzq => exact rfl); (case qzz => exact Nat.le_of_ble_eq_true rfl); (case qza => exact rfl); (case qzu => exact Nat.le_of_ble_eq_true rfl); walk_at "c1")) | (k_unfold; (try dsimp only)) | (k_end; wrow_close) | walk1 | (dsimp only; walk1) | (leave1; walk_say "STEP leave1"; try dsimp only) | fail "no step")
  exact hret _ _ (keepsN (fun q hq => (ho q hq).1) hsg (by assumption) (by assumption) (by k_allIn))
end

section
section
variable {w : World} {A : Around} {E : Value → Shared → Prop} {s : Shared} {Q : Value → Shared → Prop} {h₀ : Heap} {L : Addr} {m : Str → Option Value} {news : List (Addr × Obj)} {p : Program} {loose : List Str} {mean : ExcName → Option Value} {mg mb : Str → Option Value}
theorem normp_ {ws : List (List Nat)} {r : List Nat} {t : Tok} (P : Pth r ws) (F : Fr h₀ L s.heap m) (N : News h₀ L s.heap news) (K : (fragK.heap_1 w.params).In h₀) (X : KNin w h₀) (T : Top p loose mean mg mb h₀) (hA : A.handled = none) (hd : A.depth ≤ 420) (hu : A.units ≤ 220)
    (h : ∀ t' h' tk', Fr h₀ L h' m → News h₀ L h' news → Q (.str (tx (47 :: jn 47 ws)) t') { s with heap := h', toks := tk' }) :
    wpAny (model PySem.Challenge.rw_in0142_01.row.prog w) A (call (.ref 203) [.str (tx (47 :: r)) t]) Q E s := by
  obtain ⟨ps, h1, h2, h3, h4⟩ := P.ex
  subst h4
  exact normpath_ F N K X T hA hd hu h1 h2 h3 P.hd P.len h
theorem abspath_ {ws : List (List Nat)} {r : List Nat} {t : Tok} (P : Pth r ws) (F : Fr h₀ L s.heap m) (N : News h₀ L s.heap news) (K : (fragK.heap_1 w.params).In h₀) (X : KNin w h₀) (T : Top p loose mean mg mb h₀) (hA : A.handled = none) (hd : A.depth ≤ 415) (hu : A.units ≤ 215)
    (h : ∀ t' h' tk', Fr h₀ L h' m → News h₀ L h' news → Q (.str (tx (47 :: jn 47 ws)) t') { s with heap := h', toks := tk' }) :
    wpAny (model PySem.Challenge.rw_in0142_01.row.prog w) A (call (.ref 210) [.str (tx (47 :: r)) t]) Q E s := by
  obtain ⟨ps, h1, h2, h3, h4⟩ := P.ex
  subst h4
  exact wk hA hd hu (abspath_x w p loose mean mg mb s (K.keeps F.keep) (X.keeps F.keep) (T.keeps F.keep) ps r t Q E h1 h2 h3 P.hd P.len fun t' h' tk' k =>
    h t' h' tk' (F.keeps k) (News.keeps N k))
theorem join_ {r : List Nat} {t1 t2 : Tok} (F : Fr h₀ L s.heap m) (N : News h₀ L s.heap news) (K : (fragK.heap_1 w.params).In h₀) (X : KNin w h₀) (T : Top p loose mean mg mb h₀) (hA : A.handled = none) (hd : A.depth ≤ 430) (hu : A.units ≤ 230)
    (hr : r.take 1 ≠ [47]) (hl : (tx (47 :: r)).length ≤ 1000000)
    (h : ∀ t' h' tk', Fr h₀ L h' m → News h₀ L h' news → Q (.str (tx (47 :: r)) t') { s with heap := h', toks := tk' }) :
    wpAny (model PySem.Challenge.rw_in0142_01.row.prog w) A (call (.ref 189) [.str (tx [47]) t1, .str (tx r) t2]) Q E s :=
  wk hA hd hu (join_x w p loose mean mg mb s (K.keeps F.keep) (X.keeps F.keep) (T.keeps F.keep) r t1 t2 Q E hr hl fun t' h' tk' k =>
    h t' h' tk' (F.keeps k) (News.keeps N k))
theorem commonprefix_ {a b c : Addr} {vs : List Value} {ws : List (List Nat)} {n1 n2 n3 : Nat} (hv : StrsAre vs (ws.map tx)) (F : Fr h₀ L s.heap m) (N : News h₀ L s.heap news) (K : (fragK.heap_1 w.params).In h₀) (X : KNin w h₀) (T : Top p loose mean mg mb h₀) (hA : A.handled = none) (hd : A.depth ≤ 430) (hu : A.units ≤ 230)
    (ha : (a, W.listOf #[] n1) ∈ news) (hb : (b, W.listOf vs.toArray n2) ∈ news) (hc : (c, W.listOf #[.ref a, .ref b] n3) ∈ news)
    (h : ∀ h' tk', Fr h₀ L h' m → News h₀ L h' news → Q (.ref a) { s with heap := h', toks := tk' }) :
    wpAny (model PySem.Challenge.rw_in0142_01.row.prog w) A (call (.ref 168) [.ref c]) Q E s :=
  wk hA hd hu (commonprefix_x w p loose mean mg mb s h₀ F.keep K X T a b c vs ws n1 n2 n3 Q E hv ⟨N.get ha, N.fresh ha⟩ ⟨N.get hb, N.fresh hb⟩ ⟨N.get hc, N.fresh hc⟩ fun h' tk' k =>
    h h' tk' (F.keeps k) (News.keeps N k))
end
end

section
set_option Elab.async false
theorem pick_from {vs : List Value} {x : Int} (h : 0 ≤ x) : (slicePick vs.toArray (some x) none none).toList = vs.drop x.toNat := by
  have e : sliceBounds (some x) none none vs.toArray.size = (((min x.toNat vs.toArray.size : Nat) : Int), ((vs.toArray.size : Nat) : Int), 1) := by
    simp only [sliceBounds, Option.getD_none, show (1 : Int) > 0 by decide, if_true, if_neg (show ¬ (x < 0) by omega)]
    congr 1
    omega
  rw [kmk_pick_nat _ e]
  show (vs.drop (min x.toNat vs.toArray.size)).take (vs.toArray.size - min x.toNat vs.toArray.size) = _
  rw [List.size_toArray, kmk_drop_min, List.take_of_length_le (by rw [List.length_drop]; omega)]
theorem pick_upto {vs : List Value} {y : Int} (h : 0 ≤ y) : (slicePick vs.toArray none (some y) none).toList = vs.take y.toNat := by
  have e : sliceBounds none (some y) none vs.toArray.size = (((0 : Nat) : Int), ((min y.toNat vs.toArray.size : Nat) : Int), 1) := by
    simp only [sliceBounds, Option.getD_none, show (1 : Int) > 0 by decide, if_true, if_neg (show ¬ (y < 0) by omega)]
    congr 1
    congr 1
    omega
  rw [kmk_pick_nat _ e]
  show (vs.drop 0).take (min y.toNat vs.toArray.size - 0) = _
  rw [List.drop_zero, Nat.sub_zero, List.size_toArray, kmk_take_min]
theorem pick_last {vs : List Value} : (slicePick vs.toArray none (some (-1)) none).toList = vs.dropLast := by
  have e : sliceBounds none (some (-1)) none vs.toArray.size = (((0 : Nat) : Int), ((vs.toArray.size - 1 : Nat) : Int), 1) := by
    simp only [sliceBounds, Option.getD_none, show (1 : Int) > 0 by decide, if_true, if_pos (show (-1 : Int) < 0 by decide)]
    congr 1
    congr 1
    omega
  rw [kmk_pick_nat _ e]
  show (vs.drop 0).take (vs.toArray.size - 1 - 0) = _
  rw [List.drop_zero, Nat.sub_zero, List.size_toArray, List.dropLast_eq_take]
section
variable {prog : Program} {w : World} {A : Around} {E : Value → Shared → Prop} {s : Shared} {h₀ : Heap} {L l a b : Addr} {m : Str → Option Value} {news : List (Addr × Obj)} {value slice : PySem.Expr} {vs us zs : List Value} {n k : Nat} {vl vu : Value} {lo hi : Option Int} {Q : Value → Shared → Prop} {x : Int} {u : Tok}
theorem sl_l (F : Fr h₀ L s.heap m) (N : News h₀ L s.heap news) (hl : (l, W.listOf vs.toArray n) ∈ news) (pl : IsPart vl lo) (pu : IsPart vu hi) (e : (slicePick vs.toArray lo hi none).toList = zs)
    (hz : vs.length ≤ 1000000)
    (h : ∀ D h', Fr h₀ L h' m → News h₀ L h' ((D, W.listOf zs.toArray 0) :: news) → (∀ p ∈ news, p.1 < D) → Q (.ref D) { s with heap := h' })
    (hs : subscripted slice false (.ref l) (.ref s.heap.objs.size) = operate [.ref s.heap.objs.size, .ref l] (getItem (.ref l) (.ref s.heap.objs.size))) (ht : ∀ r, letTemporaryGo value (.ref l) r = pure ()) :
    wpAny (model prog w) A (subscriptTail value slice (.ref l) (.ref s.heap.objs.size)) Q E { s with heap := s.heap.push { cls := .type "slice", data := .fields #[vl, vu, .none] } } :=
  kmk_slice_lit F N (news_isList N hl) pl pu e h hs ht (by rw [List.size_toArray]; exact sz hz)
theorem add_l (F : Fr h₀ L s.heap m) (N : News h₀ L s.heap news) (ha : (a, W.listOf vs.toArray n) ∈ news) (hb : (b, W.listOf us.toArray k) ∈ news) (h1 : vs.length ≤ 1000000) (h2 : us.length ≤ 1000000)
    (h : ∀ D h', Fr h₀ L h' m → News h₀ L h' ((D, W.listOf (vs ++ us).toArray 0) :: news) → (∀ p ∈ news, p.1 < D) → Q (.ref D) { s with heap := h' }) :
    wpAny (model prog w) A (binaryOp .Add (.ref a) (.ref b)) Q E s :=
  kmk_add_lit F N (news_isList N ha) (news_isList N hb) rfl h (by rw [sizeLine_eq]; simp only [List.toList_toArray]; omega)
theorem mul0 (F : Fr h₀ L s.heap m) (N : News h₀ L s.heap news) (ha : (a, W.listOf vs.toArray n) ∈ news) (hx : x = 0)
    (h : ∀ D h', Fr h₀ L h' m → News h₀ L h' ((D, W.listOf #[] 0) :: news) → (∀ p ∈ news, p.1 < D) → Q (.ref D) { s with heap := h' }) :
    wpAny (model prog w) A (binaryOp .Mult (.ref a) (.int x u)) Q E s := by
  subst hx
  exact KMa.mul (ws := []) F N (news_isList N ha) (by decide) (by decide) (by simp) rfl h
end
theorem small {vs : List Value} {ys : List PySem.Str} (h : StrsAre vs ys) (e : ys.length ≤ 1000000) : vs.length ≤ 1000000 := by rw [strsAre_len h]; exact e
theorem strs_ne {vs : List Value} {ys : List PySem.Str} (h : StrsAre vs ys) (e : ys ≠ []) : vs ≠ [] := by
  intro hv; have := strsAre_len h; rw [hv] at this; exact e (List.length_eq_zero_iff.mp this.symm)
theorem pick_from0 {vs : List Value} : (slicePick vs.toArray (some 0) none none).toList = vs := pick_from (by decide)
end

local macro_rules | `(tactic| walk_at "truthy ref") => `(tactic| (k_here; (with_reducible show wpAny _ _ (truthy (Value.ref _)) _ _ _); (refine' truthy_lt ?N ?m ?e ?z ?_; (case N => k_asm); (case m => k_mem); (case e => exact strs_ne (by assumption) (by assumption)); (case z => exact small (by assumption) (by assumption)); k_whole)))
local macro_rules | `(tactic| walk_at "kk") => `(tactic| (first | with_reducible refine wpAny_bind (wpAny_pure ?_) | with_reducible refine wpAny_bind (wpAny_rule ?_) | ((fail_if_success (with_reducible refine wpAny_bind ?_)); (fail_if_success (with_reducible refine wpAny_holding ?_)); k_node)))
section
set_option Elab.async false
namespace MapF
set_option maxRecDepth 100000
theorem owner_map : Manifest.owners.lookup (String.ofList ['p', 'a', 'm'].reverse) = some Manifest.sig_map := by kernel_rfl
theorem slot_map_init : Slot "map" "__init__" "object.__init__" :=
  .of (owner := "object") (n := "__init__") (by rw [typeLookup_type, builtinLookup_eq_fast]; kernel_rfl) (by decide +kernel) (by decide +kernel) (by decide +kernel)
    (by first | exact .inl (by decide +kernel) | exact .inr (by decide +kernel)) (by rw [isSubtype_type]; kernel_rfl)
theorem slot_map_next : Slot "map" "__next__" "map.__next__" :=
  .of (owner := "map") (n := "__next__") (by rw [typeLookup_type, builtinLookup_eq_fast]; kernel_rfl) (by decide +kernel) (by decide +kernel) (by decide +kernel)
    (by first | exact .inl (by decide +kernel) | exact .inr (by decide +kernel)) (by rw [isSubtype_type]; kernel_rfl)
theorem slot_map_iter : Slot "map" "__iter__" "map.__iter__" :=
  .of (owner := "map") (n := "__iter__") (by rw [typeLookup_type, builtinLookup_eq_fast]; kernel_rfl) (by decide +kernel) (by decide +kernel) (by decide +kernel)
    (by first | exact .inl (by decide +kernel) | exact .inr (by decide +kernel)) (by rw [isSubtype_type]; kernel_rfl)
theorem args_map_iter_1 (a : Value) : argsOk "map.__iter__" ⟨[a], []⟩ := by
  unfold argsOk; rw [signature?_of (id := "map.__iter__") (n := ['_', '_', 'r', 'e', 't', 'i', '_', '_']) (o := ['p', 'a', 'm']) (by kernel_rfl) owner_map]; kernel_rfl
theorem args_map_next_1 (a : Value) : argsOk "map.__next__" ⟨[a], []⟩ := by
  unfold argsOk; rw [signature?_of (id := "map.__next__") (n := ['_', '_', 't', 'x', 'e', 'n', '_', '_']) (o := ['p', 'a', 'm']) (by kernel_rfl) owner_map]; kernel_rfl
theorem entry_map_next : entryFor table "map.__next__" = some Builtin.«map.__next__» := entryFor_of_tree (by kernel_rfl)
theorem entry_map_new : entryFor table "map.__new__" = some Builtin.«map.__new__» := entryFor_of_tree (by kernel_rfl)
theorem entry_map_iter : entryFor table "map.__iter__" = some Builtin.«dict_keyiterator.__iter__» :=
  entryFor_alias (id' := "dict_keyiterator.__iter__") (by kernel_rfl) (by first | rfl | decide +kernel | (unfold String.splitOn; simp +decide [String.splitOnAux])) (by decide +kernel) (by kernel_rfl)
theorem mro_map : mroOf (.type "map") = pure [.type "map", .type "object"] := by rw [mroOf_type]; kernel_rfl
theorem lookup_map_new : typeLookup (.type "map") "__new__" = pure (some (.builtin "map.__new__")) := by rw [typeLookup_type, builtinLookup_eq_fast]; kernel_rfl
theorem called_map : TypeCalled "map" "map.__new__" "object.__init__" :=
  ⟨by decide +kernel, by decide +kernel, ⟨_, _, mro_map⟩, madeBy_type mro_map lookup_map_new (by decide +kernel), by decide +kernel, by rw [isSubtype_type]; kernel_rfl, slot_map_init⟩
theorem typeCall_map_2 (a b : Value) : checkTypeCall "map" ⟨[a, b], []⟩ = pure () := by kernel_rfl
theorem newCall_map_2 (a b : Value) : checkBuiltinCall "map.__new__" ⟨[.type "map", a, b], []⟩ = pure () := by kernel_rfl
theorem sub_map : isSubtype (.type "map") (.type "map") = pure true := by rw [isSubtype_type]; kernel_rfl
theorem map_no_len : typeLookup (.type "map") "__len__" = pure none := by rw [typeLookup_type, builtinLookup_eq_fast]; kernel_rfl
theorem map_no_hint : typeLookup (.type "map") "__length_hint__" = pure none := by rw [typeLookup_type, builtinLookup_eq_fast]; kernel_rfl
end MapF
noncomputable abbrev mapOf (TI : Addr) (f : Value) : Obj := { cls := .type "map", dict := none, data := .fields #[.ref TI, f], slots := #[] }
noncomputable abbrev mapH1 (h : Heap) (l : Addr) : Heap := h.push { cls := .type "list_iterator", data := .fields #[.ref l, .int 0 0] }
noncomputable abbrev mapH2 (h : Heap) (l : Addr) : Heap := (mapH1 h l).push { cls := .type "tuple", data := .seq #[.ref h.objs.size] }
noncomputable abbrev mapH3 (h : Heap) (f : Value) (l : Addr) : Heap := (mapH2 h l).push (mapOf (mapH1 h l).objs.size f)
theorem meets_map_new (f : Value) (l : Addr) (xs : Array Value) :
    Meets (Builtin.«map.__new__» ⟨[.type "map", f, .ref l], []⟩) (fun _ R s => s.heap.IsList l xs ∧ R (.ok (.ret (.ref (mapH2 s.heap l).objs.size))) { s with heap := mapH3 s.heap f l }) :=
  .of_wp fun prog w A R s h => by
    obtain ⟨hp, g, d, tk, os⟩ := s; obtain ⟨hl, h⟩ := h
    have hsub := MapF.sub_map
    have hL1 : Heap.IsList (Shared.heap ⟨hp, g, d, tk, os⟩) l xs := hl
    wp_walk using wpAny_pyIter_list hL1
    exact ⟨_, rfl, h⟩
section
variable {prog : Program} {w : World} {A : Around} {E : Value → Shared → Prop} {s : Shared}
theorem call_map {f : Value} {l : Addr} {xs : Array Value} {Q : Value → Shared → Prop} (hl : s.heap.IsList l xs)
    (h : ∀ h' it TI M, s.heap.get? it = none → s.heap.get? TI = none → s.heap.get? M = none → it ≠ TI → it ≠ M → TI ≠ M → h'.get? it = some { cls := .type "list_iterator", data := .fields #[.ref l, .int 0 0] } → h'.get? TI = some { cls := .type "tuple", data := .seq #[.ref it] } → h'.get? M = some (mapOf TI f) →
      (∀ c o, s.heap.get? c = some o → h'.get? c = some o) → Q (.ref M) { s with heap := h' }) :
    wpAny (model prog w) A (call (.type "map") [f, .ref l]) Q E s := by
  refine callType_new MapF.called_map (by decide) (MapF.typeCall_map_2 _ _) (MapF.newCall_map_2 _ _) (fun obj => F.args_object_init_3 obj _ _) MapF.entry_map_new
    (meets_map_new f l xs) ⟨hl, ?_⟩
  have z1 : (mapH1 s.heap l).objs.size = s.heap.objs.size + 1 := Heap.size_push ..
  have z2 : (mapH2 s.heap l).objs.size = s.heap.objs.size + 2 := by rw [Heap.size_push, z1]
  have g3 : (mapH3 s.heap f l).get? (mapH2 s.heap l).objs.size = some _ := Heap.get?_push_size _ rfl
  have g2 : (mapH3 s.heap f l).get? (mapH1 s.heap l).objs.size = some _ := Heap.get?_push_of_some _ (Heap.get?_push_size _ rfl)
  have g1 : (mapH3 s.heap f l).get? s.heap.objs.size = some _ := Heap.get?_push_of_some _ (Heap.get?_push_of_some _ (Heap.get?_push_size _ rfl))
  have fresh : ∀ a, s.heap.objs.size ≤ a → s.heap.get? a = none := fun a ha => by
    cases e : s.heap.get? a with
    | none => rfl
    | some o' => exact absurd (Heap.lt_size e) (Nat.not_lt.mpr ha)
  refine ⟨⟨_, g3, rfl⟩, h _ s.heap.objs.size (mapH1 s.heap l).objs.size (mapH2 s.heap l).objs.size (fresh _ (Nat.le_refl _)) (fresh _ (by rw [z1]; exact Nat.le_succ _)) (fresh _ (by rw [z2]; exact Nat.le_add_right _ _)) ?_ ?_ ?_ g1 g2 g3 fun c o x =>
    Heap.get?_push_of_some _ (Heap.get?_push_of_some _ (Heap.get?_push_of_some _ x))⟩
  · rw [z1]; exact Nat.ne_of_lt (Nat.lt_succ_self _)
  · rw [z2]; exact Nat.ne_of_lt (Nat.lt_add_of_pos_right (by decide))
  · rw [z1, z2]; exact Nat.ne_of_lt (Nat.lt_succ_self _)
end
end

section
set_option Elab.async false
noncomputable abbrev tupT (vs : Array Value) : Obj := { cls := .type "tuple", data := .seq vs }
theorem lookup_mem {K : Frag} {p : Addr} {o : Obj} (hp : K.lookup p = some o) : p ∈ K.map (·.1) := by
  induction K with
  | nil => cases hp
  | cons q r ih =>
    rw [List.lookup_cons] at hp
    split at hp
    · rename_i hq
      have : p = q.1 := by simpa using hq
      rw [this]; simp
    · rw [List.map_cons]
      exact List.mem_cons_of_mem _ (ih hp)
theorem lookup_some {K : Frag} {q : Addr × Obj} (hq : q ∈ K) : K.lookup q.1 ≠ none := by
  induction K with
  | nil => cases hq
  | cons r rs ih =>
    rw [List.lookup_cons]
    split
    · simp
    · rename_i hne
      rcases List.mem_cons.mp hq with rfl | hq
      · simp at hne
      · exact ih hq
/-- what the function of a map does with an item -/
noncomputable def MapCall (prog : Program) (w : World) (A : Around) (K : Frag) (f : Value) (g : Value → Value) (items : Array Value) : Prop :=
  ∀ (i : Nat) (v : Value) (s : Shared) (Q E : Value → Shared → Prop), items[i]? = some v → K.In s.heap →
    (∀ h' tk, (∀ b o, s.heap.get? b = some o → h'.get? b = some o) → Q (g v) { s with heap := h', toks := tk }) → wpAny (model prog w) A (call f [v]) Q E s
theorem put_newN {h₀ h h' : Heap} {L : Addr} {m : Str → Option Value} {news : List (Addr × Obj)} {a : Addr} {o : Obj} (F : Fr h₀ L h m) (N : News h₀ L h news) (k : ∀ b o, h.get? b = some o → h'.get? b = some o) (hn : h.get? a = none) (ho : h'.get? a = some o) :
    Fr h₀ L h' m ∧ News h₀ L h' ((a, o) :: news) ∧ ∀ p ∈ news, p.1 ≠ a := by
  refine ⟨F.keeps k, fun p hp => ?_, fun p hp e => ?_⟩
  · rcases List.mem_cons.mp hp with rfl | hp
    · refine ⟨ho, fun e => ?_, ?_⟩
      · obtain ⟨oL, _, _, hL, _⟩ := F.ns
        rw [← e, hn] at hL; cases hL
      · cases hq : h₀.get? a with
        | none => rfl
        | some o' => rw [F.keep _ _ hq] at hn; cases hn
    · exact ⟨k _ _ (N p hp).1, (N p hp).2⟩
  · rw [← e, (N p hp).1] at hn; cases hn
section
variable {prog : Program} {w : World} {A : Around} {E : Value → Shared → Prop} {s : Shared}
theorem map_next_item {K : Frag} {f : Value} {g : Value → Value} {M TI it l : Addr} {k : Nat} {xs : Array Value} {x : Value} {Q : Value → Shared → Prop} (C : MapCall prog w A K f g xs) (X : K.In s.heap) (hKit : K.lookup it = none)
    (hM : s.heap.get? M = some (mapOf TI f)) (hTI : s.heap.get? TI = some (tupT #[.ref it])) (h1 : s.heap.IsListIter it l k) (hl : s.heap.IsList l xs) (hx : xs[k]? = some x) (hne : M ≠ it) (hne2 : TI ≠ it)
    (hlt : l ≠ it) (hQ : ∀ h' tk, h'.IsListIter it l (k + 1) → (∀ c o, c ≠ it → s.heap.get? c = some o → h'.get? c = some o) → Q (g x) { s with heap := h', toks := tk }) :
    wpAny (model prog w) A (Builtin.«map.__next__» ⟨[.ref M], []⟩) (fun fin s' => ∃ v, fin = .done (.ret v) ∧ Q v s') E s := by
  show wpAny _ _ (field (.ref M) 0 >>= _) _ _ _
  refine wpAny_bind (wpAny_field hM rfl (x := .ref TI) rfl ?_)
  refine wpAny_bind (wpAny_seqItems hTI rfl ?_)
  simp only [List.forIn_cons, List.forIn_nil, List.forIn_toArray]
  refine wpAny_bind (wpAny_bind (wpAny_bind (wpAny_holding (wpAny_nextOf_list_item h1 hl hx fun h₂ h1₂ hs₂ => ?_))))
  refine wpAny_pure (wpAny_pure ?_)
  have hM₂ : h₂.get? M = some (mapOf TI f) := hs₂.extBut _ _ hne hM
  show wpAny _ _ (field (.ref M) 1 >>= _) _ _ _
  refine wpAny_bind (wpAny_field hM₂ rfl (x := f) rfl ?_)
  refine wpAny_bind (wpAny_holding ?_)
  show wpAny _ _ (call f [x]) _ _ _
  refine C k x _ _ _ hx (fun a o e => hs₂.extBut _ _ (fun h => by rw [h, hKit] at e; cases e) (X a o e)) fun h' tk hk => ?_
  refine wpAny_bind (wpAny_letGo (wpAny_pure ⟨_, rfl, ?_⟩))
  exact hQ h' tk (h1₂.at fun o e => hk _ _ e) fun c o hc e => hk _ _ (hs₂.extBut _ _ hc e)
theorem map_next_end {f : Value} {M TI it l : Addr} {k : Nat} {xs : Array Value} {Q : Fin → Shared → Prop} (hh : A.handled = none)
    (hM : s.heap.get? M = some (mapOf TI f)) (hTI : s.heap.get? TI = some (tupT #[.ref it])) (h1 : s.heap.IsListIter it l k) (hl : s.heap.IsList l xs) (hx : xs[k]? = none)
    (hE : ∀ h' e, (∀ c o, c ≠ it → s.heap.get? c = some o → h'.get? c = some o) → (∃ o, h'.get? e = some o ∧ o.cls = .type "StopIteration") → E (.ref e) { s with heap := h' }) :
    wpAny (model prog w) A (Builtin.«map.__next__» ⟨[.ref M], []⟩) Q E s := by
  show wpAny _ _ (field (.ref M) 0 >>= _) _ _ _
  refine wpAny_bind (wpAny_field hM rfl (x := .ref TI) rfl ?_)
  refine wpAny_bind (wpAny_seqItems hTI rfl ?_)
  simp only [List.forIn_cons, List.forIn_nil, List.forIn_toArray]
  refine wpAny_bind (wpAny_bind (wpAny_bind (wpAny_holding (wpAny_nextOf_list_end hh h1 hl hx fun h₂ e hs₂ he => ?_))))
  exact hE h₂ e (fun c o hc x => hs₂ _ _ hc x) he
theorem pyNext_map_item {K : Frag} {f : Value} {g : Value → Value} {M TI it l : Addr} {k : Nat} {xs : Array Value} {x : Value} {Q : Option Value → Shared → Prop} (C : MapCall prog w A.in1 K f g xs) (X : K.In s.heap) (hKit : K.lookup it = none)
    (hM : s.heap.get? M = some (mapOf TI f)) (hTI : s.heap.get? TI = some (tupT #[.ref it])) (h1 : s.heap.IsListIter it l k) (hl : s.heap.IsList l xs) (hx : xs[k]? = some x) (hne : M ≠ it) (hne2 : TI ≠ it)
    (hlt : l ≠ it) (hQ : ∀ h' tk, h'.IsListIter it l (k + 1) → (∀ c o, c ≠ it → s.heap.get? c = some o → h'.get? c = some o) → Q (some (g x)) { s with heap := h', toks := tk }) :
    wpAny (model prog w) A (pyNext (.ref M)) Q E s := by
  have hT : s.TypeIs (.ref M) "map" := ⟨_, hM, rfl⟩
  unfold pyNext
  exact wpAny_bind (wpAny_attempt (wpAny_callSpecial?_slot (name := Str.ofString "__next__") hT MapF.slot_map_next
    (wpAny_call_entry MapF.slot_map_next hT MapF.entry_map_next
      (map_next_item C X hKit hM hTI h1 hl hx hne hne2 hlt fun h' tk a1 a2 => wpAny_pure (hQ h' tk a1 a2)) (MapF.args_map_next_1 _))))
theorem pyNext_map_end {f : Value} {M TI it l : Addr} {k : Nat} {xs : Array Value} {Q : Option Value → Shared → Prop} (hh : A.handled = none)
    (hM : s.heap.get? M = some (mapOf TI f)) (hTI : s.heap.get? TI = some (tupT #[.ref it])) (h1 : s.heap.IsListIter it l k) (hl : s.heap.IsList l xs) (hx : xs[k]? = none)
    (hQ : ∀ h', (∀ c o, c ≠ it → s.heap.get? c = some o → h'.get? c = some o) → Q none { s with heap := h' }) : wpAny (model prog w) A (pyNext (.ref M)) Q E s := by
  have hT : s.TypeIs (.ref M) "map" := ⟨_, hM, rfl⟩
  unfold pyNext
  refine wpAny_bind (wpAny_attempt (wpAny_callSpecial?_slot (name := Str.ofString "__next__") hT MapF.slot_map_next
    (wpAny_call_entry MapF.slot_map_next hT MapF.entry_map_next (map_next_end hh hM hTI h1 hl hx fun h' e hk he => ?_) (MapF.args_map_next_1 _))))
  obtain ⟨o, ho, hc⟩ := he
  refine wpAny_bind (wpAny_isInstance (T := "StopIteration") (b := true) ⟨o, ho, hc⟩ isSubtype_stop ?_)
  exact wpAny_pure (hQ _ hk)
theorem pyIter_map {M TI : Addr} {f : Value} {Q : Value → Shared → Prop} (hM : s.heap.get? M = some (mapOf TI f)) (h : Q (.ref M) s) : wpAny (model prog w) A (pyIter (.ref M)) Q E s := by
  have hT : s.TypeIs (.ref M) "map" := ⟨_, hM, rfl⟩
  refine wpAny_pyIter_slot hT MapF.slot_map_iter (wpAny_call_entry MapF.slot_map_iter hT MapF.entry_map_iter ?_ (MapF.args_map_iter_1 _))
  show wpAny _ _ (ret (.ref M)) _ _ s
  exact wpAny_pure ⟨_, rfl, "map", _, hT, MapF.slot_map_next.lookup, h⟩
theorem walks_map (hh : A.handled = none) {K : Frag} {f : Value} {g : Value → Value} {M TI it l : Addr} {xs : Array Value} (C : MapCall prog w A.in1 K f g xs) (hKit : K.lookup it = none) (hne : M ≠ it) (hne2 : TI ≠ it) (hlt : l ≠ it) :
    Walks prog w A M (M :: TI :: it :: l :: K.map (·.1)) [it] xs.size (fun i v => ∃ x, xs[i]? = some x ∧ v = g x)
      (fun i h => h.get? M = some (mapOf TI f) ∧ h.get? TI = some (tupT #[.ref it]) ∧ h.IsListIter it l i ∧ h.IsList l xs ∧ K.In h) where
  sub := fun b hb => by rw [List.mem_singleton.mp hb]; simp
  frame := fun i h h' st hk => by
    obtain ⟨a, b, c, d, e⟩ := st
    refine ⟨hk M (by simp) _ a, hk TI (by simp) _ b, c.at fun o e => hk it (by simp) o e, d.at fun o e => hk l (by simp) o e, fun p o hp => hk p ?_ o (e p o hp)⟩
    have : p ∈ K.map (·.1) := lookup_mem hp
    simp [this]
  item := fun i s Q E hi st hQ => by
    obtain ⟨a, b, c, d, e⟩ := st
    have hx : xs[i]? = some xs[i] := by simp [hi]
    exact pyNext_map_item C e hKit a b c d hx hne hne2 hlt fun h' tk c' hk =>
      hQ _ h' tk ⟨_, hx, rfl⟩ ⟨hk _ _ hne a, hk _ _ hne2 b, c', d.at fun o x => hk _ _ hlt x, fun p o hp => hk _ _ (fun h => by rw [h, hKit] at hp; cases hp) (e p o hp)⟩ fun b o hb x => hk b o (fun h => hb (by simp [h])) x
  done := fun s Q E st hQ => by
    obtain ⟨a, b, c, d, e⟩ := st
    exact pyNext_map_end hh a b c d (by simp) fun h' hk => hQ h' s.toks fun b o hb x => hk b o (fun h => hb (by simp [h])) x
  self := fun i s Q E st hQ => pyIter_map st.1 hQ

/-- a list made of all that an iterator of a built-in class hands out -/
theorem collect_walk {T : String} {I : Addr} {fp wr : List Addr} {G : Array GenState → Array GenState → Prop} {n : Nat} {P : Nat → Value → Prop} {St : Nat → Shared → Prop} {Q : List Value → Shared → Prop}
    (hl : (Value.type T == Value.type "list") = false) (ht : (Value.type T == Value.type "tuple") = false) (hn1 : typeLookup (.type T) "__len__" = pure none) (hn2 : typeLookup (.type T) "__length_hint__" = pure none)
    (W : WalksS prog w A.in1 I fp wr G n P St) (hT : ∀ i s, St i s → s.TypeIs (.ref I) T) (hst : St 0 s) (hfp : ∀ b ∈ fp, b < s.heap.objs.size) (hI : I ∈ fp) (hn : n ≤ sizeLine)
    (hQ : ∀ s' acc, Moved wr G s s' → ItemsOf P acc n → Q acc.toList s') : wpAny (model prog w) A (collect (.ref I)) Q E s := by
  have hSf : s.heap.objs.size ∉ fp := fun hm => Nat.lt_irrefl _ (hfp _ hm)
  have hSI : s.heap.objs.size ≠ I := fun e => hSf (e ▸ hI)
  unfold collect
  refine wpAny_bind (wpAny_runValue (codeAny_builtin F.entry_proto_collect ?_))
  rw [Around.under_plainId F.plain_proto_collect _]
  show wpAny _ A.in1 (newList [] >>= fun l => again (.builtin "list.__iadd__" ⟨[l, .ref I], []⟩)) _ _ s
  refine wpAny_bind (wpAny_newObj_type ?_)
  refine wpAny_pure ⟨plainId_quiet F.plain_list_iadd _, codeAny_builtin F.entry_list_iadd ?_⟩
  rw [Around.under_plainId F.plain_list_iadd _]
  generalize hH : s.heap.push { cls := .type "list", data := .seq ([] : List Value).toArray } = H
  have hup : ∀ b o, s.heap.get? b = some o → H.get? b = some o := fun b o e => hH ▸ Heap.get?_push_of_some _ e
  have hD : H.get? s.heap.objs.size = some { cls := .type "list", data := .seq ([] : List Value).toArray } := hH ▸ Heap.get?_push_size _ rfl
  generalize hz : s.heap.objs.size = D at hSf hSI hD ⊢
  have hst₁ := W.frame 0 s H s.toks hst (Nat.le_refl _) fun b _ o e => hup b o e
  show wpAny _ A.in1 (Builtin.List.listExtendWith (.ref D) (.ref I) (.ref D)) _ _ _
  unfold Builtin.List.listExtendWith
  refine wpAny_bind (wpAny_typeOf (hT 0 _ hst₁) ?_)
  have h1 : Builtin.List.listSameRef (.ref D) (.ref I) = false := by simp [Builtin.List.listSameRef, hSI]
  simp only [h1, hl, ht, Bool.or_false, Bool.false_eq_true, if_false]
  refine wpAny_bind (W.self 0 _ _ _ hst₁ ?_)
  refine wpAny_bind (wpAny_holding ?_)
  unfold Builtin.List.listLengthHint
  refine wpAny_bind (wpAny_specialOf (hT 0 _ hst₁) hn1 ?_)
  show wpAny _ A.in1 (specialOf (Value.ref I) (Str.ofString "__length_hint__") >>= _) _ _ _
  refine wpAny_bind (wpAny_specialOf (hT 0 _ hst₁) hn2 ?_)
  refine wpAny_pure ?_
  show wpAny _ A.in1 (rule "list.extend.makes-room" >>= fun _ => Builtin.List.listTouch (.ref D) >>= fun _ =>
    again (.builtin "list.extend.loop" ⟨[.ref D, .ref I, .ref D], []⟩)) _ _ _
  refine wpAny_bind (wpAny_rule (wpAny_bind ?_))
  show wpAny _ A.in1 (updateSeq D (·.push .none) >>= fun _ => updateSeq D (·.pop)) _ _ _
  refine wpAny_bind (wpAny_updateSeq hD rfl ?_)
  have hD₂ := Heap.get?_update_self (Obj.mapSeq (·.push Value.none)) hD rfl
  refine wpAny_updateSeq hD₂ rfl ?_
  have hD₃ := Heap.get?_update_self (Obj.mapSeq (·.pop)) hD₂ rfl
  have oth : ∀ b o, b ≠ D → H.get? b = some o → ((H.update D (Obj.mapSeq (·.push Value.none))).update D (Obj.mapSeq (·.pop))).get? b = some o :=
    fun b o hb e => (Heap.get?_update_other _ _ (Ne.symm hb)).trans ((Heap.get?_update_other _ _ (Ne.symm hb)).trans e)
  refine wpAny_pure ⟨plainId_quiet F.plain_extend_loop _, codeAny_extend_loopS W hn _ hSf _ n 0 _ _ _ rfl (Nat.zero_le _)
    (W.frame 0 ({ s with heap := H } : Shared) _ s.toks hst₁ (Nat.le_refl _) fun b hb o e => oth b o (fun h => hSf (h ▸ hb)) e) hD₃ (ItemsOf.nil P) fun s' acc' c' hm hS' hacc => ?_⟩
  show wpAny _ A (load D >>= _) _ _ s'
  refine wpAny_bind (wpAny_load hS' ?_)
  refine wpAny_pure (hQ s' acc' ⟨fun b o hb e => ?_, hm.gens, hm.drawn, hm.os, hm.toks⟩ hacc)
  have hbD : b ≠ D := fun h => by rw [h, ← hz] at e; exact absurd (Heap.lt_size e) (Nat.lt_irrefl _)
  exact hm.heap b o (fun h => (List.mem_cons.mp h).elim hbD hb) (oth b o hbD (hup b o e))
theorem tuple_new_walk {T : String} {I : Addr} {fp wr : List Addr} {G : Array GenState → Array GenState → Prop} {n : Nat} {P : Nat → Value → Prop} {St : Nat → Shared → Prop} {Q₁ : Value → Shared → Prop}
    (hl : (Value.type T == Value.type "list") = false) (ht : (Value.type T == Value.type "tuple") = false) (hn1 : typeLookup (.type T) "__len__" = pure none) (hn2 : typeLookup (.type T) "__length_hint__" = pure none)
    (W : WalksS prog w A.in1.in1 I fp wr G n P St) (hT : ∀ i s, St i s → s.TypeIs (.ref I) T) (hst : St 0 s) (hfp : ∀ b ∈ fp, b < s.heap.objs.size) (hI : I ∈ fp) (hsz : n ≤ sizeLine)
    (h : ∀ s' acc, Moved wr G s s' → ItemsOf P acc n → Q₁ (.ref s'.heap.objs.size) { s' with heap := s'.heap.push { cls := .type "tuple", data := .seq acc } }) :
    codeAny (model prog w) A (.call (.builtin "tuple.__new__") ⟨[.type "tuple", .ref I], []⟩) (wants Q₁ E) s := by
  refine codeAny_of_tree ?_
  show wpAny _ A.in1 (do checkBuiltinCall "tuple.__new__" ⟨[.type "tuple", .ref I], []⟩; again (.builtin "tuple.__new__" ⟨[.type "tuple", .ref I], []⟩)) _ _ s
  refine wpAny_bind (wpAny_of_eq (F.newCall_tuple_1 _) (wpAny_pure ⟨plainId_quiet F.plain_tuple_new _, codeAny_builtin F.entry_tuple_new ?_⟩))
  rw [Around.under_plainId F.plain_tuple_new _]
  have hsub := sub_tuple_self
  have hinit := init_tuple_lookup
  have hmh := madeHere_tuple
  have hTI := hT 0 s hst
  wp_walk using wpAny_typeOf hTI, collect_walk hl ht hn1 hn2 W hT hst hfp hI hsz
  intro s' acc hm hacc
  show wpAny _ _ (Builtin.Tuple.tupleExact acc.toList.toArray >>= fun v => ret v) _ _ _
  unfold Builtin.Tuple.tupleExact
  refine wpAny_bind (wpAny_newObj_type ?_ (by show acc.toList.toArray.size ≤ sizeLine; simp only [Array.toArray_toList]; rw [hacc.1]; exact hsz))
  refine wpAny_pure ?_
  have e : acc.toList.toArray = acc := by simp
  rw [e]
  exact h s' acc hm hacc
theorem call_tuple_walk {T : String} {I : Addr} {fp wr : List Addr} {G : Array GenState → Array GenState → Prop} {n : Nat} {P : Nat → Value → Prop} {St : Nat → Shared → Prop} {Q : Value → Shared → Prop}
    (hl : (Value.type T == Value.type "list") = false) (ht : (Value.type T == Value.type "tuple") = false) (hn1 : typeLookup (.type T) "__len__" = pure none) (hn2 : typeLookup (.type T) "__length_hint__" = pure none)
    (W : WalksS prog w A.in1.in1.in1 I fp wr G n P St) (hT : ∀ i s, St i s → s.TypeIs (.ref I) T) (hst : St 0 s) (hfp : ∀ b ∈ fp, b < s.heap.objs.size) (hI : I ∈ fp) (hsz : n ≤ sizeLine)
    (hQ : ∀ s' acc, Moved wr G s s' → ItemsOf P acc n → Q (.ref s'.heap.objs.size) { s' with heap := s'.heap.push { cls := .type "tuple", data := .seq acc } }) :
    wpAny (model prog w) A (call (.type "tuple") [.ref I]) Q E s := by
  refine callType_codes (Q₁ := fun obj s₁ => s₁.TypeIs obj "tuple" ∧ Q obj s₁) F.called_tuple (F.typeCall_tuple_1 _) F.entry_object_init
    (tuple_new_walk hl ht hn1 hn2 W hT hst hfp hI hsz fun s' acc hm hacc => ⟨⟨_, Heap.get?_push_size _ rfl, rfl⟩, hQ s' acc hm hacc⟩) fun obj s₁ h₁ => ?_
  exact ⟨h₁.1, F.args_object_init_2 obj _, object_init_meets F.called_tuple.init.lookup F.called_tuple.made (by decide) prog w A.in1 _ s₁ ⟨h₁.1, rfl, h₁.2⟩⟩

variable {h₀ : Heap} {L : Addr} {m : Str → Option Value} {news : List (Addr × Obj)}
noncomputable abbrev litOf (l : Addr) : Obj := { cls := .type "list_iterator", data := .fields #[.ref l, .int 0 0] }
theorem map_made {f : Value} {l : Addr} {vs : List Value} {n : Nat} {Q : Value → Shared → Prop} (F : Fr h₀ L s.heap m) (N : News h₀ L s.heap news) (hl : (l, W.listOf vs.toArray n) ∈ news)
    (h : ∀ h' it TI M, Fr h₀ L h' m → News h₀ L h' ((M, mapOf TI f) :: (TI, tupT #[.ref it]) :: (it, litOf l) :: news) → it ≠ TI → it ≠ M → (∀ p ∈ news, p.1 ≠ it) → Q (.ref M) { s with heap := h' }) :
    wpAny (model prog w) A (call (.type "map") [f, .ref l]) Q E s := by
  refine call_map (news_isList N hl) fun h' it TI M n1 n2 n3 e1 e2 e3 g1 g2 g3 k => ?_
  have mk : ∀ {a : Addr} {o : Obj}, s.heap.get? a = none → h'.get? a = some o → h'.get? a = some o ∧ a ≠ L ∧ h₀.get? a = none := fun {a o} hn ho => by
    obtain ⟨h1, h2, _⟩ := put_newN F N k hn ho
    exact h2 _ (.head _)
  refine h h' it TI M (F.keeps k) (fun p hp => ?_) e1 e2 (fun p hp e => ?_)
  · rcases List.mem_cons.mp hp with rfl | hp
    · exact mk n3 g3
    rcases List.mem_cons.mp hp with rfl | hp
    · exact mk n2 g2
    rcases List.mem_cons.mp hp with rfl | hp
    · exact mk n1 g1
    · exact ⟨k _ _ (N p hp).1, (N p hp).2⟩
  · rw [← e, (N p hp).1] at n1; cases n1
theorem tuple_mapped {K : Frag} {f : Value} {g : Value → Value} {l it TI M : Addr} {vs : List Value} {n : Nat} {Q : Value → Shared → Prop} (hh : A.handled = none) (F : Fr h₀ L s.heap m) (N : News h₀ L s.heap ((M, mapOf TI f) :: (TI, tupT #[.ref it]) :: (it, litOf l) :: news)) (hl : (l, W.listOf vs.toArray n) ∈ news)
    (h1 : it ≠ TI) (h2 : it ≠ M) (h3 : ∀ p ∈ news, p.1 ≠ it) (X : K.In h₀) (C : MapCall prog w A.in1.in1.in1.in1 K f g vs.toArray) (hz : vs.length ≤ sizeLine)
    (h : ∀ h' tk D, Fr h₀ L h' m → News h₀ L h' ((D, tupT (vs.map g).toArray) :: news) → Q (.ref D) { s with heap := h', toks := tk }) :
    wpAny (model prog w) A (call (.type "tuple") [.ref M]) Q E s := by
  have hM : s.heap.get? M = some (mapOf TI f) := N.get (.head _)
  have hTI : s.heap.get? TI = some (tupT #[.ref it]) := N.get (.tail _ (.head _))
  have hit : s.heap.get? it = some (litOf l) := N.get (.tail _ (.tail _ (.head _)))
  have hit₀ : h₀.get? it = none := N.fresh (.tail _ (.tail _ (.head _)))
  have hitL : it ≠ L := (N (it, litOf l) (.tail _ (.tail _ (.head _)))).2.1
  have hll : s.heap.get? l = some (W.listOf vs.toArray n) := N.get (.tail _ (.tail _ (.tail _ hl)))
  have hlt : l ≠ it := h3 _ hl
  have hKit : K.lookup it = none := by
    cases e : K.lookup it with
    | none => rfl
    | some o => rw [X _ _ e] at hit₀; cases hit₀
  have W := walks_map (prog := prog) (w := w) (A := A.in1.in1.in1) hh C hKit h2.symm h1.symm hlt (M := M) (TI := TI)
  have Xs : K.In s.heap := X.keeps F.keep
  refine call_tuple_walk (T := "map") (by decide) (by decide) MapF.map_no_len MapF.map_no_hint W.toS (fun i s st => ⟨_, st.1, rfl⟩)
    ⟨hM, hTI, ⟨_, hit, rfl, rfl⟩, ⟨_, hll, rfl, _, rfl⟩, Xs⟩ (fun b hb => ?_) (by simp) (by simpa using hz) fun s' acc hm hacc => ?_
  · have lt : ∀ {a o}, s.heap.get? a = some o → a < s.heap.objs.size := fun e => Heap.lt_size e
    rcases List.mem_cons.mp hb with rfl | hb
    · exact lt hM
    rcases List.mem_cons.mp hb with rfl | hb
    · exact lt hTI
    rcases List.mem_cons.mp hb with rfl | hb
    · exact lt hit
    rcases List.mem_cons.mp hb with rfl | hb
    · exact lt hll
    · obtain ⟨q, hq, rfl⟩ := List.mem_map.mp hb
      cases e : K.lookup q.1 with
      | some o => exact lt (Xs _ _ e)
      | none => exact absurd e (lookup_some hq)
  · have hs : s' = { s with heap := s'.heap, toks := s'.toks } := by
      have e1 := hm.gens; have e2 := hm.drawn; have e3 := hm.os
      cases s'; dsimp only at e1 e2 e3 ⊢; rw [e1, e2, e3]
    have e : acc = (vs.map g).toArray := by
      apply Array.ext
      · rw [hacc.1]; simp
      · intro i hi1 hi2
        obtain ⟨x, hx, hv⟩ := hacc.2 i acc[i] (by simp [hi1])
        have hi : i < vs.length := by simpa using hi2
        have : vs[i] = x := by simpa [hi] using hx
        rw [hv, ← this]; simp
    have k1 : ∀ b o, b ≠ it → s.heap.get? b = some o → s'.heap.get? b = some o := fun b o hb e => hm.heap b o (by simpa using hb) e
    have F' : Fr h₀ L s'.heap m := ⟨F.ns.at' fun o e => k1 _ _ hitL.symm e, fun b o e => k1 _ _ (fun h => by rw [h, hit₀] at e; cases e) (F.keep b o e), F.above⟩
    have N' : News h₀ L s'.heap news := fun p hp => ⟨k1 _ _ (h3 p hp) (N p (.tail _ (.tail _ (.tail _ hp)))).1, (N p (.tail _ (.tail _ (.tail _ hp)))).2⟩
    subst e
    have := h (s'.heap.push (tupT (vs.map g).toArray)) s'.toks s'.heap.objs.size (F'.push _) (News.push F' N' _ rfl)
    rw [hs]
    exact this
end
end

section
set_option Elab.async false
theorem enterC {prog : Program} {w : World} {A : Around} {E : Value → Shared → Prop} {s : Shared} {Q : Value → Shared → Prop} {K : Frag} {name qual : Str} {params : Arguments} {body : List Stmt} {scope : Scope} {dV kV doc pm cdv ct oc : Value} {an od : Option Addr} {osl : Array (Option Value)} {f : Addr} {vs : List Value} {binds : List (Str × Value)}
    {p : Program} {loose : List Str} {mean : ExcName → Option Value} {mg mb : Str → Option Value} {B : Heap} {objs : List (Addr × Obj)}
    (hB : ∀ b o, B.get? b = some o → s.heap.get? b = some o) (hobj : ∀ p ∈ objs, s.heap.get? p.1 = some p.2 ∧ B.get? p.1 = none)
    (X₀ : K.In B) (T : Top p loose mean mg mb B) (hroom : A.depth < recursionLimit)
    (ho : K.lookup f = some ⟨oc, od, .func (fnOf name qual params body scope dV kV doc pm an cdv ct), osl⟩) (hcd : codeIn K cdv qual = true)
    (hbind : BindsTo s (fnOf name qual params body scope dV kV doc pm an cdv ct) ⟨vs, []⟩ binds) (hkind : (binds.all fun y => scope.names.lookup y.1 == some .local || scope.names.lookup y.1 == some .cell) = true)
    (hnd : ((cellsFrom 0 scope.names []).map (·.1)).Nodup)
    (h : ∀ g L h₁ tk cells, (∀ b o, B.get? b = some o → g.get? b = some o) → (∀ b o, s.heap.get? b = some o → (∀ p ∈ objs, b ≠ p.1) → g.get? b = some o) → Fr g L h₁ (bindL (envOfC qual scope L f cdv).kindOf binds fun _ => none) → News g L h₁ (cells ++ objs) →
      CellsAre (bindC (envOfC qual scope L f cdv).kindOf binds fun _ => none) (cellsFrom (L + 1) scope.names []) cells →
      wpAny (model prog w) (A.deeper (envOfC qual scope L f cdv)) (execs body (envOfC qual scope L f cdv))
        (fun fl s' => Q (match fl with | .ret v => v | _ => .none) s') (fun _ _ => False)
        { s with heap := h₁, toks := tk })
    (hco : scope.isCoroutine = false) (hgen : scope.isGenerator = false) (hk : scope.kind = .function) : wpAny (model prog w) A (call (.ref f) vs) Q E s := by
  refine wpAny_call ?_
  have X : K.In s.heap := X₀.keeps hB
  have kp : ∀ b o, B.get? b = some o → (hideAll s.heap (objs.map (·.1))).get? b = some o := fun b o e => hideAll_get _ (hB b o e) fun hb => by
    obtain ⟨q, hq, rfl⟩ := List.mem_map.mp hb
    rw [(hobj q hq).2] at e; cases e
  have kq : ∀ b o, s.heap.get? b = some o → (∀ p ∈ objs, b ≠ p.1) → (hideAll s.heap (objs.map (·.1))).get? b = some o := fun b o e hne => hideAll_get _ e fun hb => by
    obtain ⟨q, hq, rfl⟩ := List.mem_map.mp hb
    exact hne q hq rfl
  refine codeAny_call_function (fd := fnX name qual params body scope [] dV kV doc pm an cdv ct) (body := body) hroom (X _ _ ho) rfl hco hgen rfl (codeRec_of X hcd) (hbind _ _ _ _ ?_)
  refine wpAny_newFunctionEnv_cells hk (kindsX hkind _) fun env' he s' x => ?_
  subst he
  refine ⟨((T.keeps hB).nolimit).keeps x.toInCall.keep, codeAny_func ?_⟩
  obtain ⟨h₁, tk, rfl, _⟩ := x.done
  have hk₁ := x.toInCall.keep
  obtain ⟨cells, NC, Y⟩ := Cl.news (h₀ := s.heap) (Nat.le_refl _) fun n c hm => ⟨x.cell n c (lookup_of_mem_nodup (cellsFrom_names scope.names 0 (s.heap.objs.size + 1) [] [] rfl ▸ hnd) hm), x.above n c hm⟩
  refine wpAny_mono (h _ s.heap.objs.size h₁ tk cells kp kq ⟨x.toInCall.ns, fun b o e => hk₁ b o (of_hideAll _ e), Nat.le_of_eq (hideAll_size _ _)⟩ (fun p hp => ?_) Y) (fun fl s' hl => hl) fun _ _ y => y.elim
  rcases List.mem_append.mp hp with hp | hp
  · refine ⟨(NC p hp).1, (NC p hp).2.1, ?_⟩
    cases q : (hideAll s.heap (objs.map (·.1))).get? p.1 with
    | none => rfl
    | some o => have := of_hideAll _ q; rw [(NC p hp).2.2] at this; cases this
  · exact ⟨hk₁ _ _ (hobj p hp).1, Nat.ne_of_lt (Heap.lt_size (hobj p hp).1), hideAll_none _ (List.mem_map_of_mem hp)⟩
end

section
set_option Elab.async false
section
variable {w : World} {A : Around} {E : Value → Shared → Prop} {s : Shared} {Q : Value → Shared → Prop} {h₀ : Heap} {L : Addr} {m : Str → Option Value} {news : List (Addr × Obj)}
  {p₀ : Program} {loose : List Str} {mean : ExcName → Option Value} {mg mb : Str → Option Value}
/-- a heap's objects as a frag -/
noncomputable def hfrag (h : Heap) : Frag := (List.range h.objs.size).filterMap fun a => (h.get? a).map fun o => (a, o)
theorem hfrag_look (h : Heap) (a : Addr) : ∀ n, ((List.range n).filterMap fun a => (h.get? a).map fun o => (a, o)).lookup a = if a < n then h.get? a else none := by
  intro n
  induction n with
  | zero => rfl
  | succ n ih =>
    rw [List.range_succ, List.filterMap_append, List.lookup_append, ih]
    by_cases h1 : a < n
    · rw [if_pos h1, if_pos (Nat.lt_succ_of_lt h1)]
      cases e : h.get? a with
      | some o => rfl
      | none =>
        cases e' : h.get? n with
        | none => simp [e']
        | some o =>
          have : (a == n) = false := by simpa using Nat.ne_of_lt h1
          simp [e', List.lookup_cons, this]
    · rw [if_neg h1]
      by_cases h2 : a = n
      · subst h2
        rw [if_pos (Nat.lt_succ_self _)]
        cases e : h.get? a with
        | none => simp [e]
        | some o => simp [e]
      · have h3 : ¬ a < n + 1 := fun q => h2 (Nat.le_antisymm (Nat.le_of_lt_succ q) (Nat.le_of_not_lt h1))
        rw [if_neg h3]
        have : (a == n) = false := by simpa using h2
        cases e' : h.get? n with
        | none => simp [e']
        | some o => simp [e', List.lookup_cons, this]
theorem hfrag_eq (h : Heap) (a : Addr) : (hfrag h).lookup a = h.get? a := by
  unfold hfrag
  rw [hfrag_look]
  by_cases q : a < h.objs.size
  · rw [if_pos q]
  · rw [if_neg q]
    cases e : h.get? a with
    | none => rfl
    | some o => exact absurd (Heap.lt_size e) q
theorem hfrag_in {h h' : Heap} (X : (hfrag h).In h') (b : Addr) (o : Obj) (e : h.get? b = some o) : h'.get? b = some o := X b o ((hfrag_eq h b).trans e)
theorem map_fspath {vs : List Value} {ys : List Str} (hv : StrsAre vs ys) (K : (fragK.heap_1 w.params).In h₀) (T : Top p₀ loose mean mg mb h₀) (hA : A.handled = none) (hd : A.depth ≤ 440) (hu : A.units ≤ 240) : MapCall PR w A (hfrag h₀) (.ref 161) id vs.toArray := by
  intro i v s Q E hi X hQ
  obtain ⟨y, t, _, rfl⟩ := strsAre_get hv (i := i) (v := v) (by simpa using hi)
  refine wpAny_mono (wk hA hd hu (fspath_x w p₀ loose mean mg mb s (K.keeps (hfrag_in X)) (T.keeps (hfrag_in X)) y t (fun _ _ => False))) (fun v s' h => ?_) fun _ _ h => h.elim
  obtain ⟨rfl, h', tk, rfl, k⟩ := h
  exact hQ h' tk k
theorem tuple_fspath {l it TI M : Addr} {vs : List Value} {ys : List Str} {n : Nat} (hv : StrsAre vs ys) (h1 : it ≠ TI) (h2 : it ≠ M) (h3 : ∀ p ∈ news, p.1 ≠ it) (F : Fr h₀ L s.heap m) (N : News h₀ L s.heap ((M, mapOf TI (.ref 161)) :: (TI, tupT #[.ref it]) :: (it, litOf l) :: news)) (hl : (l, W.listOf vs.toArray n) ∈ news)
    (X : (fragK.heap_1 w.params).In h₀) (T : Top p₀ loose mean mg mb h₀) (hz : vs.length ≤ 1000000) (hA : A.handled = none) (hd : A.depth ≤ 440) (hu : A.in1.in1.in1.in1.units ≤ 240)
    (h : ∀ h' tk D, Fr h₀ L h' m → News h₀ L h' ((D, tupT vs.toArray) :: news) → Q (.ref D) { s with heap := h', toks := tk }) :
    wpAny (model PySem.Challenge.rw_in0142_01.row.prog w) A (call (.type "tuple") [.ref M]) Q E s :=
  tuple_mapped hA F N hl h1 h2 h3 (fun a o e => (hfrag_eq h₀ a).symm.trans e) (map_fspath hv X T hA hd hu) (sz hz) fun h' tk D F' N' => h h' tk D F' (by rw [List.map_id] at N'; exact N')
end
/-- the longest common beginning -/
noncomputable def cpre : List (List Nat) → List (List Nat) → List (List Nat)
  | a :: r, b :: s => if a = b then a :: cpre r s else []
  | _, _ => []
/-- a walk -/
structure Ok (w : List (List Nat)) : Prop where
  free : ∀ q ∈ w, q ≠ [] ∧ q ≠ [46] ∧ 47 ∉ q
  tot : (w.map (·.length)).sum + w.length ≤ 900000
end

section
set_option Elab.async false
open PyProof.Rows.LCg PyProof.Rows.LCt
section
variable {prog : Program} {w : World} {A : Around} {E : Value → Shared → Prop} {s : Shared} {h₀ : Heap} {L : Addr} {m : Str → Option Value} {env : Env}
theorem rest_inv {elt : Expr} {x : Str} {scope : Scope} {cl : List (Str × Addr)} {S : List (Addr × Obj) → Prop} {P : Nat → Value → Prop} {Fin : List Value → List (Addr × Obj) → Prop} {n : Nat} (J : Nat → List Value → List (Addr × Obj) → Prop) (hfin : ∀ ys news, J n ys news → Fin ys news)
    (turn : ∀ i v ys news I oI C oC D m₂ h tk (E' : Value → Shared → Prop), i < n → J i ys news → P i v → NsObj oC m₂ → m₂ x = some v → Fr h₀ L h m → News h₀ L h ((I, oI) :: (C, oC) :: (D, lst ys) :: news) → Off3 I C D news → ((@Ne Nat I C) ∧ (@Ne Nat I D) ∧ (@Ne Nat C D)) →
      wpAny (model prog w) A (eval elt (compEnvC scope cl C env)) (CompEnd h₀ L m { s with heap := h, toks := tk } I oI C oC D (lst ys) S (fun y news' => J (i + 1) (ys ++ [y]) news')) E' { s with heap := h, toks := tk }) :
    ∀ k i ys news, i + k = n → J i ys news → CompRest prog w A h₀ L m env elt x scope cl s S P Fin k i ys news := by
  intro k
  induction k with
  | zero => intro i ys news e hJ; rw [show i = n by omega] at hJ; exact hfin _ _ hJ
  | succ k ih =>
    intro i ys news e hJ
    refine CompRest.succ fun v I oI C oC D m₂ h tk E' hP ho hm F N off hne => ?_
    refine wpAny_mono (turn i v ys news I oI C oC D m₂ h tk E' (by omega) hJ hP ho hm F N off hne) (fun y s₂ hy => ?_) fun _ _ z => z
    obtain ⟨h', tk', news', e', F', N', off', hS, hJ'⟩ := hy
    exact ⟨h', tk', news', e', F', N', off', hS, ih (i + 1) _ _ (by omega) hJ'⟩
theorem restT_inv {ct elt : Expr} {x : Str} {scope : Scope} {cl : List (Str × Addr)} {S : List (Addr × Obj) → Prop} {P : Nat → Value → Prop} {Fin : List Value → List (Addr × Obj) → Prop} {n : Nat} (J : Nat → List Value → List (Addr × Obj) → Prop) (hfin : ∀ ys news, J n ys news → Fin ys news)
    (turn : ∀ i v ys news I oI C oC D m₂ h tk (E' : Value → Shared → Prop), i < n → J i ys news → P i v → NsObj oC m₂ → m₂ x = some v → Fr h₀ L h m → News h₀ L h ((I, oI) :: (C, oC) :: (D, lst ys) :: news) → Off3 I C D news → ((@Ne Nat I C) ∧ (@Ne Nat I D) ∧ (@Ne Nat C D)) →
      wpAny (model prog w) A (isTrue ct (compEnvC scope cl C env) (eval ct (compEnvC scope cl C env))) (fun ok s' => if ok = true then
        wpAny (model prog w) A (eval elt (compEnvC scope cl C env)) (CompEnd h₀ L m { s with heap := h, toks := tk } I oI C oC D (lst ys) S (fun y news' => J (i + 1) (ys ++ [y]) news')) E' s'
        else CompEnd h₀ L m { s with heap := h, toks := tk } I oI C oC D (lst ys) S (fun _ news' => J (i + 1) ys news') Value.none s') E' { s with heap := h, toks := tk }) :
    ∀ k i ys news, i + k = n → J i ys news → CompRestT prog w A h₀ L m env ct elt x scope cl s S P Fin k i ys news := by
  intro k
  induction k with
  | zero => intro i ys news e hJ; rw [show i = n by omega] at hJ; exact hfin _ _ hJ
  | succ k ih =>
    intro i ys news e hJ
    refine CompRestT.succ fun v I oI C oC D m₂ h tk E' hP ho hm F N off hne => ?_
    refine wpAny_mono (turn i v ys news I oI C oC D m₂ h tk E' (by omega) hJ hP ho hm F N off hne) (fun ok s₂ hy => ?_) fun _ _ z => z
    cases ok with
    | true =>
      simp only [if_true] at hy ⊢
      refine wpAny_mono hy (fun y s₃ hy => ?_) fun _ _ z => z
      obtain ⟨h', tk', news', e', F', N', off', hS, hJ'⟩ := hy
      exact ⟨h', tk', news', e', F', N', off', hS, ih (i + 1) _ _ (by omega) hJ'⟩
    | false =>
      simp only [Bool.false_eq_true, if_false] at hy ⊢
      obtain ⟨h', tk', news', e', F', N', off', hS, hJ'⟩ := hy
      exact ⟨h', tk', news', e', F', N', off', hS, ih (i + 1) _ _ (by omega) hJ'⟩
/-- a tuple that the ledger bears, gone through -/
noncomputable def TupSrc (prog : Program) (w : World) (A : Around) (h₀ : Heap) (L : Addr) (m : Str → Option Value) (env : Env) (elt : Expr) (x : Str) (scope : Scope) (cl : List (Str × Addr)) (Fin : Shared → List Value → List (Addr × Obj) → Prop) (xv : Value) (s₁ : Shared) : Prop :=
  ∃ ax vs news, xv = .ref ax ∧ A.handled = none ∧ Fr h₀ L s₁.heap m ∧ News h₀ L s₁.heap news ∧ (ax, tupT vs) ∈ news ∧ vs.size ≤ sizeLine ∧
    ∀ s₂ : Shared, (∃ h, s₂ = { s₁ with heap := h }) → CompRest prog w A h₀ L m env elt x scope cl s₂ (fun nw => (ax, tupT vs) ∈ nw) (fun i v => vs[i]? = some v) (Fin s₂) vs.size 0 [] news
theorem tup_st {ax I : Addr} {its : Array Value} : ∀ i (h h' : Heap) (o : Obj) (nw : List (Addr × Obj)), (h.IsTupleIter I ax i ∧ h.IsTuple ax its) → h.get? I = some o → h'.get? I = some o → (∀ b o, h₀.get? b = some o → h'.get? b = some o) → News h₀ L h' nw → (ax, tupT its) ∈ nw → (h'.IsTupleIter I ax i ∧ h'.IsTuple ax its) :=
  fun i h h' o nw st e e' k N S => ⟨by obtain ⟨o', q, r⟩ := st.1; rw [e] at q; cases q; exact ⟨o, e', r⟩, ⟨_, N.get S, rfl, _, rfl⟩⟩
theorem Assign_tup {elt iter : Expr} {x y : Str} {px py : Pos} {scope : Scope} {cl : List (Str × Addr)} {pos spos : Pos} {Q : Flow → Shared → Prop} (F₀ : Fr h₀ L s.heap m) (hLe : env.locals = L)
    (hsw : swapsWith (.ListComp elt [⟨.Name x px, iter, [], 0⟩] scope pos) (some (.Name y py)) spos.line env = pure true)
    (hclos : closureFor scope env = pure cl) (hcell : ∀ z ∈ scope.names, z.2 ≠ .cell) (hkind : scope.kind = .function)
    (hnames : ∀ z ∈ scope.names, z.2 = .local → scope.names.lookup z.1 = some .local) (hx : scope.names.lookup x = some .local)
    (hy : env.kindOf y = some .local) (hp : (env.scope.kind == .class || (env.scope.kind == .module && env.locals != env.globals)) = false)
    (h : wpAny (model prog w) A (eval iter env) (TupSrc prog w A h₀ L m env elt x scope cl (fun s₂ => FinA h₀ L m s₂ y Q)) E s)
    (hs : ∀ x, foldedSetIterable iter env x = pure x := by intro _; rfl) :
    wpAny (model prog w) A (exec (.Assign [.Name y py] (.ListComp elt [⟨.Name x px, iter, [], 0⟩] scope pos) spos) env) Q E s := by
  subst hLe
  rw [exec_Assign_Name_used _ _ _ _ hsw]
  refine wpAny_bind (wpAny_standAt (wpAny_bind ?_))
  show wpAny _ A (do let _ ← comprehension (.ListComp elt [⟨.Name x px, iter, [], 0⟩] scope pos) scope env _ (newList []) false (eval iter env) (some (assign (.Name y py) env))) _ _ s
  refine wpAny_bind (wpAny_mono (wpAny_comprehension_free (use := some (assign (.Name y py) env)) (Q := fun _ s' => Q .next s') rfl hs hclos hkind hnames
    (wpAny_mono h (fun xv s₁ h₁ => ?_) fun _ _ e => e)) (fun _ s' hq => wpAny_pure (wpAny_pure hq)) fun _ _ e => e)
  obtain ⟨ax, its, news, rfl, hh, F, N, S, hsz, R⟩ := h₁
  have hl : s₁.heap.IsTuple ax its := ⟨_, N.get S, rfl, _, rfl⟩
  have hlt : ax < s₁.heap.objs.size := Heap.lt_size (N.get S)
  refine wpAny_pyIter_tuple hl ?_
  have up : ∀ b o, s₁.heap.get? b = some o → (s₁.heap.push { cls := .type "tuple_iterator", data := .fields #[.ref ax, .int 0 0] }).get? b = some o := fun b o e => Heap.get?_push_of_some _ e
  refine block_U (Walks.tuple hh s₁.heap.objs.size ax (Nat.ne_of_lt hlt) its) hsz (fun i h st => by obtain ⟨o, e, _⟩ := st.1; exact ⟨o, e⟩) tup_st hcell hkind hx ⟨⟨_, Heap.get?_push_size _ rfl, rfl, rfl⟩, hl.at fun o e => up _ o e⟩ (fun b hb => ?_)
    (F.keeps up) (N.grown up) (Nat.ne_of_lt F.ns.lt) (next_is_new F) (fun p hp => Nat.ne_of_lt (Heap.lt_size (N p hp).1)) S (R _ ⟨_, rfl⟩) ?_
  · show b < (s₁.heap.push _).objs.size
    rw [Heap.size_push]
    rcases List.mem_cons.mp hb with rfl | hb
    · exact Nat.lt_succ_self _
    · rw [List.mem_singleton.mp hb]; exact Nat.lt_succ_of_lt hlt
  · intro D C h' tk m' ys news' F' N' o1 hn hC₀ hD₀ hCL hDL hCD offC fin
    show wpAny _ A (assign (.Name y py) env (.ref D)) _ _ _
    refine wpAny_assign_Name (wpAny_storeName_local hy F'.ns (fun h₂ hn₂ hs₂ => ?_) hp)
    have hL₀ : h₀.get? env.locals = none := Heap.get?_none_of_le F'.above
    have F₂ : Fr h₀ env.locals h₂ (fun z => if z = y then some (.ref D) else m z) := ⟨hn₂, fun b o e => hs₂.extBut b o (fun q => by rw [q, hL₀] at e; cases e) (F'.keep b o e), F'.above⟩
    refine ⟨m', hn.sameBut hs₂ hCL, fun h'' hs'' => fin D h'' _ (F₂.change hs'' hCL hC₀) (fun p hp => ?_) o1⟩
    have z : h₂.get? p.1 = some p.2 := hs₂.extBut _ _ (N' p hp).2.1 (N' p hp).1
    refine ⟨hs''.extBut _ _ ?_ z, (N' p hp).2⟩
    rcases List.mem_cons.mp hp with rfl | hp
    · exact Ne.symm hCD
    · exact offC p hp
end
end

section
set_option Elab.async false
/-! a set of the one truth value True -/
noncomputable abbrev tb1 (led : Bool) : SetTable := { mask := 7, place := #[1], dummies := #[], finger := 0, led := led, moves := 0, plain := true }
noncomputable abbrev so0 (led : Bool) : Obj := { cls := .type "set", dict := none, data := .set #[] 0 (.fresh 0 0 led), slots := #[] }
noncomputable abbrev so1 (led : Bool) : Obj := { cls := .type "set", dict := none, data := .set #[(1, .bool true)] 1 (tb1 led), slots := #[] }
theorem lay1 (led : Bool) : layNew (.fresh 0 0 led) #[] 1 (.bool true) = (#[(1, .bool true)], tb1 led, false, false) := by
  cases led <;> kernel_rfl
theorem full1 (led : Bool) : (tb1 led).tooFull = false := by cases led <;> rfl
section
variable {prog : Program} {w : World} {A : Around} {E : Value → Shared → Prop} {s : Shared}
noncomputable def ledOf (w : World) : Bool := !(w.params.followText "set-order")
theorem newSet_ {Q : Value → Shared → Prop} (h : Q (.ref s.heap.objs.size) { s with heap := s.heap.push (so0 (ledOf w)) }) : wpAny (model prog w) A (newSet (.type "set")) Q E s := by
  unfold newSet setsByText
  refine wpAny_bind (wpAny_bind (wpAny_askSetting (wpAny_pure ?_)))
  dsimp only
  simp only [newObj]
  exact wpAny_bind (wpAny_alloc (wpAny_pure h))
theorem hash_true {Q : Int → Shared → Prop} (h : ∀ k, Q 1 { s with toks := k }) : wpAny (model prog w) A (pyHash (.bool true)) Q E s := by
  unfold pyHash
  have hv : [Value.bool true].any Value.onHeap = false := rfl
  refine wpAny_bind ?_
  rw [cRoomFor, if_neg (by rw [hv]; exact Bool.false_ne_true)]; refine wpAny_pure ?_
  refine wpAny_bind (wpAny_specialOf (show s.TypeIs (.bool true) "bool" from rfl) F.slot_bool_hash.lookup ?_)
  show wpAny _ _ (if (some (Value.builtin "int.__hash__") == some Value.none) = true then _ else _) Q E s
  rw [if_neg (by rw [beq_builtin_none]; exact Bool.false_ne_true)]
  refine wpAny_bind (wpAny_specialOf (show s.TypeIs (.bool true) "bool" from rfl) F.slot_bool_hash.lookup ?_)
  show wpAny _ _ (callSpecialIfBoundUnlessNone? (.bool true) "__hash__" _ >>= _) Q E s
  refine wpAny_bind (wpAny_callSpecialIfBoundUnlessNone?_slot (show s.TypeIs (.bool true) "bool" from rfl) F.slot_bool_hash
    (wpAny_call_entry F.slot_bool_hash (show s.TypeIs (.bool true) "bool" from rfl) entry_int_hash
      (show wpAny _ _ (do ret (← mkInt (rawHash 1))) _ _ s from wpAny_ret_mkInt ?_) (args_int_hash _)))
  show wpAny _ _ (if (decide (-(2 : Int) ^ 63 ≤ rawHash 1) && decide (rawHash 1 < 2 ^ 63)) = true then _ else _) Q E _
  rw [if_pos (by decide)]
  exact wpAny_pure (h _)
theorem sb_add0 {D : Addr} {led : Bool} {Q : Value → Shared → Prop} (ho : s.heap.get? D = some (so0 led))
    (h : ∀ h' k, h'.get? D = some (so1 led) → Heap.SameBut D s.heap h' → Q .none { s with heap := h', toks := k }) : wpAny (model prog w) A (call (.builtin "set.add") [.ref D, .bool true]) Q E s := by
  refine wpAny_call_entry F.slot_set_add ⟨_, ho, rfl⟩ F.entry_set_add ?_ (F.args_set_add_2 _ _)
  unfold Builtin.«set.add» Builtin.Frozenset.oneOther
  simp only [List.isEmpty_nil, bind_assoc]
  unfold Builtin.Frozenset.addrOf setAdd
  refine wpAny_bind (wpAny_pure ?_)
  try dsimp only
  refine wpAny_bind (wpAny_pure ?_)
  try dsimp only
  refine wpAny_bind (wpAny_holding (wpAny_bind (hash_true fun k => ?_)))
  unfold setAddHashed setAddHashedIn
  refine wpAny_holding (wpAny_bind (wpAny_setState_of ho rfl rfl ?_))
  dsimp only
  rw [show byScan (.bool true) #[] = true from by kernel_rfl]
  simp only [↓reduceIte]
  unfold setAddByScan
  refine wpAny_bind ?_
  refine wpAny_bind (wpAny_rule ?_)
  refine wpAny_bind ?_
  show wpAny _ _ (setScanFrom D (.bool true) 1 true [] 0) _ _ _
  unfold setScanFrom
  refine wpAny_pure ?_
  dsimp only
  rw [lay1]
  dsimp only
  refine wpAny_bind (wpAny_pure ?_)
  simp only [if_true]
  refine wpAny_bind ?_
  rw [hashByValue_scannable 8 (x := .bool true) rfl]
  refine wpAny_pure ?_
  simp only [plainKind, if_true]
  refine wpAny_bind (wpAny_storeSet_of ho rfl ?_ (by rw [sizeLine_eq]; decide))
  have hg : (s.heap.update D (Obj.putSet #[(1, .bool true)] (tb1 led))).get? D = some (so1 led) := Heap.get?_update_self _ ho rfl
  rw [full1]
  simp only [Bool.and_false, Bool.false_eq_true, if_false]
  refine wpAny_pure (wpAny_pure ?_)
  exact wpAny_pure ⟨_, rfl, h _ _ hg (Heap.SameBut.update ..)⟩
theorem sb_add1 {D : Addr} {led : Bool} {Q : Value → Shared → Prop} (ho : s.heap.get? D = some (so1 led))
    (h : ∀ k, Q .none { s with toks := k }) : wpAny (model prog w) A (call (.builtin "set.add") [.ref D, .bool true]) Q E s := by
  refine wpAny_call_entry F.slot_set_add ⟨_, ho, rfl⟩ F.entry_set_add ?_ (F.args_set_add_2 _ _)
  unfold Builtin.«set.add» Builtin.Frozenset.oneOther
  simp only [List.isEmpty_nil, bind_assoc]
  unfold Builtin.Frozenset.addrOf setAdd
  refine wpAny_bind (wpAny_pure ?_)
  try dsimp only
  refine wpAny_bind (wpAny_pure ?_)
  try dsimp only
  refine wpAny_bind (wpAny_holding (wpAny_bind (hash_true fun k => ?_)))
  unfold setAddHashed setAddHashedIn
  have hf : (tb1 led).fits (#[((1 : Int), Value.bool true)] : Array (Int × Value)).size = true := by cases led <;> rfl
  refine wpAny_holding (wpAny_bind (wpAny_setState_of ho rfl hf ?_))
  dsimp only
  rw [show byScan (.bool true) #[(1, .bool true)] = true from by kernel_rfl]
  simp only [↓reduceIte]
  unfold setAddByScan
  refine wpAny_bind ?_
  refine wpAny_bind (wpAny_rule ?_)
  refine wpAny_bind ?_
  show wpAny _ _ (setScanFrom D (.bool true) 1 true [(1, .bool true)] 0) _ _ _
  unfold setScanFrom
  rw [if_pos (by rfl)]
  refine wpAny_bind (wpAny_setEpoch_of ho rfl hf ?_)
  have eqb : ∀ {s : Shared} {Q : Bool → Shared → Prop} {E : Value → Shared → Prop} {A : Around}, Q true s → wpAny (model prog w) A (eqBool (.bool true) (.bool true)) Q E s := fun h => by
    unfold eqBool
    refine wpAny_holding ?_
    rw [if_pos (by rfl)]
    exact wpAny_bind (wpAny_rule (wpAny_pure h))
  refine wpAny_bind (eqb ?_)
  refine wpAny_pure ?_
  exact wpAny_pure (wpAny_pure (wpAny_pure ⟨_, rfl, h _⟩))

namespace SetF
set_option maxRecDepth 100000
theorem entry_set_iter : entryFor table "set.__iter__" = some Builtin.«frozenset.__iter__» :=
  entryFor_alias (id' := "frozenset.__iter__") (by kernel_rfl) (by first | rfl | decide +kernel | (unfold String.splitOn; simp +decide [String.splitOnAux])) (by decide +kernel) (by kernel_rfl)
theorem slot_set_iter : Slot "set" "__iter__" "set.__iter__" :=
  .of (owner := "set") (n := "__iter__") (by rw [typeLookup_type, builtinLookup_eq_fast]; kernel_rfl) (by decide +kernel) (by decide +kernel) (by decide +kernel)
    (by first | exact .inl (by decide +kernel) | exact .inr (by decide +kernel)) (by rw [isSubtype_type]; kernel_rfl)
theorem owner_set : Manifest.owners.lookup (String.ofList ['t', 'e', 's'].reverse) = some Manifest.sig_set := by kernel_rfl
theorem args_set_iter_1 (a : Value) : argsOk "set.__iter__" ⟨[a], []⟩ := by
  unfold argsOk; rw [signature?_of (id := "set.__iter__") (n := ['_', '_', 'r', 'e', 't', 'i', '_', '_']) (o := ['t', 'e', 's']) (by kernel_rfl) owner_set]; kernel_rfl
theorem slot_si_next : Slot "set_iterator" "__next__" "set_iterator.__next__" :=
  .of (owner := "set_iterator") (n := "__next__") (by rw [typeLookup_type, builtinLookup_eq_fast]; kernel_rfl) (by decide +kernel) (by decide +kernel) (by decide +kernel)
    (by first | exact .inl (by decide +kernel) | exact .inr (by decide +kernel)) (by rw [isSubtype_type]; kernel_rfl)
theorem entry_si_next : entryFor table "set_iterator.__next__" = some Builtin.«set_iterator.__next__» := entryFor_of_tree (by kernel_rfl)
theorem owner_si : Manifest.owners.lookup (String.ofList ['r', 'o', 't', 'a', 'r', 'e', 't', 'i', '_', 't', 'e', 's'].reverse) = some Manifest.sig_set_iterator := by kernel_rfl
theorem args_si_next_1 (a : Value) : argsOk "set_iterator.__next__" ⟨[a], []⟩ := by
  unfold argsOk; rw [signature?_of (id := "set_iterator.__next__") (n := ['_', '_', 't', 'x', 'e', 'n', '_', '_']) (o := ['r', 'o', 't', 'a', 'r', 'e', 't', 'i', '_', 't', 'e', 's']) (by kernel_rfl) owner_si]; kernel_rfl
end SetF
/-- the iterator of the set, so far -/
noncomputable abbrev sit (D : Addr) (a i : Int) : Obj := { cls := .type "set_iterator", dict := none, data := .fields #[.int a 0, .int i 0, .ref D, .int 1 0, .int 1 0], slots := #[] }
theorem iter_sb {D : Addr} {led : Bool} {Q : Value → Shared → Prop} (ho : s.heap.get? D = some (so1 led))
    (h : Q (.ref s.heap.objs.size) { s with heap := s.heap.push (sit D 0 0) }) : wpAny (model prog w) A (pyIter (.ref D)) Q E s := by
  have hT : s.TypeIs (.ref D) "set" := ⟨_, ho, rfl⟩
  have hf : (tb1 led).fits (#[((1 : Int), Value.bool true)] : Array (Int × Value)).size = true := by cases led <;> rfl
  refine wpAny_pyIter_slot hT SetF.slot_set_iter (wpAny_call_entry SetF.slot_set_iter hT SetF.entry_set_iter ?_ (SetF.args_set_iter_1 _))
  unfold Builtin.«frozenset.__iter__»
  refine wpAny_bind (wpAny_pure ?_)
  dsimp only
  refine wpAny_bind (wpAny_bind (wpAny_setEntries_of ho rfl hf (wpAny_pure ?_)))
  refine wpAny_bind ?_
  unfold setDrawn
  refine wpAny_bind (wpAny_setState_of ho rfl hf ?_)
  unfold setsByText
  refine wpAny_bind (wpAny_bind (wpAny_askSetting (wpAny_pure ?_)))
  refine wpAny_pure ?_
  rw [if_neg (by
    show ¬ ((!_ && (!(tb1 led).plain && decide ((#[((1 : Int), Value.bool true)] : Array (Int × Value)).size > 1))) = true)
    simp)]
  refine wpAny_bind (wpAny_pure ?_)
  refine wpAny_bind (wpAny_setEpoch_of ho rfl hf ?_)
  unfold newFields
  exact wpAny_bind (wpAny_newObj_type (wpAny_pure ⟨_, rfl, "set_iterator", _, ⟨_, Heap.get?_push_size _ rfl, rfl⟩, SetF.slot_si_next.lookup, h⟩))
theorem setNext_item {D : Addr} {Q : Option (Value × Nat) → Shared → Prop} (ho : s.heap.get? D = some (so1 (ledOf w)))
    (h : ∀ j : Nat, (w.params.followText "set-order" = true → j = 0) → (w.params.followText "set-order" = false → j = 2) → Q (some (.bool true, j)) s) : wpAny (model prog w) A (setNext D 0 0 1) Q E s := by
  have hf : (tb1 (ledOf w)).fits (#[((1 : Int), Value.bool true)] : Array (Int × Value)).size = true := by cases (ledOf w) <;> rfl
  unfold setNext
  refine wpAny_bind (wpAny_setState_of ho rfl hf ?_)
  unfold setsByText
  refine wpAny_bind (wpAny_bind (wpAny_askSetting (wpAny_pure ?_)))
  show wpAny _ _ (if w.params.followText "set-order" = true then _ else _) _ _ _
  cases hb : w.params.followText "set-order" with
  | true =>
    simp only [if_true]
    rw [if_neg (by decide)]
    unfold setWalk
    refine wpAny_bind (wpAny_bind (wpAny_setState_of ho rfl hf ?_))
    unfold setsByText
    refine wpAny_bind (wpAny_bind (wpAny_askSetting (wpAny_pure ?_)))
    show wpAny _ _ (if w.params.followText "set-order" = true then _ else _) _ _ _
    rw [if_pos hb]
    refine wpAny_bind (wpAny_askSetting (wpAny_pure ?_))
    refine wpAny_pure ?_
    have : (pickOrder (w.params.setOrder D 1) #[((1 : Int), Value.bool true)])[0]? = some (1, Value.bool true) := by
      unfold pickOrder
      simp [pickOrder.go, Nat.mod_one]
    show Q (Option.map (fun e => (e.2, 0)) (pickOrder (w.params.setOrder D 1) #[((1 : Int), Value.bool true)])[0]?) s
    rw [this]
    exact h 0 (fun _ => rfl) (fun e => by rw [hb] at e; cases e)
  | false =>
    simp only [Bool.false_eq_true, if_false]
    rw [if_neg (by
      show ¬ ((!(tb1 (ledOf w)).plain && decide ((#[((1 : Int), Value.bool true)] : Array (Int × Value)).size > 1)) = true)
      simp)]
    have hl : ledOf w = true := by unfold ledOf; rw [hb]; rfl
    rw [hl]
    refine wpAny_bind (wpAny_pure ?_)
    exact wpAny_pure (h 2 (fun e => by rw [hb] at e; cases e) (fun _ => rfl))
theorem setNext_end {D : Addr} {j : Nat} {Q : Option (Value × Nat) → Shared → Prop} (ho : s.heap.get? D = some (so1 (ledOf w))) (h0 : w.params.followText "set-order" = true → j = 0) (h2 : w.params.followText "set-order" = false → j = 2)
    (h : Q none s) : wpAny (model prog w) A (setNext D j 1 1) Q E s := by
  have hf : (tb1 (ledOf w)).fits (#[((1 : Int), Value.bool true)] : Array (Int × Value)).size = true := by cases (ledOf w) <;> rfl
  unfold setNext
  refine wpAny_bind (wpAny_setState_of ho rfl hf ?_)
  unfold setsByText
  refine wpAny_bind (wpAny_bind (wpAny_askSetting (wpAny_pure ?_)))
  show wpAny _ _ (if w.params.followText "set-order" = true then _ else _) _ _ _
  cases hb : w.params.followText "set-order" with
  | true =>
    simp only [if_true]
    rw [if_neg (by decide)]
    unfold setWalk
    refine wpAny_bind (wpAny_bind (wpAny_setState_of ho rfl hf ?_))
    unfold setsByText
    refine wpAny_bind (wpAny_bind (wpAny_askSetting (wpAny_pure ?_)))
    show wpAny _ _ (if w.params.followText "set-order" = true then _ else _) _ _ _
    rw [if_pos hb]
    refine wpAny_bind (wpAny_askSetting (wpAny_pure ?_))
    refine wpAny_pure ?_
    have : (pickOrder (w.params.setOrder D 1) #[((1 : Int), Value.bool true)])[1]? = none := by
      unfold pickOrder
      simp [pickOrder.go, Nat.mod_one]
    show Q (Option.map (fun e => (e.2, j)) (pickOrder (w.params.setOrder D 1) #[((1 : Int), Value.bool true)])[1]?) s
    rw [this]
    exact h
  | false =>
    simp only [Bool.false_eq_true, if_false]
    rw [if_neg (by
      show ¬ ((!(tb1 (ledOf w)).plain && decide ((#[((1 : Int), Value.bool true)] : Array (Int × Value)).size > 1)) = true)
      simp)]
    have hl : ledOf w = true := by unfold ledOf; rw [hb]; rfl
    rw [hl]
    refine wpAny_bind (wpAny_pure ?_)
    rw [h2 hb]
    exact wpAny_pure h
theorem si_item {I D : Addr} {Q : Option Value → Shared → Prop} (hI : s.heap.get? I = some (sit D 0 0)) (ho : s.heap.get? D = some (so1 (ledOf w))) (hne : D ≠ I)
    (h : ∀ h' (j : Nat), h'.get? I = some (sit D j 1) → Heap.SameBut I s.heap h' → (w.params.followText "set-order" = true → j = 0) → (w.params.followText "set-order" = false → j = 2) → Q (some (.bool true)) { s with heap := h' }) : wpAny (model prog w) A (pyNext (.ref I)) Q E s := by
  have hT : s.TypeIs (.ref I) "set_iterator" := ⟨_, hI, rfl⟩
  have hf : (tb1 (ledOf w)).fits (#[((1 : Int), Value.bool true)] : Array (Int × Value)).size = true := by cases (ledOf w) <;> rfl
  unfold pyNext
  refine wpAny_bind (wpAny_attempt (wpAny_callSpecial?_slot (name := Str.ofString "__next__") hT SetF.slot_si_next
    (wpAny_call_entry SetF.slot_si_next hT SetF.entry_si_next ?_ (SetF.args_si_next_1 _))))
  unfold Builtin.«set_iterator.__next__»
  refine wpAny_bind (wpAny_pure ?_)
  refine wpAny_bind (wpAny_fieldsOf hI rfl ?_)
  dsimp only
  refine wpAny_bind (wpAny_setEntries_of ho rfl hf ?_)
  rw [if_neg (by decide)]
  refine wpAny_bind (setNext_item ho fun j h0 h2 => ?_)
  dsimp only
  refine wpAny_bind (wpAny_setField_rec hI (by simp) fun h₁ hI₁ hs₁ => ?_)
  refine wpAny_bind (wpAny_setField_rec hI₁ (by simp) fun h₂ hI₂ hs₂ => ?_)
  refine wpAny_pure ⟨_, rfl, ?_⟩
  exact wpAny_pure (h h₂ j hI₂ (hs₁.trans hs₂) h0 h2)
theorem si_end {I D : Addr} {j : Nat} {Q : Option Value → Shared → Prop} (hh : A.handled = none) (hI : s.heap.get? I = some (sit D j 1)) (ho : s.heap.get? D = some (so1 (ledOf w))) (hne : D ≠ I) (h0 : w.params.followText "set-order" = true → j = 0) (h2 : w.params.followText "set-order" = false → j = 2)
    (h : ∀ h', Heap.ExtBut I s.heap h' → Q none { s with heap := h' }) : wpAny (model prog w) A (pyNext (.ref I)) Q E s := by
  have hT : s.TypeIs (.ref I) "set_iterator" := ⟨_, hI, rfl⟩
  have hf : (tb1 (ledOf w)).fits (#[((1 : Int), Value.bool true)] : Array (Int × Value)).size = true := by cases (ledOf w) <;> rfl
  unfold pyNext
  refine wpAny_bind (wpAny_attempt (wpAny_callSpecial?_slot (name := Str.ofString "__next__") hT SetF.slot_si_next
    (wpAny_call_entry SetF.slot_si_next hT SetF.entry_si_next ?_ (SetF.args_si_next_1 _))))
  unfold Builtin.«set_iterator.__next__»
  refine wpAny_bind (wpAny_pure ?_)
  refine wpAny_bind (wpAny_fieldsOf hI rfl ?_)
  dsimp only
  refine wpAny_bind (wpAny_setEntries_of ho rfl hf ?_)
  rw [if_neg (by decide)]
  refine wpAny_bind (setNext_end (j := j) ho h0 h2 ?_)
  dsimp only
  refine wpAny_bind (wpAny_setField_rec hI (by simp) fun h₁ hI₁ hs₁ => ?_)
  show wpAny _ _ (newExc (.type "StopIteration") [] >>= _) _ _ _
  refine wpAny_bind ?_
  simp only [newExc, newTuple]
  refine wpAny_bind (wpAny_newObj_type ?_ (by size_fits))
  refine wpAny_bind (m := firstArgMember _ _) (wpAny_of_eq (a := Value.none) (by first | rfl | (simp only [firstArgMember]; rfl)) ?_)
  refine wpAny_newObj_type ?_ (by size_fits)
  simp only [raiseNew]
  refine wpAny_bind (wpAny_handled ?_)
  rw [show A.in1.handled = none from hh]
  refine wpAny_bind (wpAny_pure (wpAny_throw ?_))
  refine wpAny_bind (wpAny_isInstance (T := "StopIteration") (b := true) ⟨_, Heap.get?_push_size _ rfl, rfl⟩ isSubtype_stop ?_)
  exact wpAny_pure (h _ ((hs₁.extBut.push _).push _))
theorem unpack_sb {D : Addr} {Q : List Value → Shared → Prop} (hh : A.handled = none) (ho : s.heap.get? D = some (so1 (ledOf w)))
    (h : ∀ h', (∀ b o, s.heap.get? b = some o → h'.get? b = some o) → Q [.bool true] { s with heap := h' }) : wpAny (model prog w) A (unpackItems (.ref D) 1 none) Q E s := by
  have hT : s.TypeIs (.ref D) "set" := ⟨_, ho, rfl⟩
  have hlt : D < s.heap.objs.size := Heap.lt_size ho
  unfold unpackItems
  refine wpAny_bind ?_
  unfold notIterableAtAll
  refine wpAny_bind (wpAny_specialOf hT SetF.slot_set_iter.lookup ?_)
  refine wpAny_pure ?_
  simp only [Bool.false_eq_true, if_false]
  refine wpAny_bind (wpAny_holding (iter_sb ho ?_))
  have hup : ∀ b o, s.heap.get? b = some o → (s.heap.push (sit D 0 0)).get? b = some o := fun b o e => Heap.get?_push_of_some _ e
  have hI : (s.heap.push (sit D 0 0)).get? s.heap.objs.size = some (sit D 0 0) := Heap.get?_push_size _ rfl
  have hne : D ≠ s.heap.objs.size := Nat.ne_of_lt hlt
  have hnew : ∀ b o, s.heap.get? b = some o → b ≠ s.heap.objs.size := fun b o e => Nat.ne_of_lt (Heap.lt_size e)
  generalize s.heap.push (sit D 0 0) = H at hup hI ⊢
  generalize s.heap.objs.size = I at hI hne hnew ⊢
  refine wpAny_bind (wpAny_holding ?_)
  show wpAny _ _ (pyNext (.ref I) >>= _) _ _ _
  refine wpAny_bind (si_item hI (hup _ _ ho) hne fun h₁ j hI₁ hs₁ h0 h2 => ?_)
  dsimp only
  refine wpAny_bind (wpAny_holding (wpAny_pure (wpAny_pure ?_)))
  rw [if_neg (by simp)]
  have ho₁ : h₁.get? D = some (so1 (ledOf w)) := hs₁.extBut _ _ hne (hup _ _ ho)
  refine wpAny_bind (wpAny_holding (si_end hh hI₁ ho₁ hne h0 h2 fun h₂ he₂ => ?_))
  simp only [Option.isSome_none, Bool.false_eq_true, if_false]
  exact wpAny_pure (h h₂ fun b o e => he₂ b o (hnew b o e) (hs₁.extBut b o (hnew b o e) (hup b o e)))
end
end

section
set_option Elab.async false
open PyProof.Rows.LCg
section
variable {prog : Program} {w : World} {A : Around} {E : Value → Shared → Prop} {s : Shared} {h₀ : Heap} {L : Addr} {m : Str → Option Value} {env : Env}
theorem compTurn_set (elt target iter : Expr) (scope : Scope) (pos : Pos) (it acc : Value) (env : Env) :
    compTurn (.SetComp elt [⟨target, iter, [], 0⟩] scope pos) 0 it acc env = (standAt iter.pos >>= fun _ => pyNext it >>= fun r => match r with
      | none => pure (.done .next)
      | some v => letOwnedTupleGo target it v >>= fun _ => assign target env v >>= fun _ =>
        (eval elt env >>= fun x => standAt elt.pos >>= fun _ => call (.builtin "set.add") [acc, x] >>= fun _ => pure ()) >>= fun _ =>
          again (.compLoop (.SetComp elt [⟨target, iter, [], 0⟩] scope pos) 0 it acc env)) := by rfl
theorem compLoop_set {R : Result → Shared → Prop} {elt target iter : Expr} {scope : Scope} {pos : Pos} {it acc : Value} {env : Env} (I : Nat → Shared → Prop)
    (turn : ∀ n s, I n s → wpAny (model prog w) A (pyNext it) (fun r s₁ => match r with
      | none => R (.ok .next) s₁
      | some v => wpAny (model prog w) A (assign target env v) (fun _ s₂ => wpAny (model prog w) A (eval elt env) (fun x s₃ =>
          wpAny (model prog w) A (call (.builtin "set.add") [acc, x]) (fun _ s₄ => ∃ m, m < n ∧ I m s₄) (notedBy (model prog w) A env fun e s' => R (.error e) s') s₃)
          (notedBy (model prog w) A env fun e s' => R (.error e) s') s₂) (notedBy (model prog w) A env fun e s' => R (.error e) s') s₁) (notedBy (model prog w) A env fun e s' => R (.error e) s') s)
    (n : Nat) (h : I n s) (ht : ∀ v, letOwnedTupleGo target it v = pure () := by intro _; rfl) :
    codeAny (model prog w) A (.compLoop (.SetComp elt [⟨target, iter, [], 0⟩] scope pos) 0 it acc env) R s := by
  refine codeAny_loop rfl I (fun n s hI => ?_) n h
  show wpAny _ _ ((compTurn (.SetComp elt [⟨target, iter, [], 0⟩] scope pos) 0 it acc env).onRaise (fun x => do noteFrame x env; theTreesLotGoes x)) _ _ s
  refine wpAny_noted ?_
  rw [compTurn_set]
  refine wpAny_bind (wpAny_standAt (wpAny_bind (wpAny_mono (turn n s hI) (fun r s₁ h₁ => ?_) fun _ _ h' => h')))
  cases r with
  | none => exact wpAny_pure h₁
  | some v =>
    refine wpAny_bind (wpAny_of_eq (ht v) ?_)
    exact wpAny_bind (wpAny_mono h₁ (fun _ s₂ h₂ => wpAny_bind (wpAny_bind (wpAny_mono h₂ (fun x s₃ h₃ => wpAny_bind (wpAny_standAt (wpAny_bind (wpAny_mono h₃
      (fun _ s₄ h₄ => wpAny_pure (wpAny_pure ⟨rfl, h₄⟩)) fun _ _ h' => h')))) fun _ _ h' => h'))) fun _ _ h' => h')
theorem compStart_set {R : Result → Shared → Prop} {elt target iter ifs rest scope pos it acc env}
    (h0 : codeAny (model prog w) A (.compLoop (.SetComp elt (⟨target, iter, ifs, 0⟩ :: rest) scope pos) 0 it acc env) R s)
    (h : wpAny (model prog w) A (pyIter it) (fun it' s' => codeAny (model prog w) A (.compLoop (.SetComp elt (⟨target, iter, ifs, 0⟩ :: rest) scope pos) 0 it' acc env) R s')
      (notedBy (model prog w) A env fun x s' => R (.error x) s') s) :
    codeAny (model prog w) A (.compStart (.SetComp elt (⟨target, iter, ifs, 0⟩ :: rest) scope pos) 0 it acc env) R s := by
  refine codeAny_of_tree ?_
  show wpAny _ _ ((compStart (.SetComp elt (⟨target, iter, ifs, 0⟩ :: rest) scope pos) 0 it acc env).onRaise (fun x => do noteFrame x env; standAt theWindowsPlace)) _ _ s
  refine wpAny_notedAt ?_
  unfold compStart
  show wpAny _ _ (ask >>= _) _ _ s
  refine wpAny_bind (wpAny_askSetting (wpAny_ite ?_))
  split
  · first
      | exact wpAny_bind (wpAny_pure (wpAny_pure (And.intro rfl h0)))
      | exact wpAny_pure (And.intro rfl h0)
  · first
      | exact wpAny_bind (wpAny_rule (wpAny_bind (wpAny_standAt (wpAny_bind (wpAny_mono h (fun it' s' h' => wpAny_pure (And.intro rfl h')) fun _ _ x => x)))))
      | (refine wpAny_bind (wpAny_rule ?_); show wpAny _ _ (standAt iter.pos >>= _) _ _ s; exact wpAny_bind (wpAny_standAt (wpAny_bind (wpAny_mono h (fun it' s' h' => wpAny_pure (And.intro rfl h')) fun _ _ x => x))))
/-- what a turn of a set's block comes to: True, and the ledger as it was -/
noncomputable def SetEnd (h₀ : Heap) (L : Addr) (m : Str → Option Value) (s₁ : Shared) (nx : List (Addr × Obj)) (y : Value) (s₂ : Shared) : Prop :=
  y = .bool true ∧ ∃ h' tk, s₂ = { s₁ with heap := h', toks := tk } ∧ Fr h₀ L h' m ∧ News h₀ L h' nx
noncomputable def SetTurn (prog : Program) (w : World) (A : Around) (h₀ : Heap) (L : Addr) (m : Str → Option Value) (env : Env) (elt : Expr) (x : Str) (scope : Scope) (cl : List (Str × Addr)) (news : List (Addr × Obj)) (vs : Array Value) : Prop :=
  ∀ (i : Nat) v I oI C oC D oD m₂ (s₁ : Shared) (E' : Value → Shared → Prop), vs[i]? = some v → NsObj oC m₂ → m₂ x = some v → Fr h₀ L s₁.heap m → News h₀ L s₁.heap ((I, oI) :: (C, oC) :: (D, oD) :: news) →
    wpAny (model prog w) A (eval elt (compEnvC scope cl C env)) (SetEnd h₀ L m s₁ ((I, oI) :: (C, oC) :: (D, oD) :: news)) E' s₁
theorem set_loop {R : Result → Shared → Prop} {elt iter : Expr} {x : Str} {px : Pos} {scope : Scope} {cl : List (Str × Addr)} {pos : Pos} {its : Array Value} {I D C ax : Addr} {news : List (Addr × Obj)} {mC : Str → Option Value}
    (hh : A.handled = none) (hkind : scope.kind = .function) (hx : scope.names.lookup x = some .local) (T : SetTurn prog w A h₀ L m env elt x scope cl news its) (hsz : its.size ≤ sizeLine) (hpos : 0 < its.size)
    (F : Fr h₀ L s.heap m) (N : News h₀ L s.heap ((D, so0 (ledOf w)) :: news)) (hn : s.heap.Ns C mC) (st : s.heap.IsTupleIter I ax 0) (S : (ax, tupT its) ∈ news)
    (hIC : I ≠ C) (hID : I ≠ D) (hCD : C ≠ D) (hIL : L ≠ I) (hCL : C ≠ L) (hI₀ : h₀.get? I = none) (hC₀ : h₀.get? C = none) (off : ∀ p ∈ news, p.1 ≠ I ∧ p.1 ≠ C ∧ p.1 ≠ D)
    (hR : ∀ h' tk mC', Fr h₀ L h' m → News h₀ L h' ((D, so1 (ledOf w)) :: news) → h'.Ns C mC' → R (.ok .next) { s with heap := h', toks := tk }) :
    codeAny (model prog w) A (.compLoop (.SetComp elt [⟨.Name x px, iter, [], 0⟩] scope pos) 0 (.ref I) (.ref D) (compEnvC scope cl C env)) R s := by
  have hDL : D ≠ L := (N _ (.head _)).2.1
  have hD₀ : h₀.get? D = none := (N _ (.head _)).2.2
  have hax : ax ≠ I := (off _ S).1
  have W := Walks.tuple (prog := prog) (w := w) hh I ax hax its
  refine compLoop_set
    (fun k s' => ∃ h' tk i m', s' = { s with heap := h', toks := tk } ∧ i ≤ its.size ∧ k = its.size + 1 - i ∧ h'.IsTupleIter I ax i ∧ Fr h₀ L h' m ∧ h'.Ns C m' ∧ News h₀ L h' ((D, if i = 0 then so0 (ledOf w) else so1 (ledOf w)) :: news)) ?_ (its.size + 1)
    ⟨s.heap, s.toks, 0, mC, rfl, Nat.zero_le _, rfl, st, F, hn, N⟩
  rintro k s' ⟨h', tk, i, m', rfl, hi, rfl, st', F', hn', N'⟩
  have hl' : h'.IsTuple ax its := ⟨_, N'.get (.tail _ S), rfl, _, rfl⟩
  by_cases hlt : i < its.size
  · refine W.item i _ _ _ hlt ⟨st', hl'⟩ fun v h₂ tk₂ hPv hst₂ hk₂ => ?_
    have hn₂ : h₂.Ns C m' := hn'.at' fun o e => hk₂ _ o (by simpa using Ne.symm hIC) e
    refine wpAny_assign_Name (wpAny_storeName_local (lookup_relabel_local hx) hn₂ (fun h₃ hn₃ hs₃ => ?_) (by simp [compEnvC, relabel, hkind]))
    have hs₃ : Heap.SameBut C h₂ h₃ := hs₃
    obtain ⟨oI, heI, rI⟩ := hst₂.1
    have heI₃ : h₃.get? I = some oI := hs₃.extBut _ _ hIC heI
    obtain ⟨oC, heC, hoC⟩ := ns_obj hn₃
    have heC : h₃.get? C = some oC := heC
    have F₃ : Fr h₀ L h₃ m := (fr_but F' hk₂ hIL hI₀).change hs₃ hCL hC₀
    have k3 : ∀ b o, b ≠ I → b ≠ C → h'.get? b = some o → h₃.get? b = some o := fun b o h1 h2 e => hs₃.extBut _ _ h2 (hk₂ b o (by simpa using h1) e)
    have N₃ : News h₀ L h₃ ((I, oI) :: (C, oC) :: (D, if i = 0 then so0 (ledOf w) else so1 (ledOf w)) :: news) := fun p hp => by
      rcases List.mem_cons.mp hp with rfl | hp
      · exact ⟨heI₃, Ne.symm hIL, hI₀⟩
      rcases List.mem_cons.mp hp with rfl | hp
      · exact ⟨heC, hCL, hC₀⟩
      rcases List.mem_cons.mp hp with rfl | hp
      · exact ⟨k3 _ _ hID.symm hCD.symm (N' _ (.head _)).1, hDL, hD₀⟩
      · exact ⟨k3 _ _ (off p hp).1 (off p hp).2.1 (N' p (.tail _ hp)).1, (N' p (.tail _ hp)).2⟩
    refine wpAny_mono (T i v I oI C oC D _ _ _ _ hPv hoC (by simp) F₃ N₃) (fun y s₄ h₄ => ?_) fun _ _ e => e
    obtain ⟨rfl, h₄, tk₄, rfl, F₄, N₄⟩ := h₄
    have zI := (N₄ (I, oI) (.head _)).1
    have zC := (N₄ (C, oC) (.tail _ (.head _))).1
    have zD := (N₄ (D, _) (.tail _ (.tail _ (.head _)))).1
    have fin : ∀ h₅ tk₅, h₅.get? D = some (so1 (ledOf w)) → Heap.SameBut D h₄ h₅ → ∃ mm, mm < its.size + 1 - i ∧ ∃ h' tk i m', ({ s with heap := h₅, toks := tk₅ } : Shared) = { s with heap := h', toks := tk } ∧ i ≤ its.size ∧ mm = its.size + 1 - i ∧ h'.IsTupleIter I ax i ∧ Fr h₀ L h' m ∧ h'.Ns C m' ∧ News h₀ L h' ((D, if i = 0 then so0 (ledOf w) else so1 (ledOf w)) :: news) := by
      intro h₅ tk₅ hD₅ hs₅
      refine ⟨its.size + 1 - (i + 1), by omega, h₅, tk₅, i + 1, _, rfl, hlt, rfl, ⟨oI, hs₅.extBut _ _ hID zI, rI⟩, F₄.change hs₅ hDL hD₀, (hoC.ns zC).sameBut hs₅ hCD, fun p hp => ?_⟩
      rw [if_neg (Nat.succ_ne_zero i)] at hp
      rcases List.mem_cons.mp hp with rfl | hp
      · exact ⟨hD₅, hDL, hD₀⟩
      · exact ⟨hs₅.extBut _ _ (off p hp).2.2 (N₄ p (.tail _ (.tail _ (.tail _ hp)))).1, (N₄ p (.tail _ (.tail _ (.tail _ hp)))).2⟩
    by_cases h0 : i = 0
    · rw [if_pos h0] at zD
      exact sb_add0 zD fun h₅ k₅ hD₅ hs₅ => fin h₅ k₅ hD₅ hs₅
    · rw [if_neg h0] at zD
      exact sb_add1 zD fun k₅ => fin h₄ k₅ zD (Heap.SameBut.refl ..)
  · obtain rfl : i = its.size := Nat.le_antisymm hi (Nat.not_lt.mp hlt)
    refine W.done _ _ _ ⟨st', hl'⟩ fun h₂ tk₂ hk₂ => ?_
    rw [if_neg (by omega)] at N'
    refine hR h₂ tk₂ m' (fr_but F' hk₂ hIL hI₀) (news_but N' hk₂ fun p hp => ?_) (hn'.at' fun o e => hk₂ _ o (by simpa using Ne.symm hIC) e)
    rcases List.mem_cons.mp hp with rfl | hp
    · exact Ne.symm hID
    · exact (off p hp).1
noncomputable def SetSrc (prog : Program) (w : World) (A : Around) (h₀ : Heap) (L : Addr) (m : Str → Option Value) (env : Env) (elt : Expr) (x : Str) (scope : Scope) (cl : List (Str × Addr)) (Q : Value → Shared → Prop) (xv : Value) (s₁ : Shared) : Prop :=
  ∃ ax vs news, xv = .ref ax ∧ A.handled = none ∧ Fr h₀ L s₁.heap m ∧ News h₀ L s₁.heap news ∧ (ax, tupT vs) ∈ news ∧ vs.size ≤ sizeLine ∧ 0 < vs.size ∧
      SetTurn prog w A h₀ L m env elt x scope cl news vs ∧
      ∀ D h' tk, Fr h₀ L h' m → News h₀ L h' ((D, so1 (ledOf w)) :: news) → Q (.ref D) { s₁ with heap := h', toks := tk }
theorem eval_SetComp_tup {elt iter : Expr} {x : Str} {px : Pos} {scope : Scope} {cl : List (Str × Addr)} {pos : Pos} {Q : Value → Shared → Prop} (F₀ : Fr h₀ L s.heap m)
    (hclos : closureFor scope env = pure cl) (hcell : ∀ z ∈ scope.names, z.2 ≠ .cell) (hkind : scope.kind = .function)
    (hnames : ∀ z ∈ scope.names, z.2 = .local → scope.names.lookup z.1 = some .local) (hx : scope.names.lookup x = some .local)
    (h : wpAny (model prog w) A (eval iter env) (SetSrc prog w A h₀ L m env elt x scope cl Q) E s)
    (hs : ∀ x, foldedSetIterable iter env x = pure x := by intro _; rfl) :
    wpAny (model prog w) A (eval (.SetComp elt [⟨.Name x px, iter, [], 0⟩] scope pos) env) Q E s := by
  show wpAny _ A (comprehension (.SetComp elt [⟨.Name x px, iter, [], 0⟩] scope pos) scope env _ (newSet (.type "set")) false (eval iter env)) _ _ s
  refine wpAny_comprehension_free (use := none) rfl hs hclos hkind hnames (wpAny_mono h (fun xv s₁ h₁ => ?_) fun _ _ e => e)
  obtain ⟨ax, its, news, rfl, hh, F, N, S, hsz, hpos, T, hQ⟩ := h₁
  have hl : s₁.heap.IsTuple ax its := ⟨_, N.get S, rfl, _, rfl⟩
  have hlt : ax < s₁.heap.objs.size := Heap.lt_size (N.get S)
  refine wpAny_pyIter_tuple hl ?_
  refine newSet_ (wpAny_newFunctionEnv hcell (by intro y hy; simp at hy) (fun h₁ hns₁ hsb₁ => ?_) hkind)
  dsimp only at hns₁ hsb₁ ⊢
  have up1 : ∀ b o, s₁.heap.get? b = some o → (s₁.heap.push { cls := .type "tuple_iterator", data := .fields #[.ref ax, .int 0 0] }).get? b = some o := fun b o e => Heap.get?_push_of_some _ e
  have st0 : (s₁.heap.push { cls := .type "tuple_iterator", data := .fields #[.ref ax, .int 0 0] }).IsTupleIter s₁.heap.objs.size ax 0 := ⟨_, Heap.get?_push_size _ rfl, rfl, rfl⟩
  have hne0 : ∀ b o, s₁.heap.get? b = some o → b < s₁.heap.objs.size := fun b o e => Heap.lt_size e
  have hI₀ : h₀.get? s₁.heap.objs.size = none := next_is_new F
  have hLI : L ≠ s₁.heap.objs.size := Nat.ne_of_lt F.ns.lt
  have z1 : (s₁.heap.push { cls := .type "tuple_iterator", data := .fields #[.ref ax, .int 0 0] }).objs.size = s₁.heap.objs.size + 1 := Heap.size_push ..
  generalize s₁.heap.push { cls := .type "tuple_iterator", data := .fields #[.ref ax, .int 0 0] } = H1 at *
  have F1 := F.keeps up1
  have N1 := News.keeps N up1
  have up2 : ∀ b o, H1.get? b = some o → (H1.push (so0 (ledOf w))).get? b = some o := fun b o e => Heap.get?_push_of_some _ e
  have hD2 : (H1.push (so0 (ledOf w))).get? H1.objs.size = some (so0 (ledOf w)) := Heap.get?_push_size _ rfl
  have z2 : (H1.push (so0 (ledOf w))).objs.size = s₁.heap.objs.size + 2 := by rw [Heap.size_push, z1]
  have hDL : L ≠ H1.objs.size := Nat.ne_of_lt F1.ns.lt
  have hD₀ : h₀.get? H1.objs.size = none := next_is_new F1
  have F2 := F1.keeps up2
  have N2 := News.keeps N1 up2
  generalize H1.push (so0 (ledOf w)) = H2 at *
  have hCL : L ≠ H2.objs.size := Nat.ne_of_lt F2.ns.lt
  have hC₀ : h₀.get? H2.objs.size = none := next_is_new F2
  have hk₁ : ∀ b o, H2.get? b = some o → h₁.get? b = some o := fun b o e => hsb₁.extBut b o (Nat.ne_of_lt (Heap.lt_size e)) (Heap.get?_push_of_some _ e)
  have hlt2 : ∀ b o, s₁.heap.get? b = some o → b < s₁.heap.objs.size := hne0
  have hloop : ∀ s₃ : Shared, s₃ = { s₁ with heap := h₁, toks := s₁.toks + ([] : List (Str × Value)).length } → codeAny (model prog w) A (.compLoop (.SetComp elt [⟨.Name x px, iter, [], 0⟩] scope pos) 0 (.ref s₁.heap.objs.size) (.ref H1.objs.size) (compEnvC scope cl H2.objs.size env)) (compPost (model prog w) A E none Q (.ref H1.objs.size) H2.objs.size) s₃ := by
    rintro s₃ rfl
    refine set_loop (mC := _) hh hkind hx T hsz hpos (F2.keeps hk₁) ?_ hns₁ ?_ S ?_ ?_ ?_ hLI hCL.symm hI₀ hC₀ ?_ ?_
    · intro p hp
      rcases List.mem_cons.mp hp with rfl | hp
      · exact ⟨hk₁ _ _ hD2, hDL.symm, hD₀⟩
      · exact ⟨hk₁ _ _ (N2 p hp).1, (N2 p hp).2⟩
    · exact (st0.at fun o e => hk₁ _ _ (up2 _ _ e))
    · rw [z2]; exact Nat.ne_of_lt (Nat.lt_add_of_pos_right (by decide))
    · rw [z1]; exact Nat.ne_of_lt (Nat.lt_succ_self _)
    · rw [z1, z2]; exact Nat.ne_of_gt (Nat.lt_succ_self _)
    · intro p hp
      have := hlt2 _ _ (N p hp).1
      rw [z1, z2]
      exact ⟨Nat.ne_of_lt this, Nat.ne_of_lt (Nat.lt_add_right 2 this), Nat.ne_of_lt (Nat.lt_succ_of_lt this)⟩
    · intro h' tk mC' F' N' hn'
      refine ⟨mC', hn', fun h'' hs'' => ?_⟩
      refine hQ _ h'' tk (F'.change hs'' hCL.symm hC₀) (fun p hp => ⟨hs''.extBut _ _ ?_ (N' p hp).1, (N' p hp).2⟩)
      rcases List.mem_cons.mp hp with rfl | hp
      · rw [z1, z2]; exact Nat.ne_of_lt (Nat.lt_succ_self _)
      · have := hlt2 _ _ (N p hp).1
        rw [z2]; exact Nat.ne_of_lt (Nat.lt_add_right 2 this)
  refine compStart_set (hloop _ rfl) (wpAny_pyIter_tupleiter (st0.at fun o e => hk₁ _ _ (up2 _ _ e)) (hloop _ rfl))
end
end

section
set_option Elab.async false
section
variable {prog : Program} {w : World} {A : Around} {E : Value → Shared → Prop} {s : Shared} {h₀ : Heap} {L : Addr} {m : Str → Option Value} {news : List (Addr × Obj)} {value slice : Expr} {t : Tok}
theorem truthy_tt {a : Addr} {vs : List Value} {Q : Bool → Shared → Prop} (N : News h₀ L s.heap news) (hm : (a, tupT vs.toArray) ∈ news) (hne : vs ≠ []) (hz : vs.length ≤ 1000000) (hq : Q true { s with toks := s.toks + 1 + 1 }) :
    wpAny (model prog w) A (truthy (.ref a)) Q E s :=
  truthy_tuple ⟨_, N.get hm, rfl, _, rfl⟩ (by simp; omega) (by
    have : (!vs.toArray.isEmpty) = true := by simp [hne]
    rw [this]; exact hq)
theorem item_t {a : Addr} {vs : List Value} {v : Value} {Q : Value → Shared → Prop} (N : News h₀ L s.heap news) (hm : (a, tupT vs.toArray) ∈ news) (e : vs[0]? = some v) (hz : vs.length ≤ 1000000) (hq : Q v s)
    (hs : subscripted slice false (.ref a) (.int 0 t) = operate [.ref a, .int 0 t] (getItem (.ref a) (.int 0 t)) := by with_unfolding_all rfl) (hg : ∀ r, letTemporaryGo value (.ref a) r = pure () := by intro _; with_unfolding_all rfl) :
    wpAny (model prog w) A (subscriptTail value slice (.ref a) (.int 0 t)) Q E s := by
  refine item_tupleL (j := 0) ⟨_, N.get hm, rfl, _, rfl⟩ (by decide) (by decide) ?_ e hq hs hg
  have : 0 < vs.length := (List.getElem?_eq_some_iff.mp e).1
  unfold seqIndex?
  simp [this]
end
end

section
set_option Elab.async false
section
variable {prog : Program} {w : World} {A : Around} {E : Value → Shared → Prop} {s : Shared} {env : Env} {h₀ : Heap}
noncomputable def EnumAt (prog : Program) (w : World) (A : Around) (env : Env) (target : Expr) (body : List Stmt) (Q : Flow → Shared → Prop) (E : Value → Shared → Prop) (xv : Value) (s₁ : Shared) : Prop :=
  wpAny (model prog w) A (pyIter xv) (fun it s₂ => codeAny (model prog w) A (.forLoop target it body [] env) (fun r s' => match r with | .ok f => Q f s' | .error e => cameBackBy (model prog w) A env E e s') s₂) E s₁
theorem For_enum {Q : Flow → Shared → Prop} {target iter : Expr} {body : List Stmt} {pos : Pos} (h : wpAny (model prog w) A (eval iter env) (EnumAt prog w A env target body Q E) E s)
    (hs : ∀ x, foldedSetIterable iter env x = pure x) : wpAny (model prog w) A (exec (.For target iter body [] pos) env) Q E s :=
  wpAny_For h hs
/-- the two names bound -/
noncomputable def bnd2 (m : Str → Option Value) (xi xc : Str) (ui uc : Option Value) : Str → Option Value := fun y => if y = xc then uc else if y = xi then ui else m y
theorem bnd2_id (m : Str → Option Value) (xi xc : Str) : bnd2 m xi xc (m xi) (m xc) = m := by
  funext y; unfold bnd2; by_cases h1 : y = xc
  · rw [if_pos h1, h1]
  · rw [if_neg h1]; by_cases h2 : y = xi
    · rw [if_pos h2, h2]
    · rw [if_neg h2]
theorem enum_call {Q : Flow → Shared → Prop} {xi xc : Str} {pi pv pt : Pos} {x1 : Nat} {body : List Stmt} {l : Addr} {vs : List Value} {n : Nat} {m : Str → Option Value} {news : List (Addr × Obj)}
    (hh : A.handled = none) (hxi : env.kindOf xi = some .local) (hxv : env.kindOf xc = some .local)
    (hp : (env.scope.kind == .class || (env.scope.kind == .module && env.locals != env.globals)) = false) (hE : PassesOwn (model prog w) A env E)
    (F : Fr h₀ env.locals s.heap m) (N : News h₀ env.locals s.heap news) (hl : (l, W.listOf vs.toArray n) ∈ news) (J : Nat → Prop) (h0 : J 0)
    (turn : ∀ (i : Nat) v t h tk, vs[i]? = some v → J i → Fr h₀ env.locals h (bnd2 m xi xc (some (.int (i : Nat) t)) (some v)) → News h₀ env.locals h news →
      wpAny (model prog w) A (execs body env) (fun f s₂ => match f with | .ret v => Q (.ret v) s₂ | .brk => Q .next s₂ | _ => J (i + 1) ∧ Keeps { s with heap := h, toks := tk } s₂) E { s with heap := h, toks := tk })
    (done : ∀ ui uc h tk, J vs.length → Fr h₀ env.locals h (bnd2 m xi xc ui uc) → News h₀ env.locals h news → Q .next { s with heap := h, toks := tk }) :
    wpAny (model prog w) A (call (.type "enumerate") [.ref l]) (EnumAt prog w A env (.Tuple [.Name xi pi, .Name xc pv] x1 pt) body Q E) E s := by
  refine call_enumerate_list (news_isList N hl) fun h' he hit hsz hk => ?_
  have hlt : ∀ {b o}, s.heap.get? b = some o → b < s.heap.objs.size := fun e => Heap.lt_size e
  have F0 := F.keeps hk
  have N0 := News.keeps N hk
  have hLlt : env.locals < s.heap.objs.size := F.ns.lt
  have hIt₀ : h₀.get? s.heap.objs.size = none := next_is_new F
  have hE₀ : h₀.get? (s.heap.objs.size + 1) = none := by
    cases e : h₀.get? (s.heap.objs.size + 1) with
    | none => rfl
    | some o => exact absurd (hlt (F.keep _ _ e)) (Nat.not_lt.mpr (Nat.le_succ _))
  have offn : ∀ p ∈ news, p.1 < s.heap.objs.size := fun p hp => hlt (N p hp).1
  generalize hI : s.heap.objs.size = it at he hit hsz hLlt hIt₀ hE₀ offn ⊢
  have hei : it + 1 ≠ it := Nat.succ_ne_self it
  have heL : it + 1 ≠ env.locals := Nat.ne_of_gt (Nat.lt_succ_of_lt hLlt)
  have hiL : it ≠ env.locals := Nat.ne_of_gt hLlt
  have off : ∀ p ∈ news, p.1 ≠ it + 1 ∧ p.1 ≠ it ∧ p.1 ≠ env.locals := fun p hp => ⟨Nat.ne_of_lt (Nat.lt_succ_of_lt (offn p hp)), Nat.ne_of_lt (offn p hp), (N p hp).2.1⟩
  generalize hEe : it + 1 = e at he hE₀ hei heL off ⊢
  show wpAny _ _ (pyIter (.ref e)) _ _ _
  refine wpAny_pyIter_enum he ?_
  refine codeAny_forLoop_any
    (fun k s' => ∃ h' tk i ui uc old, s' = { s with heap := h', toks := tk } ∧ IsEnum h' e it ((i : Nat) : Int) old ∧ h'.IsListIter it l i ∧ Fr h₀ env.locals h' (bnd2 m xi xc ui uc) ∧ News h₀ env.locals h' news ∧ J i ∧ i ≤ vs.length ∧ k = vs.length + 1 - i) ?_ (vs.length + 1)
    ⟨h', s.toks, 0, m xi, m xc, .none, rfl, he, hit, by rw [bnd2_id]; exact F0, N0, h0, Nat.zero_le _, rfl⟩
  rintro k s' ⟨H, tk, i, ui, uc, old, rfl, he', hit', F', N', hJ, hi, rfl⟩
  have hl' : H.IsList l vs.toArray := news_isList (s := { s with heap := H }) N' hl
  have lne := off _ hl
  cases hv : vs[i]? with
  | none =>
    have hi' : i = vs.length := Nat.le_antisymm hi (by simpa using hv)
    subst hi'
    refine wpAny_pyNext_enum_end hh he' hit' hl' (by simp) fun h₁ he₁ => wpAny_execs_nil ?_
    refine done ui uc h₁ tk hJ ⟨F'.ns.extBut he₁ hiL.symm, fun b o e => he₁ b o (fun h => by rw [h, hIt₀] at e; cases e) (F'.keep b o e), F'.above⟩ fun p hp => ⟨he₁ _ _ (off p hp).2.1 (N' p hp).1, (N' p hp).2⟩
  | some v =>
    have hlt' : i < vs.length := (List.getElem?_eq_some_iff.mp hv).1
    have heH : e < H.objs.size := Heap.lt_size he'
    have hLH : env.locals < H.objs.size := F'.ns.lt
    obtain ⟨oi, hoi, roi⟩ := id hit'
    have hiH : it < H.objs.size := Heap.lt_size hoi
    refine wpAny_pyNext_enum_item he' hit' hl' (x := v) (by simpa using hv) hei fun h₁ heo hit₁ ht₁ hz₁ hk₁ => ?_
    refine wpAny_letOwnedTupleGo_enum heo fun h₂ he₂ hs₂ => ?_
    replace hs₂ : Heap.SameBut e h₁ h₂ := hs₂
    have ht₂ : h₂.IsTuple H.objs.size #[.int i tk, v] := ⟨_, (hs₂.2 _ (Nat.ne_of_gt heH)).trans ht₁, rfl, _, rfl⟩
    have hz₂ : h₂.objs.size = H.objs.size + 1 := hs₂.1.trans hz₁
    refine wpAny_assign_Tuple hh ht₂ rfl rfl fun h₃ hx₃ => ?_
    replace hx₃ : Heap.ExtBut h₂.objs.size h₂ h₃ := hx₃
    have old₃ : ∀ b o, b < H.objs.size → h₂.get? b = some o → h₃.get? b = some o := fun b o hb x => hx₃ b o (by rw [hz₂]; exact Nat.ne_of_lt (Nat.lt_succ_of_lt hb)) x
    have k3 : ∀ b o, b ≠ e → b ≠ it → H.get? b = some o → h₃.get? b = some o := fun b o h1 h2 x => old₃ b o (Heap.lt_size x) (hs₂.extBut b o h1 (hk₁ b o h1 h2 x))
    have he₃ := old₃ e _ heH he₂
    have hit₃ : h₃.IsListIter it l (i + 1) := (hit₁.extBut hs₂.extBut (Ne.symm hei)).at fun o x => old₃ it o hiH x
    have F₃ : Fr h₀ env.locals h₃ (bnd2 m xi xc ui uc) := ⟨F'.ns.at' fun o x => k3 _ _ heL.symm hiL.symm x, fun b o x => k3 b o (fun h => by rw [h, hE₀] at x; cases x) (fun h => by rw [h, hIt₀] at x; cases x) (F'.keep b o x), F'.above⟩
    have N₃ : News h₀ env.locals h₃ news := fun p hp => ⟨k3 _ _ (off p hp).1 (off p hp).2.1 (N' p hp).1, (N' p hp).2⟩
    show wpAny _ A (do holding [v] (assign (.Name xi pi) env (.int i tk)); do holding [] (assign (.Name xc pv) env v); pure ()) _ _ _
    refine wpAny_bind (wpAny_holding (wpAny_assign_Name (wpAny_storeName_local hxi F₃.ns (fun h₄ hn₄ hs₄ => ?_) hp)))
    replace hs₄ : Heap.SameBut env.locals h₃ h₄ := hs₄
    refine wpAny_bind (wpAny_holding (wpAny_assign_Name (wpAny_storeName_local hxv hn₄ (fun h₅ hn₅ hs₅ => wpAny_pure ?_) hp)))
    replace hs₅ : Heap.SameBut env.locals h₄ h₅ := hs₅
    have hs : Heap.SameBut env.locals h₃ h₅ := hs₄.trans hs₅
    have hL₀ : h₀.get? env.locals = none := Heap.get?_none_of_le F'.above
    have F₅ : Fr h₀ env.locals h₅ (bnd2 m xi xc (some (.int i tk)) (some v)) := by
      refine ⟨?_, fun b o x => hs.extBut b o (fun h => by rw [h, hL₀] at x; cases x) (F₃.keep b o x), F'.above⟩
      have e : (bnd2 m xi xc (some (.int i tk)) (some v)) = fun y => if y = xc then some v else if y = xi then some (.int i tk) else bnd2 m xi xc ui uc y := by
        funext y; unfold bnd2
        by_cases h1 : y = xc
        · rw [if_pos h1, if_pos h1]
        · rw [if_neg h1, if_neg h1, if_neg h1]
          by_cases h2 : y = xi
          · rw [if_pos h2, if_pos h2]
          · rw [if_neg h2, if_neg h2, if_neg h2]
      rw [e]; exact hn₅
    have N₅ : News h₀ env.locals h₅ news := fun p hp => ⟨hs.extBut _ _ (off p hp).2.2 (N₃ p hp).1, (N₃ p hp).2⟩
    have he₅ : IsEnum h₅ e it (((i + 1 : Nat)) : Int) v := by
      have : ((i + 1 : Nat) : Int) = (i : Int) + 1 := by push_cast; rfl
      rw [this]; exact hs.extBut _ _ heL he₃
    have hit₅ : h₅.IsListIter it l (i + 1) := hit₃.extBut hs.extBut hiL
    refine wpAny_passesOwn hE (wpAny_mono (turn i v tk h₅ _ hv hJ F₅ N₅) (fun f s₃ h₆ => ?_) fun _ _ x => x)
    have nxt : ∀ tk0, J (i + 1) ∧ Keeps { s with heap := h₅, toks := tk0 } s₃ → ∃ mm, mm < vs.length + 1 - i ∧ ∃ h' tk i ui uc old, s₃ = { s with heap := h', toks := tk } ∧ IsEnum h' e it ((i : Nat) : Int) old ∧ h'.IsListIter it l i ∧ Fr h₀ env.locals h' (bnd2 m xi xc ui uc) ∧ News h₀ env.locals h' news ∧ J i ∧ i ≤ vs.length ∧ mm = vs.length + 1 - i := by
      rintro tk0 ⟨hJ', hh₆, tk₆, e₆, k₆⟩
      exact ⟨vs.length + 1 - (i + 1), by omega, hh₆, tk₆, i + 1, _, _, v, e₆, k₆ _ _ he₅, hit₅.at fun o x => k₆ _ _ x, F₅.keeps k₆, News.keeps N₅ k₆, hJ', hlt', rfl⟩
    cases f with
    | ret v => exact h₆
    | brk => exact h₆
    | next => exact nxt _ h₆
    | cont => exact nxt _ h₆
end
theorem try_calm {prog : Program} {w : World} {A : Around} {E : Value → Shared → Prop} {s : Shared} {env : Env} {body orelse : List Stmt} {h₀ : ExceptHandler} {hs : List ExceptHandler} {pos : Pos} {Q : Flow → Shared → Prop}
    (h : wpAny (model prog w) A (execs body env) (fun f s₁ => match f with | .next => wpAny (model prog w) A (execs orelse env) Q E s₁ | f => Q f s₁) (fun _ _ => False) s) :
    wpAny (model prog w) A (exec (.Try body (h₀ :: hs) orelse [] pos) env) Q E s :=
  wpAny_Try_except (wpAny_mono h (fun _ _ x => x) fun _ _ x => x.elim)
/-- the parts of a path told from the root -/
noncomputable def splitW (w : List (List Nat)) : List (List Nat) := [] :: (if w = [] then [[]] else w)
theorem jn_splitW (w : List (List Nat)) : 47 :: jn 47 w = jn 47 (splitW w) := by
  unfold splitW
  by_cases h : w = []
  · rw [if_pos h, h]; rfl
  · rw [if_neg h]
    cases w with
    | nil => exact absurd rfl h
    | cons a r => rfl
theorem split_path {w : List (List Nat)} (hw : Ok w) : Txt.split (tx (47 :: jn 47 w)) (Str.ofString "/") = (splitW w).map tx := by
  rw [jn_splitW, lit_slash]
  refine split_tx 47 (by simp [splitW]) fun q hq => ?_
  unfold splitW at hq
  rcases List.mem_cons.mp hq with rfl | hq
  · simp
  · split at hq
    · rw [List.mem_singleton.mp hq]; simp
    · exact (hw.free q hq).2.2
theorem Ok.len {w : List (List Nat)} (hw : Ok w) : (tx (47 :: jn 47 w)).length ≤ 1000000 := by
  have := jn_len 47 w
  have := hw.tot
  rw [tx_len, List.length_cons]; omega
theorem Rows.snoc {tl : List (Addr × Obj)} {rs : List Addr} {wss : List (List (List Nat))} {a : Addr} {vs : List Value} {k : Nat} {w : List (List Nat)} (h : Rows tl rs wss) (hv : StrsAre vs (w.map tx)) :
    Rows ((a, W.listOf vs.toArray k) :: tl) (rs ++ [a]) (wss ++ [w]) := by
  refine ⟨by simp [h.1], fun i hi hj => ?_⟩
  by_cases hlt : i < rs.length
  · obtain ⟨v, k', hm, hs⟩ := h.2 i hlt (h.1 ▸ hlt)
    refine ⟨v, k', ?_, ?_⟩
    · rw [List.getElem_append_left hlt]; exact .tail _ hm
    · rw [List.getElem_append_left (h.1 ▸ hlt)]; exact hs
  · have e : i = rs.length := by simp at hi; omega
    subst e
    refine ⟨vs, k, ?_, ?_⟩
    · rw [List.getElem_append_right (Nat.le_refl _)]; simp
    · rw [List.getElem_append_right (by rw [h.1]; exact Nat.le_refl _)]; simpa [h.1] using hv
theorem Rows.nil (tl : List (Addr × Obj)) : Rows tl [] [] := ⟨rfl, fun i hi => absurd hi (Nat.not_lt_zero _)⟩
theorem strs_paths {vs : List Value} {ws : List (List (List Nat))} (hv : StrsAre vs (ws.map fun w => tx (47 :: jn 47 w))) {i : Nat} {v : Value} (e : vs[i]? = some v) : ∃ w t, ws[i]? = some w ∧ v = .str (tx (47 :: jn 47 w)) t := by
  obtain ⟨y, t, hy, rfl⟩ := strsAre_get hv e
  rw [List.getElem?_map] at hy
  cases hw : ws[i]? with
  | none => rw [hw] at hy; cases hy
  | some w => rw [hw] at hy; cases hy; exact ⟨w, t, rfl, rfl⟩
theorem end_new {h₀ h' : Heap} {L I C D a : Addr} {m : Str → Option Value} {s₁ : Shared} {oI oC oD o : Obj} {S : List (Addr × Obj) → Prop} {rest : Value → List (Addr × Obj) → Prop} {y : Value} {tk : Nat} (cs tl : List (Addr × Obj))
    (F : Fr h₀ L h' m) (N : News h₀ L h' ((a, o) :: (I, oI) :: (C, oC) :: (D, oD) :: (cs ++ tl))) (hlt : ∀ p ∈ (I, oI) :: (C, oC) :: (D, oD) :: (cs ++ tl), p.1 < a) (off : LCg.Off3 I C D (cs ++ tl)) (hS : S (cs ++ (a, o) :: tl)) (r : rest y (cs ++ (a, o) :: tl)) :
    LCg.CompEnd h₀ L m s₁ I oI C oC D oD S rest y { s₁ with heap := h', toks := tk } := by
  have hI : I < a := hlt (I, oI) (.head _)
  have hC : C < a := hlt (C, oC) (.tail _ (.head _))
  have hD : D < a := hlt (D, oD) (.tail _ (.tail _ (.head _)))
  refine LCg.CompEnd.intro F N (cs ++ (a, o) :: tl) (fun p hp => ?_) (LCg.Off3.of fun p hp => ?_) hS r
  · rcases List.mem_cons.mp hp with rfl | hp
    · exact .tail _ (.head _)
    rcases List.mem_cons.mp hp with rfl | hp
    · exact .tail _ (.tail _ (.head _))
    rcases List.mem_cons.mp hp with rfl | hp
    · exact .tail _ (.tail _ (.tail _ (.head _)))
    rcases List.mem_append.mp hp with hp | hp
    · exact .tail _ (.tail _ (.tail _ (.tail _ (List.mem_append.mpr (.inl hp)))))
    rcases List.mem_cons.mp hp with rfl | hp
    · exact .head _
    · exact .tail _ (.tail _ (.tail _ (.tail _ (List.mem_append.mpr (.inr hp)))))
  · rcases List.mem_append.mp hp with hp | hp
    · exact off.mem p (List.mem_append.mpr (.inl hp))
    rcases List.mem_cons.mp hp with rfl | hp
    · exact ⟨Nat.ne_of_gt hI, Nat.ne_of_gt hC, Nat.ne_of_gt hD⟩
    · exact off.mem p (List.mem_append.mpr (.inr hp))
theorem take_snoc {α β : Type} {l : List α} {i : Nat} {a : α} (f : α → β) (h : l[i]? = some a) : (l.take (i + 1)).map f = (l.take i).map f ++ [f a] := by
  rw [List.take_add_one, h]; simp
section
variable {prog : Program} {w : World} {A : Around} {E : Value → Shared → Prop} {s : Shared} {env : Env} {h₀ : Heap} {m : Str → Option Value}
theorem assign_sb {x : Str} {px tpos : Pos} {k : Nat} {D : Addr} {news : List (Addr × Obj)} {Q : Unit → Shared → Prop} (hh : A.handled = none) (hx : env.kindOf x = some .local)
    (hp : (env.scope.kind == .class || (env.scope.kind == .module && env.locals != env.globals)) = false)
    (F : Fr h₀ env.locals s.heap m) (N : News h₀ env.locals s.heap ((D, so1 (ledOf w)) :: news))
    (h : ∀ h' tk, Fr h₀ env.locals h' (fun z => if z = x then some (.bool true) else m z) → News h₀ env.locals h' news → Q () { s with heap := h', toks := tk }) :
    wpAny (model prog w) A (assign (.Tuple [.Name x px] k tpos) env (.ref D)) Q E s := by
  rw [arm_assign_Tuple]
  refine wpAny_bind (wpAny_standAt ?_)
  unfold unpack
  show wpAny _ _ (holding [Value.ref D] (unpackItems (.ref D) 1 none) >>= fun vs => assignInOrder [assign (.Name x px) env] vs) _ _ _
  refine wpAny_bind (wpAny_holding (unpack_sb hh (N.get (.head _)) fun h₁ hk => ?_))
  have F1 := F.keeps hk
  have N1 := News.keeps N hk
  show wpAny _ _ (do holding [] (assign (.Name x px) env (.bool true)); assignInOrder [] []) _ _ _
  refine wpAny_bind (wpAny_holding (wpAny_assign_Name (wpAny_storeName_local hx F1.ns (fun h₂ hn₂ hs₂ => wpAny_pure ?_) hp)))
  replace hs₂ : Heap.SameBut env.locals h₁ h₂ := hs₂
  have hL₀ : h₀.get? env.locals = none := Heap.get?_none_of_le F.above
  exact h h₂ _ ⟨hn₂, fun b o e => hs₂.extBut b o (fun q => by rw [q, hL₀] at e; cases e) (F1.keep b o e), F.above⟩ fun p hp => ⟨hs₂.extBut _ _ (N1 p (.tail _ hp)).2.1 (N1 p (.tail _ hp)).1, (N1 p (.tail _ hp)).2⟩
end
/-- what the filter of commonpath keeps -/
noncomputable def kept (q : List Nat) : Bool := !(q == []) && !(q == [46])
theorem kept_splitW {w : List (List Nat)} (hw : Ok w) : (splitW w).filter kept = w := by
  unfold splitW
  have h1 : kept [] = false := rfl
  rw [List.filter_cons, h1]
  by_cases h : w = []
  · rw [if_pos h, h]; rfl
  · rw [if_neg h]
    simp only [Bool.false_eq_true, if_false]
    refine List.filter_eq_self.mpr fun q hq => ?_
    have := hw.free q hq
    simp [kept, this.1, this.2.1]
theorem splitW_mem {w : List (List Nat)} (hw : Ok w) {q : List Nat} (hq : q ∈ splitW w) : q = [] ∨ (q ≠ [] ∧ q ≠ [46] ∧ q.length ≤ 1000000) := by
  unfold splitW at hq
  rcases List.mem_cons.mp hq with h | hq
  · exact .inl h
  · split at hq
    · exact .inl (List.mem_singleton.mp hq)
    · have := hw.free q hq
      have h2 : q.length ≤ (w.map (·.length)).sum := le_sum (List.mem_map_of_mem hq)
      have := hw.tot
      exact .inr ⟨(hw.free q hq).1, (hw.free q hq).2.1, by omega⟩
theorem splitW_len {w : List (List Nat)} (hw : Ok w) : (splitW w).length ≤ 1000000 := by
  have := hw.tot
  unfold splitW
  split <;> simp <;> omega
theorem filter_snoc {p : List Nat → Bool} {l : List (List Nat)} {i : Nat} {a : List Nat} (h : l[i]? = some a) : (l.take (i + 1)).filter p = (l.take i).filter p ++ (if p a then [a] else []) := by
  rw [List.take_add_one, h, List.filter_append]
  simp [List.filter_cons]
theorem Rows.get {tl : List (Addr × Obj)} {rs : List Addr} {wss : List (List (List Nat))} (h : Rows tl rs wss) {i : Nat} {v : Value} (hv : (rs.map Value.ref)[i]? = some v) : ∃ r w vs k, rs[i]? = some r ∧ v = .ref r ∧ wss[i]? = some w ∧ (r, W.listOf (List.toArray vs) k) ∈ tl ∧ StrsAre vs (w.map tx) := by
  rw [List.getElem?_map] at hv
  cases hr : rs[i]? with
  | none => rw [hr] at hv; cases hv
  | some r =>
    rw [hr] at hv; cases hv
    have hi := (List.getElem?_eq_some_iff.mp hr).1
    obtain ⟨vs, k, hm, hs⟩ := h.2 i hi (h.1 ▸ hi)
    have e : rs[i] = r := (List.getElem?_eq_some_iff.mp hr).2
    rw [e] at hm
    exact ⟨r, wss[i]'(h.1 ▸ hi), vs, k, rfl, rfl, by rw [List.getElem?_eq_getElem], hm, hs⟩
theorem end_same {h₀ h' : Heap} {L I C D : Addr} {m : Str → Option Value} {s₁ : Shared} {oI oC oD : Obj} {S : List (Addr × Obj) → Prop} {rest : Value → List (Addr × Obj) → Prop} {y : Value} {tk : Nat} (nw : List (Addr × Obj))
    (F : Fr h₀ L h' m) (N : News h₀ L h' ((I, oI) :: (C, oC) :: (D, oD) :: nw)) (off : LCg.Off3 I C D nw) (hS : S nw) (r : rest y nw) :
    LCg.CompEnd h₀ L m s₁ I oI C oC D oD S rest y { s₁ with heap := h', toks := tk } :=
  LCg.CompEnd.intro F N nw (fun p hp => hp) off hS r
theorem end_new2 {h₀ h' : Heap} {L I C D a : Addr} {m : Str → Option Value} {s₁ : Shared} {oI oC oD o : Obj} {S : List (Addr × Obj) → Prop} {rest : Value → List (Addr × Obj) → Prop} {y : Value} {tk : Nat} (cs tl : List (Addr × Obj))
    (F : Fr h₀ L h' m) (N : News h₀ L h' ((a, o) :: (I, oI) :: (C, oC) :: (D, oD) :: (cs ++ tl))) (hlt : LCg.Off1 a ((I, oI) :: (C, oC) :: (D, oD) :: (cs ++ tl))) (off : LCg.Off3 I C D (cs ++ tl)) (hS : S (cs ++ (a, o) :: tl)) (r : rest y (cs ++ (a, o) :: tl)) :
    LCg.CompEnd h₀ L m s₁ I oI C oC D oD S rest y { s₁ with heap := h', toks := tk } := by
  have hI : I ≠ a := hlt.1
  have hC : C ≠ a := hlt.2.1
  have hD : D ≠ a := hlt.2.2.1
  refine LCg.CompEnd.intro F N (cs ++ (a, o) :: tl) (fun p hp => ?_) (LCg.Off3.of fun p hp => ?_) hS r
  · rcases List.mem_cons.mp hp with rfl | hp
    · exact .tail _ (.head _)
    rcases List.mem_cons.mp hp with rfl | hp
    · exact .tail _ (.tail _ (.head _))
    rcases List.mem_cons.mp hp with rfl | hp
    · exact .tail _ (.tail _ (.tail _ (.head _)))
    rcases List.mem_append.mp hp with hp | hp
    · exact .tail _ (.tail _ (.tail _ (.tail _ (List.mem_append.mpr (.inl hp)))))
    rcases List.mem_cons.mp hp with rfl | hp
    · exact .head _
    · exact .tail _ (.tail _ (.tail _ (.tail _ (List.mem_append.mpr (.inr hp)))))
  · rcases List.mem_append.mp hp with hp | hp
    · exact off.mem p (List.mem_append.mpr (.inl hp))
    rcases List.mem_cons.mp hp with rfl | hp
    · exact ⟨hI.symm, hC.symm, hD.symm⟩
    · exact off.mem p (List.mem_append.mpr (.inr hp))
end

section
set_option Elab.async false
theorem lt_irr (a : List Nat) : ¬ a < a := List.lt_irrefl a
theorem ltW_irr : ∀ a, ltW a a = false
  | [] => rfl
  | a :: r => by unfold ltW; rw [if_pos rfl]; exact ltW_irr r
theorem ltW_trans : ∀ {a b c}, ltW a b = true → ltW b c = true → ltW a c = true
  | [], [], _, h, _ => by cases h
  | [], _ :: _, [], _, h => by cases h
  | [], _ :: _, _ :: _, _, _ => rfl
  | _ :: _, [], _, h, _ => by cases h
  | _ :: _, _ :: _, [], _, h => by cases h
  | a :: r, b :: s, c :: t, h1, h2 => by
    unfold ltW at h1 h2 ⊢
    by_cases hab : a = b
    · subst hab
      rw [if_pos rfl] at h1
      by_cases hac : a = c
      · subst hac; rw [if_pos rfl] at h2 ⊢; exact ltW_trans h1 h2
      · rw [if_neg hac] at h2 ⊢; exact h2
    · rw [if_neg hab] at h1
      by_cases hbc : b = c
      · subst hbc; rw [if_neg hab]; exact h1
      · rw [if_neg hbc] at h2
        have l1 : a < b := by simpa using h1
        have l2 : b < c := by simpa using h2
        have l3 : a < c := List.lt_trans l1 l2
        rw [if_neg (fun e => lt_irr a (by rw [e] at l3 ⊢; exact l3))]
        simpa using l3
theorem best_le (bt : Nat → Nat → Bool) : ∀ n, argBest bt n ≤ n
  | 0 => Nat.le_refl _
  | n + 1 => by
    have := best_le bt n
    show (if bt (n + 1) (argBest bt n) then n + 1 else argBest bt n) ≤ n + 1
    split <;> omega
theorem best_min (bt : Nat → Nat → Bool) (irr : ∀ i, bt i i = false) (tr : ∀ i j k, bt i j = true → bt j k = true → bt i k = true) : ∀ n j, j ≤ n → bt j (argBest bt n) = false
  | 0, j, h => by rw [Nat.le_zero.mp h]; exact irr 0
  | n + 1, j, h => by
    show bt j (if bt (n + 1) (argBest bt n) then n + 1 else argBest bt n) = false
    by_cases hb : bt (n + 1) (argBest bt n) = true
    · rw [if_pos hb]
      rcases Nat.lt_or_ge j (n + 1) with hj | hj
      · have ih := best_min bt irr tr n j (Nat.le_of_lt_succ hj)
        cases e : bt j (n + 1) with
        | false => rfl
        | true => rw [tr _ _ _ e hb] at ih; cases ih
      · rw [Nat.le_antisymm h hj]; exact irr _
    · rw [if_neg hb]
      rcases Nat.lt_or_ge j (n + 1) with hj | hj
      · exact best_min bt irr tr n j (Nat.le_of_lt_succ hj)
      · rw [Nat.le_antisymm h hj]; simpa using hb
theorem lo_min (ws : List (List (List Nat))) {j : Nat} (h : j < ws.length) : ltW (ws.getD j []) (ws.getD (argBest (fun i j => ltW (ws.getD i []) (ws.getD j [])) (ws.length - 1)) []) = false :=
  best_min (fun i j => ltW (ws.getD i []) (ws.getD j [])) (fun _ => ltW_irr _) (fun _ _ _ => ltW_trans) (ws.length - 1) j (by omega)
theorem hi_max (ws : List (List (List Nat))) {j : Nat} (h : j < ws.length) : ltW (ws.getD (argBest (fun i j => ltW (ws.getD j []) (ws.getD i [])) (ws.length - 1)) []) (ws.getD j []) = false :=
  best_min (fun i j => ltW (ws.getD j []) (ws.getD i [])) (fun _ => ltW_irr _) (fun _ _ _ h1 h2 => ltW_trans h2 h1) (ws.length - 1) j (by omega)
/-- the two agree before this place -/
noncomputable def Agree (lo hi : List (List Nat)) (i : Nat) : Prop := ∀ j, j < i → lo[j]? = hi[j]?
theorem agree_tail {a b : List Nat} {r s : List (List Nat)} {i : Nat} (h : Agree (a :: r) (b :: s) (i + 1)) : a = b ∧ Agree r s i := by
  refine ⟨?_, fun j hj => ?_⟩
  · have := h 0 (Nat.succ_pos _); simpa using this
  · have := h (j + 1) (Nat.succ_lt_succ hj); simpa using this
theorem no_short : ∀ {lo hi : List (List Nat)} {i : Nat} {q : List Nat}, Agree lo hi i → lo[i]? = some q → hi[i]? = none → ltW hi lo = true
  | [], _, _, _, _, h, _ => by simp at h
  | a :: r, [], _, _, _, _, _ => rfl
  | a :: r, b :: s, 0, _, _, _, h => by simp at h
  | a :: r, b :: s, i + 1, q, hA, h1, h2 => by
    obtain ⟨rfl, hA'⟩ := agree_tail hA
    unfold ltW
    rw [if_pos rfl]
    exact no_short hA' (by simpa using h1) (by simpa using h2)
theorem cpre_brk : ∀ {lo hi : List (List Nat)} {i : Nat} {q q' : List Nat}, Agree lo hi i → lo[i]? = some q → hi[i]? = some q' → q ≠ q' → cpre lo hi = lo.take i
  | [], _, _, _, _, _, h, _, _ => by simp at h
  | a :: r, [], _, _, _, _, _, h, _ => by simp at h
  | a :: r, b :: s, 0, q, q', _, h1, h2, hne => by
    have h1 : a = q := by simpa using h1
    have h2 : b = q' := by simpa using h2
    unfold cpre
    rw [if_neg (by rw [h1, h2]; exact hne)]; rfl
  | a :: r, b :: s, i + 1, q, q', hA, h1, h2, hne => by
    obtain ⟨rfl, hA'⟩ := agree_tail hA
    unfold cpre
    rw [if_pos rfl, cpre_brk hA' (by simpa using h1) (by simpa using h2) hne]; rfl
theorem cpre_all : ∀ {lo hi : List (List Nat)}, Agree lo hi lo.length → cpre lo hi = lo
  | [], _, _ => by unfold cpre; rfl
  | a :: r, [], h => by have := h 0 (Nat.succ_pos _); simp at this
  | a :: r, b :: s, h => by
    obtain ⟨rfl, hA'⟩ := agree_tail (i := r.length) h
    unfold cpre
    rw [if_pos rfl, cpre_all hA']
theorem Ok.take {w : List (List Nat)} (hw : Ok w) (i : Nat) : Ok (w.take i) := by
  refine ⟨fun q hq => hw.free q (List.mem_of_mem_take hq), ?_⟩
  have := hw.tot
  have e1 : ((w.take i).map (·.length)).sum ≤ (w.map (·.length)).sum := by
    conv => rhs; rw [← List.take_append_drop i w, List.map_append, List.sum_append]
    omega
  have e2 : (w.take i).length ≤ w.length := by simp; omega
  omega
theorem strsAre_take {vs : List Value} {ys : List PySem.Str} (h : StrsAre vs ys) (i : Nat) : StrsAre (vs.take i) (ys.take i) := by
  induction h generalizing i with
  | nil => simp; exact .nil
  | cons z t' _ ih => cases i with
    | zero => exact .nil
    | succ i => exact .cons z t' (ih i)
theorem strs_walk {vs : List Value} {ws : List (List Nat)} (hv : StrsAre vs (ws.map tx)) {i : Nat} {v : Value} (e : vs[i]? = some v) : ∃ q t, ws[i]? = some q ∧ v = .str (tx q) t := by
  obtain ⟨y, t, hy, rfl⟩ := strsAre_get hv e
  rw [List.getElem?_map] at hy
  cases hw : ws[i]? with
  | none => rw [hw] at hy; cases hy
  | some w => rw [hw] at hy; cases hy; exact ⟨w, t, rfl, rfl⟩
theorem join_size {w : List (List Nat)} (hw : Ok w) : ((w.map tx).map (·.length)).sum + (w.map tx).length * (Str.ofString "/").length ≤ 16777216 := by
  rw [map_tx_len, lit_slash, tx_len]; have := hw.tot; simp; omega
theorem agree_snoc {lo hi : List (List Nat)} {i : Nat} {q q' : List Nat} (h : Agree lo hi i) (h1 : lo[i]? = some q) (h2 : hi[i]? = some q') (e : q = q') : Agree lo hi (i + 1) := fun j hj => by
  rcases Nat.lt_or_ge j i with h3 | h3
  · exact h j h3
  · have : j = i := by omega
    rw [this, h1, h2, e]
end

section
set_option Elab.async false
section
variable {prog : Program} {w : World} {A : Around} {E : Value → Shared → Prop} {s : Shared} {env : Env} {h₀ : Heap}
/-- the end of a turn over an iterator, one name carried -/
noncomputable def IterEnd (h₀ : Heap) (L : Addr) (m : Str → Option Value) (st x : Str) (e : Value) (it : Addr) (o : Obj) (news : List (Addr × Obj)) (V : Value → Prop) (s₁ s₂ : Shared) : Prop :=
  ∃ h' tk v', s₂ = { s₁ with heap := h', toks := tk } ∧ Fr h₀ L h' (bnd2 m st x (some v') (some e)) ∧ News h₀ L h' ((it, o) :: news) ∧ V v'
noncomputable def IterPost (h₀ : Heap) (L : Addr) (m : Str → Option Value) (st x : Str) (e : Value) (it : Addr) (o : Obj) (news : List (Addr × Obj)) (V : Value → Prop) (s₁ : Shared) (Q : Flow → Shared → Prop) (f : Flow) (s₂ : Shared) : Prop :=
  match f with
  | .ret v => Q (.ret v) s₂
  | .brk => Q .next s₂
  | _ => IterEnd h₀ L m st x e it o news V s₁ s₂
theorem iter_at {Q : Flow → Shared → Prop} {x st : Str} {px : Pos} {body : List Stmt} {it l : Addr} {vs : List Value} {n i₀ : Nat} {m : Str → Option Value} {ux : Option Value} {v₀ : Value} {o₀ : Obj} {news : List (Addr × Obj)}
    (hh : A.handled = none) (hx : env.kindOf x = some .local)
    (hp : (env.scope.kind == .class || (env.scope.kind == .module && env.locals != env.globals)) = false) (hE : PassesOwn (model prog w) A env E)
    (hit : s.heap.IsListIter it l i₀) (hi₀ : i₀ ≤ vs.length) (F : Fr h₀ env.locals s.heap (bnd2 m st x (some v₀) ux)) (N : News h₀ env.locals s.heap ((it, o₀) :: news)) (off : ∀ p ∈ news, p.1 ≠ it) (hl : (l, W.listOf vs.toArray n) ∈ news)
    (V : Nat → Value → Prop) (h0 : V i₀ v₀)
    (turn : ∀ (i : Nat) e v o h tk, vs[i]? = some e → i₀ ≤ i → V i v → Fr h₀ env.locals h (bnd2 m st x (some v) (some e)) → News h₀ env.locals h ((it, o) :: news) →
      wpAny (model prog w) A (execs body env) (IterPost h₀ env.locals m st x e it o news (V (i + 1)) { s with heap := h, toks := tk } Q) E { s with heap := h, toks := tk })
    (done : ∀ v ux h tk, V vs.length v → Fr h₀ env.locals h (bnd2 m st x (some v) ux) → News h₀ env.locals h news → Q .next { s with heap := h, toks := tk }) :
    EnumAt prog w A env (.Name x px) body Q E (.ref it) s := by
  show wpAny _ _ (pyIter (.ref it)) _ _ _
  refine wpAny_pyIter_listiter hit ?_
  have hlt : l ≠ it := off _ hl
  have hitL : it ≠ env.locals := (N _ (.head _)).2.1
  have hit₀ : h₀.get? it = none := (N _ (.head _)).2.2
  have W := Walks.list (prog := prog) (w := w) (A := A) hh it l hlt vs.toArray
  refine codeAny_forLoop_any
    (fun k s' => ∃ h' tk i v ux o, s' = { s with heap := h', toks := tk } ∧ h'.IsListIter it l i ∧ Fr h₀ env.locals h' (bnd2 m st x (some v) ux) ∧ News h₀ env.locals h' ((it, o) :: news) ∧ V i v ∧ i₀ ≤ i ∧ i ≤ vs.length ∧ k = vs.length + 1 - i) ?_ (vs.length + 1 - i₀)
    ⟨s.heap, s.toks, i₀, v₀, ux, o₀, rfl, hit, F, N, h0, Nat.le_refl _, hi₀, rfl⟩
  rintro k s' ⟨H, tk, i, v, ux', o, rfl, hit', F', N', hV, hi0, hi, rfl⟩
  have hl' : H.IsList l vs.toArray := news_isList (s := { s with heap := H }) (fun p hp => N' p (.tail _ hp)) hl
  by_cases hlt' : i < vs.length
  · refine W.item i _ _ _ (by simpa using hlt') ⟨hit', hl'⟩ fun e h₂ tk₂ hP hst hk => ?_
    have he : vs[i]? = some e := by simpa using hP
    show wpAny _ _ (letOwnedTupleGo (.Name x px) (.ref it) e) _ _ _
    refine wpAny_pure ?_
    obtain ⟨oi, hoi, roi⟩ := hst.1
    have k2 : ∀ b o, b ≠ it → H.get? b = some o → h₂.get? b = some o := fun b o hb e => hk b o (by simpa using hb) e
    have F₂ : Fr h₀ env.locals h₂ (bnd2 m st x (some v) ux') := ⟨F'.ns.at' fun o e => k2 _ _ hitL.symm e, fun b o e => k2 b o (fun h => by rw [h, hit₀] at e; cases e) (F'.keep b o e), F'.above⟩
    refine wpAny_assign_Name (wpAny_storeName_local hx F₂.ns (fun h₃ hn₃ hs₃ => ?_) hp)
    replace hs₃ : Heap.SameBut env.locals h₂ h₃ := hs₃
    have hL₀ : h₀.get? env.locals = none := Heap.get?_none_of_le F'.above
    have F₃ : Fr h₀ env.locals h₃ (bnd2 m st x (some v) (some e)) := by
      refine ⟨?_, fun b o x => hs₃.extBut b o (fun h => by rw [h, hL₀] at x; cases x) (F₂.keep b o x), F'.above⟩
      have e' : (bnd2 m st x (some v) (some e)) = fun y => if y = x then some e else bnd2 m st x (some v) ux' y := by
        funext y; unfold bnd2
        by_cases h1 : y = x
        · rw [if_pos h1, if_pos h1]
        · rw [if_neg h1, if_neg h1, if_neg h1]
      rw [e']; exact hn₃
    have hit₃ : h₃.get? it = some oi := hs₃.extBut _ _ hitL hoi
    have N₃ : News h₀ env.locals h₃ ((it, oi) :: news) := fun p hp => by
      rcases List.mem_cons.mp hp with rfl | hp
      · exact ⟨hit₃, hitL, hit₀⟩
      · exact ⟨hs₃.extBut _ _ (N' p (.tail _ hp)).2.1 (k2 _ _ (off p hp) (N' p (.tail _ hp)).1), (N' p (.tail _ hp)).2⟩
    refine wpAny_passesOwn hE (wpAny_mono (turn i e v oi h₃ _ he hi0 hV F₃ N₃) (fun f s₃ h₆ => ?_) fun _ _ x => x)
    have nxt : ∀ tk0, IterEnd h₀ env.locals m st x e it oi news (V (i + 1)) { s with heap := h₃, toks := tk0 } s₃ → ∃ mm, mm < vs.length + 1 - i ∧ ∃ h' tk i v ux o, s₃ = { s with heap := h', toks := tk } ∧ h'.IsListIter it l i ∧ Fr h₀ env.locals h' (bnd2 m st x (some v) ux) ∧ News h₀ env.locals h' ((it, o) :: news) ∧ V i v ∧ i₀ ≤ i ∧ i ≤ vs.length ∧ mm = vs.length + 1 - i := by
      rintro tk0 ⟨h', tk', v', e', F4, N4, hV'⟩
      exact ⟨vs.length + 1 - (i + 1), by omega, h', tk', i + 1, v', _, oi, e', ⟨oi, (N4 _ (.head _)).1, roi⟩, F4, N4, hV', by omega, hlt', rfl⟩
    cases f with
    | ret v => exact h₆
    | brk => exact h₆
    | next => exact nxt _ h₆
    | cont => exact nxt _ h₆
  · obtain rfl : i = vs.length := Nat.le_antisymm hi (Nat.not_lt.mp hlt')
    refine W.done _ _ _ ⟨by simpa using hit', hl'⟩ fun h₂ tk₂ hk => wpAny_execs_nil ?_
    have k2 : ∀ b o, b ≠ it → H.get? b = some o → h₂.get? b = some o := fun b o hb e => hk b o (by simpa using hb) e
    exact done v ux' h₂ tk₂ hV ⟨F'.ns.at' fun o e => k2 _ _ hitL.symm e, fun b o e => k2 b o (fun h => by rw [h, hit₀] at e; cases e) (F'.keep b o e), F'.above⟩ fun p hp => ⟨k2 _ _ (off p hp) (N' p (.tail _ hp)).1, (N' p (.tail _ hp)).2⟩
end
/-- what commonpath tells of a list of walks -/
noncomputable def cp (ws : List (List (List Nat))) : List (List Nat) := cpre (ws.getD (argBest (fun i j => ltW (ws.getD i []) (ws.getD j [])) (ws.length - 1)) []) (ws.getD (argBest (fun i j => ltW (ws.getD j []) (ws.getD i [])) (ws.length - 1)) [])
theorem cpre_pre : ∀ a b, ∃ i, cpre a b = a.take i
  | [], _ => ⟨0, by unfold cpre; rfl⟩
  | a :: r, [] => ⟨0, rfl⟩
  | a :: r, b :: s => by
    unfold cpre
    by_cases h : a = b
    · rw [if_pos h]
      obtain ⟨i, hi⟩ := cpre_pre r s
      exact ⟨i + 1, by rw [hi]; rfl⟩
    · rw [if_neg h]; exact ⟨0, rfl⟩
theorem cp_ok {ws : List (List (List Nat))} (hne : ws ≠ []) (hok : ∀ w ∈ ws, Ok w) : Ok (cp ws) := by
  unfold cp
  obtain ⟨i, hi⟩ := cpre_pre (ws.getD (argBest (fun i j => ltW (ws.getD i []) (ws.getD j [])) (ws.length - 1)) []) (ws.getD (argBest (fun i j => ltW (ws.getD j []) (ws.getD i [])) (ws.length - 1)) [])
  rw [hi]
  refine Ok.take ?_ i
  have h1 := best_le (fun i j => ltW (ws.getD i []) (ws.getD j [])) (ws.length - 1)
  have h2 := List.length_pos_iff.mpr hne
  generalize argBest (fun i j => ltW (ws.getD i []) (ws.getD j [])) (ws.length - 1) = A at h1 ⊢
  have h3 : A < ws.length := by omega
  rw [List.getD_eq_getElem?_getD, List.getElem?_eq_getElem h3]
  exact hok _ (List.getElem_mem h3)
section
variable {prog : Program} {w : World} {A : Around} {E : Value → Shared → Prop} {s : Shared} {h₀ : Heap} {L : Addr} {m : Str → Option Value} {news : List (Addr × Obj)}
theorem iter_l {l : Addr} {vs : List Value} {n : Nat} {Q : Value → Shared → Prop} (F : Fr h₀ L s.heap m) (N : News h₀ L s.heap news) (hl : (l, W.listOf vs.toArray n) ∈ news)
    (h : ∀ (I : Addr) h', Fr h₀ L h' m → News h₀ L h' ((I, ({ cls := .type "list_iterator", data := .fields #[.ref l, .int (0 : Nat) 0] } : Obj)) :: news) → (∀ p ∈ news, p.1 < I) → Q (.ref I) { s with heap := h' }) :
    wpAny (model prog w) A (call (.builtin "iter") [.ref l]) Q E s := by
  refine call_function_entry (by decide +kernel) (by decide +kernel) kdk_entry_iter (kdk_args_iter _) ?_
  unfold Builtin.«iter»
  refine wpAny_bind (wpAny_of_eq (a := [Value.ref l]) (by first | rfl | kernel_rfl!) ?_)
  show wpAny _ _ (pyIter (.ref l) >>= _) _ _ _
  refine wpAny_bind (wpAny_pyIter_list (news_isList N hl) ?_)
  exact wpAny_pure ⟨_, rfl, h _ _ (F.push _) (News.push F N _ rfl) (fun q hq => Heap.lt_size (N q hq).1)⟩
theorem next_l {I l : Addr} {vs : List Value} {v : Value} {n i : Nat} {Q : Value → Shared → Prop} (F : Fr h₀ L s.heap m) (N : News h₀ L s.heap ((I, ({ cls := .type "list_iterator", data := .fields #[.ref l, .int (i : Nat) 0] } : Obj)) :: news)) (hl : (l, W.listOf vs.toArray n) ∈ news) (off : ∀ p ∈ news, p.1 < I) (hv : vs[i]? = some v)
    (h : ∀ h' o, Fr h₀ L h' m → (∀ H : Heap, H.get? I = some o → H.IsListIter I l (i + 1)) → News h₀ L h' ((I, o) :: news) → Q v { s with heap := h' }) :
    wpAny (model prog w) A (call (.builtin "next") [.ref I]) Q E s := by
  have hm := N _ (.head _)
  have ho := hm.1
  have hit : s.heap.IsListIter I l i := ⟨_, ho, rfl, rfl⟩
  have hls : s.heap.IsList l vs.toArray := news_isList (fun p hp => N p (.tail _ hp)) hl
  obtain ⟨ol, hol, _, nl, hdl⟩ := hls
  refine call_function_entry (by decide +kernel) (by decide +kernel) kdk_entry_next (kdk_args_next _) ?_
  unfold Builtin.«next»
  refine wpAny_bind (wpAny_of_eq (a := [Value.ref I]) (by first | rfl | kernel_rfl!) ?_)
  dsimp only
  refine wpAny_bind (wpAny_specialOf (name := Str.ofString "__next__") hit.typeIs slot_listiter_next.lookup ?_)
  refine wpAny_ite_split (fun hab => absurd hab (by decide)) (fun _ => ?_)
  refine wpAny_bind (wpAny_callSpecial?_slot (name := Str.ofString "__next__") hit.typeIs slot_listiter_next
    (wpAny_call_entry slot_listiter_next hit.typeIs entry_listiter_next ?_ (args_listiter_next _)))
  show wpAny _ _ (field (.ref I) 0 >>= _) _ _ s
  refine wpAny_bind (wpAny_field ho rfl (x := .ref l) rfl ?_)
  show wpAny _ _ (if (Value.ref l == Value.none) = true then _ else _) _ _ s
  rw [if_neg (show ¬ ((Value.ref l == Value.none) = true) from Bool.false_ne_true)]
  show wpAny _ _ (field (.ref I) 1 >>= _) _ _ s
  refine wpAny_bind (wpAny_field ho rfl (x := .int i 0) rfl ?_)
  show wpAny _ _ (seqItems? (.ref l) >>= _) _ _ s
  refine wpAny_bind (wpAny_seqItems hol hdl ?_)
  have hv' : vs.toArray[i]? = some v := by simpa using hv
  simp only [Int.toNat_natCast, hv']
  refine wpAny_bind (wpAny_setField ho rfl (by simp) (wpAny_pure ⟨v, rfl, ?_⟩))
  have hg : (s.heap.update I (Obj.mapFields (·.setIfInBounds 1 (rawInt ((i : Int) + 1))))).IsListIter I l (i + 1) :=
    ⟨_, Heap.get?_update_self _ ho rfl, rfl, by simp [Obj.mapFields, rawInt]⟩
  have hs := Heap.SameBut.update s.heap I (Obj.mapFields (·.setIfInBounds 1 (rawInt ((i : Int) + 1))))
  obtain ⟨o', ho', ro'⟩ := id hg
  refine wpAny_pure ⟨_, rfl, h _ o' (F.change hs hm.2.1 hm.2.2) (fun H hH => ⟨o', hH, ro'⟩) (fun p hp => ?_)⟩
  rcases List.mem_cons.mp hp with rfl | hp
  · exact ⟨ho', hm.2⟩
  · exact ⟨hs.extBut _ _ (Nat.ne_of_lt (off p hp)) (N p (.tail _ hp)).1, (N p (.tail _ hp)).2⟩
end
theorem Fr.two {h₀ h : Heap} {L : Addr} {m : Str → Option Value} {st x : Str} {v : Value} (F : Fr h₀ L h m) (hv : m st = some v) : Fr h₀ L h (bnd2 m st x (some v) (m x)) := by
  rw [← hv, bnd2_id]; exact F
theorem Fr.upd2 {h₀ h : Heap} {L : Addr} {m : Str → Option Value} {st x : Str} {v' : Value} {u e : Option Value} (hne : st ≠ x) (F : Fr h₀ L h (fun y => if y = st then some v' else bnd2 m st x u e y)) : Fr h₀ L h (bnd2 m st x (some v') e) := by
  have : (fun y => if y = st then some v' else bnd2 m st x u e y) = bnd2 m st x (some v') e := by
    funext y; unfold bnd2
    by_cases h1 : y = st
    · rw [if_pos h1, h1, if_neg hne, if_pos rfl]
    · rw [if_neg h1, if_neg h1, if_neg h1]
  rw [← this]; exact F
/-- commonpath folded two at a time -/
noncomputable def rd : List (List (List Nat)) → List (List Nat)
  | [] => []
  | a :: r => r.foldl (fun x y => cp [x, y]) a
theorem rd_snoc {l : List (List (List Nat))} (h : l ≠ []) (w : List (List Nat)) : rd (l ++ [w]) = cp [rd l, w] := by
  cases l with
  | nil => exact absurd rfl h
  | cons a r => simp [rd, List.foldl_append]
theorem rd_ok : ∀ {l : List (List (List Nat))}, l ≠ [] → (∀ w ∈ l, Ok w) → Ok (rd l)
  | [], h, _ => absurd rfl h
  | a :: r, _, h => by
    have : ∀ (r : List (List (List Nat))) (a : List (List Nat)), Ok a → (∀ w ∈ r, Ok w) → Ok (r.foldl (fun x y => cp [x, y]) a) := by
      intro r
      induction r with
      | nil => intro a h _; exact h
      | cons b r ih =>
        intro a ha hr
        refine ih _ (cp_ok (by simp) ?_) (fun w hw => hr w (List.mem_cons_of_mem _ hw))
        intro w hw
        simp only [List.mem_cons, List.not_mem_nil, or_false] at hw
        rcases hw with rfl | rfl
        · exact ha
        · exact hr _ (.head _)
    exact this r a (h a (.head _)) fun w hw => h w (List.mem_cons_of_mem _ hw)
end

section
set_option Elab.async false
theorem ltW_tot : ∀ {a b}, ltW a b = false → ltW b a = false → a = b
  | [], [], _, _ => rfl
  | [], _ :: _, h, _ => by cases h
  | _ :: _, [], _, h => by cases h
  | a :: r, b :: s, h1, h2 => by
    unfold ltW at h1 h2
    by_cases hab : a = b
    · subst hab
      rw [if_pos rfl] at h1 h2
      rw [ltW_tot h1 h2]
    · rw [if_neg hab] at h1
      rw [if_neg (fun e => hab e.symm)] at h2
      have l1 : ¬ a < b := by simpa using h1
      have l2 : ¬ b < a := by simpa using h2
      exact absurd (List.le_antisymm (List.not_lt.mp l2) (List.not_lt.mp l1)) hab
theorem cpre_left : ∀ a b, cpre a b <+: a
  | [], b => by cases b <;> (unfold cpre; exact List.nil_prefix)
  | a :: r, [] => by unfold cpre; exact List.nil_prefix
  | a :: r, b :: s => by
    unfold cpre
    by_cases h : a = b
    · rw [if_pos h]; exact List.cons_prefix_cons.mpr ⟨rfl, cpre_left r s⟩
    · rw [if_neg h]; exact List.nil_prefix
theorem cpre_right : ∀ a b, cpre a b <+: b
  | [], b => by cases b <;> (unfold cpre; exact List.nil_prefix)
  | a :: r, [] => by unfold cpre; exact List.nil_prefix
  | a :: r, b :: s => by
    unfold cpre
    by_cases h : a = b
    · rw [if_pos h, h]; exact List.cons_prefix_cons.mpr ⟨rfl, cpre_right r s⟩
    · rw [if_neg h]; exact List.nil_prefix
theorem cp_two (x y : List (List Nat)) : cp [x, y] <+: x ∧ cp [x, y] <+: y := by
  have e1 : argBest (fun i j => ltW (([x, y] : List (List (List Nat))).getD i []) (([x, y] : List (List (List Nat))).getD j [])) 1 = if ltW y x then 1 else 0 := rfl
  have e2 : argBest (fun i j => ltW (([x, y] : List (List (List Nat))).getD j []) (([x, y] : List (List (List Nat))).getD i [])) 1 = if ltW x y then 1 else 0 := rfl
  have e : cp [x, y] = cpre (([x, y] : List (List (List Nat))).getD (if ltW y x then 1 else 0) []) (([x, y] : List (List (List Nat))).getD (if ltW x y then 1 else 0) []) := by
    show cpre (([x, y] : List (List (List Nat))).getD (argBest _ 1) []) (([x, y] : List (List (List Nat))).getD (argBest _ 1) []) = _
    rw [e1, e2]
  rw [e]
  cases h1 : ltW y x with
  | true =>
    cases h2 : ltW x y with
    | true => have := ltW_trans h1 h2; rw [ltW_irr] at this; cases this
    | false => exact ⟨cpre_right y x, cpre_left y x⟩
  | false =>
    cases h2 : ltW x y with
    | true => exact ⟨cpre_left x y, cpre_right x y⟩
    | false => have := ltW_tot h2 h1; subst this; exact ⟨cpre_left x x, cpre_left x x⟩
theorem rd_pre : ∀ {l : List (List (List Nat))} {w : List (List Nat)}, w ∈ l → rd l <+: w
  | [], _, h => by cases h
  | a :: r, w, h => by
    have key : ∀ (r : List (List (List Nat))) (a : List (List Nat)), (r.foldl (fun x y => cp [x, y]) a <+: a) ∧ ∀ w ∈ r, r.foldl (fun x y => cp [x, y]) a <+: w := by
      intro r
      induction r with
      | nil => intro a; exact ⟨List.prefix_refl a, fun w hw => by cases hw⟩
      | cons b r ih =>
        intro a
        obtain ⟨i1, i2⟩ := ih (cp [a, b])
        refine ⟨i1.trans (cp_two a b).1, fun w hw => ?_⟩
        rcases List.mem_cons.mp hw with rfl | hw
        · exact i1.trans (cp_two a w).2
        · exact i2 w hw
    rcases List.mem_cons.mp h with rfl | h
    · exact (key r w).1
    · exact (key r a).2 w h
theorem pre_nil {c r s : List (List Nat)} {a b : List Nat} (h1 : c <+: a :: r) (h2 : c <+: b :: s) (hne : a ≠ b) : c = [] := by
  cases c with
  | nil => rfl
  | cons x t =>
    have e1 := (List.cons_prefix_cons.mp h1).1
    have e2 := (List.cons_prefix_cons.mp h2).1
    exact absurd (e1.symm.trans e2) hne
theorem rd_nil {l : List (List (List Nat))} {a b : List Nat} {r s : List (List Nat)} (h1 : (a :: r) ∈ l) (h2 : (b :: s) ∈ l) (hne : a ≠ b) : rd l = [] := pre_nil (rd_pre h1) (rd_pre h2) hne
theorem cp_nil {l : List (List (List Nat))} {a b : List Nat} {r s : List (List Nat)} (h1 : (a :: r) ∈ l) (h2 : (b :: s) ∈ l) (hlt : a < b) : cp l = [] := by
  obtain ⟨i, hi, ei⟩ := List.getElem_of_mem h1
  obtain ⟨j, hj, ej⟩ := List.getElem_of_mem h2
  have q1 := lo_min l hi
  have q2 := hi_max l hj
  have d1 : l.getD i [] = a :: r := by rw [List.getD_eq_getElem?_getD, List.getElem?_eq_getElem hi, ei]; rfl
  have d2 : l.getD j [] = b :: s := by rw [List.getD_eq_getElem?_getD, List.getElem?_eq_getElem hj, ej]; rfl
  rw [d1] at q1
  rw [d2] at q2
  unfold cp
  generalize l.getD (argBest (fun i j => ltW (l.getD i []) (l.getD j [])) (l.length - 1)) [] = lo at q1 ⊢
  generalize l.getD (argBest (fun i j => ltW (l.getD j []) (l.getD i [])) (l.length - 1)) [] = hi' at q2 ⊢
  cases lo with
  | nil => unfold cpre; rfl
  | cons x t =>
    cases hi' with
    | nil => rfl
    | cons y u =>
      by_cases hxy : x = y
      · subst hxy
        exfalso
        unfold ltW at q1 q2
        -- not a < x or equal; not x < b or equal
        have n1 : ¬ a < x ∨ a = x := by
          by_cases e : a = x
          · exact .inr e
          · rw [if_neg e] at q1; exact .inl (by simpa using q1)
        have n2 : ¬ x < b ∨ x = b := by
          by_cases e : x = b
          · exact .inr e
          · rw [if_neg e] at q2; exact .inl (by simpa using q2)
        rcases n1 with n1 | rfl
        · rcases n2 with n2 | rfl
          · exact absurd hlt (List.not_lt.mpr (List.le_trans (List.not_lt.mp n2) (List.not_lt.mp n1)))
          · exact n1 hlt
        · rcases n2 with n2 | rfl
          · exact n2 hlt
          · exact lt_irr _ hlt
      · unfold cpre; rw [if_neg hxy]
end

section
set_option maxRecDepth 100000 in
set_option maxHeartbeats 0 in
theorem relpath_x : ∀ (w : World) (p : Program) (loose : List Str) (mean : ExcName → Option Value) (mg mb : Str → Option Value) (s : Shared) (X : (fragK.heap_1 w.params).In s.heap) (XN : KNin w s.heap) (T : Top p loose mean mg mb s.heap) (ws : List (List Nat)) (r : List Nat) (t1 t2 : Tok) (Q E : Value → Shared → Prop)
   (P : Pth r ws)
   (hret : ∀ t' h' tk', (∀ b o, s.heap.get? b = some o → h'.get? b = some o) → Q (.str (tx (if ws = [] then [46] else jn 47 ws)) t') { s with heap := h', toks := tk' }),
   wpAny (model PySem.Challenge.rw_in0142_01.row.prog w) (AR 410 210) (call (.ref 218) [.str (tx (47 :: r)) t1, .str (tx [47]) t2]) Q E s := by
  k_fill
  intro w p loose mean mg mb s X XN T ws r t1 t2 Q E P hret
  refine' enter (binds := [(Str.ofString "path", .str (tx (47 :: r)) t1), (Str.ofString "start", .str (tx [47]) t2)]) X T.nolimit (by decide) ?k6 ?k7 ?k9 ?kB ?_ ?c2 ?c3 ?c4 ?c5
  case k6 => k_is
  case k7 => k_is
  case k9 => exact binds_peek X fun _ => rfl
  case kB => exact locs rfl
  case c2 => exact rfl
  case c3 => exact rfl
  case c4 => exact rfl
  case c5 => decide
  intro L h1 F N
  have P0 := Pth.root
  have e0 : (47 :: r : List Nat) ≠ [] := by simp
  have l0 := P.len
  have l1 : (tx (47 :: jn 47 [])).length ≤ 1000000 := P0.outlen
  have l2 : (tx (47 :: jn 47 ws)).length ≤ 1000000 := P.outlen
  have e1 : Txt.lstripChars (tx (47 :: jn 47 [])) (Str.ofString "/") = tx [] := lstrip_t (by simp [jn])
  have e2 : Txt.lstripChars (tx (47 :: jn 47 ws)) (Str.ofString "/") = tx (jn 47 ws) := lstrip_t (jn_take P.ne)
  have e3 : ([] : List Nat) = [] := rfl
  have l4 : (ws.map tx).length ≤ 1000000 := by rw [List.length_map]; have := P.tot; omega
  by_cases hw : ws = []
  · subst hw
    have e4 : jn 47 [] = [] := rfl
    have hv : StrsAre [] (([] : List (List Nat)).map tx) := StrsAre.nil
    rw [if_pos rfl] at hret
    rw [← lit_dot] at hret
    try dsimp only
    try k_fold
    repeat' (first | (k_here; (with_reducible refine' abspath_ (P := ?qzP) ..); (with_unfolding_all (walk_at "cF"; (case qzP => assumption); walk_at "c1"))) | (k_here; (with_reducible show wpAny _ _ (call (Value.ref 168) [Value.ref _]) _ _ _); (with_unfolding_all refine' commonprefix_ ?qzP ?_ ?_ ?_ ?_ ?_ ?_ ?_ ?_ ?qzma ?qzmb ?qzmc ?_; walk_at "cF"; (case qzP => assumption); (case qzmc => k_mem); (case qzma => k_mem); (case qzmb => k_mem); walk_at "c1")) | (k_here; (with_reducible show wpAny _ _ (call (Value.builtin "str.split") [Value.str _ _, Value.str _ _]) _ _ _); (refine splits (by k_asm) (by k_asm) (by first | assumption | decide +kernel) (by assumption) (by assumption) ?_); intro a' vs' h' tk' hS' F' N' hlt') | ((with_reducible show wpAny _ _ (call (Value.builtin "str.join") _ _) _ _ _); (k_here; (refine' joins ?qzN ?qzm ?qzi ?qze ?qzo ?_; (case qzN => k_asm); (case qzm => k_mem); (case qzi => assumption); (case qze => assumption); (case qzo => assumption); k_whole); intro _ _)) | (k_here; (with_reducible show wpAny _ _ (call (Value.builtin "str.lstrip") [Value.str _ _, Value.str _ _]) _ _ _); (refine lstrips (by assumption) (by assumption) ?_); intro _ _) | (k_here; (with_reducible show wpAny _ _ (binaryOp Operator.Mult (Value.ref _) (Value.int _ _)) _ _ _); (refine' mul0 ?qzF ?qzN ?qzm ?qze ?_; (case qzF => k_asm); (case qzN => k_asm); (case qzm => k_mem); (case qze => first | rfl | omega); k_whole); (intro qzD qzh qzF qzN qzl; (try k_lt qzl); (try dsimp only [List.nil_append, List.cons_append] at qzN); (try k_sweep))) | (k_here; (with_reducible show wpAny _ _ (binaryOp _ (Value.ref _) (Value.ref _)) _ _ _); (refine' add_l ?qzF ?qzN ?qza ?qzb ?qzz ?qzy ?_; (case qzF => k_asm); (case qzN => k_asm); (case qza => k_mem); (case qzb => k_mem); (case qzz => first | assumption | exact Nat.le_of_ble_eq_true rfl | exact small (by assumption) (by assumption)); (case qzy => first | assumption | exact Nat.le_of_ble_eq_true rfl | exact small (by assumption) (by assumption)); k_whole); (intro qzD qzh qzF qzN qzl; (try k_lt qzl); (try dsimp only [List.nil_append, List.cons_append] at qzN); (try k_sweep))) | (k_here; (with_reducible show wpAny _ _ (subscriptTail _ (PySem.Expr.Slice _ _ none _) (Value.ref _) (Value.ref _)) _ _ _); (refine' sl_l ?qzF ?qzN ?qzl ?qzp ?qzq ?qze ?qzz ?_ ?qzs ?qzt; (case qzF => k_asm); (case qzN => k_asm); (case qzl => k_mem); (case qzp => kmk_part); (case qzq => kmk_part); (case qze => first | exact pick_from0 | exact pick_last | exact pick_from (by omega) | exact pick_upto (by omega)); (case qzz => first | assumption | exact Nat.le_of_ble_eq_true rfl | exact small (by assumption) (by assumption)); (case qzs => with_unfolding_all rfl); (case qzt => kmk_pure); k_whole); (intro qzD qzh qzF qzN qzl; (try k_lt qzl); (try dsimp only [List.nil_append, List.cons_append] at qzN); (try k_sweep))) | (k_unfold; (try dsimp only)) | (k_end; wrow_close) | walk1 | (dsimp only; walk1) | (leave1; walk_say "STEP leave1"; try dsimp only) | fail "no step")
    exact hret _ _ _ (Fr.keep (by assumption))
  · have e4 := jn_nonempty P.ne hw
    have e5 : Txt.split (tx (jn 47 ws)) (Str.ofString "/") = ws.map tx := by rw [lit_slash]; exact split_tx 47 hw fun q hq => (P.ne q hq).2
    have l3 : (tx (jn 47 ws)).length ≤ 1000000 := by rw [tx_len] at l2 ⊢; simp at l2; omega
    rw [if_neg hw] at hret
    have f1 := join_lit ws
    have f0 : ws.map tx ≠ [] := by simpa using hw
    have f2 : ((ws.map tx).map (·.length)).sum + (ws.map tx).length * (Str.ofString "/").length ≤ 16777216 := by
      rw [map_tx_len, lit_slash, tx_len]; have := P.tot; simp; omega
    try dsimp only
    try k_fold
    repeat' (first | (k_here; (with_reducible refine' abspath_ (P := ?qzP) ..); (with_unfolding_all (walk_at "cF"; (case qzP => assumption); walk_at "c1"))) | (k_here; (with_reducible show wpAny _ _ (call (Value.ref 168) [Value.ref _]) _ _ _); (with_unfolding_all refine' commonprefix_ ?qzP ?_ ?_ ?_ ?_ ?_ ?_ ?_ ?_ ?qzma ?qzmb ?qzmc ?_; walk_at "cF"; (case qzP => assumption); (case qzmc => k_mem); (case qzma => k_mem); (case qzmb => k_mem); walk_at "c1")) | (k_here; (with_reducible show wpAny _ _ (call (Value.builtin "str.split") [Value.str _ _, Value.str _ _]) _ _ _); (refine splits (by k_asm) (by k_asm) (by first | assumption | decide +kernel) (by assumption) (by assumption) ?_); intro a' vs' h' tk' hS' F' N' hlt') | ((with_reducible show wpAny _ _ (call (Value.builtin "str.join") _ _) _ _ _); (k_here; (refine' joins ?qzN ?qzm ?qzi ?qze ?qzo ?_; (case qzN => k_asm); (case qzm => k_mem); (case qzi => assumption); (case qze => assumption); (case qzo => assumption); k_whole); intro _ _)) | (k_here; (with_reducible show wpAny _ _ (call (Value.builtin "str.lstrip") [Value.str _ _, Value.str _ _]) _ _ _); (refine lstrips (by assumption) (by assumption) ?_); intro _ _) | (k_here; (with_reducible show wpAny _ _ (binaryOp Operator.Mult (Value.ref _) (Value.int _ _)) _ _ _); (refine' mul0 ?qzF ?qzN ?qzm ?qze ?_; (case qzF => k_asm); (case qzN => k_asm); (case qzm => k_mem); (case qze => first | rfl | omega); k_whole); (intro qzD qzh qzF qzN qzl; (try k_lt qzl); (try dsimp only [List.nil_append, List.cons_append] at qzN); (try k_sweep))) | (k_here; (with_reducible show wpAny _ _ (binaryOp _ (Value.ref _) (Value.ref _)) _ _ _); (refine' add_l ?qzF ?qzN ?qza ?qzb ?qzz ?qzy ?_; (case qzF => k_asm); (case qzN => k_asm); (case qza => k_mem); (case qzb => k_mem); (case qzz => first | assumption | exact Nat.le_of_ble_eq_true rfl | exact small (by assumption) (by assumption)); (case qzy => first | assumption | exact Nat.le_of_ble_eq_true rfl | exact small (by assumption) (by assumption)); k_whole); (intro qzD qzh qzF qzN qzl; (try k_lt qzl); (try dsimp only [List.nil_append, List.cons_append] at qzN); (try k_sweep))) | (k_here; (with_reducible show wpAny _ _ (subscriptTail _ (PySem.Expr.Slice _ _ none _) (Value.ref _) (Value.ref _)) _ _ _); (refine' sl_l ?qzF ?qzN ?qzl ?qzp ?qzq ?qze ?qzz ?_ ?qzs ?qzt; (case qzF => k_asm); (case qzN => k_asm); (case qzl => k_mem); (case qzp => kmk_part); (case qzq => kmk_part); (case qze => first | exact pick_from0 | exact pick_last | exact pick_from (by omega) | exact pick_upto (by omega)); (case qzz => first | assumption | exact Nat.le_of_ble_eq_true rfl | exact small (by assumption) (by assumption)); (case qzs => with_unfolding_all rfl); (case qzt => kmk_pure); k_whole); (intro qzD qzh qzF qzN qzl; (try k_lt qzl); (try dsimp only [List.nil_append, List.cons_append] at qzN); (try k_sweep))) | (k_unfold; (try dsimp only)) | (k_end; wrow_close) | walk1 | (dsimp only; walk1) | (leave1; walk_say "STEP leave1"; try dsimp only) | fail "no step")
    exact hret _ _ _ (Fr.keep (by assumption))
end

section
local macro_rules | `(tactic| walk_at "exec Assign cons ListComp") => `(tactic| (k_here; refine Halt.out ?_))
local macro_rules | `(tactic| walk_at "exec Assign cons SetComp") => `(tactic| (k_here; refine Halt.out ?_))
local macro_rules | `(tactic| walk_at "exec For Tuple Call") => `(tactic| (k_here; refine Halt.out ?_))
local macro_rules | `(tactic| walk_at "exec For Tuple Call cons nil") => `(tactic| (k_here; refine Halt.out ?_))
set_option maxRecDepth 100000 in
set_option maxHeartbeats 0 in
theorem commonpath_x : ∀ (w : World) (p : Program) (loose : List Str) (mean : ExcName → Option Value) (mg mb : Str → Option Value) (s : Shared) (B : Heap) (hB : ∀ b o, B.get? b = some o → s.heap.get? b = some o) (X : (fragK.heap_1 w.params).In B) (XN : KNin w B) (T : Top p loose mean mg mb B) (l : Addr) (vs : List Value) (ws : List (List (List Nat))) (n : Nat) (Q E : Value → Shared → Prop)
   (hv : StrsAre vs (ws.map fun w => tx (47 :: jn 47 w))) (hl : s.heap.get? l = some (W.listOf vs.toArray n) ∧ B.get? l = none) (hne : ws ≠ []) (hn : ws.length ≤ 1000) (hok : ∀ w ∈ ws, Ok w)
   (hret : ∀ t' h' tk', (∀ b o, s.heap.get? b = some o → h'.get? b = some o) → Q (.str (tx (47 :: jn 47 (cpre (ws.getD (argBest (fun i j => ltW (ws.getD i []) (ws.getD j [])) (ws.length - 1)) []) (ws.getD (argBest (fun i j => ltW (ws.getD j []) (ws.getD i [])) (ws.length - 1)) [])))) t') { s with heap := h', toks := tk' }),
   wpAny (model PySem.Challenge.rw_in0142_01.row.prog w) (AR 420 220) (call (.ref 223) [.ref l]) Q E s := by
  k_fill
  intro w p loose mean mg mb s B hB X XN T l vs ws n Q E hv hl hne hn hok hret
  have ho : ∀ q ∈ [(l, W.listOf vs.toArray n)], s.heap.get? q.1 = some q.2 ∧ B.get? q.1 = none := by
    intro q hq; rw [List.mem_singleton.mp hq]; exact hl
  refine' enterC (binds := [(Str.ofString "paths", .ref l)]) (objs := [(l, W.listOf vs.toArray n)]) hB ho X T (by decide) ?k6 ?k7 ?k9 ?kB ?kD ?_ ?c2 ?c3 ?c4
  case k6 => k_is
  case k7 => k_is
  case k9 => exact BindsTo.of_eq rfl
  case kB => exact rfl
  case kD => decide +kernel
  case c2 => exact rfl
  case c3 => exact rfl
  case c4 => exact rfl
  intro g L h1 tk cells hBg hsg F N Y
  k_cells Y
  (try simp only [List.cons_append, List.nil_append] at N)
  replace X := X.keeps hBg
  replace XN := XN.keeps hBg
  replace T := T.keeps hBg
  have z1 : (ws.map fun w => tx (47 :: jn 47 w)).length ≤ 1000000 := by rw [List.length_map]; omega
  have z2 : (ws.map fun w => tx (47 :: jn 47 w)) ≠ [] := by simpa using hne
  obtain ⟨v0, hv0⟩ : ∃ v0, vs[0]? = some v0 := by
    have hvn := strs_ne hv z2
    cases vs with
    | nil => exact absurd rfl hvn
    | cons a r => exact ⟨a, rfl⟩
  obtain ⟨y0, t0, hy0, rfl⟩ := strsAre_get hv hv0
  try dsimp only
  try k_fold
  repeat' (first | (k_here; (with_reducible show wpAny _ _ (exec (Stmt.Try _ (_ :: _) _ [] _) _) _ _ _); refine try_calm ?_) | (k_here; (with_reducible show wpAny _ _ (call (Value.type "map") [Value.ref 161, Value.ref _]) _ _ _); (refine' map_made ?qzF ?qzN ?qzm ?_; (case qzF => k_asm); (case qzN => k_asm); (case qzm => k_mem); k_whole); intro h' it' TI' M' F' N' n1' n2' n3') | (k_here; (with_reducible show wpAny _ _ (call (Value.type "tuple") [Value.ref _]) _ _ _); (refine' tuple_fspath ?qzv ?qzh1 ?qzh2 ?qzh3 ?qzF ?qzN ?qzm ?qzX ?qzT ?qzz ?qza ?qzb ?qzc ?_; (case qzF => k_asm); (case qzN => k_asm); (case qzh1 => assumption); (case qzh2 => assumption); (case qzh3 => assumption); (case qzm => k_mem); (case qzv => assumption); (case qzX => assumption); (case qzT => assumption); (case qzz => exact small (by assumption) (by assumption)); (case qza => exact rfl); (case qzb => exact Nat.le_of_ble_eq_true rfl); (case qzc => exact Nat.le_of_ble_eq_true rfl); k_whole); intro h' tk' D' F' N') | (k_here; (with_reducible show wpAny _ _ (truthy (Value.ref _)) _ _ _); (refine' truthy_tt ?qzN ?qzm ?qze ?qzz ?_; (case qzN => k_asm); (case qzm => k_mem); (case qze => exact strs_ne (by assumption) (by assumption)); (case qzz => exact small (by assumption) (by assumption)); k_whole)) | (k_here; (with_reducible show wpAny _ _ (subscriptTail _ _ (Value.ref _) (Value.int 0 _)) _ _ _); (with_unfolding_all refine' item_t ?qzN ?qzm ?qze ?qzz ?_; (case qzN => k_asm); (case qzm => k_mem); (case qze => assumption); (case qzz => exact small (by assumption) (by assumption)); k_whole)) | (k_unfold; (try dsimp only)) | (k_end; wrow_close) | walk1 | (dsimp only; walk1) | (leave1; walk_say "STEP leave1"; try dsimp only) | fail "no step")
  (rename Fr _ _ _ _ => F9); (rename News _ _ _ _ => N9)
  simp only [List.cons_append, List.nil_append] at N9
  unfold Halt
  refine Assign_tup (F₀ := F9) (by rfl) (by with_unfolding_all rfl) (by with_unfolding_all rfl) (by decide) (by rfl) (by decide) (by rfl) (by rfl) (by rfl) ?_
  k_steps
  (rename_i tkx)
  refine ⟨_, vs.toArray, _, rfl, rfl, F9, N9, .head _, by rw [List.size_toArray]; exact sz (small hv z1), ?_⟩
  rintro s₂ ⟨hp₂, rfl⟩
  refine rest_inv (fun i ys nw => ∃ tl rs, nw = _ :: _ :: _ :: _ :: tl ∧ ys = rs.map Value.ref ∧ Rows tl rs ((ws.take i).map splitW)) ?fin ?turn _ 0 [] _ (Nat.zero_add _) ⟨[], [], rfl, rfl, by rw [List.take_zero]; exact Rows.nil _⟩
  case turn =>
    rintro i v ys nw I oI C oC D m₂ h tk E' hi ⟨tl, rs, rfl, rfl, hR⟩ hP ho hm F N off hne
    obtain ⟨wi, ti, hwi, rfl⟩ := strs_paths hv (i := i) (v := v) (by simpa using hP)
    have hwm : Ok wi := hok wi (List.mem_of_getElem? hwi)
    have e1 := split_path hwm
    have e2 := hwm.len
    clear F9 N9
    repeat' (first | (k_here; (with_reducible show wpAny _ _ (call (Value.builtin "str.split") [Value.str _ _, Value.str _ _]) _ _ _); (refine splits (by k_asm) (by k_asm) (by first | assumption | decide +kernel) (by assumption) (by assumption) ?_); intro a' vs' h' tk' hS' F' N' hlt') | (k_unfold; (try dsimp only)) | (k_end; wrow_close) | walk1 | (dsimp only; walk1) | (leave1; walk_say "STEP leave1"; try dsimp only) | fail "no step")
    rename StrsAre _ _ => hS
    rename (∀ p ∈ _, _ < _) => hlt
    rename News _ _ _ _ => N9
    refine end_new [_, _, _, _] tl (by assumption) N9 hlt off (.head _) ⟨_, rs ++ [_], rfl, by rw [List.map_append]; rfl, ?_⟩
    rw [take_snoc splitW hwi]
    exact Rows.snoc hR hS
  case fin =>
    rintro ys nw ⟨tl, rs, rfl, rfl, hR⟩ D9 h9 tk9 F9 N9 off9
    have hlen : vs.length = ws.length := by rw [strsAre_len hv, List.length_map]
    rw [List.size_toArray, hlen, List.take_length] at hR
    dsimp only
    repeat' (first | (k_here; (with_reducible show wpAny _ _ (exec (Stmt.Try _ (_ :: _) _ [] _) _) _ _ _); refine try_calm ?_) | (k_unfold; (try dsimp only)) | (k_end; wrow_close) | walk1 | (dsimp only; walk1) | (leave1; walk_say "STEP leave1"; try dsimp only) | fail "no step")
    unfold Halt
    refine Assign_Tuple ?_ (by with_unfolding_all rfl) (by with_unfolding_all rfl)
    refine eval_SetComp_tup (F₀ := F9) (by with_unfolding_all rfl) (by decide) (by rfl) (by decide) (by rfl) ?_
    k_steps
    refine ⟨_, vs.toArray, _, rfl, rfl, F9, N9, .tail _ (.head _), by rw [List.size_toArray]; exact sz (small hv z1), by rw [List.size_toArray]; exact (List.getElem?_eq_some_iff.mp hv0).1, ?_, ?_⟩
    · intro i v I oI C oC D oD m₂ s₁ E' hP ho hm F N
      obtain ⟨wi, ti, hwi, rfl⟩ := strs_paths hv (i := i) (v := v) (by simpa using hP)
      have e1 := starts_t (jn 47 wi)
      clear F9 N9
      k_steps
      exact ⟨rfl, s₁.heap, s₁.toks, rfl, by assumption, by assumption⟩
    · intro D h' tk F N
      dsimp only
      refine assign_sb rfl (by rfl) (by rfl) F N fun h' tk F N => ?_
      clear F9 N9
      dsimp only
      k_steps
      unfold Halt
      refine LCg.Assign_ListComp_U (F₀ := F) (by rfl) (by with_unfolding_all rfl) (by with_unfolding_all rfl) (by decide) (by rfl) (by decide) (by rfl) (by rfl) (by rfl) ?_
      k_steps
      refine LCg.CompSrc.ledger rfl F N (.head _) ?_ fun gp => ?_
      · rw [List.size_toArray, List.length_map, hR.1, List.length_map]; exact sz (by omega)
      refine rest_inv (fun i ys nw => ∃ tl2 rs2, nw = _ :: _ :: _ :: _ :: _ :: (tl2 ++ tl) ∧ ys = rs2.map Value.ref ∧ Rows tl2 rs2 (ws.take i)) ?fin2 ?turn2 _ 0 [] _ (Nat.zero_add _) ⟨[], [], rfl, rfl, by rw [List.take_zero]; exact Rows.nil _⟩
      case turn2 =>
        rintro i v ys nw I oI C oC D m₂ h tk E' hi ⟨tl2, rs2, rfl, rfl, hR2⟩ hP ho hm F N off hne
        obtain ⟨ri, wi', vi, ki, hri, rfl, hwi', hmi, hvi⟩ := hR.get (i := i) (v := v) (by simpa using hP)
        rw [List.getElem?_map] at hwi'
        obtain ⟨wi, hwi, rfl⟩ : ∃ wi, ws[i]? = some wi ∧ wi' = splitW wi := by
          cases hw : ws[i]? with
          | none => rw [hw] at hwi'; cases hwi'
          | some wi => rw [hw] at hwi'; cases hwi'; exact ⟨wi, rfl, rfl⟩
        have hwm : Ok wi := hok wi (List.mem_of_getElem? hwi)
        refine LCt.ListComp_T (F₀ := F) (by with_unfolding_all rfl) (by decide) (by rfl) (by decide) (by rfl) ?_
        k_steps
        have hmr : ∀ (x0 x1 x2 x3 x4 x5 x6 x7 : Addr × Obj), (ri, W.listOf vi.toArray ki) ∈ x0 :: x1 :: x2 :: x3 :: x4 :: x5 :: x6 :: x7 :: (tl2 ++ tl) := fun _ _ _ _ _ _ _ _ =>
          .tail _ (.tail _ (.tail _ (.tail _ (.tail _ (.tail _ (.tail _ (.tail _ (List.mem_append.mpr (.inr hmi)))))))))
        refine LCt.CompSrcT.ledger (k := ki) (its := vi.toArray) rfl F N (hmr _ _ _ _ _ _ _ _) ?_ fun gp2 => ?_
        · rw [List.size_toArray, strsAre_len hvi, List.length_map]; exact sz (splitW_len hwm)
        refine restT_inv (fun j ys nw => nw = _ ∧ StrsAre ys ((((splitW wi).take j).filter kept).map tx)) ?fin3 ?turn3 _ 0 [] _ (Nat.zero_add _) ⟨rfl, by rw [List.take_zero]; exact StrsAre.nil⟩
        case turn3 =>
          rintro j v ys nw I2 oI2 C2 oC2 D2 m3 h3 tk3 E3 hj ⟨rfl, hys⟩ hP2 ho2 hm3 F3 N3 off3 hne3
          obtain ⟨y, ty, hy, rfl⟩ := strsAre_get hvi (i := j) (v := v) (by simpa using hP2)
          obtain ⟨q, hq, rfl⟩ : ∃ q, (splitW wi)[j]? = some q ∧ y = tx q := by
            rw [List.getElem?_map] at hy
            cases hq : (splitW wi)[j]? with
            | none => rw [hq] at hy; cases hy
            | some q => rw [hq] at hy; cases hy; exact ⟨q, rfl, rfl⟩
          have hfs := filter_snoc (p := kept) hq
          clear F N
          rcases splitW_mem hwm (List.mem_of_getElem? hq) with rfl | ⟨q1, q2, q3⟩
          · have e0 : ([] : List Nat) = [] := rfl
            k_steps
            refine end_same _ (by assumption) (by assumption) off3 (.inr ⟨_, hmr _ _ _ _ _ _ _ _, rfl, _, rfl⟩) ⟨rfl, ?_⟩
            rw [hfs]; simpa [kept] using hys
          · have e1 : tx q ≠ Str.ofString "." := by rw [lit_dot]; exact fun e => q2 (tx_inj e)
            have e2 : (tx q).length ≤ 1000000 := by rw [tx_len]; exact q3
            k_steps
            refine end_same _ (by assumption) (by assumption) off3 (.inr ⟨_, hmr _ _ _ _ _ _ _ _, rfl, _, rfl⟩) ⟨rfl, ?_⟩
            rw [hfs, show kept q = true from by simp [kept, q1, q2], if_pos rfl, List.map_append]
            exact strsAre_push hys
        case fin3 =>
          rintro ys nw ⟨rfl, hys⟩ D3 h3 tk3 F3 N3 off3
          have hlv : vi.length = (splitW wi).length := by rw [strsAre_len hvi, List.length_map]
          rw [List.size_toArray, hlv, List.take_length, kept_splitW hwm] at hys
          refine end_new2 [_, _, _, _, _] (tl2 ++ tl) F3 N3 off3 off (.inr ⟨_, .head _, rfl, _, rfl⟩) ⟨_ :: tl2, rs2 ++ [D3], rfl, by rw [List.map_append]; rfl, ?_⟩
          rw [show ws.take (i + 1) = ws.take i ++ [wi] from by rw [List.take_add_one, hwi]; rfl]
          exact Rows.snoc hR2 hys
      case fin2 =>
        rintro ys nw ⟨tl2, rs2, rfl, rfl, hR2⟩ D8 h8 tk8 F8 N8 off8
        rw [List.size_toArray, List.length_map, hR.1, List.length_map, List.take_length] at hR2
        dsimp only
        have hl2 : rs2.length = ws.length := hR2.1
        have hpos : 0 < rs2.length := by rw [hl2]; exact List.length_pos_iff.mpr hne
        clear hR
        repeat' (first | (k_here; (with_reducible show wpAny _ _ (call (Value.builtin "min") [Value.ref _]) _ _ _); (refine' min_l (by assumption) ?qzF ?qzN ?qzm ?qzr ?qzq ?qzz ?qza ?qzu ?_; (case qzF => k_asm); (case qzN => k_asm); (case qzm => k_mem); (case qzr => (intro p hp; (repeat (refine List.Mem.tail _ ?_)); exact List.mem_append.mpr (.inl hp))); (case qzq => exact rfl); (case qzz => assumption); (case qza => exact rfl); (case qzu => exact Nat.le_of_ble_eq_true rfl); walk_at "c1")) | (k_here; (with_reducible show wpAny _ _ (call (Value.builtin "max") [Value.ref _]) _ _ _); (refine' max_l (by assumption) ?qzF ?qzN ?qzm ?qzr ?qzq ?qzz ?qza ?qzu ?_; (case qzF => k_asm); (case qzN => k_asm); (case qzm => k_mem); (case qzr => (intro p hp; (repeat (refine List.Mem.tail _ ?_)); exact List.mem_append.mpr (.inl hp))); (case qzq => exact rfl); (case qzz => assumption); (case qza => exact rfl); (case qzu => exact Nat.le_of_ble_eq_true rfl); walk_at "c1")) | (k_unfold; (try dsimp only)) | (k_end; wrow_close) | walk1 | (dsimp only; walk1) | (leave1; walk_say "STEP leave1"; try dsimp only) | fail "no step")
        rename (_ = argBest (fun i j => ltW (List.getD ws i []) (List.getD ws j [])) _) => hb1
        rename (_ = argBest (fun i j => ltW (List.getD ws j []) (List.getD ws i [])) _) => hb2
        rename Fr _ _ _ _ => F7
        rename News _ _ _ _ => N7
        unfold Halt
        rw [hl2] at hb1 hb2
        have hwpos : 0 < ws.length := List.length_pos_iff.mpr hne
        have hA2 : argBest (fun i j => ltW (ws.getD j []) (ws.getD i [])) (ws.length - 1) < ws.length := by
          have := best_le (fun i j => ltW (ws.getD j []) (ws.getD i [])) (ws.length - 1); omega
        have hA1 : argBest (fun i j => ltW (ws.getD i []) (ws.getD j [])) (ws.length - 1) < ws.length := by
          have := best_le (fun i j => ltW (ws.getD i []) (ws.getD j [])) (ws.length - 1); omega
        have q0 := lo_min ws hA2
        generalize argBest (fun i j => ltW (ws.getD i []) (ws.getD j [])) (ws.length - 1) = A1 at q0 hret hb1 hA1
        generalize argBest (fun i j => ltW (ws.getD j []) (ws.getD i [])) (ws.length - 1) = A2 at q0 hret hb2 hA2
        replace hb1 := hb1.symm
        replace hb2 := hb2.symm
        subst hb1
        subst hb2
        have e1 : ws.getD A1 [] = ws[A1] := by simp [List.getD, hA1]
        have e2 : ws.getD A2 [] = ws[A2] := by simp [List.getD, hA2]
        rw [e1, e2] at q0 hret
        have ok1 : Ok ws[A1] := hok _ (List.getElem_mem hA1)
        obtain ⟨v1, k1, hm1, hs1⟩ := hR2.2 A1 (hl2 ▸ hA1) hA1
        obtain ⟨v2, k2, hm2, hs2⟩ := hR2.2 A2 (hl2 ▸ hA2) hA2
        generalize ws[A1] = lo at *
        generalize ws[A2] = hi at *
        generalize rs2[A1] = R1 at *
        generalize rs2[A2] = R2 at *
        have N6 : News g L _ ((R1, W.listOf v1.toArray k1) :: (R2, W.listOf v2.toArray k2) :: _ :: _ :: _ :: _ :: _ :: _ :: (tl2 ++ tl)) := fun p hp => by
          rcases List.mem_cons.mp hp with rfl | hp
          · exact N7 _ (by (repeat (refine List.Mem.tail _ ?_)); exact List.mem_append.mpr (.inl hm1))
          rcases List.mem_cons.mp hp with rfl | hp
          · exact N7 _ (by (repeat (refine List.Mem.tail _ ?_)); exact List.mem_append.mpr (.inl hm2))
          · exact N7 p hp
        clear N7
        refine For_enum ?_ (fun _ => rfl)
        k_steps
        have lv1 : v1.length = lo.length := by rw [strsAre_len hs1, List.length_map]
        have lo9 : lo.length ≤ 900000 := by have := ok1.tot; omega
        have lz1 : v1.length ≤ 1000000 := by omega
        have s0 := lit_slash
        refine enum_call rfl (by rfl) (by rfl) (by rfl) PassesOwn.never F7 N6 (.head _) (Agree lo hi) (fun j hj => absurd hj (Nat.not_lt_zero _)) ?turn4 ?done4
        case turn4 =>
          intro i v t h tk hv4 hJ F N
          clear F7 N6
          obtain ⟨q, tq, hq, rfl⟩ := strs_walk hs1 hv4
          have hil : i < lo.length := (List.getElem?_eq_some_iff.mp hq).1
          cases hq2 : hi[i]? with
          | none => rw [no_short hJ hq hq2] at q0; cases q0
          | some q' =>
            obtain ⟨t', hv2⟩ := strsAre_at hs2 (i := i) (y := tx q') (by rw [List.getElem?_map, hq2]; rfl)
            have e3 : v2[((i : Nat) : Int).toNat]? = some (.str (tx q') t') := by simpa using hv2
            dsimp only [bnd2] at F
            by_cases hqq : q = q'
            · have e4 : tx q = tx q' := by rw [hqq]
              repeat' (first | (k_here; (with_reducible show wpAny _ _ (subscriptTail _ _ (Value.ref _) (Value.int _ _)) _ _ _); (with_unfolding_all refine' item_at ?qzN ?qzm ?qza ?qzb ?qze ?_; (case qzN => k_asm); (case qzm => k_mem); (case qza => omega); (case qzb => omega); (case qze => assumption); k_whole)) | (k_unfold; (try dsimp only)) | (k_end; wrow_close) | walk1 | (dsimp only; walk1) | (leave1; walk_say "STEP leave1"; try dsimp only) | fail "no step")
              all_goals first | exact agree_snoc hJ hq hq2 hqq | exact ⟨_, _, rfl, fun _ _ e => e⟩
            · have e4 : tx q ≠ tx q' := fun e => hqq (tx_inj e)
              have okc := ok1.take i
              have f0 : StrsAre (v1.take ((i : Nat) : Int).toNat) ((lo.take i).map tx) := by rw [Int.toNat_natCast, List.map_take]; exact strsAre_take hs1 i
              have f1 := join_lit (lo.take i)
              have f2 := join_size okc
              have f3 : Str.ofString "/" ++ tx (jn 47 (lo.take i)) = tx (47 :: jn 47 (lo.take i)) := by rw [lit_slash, tx_app]; rfl
              have f4 := okc.len
              rw [cpre_brk hJ hq hq2 hqq] at hret
              repeat' (first | (k_here; (with_reducible show wpAny _ _ (subscriptTail _ _ (Value.ref _) (Value.int _ _)) _ _ _); (with_unfolding_all refine' item_at ?qzN ?qzm ?qza ?qzb ?qze ?_; (case qzN => k_asm); (case qzm => k_mem); (case qza => omega); (case qzb => omega); (case qze => assumption); k_whole)) | ((with_reducible show wpAny _ _ (call (Value.builtin "str.join") _ _) _ _ _); (k_here; (refine' joins ?qzN ?qzm ?qzi ?qze ?qzo ?_; (case qzN => k_asm); (case qzm => k_mem); (case qzi => assumption); (case qze => assumption); (case qzo => assumption); k_whole); intro _ _)) | (k_here; (with_reducible show wpAny _ _ (subscriptTail _ (PySem.Expr.Slice _ _ none _) (Value.ref _) (Value.ref _)) _ _ _); (refine' sl_l ?qzF ?qzN ?qzl ?qzp ?qzq ?qze ?qzz ?_ ?qzs ?qzt; (case qzF => k_asm); (case qzN => k_asm); (case qzl => k_mem); (case qzp => kmk_part); (case qzq => kmk_part); (case qze => first | exact pick_from0 | exact pick_last | exact pick_from (by omega) | exact pick_upto (by omega)); (case qzz => first | assumption | exact Nat.le_of_ble_eq_true rfl | exact small (by assumption) (by assumption)); (case qzs => with_unfolding_all rfl); (case qzt => kmk_pure); k_whole); (intro qzD qzh qzF qzN qzl; (try k_lt qzl); (try dsimp only [List.nil_append, List.cons_append] at qzN); (try k_sweep))) | (k_unfold; (try dsimp only)) | (k_end; wrow_close) | walk1 | (dsimp only; walk1) | (leave1; walk_say "STEP leave1"; try dsimp only) | fail "no step")
              exact hret _ _ _ (keepsN (fun q hq => (ho q hq).1) hsg (by assumption) (by assumption) (by intro q hq; rw [List.mem_singleton.mp hq]; k_mem))
        case done4 =>
          intro ui uc h tk hJ F N
          clear F7 N6
          rw [lv1] at hJ
          dsimp only [bnd2] at F
          have f1 := join_lit lo
          have f2 := join_size ok1
          have f3 : Str.ofString "/" ++ tx (jn 47 lo) = tx (47 :: jn 47 lo) := by rw [lit_slash, tx_app]; rfl
          have f4 := ok1.len
          rw [cpre_all hJ] at hret
          repeat' (first | ((with_reducible show wpAny _ _ (call (Value.builtin "str.join") _ _) _ _ _); (k_here; (refine' joins ?qzN ?qzm ?qzi ?qze ?qzo ?_; (case qzN => k_asm); (case qzm => k_mem); (case qzi => assumption); (case qze => assumption); (case qzo => assumption); k_whole); intro _ _)) | (k_unfold; (try dsimp only)) | (k_end; wrow_close) | walk1 | (dsimp only; walk1) | (leave1; walk_say "STEP leave1"; try dsimp only) | fail "no step")
          exact hret _ _ _ (keepsN (fun q hq => (ho q hq).1) hsg (by assumption) (by assumption) (by intro q hq; rw [List.mem_singleton.mp hq]; k_mem))
end

section
section
variable {w : World} {A : Around} {E : Value → Shared → Prop} {s : Shared} {Q : Value → Shared → Prop} {h₀ : Heap} {L : Addr} {m : Str → Option Value} {news : List (Addr × Obj)} {p : Program} {loose : List Str} {mean : ExcName → Option Value} {mg mb : Str → Option Value}
theorem commonpath_ {l : Addr} {vs : List Value} {ws : List (List (List Nat))} {n : Nat} (hv : StrsAre vs (ws.map fun w => tx (47 :: jn 47 w))) (hne : ws ≠ []) (hn : ws.length ≤ 1000) (hok : ∀ w ∈ ws, Ok w) (F : Fr h₀ L s.heap m) (N : News h₀ L s.heap news) (K : (fragK.heap_1 w.params).In h₀) (X : KNin w h₀) (T : Top p loose mean mg mb h₀) (hA : A.handled = none) (hd : A.depth ≤ 420) (hu : A.units ≤ 220)
    (hl : (l, W.listOf vs.toArray n) ∈ news)
    (h : ∀ t' h' tk', Fr h₀ L h' m → News h₀ L h' news → Q (.str (tx (47 :: jn 47 (cp ws))) t') { s with heap := h', toks := tk' }) :
    wpAny (model PySem.Challenge.rw_in0142_01.row.prog w) A (call (.ref 223) [.ref l]) Q E s :=
  wk hA hd hu (commonpath_x w p loose mean mg mb s h₀ F.keep K X T l vs ws n Q E hv ⟨N.get hl, N.fresh hl⟩ hne hn hok fun t' h' tk' k => h t' h' tk' (F.keeps k) (News.keeps N k))
end
set_option maxRecDepth 100000 in
set_option maxHeartbeats 0 in
theorem shared_x : ∀ (w : World) (p : Program) (loose : List Str) (mean : ExcName → Option Value) (mg mb : Str → Option Value) (s : Shared) (X : (fragK.heap_1 w.params).In s.heap) (XN : KNin w s.heap) (T : Top p loose mean mg mb s.heap) (a b : List (List Nat)) (t1 t2 : Tok) (Q E : Value → Shared → Prop)
   (oka : Ok a) (okb : Ok b)
   (hret : ∀ t' h' tk', (∀ b o, s.heap.get? b = some o → h'.get? b = some o) → Q (.str (tx (47 :: jn 47 (cp [a, b]))) t') { s with heap := h', toks := tk' }),
   wpAny (model PySem.Challenge.rw_in0142_01.row.prog w) (AR 415 215) (call (.ref 230) [.str (tx (47 :: jn 47 a)) t1, .str (tx (47 :: jn 47 b)) t2]) Q E s := by
  k_fill
  intro w p loose mean mg mb s X XN T a b t1 t2 Q E oka okb hret
  refine' enter (binds := [(Str.ofString "one", .str (tx (47 :: jn 47 a)) t1), (Str.ofString "other", .str (tx (47 :: jn 47 b)) t2)]) X T.nolimit (by decide) ?k6 ?k7 ?k9 ?kB ?_ ?c2 ?c3 ?c4 ?c5
  case k6 => k_is
  case k7 => k_is
  case k9 => exact BindsTo.of_eq rfl
  case kB => exact locs rfl
  case c2 => exact rfl
  case c3 => exact rfl
  case c4 => exact rfl
  case c5 => decide
  intro L h1 F N
  have hv : StrsAre [.str (tx (47 :: jn 47 a)) t1, .str (tx (47 :: jn 47 b)) t2] ([a, b].map fun w => tx (47 :: jn 47 w)) := .cons _ _ (.cons _ _ .nil)
  have e1 : [a, b] ≠ [] := by simp
  have e2 : [a, b].length ≤ 1000 := by simp
  have e3 : ∀ w ∈ [a, b], Ok w := by intro w hw; simp only [List.mem_cons, List.not_mem_nil, or_false] at hw; rcases hw with rfl | rfl <;> assumption
  try dsimp only
  try k_fold
  repeat' (first | (k_here; (with_reducible show wpAny _ _ (call (Value.ref 223) [Value.ref _]) _ _ _); (with_unfolding_all refine' commonpath_ ?qzv ?qzn ?qznn ?qzok ?_ ?_ ?_ ?_ ?_ ?_ ?_ ?_ ?qzl ?_; walk_at "cF"; (case qzv => assumption); (case qzl => k_mem); (case qzn => assumption); (case qznn => assumption); (case qzok => assumption); walk_at "c1")) | (k_unfold; (try dsimp only)) | (k_end; wrow_close) | walk1 | (dsimp only; walk1) | (leave1; walk_say "STEP leave1"; try dsimp only) | fail "no step")
  exact hret _ _ _ (Fr.keep (by assumption))
theorem shared_ {w : World} {A : Around} {E : Value → Shared → Prop} {s : Shared} {Q : Value → Shared → Prop} {h₀ : Heap} {L : Addr} {m : Str → Option Value} {news : List (Addr × Obj)} {p : Program} {loose : List Str} {mean : ExcName → Option Value} {mg mb : Str → Option Value} {a b : List (List Nat)} {t1 t2 : Tok} (oka : Ok a) (okb : Ok b) (F : Fr h₀ L s.heap m) (N : News h₀ L s.heap news) (K : (fragK.heap_1 w.params).In h₀) (X : KNin w h₀) (T : Top p loose mean mg mb h₀) (hA : A.handled = none) (hd : A.depth ≤ 415) (hu : A.units ≤ 215)
    (h : ∀ t' h' tk', Fr h₀ L h' m → News h₀ L h' news → Q (.str (tx (47 :: jn 47 (cp [a, b]))) t') { s with heap := h', toks := tk' }) :
    wpAny (model PySem.Challenge.rw_in0142_01.row.prog w) A (call (.ref 230) [.str (tx (47 :: jn 47 a)) t1, .str (tx (47 :: jn 47 b)) t2]) Q E s :=
  wk hA hd hu (shared_x w p loose mean mg mb s (K.keeps F.keep) (X.keeps F.keep) (T.keeps F.keep) a b t1 t2 Q E oka okb fun t' h' tk' k => h t' h' tk' (F.keeps k) (News.keeps N k))
end

section
local macro_rules | `(tactic| walk_at "exec For Name Name cons nil") => `(tactic| (k_here; refine Halt.out ?_))
local macro_rules | `(tactic| walk_at "exec For Name Name") => `(tactic| (k_here; refine Halt.out ?_))
local macro_rules | `(tactic| walk_at "exec For") => `(tactic| (k_here; refine Halt.out ?_))
set_option maxRecDepth 100000 in
set_option maxHeartbeats 0 in
theorem reduce_x : ∀ (w : World) (p : Program) (loose : List Str) (mean : ExcName → Option Value) (mg mb : Str → Option Value) (s : Shared) (B : Heap) (hB : ∀ b o, B.get? b = some o → s.heap.get? b = some o) (X : (fragK.heap_1 w.params).In B) (XN : KNin w B) (T : Top p loose mean mg mb B) (l : Addr) (vs : List Value) (w0 : List (List Nat)) (ws : List (List (List Nat))) (n : Nat) (Q E : Value → Shared → Prop)
   (hv : StrsAre vs ((w0 :: ws).map fun w => tx (47 :: jn 47 w))) (hl : s.heap.get? l = some (W.listOf vs.toArray n) ∧ B.get? l = none) (hok : ∀ w ∈ w0 :: ws, Ok w)
   (hret : ∀ t' h' tk', (∀ b o, s.heap.get? b = some o → h'.get? b = some o) → Q (.str (tx (47 :: jn 47 (rd (w0 :: ws)))) t') { s with heap := h', toks := tk' }),
   wpAny (model PySem.Challenge.rw_in0142_01.row.prog w) (AR 410 210) (call (.ref 88) [.ref 230, .ref l]) Q E s := by
  k_fill
  intro w p loose mean mg mb s B hB X XN T l vs w0 ws n Q E hv hl hok hret
  have ho : ∀ q ∈ [(l, W.listOf vs.toArray n)], s.heap.get? q.1 = some q.2 ∧ B.get? q.1 = none := by
    intro q hq; rw [List.mem_singleton.mp hq]; exact hl
  have Xs := X.keeps hB
  refine' enterN (binds := [(Str.ofString "function", .ref 230), (Str.ofString "sequence", .ref l), (Str.ofString "initial", .ref 80)]) (objs := [(l, W.listOf vs.toArray n)]) hB ho X T (by decide) ?k6 ?k7 ?k9 ?kB ?_ ?c2 ?c3 ?c4 ?c5
  case k6 => k_is
  case k7 => k_is
  case k9 => exact binds_peek Xs fun _ => rfl
  case kB => exact locs rfl
  case c2 => exact rfl
  case c3 => exact rfl
  case c4 => exact rfl
  case c5 => decide
  intro g L h1 hBg hsg F N
  replace X := X.keeps hBg
  replace XN := XN.keeps hBg
  replace T := T.keeps hBg
  clear Xs
  obtain ⟨t0, hv0⟩ := strsAre_at hv (i := 0) (y := tx (47 :: jn 47 w0)) rfl
  try dsimp only
  try k_fold
  repeat' (first | (k_here; (with_reducible show wpAny _ _ (call (Value.builtin "iter") [Value.ref _]) _ _ _); (refine' iter_l ?qzF ?qzN ?qzm ?_; (case qzF => k_asm); (case qzN => k_asm); (case qzm => k_mem); k_whole); intro I' h' F' N' l1') | (k_here; (with_reducible show wpAny _ _ (call (Value.builtin "next") [Value.ref _]) _ _ _); (refine' next_l ?qzF ?qzN ?qzm ?qzo ?qzv ?_; (case qzF => k_asm); (case qzN => k_asm); (case qzm => k_mem); (case qzo => assumption); (case qzv => assumption); k_whole); intro h' o' F' hit' N') | (k_here; (with_reducible refine' shared_ (oka := ?qzoa) (okb := ?qzob) ..); (with_unfolding_all (walk_at "cF"; (case qzoa => assumption); (case qzob => assumption); walk_at "c1"))) | (k_unfold; (try dsimp only)) | (k_end; wrow_close) | walk1 | (dsimp only; walk1) | (leave1; walk_say "STEP leave1"; try dsimp only) | fail "no step")
  rename (∀ H : Heap, _) => hit
  rename (∀ p ∈ _, _ < _) => l9
  rename Fr _ _ _ _ => F9
  rename News _ _ _ _ => N9
  have hlen : vs.length = (w0 :: ws).length := by rw [strsAre_len hv, List.length_map]
  unfold Halt
  refine For_enum ?_ (fun _ => rfl)
  repeat' (first | (k_here; (with_reducible show wpAny _ _ (call (Value.builtin "iter") [Value.ref _]) _ _ _); (refine' iter_l ?qzF ?qzN ?qzm ?_; (case qzF => k_asm); (case qzN => k_asm); (case qzm => k_mem); k_whole); intro I' h' F' N' l1') | (k_here; (with_reducible show wpAny _ _ (call (Value.builtin "next") [Value.ref _]) _ _ _); (refine' next_l ?qzF ?qzN ?qzm ?qzo ?qzv ?_; (case qzF => k_asm); (case qzN => k_asm); (case qzm => k_mem); (case qzo => assumption); (case qzv => assumption); k_whole); intro h' o' F' hit' N') | (k_here; (with_reducible refine' shared_ (oka := ?qzoa) (okb := ?qzob) ..); (with_unfolding_all (walk_at "cF"; (case qzoa => assumption); (case qzob => assumption); walk_at "c1"))) | (k_unfold; (try dsimp only)) | (k_end; wrow_close) | walk1 | (dsimp only; walk1) | (leave1; walk_say "STEP leave1"; try dsimp only) | fail "no step")
  refine iter_at (i₀ := 1) (st := Str.ofString "value") (l := l) (vs := vs) (n := n) rfl (by rfl) (by rfl) PassesOwn.never (hit _ (N9.get (.head _))) (by rw [hlen]; simp) (Fr.two F9 (if_pos rfl)) N9 (fun p hp => Nat.ne_of_lt (l9 p hp)) (.head _) (fun i v => ∃ t, v = .str (tx (47 :: jn 47 (rd ((w0 :: ws).take i)))) t) ⟨t0, rfl⟩ ?turn ?done
  case turn =>
    rintro i e v o h tk he hi ⟨t, rfl⟩ F N
    clear F9 N9 hit
    obtain ⟨wi, te, hwi, rfl⟩ := strs_paths hv he
    have ok2 : Ok wi := hok wi (List.mem_of_getElem? hwi)
    have htn : (w0 :: ws).take i ≠ [] := by cases i with | zero => omega | succ i => simp
    have ok1 : Ok (rd ((w0 :: ws).take i)) := rd_ok htn fun w hw => hok w (List.mem_of_mem_take hw)
    have hsn : rd ((w0 :: ws).take (i + 1)) = cp [rd ((w0 :: ws).take i), wi] := by rw [List.take_add_one, hwi]; exact rd_snoc htn wi
    rw [hsn]
    generalize rd ((w0 :: ws).take i) = P at *
    try dsimp only [bnd2] at F
    repeat' (first | (k_here; (with_reducible show wpAny _ _ (call (Value.builtin "iter") [Value.ref _]) _ _ _); (refine' iter_l ?qzF ?qzN ?qzm ?_; (case qzF => k_asm); (case qzN => k_asm); (case qzm => k_mem); k_whole); intro I' h' F' N' l1') | (k_here; (with_reducible show wpAny _ _ (call (Value.builtin "next") [Value.ref _]) _ _ _); (refine' next_l ?qzF ?qzN ?qzm ?qzo ?qzv ?_; (case qzF => k_asm); (case qzN => k_asm); (case qzm => k_mem); (case qzo => assumption); (case qzv => assumption); k_whole); intro h' o' F' hit' N') | (k_here; (with_reducible refine' shared_ (oka := ?qzoa) (okb := ?qzob) ..); (with_unfolding_all (walk_at "cF"; (case qzoa => assumption); (case qzob => assumption); walk_at "c1"))) | (k_unfold; (try dsimp only)) | (k_end; wrow_close) | walk1 | (dsimp only; walk1) | (leave1; walk_say "STEP leave1"; try dsimp only) | fail "no step")
    rename Fr _ _ _ _ => F8
    rename News _ _ _ _ => N8
    dsimp only [IterPost]
    exact ⟨_, _, _, rfl, Fr.upd2 (by decide +kernel) F8, N8, _, rfl⟩
  case done =>
    rintro v ux h tk ⟨t, rfl⟩ F N
    rw [hlen, List.take_length] at F
    clear F9 N9 hit
    try dsimp only [bnd2] at F
    dsimp only
    repeat' (first | (k_here; (with_reducible show wpAny _ _ (call (Value.builtin "iter") [Value.ref _]) _ _ _); (refine' iter_l ?qzF ?qzN ?qzm ?_; (case qzF => k_asm); (case qzN => k_asm); (case qzm => k_mem); k_whole); intro I' h' F' N' l1') | (k_here; (with_reducible show wpAny _ _ (call (Value.builtin "next") [Value.ref _]) _ _ _); (refine' next_l ?qzF ?qzN ?qzm ?qzo ?qzv ?_; (case qzF => k_asm); (case qzN => k_asm); (case qzm => k_mem); (case qzo => assumption); (case qzv => assumption); k_whole); intro h' o' F' hit' N') | (k_here; (with_reducible refine' shared_ (oka := ?qzoa) (okb := ?qzob) ..); (with_unfolding_all (walk_at "cF"; (case qzoa => assumption); (case qzob => assumption); walk_at "c1"))) | (k_unfold; (try dsimp only)) | (k_end; wrow_close) | walk1 | (dsimp only; walk1) | (leave1; walk_say "STEP leave1"; try dsimp only) | fail "no step")
    exact hret _ _ _ (keepsN (fun q hq => (ho q hq).1) hsg (by assumption) (by assumption) (by intro q hq; rw [List.mem_singleton.mp hq]; k_mem))
theorem reduce_ {w : World} {A : Around} {E : Value → Shared → Prop} {s : Shared} {Q : Value → Shared → Prop} {h₀ : Heap} {L : Addr} {m : Str → Option Value} {news : List (Addr × Obj)} {p : Program} {loose : List Str} {mean : ExcName → Option Value} {mg mb : Str → Option Value} {l : Addr} {vs : List Value} {ws : List (List (List Nat))} {n : Nat} (hv : StrsAre vs (ws.map fun w => tx (47 :: jn 47 w))) (hne : ws ≠ []) (hok : ∀ w ∈ ws, Ok w) (F : Fr h₀ L s.heap m) (N : News h₀ L s.heap news) (K : (fragK.heap_1 w.params).In h₀) (X : KNin w h₀) (T : Top p loose mean mg mb h₀) (hA : A.handled = none) (hd : A.depth ≤ 410) (hu : A.units ≤ 210)
    (hl : (l, W.listOf vs.toArray n) ∈ news)
    (h : ∀ t' h' tk', Fr h₀ L h' m → News h₀ L h' news → Q (.str (tx (47 :: jn 47 (rd ws))) t') { s with heap := h', toks := tk' }) :
    wpAny (model PySem.Challenge.rw_in0142_01.row.prog w) A (call (.ref 88) [.ref 230, .ref l]) Q E s := by
  cases ws with
  | nil => exact absurd rfl hne
  | cons w0 ws => exact wk hA hd hu (reduce_x w p loose mean mg mb s h₀ F.keep K X T l vs w0 ws n Q E hv ⟨N.get hl, N.fresh hl⟩ hok fun t' h' tk' k => h t' h' tk' (F.keeps k) (News.keeps N k))
theorem relpath_ {w : World} {A : Around} {E : Value → Shared → Prop} {s : Shared} {Q : Value → Shared → Prop} {h₀ : Heap} {L : Addr} {m : Str → Option Value} {news : List (Addr × Obj)} {p : Program} {loose : List Str} {mean : ExcName → Option Value} {mg mb : Str → Option Value} {ws : List (List Nat)} {r : List Nat} {t1 t2 : Tok} (P : Pth r ws) (F : Fr h₀ L s.heap m) (N : News h₀ L s.heap news) (K : (fragK.heap_1 w.params).In h₀) (X : KNin w h₀) (T : Top p loose mean mg mb h₀) (hA : A.handled = none) (hd : A.depth ≤ 410) (hu : A.units ≤ 210)
    (h : ∀ t' h' tk', Fr h₀ L h' m → News h₀ L h' news → Q (.str (tx (if ws = [] then [46] else jn 47 ws)) t') { s with heap := h', toks := tk' }) :
    wpAny (model PySem.Challenge.rw_in0142_01.row.prog w) A (call (.ref 218) [.str (tx (47 :: r)) t1, .str (tx [47]) t2]) Q E s :=
  wk hA hd hu (relpath_x w p loose mean mg mb s (K.keeps F.keep) (X.keeps F.keep) (T.keeps F.keep) ws r t1 t2 Q E P fun t' h' tk' k => h t' h' tk' (F.keeps k) (News.keeps N k))
end

section
section
variable {w : World} {A : Around} {E : Value → Shared → Prop} {s : Shared} {Q : Value → Shared → Prop} {h₀ : Heap} {L : Addr} {m : Str → Option Value} {news : List (Addr × Obj)} {p : Program} {loose : List Str} {mean : ExcName → Option Value} {mg mb : Str → Option Value}
open StrLaws in
theorem parse257_ {P R : List Nat} {t : Tok} (hR : R = pre257 ++ (dbl 34 P ++ suf257)) (hl : (tx R).length ≤ 1000000) (F : Fr h₀ L s.heap m) (N : News h₀ L s.heap news) (K : (fragK.heap_1 w.params).In h₀) (X : KNin w h₀) (T : Top p loose mean mg mb h₀) (hA : A.handled = none) (hd : A.depth ≤ 430) (hu : A.units ≤ 230)
    (h : ∀ t' h' tk', Fr h₀ L h' m → News h₀ L h' news → Q (.str (tx P) t') { s with heap := h', toks := tk' }) :
    wpAny (model PySem.Challenge.rw_in0142_01.row.prog w) A (call (.ref 72) [.str (tx R) t]) Q E s :=
  wk hA hd hu (parse257_x w p loose mean mg mb s (K.keeps F.keep) (X.keeps F.keep) (T.keeps F.keep) P R t Q E hR hl fun t' h' tk' k => h t' h' tk' (F.keeps k) (News.keeps N k))
theorem parse229_ {mk n : Nat} {t t1 t2 : Tok} {pr : Addr} (hm : mk = 124 ∨ mk = 33) (hn : n < 65536) (F : Fr h₀ L s.heap m) (N : News h₀ L s.heap news) (K : (fragK.heap_1 w.params).In h₀) (X : KNin w h₀) (T : Top p loose mean mg mb h₀) (hA : A.handled = none) (hd : A.depth ≤ 430) (hu : A.units ≤ 230)
    (hpr : (pr, tupOf #[.str (Str.ofString "host") t1, .int 21 t2]) ∈ news)
    (h : ∀ a t1 t2 h' tk', Fr h₀ L h' m → News h₀ L h' ((a, tupOf #[.str (Str.ofString "host") t1, .int (n : Int) t2]) :: news) → (∀ p ∈ news, p.1 ≠ a) → Q (.ref a) { s with heap := h', toks := tk' }) :
    wpAny (model PySem.Challenge.rw_in0142_01.row.prog w) A (call (.ref 65) [.str (tx (rep229 mk n)) t, .ref pr]) Q E s :=
  wk hA hd hu (parse229_x w p loose mean mg mb s h₀ F.keep K X T mk n t t1 t2 pr Q E hm hn ⟨N.get hpr, N.fresh hpr⟩ fun a t1 t2 h' tk' k hnn ho => by
    obtain ⟨F', N', hq⟩ := put_newN F N k hnn ho
    exact h a t1 t2 h' tk' F' N' hq)
end
end

section
set_option Elab.async false
set_option linter.unusedVariables false
/-- a strict weak order -/
structure WO (lt : Nat → Nat → Bool) : Prop where
  asym : ∀ {a b}, lt a b = true → lt b a = false
  ntr : ∀ {a b c}, lt a b = false → lt b c = false → lt a c = false
namespace WO
variable {lt : Nat → Nat → Bool} {a b c : Nat}
theorem irr (W : WO lt) : lt a a = false := by
  cases h : lt a a with
  | false => rfl
  | true => rw [W.asym h] at h; cases h
theorem tr1 (W : WO lt) (h1 : lt a b = true) (h2 : lt c b = false) : lt a c = true := by
  cases h : lt a c with
  | true => rfl
  | false => have := W.ntr h h2; rw [h1] at this; cases this
theorem tr2 (W : WO lt) (h1 : lt b a = false) (h2 : lt b c = true) : lt a c = true := by
  cases h : lt a c with
  | true => rfl
  | false => have := W.ntr h1 h; rw [h2] at this; cases this
end WO
/-- before, in the stable order -/
noncomputable def sb (lt : Nat → Nat → Bool) (a b : Nat) : Prop := lt b a = false ∧ (lt a b = false → a < b)
theorem sb_lt {lt : Nat → Nat → Bool} (W : WO lt) {a b : Nat} (h : lt a b = true) : sb lt a b := ⟨W.asym h, fun e => by rw [h] at e; cases e⟩
theorem sb_tr {lt : Nat → Nat → Bool} (W : WO lt) {a b c : Nat} (h1 : sb lt a b) (h2 : sb lt b c) : sb lt a c :=
  ⟨W.ntr h2.1 h1.1, fun e => Nat.lt_trans (h1.2 (W.ntr e h2.1)) (h2.2 (W.ntr h1.1 e))⟩
theorem sb_asym {lt : Nat → Nat → Bool} {a b : Nat} (h1 : sb lt a b) (h2 : sb lt b a) : False :=
  Nat.lt_irrefl _ (Nat.lt_trans (h1.2 h2.1) (h2.2 h1.1))
/-- the tree of questions run by answers, all of them asked within n -/
noncomputable def wpT (n : Nat) (lt : Nat → Nat → Bool) {α : Type} : KasT α → (α → Prop) → Prop
  | .ret a, Q => Q a
  | .ask i j k, Q => i < n ∧ j < n ∧ wpT n lt (k (lt i j)) Q
theorem wpT_bind {n : Nat} {lt : Nat → Nat → Bool} {α β : Type} {f : α → KasT β} {Q : β → Prop} : ∀ (t : KasT α), wpT n lt t (fun a => wpT n lt (f a) Q) → wpT n lt (t.bind f) Q
  | .ret _, h => h
  | .ask i j k, h => ⟨h.1, h.2.1, wpT_bind (k (lt i j)) h.2.2⟩
theorem wpT_mono {n : Nat} {lt : Nat → Nat → Bool} {α : Type} {Q Q' : α → Prop} (hq : ∀ a, Q a → Q' a) : ∀ (t : KasT α), wpT n lt t Q → wpT n lt t Q'
  | .ret a, h => hq a h
  | .ask i j k, h => ⟨h.1, h.2.1, wpT_mono hq (k (lt i j)) h.2.2⟩
theorem wpT_run {n : Nat} {lt : Nat → Nat → Bool} {α : Type} {cmp : Nat → Nat → (Bool → Shared → Prop) → Shared → Prop} {Inv : Shared → Prop} {Q : α → Prop} {R : α → Shared → Prop}
    (hc : ∀ i j s (C : Bool → Shared → Prop), i < n → j < n → Inv s → (∀ s', Inv s' → C (lt i j) s') → cmp i j C s) (hR : ∀ a s, Q a → Inv s → R a s) : ∀ (t : KasT α), wpT n lt t Q → ∀ s, Inv s → t.kasWp cmp R s
  | .ret a, h, s, hs => hR a s h hs
  | .ask i j k, h, s, hs => hc i j s _ h.1 h.2.1 hs fun s' hs' => wpT_run hc hR (k (lt i j)) h.2.2 s' hs'

noncomputable def ix (p : Array Nat) (i : Nat) : Nat := p.getD i 0
/-- m places of N have been turned -/
structure Pm (p : Array Nat) (N m : Nat) : Prop where
  sz : p.size = N
  le : m ≤ N
  lo : ∀ i, i < m → ix p i < m
  hi : ∀ i, m ≤ i → i < N → ix p i = i
  pm : p.Perm (List.range N).toArray
theorem Pm.up {p : Array Nat} {N m : Nat} (h : Pm p N m) {k : Nat} (h1 : m ≤ k) (h2 : k ≤ N) : Pm p N k :=
  ⟨h.sz, h2, fun i hi => by
    by_cases hm : i < m
    · have := h.lo i hm; omega
    · rw [h.hi i (by omega) (by omega)]; exact hi, fun i hi hN => h.hi i (by omega) hN, h.pm⟩
theorem Pm.bd {p : Array Nat} {N m : Nat} (h : Pm p N m) {i : Nat} (hi : i < N) : ix p i < N := by
  by_cases hm : i < m
  · have := h.lo i hm; have := h.le; omega
  · rw [h.hi i (by omega) hi]; exact hi
theorem ix_rev {p : Array Nat} {i j : Nat} (hj : j ≤ p.size) (k : Nat) : ix (kas_rev p i j) k = if i ≤ k ∧ k < j then ix p (i + j - 1 - k) else ix p k := by
  unfold kas_rev ix
  rw [Array.getD_eq_getD_getElem?, getElem?_mirror_all hj]
  split <;> rw [Array.getD_eq_getD_getElem?]
theorem Pm.rev {p : Array Nat} {N m i j : Nat} (h : Pm p N m) (hj : j ≤ m) : Pm (kas_rev p i j) N m where
  sz := by rw [kas_rev_size]; exact h.sz
  le := h.le
  lo k hk := by
    rw [ix_rev (by rw [h.sz]; exact Nat.le_trans hj h.le)]
    split
    · exact h.lo _ (by omega)
    · exact h.lo _ hk
  hi k h1 h2 := by
    rw [ix_rev (by rw [h.sz]; exact Nat.le_trans hj h.le), if_neg (by omega)]
    exact h.hi k h1 h2
  pm := (mirror_perm _ _ _ _).trans h.pm
noncomputable def Up (lt : Nat → Nat → Bool) (p : Array Nat) (m : Nat) : Prop := ∀ i j, i < j → j < m → sb lt (ix p i) (ix p j)
noncomputable def Dn (lt : Nat → Nat → Bool) (p : Array Nat) (m : Nat) : Prop := ∀ i j, i < j → j < m → sb lt (ix p j) (ix p i)
variable {lt : Nat → Nat → Bool} {N : Nat}
theorem Up.snoc {p : Array Nat} {m : Nat} (W : WO lt) (h : Up lt p m) (h0 : 0 < m) (hs : sb lt (ix p (m - 1)) (ix p m)) : Up lt p (m + 1) := by
  intro i j hij hj
  by_cases hjm : j < m
  · exact h i j hij hjm
  · have : j = m := by omega
    subst this
    by_cases hi : i = j - 1
    · rw [hi]; exact hs
    · exact sb_tr W (h i (j - 1) (by omega) (by omega)) hs
theorem Dn.up {p : Array Nat} {m : Nat} (h : Dn lt p m) (hm : m ≤ p.size) : Up lt (kas_rev p 0 m) m := by
  intro i j hij hj
  rw [ix_rev hm, ix_rev hm, if_pos (by omega), if_pos (by omega)]
  exact h _ _ (by omega) (by omega)
/-- the rising loop -/
theorem asc_ok (W : WO lt) {p : Array Nat} : ∀ (f n : Nat), 1 ≤ n → n + f = N → Pm p N n → Up lt p n →
    wpT N lt (kas_asc p f n) (fun m => n ≤ m ∧ m ≤ N ∧ Pm p N m ∧ Up lt p m ∧ (m < N → lt (ix p m) (ix p (m - 1)) = true))
  | 0, n, h1, hf, P, U => ⟨Nat.le_refl _, by omega, P, U, fun h => by omega⟩
  | f + 1, n, h1, hf, P, U => by
    refine ⟨P.bd (by omega), P.bd (by omega), ?_⟩
    show wpT N lt (if lt (ix p n) (ix p (n - 1)) = true then .ret n else kas_asc p f (n + 1)) _
    cases hc : lt (ix p n) (ix p (n - 1)) with
    | true => exact ⟨Nat.le_refl _, P.le, P, U, fun _ => hc⟩
    | false =>
      rw [if_neg (by simp)]
      have hn : ix p n = n := P.hi n (Nat.le_refl _) (by omega)
      have hs : sb lt (ix p (n - 1)) (ix p n) := ⟨hc, fun _ => by rw [hn]; exact P.lo _ (by omega)⟩
      exact wpT_mono (fun m hm => ⟨by omega, hm.2⟩) _ (asc_ok W f (n + 1) (by omega) (by omega) (P.up (by omega) (by omega)) (U.snoc W h1 hs))
/-- what the falling loop keeps: q + 1 like ones at the end, in their order -/
structure Fl (lt : Nat → Nat → Bool) (p : Array Nat) (n q : Nat) : Prop where
  q1 : q + 1 ≤ n
  r1 : ∀ i j, i < j → j < n - (q + 1) → sb lt (ix p j) (ix p i)
  r2 : ∀ i j, i < n - (q + 1) → n - (q + 1) ≤ j → j < n → lt (ix p j) (ix p i) = true
  r3 : ∀ i j, n - (q + 1) ≤ i → i < j → j < n → lt (ix p i) (ix p j) = false ∧ lt (ix p j) (ix p i) = false ∧ ix p i < ix p j
theorem Fl.dn {p : Array Nat} {n q : Nat} (W : WO lt) (h : Fl lt p n q) (hn : n ≤ p.size) : Dn lt (if q > 0 then kas_rev p (n - (q + 1)) n else p) n := by
  have q1 := h.q1
  split
  · intro i j hij hj
    rw [ix_rev hn, ix_rev hn]
    by_cases hi : n - (q + 1) ≤ i
    · rw [if_pos (by omega), if_pos (by omega)]
      have := h.r3 (n - (q + 1) + n - 1 - j) (n - (q + 1) + n - 1 - i) (by omega) (by omega) (by omega)
      exact ⟨this.2.1, fun _ => this.2.2⟩
    · rw [if_neg (show ¬ (n - (q + 1) ≤ i ∧ i < n) by omega)]
      by_cases hj2 : n - (q + 1) ≤ j
      · rw [if_pos (by omega)]
        exact sb_lt W (h.r2 _ _ (by omega) (by omega) (by omega))
      · rw [if_neg (by omega)]
        exact h.r1 i j hij (by omega)
  · have hq : q = 0 := by omega
    subst hq
    intro i j hij hj
    by_cases hjn : j < n - 1
    · exact h.r1 i j hij (by omega)
    · exact sb_lt W (h.r2 i j (by omega) (by omega) hj)
theorem Fl.pm {p : Array Nat} {n q : Nat} (P : Pm p N n) : Pm (if q > 0 then kas_rev p (n - (q + 1)) n else p) N n := by
  split
  · exact P.rev (Nat.le_refl _)
  · exact P
/-- below all -/
theorem Fl.low {p : Array Nat} {n q c : Nat} (W : WO lt) (h : Fl lt p n q) (hc : lt c (ix p (n - 1)) = true) : ∀ i, i < n → lt c (ix p i) = true := by
  intro i hi
  have q1 := h.q1
  by_cases e : i = n - 1
  · rw [e]; exact hc
  · by_cases hb : i < n - (q + 1)
    · exact W.tr1 hc (W.asym (h.r2 i (n - 1) hb (by omega) (by omega)))
    · exact W.tr1 hc (h.r3 i (n - 1) (by omega) (by omega) (by omega)).1
theorem Fl.of_dn {p : Array Nat} {n : Nat} (W : WO lt) (h : Dn lt p n) (hl : ∀ i, i < n → lt (ix p n) (ix p i) = true) : Fl lt p (n + 1) 0 where
  q1 := by omega
  r1 i j hij hj := h i j hij (by omega)
  r2 i j hi h1 h2 := by
    have : j = n := by omega
    rw [this]; exact hl i (by omega)
  r3 i j h1 h2 h3 := by omega
theorem Fl.low2 {p : Array Nat} {n q : Nat} (W : WO lt) (h : Fl lt p n q) (hn : n < p.size) (hc : lt (ix p n) (ix p (n - 1)) = true) : ∀ i, i < n → lt (ix (if q > 0 then kas_rev p (n - (q + 1)) n else p) n) (ix (if q > 0 then kas_rev p (n - (q + 1)) n else p) i) = true := by
  intro i hi
  split
  · rw [ix_rev (by omega), ix_rev (by omega), if_neg (by omega)]
    split
    · exact h.low W hc _ (by omega)
    · exact h.low W hc _ hi
  · exact h.low W hc _ hi
theorem Fl.next {p : Array Nat} {n q : Nat} (W : WO lt) (h : Fl lt p n q) (P : Pm p N n) (hn : n < N) (h1 : lt (ix p n) (ix p (n - 1)) = false) (h2 : lt (ix p (n - 1)) (ix p n) = false) : Fl lt p (n + 1) (q + 1) := by
  have q1 := h.q1
  have hnn : ix p n = n := P.hi n (Nat.le_refl _) hn
  have e : n + 1 - (q + 1 + 1) = n - (q + 1) := by omega
  refine ⟨by omega, fun i j hij hj => h.r1 i j hij (by omega), fun i j hi ha hb => ?_, fun i j ha hij hb => ?_⟩
  · by_cases hj : j < n
    · exact h.r2 i j (by omega) (by omega) hj
    · have : j = n := by omega
      rw [this]
      exact W.tr2 h2 (h.r2 i (n - 1) (by omega) (by omega) (by omega))
  · by_cases hj : j < n
    · exact h.r3 i j (by omega) hij hj
    · have : j = n := by omega
      rw [this]
      have hlt : ix p i < ix p n := by rw [hnn]; exact P.lo i (by omega)
      by_cases hi : i = n - 1
      · rw [hi]; exact ⟨h2, h1, by rw [← hi]; exact hlt⟩
      · have := h.r3 i (n - 1) (by omega) (by omega) (by omega)
        exact ⟨W.ntr this.1 h2, W.ntr h1 this.2.1, hlt⟩
theorem desc_ok (W : WO lt) : ∀ (f : Nat) (p : Array Nat) (n q : Nat), n + f = N → Pm p N n → Fl lt p n q →
    wpT N lt (kas_desc f p n q) (fun r => r.2.1 ≤ N ∧ Pm r.1 N r.2.1 ∧ Fl lt r.1 r.2.1 r.2.2)
  | 0, p, n, q, hf, P, H => ⟨P.le, P, H⟩
  | f + 1, p, n, q, hf, P, H => by
    have q1 := H.q1
    refine ⟨P.bd (by omega), P.bd (by omega), ?_⟩
    show wpT N lt (if lt (ix p n) (ix p (n - 1)) = true then (if q > 0 then kas_desc f (kas_rev p (n - (q + 1)) n) (n + 1) 0 else kas_desc f p (n + 1) 0)
      else .ask (ix p (n - 1)) (ix p n) fun d => if d = true then .ret (p, n, q) else kas_desc f p (n + 1) (q + 1)) _
    cases hc : lt (ix p n) (ix p (n - 1)) with
    | true =>
      rw [if_pos rfl]
      have e : (if q > 0 then kas_desc f (kas_rev p (n - (q + 1)) n) (n + 1) 0 else kas_desc f p (n + 1) 0) = kas_desc f (if q > 0 then kas_rev p (n - (q + 1)) n else p) (n + 1) 0 := by split <;> rfl
      rw [e]
      have hsz : n ≤ p.size := by rw [P.sz]; exact P.le
      have D := H.dn W hsz
      have L2 := H.low2 W (by rw [P.sz]; omega) hc
      have P2 := (Fl.pm (q := q) P)
      generalize (if q > 0 then kas_rev p (n - (q + 1)) n else p) = p' at D L2 P2 ⊢
      exact desc_ok W f p' (n + 1) 0 (by omega) (P2.up (by omega) (by omega)) (Fl.of_dn W D L2)
    | false =>
      rw [if_neg (by simp)]
      refine ⟨P.bd (by omega), P.bd (by omega), ?_⟩
      show wpT N lt (if lt (ix p (n - 1)) (ix p n) = true then .ret (p, n, q) else kas_desc f p (n + 1) (q + 1)) _
      cases hd : lt (ix p (n - 1)) (ix p n) with
      | true => exact ⟨P.le, P, H⟩
      | false =>
        rw [if_neg (by simp)]
        exact desc_ok W f p (n + 1) (q + 1) (by omega) (P.up (by omega) (by omega)) (H.next W P (by omega) hc hd)
noncomputable def Run (lt : Nat → Nat → Bool) (N : Nat) (r : Nat × Array Nat) : Prop := 1 ≤ r.1 ∧ r.1 ≤ N ∧ Pm r.2 N r.1 ∧ Up lt r.2 r.1
theorem tail_ok (W : WO lt) {p : Array Nat} {n : Nat} (h1 : 1 ≤ n) (P : Pm p N n) (D : Dn lt p n) : wpT N lt (kas_tail3 n N p) (Run lt N) := by
  refine wpT_bind _ ?_
  have hsz : n ≤ p.size := by rw [P.sz]; exact P.le
  have hle := P.le
  refine wpT_mono (fun m hm => ?_) _ (asc_ok W (N - n) n h1 (by omega) (P.rev (Nat.le_refl _)) (D.up hsz))
  exact ⟨by omega, hm.2.1, hm.2.2.1, hm.2.2.2.1⟩
theorem descPart_ok (W : WO lt) {p : Array Nat} {n : Nat} (h1 : 1 ≤ n) (hn : n < N) (P : Pm p N n) (D : Dn lt p n) (hl : ∀ i, i < n → lt (ix p n) (ix p i) = true) : wpT N lt (kas_descPart n N p) (Run lt N) := by
  refine wpT_bind _ (wpT_mono (fun r hr => ?_) _ (desc_ok W (N - (n + 1)) p (n + 1) 0 (by omega) (P.up (by omega) (by omega)) (Fl.of_dn W D hl)))
  obtain ⟨hm, P', H⟩ := hr
  have q1 := H.q1
  have D' := H.dn W (by rw [P'.sz]; exact hm)
  have P2 := (Fl.pm (q := r.2.2) P')
  have e : (if r.2.2 > 0 then kas_tail3 r.2.1 N (kas_rev r.1 (r.2.1 - (r.2.2 + 1)) r.2.1) else kas_tail3 r.2.1 N r.1) = kas_tail3 r.2.1 N (if r.2.2 > 0 then kas_rev r.1 (r.2.1 - (r.2.2 + 1)) r.2.1 else r.1) := by split <;> rfl
  rw [e]
  exact tail_ok W (by omega) P2 D'
theorem count_ok (W : WO lt) {p : Array Nat} (hN : 1 ≤ N) (P : Pm p N 0) : wpT N lt (kas_count N p) (Run lt N) := by
  have P1 : Pm p N 1 := P.up (by omega) hN
  refine wpT_bind _ (wpT_mono (fun n hn => ?_) _ (asc_ok W (N - 1) 1 (by omega) (by omega) P1 (fun i j hij hj => by omega)))
  obtain ⟨h1, h2, Pn, U, hlt⟩ := hn
  by_cases hnN : n = N
  · rw [if_pos (by simpa using hnN)]
    exact ⟨h1, h2, Pn, U⟩
  · rw [if_neg (by simpa using hnN)]
    have hl := hlt (by omega)
    by_cases hn1 : n > 1
    · rw [if_pos hn1]
      refine ⟨P.bd (by omega), P.bd (by omega), ?_⟩
      show wpT N lt (if lt (ix p 0) (ix p (n - 1)) = true then .ret (n, p) else kas_descPart n N (kas_rev p 0 n)) _
      cases hc : lt (ix p 0) (ix p (n - 1)) with
      | true => exact ⟨h1, h2, Pn, U⟩
      | false =>
        rw [if_neg (by simp)]
        have hsz : n ≤ p.size := by rw [P.sz]; exact h2
        -- all of them alike
        have le0 : ∀ i, i < n → lt (ix p i) (ix p 0) = false := fun i hi => by
          by_cases e : i = 0
          · rw [e]; exact W.irr
          · exact (U 0 i (by omega) hi).1
        have le1 : ∀ i, i < n → lt (ix p (n - 1)) (ix p i) = false := fun i hi => by
          by_cases e : i = n - 1
          · rw [e]; exact W.irr
          · exact (U i (n - 1) (by omega) (by omega)).1
        have eq : ∀ i j, i < n → j < n → lt (ix p i) (ix p j) = false := fun i j hi hj => W.ntr (le0 i hi) (W.ntr hc (le1 j hj))
        have inc : ∀ i j, i < j → j < n → ix p i < ix p j := fun i j hij hj => (U i j hij hj).2 (eq i j (by omega) hj)
        refine descPart_ok W h1 (by omega) (Pn.rev (Nat.le_refl _)) (fun i j hij hj => ?_) (fun i hi => ?_)
        · rw [ix_rev hsz, ix_rev hsz, if_pos (by omega), if_pos (by omega)]
          exact ⟨eq _ _ (by omega) (by omega), fun _ => inc _ _ (by omega) (by omega)⟩
        · rw [ix_rev hsz, ix_rev hsz, if_neg (by omega), if_pos (by omega)]
          exact W.tr1 hl (eq _ _ (by omega) (by omega))
    · rw [if_neg hn1]
      have : n = 1 := by omega
      subst this
      refine descPart_ok W h1 (by omega) Pn (fun i j hij hj => by omega) (fun i hi => ?_)
      have : i = 0 := by omega
      rw [this]; exact hl
theorem place_ok (W : WO lt) {p : Array Nat} {k : Nat} (hk : k < N) (P : Pm p N k) (U : Up lt p k) : ∀ (f l r : Nat), r - l ≤ f → l ≤ r → r ≤ k → (∀ i, i < l → lt (ix p k) (ix p i) = false) → (∀ i, r ≤ i → i < k → lt (ix p k) (ix p i) = true) →
    wpT N lt (kas_place p k f l r) (fun m => m ≤ k ∧ (∀ i, i < m → lt (ix p k) (ix p i) = false) ∧ (∀ i, m ≤ i → i < k → lt (ix p k) (ix p i) = true))
  | 0, l, r, hf, h1, h2, a, b => ⟨by omega, a, fun i hi hk => b i (by omega) hk⟩
  | f + 1, l, r, hf, h1, h2, a, b => by
    show wpT N lt (if l ≥ r then .ret l else .ask (ix p k) (ix p ((l + r) / 2)) fun c => if c = true then kas_place p k f l ((l + r) / 2) else kas_place p k f ((l + r) / 2 + 1) r) _
    by_cases hlr : l ≥ r
    · rw [if_pos hlr]; exact ⟨by omega, a, fun i hi hk => b i (by omega) hk⟩
    · rw [if_neg hlr]
      refine ⟨P.bd hk, P.bd (by omega), ?_⟩
      show wpT N lt (if lt (ix p k) (ix p ((l + r) / 2)) = true then kas_place p k f l ((l + r) / 2) else kas_place p k f ((l + r) / 2 + 1) r) _
      cases hc : lt (ix p k) (ix p ((l + r) / 2)) with
      | true =>
        rw [if_pos rfl]
        refine place_ok W hk P U f l _ (by omega) (by omega) (by omega) a fun i hi hik => ?_
        by_cases e : i = (l + r) / 2
        · rw [e]; exact hc
        · exact W.tr1 hc (U _ i (by omega) hik).1
      | false =>
        rw [if_neg (by simp)]
        refine place_ok W hk P U f _ r (by omega) (by omega) h2 (fun i hi => ?_) b
        by_cases e : i = (l + r) / 2
        · rw [e]; exact hc
        · exact W.ntr hc (U i _ (by omega) (by omega)).1
theorem ix_bub {p : Array Nat} {k d : Nat} (hs : k < p.size) (hd : d ≤ k) (i : Nat) : ix (bubble p k d) i = if i = k - d then ix p k else if k - d < i ∧ i ≤ k then ix p (i - 1) else ix p i := by
  have e : ∀ (q : Array Nat) j, ix q j = q[j]?.getD 0 := fun q j => by unfold ix; rw [Array.getD_eq_getD_getElem?]
  rw [e, e, e, e, getElem?_bubble hs d hd]
  split
  · rfl
  · split <;> rfl
theorem bin_ok (W : WO lt) : ∀ (f : Nat) (p : Array Nat) (k : Nat), k + f = N → Pm p N k → Up lt p k → wpT N lt (kas_bin f p k) (fun p' => Pm p' N N ∧ Up lt p' N)
  | 0, p, k, hf, P, U => by
    have : k = N := by omega
    subst this
    exact ⟨P, U⟩
  | f + 1, p, k, hf, P, U => by
    refine wpT_bind _ (wpT_mono (fun l hl => ?_) _ (place_ok W (by omega) P U k 0 k (by omega) (by omega) (by omega) (fun i hi => by omega) (fun i hi hk => by omega)))
    obtain ⟨hlk, h1, h2⟩ := hl
    have hks : k < p.size := by rw [P.sz]; omega
    have hkk : ix p k = k := P.hi k (Nat.le_refl _) (by omega)
    have e : k - (k - l) = l := by omega
    have hix := ix_bub hks (show k - l ≤ k by omega)
    rw [e] at hix
    refine bin_ok W f _ (k + 1) (by omega) ⟨?_, by omega, fun i hi => ?_, fun i hi hN => ?_, (bubble_perm _ _ _).trans P.pm⟩ fun i j hij hj => ?_
    · rw [bubble_size]; exact P.sz
    · rw [hix]
      split
      · omega
      · split
        · have := P.lo (i - 1) (by omega); omega
        · have := P.lo i (by omega); omega
    · rw [hix, if_neg (by omega), if_neg (by omega)]; exact P.hi i (by omega) hN
    · rw [hix, hix]
      by_cases a1 : i = l
      · rw [if_pos a1, if_neg (by omega), if_pos (by omega)]
        exact sb_lt W (h2 _ (by omega) (by omega))
      · rw [if_neg a1]
        by_cases a2 : i < l
        · rw [if_neg (show ¬ (l < i ∧ i ≤ k) by omega)]
          by_cases b1 : j = l
          · rw [if_pos b1]
            exact ⟨h1 i a2, fun _ => by rw [hkk]; exact P.lo i (by omega)⟩
          · rw [if_neg b1]
            by_cases b2 : j < l
            · rw [if_neg (by omega)]; exact U i j hij (by omega)
            · rw [if_pos (by omega)]; exact U i (j - 1) (by omega) (by omega)
        · rw [if_pos (by omega), if_neg (by omega), if_pos (by omega)]
          exact U (i - 1) (j - 1) (by omega) (by omega)
theorem sort_ok (W : WO lt) (hN : 1 ≤ N) : wpT N lt (kas_sort N) (fun p => Pm p N N ∧ Up lt p N) := by
  have hr : ∀ i, i < N → ix (List.range N).toArray i = i := fun i hi => by simp [ix, Array.getD, hi]
  refine wpT_bind _ (wpT_mono (fun r h => ?_) _ (count_ok W hN ⟨by simp, Nat.zero_le _, fun i hi => by omega, fun i _ hi => hr i hi, Array.Perm.refl _⟩))
  obtain ⟨h1, h2, P, U⟩ := h
  have e : max r.1 1 = r.1 := by omega
  rw [e]
  by_cases hl : r.1 < N
  · rw [if_pos hl]; exact bin_ok W _ _ _ (by omega) P U
  · rw [if_neg hl]
    have : r.1 = N := by omega
    rw [this] at P U
    exact ⟨P, U⟩
/-- the places in the stable order: there is but one such list -/
theorem order_unique (W : WO lt) {p q : Array Nat} (hp : Pm p N N) (hq : Pm q N N) (up : Up lt p N) (uq : Up lt q N) : p.toList = q.toList := by
  have pw : ∀ {p : Array Nat}, Pm p N N → Up lt p N → p.toList.Pairwise (sb lt) := fun {p} P U => by
    rw [List.pairwise_iff_getElem]
    intro i j hi hj hij
    have hi' : i < p.size := by simpa using hi
    have hj' : j < p.size := by simpa using hj
    have := U i j hij (by rw [← P.sz]; exact hj')
    simpa [ix, Array.getD, hi', hj'] using this
  have pm : p.toList.Perm q.toList := Array.perm_iff_toList_perm.mp (hp.pm.trans hq.pm.symm)
  exact List.Perm.eq_of_pairwise (le := sb lt) (fun a b _ _ h1 h2 => (sb_asym h1 h2).elim) (pw hp up) (pw hq uq) pm
end

section
set_option Elab.async false
set_option linter.unusedVariables false
/-- the four names -/
noncomputable def wd (k : Nat) : List Nat := if k = 0 then [46, 46] else if k = 1 then [97] else if k = 2 then [98] else [113, 34, 114]
/-- the names by the figures to the base 4 -/
noncomputable def nm : Nat → Nat → List (List Nat)
  | 0, _ => []
  | f + 1, r => if r = 0 then [] else wd (r % 4) :: nm f (r / 4)
theorem nm_zero (f : Nat) : nm f 0 = [] := by cases f <;> simp [nm]
theorem nm_succ {f r : Nat} (h : r ≠ 0) : nm (f + 1) r = wd (r % 4) :: nm f (r / 4) := by rw [nm, if_neg h]
theorem wd_len (k : Nat) : (wd k).length ≤ 3 := by unfold wd; split <;> (try split) <;> (try split) <;> simp
theorem wd_free (k : Nat) : wd k ≠ [] ∧ wd k ≠ [46] ∧ 47 ∉ wd k := by unfold wd; split <;> (try split) <;> (try split) <;> simp
theorem nm_mem {f r : Nat} : ∀ {q : List Nat}, q ∈ nm f r → q ≠ [] ∧ q ≠ [46] ∧ 47 ∉ q ∧ q.length ≤ 3 := by
  induction f generalizing r with
  | zero => intro q h; cases h
  | succ f ih =>
    intro q h
    by_cases hr : r = 0
    · rw [hr, nm_zero] at h; cases h
    · rw [nm_succ hr] at h
      rcases List.mem_cons.mp h with rfl | h
      · exact ⟨(wd_free _).1, (wd_free _).2.1, (wd_free _).2.2, wd_len _⟩
      · exact ih h
theorem nm_len (f r : Nat) : (nm f r).length ≤ f := by
  induction f generalizing r with
  | zero => exact Nat.le_refl _
  | succ f ih =>
    by_cases hr : r = 0
    · rw [hr, nm_zero]; exact Nat.zero_le _
    · rw [nm_succ hr]; have := ih (r / 4); simp only [List.length_cons]; omega
/-- the names of a number -/
noncomputable def nms (z : Int) : List (List Nat) := nm 4 z.natAbs
/-- its straight walk -/
noncomputable def wk' (z : Int) : List (List Nat) := np (nms z)
/-- its port -/
noncomputable def pt (z : Int) : Nat := z.natAbs % 65536
/-- its mark -/
noncomputable def mk (z : Int) : Nat := if z % 2 = 0 then 124 else 33
theorem pt_lt (z : Int) : pt z < 65536 := Nat.mod_lt _ (by decide)
theorem mk_or (z : Int) : mk z = 124 ∨ mk z = 33 := by unfold mk; split <;> simp
theorem nms_mem {z : Int} {q : List Nat} (h : q ∈ nms z) : q ≠ [] ∧ q ≠ [46] ∧ 47 ∉ q ∧ q.length ≤ 3 := nm_mem h
theorem nms_len (z : Int) : (nms z).length ≤ 4 := nm_len 4 _
theorem sum_le3 {l : List (List Nat)} (h : ∀ q ∈ l, q.length ≤ 3) : (l.map (·.length)).sum ≤ 3 * l.length := by
  induction l with
  | nil => simp
  | cons a r ih =>
    have := ih fun q hq => h q (List.mem_cons_of_mem _ hq)
    have := h a (.head _)
    simp only [List.map_cons, List.sum_cons, List.length_cons]; omega
theorem nms_sum (z : Int) : ((nms z).map (·.length)).sum ≤ 12 := by
  have := sum_le3 (l := nms z) fun q hq => (nms_mem hq).2.2.2
  have := nms_len z
  omega
theorem nms_jn (z : Int) : (jn 47 (nms z)).length ≤ 16 := by
  have := jn_len 47 (nms z)
  have := nms_sum z
  have := nms_len z
  omega
/-- its path leads where its walk does -/
theorem nms_pth (z : Int) : Pth (jn 47 (nms z)) (wk' z) where
  ex := by
    by_cases h : nms z = []
    · exact ⟨[[]], by simp, by simp, by rw [h]; rfl, by unfold wk'; rw [h]; decide⟩
    · exact ⟨nms z, h, fun q hq => (nms_mem hq).2.2.1, rfl, rfl⟩
  hd := jn_take fun q hq => ⟨(nms_mem hq).1, (nms_mem hq).2.2.1⟩
  len := by rw [tx_len]; have := nms_jn z; simp only [List.length_cons]; omega
theorem wk_sub {z : Int} {q : List Nat} (h : q ∈ wk' z) : q ∈ nms z := (np_free (nms z) q h).2.2.2
theorem wk_len (z : Int) : (wk' z).length ≤ 16 := by
  have := np_bound (nms z); have := nms_sum z; have := nms_len z
  show (np (nms z)).length ≤ 16
  omega
theorem wk_ok (z : Int) : Ok (wk' z) where
  free q hq := ⟨(nms_mem (wk_sub hq)).1, (nms_mem (wk_sub hq)).2.1, (nms_mem (wk_sub hq)).2.2.1⟩
  tot := by
    have := np_bound (nms z); have := nms_sum z; have := nms_len z
    show ((np (nms z)).map (·.length)).sum + (np (nms z)).length ≤ 900000
    omega
theorem np_id {ps : List (List Nat)} (h : ∀ q ∈ ps, q ≠ [] ∧ q ≠ [46] ∧ q ≠ [46, 46]) : np ps = ps := by
  have key : ∀ (ps S : List (List Nat)), (∀ q ∈ ps, q ≠ [] ∧ q ≠ [46] ∧ q ≠ [46, 46]) → ps.foldl np_step S = S ++ ps := by
    intro ps
    induction ps with
    | nil => intro S _; simp
    | cons p r ih =>
      intro S h
      obtain ⟨h1, h2, h3⟩ := h p (.head _)
      rw [List.foldl_cons, ih _ fun q hq => h q (List.mem_cons_of_mem _ hq)]
      rw [show np_step S p = S ++ [p] from by simp [np_step, h1, h2, h3]]
      simp
  exact (key ps [] h).trans (List.nil_append _)
theorem wk_np (z : Int) : np (wk' z) = wk' z := np_id fun q hq => by
  have := np_free (nms z) q hq
  exact ⟨this.1, this.2.1, this.2.2.1⟩
/-- the straight path leads back to itself -/
theorem wk_pth (z : Int) : Pth (jn 47 (wk' z)) (wk' z) where
  ex := by
    by_cases h : wk' z = []
    · exact ⟨[[]], by simp, by simp, by rw [h]; rfl, by rw [h]; decide⟩
    · exact ⟨wk' z, h, fun q hq => ((wk_ok z).free q hq).2.2, rfl, (wk_np z).symm⟩
  hd := jn_take fun q hq => ⟨((wk_ok z).free q hq).1, ((wk_ok z).free q hq).2.2⟩
  len := (wk_ok z).len
/-- what relpath gives leads back too -/
theorem rel_pth (z : Int) : Pth (if wk' z = [] then [46] else jn 47 (wk' z)) (wk' z) := by
  by_cases h : wk' z = []
  · rw [if_pos h, h]
    exact ⟨⟨[[46]], by simp, by simp, rfl, by decide⟩, by simp, by rw [tx_len]; decide⟩
  · rw [if_neg h]; exact wk_pth z
/-- the three numbers that are always there -/
theorem wk29 : wk' 29 = [[97], [113, 34, 114], [97]] := by decide
theorem wk7 : wk' 7 = [[113, 34, 114], [97]] := by decide
/-- the numbers of the law -/
noncomputable def mine (ns : List Int) : List Int := ns.take 5 ++ [7, 55, 29]
theorem mine_len (ns : List Int) : (mine ns).length ≤ 8 ∧ 3 ≤ (mine ns).length := by
  unfold mine; simp; omega
theorem mine7 (ns : List Int) : (7 : Int) ∈ mine ns := by unfold mine; simp
theorem mine29 (ns : List Int) : (29 : Int) ∈ mine ns := by unfold mine; simp
theorem m29 (ns : List Int) : ([[97], [113, 34, 114], [97]] : List (List Nat)) ∈ (mine ns).map wk' := by rw [← wk29]; exact List.mem_map_of_mem (mine29 ns)
theorem m7 (ns : List Int) : ([[113, 34, 114], [97]] : List (List Nat)) ∈ (mine ns).map wk' := by rw [← wk7]; exact List.mem_map_of_mem (mine7 ns)
theorem all_rd (ns : List Int) : rd ((mine ns).map wk') = [] :=
  rd_nil (a := [97]) (b := [113, 34, 114]) (m29 ns) (m7 ns) (by decide)
theorem all_rd_rev (ns : List Int) : rd ((mine ns).map wk').reverse = [] :=
  rd_nil (a := [97]) (b := [113, 34, 114]) (List.mem_reverse.mpr (m29 ns)) (List.mem_reverse.mpr (m7 ns)) (by decide)
theorem all_cp (ns : List Int) : cp ((mine ns).map wk') = [] :=
  cp_nil (a := [97]) (b := [113, 34, 114]) (m29 ns) (m7 ns) (by decide)
/-- some walk differs at its first place -/
theorem differ (ns : List Int) (a : List Nat) : ∃ z ∈ mine ns, (wk' z).getD 0 [] ≠ a := by
  by_cases h : a = [97]
  · exact ⟨7, mine7 ns, by rw [wk7, h]; decide⟩
  · exact ⟨29, mine29 ns, by rw [wk29]; exact fun e => h e.symm⟩
/-- the marks of a path doubled by split and join -/
theorem quotes (P : List Nat) (hP : P.length ≤ 1000) : ∃ ys, Txt.split (tx P) (Str.ofString "\"") = ys ∧ Txt.join (Str.ofString "\"\"") ys = tx (StrLaws.dbl 34 P) ∧ (ys.map (·.length)).sum + ys.length * (Str.ofString "\"\"").length ≤ 16777216 := by
  refine ⟨_, rfl, ?_, ?_⟩
  · have h := StrLaws.replace_double (tx P) 34
    rw [StrLaws.replace_one, tx_toList] at h
    show PySem.Builtin.Str.glued _ _ = _
    rw [StrLaws.glued_eq_join, show Str.ofString "\"\"" = (⟨#[34, 34]⟩ : Str) from by decide +kernel, show Str.ofString "\"" = (⟨#[34]⟩ : Str) from by decide +kernel]
    rw [← tx_of (PySem.Str.join _ _), h]
  · have h1 := StrLaws.join_split (tx P) (tx [34])
    have h3 := split_ne (tx P) (tx [34])
    rw [show Str.ofString "\"" = tx [34] from lit_quote, show (Str.ofString "\"\"").length = 2 from by decide +kernel]
    generalize Txt.split (tx P) (tx [34]) = S at h1 h3
    have e : (S.map fun p => p.cps.toList).map tx = S := map_tx_toList S
    rw [← e, join_tx] at h1
    have h2 := jn_len_eq 34 (S.map fun p => p.cps.toList) (by simpa using h3)
    have h4 := congrArg List.length (tx_inj h1)
    rw [← e, map_tx_len, List.length_map]
    simp only [List.length_map] at h2 ⊢
    omega
/-- the first remark, its parts -/
theorem dbl_len (P : List Nat) : (StrLaws.dbl 34 P).length ≤ 2 * P.length := by
  induction P with
  | nil => simp [StrLaws.dbl]
  | cons a r ih => simp only [StrLaws.dbl]; split <;> simp <;> omega
end

section
set_option Elab.async false
set_option linter.unusedVariables false
/-- what the outer loop has made by its turn i -/
structure Sofar (ms : List Int) (i : Nat) (S : List Value) (R : List Addr) (P : List Value) (tl : List (Addr × Obj)) : Prop where
  s : StrsAre S ((ms.take i).map fun z => tx (47 :: jn 47 (wk' z)))
  r : Rows tl R ((ms.take i).map wk')
  p : IntsAre P ((ms.take i).map fun z => ((pt z : Nat) : Int))
theorem intsAre_at {vs : List Value} {ns : List Int} (h : IntsAre vs ns) {i : Nat} {v : Value} (e : vs[i]? = some v) : ∃ z t, ns[i]? = some z ∧ v = .int z t := by
  induction h generalizing i with
  | nil => simp at e
  | cons z t _ ih =>
    cases i with
    | zero => simp at e; exact ⟨z, t, by simp, e.symm⟩
    | succ i => simp at e; obtain ⟨y, t, h1, h2⟩ := ih e; exact ⟨y, t, by simpa using h1, h2⟩
theorem intsAre_push {vs : List Value} {ns : List Int} {z : Int} {t : Tok} (h : IntsAre vs ns) : IntsAre (vs ++ [.int z t]) (ns ++ [z]) := by
  induction h with
  | nil => exact .cons z t .nil
  | cons y t' _ ih => exact .cons y t' ih
theorem intsAre_len {vs : List Value} {ns : List Int} (h : IntsAre vs ns) : vs.length = ns.length := by
  induction h with
  | nil => rfl
  | cons y t' _ ih => simp [ih]
theorem Sofar.zero (ms : List Int) : Sofar ms 0 [] [] [] [] := ⟨StrsAre.nil, Rows.nil _, IntsAre.nil⟩
theorem Sofar.snoc {ms : List Int} {i : Nat} {S : List Value} {R : List Addr} {P : List Value} {tl : List (Addr × Obj)} {z : Int} (h : Sofar ms i S R P tl) (hz : ms[i]? = some z) {t u : Tok} {Z : Addr} {its : List Value} {k : Nat} (hi : StrsAre its ((wk' z).map tx)) :
    Sofar ms (i + 1) (S ++ [Value.str (tx (47 :: jn 47 (wk' z))) t]) (R ++ [Z]) (P ++ [Value.int ((pt z : Nat) : Int) u]) ((Z, W.listOf its.toArray k) :: tl) where
  s := by rw [take_snoc _ hz]; exact strsAre_push h.s
  r := by rw [take_snoc _ hz]; exact Rows.snoc h.r hi
  p := by rw [take_snoc _ hz]; exact intsAre_push h.p
section
variable {prog : Program} {w : World} {A : Around} {E : Value → Shared → Prop} {s : Shared} {env : Env} {h₀ : Heap} {x : Str} {body : List Stmt} {Q : Flow → Shared → Prop}
noncomputable abbrev St := List Value × List Addr × List Value × Nat × Nat × Nat
noncomputable def lawLed (a1 a2 a3 : Addr) (c : St) : List (Addr × Obj) := [(a1, W.listOf (List.toArray c.1) c.2.2.2.1), (a2, W.listOf (List.toArray (c.2.1.map Value.ref)) c.2.2.2.2.1), (a3, W.listOf (List.toArray c.2.2.1) c.2.2.2.2.2)]
theorem law_for {D a1 a2 a3 : Addr} {ws : List Value} {x1 x2 : Addr × Obj} {cells : List (Addr × Obj)} {ms : List Int} {m₀ : Str → Option Value} (stored : List Str) (hw : IntsAre ws ms) (hh : A.handled = none)
    (F : Fr h₀ env.locals s.heap m₀) (N : News h₀ env.locals s.heap ((D, W.listOf ws.toArray 0) :: x1 :: x2 :: (a3, W.listOf #[] 0) :: (a2, W.listOf #[] 0) :: (a1, W.listOf #[] 0) :: cells))
    (turn : ∀ i z t S R P k1 k2 k3 tl (u : Str → Option Value) h tk own, ms[i]? = some z → OwnOff own (a1 :: a2 :: a3 :: D :: cells.map (·.1)) → OwnOff own (tl.map (·.1)) → OwnOff tl (a1 :: a2 :: a3 :: D :: cells.map (·.1)) → Sofar ms i S R P tl →
      Fr h₀ env.locals h (fun y => if y = x then some (.int z t) else if stored.contains y then u y else m₀ y) → News h₀ env.locals h ((a1, W.listOf (List.toArray S) k1) :: (a2, W.listOf (List.toArray (R.map Value.ref)) k2) :: (a3, W.listOf (List.toArray P) k3) :: (D, W.listOf ws.toArray 0) :: (cells ++ (tl ++ own))) →
      wpAny (model prog w) A (execs body env) (TurnPost h₀ env.locals x m₀ (lawLed a1 a2 a3) ((D, W.listOf ws.toArray 0) :: cells) stored (a1 :: a2 :: a3 :: D :: cells.map (·.1)) (fun c tl => Sofar ms (i + 1) c.1 c.2.1 c.2.2.1 tl) tl own { s with heap := h, toks := tk } Q) E { s with heap := h, toks := tk })
    (done : ∀ S R P k1 k2 k3 tl (u : Str → Option Value) h tk, OwnOff tl (a1 :: a2 :: a3 :: D :: cells.map (·.1)) → Sofar ms ms.length S R P tl →
      Fr h₀ env.locals h (fun y => if y = x then u y else if stored.contains y then u y else m₀ y) → News h₀ env.locals h ((a1, W.listOf (List.toArray S) k1) :: (a2, W.listOf (List.toArray (R.map Value.ref)) k2) :: (a3, W.listOf (List.toArray P) k3) :: (D, W.listOf ws.toArray 0) :: (cells ++ tl)) → Q .next { s with heap := h, toks := tk }) :
    wpAny (model prog w) A (pyIter (.ref D)) (fun it s₂ => LoopAtV prog w A h₀ env x body Q E it s₂) E s := by
  refine for_led (nn := 0) (lawLed a1 a2 a3) ((D, W.listOf ws.toArray 0) :: cells) stored (fun i c tl => Sofar ms i c.1 c.2.1 c.2.2.1 tl) (a1 :: a2 :: a3 :: D :: cells.map (·.1)) (([], [], [], 0, 0, 0) : St) hh F N ?_ (.head _) (fun c => rfl) (Sofar.zero ms) ?_ ?_
  · intro p hp
    rcases List.mem_append.mp hp with hp | hp
    · unfold lawLed at hp
      rcases List.mem_cons.mp hp with rfl | hp
      · exact .tail _ (.tail _ (.tail _ (.tail _ (.tail _ (.head _)))))
      · rcases List.mem_cons.mp hp with rfl | hp
        · exact .tail _ (.tail _ (.tail _ (.tail _ (.head _))))
        · rw [List.mem_singleton.mp hp]
          exact .tail _ (.tail _ (.tail _ (.head _)))
    · rcases List.mem_cons.mp hp with rfl | hp
      · exact .head _
      · exact .tail _ (.tail _ (.tail _ (.tail _ (.tail _ (.tail _ hp)))))
  · rintro i v ⟨S, R, P, k1, k2, k3⟩ tl u h tk own hv o1 o2 o3 hJ F₁ N₁
    obtain ⟨z, t, hz, rfl⟩ := intsAre_at hw hv
    exact turn i z t S R P k1 k2 k3 tl u h tk own hz o1 o2 o3 hJ F₁ N₁
  · rintro ⟨S, R, P, k1, k2, k3⟩ tl u h tk o hJ F₁ N₁
    rw [intsAre_len hw] at hJ
    exact done S R P k1 k2 k3 tl u h tk o hJ F₁ N₁
/-- the end of a turn of the outer loop -/
theorem law_end {L D a1 a2 a3 Z : Addr} {ws : List Value} {cells tl own news : List (Addr × Obj)} {ms : List Int} {m₀ m' : Str → Option Value} {stored : List Str} {i k k1 k2 k3 : Nat} {z : Int} {t t2 : Tok} {S P its : List Value} {R : List Addr} {s₁ : Shared} {h' : Heap} {tk : Nat}
    (hJ : Sofar ms i S R P tl) (hz : ms[i]? = some z) (hi : StrsAre its ((wk' z).map tx)) (F : Fr h₀ L h' m') (N : News h₀ L h' news)
    (h1 : (a1, W.listOf (S ++ [Value.str (tx (47 :: jn 47 (wk' z))) t]).toArray k1) ∈ news) (h2 : (a2, W.listOf ((R.map Value.ref) ++ [Value.ref Z]).toArray k2) ∈ news) (h3 : (a3, W.listOf (P ++ [Value.int ((pt z : Nat) : Int) t2]).toArray k3) ∈ news)
    (hW : (Z, W.listOf its.toArray k) ∈ news) (hD : (D, W.listOf ws.toArray 0) ∈ news) (hc : ∀ p ∈ cells ++ (tl ++ own), p ∈ news) {o1 o2 o3 o4 : Obj} (hlt : AllLt Z ((a1, o1) :: (a2, o2) :: (a3, o3) :: (D, o4) :: (cells ++ (tl ++ own))))
    (hk : ∀ z, z ≠ x → stored.contains z = false → m' z = m₀ z) :
    TurnEnd h₀ L x m₀ (lawLed a1 a2 a3) ((D, W.listOf ws.toArray 0) :: cells) stored (a1 :: a2 :: a3 :: D :: cells.map (·.1)) (fun c tl => Sofar ms (i + 1) c.1 c.2.1 c.2.2.1 tl) tl own s₁ { s₁ with heap := h', toks := tk } := by
  refine ⟨h', tk, m', (S ++ [Value.str (tx (47 :: jn 47 (wk' z))) t], R ++ [Z], P ++ [.int ((pt z : Nat) : Int) t2], k1, k2, k3), [(Z, W.listOf its.toArray k)], rfl, F, ?_, ?_, ?_, hk, hJ.snoc hz hi⟩
  · intro p hp
    unfold lawLed at hp
    dsimp only at hp
    rw [List.map_append] at hp
    rcases List.mem_append.mp hp with hp | hp
    · rcases List.mem_cons.mp hp with rfl | hp
      · exact N _ h1
      · rcases List.mem_cons.mp hp with rfl | hp
        · exact N _ h2
        · rw [List.mem_singleton.mp hp]; exact N _ h3
    · rcases List.mem_append.mp hp with hp | hp
      · rcases List.mem_cons.mp hp with rfl | hp
        · exact N _ hD
        · exact N _ (hc _ (List.mem_append_left _ hp))
      · rcases List.mem_append.mp hp with hp | hp
        · rw [List.mem_singleton.mp hp]; exact N _ hW
        · exact N _ (hc _ (List.mem_append_right _ hp))
  · intro p hp b hb
    rw [List.mem_singleton.mp hp]
    refine (Nat.ne_of_lt ?_).symm
    have hl := kst_ltOf hlt
    rcases List.mem_cons.mp hb with rfl | hb
    · exact hl _ (.head _)
    · rcases List.mem_cons.mp hb with rfl | hb
      · exact hl _ (.tail _ (.head _))
      · rcases List.mem_cons.mp hb with rfl | hb
        · exact hl _ (.tail _ (.tail _ (.head _)))
        · rcases List.mem_cons.mp hb with rfl | hb
          · exact hl _ (.tail _ (.tail _ (.tail _ (.head _))))
          · obtain ⟨q, hq, rfl⟩ := List.mem_map.mp hb
            exact hl q (.tail _ (.tail _ (.tail _ (.tail _ (List.mem_append_left _ hq)))))
  · intro p hp b hb
    rw [List.mem_singleton.mp hb]
    exact Nat.ne_of_lt (kst_ltOf hlt p (.tail _ (.tail _ (.tail _ (.tail _ (List.mem_append_right _ (List.mem_append_right _ hp)))))))
end
end

section
set_option Elab.async false
set_option linter.unusedVariables false
section
variable {prog : Program} {w : World} {A : Around} {E : Value → Shared → Prop} {s : Shared} {t u : Tok} {x y : Str} {Q : Value → Shared → Prop} {value slice : Expr} {l : List Nat}
theorem abs_n {z : Int} (h : ∀ u tk, Q (.int ((z.natAbs : Nat) : Int) u) { s with toks := tk }) : wpAny (model prog w) A (call (.builtin "abs") [.int z t]) Q E s :=
  call_abs_int fun u tk => by
    have e : (if z < 0 then -z else z) = ((z.natAbs : Nat) : Int) := by split <;> omega
    rw [e]; exact h u tk
theorem item_cs {i : Int} {ch : Nat} (hx : x = tx l) (h0 : 0 ≤ i) (hi : i < 2 ^ 63) (e : l[i.toNat]? = some ch) (h : ∀ t' k, Q (.str (tx [ch]) t') { s with toks := k })
    (hs : subscripted slice false (.str x t) (.int i u) = operate [.str x t, .int i u] (getItem (.str x t) (.int i u)) := by with_unfolding_all rfl) (hg : ∀ r, letTemporaryGo value (.str x t) r = pure () := by intro _; with_unfolding_all rfl) :
    wpAny (model prog w) A (subscriptTail value slice (.str x t) (.int i u)) Q E s := by
  subst hx
  exact item_s h0 hi e h hs hg
theorem mark_at (z : Int) : 0 ≤ z.fmod 2 ∧ z.fmod 2 < 2 ^ 63 ∧ ([124, 33] : List Nat)[(z.fmod 2).toNat]? = some (mk z) := by
  rw [Int.fmod_eq_emod_of_nonneg z (by decide)]
  unfold mk
  have : z % 2 = 0 ∨ z % 2 = 1 := by omega
  rcases this with h | h <;> rw [h] <;> simp
theorem mul3 {c : Nat} {n : Int} (hn : n = 3) (h : ∀ t' k, Q (.str (tx [c, c, c]) t') { s with toks := k }) : wpAny (model prog w) A (binaryOp .Mult (.str (tx [c]) t) (.int n u)) Q E s := by
  subst hn
  refine SB.mul ?_ ?_
  · have hl : (tx [c]).length = 1 := by rw [tx_len]; rfl
    unfold MulOk
    rw [hl]
    exact ⟨by decide, fun _ _ => by decide, fun _ _ => by decide +kernel⟩
  · have e : Txt.mul (tx [c]) 3 = tx [c, c, c] := by
      unfold Txt.mul
      rfl
    rw [e]; exact h
theorem mod_port {z m : Int} (hm : m = 65536) (h : ∀ t' k, Q (.int ((pt z : Nat) : Int) t') { s with toks := k }) : wpAny (model prog w) A (binaryOp .Mod (.int ((z.natAbs : Nat) : Int) t) (.int m u)) Q E s := by
  subst hm
  refine mod_int' (by decide) ?_
  rw [show ((z.natAbs : Nat) : Int).fmod 65536 = ((pt z : Nat) : Int) from by rw [Int.fmod_eq_emod_of_nonneg _ (by decide)]; unfold pt; omega]
  exact h _ _
theorem path_join (z : Int) : Txt.join (Str.ofString "/") ((nms z).map tx) = tx (jn 47 (nms z)) ∧ (((nms z).map tx).map (·.length)).sum + ((nms z).map tx).length * (Str.ofString "/").length ≤ 16777216 ∧ Str.ofString "/" ++ tx (jn 47 (nms z)) = tx (47 :: jn 47 (nms z)) ∧ (tx (47 :: jn 47 (nms z))).length ≤ 1000000 := by
  have h1 := nms_jn z
  have h2 := nms_sum z
  have h3 := nms_len z
  refine ⟨join_lit _, ?_, ?_, ?_⟩
  · rw [map_tx_len, lit_slash, tx_len, List.length_map]; simp only [List.length_singleton]; omega
  · rw [lit_slash, tx_app]; rfl
  · rw [tx_len]; simp only [List.length_cons]; omega
theorem msg257 (P : List Nat) (hP : P.length ≤ 1000) : Str.ofString "257 \"" ++ tx (StrLaws.dbl 34 P) = tx (pre257 ++ StrLaws.dbl 34 P) ∧ (tx (pre257 ++ StrLaws.dbl 34 P)).length ≤ 1000000 ∧ tx (pre257 ++ StrLaws.dbl 34 P) ++ Str.ofString "\" made" = tx (pre257 ++ (StrLaws.dbl 34 P ++ suf257)) ∧ (tx (pre257 ++ (StrLaws.dbl 34 P ++ suf257))).length ≤ 1000000 := by
  have hd := dbl_len P
  refine ⟨?_, ?_, ?_, ?_⟩
  · rw [show Str.ofString "257 \"" = tx pre257 from by decide +kernel, tx_app]
  · rw [tx_len, List.length_append, show pre257.length = 5 from rfl]; omega
  · rw [show Str.ofString "\" made" = tx suf257 from by decide +kernel, tx_app, List.append_assoc]
  · rw [tx_len, List.length_append, List.length_append, show pre257.length = 5 from rfl, show suf257.length = 6 from rfl]; omega
noncomputable def h229 : List Nat := [50, 50, 57, 32, 103, 111, 32, 40]
theorem msg229 (m n : Nat) (hn : n < 65536) : Str.ofString "229 go (" ++ tx [m, m, m] = tx (h229 ++ [m, m, m]) ∧ (tx (h229 ++ [m, m, m])).length ≤ 1000000 ∧ tx (h229 ++ [m, m, m]) ++ tx (dg n) = tx (h229 ++ [m, m, m] ++ dg n) ∧ (tx (h229 ++ [m, m, m] ++ dg n)).length ≤ 1000000 ∧
    tx (h229 ++ [m, m, m] ++ dg n) ++ tx [m] = tx (h229 ++ [m, m, m] ++ dg n ++ [m]) ∧ (tx (h229 ++ [m, m, m] ++ dg n ++ [m])).length ≤ 1000000 ∧ tx (h229 ++ [m, m, m] ++ dg n ++ [m]) ++ Str.ofString ")" = tx (rep229 m n) ∧ (tx (rep229 m n)).length ≤ 1000000 := by
  have hd := dg_len hn
  refine ⟨?_, ?_, tx_app _ _, ?_, tx_app _ _, ?_, ?_, ?_⟩
  · rw [show Str.ofString "229 go (" = tx h229 from by decide +kernel, tx_app]
  · rw [tx_len]; simp [h229]
  · rw [tx_len]; simp only [List.length_append, h229, List.length_cons, List.length_nil]; omega
  · rw [tx_len]; simp only [List.length_append, h229, List.length_cons, List.length_nil]; omega
  · rw [show Str.ofString ")" = tx [41] from by decide +kernel, tx_app]; simp [rep229, h229]
  · rw [tx_len, rep229_len]; omega
theorem str_n {n : Nat} (hn : n < 65536) (h : ∀ t' k, Q (.str (tx (dg n)) t') { s with toks := k }) : wpAny (model prog w) A (call (.type "str") [.int (n : Int) t]) Q E s := by
  rw [← dg_str] at h
  refine P.str_of_int (shown (N := 2 ^ 1920) ?_ ?_ (Int.le_refl _)) ?_
  · have : (0 : Int) ≤ 2 ^ 1920 := by decide +kernel
    omega
  · have : (65536 : Int) ≤ 2 ^ 1920 := by decide +kernel
    omega
  · exact h _ _
end
section
variable {prog : Program} {w : World} {A : Around} {E : Value → Shared → Prop} {Q : Flow → Shared → Prop} {s : Shared} {env : Env} {h₀ : Heap} {L : Addr}
theorem len_l {l : Addr} {vs : List Value} {n : Nat} {Q : Value → Shared → Prop} {news : List (Addr × Obj)} (N : News h₀ L s.heap news) (hm : (l, W.listOf vs.toArray n) ∈ news) (hz : vs.length ≤ 1000000) (h : ∀ t' k, Q (.int ((vs.length : Nat) : Int) t') { s with toks := k }) :
    wpAny (model prog w) A (call (.builtin "len") [.ref l]) Q E s :=
  PyProof.Rows.len_list (news_isList N hm) (by simp only [List.size_toArray]; omega) (by simpa using h _ _)
theorem item_wd0 {value slice : Expr} {d : Addr} {t1 t2 t3 t4 t : Tok} {n : Nat} {k : Int} {r : Nat} {Q : Value → Shared → Prop} {news : List (Addr × Obj)} (N : News h₀ L s.heap news)
    (hm : (d, W.listOf #[.str (Str.ofString "..") t1, .str (Str.ofString "a") t2, .str (Str.ofString "b") t3, .str (Str.ofString "q\"r") t4] n) ∈ news) (hk : k = ((r % 4 : Nat) : Int)) (h : ∀ t', Q (.str (tx (wd (r % 4))) t') s)
    (hs : subscripted slice false (.ref d) (.int k t) = operate [.ref d, .int k t] (getItem (.ref d) (.int k t))) (hg : ∀ q, letTemporaryGo value (.ref d) q = pure ()) :
    wpAny (model prog w) A (subscriptTail value slice (.ref d) (.int k t)) Q E s := by
  have h4 : r % 4 = 0 ∨ r % 4 = 1 ∨ r % 4 = 2 ∨ r % 4 = 3 := by omega
  subst hk
  rcases h4 with e | e | e | e <;> rw [e] at h hs ⊢
  · exact item_at (vs := [_, _, _, _]) N hm (by decide) (by decide) (v := .str (tx (wd 0)) t1) (by rw [show tx (wd 0) = Str.ofString ".." from by decide +kernel]; rfl) (h _) hs hg
  · exact item_at (vs := [_, _, _, _]) N hm (by decide) (by decide) (v := .str (tx (wd 1)) t2) (by rw [show tx (wd 1) = Str.ofString "a" from by decide +kernel]; rfl) (h _) hs hg
  · exact item_at (vs := [_, _, _, _]) N hm (by decide) (by decide) (v := .str (tx (wd 2)) t3) (by rw [show tx (wd 2) = Str.ofString "b" from by decide +kernel]; rfl) (h _) hs hg
  · exact item_at (vs := [_, _, _, _]) N hm (by decide) (by decide) (v := .str (tx (wd 3)) t4) (by rw [show tx (wd 3) = Str.ofString "q\"r" from by decide +kernel]; rfl) (h _) hs hg
theorem item_wd {value slice : Expr} {d : Addr} {t1 t2 t3 t4 t : Tok} {n r : Nat} {Q : Value → Shared → Prop} {news : List (Addr × Obj)} (N : News h₀ L s.heap news)
    (hm : (d, W.listOf #[.str (Str.ofString "..") t1, .str (Str.ofString "a") t2, .str (Str.ofString "b") t3, .str (Str.ofString "q\"r") t4] n) ∈ news) (h : ∀ t', Q (.str (tx (wd (r % 4))) t') s)
    (hs : subscripted slice false (.ref d) (.int (((r : Nat) : Int).fmod 4) t) = operate [.ref d, .int (((r : Nat) : Int).fmod 4) t] (getItem (.ref d) (.int (((r : Nat) : Int).fmod 4) t)) := by with_unfolding_all rfl) (hg : ∀ q, letTemporaryGo value (.ref d) q = pure () := by intro _; with_unfolding_all rfl) :
    wpAny (model prog w) A (subscriptTail value slice (.ref d) (.int (((r : Nat) : Int).fmod 4) t)) Q E s := item_wd0 N hm (by rw [Int.fmod_eq_emod_of_nonneg _ (by decide)]; omega) h hs hg
noncomputable def NOut (h₀ : Heap) (L : Addr) (m₁ : Str → Option Value) (led : List (Addr × Obj)) (pre : List (List Nat)) (z : Int) (s₁ s₂ : Shared) : Prop :=
  pre = nms z ∧ ∃ h' tk', s₂ = { s₁ with heap := h', toks := tk' } ∧ Fr h₀ L h' m₁ ∧ News h₀ L h' led
/-- the end of a turn of the names' loop -/
noncomputable def NEnd (h₀ : Heap) (L : Addr) (m₀ : Str → Option Value) (nl : Addr) (tail : List (Addr × Obj)) (z : Int) (pre : List (List Nat)) (s₁ s₂ : Shared) : Prop :=
  ∃ its k pre' r t h' tk m' news', s₂ = { s₁ with heap := h', toks := tk } ∧ Fr h₀ L h' m' ∧ News h₀ L h' news' ∧ (nl, W.listOf (List.toArray its) k) ∈ news' ∧ (∀ p ∈ tail, p ∈ news') ∧ StrsAre its (pre'.map tx) ∧ m' (Str.ofString "rest") = some (.int ((r : Nat) : Int) t) ∧ (∀ y, y ≠ Str.ofString "rest" → m' y = m₀ y) ∧
    nms z = pre' ++ nm (4 - pre'.length) r ∧ pre'.length ≤ 4 ∧ pre.length < pre'.length
theorem names_end {m₀ : Str → Option Value} {nl : Addr} {tail news : List (Addr × Obj)} {z : Int} {pre : List (List Nat)} {its : List Value} {r k tk : Nat} {t t1 : Tok} {o : Option Value} {s₁ : Shared} {h' : Heap} (hS : StrsAre its (List.map tx pre))
    (hstep : nms z = (pre ++ [wd (r % 4)]) ++ nm (4 - (pre ++ [wd (r % 4)]).length) (r / 4)) (hl : pre.length ≤ 4) (h4 : ¬ pre.length = 4)
    (F : Fr h₀ L h' (fun y => if y = Str.ofString "rest" then some (Value.int (((r : Nat) : Int).fdiv 4) t) else if y = Str.ofString "rest" then o else m₀ y)) (N : News h₀ L h' news) (h1 : (nl, W.listOf (its.toArray.push (Value.str (tx (wd (r % 4))) t1)) k) ∈ news) (h2 : ∀ p ∈ tail, p ∈ news) :
    NEnd h₀ L m₀ nl tail z pre s₁ { s₁ with heap := h', toks := tk } := by
  refine ⟨its ++ [.str (tx (wd (r % 4))) t1], k, pre ++ [wd (r % 4)], r / 4, t, h', tk, _, news, rfl, F, N, ?_, h2, ?_, ?_, ?_, hstep, ?_, ?_⟩
  · rw [List.push_toArray] at h1; exact h1
  · rw [List.map_append]; exact strsAre_push hS
  · rw [if_pos rfl, Int.fdiv_eq_ediv_of_nonneg _ (by decide)]
    simp
  · intro y hy; rw [if_neg hy, if_neg hy]
  · rw [List.length_append, List.length_singleton]; omega
  · rw [List.length_append, List.length_singleton]; omega
noncomputable def NPost (h₀ : Heap) (L : Addr) (m₀ : Str → Option Value) (nl : Addr) (tail : List (Addr × Obj)) (z : Int) (pre : List (List Nat)) (s₁ : Shared) (f : Flow) (s₂ : Shared) : Prop :=
  match f with
  | .ret _ => False
  | .brk => False
  | _ => NEnd h₀ L m₀ nl tail z pre s₁ s₂
theorem names_while {test : Expr} {body : List Stmt} {pos : Pos} {m₀ : Str → Option Value} {nl : Addr} {tail : List (Addr × Obj)} {z : Int} {t₀ : Tok} (F : Fr h₀ L s.heap m₀) (N : News h₀ L s.heap ((nl, W.listOf #[] 0) :: tail)) (hr : m₀ (Str.ofString "rest") = some (.int ((z.natAbs : Nat) : Int) t₀))
    (turn : ∀ its k pre r t h tk, StrsAre its (List.map tx pre) → nms z = pre ++ nm (4 - pre.length) r → pre.length ≤ 4 → Fr h₀ L h (fun y => if y = Str.ofString "rest" then some (Value.int ((r : Nat) : Int) t) else m₀ y) → News h₀ L h ((nl, W.listOf (List.toArray its) k) :: tail) →
      wpAny (model prog w) A (isTrue test env (eval test env)) (fun b s₂ =>
        if b = true then wpAny (model prog w) A (execs body env) (NPost h₀ L m₀ nl tail z pre s) E s₂ else NOut h₀ L (fun y => if y = Str.ofString "rest" then some (Value.int ((r : Nat) : Int) t) else m₀ y) ((nl, W.listOf (List.toArray its) k) :: tail) pre z s s₂) E { s with heap := h, toks := tk })
    (next : ∀ its k r t h tk, StrsAre its ((nms z).map tx) → Fr h₀ L h (fun y => if y = Str.ofString "rest" then some (Value.int ((r : Nat) : Int) t) else m₀ y) → News h₀ L h ((nl, W.listOf (List.toArray its) k) :: tail) → Q .next { s with heap := h, toks := tk })
    (hE : PassesOwn (model prog w) A env E := by passes_own) :
    wpAny (model prog w) A (exec (.While test body [] pos) env) Q E s := by
  have fr : ∀ {m : Str → Option Value} {r : Nat} {t : Tok}, m (Str.ofString "rest") = some (.int ((r : Nat) : Int) t) → (∀ y, y ≠ Str.ofString "rest" → m y = m₀ y) → m = fun y => if y = Str.ofString "rest" then some (Value.int ((r : Nat) : Int) t) else m₀ y := fun {m r t} h1 h2 => by
    funext y
    by_cases hy : y = Str.ofString "rest"
    · rw [if_pos hy, hy, h1]
    · rw [if_neg hy, h2 y hy]
  refine While_inv2 (fun n m nx => ∃ (its : List Value) (k : Nat) (pre : List (List Nat)) (r : Nat) (t : Tok), nx = (nl, W.listOf (List.toArray its) k) :: tail ∧ 4 - pre.length = n ∧ StrsAre its (List.map tx pre) ∧ nms z = pre ++ nm (4 - pre.length) r ∧ pre.length ≤ 4 ∧ m = fun y => if y = Str.ofString "rest" then some (Value.int ((r : Nat) : Int) t) else m₀ y) F N
    ⟨[], 0, [], z.natAbs, t₀, rfl, rfl, StrsAre.nil, rfl, Nat.zero_le _, fr hr fun _ _ => rfl⟩ ?_ hE
  rintro n m₁ nx h tk F₁ N₁ ⟨its, k, pre, r, t, rfl, rfl, hS, hp, hl, rfl⟩
  refine wpAny_mono (turn its k pre r t h tk hS hp hl F₁ N₁) (fun b s₂ p => ?_) fun _ _ x => x
  cases b with
  | false =>
    simp only [Bool.false_eq_true, if_false] at p ⊢
    obtain ⟨rfl, h', tk', rfl, F', N'⟩ := p
    exact next its k r t h' tk' hS F' N'
  | true =>
    simp only [if_true] at p ⊢
    refine wpAny_mono p (fun f s₃ q => ?_) fun _ _ x => x
    cases f with
    | ret v => exact q.elim
    | brk => exact q.elim
    | next =>
      obtain ⟨its', k', pre', r', t', h', tk', m', news', e, F', N', i1, i2, hS', hm, hm2, hp', hl', hlt⟩ := q
      exact ⟨h', tk', m', (nl, W.listOf (List.toArray its') k') :: tail, 4 - pre'.length, e, F', fun p hp => by
        rcases List.mem_cons.mp hp with rfl | hp
        · exact N' _ i1
        · exact N' _ (i2 p hp), by omega, its', k', pre', r', t', rfl, rfl, hS', hp', hl', fr hm hm2⟩
    | cont =>
      obtain ⟨its', k', pre', r', t', h', tk', m', news', e, F', N', i1, i2, hS', hm, hm2, hp', hl', hlt⟩ := q
      exact ⟨h', tk', m', (nl, W.listOf (List.toArray its') k') :: tail, 4 - pre'.length, e, F', fun p hp => by
        rcases List.mem_cons.mp hp with rfl | hp
        · exact N' _ i1
        · exact N' _ (i2 p hp), by omega, its', k', pre', r', t', rfl, rfl, hS', hp', hl', fr hm hm2⟩
end
end

section
set_option Elab.async false
set_option linter.unusedVariables false
theorem lt_of {d : Addr} {l : List (Addr × Obj)} (h : AllLt d l) : ∀ p ∈ l, p.1 < d := kst_ltOf h
section
variable {prog : Program} {w : World} {A : Around} {E : Value → Shared → Prop} {Q : Flow → Shared → Prop} {s : Shared} {env : Env} {h₀ : Heap} {x : Str} {body : List Stmt}
/-- the end of a turn of the walk's loop -/
noncomputable def WEnd (h₀ : Heap) (L : Addr) (x st : Str) (m₀ : Str → Option Value) (news own : List (Addr × Obj)) (S : List (List Nat)) (s₁ s₂ : Shared) : Prop :=
  ∃ h' tk m' W its k news', s₂ = { s₁ with heap := h', toks := tk } ∧ Fr h₀ L h' m' ∧ News h₀ L h' news' ∧ (W, PySem.W.listOf (List.toArray its) k) ∈ news' ∧ (∀ p ∈ news ++ own, p ∈ news') ∧ AllLt W (news ++ own) ∧ m' st = some (.ref W) ∧ (∀ y, y ≠ x → y ≠ st → m' y = m₀ y) ∧ StrsAre its (S.map tx)
noncomputable def WPost (h₀ : Heap) (L : Addr) (x st : Str) (m₀ : Str → Option Value) (news own : List (Addr × Obj)) (S : List (List Nat)) (s₁ : Shared) (f : Flow) (s₂ : Shared) : Prop :=
  match f with
  | .ret _ => False
  | .brk => False
  | _ => WEnd h₀ L x st m₀ news own S s₁ s₂
theorem for_walk {l W₀ : Addr} {st : Str} {vs : List Value} {ps : List (List Nat)} {nn : Nat} {m₀ : Str → Option Value} {news : List (Addr × Obj)} (hh : A.handled = none) (hxs : x ≠ st) (hv : StrsAre vs (ps.map tx)) (F : Fr h₀ env.locals s.heap m₀) (N : News h₀ env.locals s.heap ((W₀, PySem.W.listOf #[] 0) :: news))
    (hl : (l, PySem.W.listOf vs.toArray nn) ∈ news) (h0 : AllLt W₀ news) (hW : m₀ st = some (.ref W₀))
    (turn : ∀ i q t W its k h tk own, ps[i]? = some q → AllLt W news → StrsAre its ((np (ps.take i)).map tx) → Fr h₀ env.locals h (fun y => if y = x then some (.str (tx q) t) else if y = st then some (.ref W) else m₀ y) → News h₀ env.locals h ((W, PySem.W.listOf (List.toArray its) k) :: (news ++ own)) →
      wpAny (model prog w) A (execs body env) (WPost h₀ env.locals x st m₀ news own (np_step (np (ps.take i)) q) { s with heap := h, toks := tk }) E { s with heap := h, toks := tk })
    (done : ∀ W its k (u : Str → Option Value) h tk, AllLt W news → StrsAre its ((np ps).map tx) → Fr h₀ env.locals h (fun y => if y = x then u y else if y = st then some (.ref W) else m₀ y) → News h₀ env.locals h ((W, PySem.W.listOf (List.toArray its) k) :: news) → Q .next { s with heap := h, toks := tk }) :
    wpAny (model prog w) A (pyIter (.ref l)) (fun it s₂ => LoopAtV prog w A h₀ env x body Q E it s₂) E s := by
  refine kdl_iter (fun i m nx => ∃ W its k, nx = (W, PySem.W.listOf (List.toArray its) k) :: news ∧ AllLt W news ∧ m st = some (.ref W) ∧ (∀ y, y ≠ x → y ≠ st → m y = m₀ y) ∧ StrsAre its ((np (ps.take i)).map tx)) hh (.tail _ hl) F N ⟨W₀, [], 0, rfl, h0, hW, fun _ _ _ => rfl, StrsAre.nil⟩ ?_ ?_
  · rintro i v m₁ nx h tk own hvi hoff _ ⟨W, its, k, rfl, hlt, hm1, hm2, hS⟩ F₁ N₁
    obtain ⟨q, t, hq, rfl⟩ := strs_walk hv hvi
    have e : (fun y => if y = x then some (.str (tx q) t) else m₁ y) = fun y => if y = x then some (.str (tx q) t) else if y = st then some (.ref W) else m₀ y := by
      funext y
      by_cases h1 : y = x
      · simp [h1]
      · simp only [if_neg h1]
        by_cases h2 : y = st
        · simp only [if_pos h2]; rw [h2]; exact hm1
        · simp only [if_neg h2]; exact hm2 y h1 h2
    rw [e] at F₁
    refine wpAny_mono (turn i q t W its k h tk own hq hlt hS F₁ N₁) (fun f s₂ p => ?_) fun _ _ z => z
    have fin : WEnd h₀ env.locals x st m₀ news own (np_step (np (ps.take i)) q) { s with heap := h, toks := tk } s₂ →
        InvEndG h₀ env.locals (fun m' nx => (l, PySem.W.listOf vs.toArray nn) ∈ nx ∧ ∃ W its k, nx = (W, PySem.W.listOf (List.toArray its) k) :: news ∧ AllLt W news ∧ m' st = some (.ref W) ∧ (∀ y, y ≠ x → y ≠ st → m' y = m₀ y) ∧ StrsAre its ((np (ps.take (i + 1))).map tx)) own { s with heap := h, toks := tk } s₂ := by
      rintro ⟨h', tk', m', W', its', k', news', e', F', N', i1, i2, hlt', hm1', hm2', hS'⟩
      refine ⟨h', tk', m', news', (W', PySem.W.listOf (List.toArray its') k') :: news, e', F', N', ?_, fun p hp => i2 p (List.mem_append_right _ hp), ?_, .tail _ hl, W', its', k', rfl, ?_, hm1', hm2', ?_⟩
      · intro p hp
        rcases List.mem_cons.mp hp with rfl | hp
        · exact i1
        · exact i2 p (List.mem_append_left _ hp)
      · intro p hp b hb
        rcases List.mem_cons.mp hb with rfl | hb
        · exact Nat.ne_of_lt (lt_of hlt' p (List.mem_append_right _ hp))
        · exact hoff p hp b (.tail _ hb)
      · exact allLt_of fun p hp => lt_of hlt' p (List.mem_append_left _ hp)
      · rw [List.take_add_one, show ps[i]?.toList = [q] from by rw [hq]; rfl, np_snoc]
        exact hS'
    cases f with
    | ret v => exact p.elim
    | brk => exact p.elim
    | next => exact fin p
    | cont => exact fin p
  · rintro m₁ nx h tk ⟨W, its, k, rfl, hlt, hm1, hm2, hS⟩ F₁ N₁
    have hlen : vs.length = ps.length := by rw [strsAre_len hv, List.length_map]
    rw [hlen, List.take_length] at hS
    refine done W its k m₁ h tk hlt hS ?_ N₁
    have e : (fun y => if y = x then m₁ y else if y = st then some (.ref W) else m₀ y) = m₁ := by
      funext y
      by_cases h1 : y = x
      · simp [h1]
      · simp only [if_neg h1]
        by_cases h2 : y = st
        · simp only [if_pos h2]; rw [h2]; exact hm1.symm
        · simp only [if_neg h2]; exact (hm2 y h1 h2).symm
    rw [e]; exact F₁
theorem walk_end {L Z : Addr} {st : Str} {m₀ m' : Str → Option Value} {news own news' : List (Addr × Obj)} {S : List (List Nat)} {its : List Value} {k tk : Nat} {s₁ : Shared} {h' : Heap} (hS : StrsAre its (S.map tx)) (F : Fr h₀ L h' m') (N : News h₀ L h' news') (hW : (Z, PySem.W.listOf (List.toArray its) k) ∈ news') (hc : ∀ p ∈ news ++ own, p ∈ news') (hlt : AllLt Z (news ++ own))
    (h1 : m' st = some (.ref Z)) (h2 : ∀ y, y ≠ x → y ≠ st → m' y = m₀ y) : WEnd h₀ L x st m₀ news own S s₁ { s₁ with heap := h', toks := tk } := ⟨h', tk, m', Z, its, k, news', rfl, F, N, hW, hc, hlt, h1, h2, hS⟩
theorem np_len_take (z : Int) (i : Nat) : (np ((nms z).take i)).length ≤ 16 := by
  have h1 := np_bound ((nms z).take i)
  have h2 := sum_le3 (l := (nms z).take i) fun q hq => (nms_mem (List.mem_of_mem_take hq)).2.2.2
  have h3 : ((nms z).take i).length ≤ 4 := by rw [List.length_take]; have := nms_len z; omega
  omega
theorem walk_join (z : Int) : Txt.join (Str.ofString "/") ((wk' z).map tx) = tx (jn 47 (wk' z)) ∧ (((wk' z).map tx).map (·.length)).sum + ((wk' z).map tx).length * (Str.ofString "/").length ≤ 16777216 ∧ Str.ofString "/" ++ tx (jn 47 (wk' z)) = tx (47 :: jn 47 (wk' z)) ∧ (tx (47 :: jn 47 (wk' z))).length ≤ 1000000 :=
  ⟨join_lit _, join_size (wk_ok z), by rw [lit_slash, tx_app]; rfl, (wk_ok z).len⟩
theorem app_sz {vs : List Value} (h : vs.length ≤ 1000000) : vs.toArray.size ≤ sizeLine := by rw [List.size_toArray]; exact sz h
theorem Sofar.szs {ms : List Int} {i : Nat} {S : List Value} {R : List Addr} {P : List Value} {tl : List (Addr × Obj)} (h : Sofar ms i S R P tl) (hm : ms.length ≤ 8) : S.length ≤ 1000000 ∧ (R.map Value.ref).length ≤ 1000000 ∧ P.length ≤ 1000000 := by
  have h1 := strsAre_len h.s
  have h2 := h.r.1
  have h3 := intsAre_len h.p
  have h4 : (ms.take i).length ≤ 8 := by rw [List.length_take]; omega
  simp only [List.length_map] at h1 h2 h3 ⊢
  omega
noncomputable def AllNe (d : Nat) : List (Addr × Obj) → Prop
  | [] => True
  | p :: r => @Ne Nat p.1 d ∧ AllNe d r
theorem allNe_of {d : Addr} : ∀ {l : List (Addr × Obj)}, (∀ p ∈ l, p.1 ≠ d) → AllNe d l
  | [], _ => trivial
  | p :: _, h => ⟨h p (.head _), allNe_of fun q hq => h q (.tail _ hq)⟩
/-- a name of the law: two dots, or one to be added -/
theorem step_dots (S : List (List Nat)) : np_step S [46, 46] = S.dropLast := by simp [np_step]
theorem step_name {S : List (List Nat)} {q : List Nat} (h1 : q ≠ []) (h2 : q ≠ [46]) (h3 : q ≠ [46, 46]) : np_step S q = S ++ [q] := by simp [np_step, h1, h2, h3]
theorem strsAre_dropLast {vs : List Value} {ys : List Str} (h : StrsAre vs ys) : StrsAre vs.dropLast ys.dropLast := by
  induction h with
  | nil => exact .nil
  | cons y t h ih =>
    cases h with
    | nil => exact .nil
    | cons y' t' h' => exact .cons y t ih
end
end

section
set_option Elab.async false
set_option linter.unusedVariables false
theorem news_front {h₀ h : Heap} {L : Addr} {news tl : List (Addr × Obj)} {q : Addr × Obj} (N : News h₀ L h news) (hq : q ∈ tl) (hs : ∀ p ∈ tl, p ∈ news) : News h₀ L h (q :: news) := fun p hp => by
  rcases List.mem_cons.mp hp with rfl | hp
  · exact N _ (hs _ hq)
  · exact N p hp
theorem rows_at {ms : List Int} {tl : List (Addr × Obj)} {R : List Addr} (h : Rows tl R (ms.map wk')) {i : Nat} {v : Value} (hv : (R.map Value.ref)[i]? = some v) :
    ∃ r z vs k, R[i]? = some r ∧ v = .ref r ∧ ms[i]? = some z ∧ (r, PySem.W.listOf (List.toArray vs) k) ∈ tl ∧ StrsAre vs ((wk' z).map tx) ∧ vs.length = (wk' z).length := by
  obtain ⟨r, w, vs, k, hr, e, hw, hm, hs⟩ := h.get hv
  rw [List.getElem?_map] at hw
  cases hz : ms[i]? with
  | none => rw [hz] at hw; cases hw
  | some z =>
    rw [hz] at hw; cases hw
    exact ⟨r, z, vs, k, hr, e, rfl, hm, hs, by rw [strsAre_len hs, List.length_map]⟩
noncomputable def hd1 (z : Int) : List Nat := (wk' z).getD 0 []
theorem head_at {vi : List Value} {z : Int} (hvi : StrsAre vi ((wk' z).map tx)) (hp : 0 < (wk' z).length) : ∃ t, vi[(0 : Int).toNat]? = some (.str (tx (hd1 z)) t) := by
  refine strsAre_at hvi (i := 0) ?_
  rw [List.getElem?_map, List.getElem?_eq_getElem hp]
  simp [hd1, hp]
section
variable {prog : Program} {w : World} {A : Around} {E : Value → Shared → Prop} {s : Shared} {env : Env} {h₀ : Heap} {L : Addr}
/-- nothing but the heap has moved on -/
noncomputable def Stay (h₀ : Heap) (L : Addr) (m₀ : Str → Option Value) (news : List (Addr × Obj)) (s₁ s₂ : Shared) : Prop :=
  ∃ h' tk', s₂ = { s₁ with heap := h', toks := tk' } ∧ Fr h₀ L h' m₀ ∧ News h₀ L h' news
noncomputable def NotIn (h₀ : Heap) (L : Addr) (m₀ : Str → Option Value) (news : List (Addr × Obj)) (s₁ : Shared) (b : Bool) (s₂ : Shared) : Prop := b = false ∧ Stay h₀ L m₀ news s₁ s₂
theorem while_not {Q : Flow → Shared → Prop} {test : Expr} {body : List Stmt} {pos : Pos} {m₀ : Str → Option Value} {news : List (Addr × Obj)} (F : Fr h₀ L s.heap m₀) (N : News h₀ L s.heap news)
    (turn : wpAny (model prog w) A (isTrue test env (eval test env)) (NotIn h₀ L m₀ news s) E s)
    (next : ∀ h tk, Fr h₀ L h m₀ → News h₀ L h news → Q .next { s with heap := h, toks := tk })
    (hE : PassesOwn (model prog w) A env E := by passes_own) : wpAny (model prog w) A (exec (.While test body [] pos) env) Q E s := by
  refine wpAny_While (codeAny_whileLoop (fun _ s' => s' = s) ?_ 0 rfl)
  rintro n s' rfl
  refine wpAny_mono turn (fun b s₂ h₂ => ?_) hE
  obtain ⟨rfl, h', tk', rfl, F', N'⟩ := h₂
  simp only [Bool.false_eq_true, if_false]
  exact wpAny_execs_nil (next h' tk' F' N')
theorem eq_len {a b : Addr} {vs us : List Value} {n k : Nat} {Q : Value → Shared → Prop} {news : List (Addr × Obj)} (N : News h₀ L s.heap news) (ha : (a, PySem.W.listOf vs.toArray n) ∈ news) (hb : (b, PySem.W.listOf us.toArray k) ∈ news) (hne : vs.length ≠ us.length) (hu : A.units < cLine) (h : Q (.bool false) s) :
    wpAny (model prog w) A (compareOp .Eq (.ref a) (.ref b)) Q E s :=
  PySem.SeqAt.eq_list_lengthsAt (news_isList N ha) (news_isList N hb) (by simpa using hne) hu h
end
theorem due_facts : Txt.join (Str.ofString "/") [] = tx [] ∧ ((([] : List Str).map (·.length)).sum + ([] : List Str).length * (Str.ofString "/").length ≤ 16777216) ∧ Str.ofString "/" ++ tx [] = tx [47] ∧ (tx [47]).length ≤ 1000000 :=
  ⟨by decide +kernel, by decide, by rw [lit_slash, tx_app]; rfl, by rw [tx_len]; decide⟩
theorem all_ok (ns : List Int) : ∀ w ∈ (mine ns).map wk', Ok w := fun w hw => by
  obtain ⟨z, _, rfl⟩ := List.mem_map.mp hw
  exact wk_ok z
theorem all_ne (ns : List Int) : (mine ns).map wk' ≠ [] := fun e => by
  have := (mine_len ns).2
  have h2 := congrArg List.length e
  rw [List.length_map, List.length_nil] at h2; omega
theorem all_paths {S : List Value} {ns : List Int} (h : StrsAre S ((mine ns).map fun z => tx (47 :: jn 47 (wk' z)))) : StrsAre S (((mine ns).map wk').map fun w => tx (47 :: jn 47 w)) := by
  rw [List.map_map]; exact h
theorem strsAre_reverse {vs : List Value} {ys : List Str} (h : StrsAre vs ys) : StrsAre vs.reverse ys.reverse := by
  induction h with
  | nil => exact .nil
  | cons y t h ih => rw [List.reverse_cons, List.reverse_cons]; exact strsAre_push ih
theorem all_paths_rev {S : List Value} {ns : List Int} (h : StrsAre S ((mine ns).map fun z => tx (47 :: jn 47 (wk' z)))) : StrsAre S.reverse (((mine ns).map wk').reverse.map fun w => tx (47 :: jn 47 w)) := by
  rw [List.map_reverse]; exact strsAre_reverse (all_paths h)
theorem due_rd (ns : List Int) : tx (47 :: jn 47 (rd ((mine ns).map wk'))) = tx [47] := by rw [all_rd]; rfl
theorem due_rd_rev (ns : List Int) : tx (47 :: jn 47 (rd ((mine ns).map wk').reverse)) = tx [47] := by rw [all_rd_rev]; rfl
theorem due_cp (ns : List Int) : tx (47 :: jn 47 (cp ((mine ns).map wk'))) = tx [47] := by rw [all_cp]; rfl
theorem rev_l {prog : Program} {w : World} {A : Around} {E : Value → Shared → Prop} {s : Shared} {h₀ : Heap} {L l : Addr} {m : Str → Option Value} {news : List (Addr × Obj)} {value slice : PySem.Expr} {vs : List Value} {vk : Value} {ops : List Value} {n : Nat} {Q : Value → Shared → Prop} (F : Fr h₀ L s.heap m) (N : News h₀ L s.heap news) (hl : (l, PySem.W.listOf vs.toArray n) ∈ news) (pk : IsPart vk (some (-1))) (hz : vs.length ≤ 1000000)
    (h : ∀ D h', Fr h₀ L h' m → News h₀ L h' ((D, PySem.W.listOf vs.reverse.toArray 0) :: news) → (∀ p ∈ news, p.1 < D) → Q (.ref D) { s with heap := h' })
    (hs : subscripted slice false (.ref l) (.ref s.heap.objs.size) = operate ops (getItem (.ref l) (.ref s.heap.objs.size))) (ht : ∀ r, letTemporaryGo value (.ref l) r = pure ()) :
    wpAny (model prog w) A (subscriptTail value slice (.ref l) (.ref s.heap.objs.size)) Q E { s with heap := s.heap.push { cls := .type "slice", data := .fields #[.none, .none, vk] } } :=
  krv_lit (its := vs.toArray) (zs := vs.reverse) F N (news_isList N hl) pk rfl h hs ht (app_sz hz)
theorem joins0 {prog : Program} {w : World} {A : Around} {E : Value → Shared → Prop} {s : Shared} {h₀ : Heap} {L a : Addr} {news : List (Addr × Obj)} {n : Nat} {t : Tok} {Q : Value → Shared → Prop} (N : News h₀ L s.heap news) (hm : (a, PySem.W.listOf #[] n) ∈ news) (h : ∀ t' k, Q (.str (tx []) t') { s with toks := k }) :
    wpAny (model prog w) A (call (.builtin "str.join") [.str (Str.ofString "/") t, .ref a]) Q E s :=
  joins (vs := []) N hm .nil due_facts.1 due_facts.2.1 h
end

section
set_option Elab.async false
set_option linter.unusedVariables false
section
variable {prog : Program} {w : World} {A : Around} {E : Value → Shared → Prop} {Q : Flow → Shared → Prop} {s : Shared} {env : Env} {h₀ : Heap} {x : Str} {body : List Stmt}
/-- a turn that stores nothing -/
noncomputable def SPost (h₀ : Heap) (L : Addr) (x : Str) (m₀ : Str → Option Value) (news own : List (Addr × Obj)) (s₁ : Shared) (f : Flow) (s₂ : Shared) : Prop :=
  match f with
  | .ret _ => False
  | .brk => False
  | _ => ∃ h' tk' m' news', s₂ = { s₁ with heap := h', toks := tk' } ∧ Fr h₀ L h' m' ∧ News h₀ L h' news' ∧ (∀ p ∈ news ++ own, p ∈ news') ∧ ∀ y, y ≠ x → m' y = m₀ y
theorem for_still {l : Addr} {vs : List Value} {nn : Nat} {m₀ : Str → Option Value} {news : List (Addr × Obj)} (hh : A.handled = none) (F : Fr h₀ env.locals s.heap m₀) (N : News h₀ env.locals s.heap news) (hl : (l, PySem.W.listOf vs.toArray nn) ∈ news)
    (turn : ∀ (i : Nat) v h tk own, vs[i]? = some v → Fr h₀ env.locals h (fun y => if y = x then some v else m₀ y) → News h₀ env.locals h (news ++ own) →
      wpAny (model prog w) A (execs body env) (SPost h₀ env.locals x m₀ news own { s with heap := h, toks := tk }) E { s with heap := h, toks := tk })
    (done : ∀ (u : Str → Option Value) h tk, Fr h₀ env.locals h (fun y => if y = x then u y else m₀ y) → News h₀ env.locals h news → Q .next { s with heap := h, toks := tk }) :
    wpAny (model prog w) A (pyIter (.ref l)) (fun it s₂ => LoopAtV prog w A h₀ env x body Q E it s₂) E s := by
  refine kdl_iter (fun i m nx => nx = news ∧ ∀ y, y ≠ x → m y = m₀ y) hh hl F N ⟨rfl, fun _ _ => rfl⟩ ?_ ?_
  · rintro i v m₁ nx h tk own hvi hoff hin ⟨rfl, hm⟩ F₁ N₁
    have e : (fun y => if y = x then some v else m₁ y) = fun y => if y = x then some v else m₀ y := by
      funext y
      by_cases h1 : y = x
      · simp [h1]
      · simp only [if_neg h1]; exact hm y h1
    rw [e] at F₁
    refine wpAny_mono (turn i v h tk own hvi F₁ N₁) (fun f s₂ p => ?_) fun _ _ z => z
    cases f with
    | ret v => exact p.elim
    | brk => exact p.elim
    | next =>
      obtain ⟨h', tk', m', news', e', F', N', hs, hm'⟩ := p
      exact ⟨h', tk', m', news', nx, e', F', N', fun p hp => hs p (List.mem_append_left _ hp), fun p hp => hs p (List.mem_append_right _ hp), hoff, hin, rfl, hm'⟩
    | cont =>
      obtain ⟨h', tk', m', news', e', F', N', hs, hm'⟩ := p
      exact ⟨h', tk', m', news', nx, e', F', N', fun p hp => hs p (List.mem_append_left _ hp), fun p hp => hs p (List.mem_append_right _ hp), hoff, hin, rfl, hm'⟩
  · rintro m₁ nx h tk ⟨rfl, hm⟩ F₁ N₁
    refine done m₁ h tk ?_ N₁
    have e : (fun y => if y = x then m₁ y else m₀ y) = m₁ := by
      funext y
      by_cases h1 : y = x
      · simp [h1]
      · simp only [if_neg h1]; exact (hm y h1).symm
    rw [e]; exact F₁
end
theorem path_at {S : List Value} {ms : List Int} (h : StrsAre S (ms.map fun z => tx (47 :: jn 47 (wk' z)))) {i : Nat} {v : Value} (hv : S[i]? = some v) : ∃ z t, ms[i]? = some z ∧ v = .str (tx (47 :: jn 47 (wk' z))) t := by
  obtain ⟨y, t, hy, rfl⟩ := strsAre_get h hv
  rw [List.getElem?_map] at hy
  cases hz : ms[i]? with
  | none => rw [hz] at hy; cases hy
  | some z => rw [hz] at hy; cases hy; exact ⟨z, t, rfl, rfl⟩
theorem fragK_tabs (P : Params) : noTabs (fragK.heap_1 P) = true := by kernel_rfl
theorem lookup_filter_none {g : Addr → Bool} {a : Addr} (hg : g a = false) : ∀ l : Frag, (l.filter fun p => g p.1).lookup a = none
  | [] => rfl
  | q :: r => by
    rw [List.filter_cons]
    split
    · rename_i hq
      have hne : (a == q.1) = false := by
        cases h : a == q.1 with
        | false => rfl
        | true => have : a = q.1 := by simpa using h
                  rw [← this, hg] at hq; cases hq
      show (match a == q.1 with | true => some q.2 | false => List.lookup a _) = none
      rw [hne]; exact lookup_filter_none hg r
    · exact lookup_filter_none hg r
theorem KNin_ghost {w : World} {h : Heap} {c1 c2 : Addr} (X : KNin w h) : KNin w (ghostOf h [(c1, 232), (c2, 74)]) := fun a o e => by
  refine ghost_ne (X a o e) fun hm => ?_
  have hm : a = 232 ∨ a = 74 := by simpa using hm
  have hn : (KN w.params).lookup a = none := lookup_filter_none (g := fun b => !(b == 74 || b == 232)) (by rcases hm with rfl | rfl <;> rfl) _
  rw [hn] at e; cases e
theorem tabs_obj {s : Shared} {tabs : List (Addr × Addr)} (hT : TabsAt tabs s.heap) : ∀ p ∈ tabNews tabs, s.heap.get? p.1 = some p.2 ∧ (ghostOf s.heap tabs).get? p.1 = none := fun p hp => by
  obtain ⟨r, hr, rfl⟩ := List.mem_map.mp hp
  exact ⟨(hT r hr).2, hideAll_none _ (List.mem_map_of_mem hr)⟩
theorem code_lt {g h : Heap} {L c P : Addr} {m : Str → Option Value} (C : CodeHd g c P) (F : Fr g L h m) : @LT.lt Nat _ c L := by
  obtain ⟨o, _, _, _, _, _, _, _, _, e, _⟩ := C
  exact Nat.lt_of_lt_of_le (Heap.lt_size e) F.above
theorem news_sub {h₀ h : Heap} {L : Addr} {news sub : List (Addr × Obj)} (N : News h₀ L h news) (hs : ∀ p ∈ sub, p ∈ news) : News h₀ L h sub := fun p hp => N p (hs p hp)
end

section
open PySem.W.X
set_option Elab.async false
set_option linter.unusedVariables false
/-- the objects fed in the order in which they are asked for: a place below 1000 is one of the ledger, the others are old -/
noncomputable def pick (news olds : List (Addr × Obj)) (i : Nat) : Option (Addr × Obj) := if Nat.blt i 1000 = true then news[i]? else olds[i - 1000]?
/-- only one of the ledger may be changed -/
noncomputable def pickN (news : List (Addr × Obj)) (i : Nat) : Option (Addr × Obj) := if Nat.blt i 1000 = true then news[i]? else none
/-- the place 999 is one of the written part K -/
noncomputable def fk {α : Type} (K : Frag) (S : Setting) (olds : List (Addr × Obj)) : Sem α → List Nat → List (Addr × Obj) → Nat → Option (List Addr × α × List (Addr × Obj) × Nat)
  | .pure a, [], m, t => some ([], a, m, t)
  | .rule _ k, sc, m, t => fk K S olds (k ()) sc m t
  | .at _ k, sc, m, t => fk K S olds (k ()) sc m t
  | .point _ k, sc, m, t => fk K S olds (k ()) sc m t
  | .ask k, sc, m, t => fk K S olds (k S) sc m t
  | .fresh k, sc, m, t => fk K S olds (k t) sc m (t + 1)
  | .load a _ k, i :: sc, m, t => cond (Nat.beq i 999) ((K.lookup a).bind fun o => (fk K S olds (k o) sc m t).map fun r => (0 :: r.1, r.2))
      ((pick m olds i).bind fun p => (fk K S olds (k p.2) sc m t).map fun r => (a :: r.1, r.2))
  | .update a _ f k, i :: sc, m, t => (pickN m i).bind fun p => cond (f p.2).isFreed none ((fk K S olds (k ()) sc (m.set i (p.1, f p.2)) t).map fun r => (a :: r.1, r.2))
  | _, _, _, _ => none
noncomputable abbrev fd {α : Type} (S : Setting) (olds : List (Addr × Obj)) (x : Sem α) (sc : List Nat) (m : List (Addr × Obj)) (t : Nat) : Option (List Addr × α × List (Addr × Obj) × Nat) := fk [] S olds x sc m t
noncomputable def adr (news olds : List (Addr × Obj)) (i : Nat) : Addr := if Nat.blt i 1000 = true then (news[i]?.elim 0 (·.1)) else (olds[i - 1000]?.elim 0 (·.1))
theorem adr_set {news olds : List (Addr × Obj)} {i : Nat} {p : Addr × Obj} {o : Obj} (hp : news[i]? = some p) (j : Nat) : adr (news.set i (p.1, o)) olds j = adr news olds j := by
  unfold adr
  split
  · rw [List.getElem?_set]
    split
    · rename_i e; subst e
      split
      · rw [hp]; rfl
      · rename_i h; have := (List.getElem?_eq_some_iff.mp hp).1; exact absurd this h
    · rfl
  · rfl
structure Inv (I : Heap → List (Addr × Obj) → Prop) (olds : List (Addr × Obj)) : Prop where
  get : ∀ {h : Heap} {news : List (Addr × Obj)} {i : Nat} {p : Addr × Obj}, I h news → news[i]? = some p → h.get? p.1 = some p.2
  old : ∀ {h : Heap} {news : List (Addr × Obj)}, I h news → ∀ p ∈ olds, h.get? p.1 = some p.2
  upd : ∀ {h : Heap} {news : List (Addr × Obj)} {i : Nat} {a : Addr} {o : Obj} {f : Obj → Obj}, I h news → news[i]? = some (a, o) → (f o).isFreed = false → I (h.update a f) (news.set i (a, f o))
theorem inv_mem {h₀ : Heap} {olds : List (Addr × Obj)} (O : ∀ p ∈ olds, h₀.get? p.1 = some p.2) : Inv (fun h news => Mem h₀ h [] news) olds where
  get D hi := D.at _ _ _ hi
  old D p hp := D.old _ _ (O p hp) (by simp [away])
  upd D hi hf := D.update hi hf
section
variable {I : Heap → List (Addr × Obj) → Prop} {olds : List (Addr × Obj)} {prog : Program} {w : World} {A : Around} {E : Value → Shared → Prop}
theorem nn {β : Type} {x : β} {P : Prop} (e : none = some x) : P := nomatch e
theorem fk_load {α : Type} {K : Frag} {S : Setting} {a : Addr} {ap : Option Value} {k : Obj → Sem α} {i : Nat} {sc : List Nat} {m : List (Addr × Obj)} {t : Nat} {x : List Addr × α × List (Addr × Obj) × Nat}
    (e : fk K S olds (.load a ap k) (i :: sc) m t = some x) :
    (∃ o y, K.lookup a = some o ∧ fk K S olds (k o) sc m t = some y ∧ (0 :: y.1, y.2) = x) ∨ (∃ p y, pick m olds i = some p ∧ fk K S olds (k p.2) sc m t = some y ∧ (a :: y.1, y.2) = x) := by
  have e' : cond (Nat.beq i 999) ((K.lookup a).bind fun o => (fk K S olds (k o) sc m t).map fun r => (0 :: r.1, r.2))
      ((pick m olds i).bind fun p => (fk K S olds (k p.2) sc m t).map fun r => (a :: r.1, r.2)) = some x := e
  cases hi : Nat.beq i 999 with
  | true =>
    rw [hi] at e'
    have ⟨o, ho, e2⟩ := Option.bind_eq_some_iff.mp e'
    have ⟨y, hy, e3⟩ := Option.map_eq_some_iff.mp e2
    exact .inl ⟨o, y, ho, hy, e3⟩
  | false =>
    rw [hi] at e'
    have ⟨o, ho, e2⟩ := Option.bind_eq_some_iff.mp e'
    have ⟨y, hy, e3⟩ := Option.map_eq_some_iff.mp e2
    exact .inr ⟨o, y, ho, hy, e3⟩
theorem fk_update {α : Type} {K : Frag} {S : Setting} {a : Addr} {ap : Option Value} {f : Obj → Obj} {k : Unit → Sem α} {i : Nat} {sc : List Nat} {m : List (Addr × Obj)} {t : Nat} {x : List Addr × α × List (Addr × Obj) × Nat}
    (e : fk K S olds (.update a ap f k) (i :: sc) m t = some x) :
    ∃ p y, pickN m i = some p ∧ (f p.2).isFreed = false ∧ fk K S olds (k ()) sc (m.set i (p.1, f p.2)) t = some y ∧ (a :: y.1, y.2) = x := by
  have ⟨p, hp, e2⟩ := Option.bind_eq_some_iff.mp (show (pickN m i).bind (fun p => cond (f p.2).isFreed none ((fk K S olds (k ()) sc (m.set i (p.1, f p.2)) t).map fun r => (a :: r.1, r.2))) = some x from e)
  cases hf : (f p.2).isFreed with
  | true => rw [hf] at e2; cases e2
  | false =>
    rw [hf] at e2
    have ⟨y, hy, e3⟩ := Option.map_eq_some_iff.mp e2
    exact ⟨p, y, hp, hf, hy, e3⟩
theorem pick_get {I : Heap → List (Addr × Obj) → Prop} {m : List (Addr × Obj)} {h : Heap} {i : Nat} {p : Addr × Obj} (V : Inv I olds) (D : I h m) (hp : pick m olds i = some p) : h.get? p.1 = some p.2 ∧ adr m olds i = p.1 := by
  unfold pick at hp
  unfold adr
  by_cases hi : Nat.blt i 1000 = true
  · rw [if_pos hi] at hp ⊢; rw [hp]; exact ⟨V.get D hp, rfl⟩
  · rw [if_neg hi] at hp ⊢; rw [hp]; exact ⟨V.old D p (List.mem_of_getElem? hp), rfl⟩
theorem pickN_get {m : List (Addr × Obj)} {i : Nat} {p : Addr × Obj} (hp : pickN m i = some p) : m[i]? = some p ∧ adr m olds i = p.1 := by
  unfold pickN at hp
  unfold adr
  by_cases hi : Nat.blt i 1000 = true
  · rw [if_pos hi] at hp ⊢; rw [hp]; exact ⟨rfl, rfl⟩
  · rw [if_neg hi] at hp; cases hp
theorem fk_wp' {α : Type} {Q : α → Shared → Prop} {r : α} {K : Frag} {news' : List (Addr × Obj)} {tk' : Nat} (V : Inv I olds) (KI : ∀ h news, I h news → K.In h) :
    ∀ (t : Sem α) (sc : List Nat) (news : List (Addr × Obj)) (s : Shared), I s.heap news → fk K ⟨prog, w.params⟩ olds t sc news s.toks = some (sc.map (adr news olds), r, news', tk') →
      (∀ h', I h' news' → Q r { s with heap := h', toks := tk' }) → wpAny (model prog w) A t Q E s := by
  intro t
  induction t with
  | pure b =>
    intro sc news s D e q
    cases sc with
    | nil =>
      have e1 := congrArg Prod.snd (Option.some.inj (show some ([], b, news, s.toks) = some (([] : List Addr), r, news', tk') from e))
      have e2 : b = r := congrArg Prod.fst e1
      have e3 : news = news' := congrArg (fun x => x.2.1) e1
      have e4 : s.toks = tk' := congrArg (fun x => x.2.2) e1
      subst e2 e3 e4
      exact wpAny_pure (q s.heap D)
    | cons i sc => exact nn e
  | rule _ k ih => intro sc news s D e q; exact x_rule (ih () sc news s D e q)
  | «at» _ k ih => intro sc news s D e q; exact x_at (ih () sc news s D e q)
  | point _ k ih => intro sc news s D e q; exact x_point (ih () sc news s D e q)
  | ask k ih => intro sc news s D e q; exact x_ask (ih _ sc news s D e q)
  | fresh k ih => intro sc news s D e q; exact x_fresh (ih _ sc news { s with toks := s.toks + 1 } D e q)
  | load a _ k ih =>
    intro sc news s D e q
    cases sc with
    | nil => exact nn e
    | cons i sc =>
      rcases fk_load e with ⟨o, y, ho, hy, e2⟩ | ⟨p, y, hp, hy, e2⟩
      · have e3 := (List.cons.inj (congrArg Prod.fst e2)).2
        have e4 := congrArg Prod.snd e2
        exact x_load (KI _ _ D _ _ ho) (ih o sc news s D (hy.trans (congrArg some (Prod.ext e3 e4))) q)
      · have e3 := List.cons.inj (congrArg Prod.fst e2)
        have g := pick_get V D hp
        have ha : a = p.1 := e3.1.trans g.2
        have e4 := congrArg Prod.snd e2
        exact x_load (ha ▸ g.1) (ih p.2 sc news s D (hy.trans (congrArg some (Prod.ext e3.2 e4))) q)
  | update a pt f k ih =>
    intro sc news s D e q
    cases sc with
    | nil => exact nn e
    | cons i sc =>
      have ⟨p, y, hp, hf, hy, e2⟩ := fk_update e
      have e3 := List.cons.inj (congrArg Prod.fst e2)
      have g := pickN_get (olds := olds) hp
      have ha : a = p.1 := e3.1.trans g.2
      subst ha
      refine wpAny_bind (m := updatePart p.1 pt f) (f := k) (wpAny_updatePart (V.get D g.1) ?_)
      have e4 := congrArg Prod.snd e2
      refine ih () sc _ { s with heap := s.heap.update p.1 f } (V.upd D g.1 hf) (hy.trans (congrArg some (Prod.ext ?_ e4))) q
      exact e3.2.trans (List.map_congr_left fun j _ => (adr_set g.1 j).symm)
  | _ => intro sc news s D e q; exact nn e
theorem fd_wp' {α : Type} {Q : α → Shared → Prop} {r : α} {news' : List (Addr × Obj)} {tk' : Nat} (V : Inv I olds) (t : Sem α) (sc : List Nat) (news : List (Addr × Obj)) (s : Shared) (D : I s.heap news)
    (e : fd ⟨prog, w.params⟩ olds t sc news s.toks = some (sc.map (adr news olds), r, news', tk')) (q : ∀ h', I h' news' → Q r { s with heap := h', toks := tk' }) : wpAny (model prog w) A t Q E s :=
  fk_wp' (K := []) V (fun _ _ _ _ _ e => nn e) t sc news s D e q
/-- a piece that reads and writes -/
theorem fd_wp {α : Type} {Q : α → Shared → Prop} {t : Sem α} {s : Shared} {news : List (Addr × Obj)} (V : Inv I olds) (D : I s.heap news)
    (sc : List Nat) (r : α) (news' : List (Addr × Obj)) (tk' : Nat) (e : fd ⟨prog, w.params⟩ olds t sc news s.toks = some (sc.map (adr news olds), r, news', tk'))
    (q : ∀ h', I h' news' → Q r { s with heap := h', toks := tk' }) : wpAny (model prog w) A t Q E s := fd_wp' V t sc news s D e q
end
section
variable {I : Heap → List (Addr × Obj) → Prop} {olds : List (Addr × Obj)} {prog : Program} {w : World} {A : Around} {E : Value → Shared → Prop} {h : Heap} {g : Array GenState} {d : Drawn} {tk : Nat} {os : OsState} {news : List (Addr × Obj)}
theorem fw {α : Type} {Q : α → Shared → Prop} {t : Sem α} (V : Inv I olds) (D : I h news) (sc : List Nat) (r : α) (news' : List (Addr × Obj)) (tk' : Nat) (e : fd ⟨prog, w.params⟩ olds t sc news tk = some (sc.map (adr news olds), r, news', tk'))
    (q : ∀ h', I h' news' → Q r ⟨h', g, d, tk', os⟩) : wpAny (model prog w) A t Q E ⟨h, g, d, tk, os⟩ := fd_wp (s := ⟨h, g, d, tk, os⟩) V D sc r news' tk' e q
/-- a piece that only reads -/
theorem fr {α : Type} {Q : α → Shared → Prop} {t : Sem α} (V : Inv I olds) (D : I h news) (sc : List Nat) (r : α) (e : fd ⟨prog, w.params⟩ olds t sc news tk = some (sc.map (adr news olds), r, news, tk))
    (q : ∀ h', I h' news → Q r ⟨h', g, d, tk, os⟩) : wpAny (model prog w) A t Q E ⟨h, g, d, tk, os⟩ := fw V D sc r news tk e q
/-- a piece that reads nothing -/
theorem fp {α : Type} {Q : α → Shared → Prop} {t : Sem α} {s : Shared} (r : α) (e : t = pure r) (q : Q r s) : wpAny (model prog w) A t Q E s := wpAny_of_eq e q
end
theorem mem_keeps {h₀ h h' : Heap} {news : List (Addr × Obj)} (D : Mem h₀ h [] news) (k : ∀ b o, h.get? b = some o → h'.get? b = some o) : Mem h₀ h' [] news :=
  ⟨fun b o e q => k b o (D.keep b o e q), fun p hp => (nomatch hp), List.nodup_nil, fun p hp => ⟨k _ _ (D.nw p hp).1, (D.nw p hp).2⟩, D.ord⟩
theorem fo {h₀ h : Heap} {g : Array GenState} {d : Drawn} {tk : Nat} {os : OsState} {prog : Program} {w : World} {A : Around} {E : Value → Shared → Prop} {Q : Value → Shared → Prop} {news : List (Addr × Obj)} {T : String} {data : Data} (D : Mem h₀ h [] news)
    (q : ∀ a h', Mem h₀ h' [] ((a, { cls := .type T, data }) :: news) → Q (.ref a) ⟨h', g, d, tk, os⟩) (hf : ({ cls := .type T, data } : Obj).isFreed = false := by rfl) (hd : sizeOk data := by size_fits) : wpAny (model prog w) A (newObj (.type T) data none) Q E ⟨h, g, d, tk, os⟩ :=
  wpAny_newObj_type (q _ _ (D.alloc hf)) hd
theorem fa {h₀ h : Heap} {g : Array GenState} {d : Drawn} {tk : Nat} {os : OsState} {prog : Program} {w : World} {A : Around} {E : Value → Shared → Prop} {Q : Addr → Shared → Prop} {news : List (Addr × Obj)} {o : Obj} (D : Mem h₀ h [] news) (hf : o.isFreed = false)
    (q : ∀ a h', Mem h₀ h' [] ((a, o) :: news) → Q a ⟨h', g, d, tk, os⟩) : wpAny (model prog w) A (alloc o) Q E ⟨h, g, d, tk, os⟩ := wpAny_alloc (q _ _ (D.alloc hf))
end

section
open PySem.W.X Builtin
set_option Elab.async false
set_option linter.unusedVariables false
section
variable {prog : Program} {w : World} {A : Around} {E : Value → Shared → Prop} {h : Heap} {g : Array GenState} {d : Drawn} {tk : Nat} {os : OsState}
/-- the entries of K's namespace ahead of type.__new__ -/
noncomputable def kEs (hs : Fin 12 → Int) (ts : Fin 12 → Tok) (v0 v1 v2 v3 : Value) (f : Fin 6 → Addr) (v11 : Value) : Array DictEntry :=
  #[⟨hs 0, .str (Str.ofString "__module__") (ts 0), v0⟩, ⟨hs 1, .str (Str.ofString "__qualname__") (ts 1), v1⟩, ⟨hs 2, .str (Str.ofString "__firstlineno__") (ts 2), v2⟩, ⟨hs 3, .str (Str.ofString "__slots__") (ts 3), v3⟩,
    ⟨hs 4, .str (Str.ofString "__init__") (ts 4), .ref (f 0)⟩, ⟨hs 5, .str (Str.ofString "__lt__") (ts 5), .ref (f 1)⟩, ⟨hs 6, .str (Str.ofString "__gt__") (ts 6), .ref (f 2)⟩, ⟨hs 7, .str (Str.ofString "__eq__") (ts 7), .ref (f 3)⟩,
    ⟨hs 8, .str (Str.ofString "__le__") (ts 8), .ref (f 4)⟩, ⟨hs 9, .str (Str.ofString "__ge__") (ts 9), .ref (f 5)⟩, ⟨hs 10, .str (Str.ofString "__hash__") (ts 10), .none⟩, ⟨hs 11, .str (Str.ofString "__static_attributes__") (ts 11), v11⟩]
noncomputable def kD (e0 : Nat) (hs : Fin 12 → Int) (ts : Fin 12 → Tok) (v0 : Value) (tq : Tok) (v2 : Value) (sl : Addr) (f : Fin 6 → Addr) (v11 : Value) : Obj := { cls := .type "dict", data := .dict (kEs hs ts v0 (.str (Str.ofString "cmp_to_key.<locals>.K") tq) v2 (.ref sl) f v11) e0 }
noncomputable def kEs1 (hs : Fin 12 → Int) (ts : Fin 12 → Tok) (v0 v2 v3 : Value) (f : Fin 6 → Addr) (v11 : Value) : List DictEntry :=
  [⟨hs 0, .str (Str.ofString "__module__") (ts 0), v0⟩, ⟨hs 2, .str (Str.ofString "__firstlineno__") (ts 2), v2⟩, ⟨hs 3, .str (Str.ofString "__slots__") (ts 3), v3⟩,
    ⟨hs 4, .str (Str.ofString "__init__") (ts 4), .ref (f 0)⟩, ⟨hs 5, .str (Str.ofString "__lt__") (ts 5), .ref (f 1)⟩, ⟨hs 6, .str (Str.ofString "__gt__") (ts 6), .ref (f 2)⟩, ⟨hs 7, .str (Str.ofString "__eq__") (ts 7), .ref (f 3)⟩,
    ⟨hs 8, .str (Str.ofString "__le__") (ts 8), .ref (f 4)⟩, ⟨hs 9, .str (Str.ofString "__ge__") (ts 9), .ref (f 5)⟩, ⟨hs 10, .str (Str.ofString "__hash__") (ts 10), .none⟩, ⟨hs 11, .str (Str.ofString "__static_attributes__") (ts 11), v11⟩]
noncomputable def kD1 (hs : Fin 12 → Int) (ts : Fin 12 → Tok) (v0 v2 : Value) (sl : Addr) (f : Fin 6 → Addr) (v11 : Value) : Obj := { cls := .type "dict", data := .dict (kEs1 hs ts v0 v2 (.ref sl) f v11).toArray 1 }
noncomputable def sset (i : Nat) (v : Option Value) (o : Obj) : Obj := { o with slots := (o.slots ++ Array.replicate (i + 1 - o.slots.size) none).setIfInBounds i v }
noncomputable def clsA (ns : Addr) : Obj := { cls := .type "type", data := .cls { name := Str.ofString "K", bases := [.type "object"], mro := [], ns, qualname := Str.ofString "cmp_to_key.<locals>.K" } }
noncomputable def clsB (ns : Addr) (b : Value) (t tq : Tok) : Obj := { clsA ns with slots := #[some b, none, some (.str (Str.ofString "K") t), some (.str (Str.ofString "cmp_to_key.<locals>.K") tq)] }
noncomputable def clsC (a ns : Addr) (b : Value) (t tq : Tok) : Obj := { cls := .type "type", data := .cls { name := Str.ofString "K", bases := [.type "object"], mro := [.ref a, .type "object"], ns, qualname := Str.ofString "cmp_to_key.<locals>.K", hasDel := false }, slots := #[some b, none, some (.str (Str.ofString "K") t), some (.str (Str.ofString "cmp_to_key.<locals>.K") tq)] }
noncomputable def clsD (a ns : Addr) (b : Value) (t tq : Tok) : Obj := { clsC a ns b t tq with slots := #[some b, none, some (.str (Str.ofString "K") t), some (.str (Str.ofString "cmp_to_key.<locals>.K") tq), some (.builtin "object.__new__")] }
noncomputable def clsE (a ns : Addr) (b : Value) (t tq : Tok) : Obj := { cls := .type "type", data := .cls { name := Str.ofString "K", bases := [.type "object"], mro := [.ref a, .type "object"], ns, qualname := Str.ofString "cmp_to_key.<locals>.K", hasDict := false, slotNames := [Str.ofString "obj"], hasDel := false }, slots := #[some b, none, some (.str (Str.ofString "K") t), some (.str (Str.ofString "cmp_to_key.<locals>.K") tq), some (.builtin "object.__new__")] }
noncomputable def mdO (a : Addr) (t : Tok) : Obj := { cls := .type "member_descriptor", data := .fields [.str (Str.ofString "obj") t, .ref a, .builtin "proto.slot", .builtin "proto.slot#set", rawInt 0].toArray }
noncomputable def hsh (w : World) (s : Str) : Int := if s.cps.isEmpty then 0 else reduceHash (w.params.strHash s.cps)
noncomputable def kD2 (hs : Fin 12 → Int) (ts : Fin 12 → Tok) (v0 v2 : Value) (sl : Addr) (f : Fin 6 → Addr) (v11 : Value) (md : Addr) (hx : Int) (tx : Tok) : Obj := { cls := .type "dict", data := .dict (kEs1 hs ts v0 v2 (.ref sl) f v11 ++ [(⟨hx, .str (Str.ofString "obj") tx, .ref md⟩ : DictEntry)]).toArray 2 }
noncomputable def clsF (a ns : Addr) (b : Value) (t tq : Tok) : Obj := { clsE a ns b t tq with slots := #[some b, none, some (.str (Str.ofString "K") t), some (.str (Str.ofString "cmp_to_key.<locals>.K") tq), some (.builtin "object.__new__"), some (.bool false)] }
noncomputable def kEs3 (hs : Fin 12 → Int) (ts : Fin 12 → Tok) (v0 v2 : Value) (sl : Addr) (f : Fin 6 → Addr) (v11 : Value) (md : Addr) (hx : Int) (tx : Tok) (hy : Int) (ty : Tok) : List DictEntry := kEs1 hs ts v0 v2 (.ref sl) f v11 ++ [(⟨hx, .str (Str.ofString "obj") tx, .ref md⟩ : DictEntry), ⟨hy, .str (Str.ofString "__doc__") ty, .none⟩]
noncomputable def kD3 (hs : Fin 12 → Int) (ts : Fin 12 → Tok) (v0 v2 : Value) (sl : Addr) (f : Fin 6 → Addr) (v11 : Value) (md : Addr) (hx : Int) (tx : Tok) (hy : Int) (ty : Tok) : Obj := { cls := .type "dict", data := .dict (kEs1 hs ts v0 v2 (.ref sl) f v11 ++ [(⟨hx, .str (Str.ofString "obj") tx, .ref md⟩ : DictEntry), ⟨hy, .str (Str.ofString "__doc__") ty, .none⟩]).toArray 3 }
set_option maxRecDepth 100000 in
set_option maxHeartbeats 4000000 in
set_option pp.maxSteps 600 in
theorem slots_read {Q : Slots.Plan → Shared → Prop} {sl : Addr} {hs : Fin 12 → Int} {ts : Fin 12 → Tok} {v0 v1 v2 v11 : Value} {f : Fin 6 → Addr} {tb : Nat} {t1 : Tok}
    (O : h.get? sl = some ({ cls := .type "list", data := .seq #[.str (Str.ofString "obj") t1] tb } : Obj)) 
    (q : ∀ h', (∀ b o, h.get? b = some o → h'.get? b = some o) → Q { names := [Str.ofString "obj"], dict := false, weak := false, inherited := [] } ⟨h', g, d, tk, os⟩) :
    wpAny (model prog w) A (Slots.read (Str.ofString "K") [.type "object"] (kEs hs ts v0 v1 v2 (.ref sl) f v11)) Q E ⟨h, g, d, tk, os⟩ := by
  unfold Slots.read
  refine wpAny_bind (fp (.type "object") (by kernel_rfl) ?_)
  refine wpAny_bind (fp [] (by kernel_rfl) ?_)
  refine wpAny_bind (fp false (by kernel_rfl) ?_)
  k_node
  refine wpAny_bind (fp false (by kernel_rfl) ?_)
  refine wpAny_bind (fp false (by kernel_rfl) ?_)
  extract_lets
  rw [show Array.find? (fun x => x.key.isStr (Str.ofString "__slots__")) (kEs hs ts v0 v1 v2 (.ref sl) f v11) = some ⟨hs 3, .str (Str.ofString "__slots__") (ts 3), .ref sl⟩ from by kernel_rfl]
  repeat walk_at "kk"
  have V := inv_mem (h₀ := h) (olds := [(sl, ({ cls := .type "list", data := .seq #[.str (Str.ofString "obj") t1] tb } : Obj))]) (List.forall_mem_cons.mpr ⟨O, fun _ hp => nomatch hp⟩)
  refine wpAny_bind (fr V (Mem.start h) [1000] none (by kernel_rfl) fun h1 D1 => ?_)
  repeat walk_at "kk"
  refine wpAny_bind (wpAny_collect_seq sl (.inl rfl) (V.old D1 _ (.head _)) rfl rfl fun h2 k2 => ?_)
  repeat walk_at "kk"
  refine wpAny_bind (fp (false, false, #[Str.ofString "obj"], []) (by kernel_rfl) ?_)
  repeat walk_at "kk"
  refine wpAny_bind (fp ([Str.ofString "obj"], 3) (by kernel_rfl) ?_)
  repeat walk_at "kk"
  exact q _ fun b o e => k2 b o (D1.keep b o e (by simp [away]))
set_option maxRecDepth 100000 in
set_option maxHeartbeats 4000000 in
set_option pp.maxSteps 1600 in
theorem install_ {Q : Unit → Shared → Prop} {h₀ : Heap} {a ns : Addr} {b : Value} {t tq : Tok} {hs : Fin 12 → Int} {ts : Fin 12 → Tok} {v0 v2 v11 : Value} {sl : Addr} {f : Fin 6 → Addr} {olds : List (Addr × Obj)} (V : Inv (fun h news => Mem h₀ h [] news) olds)
    (D : Mem h₀ h [] [(a, clsD a ns b t tq), (ns, kD1 hs ts v0 v2 sl f v11)])
    (q : ∀ md h', Mem h₀ h' [] [(md, mdO a tk), (a, clsE a ns b t tq), (ns, kD2 hs ts v0 v2 sl f v11 md (hsh w (Str.ofString "obj")) (tk + 1))] → Q () ⟨h', g, d, tk + 2, os⟩) :
    wpAny (model prog w) A (Slots.install (.ref a) ns [.type "object"] { names := [Str.ofString "obj"], dict := false, weak := false }) Q E ⟨h, g, d, tk, os⟩ := by
  unfold Slots.install
  refine wpAny_bind ?_
  simp only [List.forIn_cons, List.forIn_nil]
  refine wpAny_bind (wpAny_bind (fr V D [1] none (by kernel_rfl) fun h1 D1 => ?_))
  repeat walk_at "kk"
  refine wpAny_bind (fw V D1 [] (Value.str (Str.ofString "obj") tk) [(a, clsD a ns b t tq), (ns, kD1 hs ts v0 v2 sl f v11)] (tk + 1) (by kernel_rfl) fun h2 D2 => ?_)
  refine wpAny_bind (fo D2 (fun md h1 D1 => ?_) (by rfl) (by show (5 : Nat) ≤ sizeLine + 2; decide +kernel))
  refine wpAny_bind (fw V D1 [2, 2, 2] () [(md, mdO a tk), (a, clsD a ns b t tq), (ns, kD2 hs ts v0 v2 sl f v11 md (hsh w (Str.ofString "obj")) (tk + 1))] (tk + 2) (by kernel_rfl) fun h2 D2 => ?_)
  repeat walk_at "kk"
  exact fw V D2 [1, 1, 1] () [(md, mdO a tk), (a, clsE a ns b t tq), (ns, kD2 hs ts v0 v2 sl f v11 md (hsh w (Str.ofString "obj")) (tk + 1))] (tk + 2) (by kernel_rfl) fun h1 D1 => q _ _ D1
set_option maxRecDepth 100000 in
set_option maxHeartbeats 4000000 in
set_option pp.maxSteps 600 in
theorem tn {Q : PySem.Fin → Shared → Prop} {bt nsA sl st : Addr} {t tb t0 t2 : Tok} {e0 : Nat} {hs : Fin 12 → Int} {ts : Fin 12 → Tok} {m0 : Str} {z2 : Int} {tq : Tok} {f : Fin 6 → Addr} {ost : Obj} {t1 : Tok} {tl : Nat} {of : Fin 6 → FuncData} {xs : Array Value} {tn : Nat} (hnm : (nsA == sysModules) = false)
    (O : ∀ p ∈ [(bt, ({ cls := .type "tuple", data := .seq #[.type "object"] tb } : Obj)), (nsA, kD e0 hs ts (.str m0 t0) tq (.int z2 t2) sl f (.ref st)), (sl, { cls := .type "list", data := .seq #[.str (Str.ofString "obj") t1] tl }), (cStatics, ost),
      (f 0, { cls := .type "function", data := .func (of 0) }), (f 1, { cls := .type "function", data := .func (of 1) }), (f 2, { cls := .type "function", data := .func (of 2) }), (f 3, { cls := .type "function", data := .func (of 3) }), (f 4, { cls := .type "function", data := .func (of 4) }), (f 5, { cls := .type "function", data := .func (of 5) }),
      (st, { cls := .type "tuple", data := .seq xs tn })], h.get? p.1 = some p.2)
    (q : ∀ a ns md h', Mem h h' [] [(md, mdO a tk), (a, clsF a ns (.ref bt) t tq), (ns, kD3 hs ts (.str m0 t0) (.int z2 t2) sl f (.ref st) md (hsh w (Str.ofString "obj")) (tk + 1) (hsh w (Str.ofString "__doc__")) (tk + 2))] →
      wpAny (model prog w) A (call (.type "super") [.ref a, .ref a]) (fun sup s1 => wpAny (model prog w) A (getAttr sup (Str.ofString "__init_subclass__")) (fun f s2 => wpAny (model prog w) A (call f [] []) (fun _ s3 => Q (.done (.ret (.ref a))) s3) (fun _ _ => False) s2) (fun _ _ => False) s1) (fun _ _ => False) ⟨h', g, d, tk + 3, os⟩) :
    wpAny (model prog w) A (Builtin.«type.__new__» ⟨[.type "type", .str (Str.ofString "K") t, .ref bt, .ref nsA], []⟩) Q E ⟨h, g, d, tk, os⟩ := by
  have V := inv_mem O
  have D : Mem h h [] [] := Mem.start h
  unfold Builtin.«type.__new__»
  k_node
  refine wpAny_bind (fr V D [] (some (Str.ofString "K")) (by kernel_rfl) fun h1 D1 => ?_)
  clear D
  repeat walk_at "kk"
  refine wpAny_bind (fr V D1 [1000] true (by kernel_rfl) fun h2 D2 => ?_)
  clear D1
  repeat walk_at "kk"
  refine wpAny_bind (fr V D2 [1001] true (by kernel_rfl) fun h1 D1 => ?_)
  clear D2
  repeat walk_at "kk"
  refine wpAny_bind (fr V D1 [1000] (some #[Value.type "object"]) (by kernel_rfl) fun h2 D2 => ?_)
  clear D1
  repeat walk_at "kk"
  refine wpAny_ite_false (by rw [hnm]; rfl) ?_
  repeat walk_at "kk"
  refine wpAny_bind (fr V D2 [1001] (kEs hs ts (.str m0 t0) (.str (Str.ofString "cmp_to_key.<locals>.K") tq) (.int z2 t2) (.ref sl) f (.ref st)) (by kernel_rfl) fun h1 D1 => ?_)
  clear D2
  refine wpAny_bind (fr V D1 [1001] (some (Value.builtin "dict.__iter__")) (by kernel_rfl) fun h2 D2 => ?_)
  clear D1
  repeat walk_at "kk"
  refine wpAny_bind (wpAny_holding (slots_read (t1 := t1) (tb := tl) (V.old D2 (sl, _) (.tail _ (.tail _ (.head _)))) fun h1 k1 => ?_))
  have D1 := mem_keeps D2 k1
  clear D2
  refine wpAny_bind (fo D1 (fun ns h2 D2 => ?_) (by rfl) (by show (12 : Nat) ≤ sizeLine + 1; decide +kernel))
  clear D1
  repeat walk_at "kk"
  refine wpAny_ite_false (by kernel_rfl) ?_
  repeat walk_at "kk"
  refine wpAny_bind (fp () (by kernel_rfl) ?_)
  repeat walk_at "kk"
  refine wpAny_ite_false (by kernel_rfl) ?_
  repeat walk_at "kk"
  refine wpAny_bind (fr V D2 [0] (some (Value.str (Str.ofString "cmp_to_key.<locals>.K") tq)) (by kernel_rfl) fun h1 D1 => ?_)
  clear D2
  repeat walk_at "kk"
  refine wpAny_bind (fr V D1 [0] (some (Value.str (Str.ofString "cmp_to_key.<locals>.K") tq)) (by kernel_rfl) fun h2 D2 => ?_)
  clear D1
  repeat walk_at "kk"
  refine wpAny_bind (fr V D2 [0] none (by kernel_rfl) fun h1 D1 => ?_)
  clear D2
  repeat walk_at "kk"
  refine wpAny_bind (fa D1 (by rfl) fun a h2 D2 => ?_)
  clear D1
  repeat walk_at "kk"
  refine wpAny_bind (fw V D2 [0] () [(a, sset 0 (some (.ref bt)) (clsA ns)), (ns, kD 0 hs ts (.str m0 t0) tq (.int z2 t2) sl f (.ref st))] tk (by kernel_rfl) fun h1 D1 => ?_)
  clear D2
  repeat walk_at "kk"
  refine wpAny_bind (fw V D1 [0] () [(a, sset 2 (some (.str (Str.ofString "K") t)) (sset 0 (some (.ref bt)) (clsA ns))), (ns, kD 0 hs ts (.str m0 t0) tq (.int z2 t2) sl f (.ref st))] tk (by kernel_rfl) fun h2 D2 => ?_)
  clear D1
  repeat walk_at "kk"
  refine wpAny_bind (fw V D2 [0] () [(a, clsB ns (.ref bt) t tq), (ns, kD 0 hs ts (.str m0 t0) tq (.int z2 t2) sl f (.ref st))] tk (by kernel_rfl) fun h1 D1 => ?_)
  clear D2
  repeat walk_at "kk"
  refine wpAny_bind (fw V D1 [1, 1] true [(a, clsB ns (.ref bt) t tq), (ns, Obj.dropName (Str.ofString "__qualname__") (kD 0 hs ts (.str m0 t0) tq (.int z2 t2) sl f (.ref st)))] tk (by kernel_rfl) fun h2 D2 => ?_)
  clear D1
  repeat walk_at "kk"
  generalize hdo : Obj.dropName (Str.ofString "__qualname__") (kD 0 hs ts (.str m0 t0) tq (.int z2 t2) sl f (.ref st)) = dO at D2
  rw [show Obj.dropName (Str.ofString "__qualname__") (kD 0 hs ts (.str m0 t0) tq (.int z2 t2) sl f (.ref st)) = kD1 hs ts (.str m0 t0) (.int z2 t2) sl f (.ref st) from by kernel_rfl] at hdo
  subst hdo
  refine wpAny_bind (fr V D2 [1] none (by kernel_rfl) fun h1 D1 => ?_)
  clear D2
  repeat walk_at "kk"
  refine wpAny_bind (fr V D1 [1, 1] PUnit.unit (by kernel_rfl) fun h2 D2 => ?_)
  clear D1
  repeat walk_at "kk"
  refine wpAny_bind (fr V D2 [1] none (by kernel_rfl) fun h1 D1 => ?_)
  clear D2
  repeat walk_at "kk"
  refine wpAny_bind (fr V D1 [1] none (by kernel_rfl) fun h2 D2 => ?_)
  clear D1
  repeat walk_at "kk"
  have hfil : List.filter (fun x => x != Value.ref a) [Value.ref a, Value.type "object"] = [Value.type "object"] := by simp
  refine wpAny_bind (fp false (show List.anyM _ (List.filter (fun x => x != Value.ref a) [Value.ref a, Value.type "object"]) = pure false from by rw [hfil]; kernel_rfl) ?_)
  repeat walk_at "kk"
  refine wpAny_bind (fw V D2 [0, 0, 0] () [(a, clsC a ns (.ref bt) t tq), (ns, kD1 hs ts (.str m0 t0) (.int z2 t2) sl f (.ref st))] tk (by kernel_rfl) fun h1 D1 => ?_)
  clear D2
  repeat walk_at "kk"
  refine wpAny_bind (fp (some "object.__new__") (by kernel_rfl) ?_)
  repeat walk_at "kk"
  refine wpAny_bind (fw V D1 [0] () [(a, clsD a ns (.ref bt) t tq), (ns, kD1 hs ts (.str m0 t0) (.int z2 t2) sl f (.ref st))] tk (by kernel_rfl) fun h2 D2 => ?_)
  clear D1
  repeat walk_at "kk"
  refine wpAny_bind (fr V D2 [0, 0, 0, 1] () (by kernel_rfl) fun h1 D1 => ?_)
  clear D2
  repeat walk_at "kk"
  refine wpAny_bind (install_ V D1 fun md h2 D2 => ?_)
  clear D1
  refine wpAny_bind (fp false (by kernel_rfl) ?_)
  refine wpAny_bind (fw V D2 [1] () [(md, mdO a tk), (a, clsF a ns (.ref bt) t tq), (ns, kD2 hs ts (.str m0 t0) (.int z2 t2) sl f (.ref st) md (hsh w (Str.ofString "obj")) (tk + 1))] (tk + 2) (by kernel_rfl) fun h1 D1 => ?_)
  clear D2
  repeat walk_at "kk"
  refine wpAny_bind (fr V D1 [2] none (by kernel_rfl) fun h2 D2 => ?_)
  clear D1
  repeat walk_at "kk"
  refine wpAny_bind (fw V D2 [2, 2] () [(md, mdO a tk), (a, clsF a ns (.ref bt) t tq), (ns, kD3 hs ts (.str m0 t0) (.int z2 t2) sl f (.ref st) md (hsh w (Str.ofString "obj")) (tk + 1) (hsh w (Str.ofString "__doc__")) (tk + 2))] (tk + 3) (by kernel_rfl) fun h1 D1 => ?_)
  clear D2
  repeat walk_at "kk"
  refine wpAny_bind (fr V D1 [2] (some (Value.ref (f 3))) (by kernel_rfl) fun h2 D2 => ?_)
  clear D1
  repeat walk_at "kk"
  refine wpAny_bind (fr V D2 [2] (some Value.none) (by kernel_rfl) fun h1 D1 => ?_)
  clear D2
  repeat walk_at "kk"
  refine wpAny_bind (wpAny_tryCatch (wpAny_holding ?_))
  refine wpAny_bind (fr V D1 [2] (kEs3 hs ts (.str m0 t0) (.int z2 t2) sl f (.ref st) md (hsh w (Str.ofString "obj")) (tk + 1) (hsh w (Str.ofString "__doc__")) (tk + 2)).toArray (by kernel_rfl) fun h2 D2 => ?_)
  clear D1
  refine wpAny_bind (fp false (by kernel_rfl) ?_)
  repeat walk_at "kk"
  refine wpAny_bind (fr V D2 [2] (kEs3 hs ts (.str m0 t0) (.int z2 t2) sl f (.ref st) md (hsh w (Str.ofString "obj")) (tk + 1) (hsh w (Str.ofString "__doc__")) (tk + 2)).toArray (by kernel_rfl) fun h1 D1 => ?_)
  clear D2
  refine wpAny_bind (fr V D1 [1002, 1004, 1005, 1006, 1007, 1008, 1009, 1010, 0] PUnit.unit (by kernel_rfl) fun h2 D2 => ?_)
  clear D1
  refine wpAny_bind (wpAny_mono (q a ns md h2 D2) (fun sup s1 x1 => ?_) fun _ _ x => x.elim)
  refine wpAny_bind (wpAny_holding (wpAny_mono x1 (fun f s2 x2 => ?_) fun _ _ x => x.elim))
  refine wpAny_bind (wpAny_mono x2 (fun f s2 x2 => ?_) fun _ _ x => x.elim)
  exact wpAny_pure (wpAny_pure x2)
end
end

section
open PySem.W.X
set_option Elab.async false
set_option linter.unusedVariables false
section
variable {prog : Program} {w : World} {A : Around} {E : Value → Shared → Prop} {h : Heap} {g : Array GenState} {d : Drawn} {tk : Nat} {os : OsState}
theorem sub_self {M : Model} {a : Addr} {oD : Obj} {cd : ClassData} (hD : h.get? a = some oD) (hd : oD.data = .cls cd) (hm : cd.mro = [.ref a, .type "object"]) : Looks M h (isSubtype (.ref a) (.ref a)) true := by
  intro A Q E s k q
  have h1 := k _ _ hD
  unfold isSubtype mroOf classData
  refine wpAny_bind (wpAny_bind (wpAny_bind (wpAny_load h1 ?_)))
  rw [hd]
  refine wpAny_pure ?_
  refine wpAny_pure ?_
  rw [hm]
  refine wpAny_ite_false (by rfl) ?_
  refine wpAny_pure ?_
  rw [show ([Value.ref a, Value.type "object"] : List Value).contains (.ref a) = true from by simp]
  exact q
theorem mro_self {M : Model} {a : Addr} {oD : Obj} {cd : ClassData} (hD : h.get? a = some oD) (hd : oD.data = .cls cd) (hm : cd.mro = [.ref a, .type "object"]) : Looks M h (mroOf (.ref a)) [.ref a, .type "object"] := by
  intro A Q E s k q
  have h1 := k _ _ hD
  unfold mroOf classData
  refine wpAny_bind (wpAny_bind (wpAny_load h1 ?_))
  rw [hd]
  refine wpAny_pure ?_
  refine wpAny_pure ?_
  rw [hm]
  exact q
theorem su_call {a : Addr} {oD : Obj} {cd : ClassData} {Q : Value → Shared → Prop} (hD : h.get? a = some oD) (hd : oD.data = .cls cd) (hm : cd.mro = [.ref a, .type "object"])
    (q : ∀ h', h'.get? h.objs.size = some { cls := .type "super", dict := none, data := .fields #[.ref a, .ref a, .ref a], slots := #[] } → (∀ y o, h.get? y = some o → h'.get? y = some o) → Q (.ref h.objs.size) ⟨h', g, d, tk, os⟩) :
    wpAny (model prog w) A (call (.type "super") [.ref a, .ref a]) Q E ⟨h, g, d, tk, os⟩ := by
  refine ks_callType_codesW (Q₁ := fun obj s₁ => obj = .ref h.objs.size ∧ s₁ = ⟨h.push { cls := .type "super", data := .fields #[.none, .none, .none] }, g, d, tk, os⟩) F.ks_called_super (ks_wpAny_checkTypeCall_super hD hd) F.ks_entry_super_init
    (ks_code_super_new _ _ ⟨rfl, rfl⟩) fun obj s₁ h₁ => ?_
  obtain ⟨rfl, rfl⟩ := h₁
  have up : ∀ y o, h.get? y = some o → (h.push { cls := .type "super", data := .fields #[.none, .none, .none] }).get? y = some o := fun y o e => Heap.get?_push_of_some _ e
  have hso : (h.push { cls := .type "super", data := .fields #[.none, .none, .none] }).get? h.objs.size = some { cls := .type "super", dict := none, data := .fields #[.none, .none, .none], slots := #[] } := Heap.get?_push_at rfl rfl
  have hD' := up _ _ hD
  have hsub := sub_self (M := model prog w) hD' hd hm
  refine ⟨⟨_, hso, rfl⟩, F.ks_initArgs_super _ _ _, ?_⟩
  unfold Builtin.«super.__init__» noKeywords
  repeat (first | (with_reducible refine ks_wpAny_isType_cls hD' hd ?_) | (with_reducible refine Looks.at hsub ?_) | (with_reducible refine ks_wpAny_super_set3 hso ?_) | wp_step)
  all_goals first
    | (intro h' e k; exact ⟨rfl, q h' e fun y o ey => k y o (Nat.ne_of_lt (Heap.lt_size ey)) (up y o ey)⟩)
    | (refine ks_wpAny_super_set3 hso ?_; intro h' e k; exact ⟨rfl, q h' e fun y o ey => k y o (Nat.ne_of_lt (Heap.lt_size ey)) (up y o ey)⟩)
set_option maxRecDepth 100000 in
set_option pp.maxSteps 1000 in
theorem su_ga {so a ns bt : Addr} {t tq u : Tok} {Q : PySem.Fin → Shared → Prop} (hso : h.get? so = some { cls := .type "super", data := .fields #[.ref a, .ref a, .ref a] }) (hC : h.get? a = some (clsF a ns (.ref bt) t tq))
    (hno : Looks (model prog w) h (opaqueClassAbove (.ref a)) none)
    (q : wpAny (model prog w) A (call (.builtin "classmethod_descriptor.__get__") [.builtin "object.__init_subclass__", .none, .ref a]) (fun v s' => Q (.done (.ret v)) s') E ⟨h, g, d, tk, os⟩) :
    wpAny (model prog w) A (Builtin.«super.__getattribute__» ⟨[.ref so, .str (Str.ofString "__init_subclass__") u], []⟩) Q E ⟨h, g, d, tk, os⟩ := by
  have f0 : (#[.ref a, .ref a, .ref a] : Array Value)[0]? = some (.ref a) := rfl
  have f1 : (#[.ref a, .ref a, .ref a] : Array Value)[1]? = some (.ref a) := rfl
  have f2 : (#[.ref a, .ref a, .ref a] : Array Value)[2]? = some (.ref a) := rfl
  unfold Builtin.«super.__getattribute__»
  k_node
  repeat walk_at "kk"
  refine wpAny_bind (wpAny_field hso rfl f0 ?_)
  refine wpAny_bind (wpAny_field hso rfl f1 ?_)
  refine wpAny_bind (wpAny_field hso rfl f2 ?_)
  repeat walk_at "kk"
  refine wpAny_bind (ks_wpAny_notOpaque hno ?_)
  repeat walk_at "kk"
  refine wpAny_bind (Looks.at (mro_self hC rfl rfl) ?_)
  rw [show List.dropWhile (fun x => x != Value.ref a) [Value.ref a, Value.type "object"] = [Value.ref a, Value.type "object"] from by simp]
  refine wpAny_bind ?_
  rw [show List.drop 1 [Value.ref a, Value.type "object"] = [Value.type "object"] from rfl, List.forIn_cons]
  refine wpAny_bind ?_
  refine wpAny_bind (fp (some (Value.builtin "object.__init_subclass__")) (by kernel_rfl) ?_)
  repeat walk_at "kk"
  rw [show (toString "classmethod_descriptor" ++ toString "." ++ toString (Str.ofString "__get__").toString) = "classmethod_descriptor.__get__" from by decide +kernel]
  repeat walk_at "kk"
  rw [show (Value.ref a == Value.ref a) = true from by simp]
  refine wpAny_bind (wpAny_holding ?_)
  refine wpAny_mono q (fun v s' hv => ?_) fun _ _ x => x
  repeat walk_at "kk"
  trace "END"
  trace_state
  exact hv
end
end

section
open PySem.W.X
set_option Elab.async false
set_option linter.unusedVariables false
section
variable {w : World} {E : Value → Shared → Prop} {h : Heap} {g : Array GenState} {d : Drawn} {tk : Nat} {os : OsState}
theorem xold {h h' : Heap} {news : List (Addr × Obj)} (D : Mem h h' [] news) (b : Addr) (o : Obj) (e : h.get? b = some o) : h'.get? b = some o := Mem.old D b o e (by simp [away])
theorem xat {h h' : Heap} {a : Addr} {o : Obj} {news : List (Addr × Obj)} (D : Mem h h' [] ((a, o) :: news)) : h'.get? a = some o := Mem.at D 0 _ _ rfl
theorem xe1 {h h' : Heap} {g : Array GenState} {d : Drawn} {t : Nat} {os : OsState} {c : Addr} {o : Obj} {news : List (Addr × Obj)} (D : Mem h h' [] ((c, o) :: news)) :
    ∃ h'' t', (⟨h', g, d, t, os⟩ : Shared) = ⟨h'', g, d, t', os⟩ ∧ (∀ b o, h.get? b = some o → h''.get? b = some o) ∧ ∃ c', Value.ref c = .ref c' ∧ h''.get? c' = some o := ⟨_, _, rfl, xold D, _, rfl, xat D⟩
theorem xe2 {h h' : Heap} {g : Array GenState} {d : Drawn} {t : Nat} {os : OsState} {news : List (Addr × Obj)} (D : Mem h h' [] news) :
    ∃ h'' t', (⟨h', g, d, t, os⟩ : Shared) = ⟨h'', g, d, t', os⟩ ∧ (∀ b o, h.get? b = some o → h''.get? b = some o) := ⟨_, _, rfl, xold D⟩
theorem xe3 {h : Heap} {g : Array GenState} {d : Drawn} {t : Nat} {os : OsState} :
    ∃ h'' t', (⟨h, g, d, t, os⟩ : Shared) = ⟨h'', g, d, t', os⟩ ∧ (∀ b o, h.get? b = some o → h''.get? b = some o) := ⟨_, _, rfl, fun _ _ e => e⟩
local macro_rules | `(tactic| x_close) => `(tactic| exact xe1 (by assumption))
set_option maxRecDepth 100000 in
set_option maxHeartbeats 0 in
theorem cm_get {a ns bt : Addr} {t tq : Tok} (K : (KN w.params).In h)
    (hC : h.get? a = some ⟨.type "type", none, .cls { name := Str.ofString "K", bases := [.type "object"], mro := [.ref a, .type "object"], ns, qualname := Str.ofString "cmp_to_key.<locals>.K", hasDict := false, slotNames := [Str.ofString "obj"], hasDel := false }, #[some (.ref bt), none, some (.str (Str.ofString "K") t), some (.str (Str.ofString "cmp_to_key.<locals>.K") tq), some (.builtin "object.__new__"), some (.bool false)]⟩) :
    wpAny (model PySem.Challenge.rw_in0142_01.row.prog w) (AR 420 220) (call (.builtin "classmethod_descriptor.__get__") [.builtin "object.__init_subclass__", .none, .ref a])
      (fun v s' => ∃ h' t', s' = ⟨h', g, d, t', os⟩ ∧ (∀ b o, h.get? b = some o → h'.get? b = some o) ∧ ∃ c, v = .ref c ∧ h'.get? c = some { cls := .type "builtin_function_or_method", data := .fields #[.builtin "object.__init_subclass__", .ref a] }) E ⟨h, g, d, tk, os⟩ := by
  x_run
local macro_rules | `(tactic| x_close) => `(tactic| first | exact xe2 (by assumption) | exact xe3)
set_option maxRecDepth 100000 in
set_option maxHeartbeats 0 in
theorem init_sub {a ns bt nb : Addr} {t tq : Tok} (K : (KN w.params).In h) (hb : h.get? nb = some ⟨.type "builtin_function_or_method", none, .fields #[.builtin "object.__init_subclass__", .ref a], #[]⟩)
    (hC : h.get? a = some ⟨.type "type", none, .cls { name := Str.ofString "K", bases := [.type "object"], mro := [.ref a, .type "object"], ns, qualname := Str.ofString "cmp_to_key.<locals>.K", hasDict := false, slotNames := [Str.ofString "obj"], hasDel := false }, #[some (.ref bt), none, some (.str (Str.ofString "K") t), some (.str (Str.ofString "cmp_to_key.<locals>.K") tq), some (.builtin "object.__new__"), some (.bool false)]⟩) :
    wpAny (model PySem.Challenge.rw_in0142_01.row.prog w) (AR 420 220) (call (.ref nb) []) (fun v s' => ∃ h' t', s' = ⟨h', g, d, t', os⟩ ∧ (∀ b o, h.get? b = some o → h'.get? b = some o)) E ⟨h, g, d, tk, os⟩ := by
  x_run
set_option maxRecDepth 100000 in
set_option pp.maxSteps 1000 in
theorem su_get {A : Around} {so a ns bt : Addr} {t tq : Tok} {Q : Value → Shared → Prop} (hA : A.handled = none) (hd : A.depth ≤ 415) (hu : A.units ≤ 215) (hso : h.get? so = some { cls := .type "super", data := .fields #[.ref a, .ref a, .ref a] }) (hC : h.get? a = some (clsF a ns (.ref bt) t tq))
    (K : (KN w.params).In h) (hno : Looks (model PySem.Challenge.rw_in0142_01.row.prog w) h (opaqueClassAbove (.ref a)) none)
    (q : ∀ nb h' t', (∀ b o, h.get? b = some o → h'.get? b = some o) → h'.get? nb = some { cls := .type "builtin_function_or_method", data := .fields #[.builtin "object.__init_subclass__", .ref a] } → Q (.ref nb) ⟨h', g, d, t', os⟩) :
    wpAny (model PySem.Challenge.rw_in0142_01.row.prog w) A (getAttr (.ref so) (Str.ofString "__init_subclass__")) Q E ⟨h, g, d, tk, os⟩ := by
  have hlk := F.ks_slot_super_ga.lookup
  have hT : ∀ t', (⟨h, g, d, t', os⟩ : Shared).TypeIs (.ref so) "super" := fun _ => ⟨_, hso, rfl⟩
  unfold getAttr getAttrBy
  refine wpAny_bind (wpAny_mkText (wpAny_holding (wpAny_bind (wpAny_typeOf (hT _) (wpAny_bind (wpAny_of_eq hlk ?_))))))
  show wpAny _ _ (getAttrByItsOwn (.ref so) (.str (Str.ofString "__init_subclass__") tk) (.type "super") (.builtin "super.__getattribute__") true false) _ _ _
  unfold getAttrByItsOwn hookBefore callGetattribute boundAndCalled
  refine wpAny_bind (wpAny_of_eq (show (if onTheHeap (.type "super") then typeLookup (.type "super") "__getattr__" else pure none) = pure none from rfl) ?_)
  refine wpAny_bind (wpAny_attempt (wpAny_holding ?_))
  show wpAny _ _ (bindSpecial (.builtin "super.__getattribute__") (.ref so) >>= _) _ _ _
  refine wpAny_bind (wpAny_of_eq (F.ks_slot_super_ga.bind _) ?_)
  refine wpAny_call_entry F.ks_slot_super_ga (hT _) F.ks_entry_super_ga ?_ (F.ks_gaArgs_super _ _)
  refine su_ga hso hC hno ?_
  refine wk (d := 420) (u := 220) hA (show A.depth ≤ 420 by omega) (show A.units + 1 ≤ 220 by omega) ?_
  refine wpAny_mono (cm_get (E := fun _ _ => False) K hC) (fun v s' hv => ?_) fun _ _ x => x.elim
  · obtain ⟨h', t', rfl, k, c, rfl, hc⟩ := hv
    refine ⟨_, rfl, ?_⟩
    exact wpAny_pure (q c h' t' k hc)
end
end

section
open PySem.W.X
set_option Elab.async false
set_option linter.unusedVariables false
section
variable {w : World} {A : Around} {E : Value → Shared → Prop} {h : Heap} {g : Array GenState} {d : Drawn} {tk : Nat} {os : OsState}
theorem kn_nop (P : Params) : nsIn (KN P) cStatics "thirdparty.any" = some none := by kernel_rfl
theorem kn_statics {P : Params} {h : Heap} (K : (KN P).In h) : ∃ o, h.get? cStatics = some o := by
  have e := kn_nop P
  unfold nsIn at e
  split at e
  · rename_i ho; exact ⟨_, K _ _ ho⟩
  · cases e
theorem kn_opaque {P : Params} {M : Model} {h : Heap} {a : Addr} (K : (KN P).In h) : Looks M h (opaqueClassAbove (.ref a)) none := looks_opaque K (kn_nop P)
set_option maxRecDepth 100000 in
theorem tn_ {Q : PySem.Fin → Shared → Prop} {bt nsA sl st : Addr} {t tb t0 t2 : Tok} {e0 : Nat} {hs : Fin 12 → Int} {ts : Fin 12 → Tok} {m0 : Str} {z2 : Int} {tq : Tok} {f : Fin 6 → Addr} {t1 : Tok} {tl : Nat} {of : Fin 6 → FuncData} {xs : Array Value} {tn' : Nat}
    (hA : A.handled = none) (hd : A.depth ≤ 415) (hu : A.units ≤ 215) (K : (KN w.params).In h) (hnm : (nsA == sysModules) = false)
    (O1 : h.get? bt = some { cls := .type "tuple", data := .seq #[.type "object"] tb }) (O2 : h.get? nsA = some (kD e0 hs ts (.str m0 t0) tq (.int z2 t2) sl f (.ref st))) (O3 : h.get? sl = some { cls := .type "list", data := .seq #[.str (Str.ofString "obj") t1] tl })
    (O4 : ∀ i, h.get? (f i) = some { cls := .type "function", data := .func (of i) }) (O5 : h.get? st = some { cls := .type "tuple", data := .seq xs tn' })
    (q : ∀ a ns md h' t', Mem h h' [] [(md, mdO a tk), (a, clsF a ns (.ref bt) t tq), (ns, kD3 hs ts (.str m0 t0) (.int z2 t2) sl f (.ref st) md (hsh w (Str.ofString "obj")) (tk + 1) (hsh w (Str.ofString "__doc__")) (tk + 2))] →
      Q (.done (.ret (.ref a))) ⟨h', g, d, t', os⟩) :
    wpAny (model PySem.Challenge.rw_in0142_01.row.prog w) A (Builtin.«type.__new__» ⟨[.type "type", .str (Str.ofString "K") t, .ref bt, .ref nsA], []⟩) Q E ⟨h, g, d, tk, os⟩ := by
  obtain ⟨ost, hst⟩ := kn_statics K
  refine tn (tb := tb) (t0 := t0) (t2 := t2) (e0 := e0) (hs := hs) (ts := ts) (m0 := m0) (z2 := z2) (tq := tq) (f := f) (ost := ost) (t1 := t1) (tl := tl) (of := of) (xs := xs) (tn := tn') (sl := sl) (st := st) hnm ?_ fun a ns md h1 D => ?_
  · intro p hp
    simp only [List.mem_cons, List.not_mem_nil, or_false] at hp
    rcases hp with rfl | rfl | rfl | rfl | rfl | rfl | rfl | rfl | rfl | rfl | rfl
    · exact O1
    · exact O2
    · exact O3
    · exact hst
    · exact O4 0
    · exact O4 1
    · exact O4 2
    · exact O4 3
    · exact O4 4
    · exact O4 5
    · exact O5
  · have kp : ∀ b o, h.get? b = some o → h1.get? b = some o := fun b o e => D.keep b o e (by simp [away])
    refine su_call (D.at 1 _ _ rfl) rfl rfl fun h2 e2 k2 => ?_
    have D2 := mem_keeps D k2
    refine su_get hA hd hu e2 (D2.at 1 _ _ rfl) (K.keeps fun b o e => k2 b o (kp b o e)) (kn_opaque (K.keeps fun b o e => k2 b o (kp b o e))) fun nb h3 t3 k3 e3 => ?_
    have D3 := mem_keeps D2 k3
    refine wk (d := 420) (u := 220) hA (by omega) (by omega) ?_
    refine wpAny_mono (init_sub (E := fun _ _ => False) (K.keeps fun b o e => k3 b o (k2 b o (kp b o e))) e3 (D3.at 1 _ _ rfl)) (fun v s' hv => ?_) fun _ _ x => x.elim
    obtain ⟨h4, t4, rfl, k4⟩ := hv
    exact q a ns md h4 t4 (mem_keeps D3 k4)
end
end

section
open PySem.W.X
set_option Elab.async false
set_option linter.unusedVariables false
section
variable {w : World} {A : Around} {E : Value → Shared → Prop} {h : Heap} {g : Array GenState} {d : Drawn} {tk : Nat} {os : OsState}
theorem slot_type_init : Slot "type" "__init__" "type.__init__" := .of (owner := "type") (n := "__init__") (by rw [typeLookup_type, builtinLookup_eq_fast]; kernel_rfl) (by decide +kernel) (by decide +kernel) (by decide +kernel)
  (by first | exact .inl (by decide +kernel) | exact .inr (by decide +kernel)) (by rw [isSubtype_type]; kernel_rfl)
theorem ent_type_init : entryFor table "type.__init__" = some Builtin.«type.__init__» := entryFor_of_tree (by kernel_rfl)
theorem ent_type_new : entryFor table "type.__new__" = some Builtin.«type.__new__» := entryFor_of_tree (by kernel_rfl)
set_option maxRecDepth 100000 in
set_option pp.maxSteps 1000 in
theorem type_call {Q : Value → Shared → Prop} {bt nsA sl st : Addr} {t tb t0 t2 : Tok} {e0 : Nat} {hs : Fin 12 → Int} {ts : Fin 12 → Tok} {m0 : Str} {z2 : Int} {tq : Tok} {f : Fin 6 → Addr} {t1 : Tok} {tl : Nat} {of : Fin 6 → FuncData} {xs : Array Value} {tn' : Nat}
    (hA : A.handled = none) (hd : A.depth ≤ 410) (hu : A.units ≤ 210) (K : (KN w.params).In h) (hnm : (nsA == sysModules) = false)
    (O1 : h.get? bt = some { cls := .type "tuple", data := .seq #[.type "object"] tb }) (O2 : h.get? nsA = some (kD e0 hs ts (.str m0 t0) tq (.int z2 t2) sl f (.ref st))) (O3 : h.get? sl = some { cls := .type "list", data := .seq #[.str (Str.ofString "obj") t1] tl })
    (O4 : ∀ i, h.get? (f i) = some { cls := .type "function", data := .func (of i) }) (O5 : h.get? st = some { cls := .type "tuple", data := .seq xs tn' })
    (q : ∀ a ns md h' t', Mem h h' [] [(md, mdO a tk), (a, clsF a ns (.ref bt) t tq), (ns, kD3 hs ts (.str m0 t0) (.int z2 t2) sl f (.ref st) md (hsh w (Str.ofString "obj")) (tk + 1) (hsh w (Str.ofString "__doc__")) (tk + 2))] →
      Q (.ref a) ⟨h', g, d, t', os⟩) :
    wpAny (model PySem.Challenge.rw_in0142_01.row.prog w) A (call (.type "type") [.str (Str.ofString "K") t, .ref bt, .ref nsA]) Q E ⟨h, g, d, tk, os⟩ := by
  refine wpAny_call (codeAny_of_tree ?_)
  show wpAny _ _ (callAny (.type "type") _) _ _ _
  refine wpAny_pure ⟨Code.quiet_builtin _ (by decide +kernel), codeAny_builtin F.entry_type_call ?_⟩
  rw [Around.under_plain (weight_type_call_type "type" _ []) rfl]
  unfold Builtin.«type.__call__»
  k_node
  repeat walk_at "kk"
  refine wpAny_bind (fp (some "type.__new__") (by kernel_rfl) ?_)
  repeat walk_at "kk"
  refine wpAny_bind (wpAny_holding (wpAny_call (codeAny_of_tree ?_)))
  show wpAny _ _ (do checkBuiltinCall "type.__new__" ⟨[.type "type", .str (Str.ofString "K") t, .ref bt, .ref nsA], []⟩; again (.builtin "type.__new__" ⟨[.type "type", .str (Str.ofString "K") t, .ref bt, .ref nsA], []⟩)) _ _ _
  refine wpAny_bind (fp () (by kernel_rfl) (wpAny_pure ⟨plainId_quiet (by decide +kernel) _, codeAny_builtin ent_type_new ?_⟩))
  rw [Around.under_plainId (by decide +kernel) _]
  refine tn_ (tb := tb) (t0 := t0) (t2 := t2) (e0 := e0) (hs := hs) (ts := ts) (m0 := m0) (z2 := z2) (tq := tq) (f := f) (t1 := t1) (tl := tl) (of := of) (xs := xs) (tn' := tn') (sl := sl) (st := st) hA (show A.depth ≤ 415 by omega) (show A.units + 1 + 1 ≤ 215 by omega) K hnm O1 O2 O3 O4 O5 fun a ns md h1 t1' D => ?_
  show wpAny _ _ (isInstance (.ref a) (.type "type") >>= _) _ _ _
  have V := inv_mem (h₀ := h) (olds := []) (fun _ hp => nomatch hp)
  refine wpAny_bind (fr V D [1] true (by kernel_rfl) fun h2 D2 => ?_)
  repeat walk_at "kk"
  refine wpAny_bind (wpAny_holding ?_)
  unfold callSpecial?
  refine wpAny_bind (fr V D2 [1] (some (Value.builtin "type.__init__")) (by kernel_rfl) fun h3 D3 => ?_)
  repeat walk_at "kk"
  refine wpAny_holding ?_
  refine wpAny_bind (fp (Value.builtin "type.__init__", [Value.ref a]) (by kernel_rfl) ?_)
  repeat walk_at "kk"
  refine wpAny_bind ?_
  show wpAny _ _ (call (.builtin "type.__init__") [.ref a, .str (Str.ofString "K") t, .ref bt, .ref nsA]) _ _ _
  refine wpAny_call_entry slot_type_init ⟨_, D3.at 1 _ _ rfl, rfl⟩ ent_type_init ?_ (by unfold argsOk; kernel_rfl)
  unfold Builtin.«type.__init__»
  repeat walk_at "kk"
  refine ⟨_, rfl, wpAny_pure ?_⟩
  repeat walk_at "kk"
  exact q a ns md h3 t1' D3
end
end

section
open PySem.W.X
set_option Elab.async false
set_option linter.unusedVariables false
/-- a frame and its ledger, each address once -/
structure Lh (g : Heap) (L : Addr) (m : Str → Option Value) (h : Heap) (news : List (Addr × Obj)) : Prop where
  fr : Fr g L h m
  nw : News g L h news
  nd : (news.map (·.1)).Nodup
section
variable {g h h' : Heap} {L : Addr} {m : Str → Option Value} {news : List (Addr × Obj)}
theorem Lh.at (D : Lh g L m h news) {i : Nat} {p : Addr × Obj} (hi : news[i]? = some p) : h.get? p.1 = some p.2 := D.nw.get (List.mem_of_getElem? hi)
theorem Lh.old (D : Lh g L m h news) {a : Addr} {o : Obj} (e : g.get? a = some o) : h.get? a = some o := D.fr.keep a o e
theorem nodup_off {news : List (Addr × Obj)} {i : Nat} {a : Addr} {o : Obj} (nd : (news.map (·.1)).Nodup) (hi : news[i]? = some (a, o)) : (∀ p ∈ news.take i, p.1 ≠ a) ∧ (∀ p ∈ news.drop (i + 1), p.1 ≠ a) := by
  have sp := pairwise_split hi
  rw [sp, List.map_append, List.map_cons] at nd
  obtain ⟨_, n2, n3⟩ := List.nodup_append.mp nd
  exact ⟨fun p hp => n3 p.1 (List.mem_map_of_mem hp) a (.head _), fun p hp e => (List.nodup_cons.mp n2).1 (by rw [← e]; exact List.mem_map_of_mem (f := (·.1)) hp)⟩
theorem Lh.put (D : Lh g L m h news) {i : Nat} {a : Addr} {o o' : Obj} (hi : news[i]? = some (a, o)) (hs : Heap.SameBut a h h') (ge : h'.get? a = some o') : Lh g L m h' (news.set i (a, o')) := by
  have sp := pairwise_split hi
  have z := D.nw (a, o) (List.mem_of_getElem? hi)
  obtain ⟨p1, p2⟩ := nodup_off D.nd hi
  have N := D.nw
  rw [sp] at N
  have e : news.set i (a, o') = news.take i ++ (a, o') :: news.drop (i + 1) := by
    obtain ⟨hl, _⟩ := List.getElem?_eq_some_iff.mp hi
    exact List.set_eq_take_append_cons_drop.trans (if_pos hl)
  have em : (news.set i (a, o')).map (·.1) = news.map (·.1) := by
    rw [List.map_set]
    have : (news.map (·.1))[i]? = some a := by rw [List.getElem?_map, hi]; rfl
    exact set_same this
  refine ⟨D.fr.change hs z.2.1 z.2.2, ?_, em ▸ D.nd⟩
  rw [e]; exact news_set N p1 p2 hs ge
theorem inv_lh {olds : List (Addr × Obj)} (O : ∀ p ∈ olds, g.get? p.1 = some p.2) : Inv (fun h news => Lh g L m h news) olds where
  get D hi := D.at hi
  old D p hp := D.old (O p hp)
  upd {h news i a o f} D hi hf := D.put hi (Heap.SameBut.update ..) (by have ho : h.get? a = some o := D.at hi; first | exact Heap.get?_update_self f ho hf | exact Heap.get?_update_self _ ho hf)
theorem Lh.alloc (D : Lh g L m h news) {o : Obj} (hf : o.isFreed = false) : Lh g L m (h.push o) ((h.objs.size, o) :: news) := by
  refine ⟨D.fr.push o, D.nw.push D.fr o hf, List.nodup_cons.mpr ⟨fun hb => ?_, D.nd⟩⟩
  obtain ⟨⟨b', ob⟩, hp, e⟩ := List.mem_map.mp hb
  have := Heap.lt_size (D.nw.get hp)
  dsimp only at e this
  exact Nat.lt_irrefl _ (e ▸ this)
theorem Fr.of_keeps (F : Fr g L h m) (k : ∀ b o, h.get? b = some o → h'.get? b = some o) : Fr g L h' m := ⟨F.ns.keeps k, fun b o e => k b o (F.keep b o e), F.above⟩
theorem Lh.keeps (D : Lh g L m h news) (k : ∀ b o, h.get? b = some o → h'.get? b = some o) : Lh g L m h' news :=
  ⟨Fr.of_keeps D.fr k, fun p hp => ⟨k _ _ (D.nw p hp).1, (D.nw p hp).2⟩, D.nd⟩
/-- the objects that a run on this heap has made -/
theorem Lh.mem (D : Lh g L m h news) {new2 : List (Addr × Obj)} (M : Mem h h' [] new2) : Lh g L m h' (new2 ++ news) := by
  have kp : ∀ b o, h.get? b = some o → h'.get? b = some o := fun b o e => M.keep b o e (by simp [away])
  have D' := D.keeps kp
  obtain ⟨oL, _, _, hoL, _⟩ := D.fr.ns
  refine ⟨D'.fr, fun p hp => ?_, ?_⟩
  · rcases List.mem_append.mp hp with hp | hp
    · refine ⟨(M.nw p hp).1, fun e => ?_, ?_⟩
      · have := (M.nw p hp).2; rw [e, hoL] at this; cases this
      · cases z : g.get? p.1 with
        | none => rfl
        | some o => have := D.fr.keep _ _ z; rw [(M.nw p hp).2] at this; cases this
    · exact D'.nw p hp
  · rw [List.map_append]
    refine List.nodup_append.mpr ⟨M.ord.imp fun h => Nat.ne_of_gt h, D.nd, fun a ha b hb => ?_⟩
    obtain ⟨p, hp, rfl⟩ := List.mem_map.mp ha
    obtain ⟨q, hq, rfl⟩ := List.mem_map.mp hb
    intro e
    have := (M.nw p hp).2
    rw [e, (D.nw q hq).1] at this
    cases this
end
section
variable {g h : Heap} {L : Addr} {m : Str → Option Value} {news : List (Addr × Obj)} {gs : Array GenState} {d : Drawn} {tk : Nat} {os : OsState} {prog : Program} {w : World} {A : Around} {E : Value → Shared → Prop}
theorem la {Q : Addr → Shared → Prop} {o : Obj} (D : Lh g L m h news) (hf : o.isFreed = false) (q : ∀ a h', Lh g L m h' ((a, o) :: news) → h.objs.size = a → Q a ⟨h', gs, d, tk, os⟩) : wpAny (model prog w) A (alloc o) Q E ⟨h, gs, d, tk, os⟩ := wpAny_alloc (q _ _ (D.alloc hf) rfl)
theorem lo {Q : Value → Shared → Prop} {T : String} {data : Data} (D : Lh g L m h news)
    (q : ∀ a h', Lh g L m h' ((a, { cls := .type T, data }) :: news) → h.objs.size = a → Q (.ref a) ⟨h', gs, d, tk, os⟩) (hf : ({ cls := .type T, data } : Obj).isFreed = false := by rfl) (hd : sizeOk data := by size_fits) : wpAny (model prog w) A (newObj (.type T) data none) Q E ⟨h, gs, d, tk, os⟩ :=
  wpAny_newObj_type (q _ _ (D.alloc hf) rfl) hd
end
end

section
open PySem.W.X
set_option Elab.async false
set_option linter.unusedVariables false
section
variable {I : Heap → List (Addr × Obj) → Prop} {olds : List (Addr × Obj)} {K : Frag} {prog : Program} {w : World} {A : Around} {E : Value → Shared → Prop}
/-- a piece that reads and writes -/
theorem fk_wp {α : Type} {Q : α → Shared → Prop} {t : Sem α} {s : Shared} {news : List (Addr × Obj)} (V : Inv I olds) (KI : ∀ h news, I h news → K.In h) (D : I s.heap news)
    (sc : List Nat) (r : α) (news' : List (Addr × Obj)) (tk' : Nat) (e : fk K ⟨prog, w.params⟩ olds t sc news s.toks = some (sc.map (adr news olds), r, news', tk'))
    (q : ∀ h', I h' news' → Q r { s with heap := h', toks := tk' }) : wpAny (model prog w) A t Q E s := fk_wp' V KI t sc news s D e q
end
section
variable {I : Heap → List (Addr × Obj) → Prop} {olds : List (Addr × Obj)} {K : Frag} {prog : Program} {w : World} {A : Around} {E : Value → Shared → Prop} {h : Heap} {g : Array GenState} {d : Drawn} {tk : Nat} {os : OsState} {news : List (Addr × Obj)}
theorem kw {α : Type} {Q : α → Shared → Prop} {t : Sem α} (V : Inv I olds) (KI : ∀ h news, I h news → K.In h) (D : I h news) (sc : List Nat) (r : α) (news' : List (Addr × Obj)) (tk' : Nat) (e : fk K ⟨prog, w.params⟩ olds t sc news tk = some (sc.map (adr news olds), r, news', tk'))
    (q : ∀ h', I h' news' → Q r ⟨h', g, d, tk', os⟩) : wpAny (model prog w) A t Q E ⟨h, g, d, tk, os⟩ := fk_wp (s := ⟨h, g, d, tk, os⟩) V KI D sc r news' tk' e q
/-- a piece that only reads -/
theorem kr {α : Type} {Q : α → Shared → Prop} {t : Sem α} (V : Inv I olds) (KI : ∀ h news, I h news → K.In h) (D : I h news) (sc : List Nat) (r : α) (e : fk K ⟨prog, w.params⟩ olds t sc news tk = some (sc.map (adr news olds), r, news, tk))
    (q : ∀ h', I h' news → Q r ⟨h', g, d, tk, os⟩) : wpAny (model prog w) A t Q E ⟨h, g, d, tk, os⟩  := kw V KI D sc r news tk e q
end
section
variable {I : Heap → List (Addr × Obj) → Prop} {olds : List (Addr × Obj)} {K : Frag} {prog : Program} {w : World} {A : Around} {E : Value → Shared → Prop} {h : Heap} {g : Array GenState} {d : Drawn} {tk : Nat} {os : OsState} {news : List (Addr × Obj)}
/-- a piece that takes tokens -/
theorem ktk {α : Type} {Q : α → Shared → Prop} {t : Sem α} (V : Inv I olds) (KI : ∀ h news, I h news → K.In h) (D : I h news) (sc : List Nat) (r : α) (tk' : Nat) (e : fk K ⟨prog, w.params⟩ olds t sc news tk = some (sc.map (adr news olds), r, news, tk'))
    (q : ∀ h', I h' news → Q r ⟨h', g, d, tk', os⟩) : wpAny (model prog w) A t Q E ⟨h, g, d, tk, os⟩ := kw V KI D sc r _ tk' e q
/-- a piece that turns one object -/
theorem kws {α : Type} {Q : α → Shared → Prop} {t : Sem α} (V : Inv I olds) (KI : ∀ h news, I h news → K.In h) (D : I h news) (sc : List Nat) (r : α) (i : Nat) (a : Addr) (o' : Obj) (tk' : Nat) (e : fk K ⟨prog, w.params⟩ olds t sc news tk = some (sc.map (adr news olds), r, news.set i (a, o'), tk'))
    (q : ∀ h', I h' (news.set i (a, o')) → Q r ⟨h', g, d, tk', os⟩) : wpAny (model prog w) A t Q E ⟨h, g, d, tk, os⟩ := kw V KI D sc r _ tk' e q
end
/-- a piece that reads the written part alone -/
noncomputable def pk {α : Type} (K : Frag) (S : Setting) : Sem α → Option α
  | .pure a => some a
  | .rule _ k => pk K S (k ())
  | .at _ k => pk K S (k ())
  | .point _ k => pk K S (k ())
  | .ask k => pk K S (k S)
  | .load a _ k => (K.lookup a).bind fun o => pk K S (k o)
  | _ => none
theorem pk_wp {α : Type} {K : Frag} {prog : Program} {w : World} {A : Around} {Q : α → Shared → Prop} {E : Value → Shared → Prop} {s : Shared} (x : K.In s.heap) (r : α) {t : Sem α} (e : pk K ⟨prog, w.params⟩ t = some r) (q : Q r s) : wpAny (model prog w) A t Q E s := by
  induction t with
  | pure b => cases e; exact wpAny_pure q
  | rule _ k ih => exact x_rule (ih () e)
  | «at» _ k ih => exact x_at (ih () e)
  | point _ k ih => exact x_point (ih () e)
  | ask k ih => exact x_ask (ih _ e)
  | load a _ k ih =>
    have ⟨o, ho, e⟩ := Option.bind_eq_some_iff.mp (show (K.lookup a).bind (fun o => pk K ⟨prog, w.params⟩ (k o)) = some r from e)
    exact x_load (x _ _ ho) (ih o e)
  | _ => exact nn e
end

section
open PySem.W.X
set_option Elab.async false
set_option linter.unusedVariables false
theorem Lh.add {g h : Heap} {L : Addr} {m : Str → Option Value} {news : List (Addr × Obj)} (D : Lh g L m h news) {a : Addr} {o : Obj} (hL : @LT.lt Nat _ L a) (hn : ∀ p ∈ news, p.1 ≠ a) (ho : h.get? a = some o) : Lh g L m h ((a, o) :: news) := by
  refine ⟨D.fr, fun p hp => ?_, List.nodup_cons.mpr ⟨fun hb => ?_, D.nd⟩⟩
  · rcases List.mem_cons.mp hp with rfl | hp
    · exact ⟨ho, Nat.ne_of_gt hL, Heap.get?_none_of_le (Nat.le_trans D.fr.above (Nat.le_of_lt hL))⟩
    · exact D.nw p hp
  · obtain ⟨p, hp, e⟩ := List.mem_map.mp hb
    exact hn p hp e
theorem Lh.lt {g h : Heap} {L : Addr} {m : Str → Option Value} {news : List (Addr × Obj)} (D : Lh g L m h news) {p : Addr × Obj} (hp : p ∈ news) : @LT.lt Nat _ p.1 h.objs.size := Heap.lt_size (D.nw p hp).1
section
variable {g h : Heap} {L : Addr} {m : Str → Option Value} {news : List (Addr × Obj)} {gs : Array GenState} {d : Drawn} {tk : Nat} {os : OsState} {prog : Program} {w : World} {A : Around} {E : Value → Shared → Prop}
theorem class_code {env : Env} {c P : Addr} {ps : Array Value} {pos : Pos} {firstLine : Nat} {name qualname : Str} {scope : Scope} {Q : Value → Shared → Prop} {i : Nat} (D : Lh g L m h news) (hi : news[i]? = some (P, tabObj ps)) (hc : env.code = .ref c) (C : CodeHd h c P) (ht : TriplesOk ps.toList) (hnf : codeAmong pos ps.toList = none)
    (q : ∀ c' P' oc h' tk', Lh g L m h' ((c', oc) :: (P', tabObj #[]) :: news.set i (P, tabObj (ps ++ #[rawInt pos.line, rawInt pos.col, .ref c']))) → CodeHd h' c' P' → Q (.ref c') ⟨h', gs, d, tk', os⟩) :
    wpAny (model prog w) A (classCode env pos firstLine name qualname scope) Q E ⟨h, gs, d, tk, os⟩ := by
  have hP : h.get? P = some (tabObj ps) := D.at hi
  obtain ⟨o, vs, file, tf, flags, tg, inF, text, tt, op, ho, hd, h11, h2, h7, h9, h10, hop, hpd, htr, hne⟩ := C.code hP ht
  cases hop.symm.trans hP
  unfold classCode codeAt
  rw [hc, if_neg (show ¬ ((Value.ref c == Value.none) = true) from Bool.false_ne_true)]
  refine wpAny_bind (wpAny_fieldsOf ho hd ?_)
  rw [h11]
  refine wpAny_bind (wpAny_fieldsOf hP rfl ?_)
  rw [hnf, h2, h7, h9, h10]
  refine wpAny_bind (wpAny_newCodeX fun c' P' h1 tk1 hk hc' hP' hcode' htab' hrec' => ?_)
  have D1 := D.keeps hk
  have hLt : @LT.lt Nat _ L h.objs.size := D.fr.ns.lt
  have hcP' : c' ≠ P' := by
    obtain ⟨_, _, _, _, _, _, _, _, _, _, _, _, _, _, _, _, _, _, _, _, hn⟩ := hcode'
    exact hn
  obtain ⟨⟨oc, vc, hoc, hcc, hdc, h11c⟩, htP⟩ := id htab'
  have D2 := D1.add (a := P') (o := tabObj #[]) (Nat.lt_of_lt_of_le hLt hP') (fun p hp => Nat.ne_of_lt (Nat.lt_of_lt_of_le (D.lt hp) hP')) htP
  have D3 := D2.add (a := c') (o := oc) (Nat.lt_of_lt_of_le hLt hc') (fun p hp => by
    rcases List.mem_cons.mp hp with rfl | hp
    · exact fun e => hcP' e.symm
    · exact Nat.ne_of_lt (Nat.lt_of_lt_of_le (D.lt hp) hc')) hoc
  have hi3 : ((c', oc) :: (P', tabObj #[]) :: news)[i + 2]? = some (P, tabObj ps) := hi
  refine wpAny_bind (wpAny_updateFieldsOfTheText (hk _ _ hP) rfl ?_)
  have hl : (ps ++ #[rawInt pos.line, rawInt pos.col, Value.ref c']).toList = ps.toList ++ [rawInt pos.line, rawInt pos.col, .ref c'] := by simp
  have hnew : Obj.mapFields (fun vs => if (codeAmong pos vs.toList).isSome = true then vs else vs ++ #[rawInt pos.line, rawInt pos.col, .ref c']) (tabObj ps) = tabObj (ps ++ #[rawInt pos.line, rawInt pos.col, .ref c']) := by
    simp only [Obj.mapFields, hnf]
    rfl
  have hget := Heap.get?_update_self (h := h1) (fun o => Obj.mapFields (fun vs => if (codeAmong pos vs.toList).isSome = true then vs else
    vs ++ #[rawInt pos.line, rawInt pos.col, .ref c']) o) (hk _ _ hP) (by rw [hnew]; rfl)
  rw [hnew] at hget
  have D4 := D3.put hi3 (Heap.SameBut.update ..) hget
  refine wpAny_bind (wpAny_fieldsOf hget rfl ?_)
  rw [hl, codeAmong_snoc _ ht hnf]
  refine wpAny_pure (q c' P' oc _ _ D4 ?_)
  have hcP : c' ≠ P := Nat.ne_of_gt (Nat.lt_of_lt_of_le (Heap.lt_size hP) hc')
  have hP'P : P' ≠ P := Nat.ne_of_gt (Nat.lt_of_lt_of_le (Heap.lt_size hP) hP')
  exact CodeHd.of (hcode'.extBut (Heap.SameBut.update ..).extBut hcP hP'P) ⟨⟨oc, vc, (Heap.SameBut.update ..).extBut _ _ hcP hoc, hcc, hdc, h11c⟩, (Heap.SameBut.update ..).extBut _ _ hP'P htP⟩
end
end

section
open PySem.W.X
set_option Elab.async false
set_option linter.unusedVariables false
section
variable {g h : Heap} {L : Addr} {m mg mb : Str → Option Value} {news : List (Addr × Obj)} {gs : Array GenState} {d : Drawn} {tk : Nat} {os : OsState} {M : Model} {A : Around} {E : Value → Shared → Prop} {p₀ : Program} {loose : List Str} {mean : ExcName → Option Value}
theorem mk_fn {env : Env} {c P : Addr} {ps : Array Value} {pos : Pos} {firstLine : Nat} {name qual : Str} {params : Arguments} {body : List Stmt} {scope : Scope} {clos : List (Str × Addr)} {Q : Value → Shared → Prop} {i : Nat}
    (D : Lh g L m h news) (T : Top p₀ loose mean mg mb g) (hi : news[i]? = some (P, tabObj ps)) (hcl : closureFor scope env = pure clos) (hge0 : env.globals = mainGlobals) (hcode : env.code = .ref c) (C : CodeHd h c P) (ht : TriplesOk ps.toList) (hnf : codeAmong pos ps.toList = none)
    (q : ∀ f' c' oc vs t' ctv doc h' tk', Lh g L m h' ((f', fnMade name qual params body scope clos doc ((mg "__name__").getD .none) c' ctv) :: (c', oc) :: news.set i (P, tabObj (ps ++ #[rawInt pos.line, rawInt pos.col, .ref c']))) →
      oc.data = .fields vs → vs[1]? = some (.str qual t') → CodeHd h' c P → Q (.ref f') ⟨h', gs, d, tk', os⟩) :
    wpAny M A (makeFunction name qual params (.stmts body) scope env [] [] [] pos firstLine) Q E ⟨h, gs, d, tk, os⟩ := by
  have hP : h.get? P = some (tabObj ps) := D.at hi
  have hgs := T.g.keeps D.fr.keep
  obtain ⟨bm, ob, b1, b2, b3, b4, b5, b6⟩ := T.bmain
  have hgP : mainGlobals ≠ P := fun q => by
    obtain ⟨o, es, ep, e, hd, _⟩ := hgs
    rw [q, hP] at e; cases e; cases hd
  have hbP : bm ≠ P := fun q => by
    have e := D.fr.keep _ _ b3
    rw [q, hP] at e; cases e; cases b4
  have hbG : bm ≠ mainGlobals := fun q => by
    obtain ⟨o, es, ep, e, hd, _⟩ := T.g
    rw [q, e] at b3; cases b3; rw [hd] at b6; cases b6
  refine makeFunction_K (s := ⟨h, gs, d, tk, os⟩) (mg := mg) hcl hge0 hgs hcode C hP ht hnf hgP ⟨bm, ob, b1, b2, hbG, hbP, D.fr.keep _ _ b3, b4, b5, b6⟩ fun c' ctv doc h1 tk1 hx hge hlt hrec htb => ?_
  obtain ⟨c₂, oc, vs, t', e2, hoc, hd, hv⟩ := hrec
  cases e2
  have hcP : c ≠ P := by obtain ⟨_, _, _, _, _, _, _, _, _, _, _, _, _, _, _, _, _, _, hn⟩ := C; exact hn
  have hLt : @LT.lt Nat _ L h.objs.size := D.fr.ns.lt
  have hiM := List.mem_of_getElem? hi
  have z := D.nw _ hiM
  have hP1 : h1.get? P = some (tabObj (ps ++ #[rawInt pos.line, rawInt pos.col, .ref c'])) := htb
  have C1 : CodeHd h1 c P := by
    obtain ⟨o, vs, file, tf, flags, tg, inF, text, tt, e, r⟩ := C
    exact ⟨o, vs, file, tf, flags, tg, inF, text, tt, hx _ _ hcP e, r⟩
  -- the ledger at the heap behind the code
  have D1 : Lh g L m h1 (news.set i (P, tabObj (ps ++ #[rawInt pos.line, rawInt pos.col, .ref c']))) := by
    obtain ⟨p1, p2⟩ := nodup_off D.nd hi
    have e : news.set i (P, tabObj (ps ++ #[rawInt pos.line, rawInt pos.col, .ref c'])) = news.take i ++ (P, tabObj (ps ++ #[rawInt pos.line, rawInt pos.col, .ref c'])) :: news.drop (i + 1) := by
      obtain ⟨hl, _⟩ := List.getElem?_eq_some_iff.mp hi
      exact List.set_eq_take_append_cons_drop.trans (if_pos hl)
    have em : (news.set i (P, tabObj (ps ++ #[rawInt pos.line, rawInt pos.col, .ref c']))).map (·.1) = news.map (·.1) := by
      rw [List.map_set]
      have : (news.map (·.1))[i]? = some P := by rw [List.getElem?_map, hi]; rfl
      exact set_same this
    refine ⟨⟨D.fr.ns.extBut hx z.2.1.symm, fun b o e => hx b o (fun q => by rw [q, z.2.2] at e; cases e) (D.fr.keep b o e), D.fr.above⟩, fun p hp => ?_, em ▸ D.nd⟩
    have sub : ∀ p ∈ news, p.1 ≠ P → h1.get? p.1 = some p.2 ∧ p.1 ≠ L ∧ g.get? p.1 = none := fun p hp hne => ⟨hx _ _ hne (D.nw p hp).1, (D.nw p hp).2⟩
    rw [e] at hp
    rcases List.mem_append.mp hp with hp | hp
    · exact sub p (List.mem_of_mem_take hp) (p1 p hp)
    · rcases List.mem_cons.mp hp with rfl | hp
      · exact ⟨hP1, z.2⟩
      · exact sub p (List.mem_of_mem_drop hp) (p2 p hp)
  have D2 := D1.add (a := c') (o := oc) (Nat.lt_of_lt_of_le hLt hge) (fun p hp => by
    have : p.1 ∈ news.map (·.1) := by
      have em : (news.set i (P, tabObj (ps ++ #[rawInt pos.line, rawInt pos.col, .ref c']))).map (·.1) = news.map (·.1) := by
        rw [List.map_set]
        have : (news.map (·.1))[i]? = some P := by rw [List.getElem?_map, hi]; rfl
        exact set_same this
      rw [← em]; exact List.mem_map_of_mem hp
    obtain ⟨p', hp', e⟩ := List.mem_map.mp this
    rw [← e]
    exact Nat.ne_of_lt (Nat.lt_of_lt_of_le (D.lt hp') hge)) hoc
  have D3 := D2.alloc (o := fnMade name qual params body scope clos doc ((mg "__name__").getD .none) c' ctv) rfl
  exact q _ c' oc vs t' ctv doc _ tk1 D3 hd hv (C1.keeps fun b o e => Heap.get?_push_of_some _ e)
end
end

section
open PySem.W.X
set_option Elab.async false
set_option linter.unusedVariables false
section
variable {w : World} {E : Value → Shared → Prop} {h : Heap} {g : Array GenState} {d : Drawn} {tk : Nat} {os : OsState}
local macro_rules | `(tactic| x_close) => `(tactic| exact ⟨_, _, _, rfl, rfl, by assumption⟩)
set_option maxRecDepth 100000 in
set_option maxHeartbeats 0 in
theorem prep_get {u : Tok} (K : (KN w.params).In h) :
    wpAny (model PySem.Challenge.rw_in0142_01.row.prog w) (AR 420 220) (call (.builtin "type.__getattribute__") [.type "type", .str (Str.ofString "__prepare__") u])
      (fun v s' => ∃ c h' t', v = .ref c ∧ s' = ⟨h', g, d, t', os⟩ ∧ Mem h h' [] [(c, { cls := .type "builtin_function_or_method", data := .fields #[.builtin "type.__prepare__", .type "type"] })]) E ⟨h, g, d, tk, os⟩ := by
  x_run
set_option maxRecDepth 100000 in
set_option maxHeartbeats 0 in
theorem prep_call {c bt : Addr} {t tb : Tok} (K : (KN w.params).In h) (hc : h.get? c = some ⟨.type "builtin_function_or_method", none, .fields #[.builtin "type.__prepare__", .type "type"], #[]⟩) (hb : h.get? bt = some ⟨.type "tuple", none, .seq #[.type "object"] tb, #[]⟩) :
    wpAny (model PySem.Challenge.rw_in0142_01.row.prog w) (AR 420 220) (call (.ref c) [.str (Str.ofString "K") t, .ref bt])
      (fun v s' => ∃ c h' t', v = .ref c ∧ s' = ⟨h', g, d, t', os⟩ ∧ Mem h h' [] [(c, { cls := .type "dict", data := .dict #[] 0 })]) E ⟨h, g, d, tk, os⟩ := by
  x_run
end
end

section
open PySem.W.X
set_option Elab.async false
set_option linter.unusedVariables false
section
variable {g h : Heap} {L : Addr} {m mg mb : Str → Option Value} {gs : Array GenState} {d : Drawn} {tk : Nat} {os : OsState} {w : World} {A : Around} {E : Value → Shared → Prop} {p₀ : Program} {loose : List Str} {mean : ExcName → Option Value}
/-- type's __prepare__ -/
theorem prep_attr {Q : Option Value → Shared → Prop} (hA : A.handled = none) (hd : A.depth ≤ 415) (hu : A.units ≤ 215) (K : (KN w.params).In h)
    (q : ∀ c h' t', Mem h h' [] [(c, { cls := .type "builtin_function_or_method", data := .fields #[.builtin "type.__prepare__", .type "type"] })] → Q (some (.ref c)) ⟨h', gs, d, t', os⟩) :
    wpAny (model PySem.Challenge.rw_in0142_01.row.prog w) A (getAttr? (.type "type") (Str.ofString "__prepare__")) Q E ⟨h, gs, d, tk, os⟩ := by
  unfold getAttr? getAttrBy? getAttrBy
  refine wpAny_bind (wpAny_mkText ?_)
  refine wpAny_bind (wpAny_attempt (wpAny_holding ?_))
  repeat walk_at "kk"
  refine wpAny_bind (wpAny_attempt (wpAny_holding ?_))
  rw [show (toString "type" ++ toString "." ++ toString (Str.ofString "__getattribute__").toString) = "type.__getattribute__" from by decide +kernel]
  unfold callGetattribute boundAndCalled
  refine wpAny_ite_false (by rfl) ?_
  refine wpAny_bind (fp (Value.builtin "type.__getattribute__", [Value.type "type"]) (by kernel_rfl) ?_)
  refine wk (d := 420) (u := 220) hA (by omega) (by omega) ?_
  refine wpAny_mono (prep_get (E := fun _ _ => False) K) (fun v s' hv => ?_) fun _ _ x => x.elim
  obtain ⟨c, h', t', rfl, rfl, D⟩ := hv
  refine wpAny_pure (wpAny_pure ?_)
  exact q c h' t' D
noncomputable def kScope : Scope := { kind := .class, names := [(Str.ofString "__module__", .local), (Str.ofString "__slots__", .local), (Str.ofString "__init__", .local), (Str.ofString "__lt__", .local), (Str.ofString "__gt__", .local), (Str.ofString "__eq__", .local), (Str.ofString "__le__", .local), (Str.ofString "__ge__", .local), (Str.ofString "__hash__", .local), (Str.ofString "mycmp", .free)], isGenerator := false, isCoroutine := false }
noncomputable def cEnv (nsA L cc fr : Addr) : Env := { scope := kScope, locals := nsA, globals := mainGlobals, cells := [(Str.ofString "mycmp", L + 1)], qual := Str.ofString "cmp_to_key.<locals>.K.", code := .ref cc, frame := some fr, builtins := builtinsNs }
/-- the namespace of the class, ahead of its body -/
noncomputable def kB (w : World) (t : Tok) : Obj := { cls := .type "dict", data := .dict #[⟨hsh w (Str.ofString "__module__"), .str (Str.ofString "__module__") t, .str (Str.ofString "law_in0142_01") 493⟩, ⟨hsh w (Str.ofString "__qualname__"), .str (Str.ofString "__qualname__") (t + 2), .str (Str.ofString "cmp_to_key.<locals>.K") (t + 1)⟩,
  ⟨hsh w (Str.ofString "__firstlineno__"), .str (Str.ofString "__firstlineno__") (t + 4), .int 48 (t + 3)⟩] 3 }
theorem hd_move {h h' : Heap} {c P : Addr} {o : Obj} (C : CodeHd h c P) (e : h.get? c = some o) (e' : h'.get? c = some o) : CodeHd h' c P := by
  obtain ⟨o', vs', file, tf, flags, tg, inF, text, tt, e1, r⟩ := C
  rw [e] at e1; cases e1
  exact ⟨_, vs', file, tf, flags, tg, inF, text, tt, e', r⟩
theorem kn_sys (P : Params) : ((KN P).lookup sysModules).isSome = true := by kernel_rfl
theorem ne_sys {news : List (Addr × Obj)} (XN : (KN w.params).In g) (D : Lh g L m h news) {p : Addr × Obj} (hp : p ∈ news) : (p.1 == sysModules) = false := by
  obtain ⟨o, ho⟩ := Option.isSome_iff_exists.mp (kn_sys w.params)
  have e := XN _ _ ho
  have hn := (D.nw p hp).2.2
  have : p.1 ≠ sysModules := fun q => by rw [q, e] at hn; cases hn
  simp [this]
theorem meta_object : ((Manifest.find? "object").elim "type" fun x => x.metatype) = "type" := by kernel_rfl
set_option maxRecDepth 100000 in
set_option maxHeartbeats 4000000 in
set_option pp.maxSteps 900 in
theorem build_ {env : Env} {body : List Stmt} {pos : Pos} {oc : Obj} {Q : Value → Shared → Prop}
    (hA : A.handled = none) (hd : A.depth ≤ 409) (hu : A.units ≤ 209) (D : Lh g L m h [(L + 1, oc), (74, tabObj #[])]) (hL : @LT.lt Nat _ 235 L) (XN : (KN w.params).In g) (T : Top p₀ loose mean mg mb g) (C : CodeHd g 78 74)
    (he1 : env.code = .ref 78) (he2 : env.globals = mainGlobals) (he3 : env.builtins = builtinsNs)
    (hcl : closureFor kScope env = pure [(Str.ofString "mycmp", L + 1)])
    (q : ∀ cc P' fr nsA bt pc co fro pco h' t, Lh g L m h' [(fr, fro), (cc, co), (P', tabObj #[]), (nsA, kB w t), (pc, pco), (bt, { cls := .type "tuple", data := .seq #[.type "object"] }), (L + 1, oc), (74, tabObj #[rawInt pos.line, rawInt pos.col, .ref cc])] → CodeHd h' cc P' →
      wpAny (model PySem.Challenge.rw_in0142_01.row.prog w) A (run (.body body (cEnv nsA L cc fr))) (fun _ s1 => wpAny (model PySem.Challenge.rw_in0142_01.row.prog w) A (List.mapM mkText [Str.ofString "obj"]) (fun l s2 => wpAny (model PySem.Challenge.rw_in0142_01.row.prog w) A (newTextTuple l) (fun st s3 => wpAny (model PySem.Challenge.rw_in0142_01.row.prog w) A (storeName (cEnv nsA L cc fr) (Str.ofString "__static_attributes__") st)
        (fun _ s4 => wpAny (model PySem.Challenge.rw_in0142_01.row.prog w) A (call (.type "type") [.str (Str.ofString "K") tk, .ref bt, .ref nsA]) Q (fun _ _ => False) s4) (fun _ _ => False) s3) (fun _ _ => False) s2) (fun _ _ => False) s1) (fun _ _ => False) ⟨h', gs, d, t + 5, os⟩) :
    wpAny (model PySem.Challenge.rw_in0142_01.row.prog w) A (buildClass (Str.ofString "K") (Str.ofString "cmp_to_key.<locals>.K") [.type "object"] [] body kScope [Str.ofString "obj"] 48 env pos none) Q E ⟨h, gs, d, tk, os⟩ := by
  unfold buildClass
  refine wpAny_bind ?_
  unfold newTuple
  refine lo D (fun bt h1 D1 hs => ?_) (by rfl) (by show (1 : Nat) ≤ sizeLine; decide +kernel)
  repeat walk_at "kk"
  rw [meta_object]
  refine wpAny_bind (wpAny_mkText ?_)
  repeat walk_at "kk"
  refine wpAny_holding ?_
  have kp1 : ∀ b o, g.get? b = some o → h1.get? b = some o := D1.fr.keep
  refine wpAny_bind (prep_attr hA (by omega) (by omega) (XN.keeps kp1) fun pc h2 t2 M2 => ?_)
  have D2 := D1.mem M2
  clear D1 M2
  refine wpAny_bind (wk (d := 420) (u := 220) hA (by omega) (by omega) ?_)
  refine wpAny_mono (prep_call (E := fun _ _ => False) (XN.keeps D2.fr.keep) (D2.at (i := 0) rfl) (D2.at (i := 1) rfl)) (fun v s' hv => ?_) fun _ _ x => x.elim
  obtain ⟨nsA, h3, t3, rfl, rfl, M3⟩ := hv
  have D3 := D2.mem M3
  clear D2 M3
  have hsy := ne_sys XN D3 (.head _)
  repeat walk_at "kk"
  refine wpAny_bind (fp () (by unfold notTheModulesDict; rw [hsy]; rfl) ?_)
  have V := inv_lh (g := g) (L := L) (m := m) (olds := []) (fun _ hp => nomatch hp)
  have KI : ∀ h news, Lh g L m h news → (KN w.params).In h := fun h news D => XN.keeps D.fr.keep
  refine wpAny_bind (kr V KI D3 [0] (some (Value.builtin "dict.__getitem__")) (by kernel_rfl) fun h4 D4 => ?_)
  clear D3
  repeat walk_at "kk"
  refine wpAny_holding ?_
  repeat walk_at "kk"
  refine wpAny_bind (class_code (i := 4) (ps := #[]) (c := 78) D4 rfl he1 (C.keeps D4.fr.keep) trivial rfl fun cc P' co h5 t5 D5 C5 => ?_)
  clear D4
  have e5 := D5.at (i := 0) rfl
  rw [he2, he3]
  refine wpAny_bind (pk_wp (XN.keeps D5.fr.keep) builtinsNs (by kernel_rfl) ?_)
  refine wpAny_bind ?_
  unfold newBodyFrame
  refine wpAny_bind (pk_wp (XN.keeps D5.fr.keep) (some (Value.str (Str.ofString "law_in0142_01") 493)) (by kernel_rfl) ?_)
  refine la D5 (by rfl) fun fr h6 D6 _ => ?_
  clear D5
  refine wpAny_bind (fp [(Str.ofString "mycmp", L + 1)] hcl ?_)
  repeat walk_at "kk"
  rw [show Str.ofString "cmp_to_key.<locals>.K" ++ Str.ofString "." = Str.ofString "cmp_to_key.<locals>.K." from by kernel_rfl]
  refine wpAny_holding ?_
  refine wpAny_bind (wpAny_enterFrame (T.nolimit.keeps D6.fr.keep) (Nat.lt_of_le_of_lt hd (by decide)) ?_)
  refine wpAny_bind (wpAny_onRaise ?_)
  refine kws V KI D6 [3, 3, 999, 3, 3, 3, 3, 3, 3, 3, 3, 3] () 3 nsA (kB w t5) (t5 + 5) (by kernel_rfl) fun h7 D7 => ?_
  clear D6
  have D8 : Lh g L m h7 [(fr, _), (cc, co), (P', tabObj #[]), (nsA, kB w t5), (pc, _), (bt, { cls := .type "tuple", data := .seq #[.type "object"] }), (L + 1, oc), (74, tabObj #[rawInt pos.line, rawInt pos.col, .ref cc])] := D7
  clear D7
  have C8 := hd_move (h' := h7) C5 e5 (D8.at (i := 1) rfl)
  repeat walk_at "kk"
  refine wpAny_bind (wpAny_mono (q cc P' fr nsA bt pc co _ _ h7 t5 D8 C8) (fun _ s1 x1 => ?_) fun _ _ x => x.elim)
  refine wpAny_bind (wpAny_onRaise ?_)
  refine wpAny_bind (wpAny_mono x1 (fun l s2 x2 => ?_) fun _ _ x => x.elim)
  refine wpAny_bind (wpAny_mono x2 (fun st s3 x3 => ?_) fun _ _ x => x.elim)
  refine wpAny_bind (wpAny_mono x3 (fun _ s4 x4 => ?_) fun _ _ x => x.elim)
  repeat walk_at "kk"
  refine wpAny_bind (wpAny_mono x4 (fun v s5 x5 => ?_) fun _ _ x => x.elim)
  repeat walk_at "kk"
  exact x5
end
end

section
open PySem.W.X
set_option Elab.async false
set_option linter.unusedVariables false
section
variable {g h : Heap} {L : Addr} {m mg mb : Str → Option Value} {news : List (Addr × Obj)} {gs : Array GenState} {d : Drawn} {tk : Nat} {os : OsState} {prog : Program} {w : World} {A : Around} {E : Value → Shared → Prop} {p₀ : Program} {loose : List Str} {mean : ExcName → Option Value}
theorem putName_live {name : Str} {x : Int} {k v : Value} {o : Obj} {es : Array DictEntry} {ep : Nat} (hd : o.data = .dict es ep) : (Obj.putName name x k v o).isFreed = false := by
  obtain ⟨c, dd, dt, sl⟩ := o
  cases hd
  rw [Obj.putName_eq]
  unfold Obj.putNameByArray
  dsimp only
  generalize Array.findIdx? _ es = r
  cases r <;> rfl
theorem local_set {env : Env} {name : Str} {v : Value} {i : Nat} {o : Obj} {es : Array DictEntry} {ep : Nat} {Q : Unit → Shared → Prop} (D : Lh g L m h news) (hi : news[i]? = some (env.locals, o)) (hc : o.cls = .type "dict") (hd : o.data = .dict es ep) (hr : aRefKeyMayBeTheName name es = false)
    (q : ∀ h', Lh g L m h' (news.set i (env.locals, Obj.putName name (hsh w name) (.str name tk) v o)) → Q () ⟨h', gs, d, tk + 1, os⟩) : wpAny (model prog w) A (localSet env name v) Q E ⟨h, gs, d, tk, os⟩ := by
  have ho : h.get? env.locals = some o := D.at hi
  unfold localSet
  refine wpAny_bind (wpAny_load ho ?_)
  rw [hc]
  refine wpAny_ite_true (by rfl) ?_
  unfold nsSet strHash
  refine wpAny_bind (wpAny_bind (wpAny_askSetting (wpAny_pure ?_)))
  refine wpAny_bind (wpAny_mkText ?_)
  refine wpAny_bind (wpAny_loadPart ho ?_)
  rw [hd]
  refine wpAny_ite_false (by rw [hr]; rfl) ?_
  refine wpAny_updatePart ho ?_
  refine q _ (D.put hi (Heap.SameBut.update ..) ?_)
  have hf := putName_live (name := name) (x := hsh w name) (k := .str name tk) (v := v) hd
  first | exact Heap.get?_update_self (Obj.putName name (hsh w name) (.str name tk) v) ho hf | exact Heap.get?_update_self _ ho hf
theorem def_stmt {env : Env} {c P : Addr} {ps : Array Value} {pos : Pos} {name : Str} {params : Arguments} {body : List Stmt} {sc : Scope} {clos : List (Str × Addr)} {Q : Flow → Shared → Prop} {i j k : Nat} {o co : Obj} {es : Array DictEntry} {ep : Nat}
    (hd0 : params.defaults = []) (hk0 : params.kw_defaults = []) (ha : annTrees params none env = []) (hst : ∀ v, storeName env name v = localSet env name v)
    (D : Lh g L m h news) (T : Top p₀ loose mean mg mb g) (hi : news[i]? = some (P, tabObj ps)) (hcl : closureFor sc env = pure clos) (hge0 : env.globals = mainGlobals) (hcode : env.code = .ref c) (C : CodeHd h c P) (ht : TriplesOk ps.toList) (hnf : codeAmong pos ps.toList = none)
    (hj : (news.set i (P, tabObj ps))[j]? = some (env.locals, o)) (hij : i ≠ j) (hk : news[k]? = some (c, co)) (hik : i ≠ k) (hjk : j ≠ k) (hc : o.cls = .type "dict") (hd : o.data = .dict es ep) (hr : aRefKeyMayBeTheName name es = false)
    (q : ∀ f' c' oc vs t' ctv doc h' tk', Lh g L m h' ((f', fnMade name (qualnameIn env name name) params body sc clos doc ((mg "__name__").getD .none) c' ctv) :: (c', oc) :: (news.set i (P, tabObj (ps ++ #[rawInt pos.line, rawInt pos.col, .ref c']))).set j (env.locals, Obj.putName name (hsh w name) (.str name tk') (.ref f') o)) →
      oc.data = .fields vs → vs[1]? = some (.str (qualnameIn env name name) t') → CodeHd h' c P → Q .next ⟨h', gs, d, tk' + 1, os⟩) :
    wpAny (model prog w) A (exec (.FunctionDef name params body [] none [] sc none name pos) env) Q E ⟨h, gs, d, tk, os⟩ := by
  refine nestDef_K hd0 hk0 ha ?_
  refine mk_fn D T hi hcl hge0 hcode C ht hnf fun f' c' oc vs t' ctv doc h1 tk1 D1 e1 e2 C1 => ?_
  rw [hst]
  have hj1 : ((f', fnMade name (qualnameIn env name name) params body sc clos doc ((mg "__name__").getD .none) c' ctv) :: (c', oc) :: news.set i (P, tabObj (ps ++ #[rawInt pos.line, rawInt pos.col, .ref c'])))[j + 2]? = some (env.locals, o) := by
    show (news.set i _)[j]? = _
    rw [List.getElem?_set_ne hij] at hj ⊢
    exact hj
  refine local_set D1 hj1 hc hd hr fun h2 D2 => ?_
  refine q f' c' oc vs t' ctv doc h2 tk1 D2 e1 e2 ?_
  have hk1 : ((f', fnMade name (qualnameIn env name name) params body sc clos doc ((mg "__name__").getD .none) c' ctv) :: (c', oc) :: news.set i (P, tabObj (ps ++ #[rawInt pos.line, rawInt pos.col, .ref c'])))[k + 2]? = some (c, co) := by
    show (news.set i _)[k]? = _
    rw [List.getElem?_set_ne hik]
    exact hk
  have e3 := D1.at hk1
  have hk2 := hk1
  rw [← List.getElem?_set_ne (a := (env.locals, Obj.putName name (hsh w name) (.str name tk1) (.ref f') o)) (show j + 2 ≠ k + 2 by omega)] at hk2
  have e4 := D2.at hk2
  obtain ⟨o', vs', file, tf, flags, tg, inF, text, tt, e, r⟩ := C1
  rw [e] at e3; cases e3
  exact ⟨_, vs', file, tf, flags, tg, inF, text, tt, e4, r⟩
theorem asg {env : Env} {x : Str} {p' pos : Pos} {value : Expr} {Q : Flow → Shared → Prop} {s : Shared} (hs : swapsWith value (some (.Name x p')) pos.line env = pure false)
    (q : wpAny (model prog w) A (eval value env) (fun v s1 => wpAny (model prog w) A (storeName env x v) (fun _ s2 => Q .next s2) E s1) E s) : wpAny (model prog w) A (exec (.Assign [.Name x p'] value pos) env) Q E s := by
  rw [exec_Assign_Name env x p' value pos hs]
  refine wpAny_bind (wpAny_standAt (wpAny_bind (wpAny_mono q (fun v s1 x1 => ?_) fun _ _ x => x)))
  refine wpAny_bind (wpAny_standAt ?_)
  refine wpAny_bind (wpAny_bindName (wpAny_mono x1 (fun _ _ x2 => ?_) fun _ _ x => x))
  exact wpAny_pure x2
theorem asg_str {env : Env} {x : Str} {p' pos p2 : Pos} {z : Str} {k : Nat} {Q : Flow → Shared → Prop} {i : Nat} {o : Obj} {es : Array DictEntry} {ep : Nat} (hs : swapsWith (.Constant (.str z) k p2) (some (.Name x p')) pos.line env = pure false) (hst : ∀ v, storeName env x v = localSet env x v)
    (D : Lh g L m h news) (hi : news[i]? = some (env.locals, o)) (hc : o.cls = .type "dict") (hd : o.data = .dict es ep) (hr : aRefKeyMayBeTheName x es = false)
    (q : ∀ h', Lh g L m h' (news.set i (env.locals, Obj.putName x (hsh w x) (.str x (tk + 1)) (.str z tk) o)) → Q .next ⟨h', gs, d, tk + 1 + 1, os⟩) : wpAny (model prog w) A (exec (.Assign [.Name x p'] (.Constant (.str z) k p2) pos) env) Q E ⟨h, gs, d, tk, os⟩ := by
  refine asg hs ?_
  rw [eval_Constant]
  refine wpAny_mkText ?_
  rw [hst]
  exact local_set D hi hc hd hr q
theorem asg_none {env : Env} {x : Str} {p' pos p2 : Pos} {k : Nat} {Q : Flow → Shared → Prop} {i : Nat} {o : Obj} {es : Array DictEntry} {ep : Nat} (hs : swapsWith (.Constant .none k p2) (some (.Name x p')) pos.line env = pure false) (hst : ∀ v, storeName env x v = localSet env x v)
    (D : Lh g L m h news) (hi : news[i]? = some (env.locals, o)) (hc : o.cls = .type "dict") (hd : o.data = .dict es ep) (hr : aRefKeyMayBeTheName x es = false)
    (q : ∀ h', Lh g L m h' (news.set i (env.locals, Obj.putName x (hsh w x) (.str x tk) .none o)) → Q .next ⟨h', gs, d, tk + 1, os⟩) : wpAny (model prog w) A (exec (.Assign [.Name x p'] (.Constant .none k p2) pos) env) Q E ⟨h, gs, d, tk, os⟩ := by
  refine asg hs ?_
  rw [eval_Constant]
  refine wpAny_pure ?_
  rw [hst]
  exact local_set D hi hc hd hr q
theorem asg_list {env : Env} {x : Str} {p' pos p2 p3 : Pos} {z : Str} {k : Nat} {Q : Flow → Shared → Prop} {i : Nat} {o : Obj} {es : Array DictEntry} {ep : Nat} (hs : swapsWith (.List [.Constant (.str z) k p2] p3) (some (.Name x p')) pos.line env = pure false) (hst : ∀ v, storeName env x v = localSet env x v)
    (D : Lh g L m h news) (hi : news[i]? = some (env.locals, o)) (hc : o.cls = .type "dict") (hd : o.data = .dict es ep) (hr : aRefKeyMayBeTheName x es = false)
    (q : ∀ l h', Lh g L m h' ((l, { cls := .type "list", data := .seq #[.str z tk] }) :: news.set i (env.locals, Obj.putName x (hsh w x) (.str x (tk + 1)) (.ref l) o)) → Q .next ⟨h', gs, d, tk + 1 + 1, os⟩) : wpAny (model prog w) A (exec (.Assign [.Name x p'] (.List [.Constant (.str z) k p2] p3) pos) env) Q E ⟨h, gs, d, tk, os⟩ := by
  refine asg hs ?_
  refine wpAny_List ?_
  refine spliced_more ?_
  rw [eval_Constant]
  refine wpAny_mkText ?_
  refine spliced_none ?_
  refine ⟨by show (1 : Nat) ≤ sizeLine; decide +kernel, ?_⟩
  have D1 := D.alloc (o := { cls := .type "list", data := .seq #[.str z tk] }) rfl
  rw [hst]
  refine local_set (i := i + 1) D1 hi hc hd hr fun h2 D2 => ?_
  exact q _ h2 D2
noncomputable def ent (w : World) (name : Str) (t : Tok) (v : Value) : DictEntry := ⟨hsh w name, .str name t, v⟩
noncomputable def dO (l : List DictEntry) (n : Nat) : Obj := { cls := .type "dict", data := .dict l.toArray n }
theorem put_ent {w : World} {name : Str} {t : Tok} {v : Value} {l : List DictEntry} {n : Nat} (hn : (l.all fun e => !(e.key.isStr name)) = true) : Obj.putName name (hsh w name) (.str name t) v (dO l n) = dO (l ++ [ent w name t v]) (n + 1) := by
  rw [Obj.putName_eq]
  unfold dO Obj.putNameByArray
  dsimp only
  have : Array.findIdx? (fun x => x.key.isStr name) l.toArray = none := by
    rw [Array.findIdx?_eq_none_iff]
    intro x hx
    have := List.all_eq_true.mp hn x (by simpa using hx)
    simpa using this
  rw [this]
  simp [ent]
theorem aref_no {name : Str} {l : List DictEntry} (hr : (l.all fun e => !e.refKey) = true) : aRefKeyMayBeTheName name l.toArray = false := by
  rw [aRefKeyMayBeTheName_at]
  have : l.toArray.any (·.refKey) = false := by
    rw [Bool.eq_false_iff]
    intro h
    rw [List.any_toArray, List.any_eq_true] at h
    obtain ⟨x, hx, hx2⟩ := h
    have := List.all_eq_true.mp hr x hx
    rw [hx2] at this; cases this
  rw [this, Bool.and_false]
end
end

section
open PySem.W.X
set_option Elab.async false
set_option linter.unusedVariables false
/-- two parameters; x.z = y; f(x.z, y.z) < 0; a plain scope -/
noncomputable def ps2 (x y : Str) (p q : Pos) : Arguments := { posonlyargs := [], args := [{ arg := x, annotation := none, pos := p }, { arg := y, annotation := none, pos := q }], vararg := none, kwonlyargs := [], kw_defaults := [], kwarg := none, defaults := [] }
noncomputable def stB (x y z : Str) (p q r t : Pos) : List Stmt := [.Assign [.Attribute (.Name x p) z q] (.Name y r) t]
noncomputable def ltB (f x y z : Str) (p1 p2 p3 p4 p5 p6 p7 p8 p9 : Pos) : List Stmt := [.Return (some (.Compare (.Call (.Name f p1) [.Attribute (.Name x p2) z p3, .Attribute (.Name y p4) z p5] [] p6) [.Lt] [.Constant (.int 0) 0 p7] p8)) p9]
noncomputable def fS (l : List (Str × NameKind)) : Scope := { kind := .function, names := l, isGenerator := false, isCoroutine := false }
set_option genInjectivity false in
set_option genSizeOf false in
/-- what stays of a class made by cmp_to_key -/
structure KParts where
  (ns md f0 c0 f1 c1 cl bt st sl : Addr)
  f : Fin 6 → Addr
  hs : Fin 12 → Int
  ts : Fin 12 → Tok
  (t tq tm u0 u1 w0 w1 tx ty : Tok)
  (hx hy z2 : Int)
  m0 : Str
  (o0 o1 oc : Obj)
  (vs0 vs1 : Array Value)
  (q0 q1 : Str)
  (dc0 dc1 ct0 ct1 : Value)
  (p1 p2 p3 p4 p5 p6 r1 r2 r3 r4 r5 r6 r7 r8 r9 r10 r11 : Pos)
namespace KParts
variable (k : KParts)
noncomputable def nsO : Obj := kD3 k.hs k.ts (.str k.m0 k.u0) (.int k.z2 k.u1) k.sl k.f (.ref k.st) k.md k.hx k.tx k.hy k.ty
noncomputable def clO (C : Addr) : Obj := clsF C k.ns (.ref k.bt) k.t k.tq
noncomputable def f0O (mv : Value) : Obj := fnMade (Str.ofString "__init__") k.q0 (ps2 (Str.ofString "self") (Str.ofString "obj") k.p1 k.p2) (stB (Str.ofString "self") (Str.ofString "obj") (Str.ofString "obj") k.p3 k.p4 k.p5 k.p6) (fS [(Str.ofString "self", .local), (Str.ofString "obj", .local)]) [] k.dc0 mv k.c0 k.ct0
noncomputable def f1O (mv : Value) : Obj := fnMade (Str.ofString "__lt__") k.q1 (ps2 (Str.ofString "self") (Str.ofString "other") k.r1 k.r2) (ltB (Str.ofString "mycmp") (Str.ofString "self") (Str.ofString "other") (Str.ofString "obj") k.r3 k.r4 k.r5 k.r6 k.r7 k.r8 k.r9 k.r10 k.r11)
  (fS [(Str.ofString "self", .local), (Str.ofString "other", .local), (Str.ofString "mycmp", .free)]) [(Str.ofString "mycmp", k.cl)] k.dc1 mv k.c1 k.ct1
noncomputable def objs (C : Addr) (mv : Value) : List (Addr × Obj) := [(k.md, mdO C k.tm), (C, k.clO C), (k.ns, k.nsO), (k.f1, k.f1O mv), (k.c1, k.o1), (k.f0, k.f0O mv), (k.c0, k.o0), (k.cl, k.oc)]
structure Ok (lam : Addr) : Prop where
  g0 : k.f 0 = k.f0
  g1 : k.f 1 = k.f1
  d0 : k.o0.data = .fields k.vs0
  e0 : k.vs0[1]? = some (.str k.q0 k.w0)
  d1 : k.o1.data = .fields k.vs1
  e1 : k.vs1[1]? = some (.str k.q1 k.w1)
  dc : k.oc.data = .cell (some (.ref lam))
end KParts
theorem Lh.store {g h h' : Heap} {L : Addr} {m m' : Str → Option Value} {news : List (Addr × Obj)} (D : Lh g L m h news) (hn : h'.Ns L m') (hs : Heap.SameBut L h h') : Lh g L m' h' news := by
  refine ⟨⟨hn, fun b o e => ?_, D.fr.above⟩, fun p hp => ⟨?_, (D.nw p hp).2⟩, D.nd⟩
  · have : b ≠ L := Nat.ne_of_lt (Nat.lt_of_lt_of_le (Heap.lt_size e) D.fr.above)
    exact (hs.2 b this).trans (D.fr.keep b o e)
  · exact (hs.2 _ (D.nw p hp).2.1).trans (D.nw p hp).1
theorem pick_k {g h : Heap} {L a lam : Addr} {m : Str → Option Value} {mv : Value} {news : List (Addr × Obj)} (D : Lh g L m h news) (k : KParts) (ps : Array Value) (hs : List.Sublist (k.objs a mv ++ [(74, tabObj ps)]) news) (ok : k.Ok lam) :
    ∃ (k : KParts) (ps : Array Value), k.Ok lam ∧ h.get? 74 = some (tabObj ps) ∧ (∀ p ∈ k.objs a mv, h.get? p.1 = some p.2 ∧ g.get? p.1 = none ∧ p.1 ≠ 74) ∧ ((k.objs a mv).map (·.1)).Nodup := by
  have nd := (hs.map (·.1)).nodup D.nd
  rw [List.map_append] at nd
  obtain ⟨n1, n2, n3⟩ := List.nodup_append.mp nd
  refine ⟨k, ps, ok, (D.nw _ (hs.subset (List.mem_append_right _ (.head _)))).1, fun p hp => ?_, n1⟩
  have z := D.nw p (hs.subset (List.mem_append_left _ hp))
  exact ⟨z.1, z.2.2, fun e => n3 p.1 (List.mem_map_of_mem hp) 74 (.head _) e⟩
end

section
open PySem.W.X
set_option Elab.async false
set_option linter.unusedVariables false
theorem KNin_ghost1 {w : World} {h : Heap} (X : KNin w h) : KNin w (ghostOf h [(78, 74)]) := fun a o e => by
  refine ghost_ne (X a o e) fun hm => ?_
  have hm : a = 74 := by simpa using hm
  have hn : (KN w.params).lookup a = none := lookup_filter_none (g := fun b => !(b == 74 || b == 232)) (by rcases hm with rfl | rfl <;> rfl) _
  rw [hn] at e; cases e
noncomputable def kL3 (w : World) (t : Tok) : List DictEntry := [ent w (Str.ofString "__module__") t (.str (Str.ofString "cpy313.functools") (t + 5)), ent w (Str.ofString "__qualname__") (t + 2) (.str (Str.ofString "cmp_to_key.<locals>.K") (t + 1)), ent w (Str.ofString "__firstlineno__") (t + 4) (.int 48 (t + 3))]
/-- twelve names, tokens; six of a kind -/
noncomputable def knm : Fin 12 → Str
  | 0 => Str.ofString "__module__" | 1 => Str.ofString "__qualname__" | 2 => Str.ofString "__firstlineno__" | 3 => Str.ofString "__slots__" | 4 => Str.ofString "__init__" | 5 => Str.ofString "__lt__"
  | 6 => Str.ofString "__gt__" | 7 => Str.ofString "__eq__" | 8 => Str.ofString "__le__" | 9 => Str.ofString "__ge__" | 10 => Str.ofString "__hash__" | 11 => Str.ofString "__static_attributes__"
noncomputable def tsF (a b c d e f g h i j k l : Tok) : Fin 12 → Tok
  | 0 => a | 1 => b | 2 => c | 3 => d | 4 => e | 5 => f | 6 => g | 7 => h | 8 => i | 9 => j | 10 => k | 11 => l
noncomputable def f6 (a b c d e f : Addr) : Fin 6 → Addr
  | 0 => a | 1 => b | 2 => c | 3 => d | 4 => e | 5 => f
noncomputable def g6 (a b c d e f : FuncData) : Fin 6 → FuncData
  | 0 => a | 1 => b | 2 => c | 3 => d | 4 => e | 5 => f
theorem of6 {h : Heap} {a b c d e f : Addr} {a' b' c' d' e' f' : FuncData} (h0 : h.get? a = some { cls := .type "function", data := .func a' }) (h1 : h.get? b = some { cls := .type "function", data := .func b' }) (h2 : h.get? c = some { cls := .type "function", data := .func c' })
    (h3 : h.get? d = some { cls := .type "function", data := .func d' }) (h4 : h.get? e = some { cls := .type "function", data := .func e' }) (h5 : h.get? f = some { cls := .type "function", data := .func f' }) : ∀ i, h.get? (f6 a b c d e f i) = some { cls := .type "function", data := .func (g6 a' b' c' d' e' f' i) } := by
  intro i
  match i with
  | 0 => exact h0
  | 1 => exact h1
  | 2 => exact h2
  | 3 => exact h3
  | 4 => exact h4
  | 5 => exact h5
theorem nd2 {a b : Addr} {o o' : Obj} (h : a ≠ b) : ([((a, o) : Addr × Obj), (b, o')].map (·.1)).Nodup := by simp [h]
theorem kn_235 (P : Params) : ((KN P).lookup 235).isSome = true := by kernel_rfl
theorem kn_lt {w : World} {g h : Heap} {L : Addr} {m : Str → Option Value} (XN : KNin w g) (F : Fr g L h m) : @LT.lt Nat _ 235 L := by
  have e := kn_235 w.params
  obtain ⟨o, ho⟩ := Option.isSome_iff_exists.mp e
  exact Nat.lt_of_lt_of_le (Heap.lt_size (XN _ _ ho)) F.above
set_option maxRecDepth 100000 in
set_option maxHeartbeats 4000000 in
set_option pp.maxSteps 1500 in
theorem ck_ : ∀ (w : World) (p₀ : Program) (loose₀ : List Str) (mean : ExcName → Option Value) (mg mb : Str → Option Value) (s : Shared) (X : (fragK.heap_1 w.params).In s.heap) (XN : KNin w s.heap) (T : Top p₀ loose₀ mean mg mb s.heap) (hT : TabsAt [(78, 74)] s.heap) (A : Around) (lam : Addr) (Q E : Value → Shared → Prop)
   (hA : A.handled = none) (hd : A.depth ≤ 405) (hu : A.units ≤ 205)
   (q : ∀ C (k : KParts) ps h' t', k.Ok lam → (∀ b o, s.heap.get? b = some o → b ≠ 74 → h'.get? b = some o) → h'.get? 74 = some (tabObj ps) → (∀ p ∈ k.objs C ((mg (Str.ofString "__name__")).getD .none), h'.get? p.1 = some p.2 ∧ s.heap.get? p.1 = none) →
     ((k.objs C ((mg (Str.ofString "__name__")).getD .none)).map (·.1)).Nodup → Q (.ref C) ⟨h', s.gens, s.drawn, t', s.os⟩),
   wpAny (model PySem.Challenge.rw_in0142_01.row.prog w) A (call (.ref 79) [.ref lam]) Q E s := by
  k_fill
  intro w p₀ loose₀ mean mg mb s X XN T hT A lam Q E hA hd hu q
  have CA := ghost_code hT
  have T := ghost_top hT T
  have X := ghost_K hT X (fragK_tabs w.params)
  have XN : KNin w (ghostOf s.heap [(78, 74)]) := KNin_ghost1 XN
  refine' enterC (B := ghostOf s.heap [(78, 74)]) (binds := [(Str.ofString "mycmp", .ref lam)]) (objs := tabNews [(78, 74)]) (fun _ _ e => of_hideAll _ e) (tabs_obj hT) X T (show A.depth < recursionLimit from Nat.lt_of_le_of_lt hd (by decide)) ?k6 ?k7 ?k9 ?kB ?kD ?_ ?c2 ?c3 ?c4
  case k6 => k_is
  case k7 => k_is
  case k9 => exact BindsTo.of_eq rfl
  case kB => exact rfl
  case kD => decide +kernel
  case c2 => exact rfl
  case c3 => exact rfl
  case c4 => exact rfl
  intro g L h1 tk cells hBg hsg F N Y
  k_cells Y
  (try simp only [tabNews, List.map_cons, List.map_nil, List.cons_append, List.nil_append] at N)
  replace X := X.keeps hBg
  replace XN := XN.keeps hBg
  replace T := T.keeps hBg
  have C2 := CA.1.keeps hBg
  try dsimp only
  have hL : @LT.lt Nat _ 235 L := kn_lt XN F
  rename Obj => oc
  rename oc.data = _ => hoc
  have D : Lh g L _ h1 [(L + 1, oc), (74, tabObj #[])] := ⟨F, N, nd2 (Nat.ne_of_gt (show @LT.lt Nat _ 74 (L + 1) by omega))⟩
  clear F N
  generalize bindL _ _ _ = m0 at D
  have X' := X.keeps D.fr.keep
  have XN' : (KN w.params).In h1 := XN.keeps D.fr.keep
  refine wpAny_execs_cons ?_
  rw [arm_exec_ClassDef]
  repeat walk_at "kk"
  refine wpAny_bind (wpAny_standAt ?_)
  refine wpAny_bind ?_
  unfold buildClassGuard
  refine wpAny_bind (Looks.at (looks_nsIn XN' (name := Str.ofString "__build_class__") (r := some (.builtin "__build_class__")) (by kernel_rfl)) ?_)
  repeat walk_at "kk"
  refine wpAny_bind (wpAny_holding ?_)
  refine wpAny_bind (pk_wp XN' (⟨[.type "object"], []⟩ : Args) (by kernel_rfl) ?_)
  refine wpAny_bind (wpAny_standAt ?_)
  refine wpAny_holding ?_
  rw [show qualnameIn (envOfC (Str.ofString "cmp_to_key") _ L 79 (Value.ref 78)) (Str.ofString "K") (Str.ofString "K") = Str.ofString "cmp_to_key.<locals>.K" from by kernel_rfl]
  refine build_ (mg := mg) (mb := mb) (oc := oc) (p₀ := topProg) (mean := mean) hA (show A.depth + 1 ≤ 409 by omega) (show A.units + 3 ≤ 209 by omega) D hL XN T C2 rfl rfl rfl (by kernel_rfl) fun cc P' fr nsA bt pc co fro pco h2 t2 D2 C' => ?_
  refine wpAny_run (codeAny_body rfl rfl ?_)
  refine wpAny_execs_cons ?_
  refine asg_str (i := 3) rfl (fun _ => rfl) D2 rfl rfl rfl (by kernel_rfl) fun h3 D3 => ?_
  have ec := D2.at (i := 1) rfl
  clear D2
  rw [show Obj.putName (Str.ofString "__module__") (hsh w (Str.ofString "__module__")) (.str (Str.ofString "__module__") (t2 + 5 + 1)) (.str (Str.ofString "cpy313.functools") (t2 + 5)) (kB w t2) = dO (kL3 w t2) 3 from by kernel_rfl] at D3
  refine wpAny_execs_cons ?_
  refine asg_list (i := 3) (o := dO (kL3 w t2) 3) rfl (fun _ => rfl) D3 rfl rfl rfl (aref_no (by kernel_rfl)) fun sl h4 D4' => ?_
  clear D3
  rw [put_ent (by kernel_rfl)] at D4'
  have D4 : Lh g L _ h4 [(sl, _), (fr, fro), (cc, co), (P', tabObj #[]), (nsA, _), (pc, pco), (bt, _), (L + 1, oc), (74, _)] := D4'
  clear D4'
  have C4 := hd_move C' ec (D4.at (i := 2) rfl)
  clear ec C'
  refine wpAny_execs_cons ?_
  refine def_stmt (i := 3) (j := 4) (k := 2) (o := dO _ 4) (clos := []) rfl rfl rfl (fun _ => rfl) D4 T rfl (by kernel_rfl) rfl rfl C4 trivial rfl rfl (by decide) rfl (by decide) (by decide) rfl rfl (aref_no (by kernel_rfl)) fun f0 c0 o0 vs0 u0 ct0 dc0 h10 k0 E0' a0 b0 C10 => ?_
  clear D4 C4
  rw [put_ent (by kernel_rfl)] at E0'
  have E0 : Lh g L _ h10 [(f0, _), (c0, o0), (sl, _), (fr, fro), (cc, co), (P', tabObj #[rawInt 52, rawInt 8, .ref c0]), (nsA, _), (pc, pco), (bt, _), (L + 1, oc), (74, _)] := E0'
  clear E0'
  refine wpAny_execs_cons ?_
  refine def_stmt (i := 5) (j := 6) (k := 4) (o := dO _ 5) (clos := [(Str.ofString "mycmp", L + 1)]) rfl rfl rfl (fun _ => rfl) E0 T rfl (by kernel_rfl) rfl rfl C10 (by simp [TriplesOk, rawInt]) (by simp [codeAmong, rawInt]) rfl (by decide) rfl (by decide) (by decide) rfl rfl (aref_no (by kernel_rfl)) fun f1 c1 o1 vs1 u1 ct1 dc1 h11 k1 E1' a1 b1 C11 => ?_
  clear E0 C10
  rw [put_ent (by kernel_rfl)] at E1'
  have E1 : Lh g L _ h11 [(f1, _), (c1, o1), (f0, _), (c0, o0), (sl, _), (fr, fro), (cc, co), (P', tabObj #[rawInt 52, rawInt 8, .ref c0, rawInt 55, rawInt 8, .ref c1]), (nsA, _), (pc, pco), (bt, _), (L + 1, oc), (74, _)] := E1'
  clear E1'
  refine wpAny_execs_cons ?_
  refine def_stmt (i := 7) (j := 8) (k := 6) (o := dO _ 6) (clos := [(Str.ofString "mycmp", L + 1)]) rfl rfl rfl (fun _ => rfl) E1 T rfl (by kernel_rfl) rfl rfl C11 (by simp [TriplesOk, rawInt]) (by simp [codeAmong, rawInt]) rfl (by decide) rfl (by decide) (by decide) rfl rfl (aref_no (by kernel_rfl)) fun f2 c2 o2 vs2 u2 ct2 dc2 h12 k2 E2' a2 b2 C12 => ?_
  clear E1 C11
  rw [put_ent (by kernel_rfl)] at E2'
  have E2 : Lh g L _ h12 [(f2, _), (c2, o2), (f1, _), (c1, o1), (f0, _), (c0, o0), (sl, _), (fr, fro), (cc, co), (P', tabObj #[rawInt 52, rawInt 8, .ref c0, rawInt 55, rawInt 8, .ref c1, rawInt 58, rawInt 8, .ref c2]), (nsA, _), (pc, pco), (bt, _), (L + 1, oc), (74, _)] := E2'
  clear E2'
  refine wpAny_execs_cons ?_
  refine def_stmt (i := 9) (j := 10) (k := 8) (o := dO _ 7) (clos := [(Str.ofString "mycmp", L + 1)]) rfl rfl rfl (fun _ => rfl) E2 T rfl (by kernel_rfl) rfl rfl C12 (by simp [TriplesOk, rawInt]) (by simp [codeAmong, rawInt]) rfl (by decide) rfl (by decide) (by decide) rfl rfl (aref_no (by kernel_rfl)) fun f3 c3 o3 vs3 u3 ct3 dc3 h13 k3 E3' a3 b3 C13 => ?_
  clear E2 C12
  rw [put_ent (by kernel_rfl)] at E3'
  have E3 : Lh g L _ h13 [(f3, _), (c3, o3), (f2, _), (c2, o2), (f1, _), (c1, o1), (f0, _), (c0, o0), (sl, _), (fr, fro), (cc, co), (P', tabObj #[rawInt 52, rawInt 8, .ref c0, rawInt 55, rawInt 8, .ref c1, rawInt 58, rawInt 8, .ref c2, rawInt 61, rawInt 8, .ref c3]), (nsA, _), (pc, pco), (bt, _), (L + 1, oc), (74, _)] := E3'
  clear E3'
  refine wpAny_execs_cons ?_
  refine def_stmt (i := 11) (j := 12) (k := 10) (o := dO _ 8) (clos := [(Str.ofString "mycmp", L + 1)]) rfl rfl rfl (fun _ => rfl) E3 T rfl (by kernel_rfl) rfl rfl C13 (by simp [TriplesOk, rawInt]) (by simp [codeAmong, rawInt]) rfl (by decide) rfl (by decide) (by decide) rfl rfl (aref_no (by kernel_rfl)) fun f4 c4 o4 vs4 u4 ct4 dc4 h14 k4 E4' a4 b4 C14 => ?_
  clear E3 C13
  rw [put_ent (by kernel_rfl)] at E4'
  have E4 : Lh g L _ h14 [(f4, _), (c4, o4), (f3, _), (c3, o3), (f2, _), (c2, o2), (f1, _), (c1, o1), (f0, _), (c0, o0), (sl, _), (fr, fro), (cc, co), (P', tabObj #[rawInt 52, rawInt 8, .ref c0, rawInt 55, rawInt 8, .ref c1, rawInt 58, rawInt 8, .ref c2, rawInt 61, rawInt 8, .ref c3, rawInt 64, rawInt 8, .ref c4]), (nsA, _), (pc, pco), (bt, _), (L + 1, oc), (74, _)] := E4'
  clear E4'
  refine wpAny_execs_cons ?_
  refine def_stmt (i := 13) (j := 14) (k := 12) (o := dO _ 9) (clos := [(Str.ofString "mycmp", L + 1)]) rfl rfl rfl (fun _ => rfl) E4 T rfl (by kernel_rfl) rfl rfl C14 (by simp [TriplesOk, rawInt]) (by simp [codeAmong, rawInt]) rfl (by decide) rfl (by decide) (by decide) rfl rfl (aref_no (by kernel_rfl)) fun f5 c5 o5 vs5 u5 ct5 dc5 h15 k5 E5' a5 b5 C15 => ?_
  clear E4 C14
  rw [put_ent (by kernel_rfl)] at E5'
  have E5 : Lh g L _ h15 [(f5, _), (c5, o5), (f4, _), (c4, o4), (f3, _), (c3, o3), (f2, _), (c2, o2), (f1, _), (c1, o1), (f0, _), (c0, o0), (sl, _), (fr, fro), (cc, co), (P', tabObj #[rawInt 52, rawInt 8, .ref c0, rawInt 55, rawInt 8, .ref c1, rawInt 58, rawInt 8, .ref c2, rawInt 61, rawInt 8, .ref c3, rawInt 64, rawInt 8, .ref c4, rawInt 67, rawInt 8, .ref c5]), (nsA, _), (pc, pco), (bt, _), (L + 1, oc), (74, _)] := E5'
  clear E5'
  refine wpAny_execs_cons ?_
  refine asg_none (i := 16) (o := dO _ 10) rfl (fun _ => rfl) E5 rfl rfl rfl (aref_no (by kernel_rfl)) fun h5 D5' => ?_
  clear E5 C15
  rw [put_ent (by kernel_rfl)] at D5'
  have D5 : Lh g L _ h5 [(f5, _), (c5, o5), (f4, _), (c4, o4), (f3, _), (c3, o3), (f2, _), (c2, o2), (f1, _), (c1, o1), (f0, _), (c0, o0), (sl, _), (fr, fro), (cc, co), (P', tabObj #[rawInt 52, rawInt 8, .ref c0, rawInt 55, rawInt 8, .ref c1, rawInt 58, rawInt 8, .ref c2, rawInt 61, rawInt 8, .ref c3, rawInt 64, rawInt 8, .ref c4, rawInt 67, rawInt 8, .ref c5]), (nsA, _), (pc, pco), (bt, _), (L + 1, oc), (74, _)] := D5'
  clear D5'
  refine wpAny_execs_nil ?_
  show wpAny _ _ (List.mapM mkText [Str.ofString "obj"]) _ _ _
  have V := inv_lh (g := g) (L := L) (m := m0) (olds := []) (fun _ hp => nomatch hp)
  have KI : ∀ h news, Lh g L m0 h news → (KN w.params).In h := fun h news D => XN.keeps D.fr.keep
  refine ktk V KI D5 [] [Value.str (Str.ofString "obj") (k5 + 1 + 1)] (k5 + 1 + 1 + 1) (by kernel_rfl) fun h6 D6 => ?_
  clear D5
  refine wpAny_newTextTuple ?_
  have D7 := D6.alloc (o := { cls := .type "tuple", data := .seq [Value.str (Str.ofString "obj") (k5 + 1 + 1)].toArray }) rfl
  clear D6
  generalize h6.objs.size = st at D7
  rw [show storeName (cEnv nsA L cc fr) (Str.ofString "__static_attributes__") (Value.ref st) = localSet (cEnv nsA L cc fr) (Str.ofString "__static_attributes__") (Value.ref st) from rfl]
  refine local_set (i := 17) (o := dO _ 11) D7 rfl rfl rfl (aref_no (by kernel_rfl)) fun h7 D8' => ?_
  clear D7
  rw [put_ent (by kernel_rfl)] at D8'
  have e8 := D8'.at (i := 17) rfl
  have D8 : Lh g L _ h7 [(st, _), (f5, _), (c5, o5), (f4, _), (c4, o4), (f3, _), (c3, o3), (f2, _), (c2, o2), (f1, _), (c1, o1), (f0, _), (c0, o0), (sl, _), (fr, fro), (cc, co), (P', tabObj #[rawInt 52, rawInt 8, .ref c0, rawInt 55, rawInt 8, .ref c1, rawInt 58, rawInt 8, .ref c2, rawInt 61, rawInt 8, .ref c3, rawInt 64, rawInt 8, .ref c4, rawInt 67, rawInt 8, .ref c5]), (nsA, _), (pc, pco), (bt, _), (L + 1, oc), (74, _)] := D8'
  clear D8'
  have e8' : h7.get? nsA = some (kD 12 (fun i => hsh w (knm i)) (tsF t2 (t2 + 2) (t2 + 4) (t2 + 5 + 1 + 1 + 1) k0 k1 k2 k3 k4 k5 (k5 + 1) (k5 + 1 + 1 + 1)) (.str (Str.ofString "cpy313.functools") (t2 + 5)) (t2 + 1) (.int 48 (t2 + 3)) sl (f6 f0 f1 f2 f3 f4 f5) (.ref st)) := e8.trans (by kernel_rfl)
  clear e8
  refine type_call (tb := 0) (of := g6 _ _ _ _ _ _) (tn' := 0) (tl := 0) hA (show A.depth + 1 ≤ 410 by omega) (show A.units + 3 ≤ 210 by omega) (XN.keeps D8.fr.keep) (ne_sys XN D8 (p := (nsA, _)) (List.mem_of_getElem? (i := 17) rfl)) (D8.at (i := 19) rfl) e8' (D8.at (i := 13) rfl) (of6 (D8.at (i := 11) rfl) (D8.at (i := 9) rfl) (D8.at (i := 7) rfl) (D8.at (i := 5) rfl) (D8.at (i := 3) rfl) (D8.at (i := 1) rfl)) (D8.at (i := 0) rfl) fun a ns md h8 t8 M => ?_
  have D9 := D8.mem M
  clear D8 M e8'
  refine wpAny_bind (fp (.ref a) (by kernel_rfl) ?_)
  refine wpAny_bind (wpAny_standAt ?_)
  refine wpAny_bind (wpAny_bindName (wpAny_storeName_local rfl D9.fr.ns fun h9 hn9 hs9 => ?_))
  have D10 := D9.store hn9 hs9
  clear D9
  refine wpAny_pure ?_
  refine wpAny_execs_cons (wpAny_Return_some (wpAny_Name (wpAny_loadName_local rfl rfl D10.fr.ns rfl ?_)))
  obtain ⟨k, ps, ok, h74, ko, knd⟩ := pick_k (a := a) (lam := lam) (mv := (mg (Str.ofString "__name__")).getD .none) D10 { ns := ns, md := md, f0 := f0, c0 := c0, f1 := f1, c1 := c1, cl := L + 1, bt := bt, st := st, sl := sl, f := f6 f0 f1 f2 f3 f4 f5, hs := _, ts := _, t := _, tq := _, tm := _, u0 := _, u1 := _, w0 := u0, w1 := u1, tx := _, ty := _, hx := _, hy := _, z2 := _, m0 := _, o0 := o0, o1 := o1, oc := oc, vs0 := vs0, vs1 := vs1, q0 := _, q1 := _, dc0 := _, dc1 := _, ct0 := _, ct1 := _, p1 := _, p2 := _, p3 := _, p4 := _, p5 := _, p6 := _, r1 := _, r2 := _, r3 := _, r4 := _, r5 := _, r6 := _, r7 := _, r8 := _, r9 := _, r10 := _, r11 := _ } _ (.cons_cons _ (.cons_cons _ (.cons_cons _ (.cons _ (.cons _ (.cons _ (.cons _ (.cons _ (.cons _ (.cons _ (.cons _ (.cons _ (.cons_cons _ (.cons_cons _ (.cons_cons _ (.cons_cons _ (.cons _ (.cons _ (.cons _ (.cons _ (.cons _ (.cons _ (.cons _ (.cons_cons _ (.cons_cons _ .slnil))))))))))))))))))))))))) { g0 := rfl, g1 := rfl, d0 := a0, e0 := b0, d1 := a1, e1 := b1, dc := hoc }
  refine q a k ps h9 _ ok (fun b o e hb => D10.fr.keep b o (hsg b o e fun p hp => by
    have : p.1 = 74 := by simpa [tabNews] using (List.mem_singleton.mp hp ▸ rfl : p.1 = 74)
    rw [this]; exact hb)) h74 (fun p hp => ⟨(ko p hp).1, ?_⟩) knd
  cases e : s.heap.get? p.1 with
  | none => rfl
  | some o =>
    have := hsg p.1 o e fun p' hp' => by
      have : p'.1 = 74 := List.mem_singleton.mp hp' ▸ rfl
      rw [this]; exact (ko p hp).2.2
    rw [(ko p hp).2.1] at this; cases this
end

section
set_option Elab.async false
set_option linter.unusedVariables false
section
variable {w : World} {A : Around} {E : Value → Shared → Prop} {s : Shared} {Q : Value → Shared → Prop} {h₀ : Heap} {L : Addr} {m : Str → Option Value} {news : List (Addr × Obj)} {p : Program} {loose : List Str} {mean : ExcName → Option Value} {mg mb : Str → Option Value}
theorem cmp_to_key_ {lam : Addr} {g : Obj → List (Addr × Obj)} (F : Fr h₀ L s.heap m) (N : News h₀ L s.heap news) (U : UpdF 74 (tabObj #[]) news g) (K : (fragK.heap_1 w.params).In h₀) (X : KNin w h₀) (T : Top p loose mean mg mb h₀) (C2 : CodeHd h₀ 78 74)
    (hA : A.handled = none) (hd : A.depth ≤ 405) (hu : A.units ≤ 205)
    (h : ∀ C (k : KParts) ps h' tk', k.Ok lam → Fr h₀ L h' m → News h₀ L h' (g (tabObj ps) ++ k.objs C ((mg (Str.ofString "__name__")).getD .none)) → (∀ q ∈ news, ∀ p ∈ k.objs C ((mg (Str.ofString "__name__")).getD .none), q.1 ≠ p.1) →
      ((k.objs C ((mg (Str.ofString "__name__")).getD .none)).map (·.1)).Nodup → Q (.ref C) { s with heap := h', toks := tk' }) :
    wpAny (model PySem.Challenge.rw_in0142_01.row.prog w) A (call (.ref 79) [.ref lam]) Q E s := by
  obtain ⟨own, rest, rfl, hgr, h1, h2⟩ := U.split
  have hm := N (74, tabObj #[]) (List.mem_append_right _ (.head _))
  have hT : TabsAt [(78, 74)] s.heap := fun q hq => by
    cases List.mem_singleton.mp hq
    exact ⟨C2.keeps F.keep, hm.1⟩
  refine ck_ w p loose mean mg mb s (K.keeps F.keep) (X.keeps F.keep) (T.keeps F.keep) hT A lam Q E hA hd hu fun C k ps h' t' ok kp h74 ko knd => ?_
  have old : ∀ b o, h₀.get? b = some o → h'.get? b = some o := fun b o e => kp b o (F.keep b o e) (fun q => by rw [q, hm.2.2] at e; cases e)
  have fro : ∀ p ∈ k.objs C ((mg (Str.ofString "__name__")).getD .none), h₀.get? p.1 = none := fun p hp => by
    cases z : h₀.get? p.1 with
    | none => rfl
    | some o => have := F.keep _ _ z; rw [(ko p hp).2] at this; cases this
  obtain ⟨oL, _, _, hoL, _⟩ := id F.ns
  refine h C k ps h' t' ok ⟨F.ns.extBut (fun b o hb e => kp b o e hb) hm.2.1.symm, old, F.above⟩ (fun q hq => ?_) (fun q hq p hp e => ?_) knd
  · rcases List.mem_append.mp hq with hq | hq
    · rw [hgr] at hq
      rcases List.mem_append.mp hq with hq | hq
      · have z := N q (List.mem_append_left _ hq)
        exact ⟨kp _ _ z.1 (h1 q hq), z.2⟩
      · rcases List.mem_cons.mp hq with rfl | hq
        · exact ⟨h74, hm.2⟩
        · have z := N q (List.mem_append_right _ (.tail _ hq))
          exact ⟨kp _ _ z.1 (h2 q hq), z.2⟩
    · exact ⟨(ko q hq).1, (fun e => by have := (ko q hq).2; rw [e, hoL] at this; cases this), fro q hq⟩
  · have := (ko p hp).2
    rw [← e, (N q hq).1] at this
    cases this
end
/-- a row of the law: the walk's length, the port below nought, the place -/
noncomputable def rowObj (z : Int) (j : Nat) (t1 t2 t3 : Tok) : Obj := { cls := .type "tuple", data := .seq #[.int (((wk' z).length : Nat) : Int) t1, .int (-((pt z : Nat) : Int)) t2, .int ((j : Nat) : Int) t3] }
noncomputable def TRows (news : List (Addr × Obj)) (ys : List Value) (zs : List Int) : Prop :=
  ys.length = zs.length ∧ ∀ j v z, ys[j]? = some v → zs[j]? = some z → ∃ a t1 t2 t3, v = .ref a ∧ (a, rowObj z j t1 t2 t3) ∈ news
theorem TRows.nil (news : List (Addr × Obj)) : TRows news [] [] := ⟨rfl, fun j v z h => by simp at h⟩
theorem TRows.snoc {tq : List (Addr × Obj)} {ys : List Value} {zs : List Int} {z : Int} {a : Addr} {t1 t2 t3 : Tok} {i : Nat} (h : TRows tq ys zs) (hi : zs.length = i) : TRows ((a, rowObj z i t1 t2 t3) :: tq) (ys ++ [.ref a]) (zs ++ [z]) := by
  refine ⟨by simp [h.1], fun j v y hv hy => ?_⟩
  by_cases hj : j < ys.length
  · rw [List.getElem?_append_left hj] at hv
    rw [List.getElem?_append_left (h.1 ▸ hj)] at hy
    obtain ⟨b, u1, u2, u3, e, hm⟩ := h.2 j v y hv hy
    exact ⟨b, u1, u2, u3, e, .tail _ hm⟩
  · have hj2 : j = ys.length := by
      have := (List.getElem?_eq_some_iff.mp hv).1
      simp only [List.length_append, List.length_singleton] at this; omega
    subst hj2
    have e1 : (ys ++ [Value.ref a])[ys.length]? = some (.ref a) := by simp
    have e2 : (zs ++ [z])[ys.length]? = some z := by rw [h.1]; simp
    rw [e1] at hv; rw [e2] at hy
    cases hv; cases hy
    rw [h.1, hi]
    exact ⟨a, t1, t2, t3, rfl, .head _⟩
theorem port_at {P : List Value} {ms : List Int} (h : IntsAre P (ms.map fun z => ((pt z : Nat) : Int))) {i : Nat} {z : Int} (hz : ms[i]? = some z) : ∃ t, P[i]? = some (.int ((pt z : Nat) : Int) t) := by
  have hl := intsAre_len h
  rw [List.length_map] at hl
  have hi : i < ms.length := (List.getElem?_eq_some_iff.mp hz).1
  obtain ⟨y, t, hy, e⟩ := intsAre_at h (List.getElem?_eq_getElem (by omega : i < P.length))
  rw [List.getElem?_map, hz] at hy
  cases hy
  exact ⟨t, by rw [List.getElem?_eq_getElem (by omega), e]⟩
theorem range_small {b : Int} (h : 0 ≤ b ∧ b ≤ 1000000) : Builtin.Range.small 0 b 1 = true := small_one (by decide) (by decide) (by omega) (by omega)
end

section
set_option Elab.async false
set_option linter.unusedVariables false
/-- three ints by three -/
noncomputable def less3 (a b c a' b' c' : Int) : Bool := if (a == a') = true then (if (b == b') = true then (if (c == c') = true then false else decide (c < c')) else decide (b < b')) else decide (a < a')
section
variable {prog : Program} {w : World} {A : Around} {E : Value → Shared → Prop} {s : Shared} {Q : Bool → Shared → Prop}
theorem row_lt {x y : Addr} {a b c a' b' c' : Int} {t1 t2 t3 u1 u2 u3 : Tok} (hx : s.heap.get? x = some ({ cls := .type "tuple", data := .seq #[.int a t1, .int b t2, .int c t3] } : Obj)) (hy : s.heap.get? y = some ({ cls := .type "tuple", data := .seq #[.int a' u1, .int b' u2, .int c' u3] } : Obj))
    (h : Q (less3 a b c a' b' c') s) : wpAny (model prog w) A (keyLt' (tuples' true) (.ref x) (.ref y)) Q E s := by
  refine kat_lt hx rfl hy rfl ?_
  show KatLex prog w A true false Q [(.int a t1, .int a' u1), (.int b t2, .int b' u2), (.int c t3, .int c' u3)] 0 s
  unfold less3 at h
  refine kat_cons (wpAny_eqBool_int ?_)
  by_cases e1 : (a == a') = true
  · rw [if_pos e1] at h
    rw [e1]
    refine kat_yes (kat_cons (wpAny_eqBool_int ?_))
    by_cases e2 : (b == b') = true
    · rw [if_pos e2] at h
      rw [e2]
      refine kat_yes (kat_cons (wpAny_eqBool_int ?_))
      by_cases e3 : (c == c') = true
      · rw [if_pos e3] at h
        rw [e3]
        exact kat_yes (kat_nil h)
      · rw [if_neg e3] at h
        rw [Bool.not_eq_true] at e3; rw [e3]
        exact kat_no (kat_one _ _ (PyProof.Rows.lt_int h))
    · rw [if_neg e2] at h
      rw [Bool.not_eq_true] at e2; rw [e2]
      exact kat_no (kat_one _ _ (PyProof.Rows.lt_int h))
  · rw [if_neg e1] at h
    rw [Bool.not_eq_true] at e1; rw [e1]
    exact kat_no (oneLt_int h)
end
/-- the order of the rows, and the order of the keys -/
noncomputable def rowsLt (zs : List Int) (i j : Nat) : Bool := less3 (((wk' (zs.getD i 0)).length : Nat) : Int) (-((pt (zs.getD i 0) : Nat) : Int)) (i : Int) (((wk' (zs.getD j 0)).length : Nat) : Int) (-((pt (zs.getD j 0) : Nat) : Int)) (j : Int)
noncomputable def keysLt (zs : List Int) (i j : Nat) : Bool := if (((wk' (zs.getD i 0)).length : Nat) : Int) = (((wk' (zs.getD j 0)).length : Nat) : Int) then decide (((pt (zs.getD j 0) : Nat) : Int) - ((pt (zs.getD i 0) : Nat) : Int) < 0) else decide ((((wk' (zs.getD i 0)).length : Nat) : Int) - (((wk' (zs.getD j 0)).length : Nat) : Int) < 0)
theorem keys_wo (zs : List Int) : WO (keysLt zs) where
  asym {a b} h := by
    unfold keysLt at h ⊢
    generalize (((wk' (zs.getD a 0)).length : Nat) : Int) = x at *
    generalize (((wk' (zs.getD b 0)).length : Nat) : Int) = y at *
    generalize ((pt (zs.getD a 0) : Nat) : Int) = p at *
    generalize ((pt (zs.getD b 0) : Nat) : Int) = q at *
    split at h <;> split <;> simp only [decide_eq_true_eq, decide_eq_false_iff_not] at * <;> omega
  ntr {a b c} h1 h2 := by
    unfold keysLt at h1 h2 ⊢
    generalize (((wk' (zs.getD a 0)).length : Nat) : Int) = x at *
    generalize (((wk' (zs.getD b 0)).length : Nat) : Int) = y at *
    generalize (((wk' (zs.getD c 0)).length : Nat) : Int) = u at *
    generalize ((pt (zs.getD a 0) : Nat) : Int) = p at *
    generalize ((pt (zs.getD b 0) : Nat) : Int) = q at *
    generalize ((pt (zs.getD c 0) : Nat) : Int) = r at *
    split at h1 <;> split at h2 <;> split <;> simp only [decide_eq_false_iff_not] at * <;> omega
theorem rows_eq (zs : List Int) (i j : Nat) : rowsLt zs i j = (if keysLt zs i j = true then true else if keysLt zs j i = true then false else decide (i < j)) := by
  unfold rowsLt less3 keysLt
  generalize (((wk' (zs.getD i 0)).length : Nat) : Int) = x
  generalize (((wk' (zs.getD j 0)).length : Nat) : Int) = y
  generalize ((pt (zs.getD i 0) : Nat) : Int) = p
  generalize ((pt (zs.getD j 0) : Nat) : Int) = q
  simp only [beq_iff_eq]
  repeat' split
  all_goals (first | rfl | (exfalso; simp only [decide_eq_true_eq, decide_eq_false_iff_not] at *; omega) | (rw [Bool.eq_iff_iff]; simp only [decide_eq_true_eq, decide_eq_false_iff_not, Bool.false_eq_true, iff_false, false_iff, iff_true, true_iff] at *; omega))
theorem rows_wo (zs : List Int) : WO (rowsLt zs) where
  asym {a b} h := by
    rw [rows_eq] at h ⊢
    have W := keys_wo zs
    cases h1 : keysLt zs a b with
    | true => rw [W.asym h1]; simp
    | false =>
      cases h2 : keysLt zs b a with
      | true => rw [h1, h2] at h; simp at h
      | false => rw [h1, h2] at h; simp at h ⊢; omega
  ntr {a b c} h1 h2 := by
    rw [rows_eq] at h1 h2 ⊢
    have W := keys_wo zs
    have k1 : keysLt zs a b = false := by cases e : keysLt zs a b with | true => rw [e] at h1; simp at h1 | false => rfl
    have k2 : keysLt zs b c = false := by cases e : keysLt zs b c with | true => rw [e] at h2; simp at h2 | false => rfl
    rw [W.ntr k1 k2]
    cases e : keysLt zs c a with
    | true => simp
    | false =>
      have e1 : keysLt zs b a = false := W.ntr k2 e
      have e2 : keysLt zs c b = false := W.ntr e k1
      rw [k1, e1] at h1
      rw [k2, e2] at h2
      simp at h1 h2 ⊢
      omega
theorem sb_rows {zs : List Int} {a b : Nat} (h : sb (rowsLt zs) a b) : sb (keysLt zs) a b := by
  have W := keys_wo zs
  cases h1 : keysLt zs a b with
  | true => exact sb_lt W h1
  | false =>
    have hb := h.1
    rw [rows_eq, h1] at hb
    cases h2 : keysLt zs b a with
    | true => rw [h2] at hb; simp at hb
    | false =>
      refine ⟨h2, fun _ => ?_⟩
      have ha := h.2
      rw [rows_eq, h1, h2] at ha
      by_cases hab : a < b
      · exact hab
      · exact ha (by simp [hab])
theorem two_orders {zs : List Int} {N : Nat} {p q : Array Nat} (hp : Pm p N N) (hq : Pm q N N) (up : Up (rowsLt zs) p N) (uq : Up (keysLt zs) q N) : p.toList = q.toList :=
  order_unique (keys_wo zs) hp hq (fun i j hij hj => sb_rows (up i j hij hj)) uq
theorem tups_of {hp : Heap} : ∀ (ys : List Value), (∀ v ∈ ys, ∃ a z j t1 t2 t3, v = .ref a ∧ hp.get? a = some (rowObj z j t1 t2 t3)) → ∃ fs, KatTups hp ys fs ∧ fs.length = ys.length ∧ ∀ v ∈ fs, ∃ n t, v = Value.int n t
  | [], _ => ⟨[], KatTups.nil, rfl, fun _ h => by cases h⟩
  | v :: r, h => by
    obtain ⟨a, z, j, t1, t2, t3, rfl, ho⟩ := h v (.head _)
    obtain ⟨fs, h1, h2, h3⟩ := tups_of r fun v hv => h v (.tail _ hv)
    refine ⟨.int (((wk' z).length : Nat) : Int) t1 :: fs, KatTups.cons ho rfl rfl rfl h1, by simp [h2], fun v hv => ?_⟩
    rcases List.mem_cons.mp hv with rfl | hv
    · exact ⟨_, _, rfl⟩
    · exact h3 v hv
theorem TRows.each {tq : List (Addr × Obj)} {ys : List Value} {zs : List Int} (h : TRows tq ys zs) {v : Value} (hv : v ∈ ys) : ∃ a z j t1 t2 t3, v = .ref a ∧ (a, rowObj z j t1 t2 t3) ∈ tq := by
  obtain ⟨j, hj, e⟩ := List.getElem_of_mem hv
  obtain ⟨a, t1, t2, t3, e2, hm⟩ := h.2 j v (zs[j]'(h.1 ▸ hj)) (by rw [List.getElem?_eq_getElem hj, e]) (List.getElem?_eq_getElem _)
  exact ⟨a, _, j, t1, t2, t3, e2, hm⟩
section
variable {prog : Program} {w : World} {A : Around} {E : Value → Shared → Prop} {s : Shared}
/-- the kind of the rows -/
theorem rows_kind {ys : List Value} {Q : SortKind → Shared → Prop} (h : ∀ v ∈ ys, ∃ a z j t1 t2 t3, v = .ref a ∧ s.heap.get? a = some (rowObj z j t1 t2 t3)) (hne : 0 < ys.length) (hq : Q (tuples' true) s) : wpAny (model prog w) A (keyKind' ys.toArray) Q E s := by
  obtain ⟨fs, h1, h2, h3⟩ := tups_of ys h
  refine kat_kind (T := .type "int") h1 (by omega) (fun v hv => ?_) rfl hq
  obtain ⟨n, t, rfl⟩ := h3 v hv
  exact Looks.of_pure rfl
end
section
variable {prog : Program} {w : World} {A : Around} {E : Value → Shared → Prop} {s : Shared} {h₀ : Heap} {L : Addr} {m : Str → Option Value}
/-- the rows sorted -/
theorem sorted_rows {l : Addr} {news tq : List (Addr × Obj)} {ys : List Value} {zs : List Int} {n : Nat} {Q : Value → Shared → Prop} (F : Fr h₀ L s.heap m) (N : News h₀ L s.heap news) (hl : (l, PySem.W.listOf ys.toArray n) ∈ news) (hT : TRows tq ys zs) (hm : ∀ p ∈ tq, p ∈ news) (h2 : 2 ≤ ys.length) (h64 : ys.length < 64)
    (h : ∀ D p c h' tk, Pm p ys.length ys.length → Up (rowsLt zs) p ys.length → Fr h₀ L h' m → News h₀ L h' ((D, PySem.W.listOf (List.toArray (p.toList.map fun i => ys.getD i Value.none)) c) :: news) → (∀ q ∈ news, q.1 < D) → Q (.ref D) { s with heap := h', toks := tk }) :
    wpAny (model prog w) A (call (.builtin "sorted") [.ref l]) Q E s := by
  refine kat_sorted F N (news_isList N hl) h2 h64 fun D e1 h' F' N' hlt => ?_
  refine rows_kind (fun v hv => ?_) (by omega) ?_
  · obtain ⟨a, z, j, t1, t2, t3, e, ha⟩ := hT.each hv
    exact ⟨a, z, j, t1, t2, t3, e, (N' _ (.tail _ (hm _ ha))).1⟩
  refine wpT_run (n := ys.length) (lt := rowsLt zs) (Inv := fun s' => ∃ tk, s' = { s with heap := h', toks := tk }) ?_ ?_ _ (sort_ok (rows_wo zs) (by omega)) _ ⟨_, rfl⟩
  · rintro i j s' C hi hj ⟨tk, rfl⟩ k
    have hiz : i < zs.length := hT.1 ▸ hi
    have hjz : j < zs.length := hT.1 ▸ hj
    obtain ⟨a, t1, t2, t3, ea, ha⟩ := hT.2 i ys[i] zs[i] (List.getElem?_eq_getElem hi) (List.getElem?_eq_getElem hiz)
    obtain ⟨b, u1, u2, u3, eb, hb⟩ := hT.2 j ys[j] zs[j] (List.getElem?_eq_getElem hj) (List.getElem?_eq_getElem hjz)
    unfold kas_ask
    rw [show ys.getD i Value.none = .ref a from by rw [← ea]; simp [List.getD, hi], show ys.getD j Value.none = .ref b from by rw [← eb]; simp [List.getD, hj]]
    refine row_lt (N' _ (.tail _ (hm _ ha))).1 (N' _ (.tail _ (hm _ hb))).1 ?_
    have := k { s with heap := h', toks := tk } ⟨tk, rfl⟩
    unfold rowsLt at this
    rw [show zs.getD i 0 = zs[i] from by simp [List.getD, hiz], show zs.getD j 0 = zs[j] from by simp [List.getD, hjz]] at this
    exact this
  · rintro p s' ⟨P, U⟩ ⟨tk, rfl⟩
    exact KasFin.intro F' N' (UpdF.head fun q hq => Nat.ne_of_lt (hlt q hq)) fun h'' c F'' N'' => h D p c h'' tk P U F'' N'' hlt
end
end

section
open PySem.W.X
set_option Elab.async false
set_option linter.unusedVariables false
set_option maxRecDepth 100000
theorem lookup_nd {l : List (Addr × Obj)} {a : Addr} {o : Obj} (nd : (l.map (·.1)).Nodup) (hm : (a, o) ∈ l) : List.lookup a l = some o := by
  induction l with
  | nil => cases hm
  | cons p r ih =>
    rw [List.map_cons, List.nodup_cons] at nd
    obtain ⟨b, ob⟩ := p
    rw [List.lookup_cons]
    rcases List.mem_cons.mp hm with e | hm
    · cases e; simp
    · have hne : a ≠ b := fun e => nd.1 (by rw [← e]; exact List.mem_map_of_mem (f := (·.1)) hm)
      rw [show (a == b) = false from by simp [hne]]
      exact ih nd.2 hm
section
variable {k : KParts} {C : Addr} {mv : Value} (nd : ((k.objs C mv).map (·.1)).Nodup)
include nd
theorem kf_md : List.lookup k.md (k.objs C mv) = some (mdO C k.tm) := lookup_nd nd (.head _)
theorem kf_C : List.lookup C (k.objs C mv) = some (k.clO C) := lookup_nd nd (.tail _ (.head _))
theorem kf_ns : List.lookup k.ns (k.objs C mv) = some k.nsO := lookup_nd nd (.tail _ (.tail _ (.head _)))
theorem kf_f1 : List.lookup k.f1 (k.objs C mv) = some (k.f1O mv) := lookup_nd nd (.tail _ (.tail _ (.tail _ (.head _))))
theorem kf_f0 : List.lookup k.f0 (k.objs C mv) = some (k.f0O mv) := lookup_nd nd (.tail _ (.tail _ (.tail _ (.tail _ (.tail _ (.head _))))))
noncomputable def kcd (k : KParts) (C : Addr) : ClassData := { name := Str.ofString "K", bases := [.type "object"], mro := [.ref C, .type "object"], ns := k.ns, qualname := Str.ofString "cmp_to_key.<locals>.K", hasDict := false, slotNames := [Str.ofString "obj"], hasDel := false }
theorem kf_cls : clsIn (k.objs C mv) C = some (kcd k C) := by
  unfold clsIn; rw [kf_C nd]; rfl
theorem kf_own (name : Str) : ownIn (k.objs C mv) name (.ref C) = nsIn (k.objs C mv) k.ns name := by
  unfold ownIn; dsimp only; rw [kf_C nd]; rfl
theorem kf_find (name : Str) : findIn (k.objs C mv) (.ref C) name = alongIn (k.objs C mv) name [.ref C, .type "object"] := by
  unfold findIn; dsimp only; rw [kf_C nd]; rfl
theorem kf_hit {name : Str} {v : Value} (e : nsIn (k.objs C mv) k.ns name = some (some v)) : findIn (k.objs C mv) (.ref C) name = some (some v) := by
  rw [kf_find nd]; unfold alongIn; rw [kf_own nd, e]
theorem kf_miss {name : Str} {r : Option Value} (e : nsIn (k.objs C mv) k.ns name = some none) (e2 : fastBuiltinOwn "object" name = r) : findIn (k.objs C mv) (.ref C) name = some r := by
  rw [kf_find nd]; unfold alongIn; rw [kf_own nd, e]
  dsimp only
  unfold alongIn ownIn
  dsimp only
  rw [e2]
  cases r <;> rfl
theorem kf_n (name : Str) {r : Option (Option Value)} (e : (match (kEs3 k.hs k.ts (.str k.m0 k.u0) (.int k.z2 k.u1) k.sl k.f (.ref k.st) k.md k.hx k.tx k.hy k.ty).find? (·.key.isStr name) with
      | some e => some (some e.val)
      | none => if (kEs3 k.hs k.ts (.str k.m0 k.u0) (.int k.z2 k.u1) k.sl k.f (.ref k.st) k.md k.hx k.tx k.hy k.ty).any (·.refKey) then none else some none) = r) : nsIn (k.objs C mv) k.ns name = r := by
  unfold nsIn; rw [kf_ns nd]; exact e
theorem kf_obj : findIn (k.objs C mv) (.ref C) (Str.ofString "obj") = some (some (.ref k.md)) := kf_hit nd (kf_n nd _ (by kernel_rfl))
theorem kf_init (g0 : k.f 0 = k.f0) : findIn (k.objs C mv) (.ref C) (Str.ofString "__init__") = some (some (.ref k.f0)) := kf_hit nd (kf_n nd _ (by rw [← g0]; kernel_rfl))
theorem kf_lt (g1 : k.f 1 = k.f1) : findIn (k.objs C mv) (.ref C) (Str.ofString "__lt__") = some (some (.ref k.f1)) := kf_hit nd (kf_n nd _ (by rw [← g1]; kernel_rfl))
theorem kf_setattr : findIn (k.objs C mv) (.ref C) (Str.ofString "__setattr__") = some (some (.builtin "object.__setattr__")) := kf_miss nd (kf_n nd _ (by kernel_rfl)) (by kernel_rfl)
theorem kf_ga : findIn (k.objs C mv) (.ref C) (Str.ofString "__getattribute__") = some (some (.builtin "object.__getattribute__")) := kf_miss nd (kf_n nd _ (by kernel_rfl)) (by kernel_rfl)
theorem kf_gat : findIn (k.objs C mv) (.ref C) (Str.ofString "__getattr__") = some none := kf_miss nd (kf_n nd _ (by kernel_rfl)) (by kernel_rfl)
theorem kf_plain : plainOver (k.objs C mv) C = true := by unfold plainOver; rw [kf_cls nd]; rfl
theorem kf_tyC : typeIn (k.objs C mv) (.ref C) = some (.type "type") := by unfold typeIn; dsimp only; rw [kf_C nd]; rfl
theorem kf_tymd : typeIn (k.objs C mv) (.ref k.md) = some (.type "member_descriptor") := by unfold typeIn; dsimp only; rw [kf_md nd]; rfl
theorem kf_tyf0 : typeIn (k.objs C mv) (.ref k.f0) = some (.type "function") := by unfold typeIn; dsimp only; rw [kf_f0 nd]; rfl
theorem kf_tyf1 : typeIn (k.objs C mv) (.ref k.f1) = some (.type "function") := by unfold typeIn; dsimp only; rw [kf_f1 nd]; rfl
theorem kf_takes : takesIn (k.objs C mv) (.ref k.md) = some true := by
  unfold takesIn specialIn; rw [kf_tymd nd]
  rw [show (some (Value.type "member_descriptor")).bind (fun t => findIn (k.objs C mv) t (Str.ofString "__set__")) = fastLookup "member_descriptor" (Str.ofString "__set__") from rfl]
  rw [show fastLookup "member_descriptor" (Str.ofString "__set__") = some (some (.builtin "member_descriptor.__set__")) from by kernel_rfl]
theorem kf_taker : takerIn (k.objs C mv) C (Str.ofString "obj") = some (some (.ref k.md)) := by
  unfold takerIn; rw [kf_obj nd]; dsimp only [Option.bind_some]; rw [kf_takes nd]; rfl
theorem kf_slot : slotIn (k.objs C mv) k.md C = some 0 := by
  unfold slotIn
  rw [show recIn (k.objs C mv) k.md "member_descriptor" = some [.str (Str.ofString "obj") k.tm, .ref C, .builtin "proto.slot", .builtin "proto.slot#set", rawInt 0] from by unfold recIn; rw [kf_md nd]; rfl, kf_cls nd]
  show (if (_ && _ && _ && ((kcd k C).mro.contains (.ref C)) && _) = true then _ else _) = _
  rw [show (kcd k C).mro.contains (Value.ref C) = true from by simp [kcd]]
  rfl
theorem kf_plainGet (n : Str) : plainGet (k.objs C mv) C n = true := by unfold plainGet; rw [kf_ga nd, kf_gat nd]; simp
theorem kf_isCls : isClsIn (k.objs C mv) C = true := by unfold isClsIn; rw [kf_cls nd]; rfl
theorem kf_get : specialIn (k.objs C mv) (.ref k.md) (Str.ofString "__get__") = some (some (.builtin "member_descriptor.__get__")) := by
  unfold specialIn; rw [kf_tymd nd]
  show fastLookup "member_descriptor" (Str.ofString "__get__") = _
  kernel_rfl
theorem kf_call : specialIn (k.objs C mv) (.ref C) (Str.ofString "__call__") = some (some (.builtin "type.__call__")) := by
  unfold specialIn; rw [kf_tyC nd]
  show fastLookup "type" (Str.ofString "__call__") = _
  kernel_rfl
theorem kf_inst : instIn (k.objs C mv) (.ref C) (.type "type") = some true := by
  unfold instIn; rw [kf_tyC nd]
  show subIn (k.objs C mv) (.type "type") (.type "type") = _
  kernel_rfl
theorem kf_makes : makesIn (k.objs C mv) C = true := by
  unfold makesIn
  rw [kf_C nd, kf_call nd, kf_inst nd]
  show (_ && _ && _ && _ && ((kcd k C).mro.contains (.ref C)) && _ && _ && _) = true
  rw [show (kcd k C).mro.contains (Value.ref C) = true from by simp [kcd]]
  simp only [beq_self_eq_true, Bool.and_true]
  kernel_rfl
end
end

section
open PySem.W.X
set_option Elab.async false
set_option linter.unusedVariables false
set_option maxRecDepth 100000
noncomputable abbrev instK (C dx : Addr) (v : Value) : Obj := { cls := .ref C, dict := some dx, data := .plain, slots := #[some v] }
theorem kin {k : KParts} {C : Addr} {mv : Value} {h : Heap} (X : ∀ p ∈ k.objs C mv, h.get? p.1 = some p.2) : Frag.In (k.objs C mv) h := fun a o e => X (a, o) (mem_of_lookupK e)
section
variable {prog : Program} {w : World} {A : Around} {E : Value → Shared → Prop} {s : Shared} {k : KParts} {C lam : Addr} {mv : Value}
theorem rec_of_k {h : Heap} {c : Addr} {o : Obj} {vs : Array Value} {q : Str} {t : Tok} (ho : h.get? c = some o) (hd : o.data = .fields vs) (hv : vs[1]? = some (.str q t)) : h.CodeRec (.ref c) q := ⟨c, o, vs, t, rfl, ho, hd, hv⟩
/-- K(v) -/
theorem key_call {v : Value} {Q : Value → Shared → Prop} (nd : ((k.objs C mv).map (·.1)).Nodup) (ok : k.Ok lam) (X : ∀ p ∈ k.objs C mv, s.heap.get? p.1 = some p.2) (hl : s.heap.NoLimit) (hd : A.depth + 10 < recursionLimit)
    (q : ∀ x dx h' tk', (∀ b o, s.heap.get? b = some o → h'.get? b = some o) → h'.get? x = some (instK C dx v) → h'.get? dx = some emptyDict → s.heap.objs.size ≤ x → s.heap.objs.size ≤ dx → Q (.ref x) { s with heap := h', toks := tk' }) :
    wpAny (model prog w) A (call (.ref C) [v]) Q E s := by
  refine wpAny_call ?_
  obtain ⟨h, g, d, t, os⟩ := s
  have X0 := kin X
  refine make_core (makes_of X0 (kf_makes nd)) (looks_findIn X0 (kf_init nd ok.g0)) (fun self => bind_fn X0 self (kf_tyf0 nd)) (.inl rfl) ?_
  have kp : ∀ b o, h.get? b = some o → ((h.push emptyDict).push (instObj C h.objs.size)).get? b = some o := fun b o e => Heap.get?_push_of_some _ (Heap.get?_push_of_some _ e)
  have hx : ((h.push emptyDict).push (instObj C h.objs.size)).get? (h.objs.size + 1) = some (instObj C h.objs.size) := by heap_get
  have hdx : ((h.push emptyDict).push (instObj C h.objs.size)).get? h.objs.size = some emptyDict := by heap_get
  have hf := kp _ _ (X _ (.tail _ (.tail _ (.tail _ (.tail _ (.tail _ (.head _)))))))
  have hc := kp _ _ (X _ (.tail _ (.tail _ (.tail _ (.tail _ (.tail _ (.tail _ (.head _))))))))
  refine codeAny_call_def (binds := [(Str.ofString "self", .ref (h.objs.size + 1)), (Str.ofString "obj", v)]) ?_ hf rfl (hl.keeps kp) (rec_of_k hc ok.d0 ok.e0) rfl (BindsTo.of_eq rfl) ?_ ?_ (fun h₁ hns hk => ?_)
  · show A.depth + 1 < recursionLimit; omega
  · show ∀ x ∈ [(Str.ofString "self", NameKind.local), (Str.ofString "obj", NameKind.local)], x.2 ≠ NameKind.cell
    decide
  · exact locs rfl
  · generalize hLs : ((h.push emptyDict).push (instObj C h.objs.size)).objs.size = L at hns hk ⊢
    have hL2 : L = h.objs.size + 2 := by rw [← hLs, Heap.size_push, Heap.size_push]
    have F : Fr h L h₁ _ := ⟨hns, fun b o e => hk b o (kp b o e), by rw [hL2]; omega⟩
    have N : News h L h₁ [(h.objs.size + 1, instObj C h.objs.size), (h.objs.size, emptyDict)] := fun p hp => by
      rcases List.mem_cons.mp hp with rfl | hp
      · exact ⟨hk _ _ hx, by rw [hL2]; show h.objs.size + 1 ≠ _; omega, Heap.get?_none_of_le (Nat.le_succ _)⟩
      · cases List.mem_singleton.mp hp
        exact ⟨hk _ _ hdx, by rw [hL2]; show h.objs.size ≠ _; omega, Heap.get?_none_of_le (Nat.le_refl _)⟩
    have I : InstAt h₁ (h.objs.size + 1) (instObj C h.objs.size) C (some emptyDict) := ⟨hk _ _ hx, rfl, rfl, hk _ _ hdx⟩
    refine wpAny_execs_cons (plainObj_wpAny_Assign_Attribute (wpAny_Name (wpAny_loadName_local rfl rfl hns rfl (wpAny_Name (wpAny_loadName_local rfl rfl hns rfl ?_)))) rfl)
    refine set_slot (ox' := instK C h.objs.size v) F X0 N I (kf_setattr nd) (kf_plain nd) (kf_taker nd) (kf_tymd nd) (kf_slot nd) (by decide) rfl rfl (Upd.head (fun p hp => by cases List.mem_singleton.mp hp; exact Nat.ne_of_lt (Nat.lt_succ_self _))) fun h2 F2 N2 => ?_
    refine wpAny_execs_nil ?_
    refine ⟨rfl, ?_⟩
    exact q _ _ h2 _ F2.keep (N2 _ (.head _)).1 (N2 _ (.tail _ (.head _))).1 (Nat.le_succ _) (Nat.le_refl _)
end
end

section
open PySem.W.X
set_option Elab.async false
set_option linter.unusedVariables false
set_option maxRecDepth 100000
section
variable {prog : Program} {w : World} {A : Around} {s : Shared} {k : KParts} {C lam : Addr} {mv : Value}
/-- what the lambda does with two values, in whatever heap that keeps this one -/
noncomputable def LamAt (prog : Program) (w : World) (h : Heap) (lam : Addr) (a b : Value) (z : Int) : Prop :=
  ∀ (A : Around) (s : Shared) (Q : Value → Shared → Prop), A.handled = none → A.depth ≤ 440 → A.units ≤ 240 → (∀ b o, h.get? b = some o → s.heap.get? b = some o) →
    (∀ h' t' tz, (∀ b o, s.heap.get? b = some o → h'.get? b = some o) → Q (.int z tz) { s with heap := h', toks := t' }) → wpAny (model prog w) A (call (.ref lam) [a, b]) Q (fun _ _ => False) s
/-- K's __lt__ -/
theorem lt_call {x y dx dy : Addr} {a b : Value} {z : Int} {Q : Value → Shared → Prop} (nd : ((k.objs C mv).map (·.1)).Nodup) (ok : k.Ok lam) (X : ∀ p ∈ k.objs C mv, s.heap.get? p.1 = some p.2) (hl : s.heap.NoLimit)
    (hA : A.handled = none) (hd : A.depth ≤ 430) (hu : A.units ≤ 230) (hx : s.heap.get? x = some (instK C dx a)) (hdx : s.heap.get? dx = some emptyDict) (hy : s.heap.get? y = some (instK C dy b)) (hdy : s.heap.get? dy = some emptyDict)
    (ha : handedIn a = true) (hb : handedIn b = true) (hlf : FnAt lam s.heap) (hlam : LamAt prog w s.heap lam a b z)
    (q : ∀ h' t', (∀ b o, s.heap.get? b = some o → h'.get? b = some o) → Q (.bool (decide (z < 0))) { s with heap := h', toks := t' }) :
    wpAny (model prog w) A (call (.ref k.f1) [.ref x, .ref y]) Q (fun _ _ => False) s := by
  refine wpAny_call ?_
  obtain ⟨h, g, d, t, os⟩ := s
  have X0 := kin X
  have hf := X _ (.tail _ (.tail _ (.tail _ (.head _))))
  have hc := X _ (.tail _ (.tail _ (.tail _ (.tail _ (.head _)))))
  have hcl := X _ (.tail _ (.tail _ (.tail _ (.tail _ (.tail _ (.tail _ (.tail _ (.head _))))))))
  refine codeAny_call_def (binds := [(Str.ofString "self", .ref x), (Str.ofString "other", .ref y)]) ?_ hf rfl hl (rec_of_k hc ok.d1 ok.e1) rfl (BindsTo.of_eq rfl) ?_ ?_ (fun h₁ hns hk => ?_)
  · show A.depth < recursionLimit; exact Nat.lt_of_le_of_lt hd (by decide)
  · show ∀ x ∈ [(Str.ofString "self", NameKind.local), (Str.ofString "other", NameKind.local), (Str.ofString "mycmp", NameKind.free)], x.2 ≠ NameKind.cell
    decide
  · exact locs rfl
  · have F : Fr h h.objs.size h₁ _ := ⟨hns, hk, Nat.le_refl _⟩
    have I : InstAt h₁ x (instK C dx a) C (some emptyDict) := ⟨hk _ _ hx, rfl, rfl, hk _ _ hdx⟩
    have J : InstAt h₁ y (instK C dy b) C (some emptyDict) := ⟨hk _ _ hy, rfl, rfl, hk _ _ hdy⟩
    refine wpAny_execs_cons (wpAny_Return_some ?_)
    rw [eval_Compare1]
    refine wpAny_bind (wpAny_Call_Name_kw (wpAny_Name (wpAny_loadName_free (c := k.cl) rfl rfl rfl ⟨_, hk _ _ hcl, ok.dc⟩ ?_) (by decide +kernel)))
    have hlf1 : FnAt lam h₁ := by obtain ⟨oc, od, fd, sl, e⟩ := hlf; exact ⟨oc, od, fd, sl, hk _ _ e⟩
    refine callWith_F hlf1 ?_
    refine spliced_more (Attribute_name (wpAny_Name (wpAny_loadName_local rfl rfl hns rfl ?_) (by decide +kernel)))
    refine get_slot F X0 I (kf_plainGet nd _) (kf_isCls nd) (kf_obj nd) (kf_get nd) (kf_takes nd) (kf_slot nd) rfl ha ?_
    refine spliced_more (Attribute_name (wpAny_Name (wpAny_loadName_local rfl rfl hns rfl ?_) (by decide +kernel)))
    refine get_slot (s := ⟨h₁, g, d, _, os⟩) F X0 J (kf_plainGet nd _) (kf_isCls nd) (kf_obj nd) (kf_get nd) (kf_takes nd) (kf_slot nd) rfl hb ?_
    refine spliced_none ⟨hlf1, ?_⟩
    refine wpAny_mono (hlam (A.deeper _) ⟨h₁, g, d, _, os⟩ (fun v s' => ∃ h2 t2 tz, v = .int z tz ∧ s' = ⟨h2, g, d, t2, os⟩ ∧ ∀ b o, h₁.get? b = some o → h2.get? b = some o) hA (show A.depth + 1 ≤ 440 by omega) (show A.units + 3 ≤ 240 by omega) hk fun h2 t2 tz k2 => ⟨h2, t2, tz, rfl, rfl, k2⟩) (fun v s' hv => ?_) fun _ _ x => x.elim
    obtain ⟨h2, t2, tz, rfl, rfl, k2⟩ := hv
    refine wpAny_bind (wpAny_holding ?_)
    rw [markedBehindIn_of_false rfl, eval_Constant]
    refine wpAny_mkInt ?_
    refine wpAny_bind (wpAny_standAt (wpAny_operate' (PyProof.Rows.lt_int ?_)))
    exact q h2 _ fun b o e => k2 b o (hk b o e)
end
end

section
open PySem.W.X
set_option Elab.async false
set_option linter.unusedVariables false
set_option maxRecDepth 100000
section
variable {prog : Program} {w : World} {A : Around} {s : Shared} {k : KParts} {C lam : Addr} {mv : Value}
/-- one key before another -/
theorem key_lt {x y dx dy : Addr} {a b : Value} {z : Int} {Q : Bool → Shared → Prop} (nd : ((k.objs C mv).map (·.1)).Nodup) (ok : k.Ok lam) (X : ∀ p ∈ k.objs C mv, s.heap.get? p.1 = some p.2) (hl : s.heap.NoLimit)
    (hA : A.handled = none) (hd : A.depth ≤ 430) (hu : A.units ≤ 230) (hx : s.heap.get? x = some (instK C dx a)) (hdx : s.heap.get? dx = some emptyDict) (hy : s.heap.get? y = some (instK C dy b)) (hdy : s.heap.get? dy = some emptyDict)
    (ha : handedIn a = true) (hb : handedIn b = true) (hlf : FnAt lam s.heap) (hlam : LamAt prog w s.heap lam a b z)
    (q : ∀ h' t', (∀ b o, s.heap.get? b = some o → h'.get? b = some o) → Q (decide (z < 0)) { s with heap := h', toks := t' }) :
    wpAny (model prog w) A (keyLt' oneType' (.ref x) (.ref y)) Q (fun _ _ => False) s := by
  rw [keyLt'_oneType, oneLt'_eq]
  simp only [if_true]
  refine wpAny_bind (wpAny_cRoomFor (Nat.lt_of_le_of_lt hu (by decide)) ?_)
  have I : InstAt s.heap x (instK C dx a) C (some emptyDict) := ⟨hx, rfl, rfl, hdx⟩
  refine wpAny_bind (ifBound_K (kin X) I (kf_lt nd ok.g1) (beq_iff_eq.mpr (kf_tyf1 nd)) (lt_call nd ok X hl hA hd hu hx hdx hy hdy ha hb hlf hlam fun h' t' hk => ?_))
  exact wpAny_truthy_bool (q h' t' hk)
end
end

section
set_option Elab.async false
set_option linter.unusedVariables false
set_option maxRecDepth 100000
/-- the places 0 .. -/
noncomputable def Places (vs : List Value) (n : Nat) : Prop := vs.length = n ∧ ∀ i v, vs[i]? = some v → ∃ t, v = Value.int ((i : Nat) : Int) t
section
variable {prog : Program} {w : World} {A : Around} {E : Value → Shared → Prop} {s : Shared}
theorem collect_range {r : Addr} {n : Nat} {b : Int} {t u v : Tok} {Q : List Value → Shared → Prop} (hh : A.handled = none) (hr : IsRange s.heap r 0 b 1 t u v) (hs : Builtin.Range.small 0 b 1 = true) (hn : Builtin.Range.rangeSize 0 b 1 = n) (h64 : n < 64)
    (h : ∀ h' tk vs, Places vs n → s.heap.objs.size < h'.objs.size → (∀ b o, s.heap.get? b = some o → h'.get? b = some o) → Q vs { s with heap := h', toks := tk }) :
    wpAny (model prog w) A (collect (.ref r)) Q E s := by
  have go : ∀ (K : Value → Sem (List Value)), (∀ h' tk acc c, (∀ b o, s.heap.get? b = some o → h'.get? b = some o) → s.heap.objs.size < h'.objs.size → h'.get? s.heap.objs.size = some { cls := .type "list", dict := none, data := .seq acc c, slots := #[] } → ItemsOf (fun i v => ∃ t, v = Value.int (0 + i * 1) t) acc n → wpAny (model prog w) A (K (.ref s.heap.objs.size)) Q E { s with heap := h', toks := tk }) →
      wpAny (model prog w) A (runValue (.builtin "proto.collect" ⟨[.ref r], []⟩) >>= K) Q E s := fun K hK => by
   refine wpAny_bind (wpAny_runValue (codeAny_builtin PySem.F.entry_proto_collect ?_))
   rw [Around.under_plainId PySem.F.plain_proto_collect _]
   show wpAny _ A.in1 (newList [] >>= fun l => again (.builtin "list.__iadd__" ⟨[l, .ref r], []⟩)) _ _ s
   refine wpAny_bind (wpAny_newObj_type ?_)
   refine wpAny_pure ⟨plainId_quiet PySem.F.plain_list_iadd _, codeAny_builtin PySem.F.entry_list_iadd ?_⟩
   rw [Around.under_plainId PySem.F.plain_list_iadd _]
   have hS : (s.heap.push { cls := .type "list", data := .seq #[] }).get? s.heap.objs.size = some { cls := .type "list", data := .seq #[] } := Heap.get?_push_size _ rfl
   show wpAny _ A.in1 (Builtin.List.listExtendWith (.ref s.heap.objs.size) (.ref r) (.ref s.heap.objs.size)) _ _ _
   refine wpAny_mono (wpAny_extend_range (R := fun r s' => match r with | .ok (.ret v) => wpAny (model prog w) A (K v) Q E s' | .ok _ => False | .error e => E e s') (s := { s with heap := s.heap.push { cls := .type "list", data := .seq #[] } }) hh (Heap.get?_push_of_some _ hr) hs hn (by omega) _ _ _ hS fun h' tk acc' c' hk hS' hacc => ?_) (fun fin s' hf => ?_) fun e s' hf => hf
   · exact hK h' tk acc' c' (fun b o e => hk b o (Nat.ne_of_lt (Heap.lt_size e)) (Heap.get?_push_of_some _ e)) (Heap.lt_size hS') hS' hacc
   · cases fin with
     | done f => exact hf
     | again c => exact hf
  exact go _ fun h' tk acc c hk sz hS hacc => by
    refine wpAny_bind (wpAny_load hS ?_)
    refine wpAny_pure (h h' tk acc.toList ⟨by rw [Array.length_toList]; exact hacc.1, fun i v hv => ?_⟩ sz hk)
    obtain ⟨t, e⟩ := hacc.2 i v (by rw [← Array.getElem?_toList]; exact hv)
    exact ⟨t, by rw [e]; simp⟩
end
section
variable {prog : Program} {w : World} {A : Around} {E : Value → Shared → Prop} {s : Shared} {h₀ : Heap} {L : Addr} {m : Str → Option Value} {news : List (Addr × Obj)}
/-- sorted(range(n), key=f) -/
theorem sorted_range {r : Addr} {n : Nat} {b : Int} {t u v : Tok} {q : Addr} {Q : Value → Shared → Prop} (F : Fr h₀ L s.heap m) (N : News h₀ L s.heap news) (hh : A.handled = none) (hr : IsRange s.heap r 0 b 1 t u v) (hs : Builtin.Range.small 0 b 1 = true) (hn : Builtin.Range.rangeSize 0 b 1 = n) (h2 : 2 ≤ n) (h64 : n < 64)
    (h : ∀ D kS e1 vs h' tk, Places vs n → Fr h₀ L h' m → News h₀ L h' ((kS, seqObj "list" #[] 0) :: (D, seqObj "list" #[] e1) :: news) → D < kS → (∀ q ∈ news, q.1 < D) →
      KatKeys prog w A.in1.in1 h₀ L m kS (.ref q) (fun ks e s' => wpAny (model prog w) A.in1.in1 (keyKind' (List.toArray ks)) (fun κ s'' => (kas_sort vs.length).kasWp (kas_ask prog w A.in1.in1 κ ks) (fun p s3 => KatFin h₀ L m kS D ks e e1 (p.toList.map fun i => vs.getD i Value.none) (fun s4 => Q (.ref D) s4) s3) s'') (fun _ _ => False) s') vs [] 0 { s with heap := h', toks := tk }) :
    wpAny (model prog w) A (call (.builtin "sorted") [.ref r] [(Str.ofString "key", .ref q)]) Q E s := by
  refine call_function_entry_kw kind_sorted plain_sorted entry_sorted (ksk_s1 _ _) ?_
  unfold Builtin.«sorted»
  refine wpAny_bind (m := checkCount "sorted" 1 1 _) (wpAny_pure ?_)
  refine wpAny_bind (collect_range hh hr hs hn h64 fun h₁ t₁ vs P sz k₁ => ?_)
  have hl : vs.length = n := P.1
  refine wpAny_bind (wpAny_newList ?_ (by rw [sizeLine_eq]; omega))
  have keep : ∀ b o, s.heap.get? b = some o → (h₁.push (seqObj "list" vs.toArray 0)).get? b = some o := fun b o e => Heap.get?_push_of_some _ (k₁ b o e)
  have hoL : (h₁.push (seqObj "list" vs.toArray 0)).get? h₁.objs.size = some (seqObj "list" vs.toArray 0) := Heap.get?_push_size _ rfl
  have hL : L < s.heap.objs.size := F.ns.lt
  show wpAny _ _ _ _ _ { s with heap := h₁.push (seqObj "list" vs.toArray 0), toks := t₁ }
  refine wpAny_bind (wpAny_holding (wpAny_call_entry_kw slot_list_sort ⟨_, hoL, rfl⟩ entry_list_sort ?body (ksk_l1 _ _)))
  case body =>
    show wpAny (model prog w) A.in1.in1 (Builtin.«list.sort» ⟨[.ref h₁.objs.size], [(Str.ofString "key", .ref q)]⟩) _ _ _
    rw [ksk_t1]
    refine kat_keyed (s := { s with heap := h₁.push (seqObj "list" vs.toArray 0), toks := t₁ })
      (F.kept keep) (N.grown keep) hoL (Nat.ne_of_gt (Nat.lt_trans hL sz)) (Heap.get?_none_of_le (Nat.le_trans F.above (Nat.le_of_lt (Nat.lt_trans hL sz))))
      (fun p hp => Nat.ne_of_lt (Nat.lt_trans (Heap.lt_size (N p hp).1) sz)) (by omega) (by omega) fun kS e1 h' F' N' l0 l1 => ?_
    refine kat_keys_mono (h _ kS e1 vs h' t₁ P F' N' l0 fun q hq => Nat.lt_trans (Heap.lt_size (N q hq).1) sz) fun ks e s' hl' hd => ?_
    have hl2 : ks.length = vs.length := by simpa using hl'
    refine wpAny_mono hd (fun κ s'' hk => ?_) fun _ _ x => x
    show (kas_sort vs.length).kasWp (kas_ask prog w A.in1.in1 κ ks) _ s''
    rw [kat_ask_eq (vs := vs) hl2] at hk ⊢
    exact kas_wp_mono hk fun p s3 hk' => hk'.mono fun s4 hq => ⟨_, rfl, wpAny_pure ⟨_, rfl, hq⟩⟩
end
end

section
noncomputable abbrev laPs : Arguments := { posonlyargs := [], args := [{ arg := Str.ofString "one", annotation := none, pos := { line := 321, col := 28, endLine := 321, endCol := 31 } }, { arg := Str.ofString "other", annotation := none, pos := { line := 321, col := 33, endLine := 321, endCol := 38 } }], vararg := none, kwonlyargs := [], kw_defaults := [], kwarg := none, defaults := [] }
noncomputable abbrev laBody : Expr := (.IfExp (.Compare (.Call (.Name (Str.ofString "len") { line := 321, col := 79, endLine := 321, endCol := 82 }) [(.Subscript (.Name (Str.ofString "walks") { line := 321, col := 83, endLine := 321, endCol := 88 }) (.Name (Str.ofString "one") { line := 321, col := 89, endLine := 321, endCol := 92 }) { line := 321, col := 83, endLine := 321, endCol := 93 })] [] { line := 321, col := 79, endLine := 321, endCol := 94 }) [.NotEq] [(.Call (.Name (Str.ofString "len") { line := 321, col := 98, endLine := 321, endCol := 101 }) [(.Subscript (.Name (Str.ofString "walks") { line := 321, col := 102, endLine := 321, endCol := 107 }) (.Name (Str.ofString "other") { line := 321, col := 108, endLine := 321, endCol := 113 }) { line := 321, col := 102, endLine := 321, endCol := 114 })] [] { line := 321, col := 98, endLine := 321, endCol := 115 })] { line := 321, col := 79, endLine := 321, endCol := 115 }) (.BinOp (.Call (.Name (Str.ofString "len") { line := 321, col := 40, endLine := 321, endCol := 43 }) [(.Subscript (.Name (Str.ofString "walks") { line := 321, col := 44, endLine := 321, endCol := 49 }) (.Name (Str.ofString "one") { line := 321, col := 50, endLine := 321, endCol := 53 }) { line := 321, col := 44, endLine := 321, endCol := 54 })] [] { line := 321, col := 40, endLine := 321, endCol := 55 }) .Sub (.Call (.Name (Str.ofString "len") { line := 321, col := 58, endLine := 321, endCol := 61 }) [(.Subscript (.Name (Str.ofString "walks") { line := 321, col := 62, endLine := 321, endCol := 67 }) (.Name (Str.ofString "other") { line := 321, col := 68, endLine := 321, endCol := 73 }) { line := 321, col := 62, endLine := 321, endCol := 74 })] [] { line := 321, col := 58, endLine := 321, endCol := 75 }) { line := 321, col := 40, endLine := 321, endCol := 75 }) (.BinOp (.Subscript (.Name (Str.ofString "ports") { line := 321, col := 121, endLine := 321, endCol := 126 }) (.Name (Str.ofString "other") { line := 321, col := 127, endLine := 321, endCol := 132 }) { line := 321, col := 121, endLine := 321, endCol := 133 }) .Sub (.Subscript (.Name (Str.ofString "ports") { line := 321, col := 136, endLine := 321, endCol := 141 }) (.Name (Str.ofString "one") { line := 321, col := 142, endLine := 321, endCol := 145 }) { line := 321, col := 136, endLine := 321, endCol := 146 }) { line := 321, col := 121, endLine := 321, endCol := 146 }) { line := 321, col := 40, endLine := 321, endCol := 146 })
noncomputable abbrev laScope : Scope := { kind := .function, names := [(Str.ofString "one", .local), (Str.ofString "other", .local), (Str.ofString "ports", .free), (Str.ofString "walks", .free), (Str.ofString "len", .globalImplicit)], isGenerator := false, isCoroutine := false }
noncomputable abbrev laCl (cw cp : Addr) : List (Str × Addr) := [(Str.ofString "walks", cw), (Str.ofString "ports", cp)]
set_option maxRecDepth 100000 in
set_option maxHeartbeats 0 in
theorem la_body : ∀ (w : World) (p₀ : Program) (loose₀ : List Str) (mean : ExcName → Option Value) (mg mb : Str → Option Value) (g : Heap) (X : (fragK.heap_1 w.params).In g) (T : Top p₀ loose₀ mean mg mb g) (CH : CodeHd g 78 74) (A : Around) (hA : A.handled = none) (s : Shared) (qual : Str) (L lam c' cw cp W P ri rj : Addr)
   (i j : Nat) (ti tj : Tok) (vi vj Ps : List Value) (R : List Addr) (ki kj kW kP : Nat) (ow op : Obj) (pi pj : Int) (tpi tpj : Tok) (Q E : Value → Shared → Prop)
   (F : Fr g L s.heap (fun y => [(Str.ofString "one", Value.int ((i : Nat) : Int) ti), (Str.ofString "other", Value.int ((j : Nat) : Int) tj)].reverse.lookup y))
   (N : News g L s.heap [(ri, PySem.W.listOf vi.toArray ki), (rj, PySem.W.listOf vj.toArray kj), (W, PySem.W.listOf (R.map Value.ref).toArray kW), (P, PySem.W.listOf Ps.toArray kP), (cw, ow), (cp, op)])
   (dw : ow.data = .cell (some (.ref W))) (dp : op.data = .cell (some (.ref P))) (hi : i < 64) (hj : j < 64) (zi : vi.length ≤ 1000) (zj : vj.length ≤ 1000)
   (hri : (R.map Value.ref)[((i : Nat) : Int).toNat]? = some (.ref ri)) (hrj : (R.map Value.ref)[((j : Nat) : Int).toNat]? = some (.ref rj)) (hpi : Ps[((i : Nat) : Int).toNat]? = some (.int pi tpi)) (hpj : Ps[((j : Nat) : Int).toNat]? = some (.int pj tpj))
   (hret : ∀ tz tk, Q (.int (if ((vi.length : Nat) : Int) = ((vj.length : Nat) : Int) then pj - pi else ((vi.length : Nat) : Int) - ((vj.length : Nat) : Int)) tz) { s with toks := tk }),
   wpAny (model PySem.Challenge.rw_in0142_01.row.prog w) (A.deeper (envX qual laScope L lam (.ref c') (laCl cw cp))) (eval laBody (envX qual laScope L lam (.ref c') (laCl cw cp))) Q E s := by
  k_fill
  intro w p₀ loose₀ mean mg mb g X T CH A hA s qual L lam c' cw cp W P ri rj i j ti tj vi vj Ps R ki kj kW kP ow op pi pj tpi tpj Q E F N dw dp hi hj zi zj hri hrj hpi hpj hret
  obtain ⟨h, gens, drawn, tk, os⟩ := s
  by_cases e : ((vi.length : Nat) : Int) = ((vj.length : Nat) : Int)
  · rw [if_pos e] at hret
    repeat' (first | (k_here; (with_reducible show wpAny _ _ (subscriptTail _ _ (Value.ref _) (Value.int _ _)) _ _ _); (with_unfolding_all refine' item_at ?qzN ?qzm ?qza ?qzb ?qze ?_; (case qzN => k_asm); (case qzm => k_mem); (case qza => omega); (case qzb => omega); (case qze => assumption); k_whole)) | (k_here; (with_reducible show wpAny _ _ (call (Value.builtin "len") [Value.ref _]) _ _ _); (refine' len_l ?qzN ?qzm ?qzz ?_; (case qzN => k_asm); (case qzm => k_mem); (case qzz => omega); k_whole); intro _ _) | (k_unfold; (try dsimp only)) | (k_end; wrow_close) | walk1 | (dsimp only; walk1) | (leave1; walk_say "STEP leave1"; try dsimp only) | fail "no step")
    exact hret _ _
  · rw [if_neg e] at hret
    repeat' (first | (k_here; (with_reducible show wpAny _ _ (subscriptTail _ _ (Value.ref _) (Value.int _ _)) _ _ _); (with_unfolding_all refine' item_at ?qzN ?qzm ?qza ?qzb ?qze ?_; (case qzN => k_asm); (case qzm => k_mem); (case qza => omega); (case qzb => omega); (case qze => assumption); k_whole)) | (k_here; (with_reducible show wpAny _ _ (call (Value.builtin "len") [Value.ref _]) _ _ _); (refine' len_l ?qzN ?qzm ?qzz ?_; (case qzN => k_asm); (case qzm => k_mem); (case qzz => omega); k_whole); intro _ _) | (k_unfold; (try dsimp only)) | (k_end; wrow_close) | walk1 | (dsimp only; walk1) | (leave1; walk_say "STEP leave1"; try dsimp only) | fail "no step")
    exact hret _ _

noncomputable def keyZ (zs : List Int) (i j : Nat) : Int := if (((wk' (zs.getD i 0)).length : Nat) : Int) = (((wk' (zs.getD j 0)).length : Nat) : Int) then ((pt (zs.getD j 0) : Nat) : Int) - ((pt (zs.getD i 0) : Nat) : Int) else (((wk' (zs.getD i 0)).length : Nat) : Int) - (((wk' (zs.getD j 0)).length : Nat) : Int)
theorem keyZ_lt (zs : List Int) (i j : Nat) : decide (keyZ zs i j < 0) = keysLt zs i j := by
  unfold keyZ keysLt
  split <;> rfl
section
variable {w : World} {p₀ : Program} {loose₀ : List Str} {mean : ExcName → Option Value} {mg mb : Str → Option Value} {h₀ h : Heap} {L₀ : Addr} {m : Str → Option Value} {news : List (Addr × Obj)}
/-- the law's lambda at two places -/
theorem lam_at {tl : List (Addr × Obj)} {R : List Addr} {Ps : List Value} {zs : List Int} {lam c' cw cp W P : Addr} {qual : Str} {pm ctv : Value} {oc : Obj} {vs : Array Value} {tq : Tok} {kW kP : Nat} {ow op : Obj} {i j : Nat} {ti tj : Tok}
    (X : (fragK.heap_1 w.params).In h₀) (T : Top p₀ loose₀ mean mg mb h₀) (CH : CodeHd h₀ 78 74) (F : Fr h₀ L₀ h m) (N : News h₀ L₀ h news) (hJr : Rows tl R (zs.map wk')) (hJp : IntsAre Ps (zs.map fun z => ((pt z : Nat) : Int)))
    (mtl : ∀ p ∈ tl, p ∈ news) (mlam : (lam, kla_obj (Str.ofString "<lambda>") qual laPs laBody laScope (laCl cw cp) pm c' ctv) ∈ news) (mc : (c', oc) ∈ news) (d1 : oc.data = .fields vs) (d2 : vs[1]? = some (.str qual tq))
    (mW : (W, PySem.W.listOf (R.map Value.ref).toArray kW) ∈ news) (mP : (P, PySem.W.listOf Ps.toArray kP) ∈ news) (mcw : (cw, ow) ∈ news) (mcp : (cp, op) ∈ news) (dw : ow.data = .cell (some (.ref W))) (dp : op.data = .cell (some (.ref P)))
    (hi : i < zs.length) (hj : j < zs.length) (h64 : zs.length < 64) : LamAt PySem.Challenge.rw_in0142_01.row.prog w h lam (.int ((i : Nat) : Int) ti) (.int ((j : Nat) : Int) tj) (keyZ zs i j) := by
  intro A s Q hA hd hu hk q
  have hRl : R.length = zs.length := by have := hJr.1; rw [List.length_map] at this; exact this
  have hiR : i < R.length := by omega
  have hjR : j < R.length := by omega
  obtain ⟨ri, zi, vi, ki, hri, _, hzi, hmi, _, hvil⟩ := rows_at hJr (i := i) (v := .ref R[i]) (by simp [hiR])
  obtain ⟨rj, zj, vj, kj, hrj, _, hzj, hmj, _, hvjl⟩ := rows_at hJr (i := j) (v := .ref R[j]) (by simp [hjR])
  obtain ⟨tpi, hpi⟩ := port_at hJp hzi
  obtain ⟨tpj, hpj⟩ := port_at hJp hzj
  have gi : zs.getD i 0 = zi := by simp [List.getD, hzi]
  have gj : zs.getD j 0 = zj := by simp [List.getD, hzj]
  have sub : ∀ p ∈ [(ri, PySem.W.listOf vi.toArray ki), (rj, PySem.W.listOf vj.toArray kj), (W, PySem.W.listOf (R.map Value.ref).toArray kW), (P, PySem.W.listOf Ps.toArray kP), (cw, ow), (cp, op)], p ∈ news := fun p hp => by
    rcases List.mem_cons.mp hp with rfl | hp
    · exact mtl _ hmi
    rcases List.mem_cons.mp hp with rfl | hp
    · exact mtl _ hmj
    rcases List.mem_cons.mp hp with rfl | hp
    · exact mW
    rcases List.mem_cons.mp hp with rfl | hp
    · exact mP
    rcases List.mem_cons.mp hp with rfl | hp
    · exact mcw
    · cases List.mem_singleton.mp hp; exact mcp
  generalize hn : [(ri, PySem.W.listOf vi.toArray ki), (rj, PySem.W.listOf vj.toArray kj), (W, PySem.W.listOf (R.map Value.ref).toArray kW), (P, PySem.W.listOf Ps.toArray kP), (cw, ow), (cp, op)] = six at sub
  have st : ∀ b o, h₀.get? b = some o → (hideAll s.heap (six.map (·.1))).get? b = some o := fun b o e => hideAll_get _ (hk b o (F.keep b o e)) fun hq => by
    obtain ⟨p, hp, rfl⟩ := List.mem_map.mp hq
    rw [(N p (sub p hp)).2.2] at e; cases e
  refine wpAny_call (kla_callFunE (Nat.lt_of_le_of_lt hd (by decide)) (hk _ _ (N _ mlam).1) rfl rfl rfl rfl ⟨c', oc, vs, tq, rfl, hk _ _ (N _ mc).1, d1, d2⟩ ?_)
  rw [show bindArgs (kla_fn (Str.ofString "<lambda>") qual laPs laBody laScope (laCl cw cp) pm (.ref c') ctv) ⟨[.int ((i : Nat) : Int) ti, .int ((j : Nat) : Int) tj], []⟩ = pure [(Str.ofString "one", .int ((i : Nat) : Int) ti), (Str.ofString "other", .int ((j : Nat) : Int) tj)] from rfl]
  refine wpAny_pure (wpAny_newFunctionEnv (by show ∀ x ∈ laScope.names, x.2 ≠ NameKind.cell; decide) (locs rfl) (fun h₁ hns hsb => ⟨((T.nolimit).keeps fun b o e => hk b o (F.keep b o e)).fresh _ hsb, ?_⟩) rfl)
  show codeAny _ _ (.expr laBody (envX qual laScope s.heap.objs.size lam (.ref c') (laCl cw cp))) _ _
  have hk₁ : ∀ b o, s.heap.get? b = some o → h₁.get? b = some o := fun b o e => hsb.extBut b o (Nat.ne_of_lt (Heap.lt_size e)) (Heap.get?_push_of_some _ e)
  have hk₀ := F.keep
  refine kla_codeExpr (wpAny_mono (la_body w p₀ loose₀ mean mg mb (hideAll s.heap (six.map (·.1))) (X.keeps st) (T.keeps st) (CH.keeps st) A hA { s with heap := h₁, toks := s.toks + 2 } qual s.heap.objs.size lam c' cw cp W P ri rj i j ti tj vi vj Ps R ki kj kW kP ow op _ _ tpi tpj
    (fun v s' => ∃ tz tk, v = .int (keyZ zs i j) tz ∧ s' = { s with heap := h₁, toks := tk }) (fun _ _ => False)
    ⟨hns, fun b o e => hk₁ b o (of_hideAll _ e), Nat.le_of_eq (hideAll_size _ _)⟩ (fun p hp => ?_) dw dp (by omega) (by omega) (by have := wk_len zi; omega) (by have := wk_len zj; omega)
    (by rw [Int.toNat_natCast, List.getElem?_map, hri]; rfl) (by rw [Int.toNat_natCast, List.getElem?_map, hrj]; rfl) (by rw [Int.toNat_natCast]; exact hpi) (by rw [Int.toNat_natCast]; exact hpj) fun tz tk => ⟨tz, tk, ?_, rfl⟩) (fun v s' hv => ?_) fun _ _ x => x.elim)
  · rw [hn] at hp
    have n := N p (sub p hp)
    exact ⟨hk₁ _ _ (hk _ _ n.1), Nat.ne_of_lt (Heap.lt_size (hk _ _ n.1)), hideAll_none _ (List.mem_map_of_mem hp)⟩
  · unfold keyZ; rw [gi, gj, hvil, hvjl]
  · obtain ⟨tz, tk, rfl, rfl⟩ := hv
    exact q h₁ tk tz hk₁
end
end

section
set_option Elab.async false
set_option linter.unusedVariables false
set_option maxRecDepth 100000
/-- the keys of the places -/
noncomputable def Keys (C : Addr) (own : List (Addr × Obj)) (ks vs : List Value) : Prop :=
  ks.length = vs.length ∧ ∀ (i : Nat) (k v : Value), ks[i]? = some k → vs[i]? = some v → ∃ x dx, k = Value.ref x ∧ (x, instK C dx v) ∈ own ∧ (dx, emptyDict) ∈ own
theorem Keys.nil (C : Addr) : Keys C [] [] [] := ⟨rfl, fun i k v h => by simp at h⟩
theorem Keys.snoc {C x dx : Addr} {own : List (Addr × Obj)} {ks vs : List Value} {v : Value} (h : Keys C own ks vs) : Keys C ((x, instK C dx v) :: (dx, emptyDict) :: own) (ks ++ [.ref x]) (vs ++ [v]) := by
  refine ⟨by simp [h.1], fun i k u hk hu => ?_⟩
  by_cases hi : i < ks.length
  · rw [List.getElem?_append_left hi] at hk
    rw [List.getElem?_append_left (h.1 ▸ hi)] at hu
    obtain ⟨y, dy, e, m1, m2⟩ := h.2 i k u hk hu
    exact ⟨y, dy, e, .tail _ (.tail _ m1), .tail _ (.tail _ m2)⟩
  · have hj : i = ks.length := by
      have := (List.getElem?_eq_some_iff.mp hk).1
      simp only [List.length_append, List.length_singleton] at this; omega
    subst hj
    have e1 : (ks ++ [Value.ref x])[ks.length]? = some (.ref x) := by simp
    have e2 : (vs ++ [v])[ks.length]? = some v := by rw [h.1]; simp
    rw [e1] at hk; rw [e2] at hu
    cases hk; cases hu
    exact ⟨x, dx, rfl, .head _, .tail _ (.head _)⟩
section
variable {prog : Program} {w : World} {A : Around} {h₀ : Heap} {L : Addr} {m : Str → Option Value} {kS C lam : Addr} {k : KParts} {mv : Value} {base : List (Addr × Obj)}
theorem keys_go {Fin : List Value → Nat → Shared → Prop} (nl : h₀.NoLimit) (nd : ((k.objs C mv).map (·.1)).Nodup) (ok : k.Ok lam) (mk : ∀ p ∈ k.objs C mv, p ∈ base) (hd : A.depth + 10 < recursionLimit) (hb : ∀ q ∈ base, q.1 ≠ kS) (s₀ : Shared) :
    ∀ (r done ks : List Value) (e : Nat) (own : List (Addr × Obj)) (h : Heap) (t : Tok), Fr h₀ L h m → News h₀ L h ((kS, seqObj "list" (List.toArray ks) e) :: (own ++ base)) → (∀ q ∈ own, q.1 ≠ kS) → Keys C own ks done →
    (∀ ks' e' own' h' t', Fr h₀ L h' m → News h₀ L h' ((kS, seqObj "list" (List.toArray ks') e') :: (own' ++ base)) → Keys C own' ks' (done ++ r) → Fin ks' e' { s₀ with heap := h', toks := t' }) →
    KatKeys prog w A h₀ L m kS (.ref C) Fin r ks e { s₀ with heap := h, toks := t }
  | [], done, ks, e, own, h, t, F, N, ho, K, fin => by
    refine KatKeys.nil (fin ks e own h t F N ?_)
    rw [List.append_nil]; exact K
  | v :: r, done, ks, e, own, h, t, F, N, ho, K, fin => by
    refine KatKeys.cons (key_call nd ok (fun p hp => (N p (.tail _ (List.mem_append_right _ (mk p hp)))).1) (nl.keeps F.keep) hd fun x dx h' t' hk hx hdx gx gdx => ?_)
    have hkS : kS < h.objs.size := Heap.lt_size (N _ (.head _)).1
    have hL : L < h.objs.size := F.ns.lt
    have nx : x ≠ kS := Nat.ne_of_gt (Nat.lt_of_lt_of_le hkS gx)
    have ndx : dx ≠ kS := Nat.ne_of_gt (Nat.lt_of_lt_of_le hkS gdx)
    have ho' : ∀ q ∈ (x, instK C dx v) :: (dx, emptyDict) :: own, q.1 ≠ kS := fun q hq => by
      rcases List.mem_cons.mp hq with rfl | hq
      · exact nx
      rcases List.mem_cons.mp hq with rfl | hq
      · exact ndx
      · exact ho q hq
    refine KatBack.intro (news := (kS, seqObj "list" (List.toArray ks) e) :: (((x, instK C dx v) :: (dx, emptyDict) :: own) ++ base)) (F.kept hk) (fun p hp => ?_) (UpdF.head fun q hq => ?_) fun h2 c2 F2 N2 => ?_
    · rcases List.mem_cons.mp hp with rfl | hp
      · exact ⟨hk _ _ (N _ (.head _)).1, (N _ (.head _)).2⟩
      rw [List.cons_append] at hp
      rcases List.mem_cons.mp hp with rfl | hp
      · exact ⟨hx, Nat.ne_of_gt (Nat.lt_of_lt_of_le hL gx), Heap.get?_none_of_le (Nat.le_trans F.above (Nat.le_trans (Nat.le_of_lt hL) gx))⟩
      rw [List.cons_append] at hp
      rcases List.mem_cons.mp hp with rfl | hp
      · exact ⟨hdx, Nat.ne_of_gt (Nat.lt_of_lt_of_le hL gdx), Heap.get?_none_of_le (Nat.le_trans F.above (Nat.le_trans (Nat.le_of_lt hL) gdx))⟩
      · have n := N p (.tail _ hp)
        exact ⟨hk _ _ n.1, n.2⟩
    · rcases List.mem_append.mp hq with hq | hq
      · exact ho' q hq
      · exact hb q hq
    · refine keys_go nl nd ok mk hd hb s₀ r (done ++ [v]) (ks ++ [.ref x]) c2 _ h2 t' F2 N2 ho' K.snoc fun ks' e' own' h'' t'' F'' N'' K'' => fin ks' e' own' h'' t'' F'' N'' ?_
      rw [List.append_assoc] at K''
      exact K''
/-- sorted(range(n), key=cmp_to_key(..)) -/
theorem sorted_keys {s : Shared} {news : List (Addr × Obj)} {r : Addr} {n : Nat} {b : Int} {t u v : Tok} {zs : List Int} {E : Value → Shared → Prop} {Q : Value → Shared → Prop} (F : Fr h₀ L s.heap m) (N : News h₀ L s.heap news) (hh : A.handled = none) (hd : A.depth ≤ 420) (hu : A.units ≤ 220)
    (hr : IsRange s.heap r 0 b 1 t u v) (hs : Builtin.Range.small 0 b 1 = true) (hn : Builtin.Range.rangeSize 0 b 1 = n) (h2 : 2 ≤ n) (h64 : n < 64)
    (nl : h₀.NoLimit) (nd : ((k.objs C mv).map (·.1)).Nodup) (ok : k.Ok lam) (mk : ∀ p ∈ k.objs C mv, p ∈ news) {oc : Value} {od : Option Addr} {fd : FuncData} {sl : Array (Option Value)} (mlam : (lam, (⟨oc, od, .func fd, sl⟩ : Obj)) ∈ news)
    (z : Nat → Nat → Int) (hz : ∀ i j, decide (z i j < 0) = keysLt zs i j) (hlam : ∀ h', Fr h₀ L h' m → News h₀ L h' news → ∀ i j, i < n → j < n → ∀ ti tj, LamAt prog w h' lam (.int ((i : Nat) : Int) ti) (.int ((j : Nat) : Int) tj) (z i j))
    (h : ∀ D p c vs h' tk, Places vs n → Pm p n n → Up (keysLt zs) p n → Fr h₀ L h' m → News h₀ L h' ((D, PySem.W.listOf (List.toArray (p.toList.map fun i => vs.getD i Value.none)) c) :: news) → (∀ q ∈ news, q.1 < D) → Q (.ref D) { s with heap := h', toks := tk }) :
    wpAny (model prog w) A (call (.builtin "sorted") [.ref r] [(Str.ofString "key", .ref C)]) Q E s := by
  refine sorted_range F N hh hr hs hn h2 h64 fun D kS e1 vs h1 t1 P F1 N1 l0 l1 => ?_
  have hl : vs.length = n := P.1
  refine keys_go (base := (D, seqObj "list" #[] e1) :: news) nl nd ok (fun p hp => .tail _ (mk p hp)) (by show A.depth + 10 < _; unfold recursionLimit; omega) (fun q hq => ?_) s vs [] [] 0 [] h1 t1 F1 N1 (fun q hq => nomatch hq) (Keys.nil C) fun ks e own h2' t2 F2 N2 K => ?_
  · rcases List.mem_cons.mp hq with rfl | hq
    · exact Nat.ne_of_lt l0
    · exact Nat.ne_of_lt (Nat.lt_trans (l1 q hq) l0)
  have K1 : ks.length = vs.length := K.1
  have at_ : ∀ i, i < n → ∃ x dx ti, ks.getD i Value.none = Value.ref x ∧ (x, instK C dx (.int ((i : Nat) : Int) ti)) ∈ own ∧ (dx, emptyDict) ∈ own := fun i hi => by
    have hik : i < ks.length := by omega
    have hiv : i < vs.length := by omega
    obtain ⟨x, dx, ek, m1, m2⟩ := K.2 i ks[i] vs[i] (List.getElem?_eq_getElem hik) (by rw [List.nil_append]; exact List.getElem?_eq_getElem hiv)
    obtain ⟨ti, ev⟩ := P.2 i vs[i] (List.getElem?_eq_getElem hiv)
    rw [ev] at m1
    exact ⟨x, dx, ti, by rw [← ek]; simp [List.getD, hik], m1, m2⟩
  refine kas_kind (T := .ref C) (by omega) (fun v hv => ?_) (by simp) (by simp) ?_
  · obtain ⟨i, hi, e⟩ := List.getElem_of_mem hv
    obtain ⟨x, dx, ek, m1, m2⟩ := K.2 i ks[i] (vs[i]'(by omega)) (List.getElem?_eq_getElem hi) (by rw [List.nil_append]; exact List.getElem?_eq_getElem (by omega))
    rw [← e, ek]
    have I : InstAt h2' x (instK C dx vs[i]) C (some emptyDict) := ⟨(N2 _ (.tail _ (List.mem_append_left _ m1))).1, rfl, rfl, (N2 _ (.tail _ (List.mem_append_left _ m2))).1⟩
    exact I.type
  rw [hl]
  refine wpT_run (n := n) (lt := keysLt zs) (Q := fun p => Pm p n n ∧ Up (keysLt zs) p n) (Inv := fun s' => ∃ (h3 : Heap) (t3 : Nat), s' = { s with heap := h3, toks := t3 } ∧ Fr h₀ L h3 m ∧ News h₀ L h3 ((kS, seqObj "list" (List.toArray ks) e) :: (own ++ (D, seqObj "list" #[] e1) :: news))) ?_ ?_ _ (sort_ok (keys_wo zs) (by omega)) _ ⟨_, _, rfl, F2, N2⟩
  · rintro i j s' R hi hj ⟨h3, t3, rfl, F3, N3⟩ kk
    obtain ⟨x, dx, ti, ex, m1, m2⟩ := at_ i hi
    obtain ⟨y, dy, tj, ey, m3, m4⟩ := at_ j hj
    unfold kas_ask
    rw [ex, ey]
    have Nn : News h₀ L h3 news := fun p hp => N3 p (.tail _ (List.mem_append_right _ (.tail _ hp)))
    have ow : ∀ p ∈ own, h3.get? p.1 = some p.2 := fun p hp => (N3 p (.tail _ (List.mem_append_left _ hp))).1
    refine key_lt nd ok (fun p hp => (Nn p (mk p hp)).1) (nl.keeps F3.keep) hh (by show A.depth ≤ 430; omega) (by show A.units + 1 + 1 ≤ 230; omega) (ow _ m1) (ow _ m2) (ow _ m3) (ow _ m4) rfl rfl ⟨_, _, _, _, (Nn _ mlam).1⟩ (hlam h3 F3 Nn i j hi hj ti tj) fun h4 t4 hk => ?_
    rw [hz]
    exact kk _ ⟨h4, t4, rfl, F3.kept hk, N3.grown hk⟩
  · rintro p s' ⟨Pp, U⟩ ⟨h3, t3, rfl, F3, N3⟩
    refine KatFin.intro (news := (kS, seqObj "list" (List.toArray ks) e) :: (D, seqObj "list" #[] e1) :: news) F3 (fun p hp => ?_) (UpdF.head fun q hq => ?_) fun h4 c4 F4 N4 => ?_
    · rcases List.mem_cons.mp hp with rfl | hp
      · exact N3 _ (.head _)
      · exact N3 p (.tail _ (List.mem_append_right _ hp))
    · rcases List.mem_cons.mp hq with rfl | hq
      · exact Nat.ne_of_lt l0
      · exact Nat.ne_of_lt (Nat.lt_trans (l1 q hq) l0)
    · exact KasFin.intro (news := (D, seqObj "list" #[] e1) :: news) F4 (fun p hp => N4 p (.tail _ hp)) (UpdF.head fun q hq => Nat.ne_of_lt (l1 q hq)) fun h5 c5 F5 N5 => h D p c5 vs h5 t3 P Pp U F5 N5 l1
end
end

section
set_option Elab.async false
set_option linter.unusedVariables false
set_option maxRecDepth 100000
theorem old_end {h₀ h : Heap} (hT : TabsAt [(234, 232), (78, 74)] h₀) (hk : ∀ b o, h₀.get? b = some o → b ≠ 232 → b ≠ 74 → h.get? b = some o) {p1 p2 : Array Value} (h1 : h.get? 232 = some (tabObj p1)) (h2 : h.get? 74 = some (tabObj p2)) : OldK h₀ h := by
  have T1 := hT (234, 232) (.head _)
  have T2 := hT (78, 74) (.tail _ (.head _))
  refine ⟨fun b o e => ?_, fun b o e => ?_⟩
  · by_cases b1 : b = 232
    · subst b1
      have e2 : o = tabObj #[] := Option.some.inj (e.symm.trans T1.2)
      subst e2
      exact .inr (.inl ⟨(T1.1.tab T1.2).isCodeTable, rfl, #[], p1, rfl, by rw [h1, Array.empty_append]⟩)
    by_cases b2 : b = 74
    · subst b2
      have e2 : o = tabObj #[] := Option.some.inj (e.symm.trans T2.2)
      subst e2
      exact .inr (.inl ⟨(T2.1.tab T2.2).isCodeTable, rfl, #[], p2, rfl, by rw [h2, Array.empty_append]⟩)
    · exact .inl (hk b o e b1 b2)
  · by_cases b1 : b = 232
    · exact ⟨_, b1 ▸ h1⟩
    by_cases b2 : b = 74
    · exact ⟨_, b2 ▸ h2⟩
    · exact ⟨o, hk b o e b1 b2⟩
theorem tn_ne {b : Addr} (b1 : b ≠ 232) (b2 : b ≠ 74) : ∀ p ∈ tabNews [(234, 232), (78, 74)], b ≠ p.1 := fun p hp => by
  rcases List.mem_cons.mp hp with rfl | hp
  · exact b1
  · cases List.mem_singleton.mp hp; exact b2
theorem pm_lt {p : Array Nat} {n i j : Nat} (P : Pm p n n) (h : p.toList[i]? = some j) : i < n ∧ j < n := by
  rw [Array.getElem?_toList] at h
  obtain ⟨hi, e⟩ := Array.getElem?_eq_some_iff.mp h
  have hn : i < n := by rw [← P.sz]; exact hi
  have := P.bd hn
  unfold ix at this
  rw [Array.getD_eq_getD_getElem?, h] at this
  exact ⟨hn, this⟩
theorem places_ints {vs : List Value} {n : Nat} (V : Places vs n) : ∀ (l : List Nat), (∀ j ∈ l, j < n) → IntsAre (l.map fun i => vs.getD i Value.none) (l.map fun i => ((i : Nat) : Int))
  | [], _ => .nil
  | j :: r, h => by
    have hj : j < vs.length := by rw [V.1]; exact h j (.head _)
    obtain ⟨t, e⟩ := V.2 j vs[j] (List.getElem?_eq_getElem hj)
    rw [List.map_cons, List.map_cons, show vs.getD j Value.none = .int ((j : Nat) : Int) t from by rw [← e]; simp [List.getD, hj]]
    exact .cons _ t (places_ints V r fun i hi => h i (.tail _ hi))
theorem pm_ints {vs : List Value} {n : Nat} {p : Array Nat} (V : Places vs n) (P : Pm p n n) : IntsAre (p.toList.map fun i => vs.getD i Value.none) (p.toList.map fun i => ((i : Nat) : Int)) :=
  places_ints V _ fun j hj => by
    obtain ⟨i, hi, e⟩ := List.getElem_of_mem hj
    exact (pm_lt (i := i) P (by rw [List.getElem?_eq_getElem hi, e])).2
theorem pm_row {tq : List (Addr × Obj)} {ys : List Value} {zs : List Int} {p : Array Nat} {i : Nat} {v : Value} (hT : TRows tq ys zs) (P : Pm p ys.length ys.length) (hv : (p.toList.map fun i => ys.getD i Value.none)[i]? = some v) :
    ∃ j a z t1 t2 t3, p.toList[i]? = some j ∧ v = .ref a ∧ (a, rowObj z j t1 t2 t3) ∈ tq := by
  rw [List.getElem?_map] at hv
  cases hj : p.toList[i]? with
  | none => rw [hj] at hv; cases hv
  | some j =>
    rw [hj] at hv
    have hl := (pm_lt P hj).2
    obtain ⟨a, t1, t2, t3, e, hm⟩ := hT.2 j ys[j] (zs[j]'(hT.1 ▸ hl)) (List.getElem?_eq_getElem hl) (List.getElem?_eq_getElem _)
    have e2 : ys.getD j Value.none = ys[j] := by simp [List.getD, hl]
    cases hv
    exact ⟨j, a, _, t1, t2, t3, rfl, e2.trans e, hm⟩
end

section
local macro_rules | `(tactic| walk_at "exec While") => `(tactic| (k_here; refine Halt.out ?_))
local macro_rules | `(tactic| walk_at "WPost") => `(tactic| (k_here; refine Halt.out ?_))
local macro_rules | `(tactic| walk_at "TurnPost") => `(tactic| (k_here; refine Halt.out ?_))
local macro_rules | `(tactic| walk_at "NotIn") => `(tactic| (k_here; refine Halt.out ?_))
local macro_rules | `(tactic| walk_at "SPost") => `(tactic| (k_here; refine Halt.out ?_))
local macro_rules | `(tactic| walk_at "NOut") => `(tactic| (k_here; refine Halt.out ?_))
local macro_rules | `(tactic| walk_at "exec For Name Name cons nil") => `(tactic| (k_here; refine Halt.out ?_))
local macro_rules | `(tactic| walk_at "exec For Name Name") => `(tactic| (k_here; refine Halt.out ?_))
local macro_rules | `(tactic| walk_at "compareOp NotEq str str") => `(tactic| (k_here; (with_reducible show wpAny _ _ (compareOp CmpOp.NotEq (Value.str (tx _) _) (Value.str (tx _) _)) _ _ _); refine nes_false (by with_reducible rfl) ?_))
local macro_rules | `(tactic| walk_at "eval ListComp") => `(tactic| (k_here; refine Halt.out ?_))
local macro_rules | `(tactic| walk_at "call ref") => `(tactic| (k_here; (with_reducible show wpAny _ _ (call (Value.ref 79) [Value.ref _]) _ _ _); refine Halt.out ?_))
local macro_rules | `(tactic| walk_at "call builtin:sorted") => `(tactic| (k_here; refine Halt.out ?_))
local macro_rules | `(tactic| walk_at "call type:range") => `(tactic| (k_here; refine Halt.out ?_))
local macro_rules | `(tactic| walk_at "pyIter ref") => `(tactic| (k_here; (with_reducible show wpAny _ _ (pyIter (Value.ref _)) _ _ _); refine Halt.out ?_))
local macro_rules | `(tactic| walk_at "exec For Name BinOp cons nil") => `(tactic| (k_here; refine Halt.out ?_))
local macro_rules | `(tactic| walk_at "NPost") => `(tactic| (k_here; refine Halt.out ?_))
local macro_rules | `(tactic| walk_at "memtl") => `(tactic| first | (refine List.mem_append_left _ ?_; assumption) | (refine List.mem_append_right _ (List.mem_append_left _ ?_); assumption) | (refine List.Mem.tail _ ?_; walk_at "memtl"))
local macro_rules | `(tactic| walk_at "memkk") => `(tactic| first | (refine List.mem_append_right _ (List.mem_append_right _ ?_); assumption) | (refine List.Mem.tail _ ?_; walk_at "memkk"))
noncomputable def Mark5 : Prop := True
local macro_rules | `(tactic| walk_at "compareOp Eq ref ref") => `(tactic| ((with_reducible rename Mark5 => mk5); refine Halt.out ?_))
theorem lam_mem {lam : Addr} {nm ql : Str} {ps : Arguments} {bd : Expr} {sc : Scope} {cl : List (Str × Addr)} {pm ct : Value} {c' : Addr} {news : List (Addr × Obj)} (h : (lam, kla_obj nm ql ps bd sc cl pm c' ct) ∈ news) : (lam, (⟨.type "function", none, .func (kla_fn nm ql ps bd sc cl pm (.ref c') ct), #[]⟩ : Obj)) ∈ news := h
set_option maxRecDepth 100000 in
set_option maxHeartbeats 0 in
set_option pp.maxSteps 3000 in
theorem law_y : ∀ (w : World) (p₀ : Program) (loose₀ : List Str) (mean : ExcName → Option Value) (mg mb : Str → Option Value) (s : Shared) (X : (fragK.heap_1 w.params).In s.heap) (XN : KNin w s.heap) (T : Top p₀ loose₀ mean mg mb s.heap) (hT : TabsAt [(234, 232), (78, 74)] s.heap) (l : Addr) (vs : List Value) (ns : List Int) (Q E : Value → Shared → Prop)
   (hv : IntsAre vs ns) (hl : s.heap.IsList l vs.toArray) (hn : ns.length ≤ 63)
   (hret : ∀ h' tk', OldK s.heap h' → Q (.bool true) { s with heap := h', toks := tk' }),
   wpAny (model PySem.Challenge.rw_in0142_01.row.prog w) (AR 400 200) (call (.ref 235) [.ref l]) Q E s := by
  k_fill
  intro w p₀ loose₀ mean mg mb s X XN T hT l vs ns Q E hv hl hn hret
  have CA := ghost_code hT
  have T := ghost_top hT T
  have X := ghost_K hT X (fragK_tabs w.params)
  have XN : KNin w (ghostOf s.heap [(234, 232), (78, 74)]) := KNin_ghost XN
  have hl := ghost_list hT hl
  refine' enterC (B := ghostOf s.heap [(234, 232), (78, 74)]) (binds := [(Str.ofString "script", .ref l)]) (objs := tabNews [(234, 232), (78, 74)]) (fun _ _ e => of_hideAll _ e) (tabs_obj hT) X T (by decide) ?k6 ?k7 ?k9 ?kB ?kD ?_ ?c2 ?c3 ?c4
  case k6 => k_is
  case k7 => k_is
  case k9 => exact BindsTo.of_eq rfl
  case kB => exact rfl
  case kD => decide +kernel
  case c2 => exact rfl
  case c3 => exact rfl
  case c4 => exact rfl
  intro g L h1 tk cells hBg hsg F N Y
  k_cells Y
  (try simp only [tabNews, List.map_cons, List.map_nil, List.cons_append, List.nil_append] at N)
  replace X := X.keeps hBg
  replace XN := XN.keeps hBg
  replace T := T.keeps hBg
  replace hl := Heap.IsList.at hl (hBg l)
  have C1 := CA.1.keeps hBg
  have C2 := CA.2.1.keeps hBg
  clear CA
  have hcL := code_lt C1 F
  try dsimp only
  try k_fold
  k_steps
  unfold Halt
  refine For_invV g (by rfl) (by rfl) ?_ (fun _ => rfl) PassesOwn.never
  k_steps
  rename Fr _ _ _ _ => F9
  rename News _ _ _ _ => N9
  rename IntsAre _ (List.take 5 ns ++ [7, 55, 29]) => hws
  unfold Halt
  refine law_for (ms := mine ns) [Str.ofString "rest", Str.ofString "names", Str.ofString "path", Str.ofString "port", Str.ofString "mark", Str.ofString "walk", Str.ofString "name"] hws rfl F9 N9 ?turn ?done
  case turn =>
    intro i z t S R P k1 k2 k3 tl u h tk own hz o1 o2 o3 hJ F N
    clear F9 N9
    have o4 := own_app o3 o1
    simp only [List.map_cons, List.map_nil] at o4
    simp only [List.cons_append, List.nil_append] at N
    dsimp only
    repeat' (first | (k_here; (with_reducible show wpAny _ _ (call (Value.builtin "abs") [Value.int _ _]) _ _ _); (refine abs_n ?_); intro _ _) | (k_unfold; (try dsimp only)) | (k_end; wrow_close) | walk1 | (dsimp only; walk1) | (leave1; walk_say "STEP leave1"; try dsimp only) | fail "no step")
    rename Fr _ _ _ _ => F8
    rename News _ _ _ _ => N8
    unfold Halt
    refine names_while (s := ⟨_, _, _, _, _⟩) (z := z) F8 N8 (by with_unfolding_all rfl) ?names ?rest PassesOwn.never
    case names =>
      intro its k pre r tr h tk hS hpre hlen F N
      clear F8 N8
      by_cases hr : r = 0
      · have b1 : ¬ ((0 : Int) < ((r : Nat) : Int)) := by omega
        have hfin : pre = nms z := by rw [hpre, hr, nm_zero, List.append_nil]
        dsimp only
        k_steps
        exact ⟨hfin, _, _, rfl, by assumption, by assumption⟩
      · have b1 : (0 : Int) < ((r : Nat) : Int) := by omega
        have hlv : its.length = pre.length := by rw [strsAre_len hS, List.length_map]
        by_cases h4 : pre.length = 4
        · have hfin : pre = nms z := by rw [hpre, h4]; exact (List.append_nil _).symm
          dsimp only
          repeat' (first | (k_here; (with_reducible show wpAny _ _ (call (Value.builtin "len") [Value.ref _]) _ _ _); (refine' len_l ?qzN ?qzm ?qzz ?_; (case qzN => k_asm); (case qzm => k_mem); (case qzz => omega); k_whole); intro _ _) | (k_unfold; (try dsimp only)) | (k_end; wrow_close) | walk1 | (dsimp only; walk1) | (leave1; walk_say "STEP leave1"; try dsimp only) | fail "no step")
          exact ⟨hfin, _, _, rfl, by assumption, by assumption⟩
        · have hstep : nms z = (pre ++ [wd (r % 4)]) ++ nm (4 - (pre ++ [wd (r % 4)]).length) (r / 4) := by
            rw [List.length_append, List.length_singleton, List.append_assoc, hpre]
            obtain ⟨f, hf⟩ : ∃ f, 4 - pre.length = f + 1 := ⟨3 - pre.length, by omega⟩
            rw [hf, nm_succ hr, show 4 - (pre.length + 1) = f by omega]
            rfl
          dsimp only
          repeat' (first | (k_here; (with_reducible show wpAny _ _ (call (Value.builtin "len") [Value.ref _]) _ _ _); (refine' len_l ?qzN ?qzm ?qzz ?_; (case qzN => k_asm); (case qzm => k_mem); (case qzz => omega); k_whole); intro _ _) | (k_here; (with_reducible show wpAny _ _ (subscriptTail _ _ (Value.ref _) (Value.int (Int.fmod _ 4) _)) _ _ _); (with_unfolding_all refine' item_wd ?qzN ?qzm ?_; (case qzN => k_asm); (case qzm => k_mem); k_whole); intro _) | (k_unfold; (try dsimp only)) | (k_end; wrow_close) | walk1 | (dsimp only; walk1) | (leave1; walk_say "STEP leave1"; try dsimp only) | fail "no step")
          unfold Halt
          dsimp only [NPost]
          exact names_end hS hstep hlen h4 (by assumption) (by assumption) (by k_mem) (fun q hq => .tail _ (.tail _ hq))
    case rest =>
      intro its k r0 tr h tk hS F N
      clear F8 N8
      obtain ⟨f1, f2, f3, f4⟩ := path_join z
      have hP9 : (47 :: jn 47 (nms z) : List Nat).length ≤ 1000 := by have := nms_jn z; simp only [List.length_cons]; omega
      obtain ⟨ys, q1, q2, q3⟩ := quotes (47 :: jn 47 (nms z)) hP9
      obtain ⟨f5, f6, f7, f8⟩ := msg257 (47 :: jn 47 (nms z)) hP9
      obtain ⟨g1, g2, g3⟩ := mark_at z
      have g4 := pt_lt z
      obtain ⟨m1, m2, m3, m4, m5, m6, m7, m8⟩ := msg229 (mk z) (pt z) g4
      have PT := nms_pth z
      dsimp only
      repeat' (first | (k_here; (with_reducible show wpAny _ _ (call (Value.builtin "abs") [Value.int _ _]) _ _ _); (refine abs_n ?_); intro _ _) | (k_here; (with_reducible refine' parse257_ (hR := ?qzR) (hl := ?qzl) ..); (with_unfolding_all (walk_at "cF"; (case qzR => exact rfl); (case qzl => assumption); walk_at "c1"))) | (k_here; (with_reducible show wpAny _ _ (call (Value.ref 65) [Value.str _ _, Value.ref _]) _ _ _); (with_unfolding_all refine' parse229_ ?qzm ?qzn ?_ ?_ ?_ ?_ ?_ ?_ ?_ ?_ ?qzp ?_; walk_at "cF"; (case qzm => exact mk_or _); (case qzn => exact pt_lt _); (case qzp => k_mem); k_whole; intro a' t1' t2' h' tk' F' N' hne'; (replace hne' := allNe_of hne'; simp only [AllNe, and_true] at hne'); (try dsimp only); (try k_fold))) | (k_here; (with_reducible show wpAny _ _ (binaryOp Operator.Mod (Value.int _ _) (Value.int 65536 _)) _ _ _); (refine mod_port rfl ?_); intro _ _) | (k_here; (with_reducible show wpAny _ _ (binaryOp Operator.Mult (Value.str (tx _) _) (Value.int 3 _)) _ _ _); (refine mul3 rfl ?_); intro _ _) | (k_here; (with_reducible show wpAny _ _ (call (Value.type "str") [Value.int _ _]) _ _ _); (refine str_n (by assumption) ?_); intro _ _) | (k_here; (with_reducible show wpAny _ _ (subscriptTail _ _ (Value.str (Str.ofString _) _) (Value.int _ _)) _ _ _); (with_unfolding_all refine' item_cs (l := [124, 33]) ?qzx ?qza ?qzb ?qze ?_; (case qzx => decide +kernel); (case qza => assumption); (case qzb => assumption); (case qze => assumption); k_whole); intro _ _) | (k_here; (with_reducible show wpAny _ _ (call (Value.builtin "str.split") [Value.str _ _, Value.str _ _]) _ _ _); (refine splits (by k_asm) (by k_asm) (by first | assumption | decide +kernel) (by assumption) (by assumption) ?_); intro a' vs' h' tk' hS' F' N' hlt'; (k_lt hlt')) | (k_here; (with_reducible show wpAny _ _ (call (Value.builtin "str.split") [Value.str _ _, Value.str _ _]) _ _ _); (refine splits (by k_asm) (by k_asm) (by first | assumption | decide +kernel) (by assumption) (by assumption) ?_); intro a' vs' h' tk' hS' F' N' hlt') | ((with_reducible show wpAny _ _ (call (Value.builtin "str.join") _ _) _ _ _); (k_here; (refine' joins ?qzN ?qzm ?qzi ?qze ?qzo ?_; (case qzN => k_asm); (case qzm => k_mem); (case qzi => assumption); (case qze => assumption); (case qzo => assumption); k_whole); intro _ _)) | (k_unfold; (try dsimp only)) | (k_end; wrow_close) | walk1 | (dsimp only; walk1) | (leave1; walk_say "STEP leave1"; try dsimp only) | fail "no step")
      rename Fr _ _ _ _ => F8
      rename News _ _ _ _ => N8
      unfold Halt
      refine For_invV g (by rfl) (by rfl) ?_ (fun _ => rfl) PassesOwn.never
      k_steps
      unfold Halt
      refine for_walk (st := Str.ofString "walk") rfl (by decide +kernel) hS F8 N8 (by k_mem) (by assumption) (by with_unfolding_all rfl) ?turn2 ?done2
      case turn2 =>
        intro i2 q tq Z its2 kZ h tk own2 hq hlt hS2 F N
        clear F8 N8
        obtain ⟨b1, b2, b3, b4⟩ := nms_mem (List.mem_of_getElem? hq)
        have hz9 : (tx q).length ≤ 1000000 := by rw [tx_len]; omega
        have hits : its2.length ≤ 1000000 := by
          rw [strsAre_len hS2, List.length_map]
          exact Nat.le_trans (np_len_take z i2) (by decide)
        simp only [List.cons_append] at N
        by_cases c3 : q = [46, 46]
        · have c4 : tx q = Str.ofString ".." := by rw [lit_dotdot, c3]
          have hS3 := strsAre_dropLast hS2
          dsimp only
          repeat' (first | (k_here; (with_reducible show wpAny _ _ (subscriptTail _ (PySem.Expr.Slice _ _ none _) (Value.ref _) (Value.ref _)) _ _ _); (refine' sl_l ?qzF ?qzN ?qzl ?qzp ?qzq ?qze ?qzz ?_ ?qzs ?qzt; (case qzF => k_asm); (case qzN => k_asm); (case qzl => k_mem); (case qzp => kmk_part); (case qzq => kmk_part); (case qze => first | exact pick_from0 | exact pick_last | exact pick_from (by omega) | exact pick_upto (by omega)); (case qzz => first | assumption | exact Nat.le_of_ble_eq_true rfl | exact small (by assumption) (by assumption)); (case qzs => with_unfolding_all rfl); (case qzt => kmk_pure); k_whole); (intro qzD qzh qzF qzN qzl; (try k_lt qzl); (try dsimp only [List.nil_append, List.cons_append] at qzN); (try k_sweep))) | (k_unfold; (try dsimp only)) | (k_end; wrow_close) | walk1 | (dsimp only; walk1) | (leave1; walk_say "STEP leave1"; try dsimp only) | fail "no step")
          unfold Halt
          dsimp only [WPost]
          rename (_ ∧ _) => l9
          rw [c3, step_dots]
          exact walk_end (by rw [← List.map_dropLast] at hS3; exact hS3) (by assumption) (by assumption) (.head _) (fun p hp => .tail _ (.tail _ hp)) l9.2 (if_pos rfl) (fun y h1 h2 => by simp only [if_neg h1, if_neg h2])
        · have c4 : tx q ≠ Str.ofString ".." := by rw [lit_dotdot]; exact fun e => c3 (tx_inj e)
          dsimp only
          repeat' (first | (k_here; (with_reducible show wpAny _ _ (binaryOp _ (Value.ref _) (Value.ref _)) _ _ _); (refine' add_l ?qzF ?qzN ?qza ?qzb ?qzz ?qzy ?_; (case qzF => k_asm); (case qzN => k_asm); (case qza => k_mem); (case qzb => k_mem); (case qzz => first | assumption | exact Nat.le_of_ble_eq_true rfl | exact small (by assumption) (by assumption)); (case qzy => first | assumption | exact Nat.le_of_ble_eq_true rfl | exact small (by assumption) (by assumption)); k_whole); (intro qzD qzh qzF qzN qzl; (try k_lt qzl); (try dsimp only [List.nil_append, List.cons_append] at qzN); (try k_sweep))) | (k_unfold; (try dsimp only)) | (k_end; wrow_close) | walk1 | (dsimp only; walk1) | (leave1; walk_say "STEP leave1"; try dsimp only) | fail "no step")
          unfold Halt
          dsimp only [WPost]
          rename (_ ∧ _) => l9
          rw [step_name b1 b2 c3]
          have hS3 : StrsAre (its2 ++ [.str (tx q) tq]) ((np ((nms z).take i2) ++ [q]).map tx) := by rw [List.map_append]; exact strsAre_push hS2
          exact walk_end hS3 (by assumption) (by assumption) (.head _) (fun p hp => .tail _ (.tail _ (.tail _ hp))) l9.2.2 (if_pos rfl) (fun y h1 h2 => by simp only [if_neg h1, if_neg h2])
      case done2 =>
        intro Z its2 kZ u2 h tk hlt hS2 F N
        clear F8 N8
        have hS2 : StrsAre its2 ((wk' z).map tx) := hS2
        replace F : Fr g L _ _ := F
        replace N : News g L _ _ := N
        obtain ⟨w1, w2, w3, w4⟩ := walk_join z
        obtain ⟨y1, y2, y3⟩ := hJ.szs (mine_len ns).1
        simp only [AllLt, and_true] at hlt
        dsimp only
        repeat' (first | (k_here; (with_reducible refine' normp_ (P := ?qzP) ..); (with_unfolding_all (walk_at "cF"; (case qzP => assumption); walk_at "c1"))) | (k_here; (with_reducible show wpAny _ _ (call (Value.builtin _) [Value.ref _, _]) _ _ _); k_dflt (refine' append_K ?qzk1 ?qzk2 ?qzk3 ?_ ?qzz; (case qzk1 => k_asm); (case qzk2 => k_asm); (case qzk3 => k_upd); (case qzz => exact app_sz (by assumption)); k_whole); intro h' F' N'; (try k_sweep)) | ((with_reducible show wpAny _ _ (call (Value.builtin "str.join") _ _) _ _ _); (k_here; (refine' joins ?qzN ?qzm ?qzi ?qze ?qzo ?_; (case qzN => k_asm); (case qzm => k_mem); (case qzi => assumption); (case qze => assumption); (case qzo => assumption); k_whole); intro _ _)) | (k_unfold; (try dsimp only)) | (k_end; wrow_close) | walk1 | (dsimp only; walk1) | (leave1; walk_say "STEP leave1"; try dsimp only) | fail "no step")
        unfold Halt
        dsimp only [TurnPost]
        rename Fr _ _ _ _ => F7
        rename News _ _ _ _ => N7
        simp only [List.push_toArray] at N7
        refine law_end (o1 := W.listOf #[] 0) (o2 := W.listOf #[] 0) (o3 := W.listOf #[] 0) (o4 := W.listOf #[] 0) hJ hz hS2 F7 N7 (by k_mem) (by k_mem) (by k_mem) (.head _) (by k_mem) (fun p hp => .tail _ (.tail _ (.tail _ (.tail _ (.tail _ (.tail _ (.tail _ (.tail _ (.tail _ (.tail _ hp)))))))))) hlt.2.2.2.2.2 ?_
        intro y h1 h2
        simp only [List.contains_cons, List.contains_nil, Bool.or_false, Bool.or_eq_false_iff, beq_eq_false_iff_ne, ne_eq] at h2
        obtain ⟨p1, p2, p3, p4, p5, p6, p7⟩ := h2
        simp [h1, p1, p2, p3, p4, p5, p6, p7]
  case done =>
    intro S R P k1 k2 k3 tl u h tk o3 hJ F N
    clear F9 N9
    simp only [List.map_cons, List.map_nil] at o3
    simp only [List.cons_append, List.nil_append] at N
    replace F : Fr g L _ _ := F
    replace N : News g L _ _ := N
    obtain ⟨y1, y2, y3⟩ := hJ.szs (mine_len ns).1
    have hJs := hJ.s
    have hJr := hJ.r
    have hJp := hJ.p
    rw [List.take_length] at hJs hJr hJp
    clear hJ
    have hms := mine_len ns
    dsimp only
    k_steps
    rename Fr _ _ _ _ => F8
    rename News _ _ _ _ => N8
    unfold Halt
    refine LCg.ListComp_U (F₀ := F8) (by with_unfolding_all rfl) (by decide) (by rfl) (by decide) (by rfl) ?_
    k_steps
    refine LCg.CompSrc.ledger rfl F8 N8 (.tail _ (.head _)) (app_sz y2) fun gp => ?_
    refine rest_inv (fun i ys nw => nw = _ ∧ IntsAre ys (((mine ns).take i).map fun z => (((wk' z).length : Nat) : Int))) ?fin ?turn1 _ 0 [] _ (Nat.zero_add _) ⟨rfl, IntsAre.nil⟩
    case turn1 =>
      rintro i v ys nw I oI C oC D m₂ h tk E' hi ⟨rfl, hys⟩ hP ho hm F N off hne
      obtain ⟨ri, z, vi, ki, hri, rfl, hz, hmi, hvi, hvl⟩ := rows_at hJr (i := i) (v := v) (by simpa using hP)
      have hz16 := wk_len z
      have N2 : News g L h ((ri, W.listOf vi.toArray ki) :: _) := news_front N hmi (fun p hp => .tail _ (.tail _ (.tail _ (.tail _ (.tail _ (.tail _ (.tail _ (.tail _ (.tail _ (.tail _ (.tail _ (.tail _ (hp)))))))))))))
      repeat' (first | (k_here; (with_reducible show wpAny _ _ (call (Value.builtin "len") [Value.ref _]) _ _ _); (refine' len_l ?qzN ?qzm ?qzz ?_; (case qzN => k_asm); (case qzm => k_mem); (case qzz => omega); k_whole); intro _ _) | (k_unfold; (try dsimp only)) | (k_end; wrow_close) | walk1 | (dsimp only; walk1) | (leave1; walk_say "STEP leave1"; try dsimp only) | fail "no step")
      refine end_same _ (by assumption) N off (.inr ⟨_, .tail _ (.head _), rfl, _, rfl⟩) ⟨rfl, ?_⟩
      rw [take_snoc _ hz, ← hvl]
      exact intsAre_push hys
    case fin =>
      rintro ys nw ⟨rfl, hys⟩ D9 h9 tk9 F9 N9 off9
      clear F8 N8
      rw [List.size_toArray, List.length_map, hJr.1, List.length_map, List.take_length] at hys
      dsimp only
      k_steps
      rename Fr _ _ _ _ => F8
      rename News _ _ _ _ => N8
      rename (_ ∈ List.map _ (mine ns)) => hMin
      rename (∀ a, a ∈ List.map _ (mine ns) → _) => hMle
      unfold Halt
      refine while_not F8 N8 ?loop ?rest PassesOwn.never
      case loop =>
        obtain ⟨zM, hzM, hM⟩ := List.mem_map.mp hMin
        by_cases hM0 : (wk' zM).length = 0
        · k_steps
          unfold Halt
          dsimp only [NotIn]
          exact ⟨rfl, _, _, rfl, by assumption, by assumption⟩
        · have hpos : ∀ z ∈ mine ns, 0 < (wk' z).length := fun z hz => by
            have := hMle _ (List.mem_map_of_mem (f := fun z => (((wk' z).length : Nat) : Int)) hz)
            omega
          obtain ⟨z0, hz0⟩ : ∃ z0, (mine ns)[0]? = some z0 := ⟨_, List.getElem?_eq_getElem (by omega)⟩
          k_steps
          rename Fr _ _ _ _ => F7
          rename News _ _ _ _ => N7
          unfold Halt
          refine LCt.ListComp_T (F₀ := F7) (by with_unfolding_all rfl) (by decide) (by rfl) (by decide) (by rfl) ?_
          k_steps
          refine LCt.CompSrcT.ledger rfl F7 N7 (.tail _ (.tail _ (.head _))) (app_sz y2) fun gp => ?_
          refine restT_inv (fun i ys nw => nw = _ ∧ (ys = [] → ∀ z ∈ (mine ns).take i, hd1 z = hd1 z0)) ?fin2 ?turn2 _ 0 [] _ (Nat.zero_add _) ⟨rfl, fun _ z hz => by simp at hz⟩
          case turn2 =>
            rintro i v ys nw I oI C oC D m₂ h tk E' hi ⟨rfl, hys⟩ hP ho hm F N off hne
            obtain ⟨ri, z, vi, ki, hri, rfl, hz, hmi, hvi, hvl⟩ := rows_at hJr (i := i) (v := v) (by simpa using hP)
            obtain ⟨r0, z0', v0, k0, hr0, hv0e, hz0', hm0, hv0, hvl0⟩ := rows_at hJr (i := 0) (v := .ref (R[0]'(by have := hJr.1; simp only [List.length_map] at this; omega))) (by simp)
            have e0 : z0' = z0 := by rw [hz0] at hz0'; exact (Option.some.inj hz0').symm
            subst e0
            have hR0 : (R.map Value.ref)[(0 : Int).toNat]? = some (.ref r0) := by
              show (R.map Value.ref)[0]? = _
              rw [List.getElem?_map, hr0]; rfl
            obtain ⟨th, hh1⟩ := head_at hvi (hpos z (List.mem_of_getElem? hz))
            obtain ⟨th0, hh0⟩ := head_at hv0 (hpos z0' (List.mem_of_getElem? hz0))
            have N1 := news_front N hm0 (fun p hp => .tail _ (.tail _ (.tail _ (.tail _ (.tail _ (.tail _ (.tail _ (.tail _ (.tail _ (.tail _ (.tail _ (.tail _ (.tail _ (hp))))))))))))))
            have N2 := news_front N1 hmi (fun p hp => .tail _ (.tail _ (.tail _ (.tail _ (.tail _ (.tail _ (.tail _ (.tail _ (.tail _ (.tail _ (.tail _ (.tail _ (.tail _ (.tail _ (hp)))))))))))))))
            clear N1
            have hsn : (mine ns).take (i + 1) = (mine ns).take i ++ [z] := by rw [List.take_add_one, hz]; rfl
            by_cases hc : hd1 z = hd1 z0'
            · have hct : tx (hd1 z) = tx (hd1 z0') := by rw [hc]
              repeat' (first | (k_here; (with_reducible show wpAny _ _ (subscriptTail _ _ (Value.ref _) (Value.int _ _)) _ _ _); (with_unfolding_all refine' item_at ?qzN ?qzm ?qza ?qzb ?qze ?_; (case qzN => k_asm); (case qzm => k_mem); (case qza => omega); (case qzb => omega); (case qze => assumption); k_whole)) | (k_unfold; (try dsimp only)) | (k_end; wrow_close) | walk1 | (dsimp only; walk1) | (leave1; walk_say "STEP leave1"; try dsimp only) | fail "no step")
              refine end_same _ (by assumption) N off (.inr ⟨_, .tail _ (.tail _ (.head _)), rfl, _, rfl⟩) ⟨rfl, fun hy z' hz' => ?_⟩
              rw [hsn] at hz'
              rcases List.mem_append.mp hz' with hz' | hz'
              · exact hys hy z' hz'
              · rw [List.mem_singleton.mp hz']; exact hc
            · have hct : tx (hd1 z) ≠ tx (hd1 z0') := fun e => hc (tx_inj e)
              repeat' (first | (k_here; (with_reducible show wpAny _ _ (subscriptTail _ _ (Value.ref _) (Value.int _ _)) _ _ _); (with_unfolding_all refine' item_at ?qzN ?qzm ?qza ?qzb ?qze ?_; (case qzN => k_asm); (case qzm => k_mem); (case qza => omega); (case qzb => omega); (case qze => assumption); k_whole)) | (k_unfold; (try dsimp only)) | (k_end; wrow_close) | walk1 | (dsimp only; walk1) | (leave1; walk_say "STEP leave1"; try dsimp only) | fail "no step")
              exact end_same _ (by assumption) N off (.inr ⟨_, .tail _ (.tail _ (.head _)), rfl, _, rfl⟩) ⟨rfl, fun hy => by simp at hy⟩
          case fin2 =>
            rintro ys nw ⟨rfl, hys⟩ D8 h8 tk8 F9 N9 off9
            rw [List.size_toArray, List.length_map, hJr.1, List.length_map, List.take_length] at hys
            have hyl : ys.length ≠ 0 := fun e => by
              obtain ⟨z, hz, hd⟩ := differ ns (hd1 z0)
              exact hd (hys (List.length_eq_zero_iff.mp e) z hz)
            dsimp only
            repeat' (first | (k_here; (with_reducible show wpAny _ _ (compareOp CmpOp.Eq (Value.ref _) (Value.ref _)) _ _ _); (with_unfolding_all refine' eq_len ?qzN ?qza ?qzb ?qze ?qzu ?_; (case qzN => k_asm); (case qza => k_mem); (case qzb => k_mem); (case qze => assumption); (case qzu => exact Nat.le_of_ble_eq_true rfl); k_whole)) | (k_unfold; (try dsimp only)) | (k_end; wrow_close) | walk1 | (dsimp only; walk1) | (leave1; walk_say "STEP leave1"; try dsimp only) | fail "no step")
            unfold Halt
            dsimp only [NotIn]
            rename News _ _ _ _ => N6
            exact ⟨rfl, _, _, rfl, by assumption, fun p hp => N6 p (.tail _ (.tail _ hp))⟩
      case rest =>
        intro h tk F N
        clear F8 N8
        obtain ⟨r0, z0, v0, k0, hr0, hv0e, hz0, hm0, hv0, hvl0⟩ := rows_at hJr (i := 0) (v := .ref (R[0]'(by have := hJr.1; simp only [List.length_map] at this; omega))) (by simp)
        have hR0 : (R.map Value.ref)[(0 : Int).toNat]? = some (.ref r0) := by
          show (R.map Value.ref)[0]? = _
          rw [List.getElem?_map, hr0]; rfl
        have hz16 := wk_len z0
        have hv0s : v0.length ≤ 1000000 := by omega
        have hT : StrsAre (v0.take (0 : Int).toNat) [] := by show StrsAre (v0.take 0) []; rw [List.take_zero]; exact .nil
        obtain ⟨j1, j2, j3, j4⟩ := due_facts
        have a1 := all_ok ns
        have a1r : ∀ w ∈ ((mine ns).map wk').reverse, Ok w := fun w hw => a1 w (List.mem_reverse.mp hw)
        have a2 := all_ne ns
        have a2r : ((mine ns).map wk').reverse ≠ [] := fun e => a2 (List.reverse_eq_nil_iff.mp e)
        have a3 := all_paths hJs
        have a3r := all_paths_rev hJs
        have a4 := due_rd ns
        have a4r := due_rd_rev ns
        have a5 := due_cp ns
        have a6 : ((mine ns).map wk').length ≤ 1000 := by rw [List.length_map]; omega
        replace N := news_front N hm0 (fun p hp => .tail _ (.tail _ (.tail _ (.tail _ (.tail _ (.tail _ (.tail _ (.tail _ (.tail _ (.tail _ (hp)))))))))))
        dsimp only
        repeat' (first | (k_here; (with_reducible show wpAny _ _ (subscriptTail _ _ (Value.ref _) (Value.int _ _)) _ _ _); (with_unfolding_all refine' item_at ?qzN ?qzm ?qza ?qzb ?qze ?_; (case qzN => k_asm); (case qzm => k_mem); (case qza => omega); (case qzb => omega); (case qze => assumption); k_whole)) | (k_here; (with_reducible show wpAny _ _ (call (Value.ref 223) [Value.ref _]) _ _ _); (with_unfolding_all refine' commonpath_ ?qzv ?qzn ?qznn ?qzok ?_ ?_ ?_ ?_ ?_ ?_ ?_ ?_ ?qzl ?_; walk_at "cF"; (case qzl => k_mem); (case qzv => assumption); (case qzn => assumption); (case qznn => assumption); (case qzok => assumption); walk_at "c1")) | (k_here; (with_reducible show wpAny _ _ (call (Value.ref 88) [Value.ref 230, Value.ref _]) _ _ _); (with_unfolding_all refine' reduce_ ?qzv ?qzn ?qzok ?_ ?_ ?_ ?_ ?_ ?_ ?_ ?_ ?qzl ?_; walk_at "cF"; (case qzl => k_mem); (case qzv => assumption); (case qzn => assumption); (case qzok => assumption); walk_at "c1")) | (k_here; (with_reducible show wpAny _ _ (subscriptTail _ (PySem.Expr.Slice none none (some _) _) (Value.ref _) (Value.ref _)) _ _ _); k_dflt (refine' rev_l ?qzF ?qzN ?qzl ?qzk ?qzz ?_ ?qzs ?qzt; (case qzF => k_asm); (case qzN => k_asm); (case qzl => k_mem); (case qzk => exact IsPart.int _ _); (case qzz => assumption); (case qzs => with_unfolding_all rfl); (case qzt => kmk_pure)); (intro qzD qzh qzF qzN qzl; (try k_lt qzl); (try dsimp only [List.nil_append, List.cons_append] at qzN); (try k_sweep))) | ((with_reducible show wpAny _ _ (call (Value.builtin "str.join") _ _) _ _ _); (k_here; k_dflt (refine' joins0 ?qzN ?qzm ?_; (case qzN => k_asm); (case qzm => k_mem); k_whole); intro _ _)) | (k_here; (with_reducible show wpAny _ _ (subscriptTail _ (PySem.Expr.Slice _ _ none _) (Value.ref _) (Value.ref _)) _ _ _); (refine' sl_l ?qzF ?qzN ?qzl ?qzp ?qzq ?qze ?qzz ?_ ?qzs ?qzt; (case qzF => k_asm); (case qzN => k_asm); (case qzl => k_mem); (case qzp => kmk_part); (case qzq => kmk_part); (case qze => first | exact pick_from0 | exact pick_last | exact pick_from (by omega) | exact pick_upto (by omega)); (case qzz => first | assumption | exact Nat.le_of_ble_eq_true rfl | exact small (by assumption) (by assumption)); (case qzs => with_unfolding_all rfl); (case qzt => kmk_pure); k_whole); (intro qzD qzh qzF qzN qzl; (try k_lt qzl); (try dsimp only [List.nil_append, List.cons_append] at qzN); (try k_sweep))) | (k_unfold; (try dsimp only)) | (k_end; wrow_close) | walk1 | (dsimp only; walk1) | (leave1; walk_say "STEP leave1"; try dsimp only) | fail "no step")
        rename Fr _ _ _ _ => F8
        rename News _ _ _ _ => N8
        replace N8 := news_sub N8 (fun p hp => .tail _ (.tail _ (.tail _ (.tail _ (hp)))))
        unfold Halt
        refine For_invV g (by rfl) (by rfl) ?_ (fun _ => rfl) PassesOwn.never
        k_steps
        unfold Halt
        refine for_still rfl F8 N8 (by k_mem) ?turn3 ?done3
        case turn3 =>
          intro i v h tk own hv F N
          obtain ⟨z, tz, hz, rfl⟩ := path_at hJs hv
          have P1 := wk_pth z
          have P2 := rel_pth z
          have p1 := P2.hd
          have p2 := P2.len
          clear F8 N8
          simp only [List.cons_append] at N
          replace F : Fr g L _ _ := F
          replace N : News g L _ _ := N
          dsimp only
          repeat' (first | (k_here; (with_reducible refine' normp_ (P := ?qzP) ..); (with_unfolding_all (walk_at "cF"; (case qzP => assumption); walk_at "c1"))) | (k_here; (with_reducible refine' join_ ..); (with_unfolding_all (walk_at "cF"; assumption; assumption; walk_at "c1"))) | (k_here; (with_reducible refine' relpath_ (P := ?qzP) ..); (with_unfolding_all (walk_at "cF"; (case qzP => assumption); walk_at "c1"))) | (k_unfold; (try dsimp only)) | (k_end; wrow_close) | walk1 | (dsimp only; walk1) | (leave1; walk_say "STEP leave1"; try dsimp only) | fail "no step")
          unfold Halt
          dsimp only [SPost]
          exact ⟨_, _, _, _, rfl, by assumption, by assumption, fun p hp => hp, fun y hy => if_neg hy⟩
        case done3 =>
          intro u3 h tk F N
          clear F8 N8
          replace F : Fr g L _ _ := F
          replace N : News g L _ _ := N
          dsimp only
          repeat' (first | (k_here; (with_reducible show wpAny _ _ (call (Value.builtin "len") [Value.ref _]) _ _ _); (refine' len_l ?qzN ?qzm ?qzz ?_; (case qzN => k_asm); (case qzm => k_mem); (case qzz => omega); k_whole); intro _ _) | ((with_reducible show wpAny _ _ (eval (PySem.Expr.Lambda ..) _) _ _ _); (k_here; k_dflt (refine' kla_eval ?qzd0 ?_; (case qzd0 => exact rfl)); k_dflt (refine' kla_nest ?qzF ?qzN ?qzT ?qzC ?qzcd ?qzU ?qzt ?qzn ?qzcl ?_; (case qzF => k_asm); (case qzN => k_asm); (case qzT => k_asm); (case qzcd => exact rfl); (case qzC => assumption); (case qzU => k_updF); (case qzt => kn_triples); (case qzn => kn_among); (case qzcl => exact rfl); k_whole); intro f' c' oc' vs' t' ct' h' tk' F' N' d1' d2' l1 l2; (try dsimp only at N'); (try k_lt l1); (try k_lt2 l2))) | (k_unfold; (try dsimp only)) | (k_end; wrow_close) | walk1 | (dsimp only; walk1) | (leave1; walk_say "STEP leave1"; try dsimp only) | fail "no step")
          unfold Halt
          rename Fr _ _ _ _ => F8
          rename News _ _ _ _ => N8
          refine' cmp_to_key_ F8 N8 ?U X XN T C2 ?a ?b ?c ?_
          case U => k_updF
          case a => exact rfl
          case b => exact Nat.le_of_ble_eq_true rfl
          case c => exact Nat.le_of_ble_eq_true rfl
          clear F8 N8
          intro C' kobs' ps' h' tk' hK' F' N' hlt'
          simp only [List.cons_append] at N'
          generalize hoL : kla_obj _ _ _ _ _ _ _ _ _ = oL at N'
          k_steps
          rename Fr _ _ _ _ => F8
          rename News _ _ _ _ => N8
          unfold Halt
          refine LCg.ListComp_U (F₀ := F8) (by with_unfolding_all rfl) (by decide) (by rfl) (by decide) (by rfl) ?_
          k_steps
          unfold Halt
          refine range1_rows F8 N8 ?_
          clear F8 N8
          intro h' tk' t1' u1' v1' hR' F' N' hk'
          have hRl : (R.map Value.ref).length = (mine ns).length := by rw [List.length_map, hJr.1, List.length_map]
          refine LCg.CompSrc.range rfl F' N' hR' (range_small (by omega)) (n := (R.map Value.ref).length) (by rw [rangeSize_nat]; omega) (sz (by omega)) fun gp => ?_
          refine rest_inv (fun i ys nw => ∃ tq, nw = _ :: _ :: _ :: _ :: _ :: _ :: _ :: _ :: _ :: _ :: _ :: (tq ++ _) ∧ TRows tq ys ((mine ns).take i)) ?fin4 ?turn4 _ 0 [] _ (Nat.zero_add _) ⟨[], rfl, by rw [List.take_zero]; exact TRows.nil _⟩
          case turn4 =>
            rintro i v ys nw I oI C oC D m₂ h tk E' hi ⟨tq, rfl, hT⟩ ⟨tv, rfl⟩ ho hm F N off hne
            clear F' N' hR'
            have hi2 : i < R.length := by rw [List.length_map] at hi; exact hi
            obtain ⟨ri, z, vi, ki, hri, _, hz, hmi, hvi, hvl⟩ := rows_at hJr (i := i) (v := .ref R[i]) (by simp [hi2])
            have hRi : (R.map Value.ref)[(0 + (i : Int)).toNat]? = some (.ref ri) := by
              rw [show (0 + (i : Int)).toNat = i by omega, List.getElem?_map, hri]; rfl
            obtain ⟨tp, hp0⟩ := port_at hJp hz
            have hPi : P[(0 + (i : Int)).toNat]? = some (.int ((pt z : Nat) : Int) tp) := by
              rw [show (0 + (i : Int)).toNat = i by omega]; exact hp0
            have hz17 := wk_len z
            replace N := news_front N hmi (fun p hp => .tail _ (.tail _ (.tail _ (.tail _ (.tail _ (.tail _ (.tail _ (.tail _ (.tail _ (.tail _ (.tail _ (.tail _ (.tail _ (.tail _ (List.mem_append_right _ (List.mem_append_left _ hp))))))))))))))))
            repeat' (first | (k_here; (with_reducible show wpAny _ _ (call (Value.builtin "len") [Value.ref _]) _ _ _); (refine' len_l ?qzN ?qzm ?qzz ?_; (case qzN => k_asm); (case qzm => k_mem); (case qzz => omega); k_whole); intro _ _) | (k_here; (with_reducible show wpAny _ _ (subscriptTail _ _ (Value.ref _) (Value.int _ _)) _ _ _); (with_unfolding_all refine' item_at ?qzN ?qzm ?qza ?qzb ?qze ?_; (case qzN => k_asm); (case qzm => k_mem); (case qza => omega); (case qzb => omega); (case qze => assumption); k_whole)) | (k_unfold; (try dsimp only)) | (k_end; wrow_close) | walk1 | (dsimp only; walk1) | (leave1; walk_say "STEP leave1"; try dsimp only) | fail "no step")
            rename News _ _ _ _ => N9
            rename (_ ∧ _) => l9
            rw [hvl, show (0 + (i : Int)) = ((i : Nat) : Int) by omega] at N9
            have N10 : News g L _ ((_, rowObj z i _ _ _) :: (I, oI) :: (C, oC) :: (D, _) :: ([_, _, _, _, _, _, _, _, _, _, _] ++ (tq ++ _))) := news_sub N9 (fun p hp => by
              rcases List.mem_cons.mp hp with rfl | hp
              · exact .head _
              · exact .tail _ (.tail _ hp))
            refine end_new [_, _, _, _, _, _, _, _, _, _, _] (tq ++ _) (by assumption) N10 (kst_ltOf (show AllLt _ _ from l9.2)) off trivial ⟨_ :: tq, rfl, ?_⟩
            rw [show (mine ns).take (i + 1) = (mine ns).take i ++ [z] from by rw [List.take_add_one, hz]; rfl]
            exact TRows.snoc hT (by rw [List.length_take]; have := (List.getElem?_eq_some_iff.mp hz).1; omega)
          case fin4 =>
            rintro ys nw ⟨tq, rfl, hT⟩ D4 h4 tk4 F4 N4 off4
            clear F' N' hR'
            rw [hRl, List.take_length] at hT
            have hyl := hT.1
            dsimp only
            k_steps
            rename Fr _ _ _ _ => F5
            rename News _ _ _ _ => N5
            unfold Halt
            refine sorted_rows F5 N5 (.head _) hT (fun p hp => .tail _ (.tail _ (.tail _ (.tail _ (.tail _ (.tail _ (.tail _ (.tail _ (.tail _ (.tail _ (.tail _ (.tail _ (List.mem_append_left _ hp))))))))))))) (by omega) (by omega) ?_
            intro D5 p5 c5 h5 tk5 P5 U5 F6 N6 hlt5
            clear F5 N5
            k_steps
            unfold Halt
            rename Fr _ _ _ _ => F8
            rename News _ _ _ _ => N8
            refine range1_rows F8 N8 ?_
            clear F8 N8
            intro h6 tk6 t6 u6 v6 hR6 F7 N7 hk6
            k_steps
            unfold Halt
            rename Fr _ _ _ _ => F8
            rename News _ _ _ _ => N8
            subst hoL
            have hsz : (mine ns).length < 64 := by omega
            refine sorted_keys (zs := mine ns) (n := (mine ns).length) F8 N8 rfl (Nat.le_of_ble_eq_true rfl) (Nat.le_of_ble_eq_true rfl) hR6 (range_small (by omega)) (by rw [rangeSize_nat]; omega) (by omega) hsz T.nolimit (by assumption) hK' (fun p hp => by walk_at "memkk") (lam_mem (by k_mem)) (keyZ (mine ns)) (keyZ_lt _) (fun h' F' N' i j hi hj ti tj => ?lamb) ?_
            case lamb =>
              refine' lam_at X T C2 F' N' hJr hJp (fun p hp => by walk_at "memtl") ?mlam ?mc ?d1 ?d2 ?mW ?mP ?mcw ?mcp ?dw ?dp hi hj hsz
              case mlam => k_mem
              case mc => k_mem
              case d1 => assumption
              case d2 => assumption
              case mcw => k_mem
              case dw => assumption
              case mcp => k_mem
              case dp => assumption
              case mW => k_mem
              case mP => k_mem
            intro D6 p6 c6 vs6 h6 tk6 V6 P6 U6 F9 N9 hlt6
            clear F8 N8 hlt5 hlt6
            generalize hoL : kla_obj _ _ _ _ _ _ _ _ _ = oL at N9
            k_steps
            unfold Halt
            rename Fr _ _ _ _ => F8
            rename News _ _ _ _ => N8
            refine LCg.ListComp_U (F₀ := F8) (by with_unfolding_all rfl) (by decide) (by rfl) (by decide) (by rfl) ?_
            k_steps
            refine LCg.CompSrc.ledger rfl F8 N8 (.tail _ (.head _)) (sz (by simp only [List.size_toArray, List.length_map, Array.length_toList, P5.sz]; omega)) fun gp => ?_
            refine rest_inv (fun i us nw => nw = _ ∧ IntsAre us ((p5.toList.take i).map fun j => ((j : Nat) : Int))) ?fin5 ?turn5 _ 0 [] _ (Nat.zero_add _) ⟨rfl, IntsAre.nil⟩
            case turn5 =>
              rintro i v us nw I oI C oC D m₂ h tk E' hi ⟨rfl, hus⟩ hP ho hm F N off hne
              clear F8 N8
              obtain ⟨j, a, z, t1, t2, t3, hj, rfl, ha⟩ := pm_row hT P5 (i := i) (v := v) (by simpa using hP)
              have N2 : News g L h ((a, ({ cls := .type "tuple", data := .seq #[.int (((wk' z).length : Nat) : Int) t1, .int (-((pt z : Nat) : Int)) t2, .int ((j : Nat) : Int) t3] } : Obj)) :: _) := news_front N ha (fun p hp => by walk_at "memtl")
              k_steps
              refine end_same _ (by assumption) N off (.inr ⟨_, .tail _ (.head _), rfl, _, rfl⟩) ⟨rfl, ?_⟩
              rw [take_snoc _ hj]
              exact intsAre_push hus
            case fin5 =>
              rintro us nw ⟨rfl, hus⟩ D9 h9 tk9 F9 N9 off9
              clear F8 N8
              have m5 : Mark5 := trivial
              rw [List.size_toArray, List.length_map, Array.length_toList, P5.sz, List.take_of_length_le (by rw [Array.length_toList, P5.sz]; exact Nat.le_refl _)] at hus
              k_steps
              unfold Halt
              rename Fr _ _ _ _ => F8
              rename News _ _ _ _ => N8
              have e56 : p5.toList = p6.toList := by
                rw [hyl] at P5 U5
                exact two_orders P5 P6 U5 U6
              refine eq_intsK (news_isList N8 (.tail _ (.head _))) (pm_ints V6 P6) (news_isList N8 (.head _)) hus (Nat.le_of_ble_eq_true rfl) ?_
              rw [e56, decide_eq_true rfl]
              exact hret _ _ (old_end (by assumption) (fun b o e b1 b2 => F8.keep _ _ (hsg b o e (tn_ne b1 b2))) (N8 (232, tabObj _) (by k_mem)).1 (N8 (74, tabObj _) (by k_mem)).1)
end

end Mine
end

section
open PySem PySem.Spec PySem.Calls PySem.W PyProof.Rows
namespace Mine
noncomputable abbrev pw := PySem.Challenge.pw_in0142_01
noncomputable abbrev row := PySem.Challenge.rw_in0142_01.row
noncomputable abbrev keep : List Nat := [0, 2, 3, 4, 5, 6, 8, 9, 12, 14, 16, 17, 19, 21, 22, 24, 25, 26, 27, 28, 30, 32, 33]
noncomputable def loose : List Str := [Str.ofString "_initial_missing", Str.ofString "reduce", Str.ofString "relpath"]
theorem tr : @topRun treeTable = @Fast.tw14082659384304107361 Fast.tw14364793385576792824 := by
  rw [← Fast.te14082659384304107361, ← Fast.te14364793385576792824]
noncomputable def ads : List Addr := [0, 1, 2, 3, 4, 5, 6, 7, 8, 9, 10, 11, 12, 13, 14, 15, 16, 17, 18, 19, 20, 21, 22, 29, 30, 31, 32, 35, 42, 43, 44, 47, 54, 55, 56, 59, 60, 61, 62, 63, 64, 65, 66, 67, 68, 69, 70, 71, 72, 73, 74, 75, 76, 77, 78, 79, 80, 81, 82, 83, 84, 85, 86, 87, 88, 89, 90, 91, 92, 93, 94, 95, 96, 103, 104, 105, 106, 107, 108, 109, 110, 111, 112, 115, 122, 123, 124, 125, 126, 127, 128, 129, 130, 131, 132, 133, 134, 135, 136, 137, 138, 139, 140, 141, 142, 143, 144, 145, 148, 149, 150, 151, 152, 153, 154, 155, 156, 157, 158, 159, 160, 161, 162, 163, 164, 165, 166, 167, 168, 169, 170, 171, 172, 173, 174, 175, 176, 177, 178, 179, 180, 181, 182, 183, 184, 185, 186, 187, 188, 189, 190, 191, 192, 193, 194, 195, 196, 197, 198, 199, 200, 201, 202, 203, 204, 205, 206, 207, 208, 209, 210, 211, 212, 213, 214, 215, 216, 217, 218, 219, 220, 221, 222, 223, 224, 225, 226, 227, 228, 229, 230, 231, 232, 233, 234, 235]
set_option maxRecDepth 100000 in
theorem ads_eq (P : Params) : ads = (fragX.heap_1 P).map (·.1) := by kernel_rfl
set_option maxRecDepth 100000 in
set_option maxHeartbeats 0 in
theorem left : LeftO pw (view pw keep) loose (fun s => xlAt (view pw keep) [] s && recOk (RowW.records row.toRowW) s) (kHook fragX.heap_1 ads ads_eq).obs (kHook fragX.heap_1 ads ads_eq).val 3828 := by
  intro w
  unfold openEnds topFrom
  rw [tr, Fast.te4187177175401517315]
  kernel_rfl
set_option maxRecDepth 100000 in
set_option maxHeartbeats 0 in
theorem said : PySem.Challenge.rw_in0142_01.wellSaid = true := by
  rw [Fast.te9446332074065402090]
  kernel_rfl
end Mine
theorem Mine.post_true (args as : List WData) : PySem.Challenge.rw_in0142_01.row.claim.post args (.bool true) as = true := by
  have h1 : (WTm.eq .res (.lit (.bool true))).holds PySem.Challenge.rw_in0142_01.row.records { args := args, res := some (.bool true), after := as } = true := by kernel_rfl
  have h2 : WShape.has PySem.Challenge.rw_in0142_01.row.records (.bool true) .bool = true := by decide +kernel
  show (WShape.has PySem.Challenge.rw_in0142_01.row.records (.bool true) .bool && (WTm.eq .res (.lit (.bool true))).holds PySem.Challenge.rw_in0142_01.row.records { args := args, res := some (.bool true), after := as }) = true
  rw [h1, h2]; rfl
set_option maxRecDepth 100000 in
set_option maxHeartbeats 0 in
theorem PySem.Challenge.cw_in0142_01_holds : PySem.Challenge.rw_in0142_01.Holds := by
  w_on
  refine holds_law Mine.said fun _ => ?_
  refine holds_open (q := view Mine.pw Mine.keep) (loose := Mine.loose) (XP := XL (view Mine.pw Mine.keep) []) (YP := (kHook Mine.fragX.heap_1 Mine.ads Mine.ads_eq).says) (N := 3828) Mine.left (Hook.of (kHook Mine.fragX.heap_1 Mine.ads Mine.ads_eq)) (Hook.keeps (kHook Mine.fragX.heap_1 Mine.ads Mine.ads_eq)) (fun s e => xl_of s (Bool.and_eq_true_iff.mp e).1) XL.keeps (by rfl) (by rfl) (by rfl) (fun s e => recFacts_of (Bool.and_eq_true_iff.mp e).2) (by rfl) (by assumption) (by decide +kernel) ⟨rfl, rfl, rfl, rfl, rfl, by decide +kernel⟩ ?hw ?hc
  (case hw => w_witness2)
  w_strict (
    k_fill
    intro w s₀ s₁ mg mb G Y fa o pm cd doc dV kV ho hd hcd hD hmg hg args vals as hpre hlay hrd hwl hlo
    have KX := kIn_of Y
    have X := (Ground.X G).1
    have V := (Ground.X G).2
    refine Ground.open G ?_
    intro T B D TE TW
    try (refine guard_noD D (by decide +kernel) ?_; clear D)
    wrow_args hpre hlay hrd hwl hlo
    have KX2 : (Mine.fragX.heap_1 w.params).In s₁.heap := KX
    have hT : TabsAt [(234, 232), (78, 74)] s₁.heap := List.forall_mem_cons.mpr ⟨⟨codeHd_of_K KX2 (by kernel_rfl), KX2 _ _ (by kernel_rfl)⟩, List.forall_mem_cons.mpr ⟨⟨codeHd_of_K KX2 (by kernel_rfl), KX2 _ _ (by kernel_rfl)⟩, fun _ h => nomatch h⟩⟩
    have ef := mg_of (v := .ref 235) (n := Str.ofString "law") KX2 T.g (by kernel_rfl)
    cases hmg.symm.trans ef
    refine Mine.wk (d := 400) (u := 200) rfl (Nat.le_of_ble_eq_true rfl) (Nat.le_of_ble_eq_true rfl) (Mine.law_y w _ _ _ mg mb s₁ (Mine.fragK_in KX2) (Mine.KN_in KX2) T hT _ _ _ _ _ (by assumption) (by assumption) (by omega) fun h' tk' K => ?_)
    exact ⟨.inl ⟨.bool true, .bool true, [], rfl, fun _ => rfl, .bool _, Mine.post_true _ _, fun _ => ⟨List.nodup_nil, fun _ h => nomatch h⟩⟩, K, rfl, .of_eq hg⟩)
end
