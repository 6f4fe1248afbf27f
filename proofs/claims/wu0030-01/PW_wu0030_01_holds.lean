import PyProof.Rows.All
import Wide.All
import OpenK.AllK
import Wide.FinOn
import Lean
import PySem.Challenge.RW_wu0030_01
set_option Elab.async false

/-! LHead -/
section
open PySem PySem.W PyProof.Rows
set_option maxRecDepth 100000
set_option maxHeartbeats 8000000
namespace Mine
open_top hd for PySem.Challenge.rw_wu0030_01
end Mine
end

/-! MBase -/
section
open PySem PySem.W PyProof.Rows PySem.Calls PySem.Spec
set_option maxRecDepth 100000
set_option maxHeartbeats 8000000
namespace Mine
abbrev Led := List (Addr × Obj)
/-- a call of the def at f that hands back `R t` and leaves nothing that the caller's ledger must know -/
abbrev CallV (w : World) (f : Addr) (dd uu : Nat) (vs : List Value) (R : Tok → Value) (pre : Led → Prop) : Prop :=
  ∀ (p : Program) (loose : List Str) (mean : ExcName → Option Value) (mg mb : Str → Option Value) (dp un : Nat) (gd : Option (List Code)) (cn : Str) (cs : Scope) (a : Addr) (ccd : Value) (cl : List (Str × Addr)) (outer : List Env) (A₀ : Around) (base h₀ : Heap) (L : Addr) (m : Str → Option Value) (news : Led) (s : Shared) (Q E : Value → Shared → Prop),
    Below A₀ base outer h₀ → Fr h₀ L s.heap m → (hd.heap_39 w.params).In h₀ → News h₀ L s.heap news → Top p loose mean mg mb h₀ → cs.kind = .function → pre news → dp + dd < recursionLimit → un + uu < cLine →
    (∀ (t : Tok) (h' : Heap) (tk' : Nat), Fr h₀ L h' m → News h₀ L h' news → Q (R t) { s with heap := h', toks := tk' }) →
      wpAny (model PySem.Challenge.rw_wu0030_01.row.prog w) (ktrTop dp un gd cn cs L a ccd cl outer) (call (.ref f) vs) Q E s
end Mine
end

/-! MTxt -/
section
open PySem PySem.W PyProof.Rows PySem.Calls PySem.Spec PySem.Builtin PySem.Builtin.Str
set_option maxRecDepth 100000
namespace Mine
/-- a text by its signs -/
abbrev tx (l : List Nat) : Str := ⟨l.toArray⟩
theorem tx_len (l : List Nat) : (tx l).length = l.length := by simp [Str.length]
theorem tx_app (a b : List Nat) : tx a ++ tx b = tx (a ++ b) := Str.ext' (by rw [Str.cps_append]; simp)
theorem tx_inj {a b : List Nat} (h : tx a = tx b) : a = b := by
  have := congrArg (fun s : Str => s.cps.toList) h
  simpa using this
theorem tx_to {l : List Nat} {j : Int} (h : 0 ≤ j) : Txt.slice (tx l) none (some j) = tx (l.take j.toNat) := by
  by_cases hj : j ≤ l.length
  · have e := eq_of_beq (slice_closes_to (x := tx l) (j := j) ⟨h, by simpa using hj⟩)
    rw [e]; simp
  · have hj' : ((tx l).length : Int) ≤ j := by rw [tx_len]; omega
    rw [slice_to_beyond hj']
    have e := eq_of_beq (slice_closes_to (x := tx l) (j := ((tx l).length : Int)) ⟨by omega, by simp [tx_len]⟩)
    rw [e, tx_len]
    have : l.take j.toNat = l := List.take_of_length_le (by omega)
    rw [this]; simp
theorem tx_cut {l : List Nat} {i j : Int} (h0 : 0 ≤ i) (h1 : i ≤ j) (h2 : j ≤ l.length) : Txt.slice (tx l) (some i) (some j) = tx ((l.drop i.toNat).take (j - i).toNat) := by
  have e := eq_of_beq (slice_closes (x := tx l) (i := i) (j := j) ⟨h0, h1, by simpa using h2⟩)
  rw [e]
theorem tx_item {l : List Nat} {i : Int} {c : Nat} (h0 : 0 ≤ i) (h : l[i.toNat]? = some c) : Txt.item (tx l) i = tx [c] := by
  have hlt : i.toNat < l.length := (List.getElem?_eq_some_iff.mp h).1
  unfold Txt.item Txt.charAt seqIndex?
  have h3 : ¬ i < 0 := by omega
  have h4 : i < (l.length : Int) := by omega
  have he : l[i.toNat] = c := by rw [List.getElem?_eq_getElem hlt] at h; exact Option.some.inj h
  simp [tx_len, h3, h4, h0, he]
theorem foldl_cat (a : Array Nat) : ∀ (n : Nat) (b : Array Nat), ((List.replicate n a).foldl (· ++ ·) b).toList = b.toList ++ (List.replicate n a.toList).flatten := by
  intro n
  induction n with
  | zero => intro b; simp
  | succ n ih => intro b; simp only [List.replicate_succ, List.foldl_cons, List.flatten_cons]; rw [ih]; simp
theorem tx_mul (l : List Nat) (n : Int) : Txt.mul (tx l) n = tx ((List.replicate n.toNat l).flatten) := by
  unfold Txt.mul
  by_cases h1 : n < 1
  · have : n.toNat = 0 := by omega
    simp [h1, this]; rfl
  · rw [if_neg h1]
    by_cases h2 : (n == 1 || (tx l).length == 0) = true
    · rw [if_pos h2]
      simp only [Bool.or_eq_true, beq_iff_eq, tx_len] at h2
      rcases h2 with h2 | h2
      · subst h2; simp
      · have : l = [] := List.eq_nil_of_length_eq_zero h2
        subst this; simp
    · rw [if_neg h2]
      have := foldl_cat l.toArray n.toNat #[]
      simp only [List.nil_append] at this
      show (⟨_⟩ : Str) = ⟨_⟩
      exact congrArg Str.mk (Array.toList_inj.mp (by rw [this]))
theorem flat1 (c : Nat) : ∀ k : Nat, (List.replicate k [c]).flatten = List.replicate k c
  | 0 => rfl
  | k + 1 => by rw [List.replicate_succ, List.flatten_cons, flat1 c k, List.replicate_succ]; rfl
theorem tx_mul1 (c : Nat) (n : Int) : Txt.mul (tx [c]) n = tx (List.replicate n.toNat c) := by rw [tx_mul, flat1]
/-- the cut reply: q quotation marks -/
abbrev resp (q : Nat) : List Nat := [50, 53, 55, 32, 34] ++ List.replicate q 34
theorem resp_len (q : Nat) : (tx (resp q)).length = 5 + q := by rw [tx_len]; simp; omega
theorem resp_3 (q : Nat) : Txt.slice (tx (resp q)) none (some 3) = Str.ofString "257" := by
  rw [tx_to (by omega)]; simp; decide
theorem resp_5 (q : Nat) : Txt.slice (tx (resp q)) (some 3) (some 5) = Str.ofString " \"" := by
  rw [tx_cut (by omega) (by omega) (by simp; omega)]; simp; decide
theorem resp_get {q i : Nat} (h0 : 5 ≤ i) (h1 : i < 5 + q) : (resp q)[i]? = some 34 := by
  rw [List.getElem?_append_right (by simpa using h0), List.getElem?_replicate]
  simp; omega
theorem resp_item {q : Nat} {i : Int} (h0 : 5 ≤ i) (h1 : i < 5 + q) : Txt.item (tx (resp q)) i = Str.ofString "\"" := by
  rw [tx_item (by omega) (resp_get (q := q) (i := i.toNat) (by omega) (by omega))]; decide
end Mine
end

/-! MCall -/
section
open PySem PySem.W PyProof.Rows PySem.Calls PySem.Spec
set_option maxRecDepth 100000
set_option maxHeartbeats 8000000
namespace Mine
theorem CallV.use {w : World} {f : Addr} {dd uu : Nat} {vs : List Value} {R : Tok → Value} {pre : Led → Prop} (C : CallV w f dd uu vs R pre)
    {p : Program} {loose : List Str} {mean : ExcName → Option Value} {mg mb : Str → Option Value} {dp un : Nat} {gd : Option (List Code)} {cn : Str} {cs : Scope} {a : Addr} {ccd : Value} {cl : List (Str × Addr)} {outer : List Env} {A₀ : Around} {base h₀ : Heap} {L : Addr} {m : Str → Option Value} {news : Led} {s : Shared} {Q E : Value → Shared → Prop}
    (B : Below A₀ base outer h₀) (F : Fr h₀ L s.heap m) (X : (hd.heap_39 w.params).In h₀) (N : News h₀ L s.heap news) (T : Top p loose mean mg mb h₀) (hk : cs.kind = .function) (hp : pre news) (hd : dp + dd < recursionLimit) (hu : un + uu < cLine)
    (ret : ∀ (t : Tok) (h' : Heap) (tk' : Nat), Fr h₀ L h' m → News h₀ L h' news → Q (R t) { s with heap := h', toks := tk' }) :
      wpAny (model PySem.Challenge.rw_wu0030_01.row.prog w) (ktrTop dp un gd cn cs L a ccd cl outer) (call (.ref f) vs) Q E s :=
  C _ _ _ _ _ _ _ _ _ _ _ _ _ _ _ _ _ _ _ _ _ _ _ B F X N T hk hp hd hu ret
theorem c_iadd (w : World) (x y : Int) (tx ty : Tok) : CallV w 82 1 8 [.int x tx, .int y ty] (fun t => .int (x + y) t) (fun _ => True) := by
  w_on
  unfold CallV
  k_fill
  intro p loose mean mg mb dp un gd cn cs a ccd cl outer A₀ base h₀ L m news s Q E B F X N T hk hpre hdp hun hret
  refine wpAny_call ?_
  k_dflt cell_enter
  k_steps
  all_goals cb_end hret
theorem c_isub (w : World) (x y : Int) (tx ty : Tok) : CallV w 117 1 8 [.int x tx, .int y ty] (fun t => .int (x - y) t) (fun _ => True) := by
  w_on
  unfold CallV
  k_fill
  intro p loose mean mg mb dp un gd cn cs a ccd cl outer A₀ base h₀ L m news s Q E B F X N T hk hpre hdp hun hret
  refine wpAny_call ?_
  k_dflt cell_enter
  k_steps
  all_goals cb_end hret
local macro_rules | `(tactic| walk_at "inplaceOp FloorDiv int int") => `(tactic| (refine ifloordiv_int (by omega) ?_))
theorem c_ifloordiv (w : World) (x y z : Int) (tx ty : Tok) (hx : 0 ≤ x ∧ x ≤ 1000) (hy : 0 < y ∧ y ≤ 10) (hz : x.fdiv y = z) : CallV w 96 1 8 [.int x tx, .int y ty] (fun t => .int z t) (fun _ => True) := by
  subst hz
  w_on
  unfold CallV
  k_fill
  intro p loose mean mg mb dp un gd cn cs a ccd cl outer A₀ base h₀ L m news s Q E B F X N T hk hpre hdp hun hret
  refine wpAny_call ?_
  k_dflt cell_enter
  k_steps
  all_goals cb_end hret
theorem c_iand (w : World) (x y z : Int) (tx ty : Tok) (hz : Builtin.bitAnd x y = z) : CallV w 89 1 8 [.int x tx, .int y ty] (fun t => .int z t) (fun _ => True) := by
  subst hz
  w_on
  unfold CallV
  k_fill
  intro p loose mean mg mb dp un gd cn cs a ccd cl outer A₀ base h₀ L m news s Q E B F X N T hk hpre hdp hun hret
  refine wpAny_call ?_
  k_dflt cell_enter
  k_steps
  all_goals cb_end hret
theorem c_ilshift (w : World) (y : Int) (tx ty : Tok) (hy : 0 ≤ y ∧ y < 6) : CallV w 103 1 8 [.int 1 tx, .int y ty] (fun t => .int (1 * 2 ^ y.toNat) t) (fun _ => True) := by
  w_on
  unfold CallV
  k_fill
  intro p loose mean mg mb dp un gd cn cs a ccd cl outer A₀ base h₀ L m news s Q E B F X N T hk hpre hdp hun hret
  refine wpAny_call ?_
  k_dflt cell_enter
  k_steps
  all_goals cb_end hret
theorem c_irshift (w : World) (x z : Int) (tx ty : Tok) (hz : x.fdiv (2 ^ Int.toNat 1) = z) : CallV w 110 1 8 [.int x tx, .int 1 ty] (fun t => .int z t) (fun _ => True) := by
  subst hz
  w_on
  unfold CallV
  k_fill
  intro p loose mean mg mb dp un gd cn cs a ccd cl outer A₀ base h₀ L m news s Q E B F X N T hk hpre hdp hun hret
  refine wpAny_call ?_
  k_dflt cell_enter
  k_steps
  all_goals cb_end hret
local macro_rules | `(tactic| walk_at "call builtin:str.lower") => `(tactic| (k_here; (with_reducible show wpAny _ _ (call (Value.builtin "str.lower") [Value.str _ _]) _ _ _); (refine SCL.lower (by omega) ?_); intro _))
theorem c_subst (w : World) (x y : Str) (z : Int) (tx ty : Tok) (hx : x.length ≤ 1) (hy : y.length ≤ 1) (hz : (if x = y then (0 : Int) else if Txt.lower x = Txt.lower y then 1 else 2) = z) : CallV w 21 1 8 [.str x tx, .str y ty] (fun t => .int z t) (fun _ => True) := by
  subst hz
  w_on
  unfold CallV
  k_fill
  intro p loose mean mg mb dp un gd cn cs a ccd cl outer A₀ base h₀ L m news s Q E B F X N T hk hpre hdp hun hret
  refine wpAny_call ?_
  k_dflt cell_enter
  k_steps
  all_goals cb_end hret
theorem c_hint (w : World) (x : Str) (n : Int) (tx : Tok) (hn : (x.length : Int) = n) (hx : x.length ≤ 40) : CallV w 75 1 8 [.str x tx] (fun t => .int n t) (fun _ => True) := by
  subst hn
  w_on
  unfold CallV
  k_fill
  intro p loose mean mg mb dp un gd cn cs a ccd cl outer A₀ base h₀ L m news s Q E B F X N T hk hpre hdp hun hret
  refine wpAny_call ?_
  k_dflt (refine' code_def ?k1 ?k2 ?k3 ?k4 ?k5 ?kA ?kF ?kK ?k6 ?k7 ?k8 ?k9 ?kB ?_ ?c2 ?c3 ?c4 ?c5; (case kA => exact rfl); (case kF => exact rfl); (case kK => assumption); (case k1 => k_asm); (case k2 => k_asm); (case k3 => k_asm); (case k4 => k_asm); (case k5 => k_asm); (case k6 => k_is); (case k7 => k_is); (case k8 => ktr_room); (case k9 => exact binds_K (by k_in) rfl (by k_is) rfl rfl rfl); (case c5 => decide); (case kB => exact locs rfl); (case c2 => exact rfl); (case c3 => exact rfl); (case c4 => exact rfl); k_whole; intro g' L' h' FG' F' N' B' X' T'; (try dsimp only); (try k_lift B'); (try k_fold))
  k_steps
  all_goals cb_end hret
end Mine
end

/-! MParse -/
section

open PySem PySem.W PyProof.Rows PySem.Calls PySem.Spec
set_option maxRecDepth 100000
set_option maxHeartbeats 8000000
namespace Mine
section
variable {prog : Program} {w : World} {A : Around} {E : Value → Shared → Prop} {s : Shared} {value slice : PySem.Expr} {x y : PySem.Str} {t u : Tok} {i : Int} {Q : Value → Shared → Prop}
theorem item_is (hx : x.length ≤ 1000) (h0 : 0 ≤ i) (h1 : i < x.length) (hy : Txt.item x i = y) (h : Q (.str y s.toks) { s with toks := s.toks + 1 })
    (hs : subscripted slice false (.str x t) (.int i u) = operate [.str x t, .int i u] (getItem (.str x t) (.int i u)) := by with_unfolding_all rfl)
    (ht : ∀ r, letTemporaryGo value (.str x t) r = pure () := by intro _; with_unfolding_all rfl) :
    wpAny (model prog w) A (subscriptTail value slice (.str x t) (.int i u)) Q E s :=
  item_str (fitsSsize_of (N := 9223372036854775808) (by omega) (by omega) (Int.le_refl _)) (by omega) (by omega) (fun _ => hy ▸ h) hs ht
end
theorem p_start {q : Nat} : 5 ≤ (5:Int) ∧ ((5:Int) - 5) % 2 = 0 ∧ (5:Int) - 5 ≤ q ∧ Str.ofString "" = tx (List.replicate (((5:Int)-5)/2).toNat 34) ∧ (Str.ofString "").length ≤ 30 := ⟨by omega, by omega, by omega, by decide, by decide⟩
theorem p_turn {q : Nat} {i : Int} {d : Str} (hq : q ≤ 20) (h1 : 5 ≤ i) (h2 : (i - 5) % 2 = 0) (h3 : i + 1 < 5 + q) (hd : d = tx (List.replicate ((i - 5) / 2).toNat 34)) :
    5 ≤ i + 1 + 1 ∧ (i + 1 + 1 - 5) % 2 = 0 ∧ i + 1 + 1 - 5 ≤ q ∧ d ++ Str.ofString "\"" = tx (List.replicate ((i + 1 + 1 - 5) / 2).toNat 34) ∧ (d ++ Str.ofString "\"").length ≤ 30 := by
  have e : d ++ Str.ofString "\"" = tx (List.replicate ((i + 1 + 1 - 5) / 2).toNat 34) := by
    have : ((i + 1 + 1 - 5) / 2).toNat = ((i - 5) / 2).toNat + 1 := by omega
    rw [hd, this, List.replicate_succ', ← tx_app]; rfl
  refine ⟨by omega, by omega, by omega, e, ?_⟩
  rw [e, tx_len, List.length_replicate]; omega
theorem p_end {q : Nat} {i : Int} {d : Str} (hd : d = tx (List.replicate ((i - 5) / 2).toNat 34)) (h2 : (i - 5) % 2 = 0) (h4 : 5 + (q : Int) ≤ i + 1) (h3 : i - 5 ≤ q) : d = tx (List.replicate (q / 2) 34) := by
  rw [hd, show ((i - 5) / 2).toNat = q / 2 by omega]
theorem c_parse (w : World) (q : Nat) (x y : Str) (tok : Tok) (hx : tx (resp q) = x) (hy : tx (List.replicate (q / 2) 34) = y) (hq : q ≤ 20) : CallV w 53 1 8 [.str x tok] (fun t => .str y t) (fun _ => True) := by
  subst hy
  w_on
  unfold CallV
  k_fill
  intro p loose mean mg mb dp un gd cn cs a ccd cl outer A₀ base h₀ L m news s Q E B F X N T hk hpre hdp hun hret
  have hl := resp_len q
  have h3 := resp_3 q
  have h5 := resp_5 q
  rw [hx] at hl h3 h5
  refine wpAny_call ?_
  k_dflt cell_enter
  k_with "subscriptTail Name Name str int" => (refine item_is (y := Str.ofString "\"") (by omega) (by omega) (by omega) (by rw [← hx]; exact resp_item (by omega) (by omega)) ?_)
  k_with "exec While Compare cons nil" => k_while (fun _ i d => 5 ≤ i ∧ (i - 5) % 2 = 0 ∧ i - 5 ≤ q ∧ d = tx (List.replicate ((i-5)/2).toNat 34) ∧ d.length ≤ 30) (fun _ i _ => (40 - i).toNat) "i" "dirname"
  k_with "state" => first | exact p_start | exact p_turn hq (by omega) (by omega) (by omega) (by assumption)
  k_steps
  · exfalso; simp_all
  · exfalso; simp_all
  all_goals refine cb_retS hret (p_end (by assumption) (by assumption) (by omega) (by assumption)) (by assumption) (by assumption)
end Mine
end

/-! MRep -/
section
open PySem PySem.W PyProof.Rows PySem.Calls PySem.Spec
set_option maxRecDepth 100000
set_option maxHeartbeats 8000000
namespace Mine
/-- how much all givers can give to k boxes -/
def tot (ns : List Int) (k : Int) : Int := (ns.map fun s => min s k).sum
theorem tot_nil (k : Int) : tot [] k = 0 := rfl
theorem tot_snoc (pre : List Int) (n k : Int) : tot (pre ++ [n]) k = tot pre k + min n k := by simp [tot]
theorem cut_resp {s k f : Int} (hs : 0 ≤ s) (hk : 0 ≤ k) (hf : 0 ≤ f ∧ f ≤ 1) :
    Txt.slice (Str.ofString "257 \"" ++ Txt.mul (Str.ofString "\"\"") s ++ Str.ofString "\"") none (some (5 + 2 * k + f)) = tx (resp (min (2 * k + f) (2 * s + 1)).toNat) := by
  have e1 : Str.ofString "257 \"" = tx [50, 53, 55, 32, 34] := by decide
  have e2 : Str.ofString "\"\"" = tx [34, 34] := by decide
  have e3 : Str.ofString "\"" = tx [34] := by decide
  have e4 : ∀ n : Nat, (List.replicate n [34, 34]).flatten = List.replicate (2 * n) 34 := by
    intro n
    induction n with
    | zero => rfl
    | succ n ih => rw [List.replicate_succ, List.flatten_cons, ih]; rw [show 2 * (n + 1) = 2 * n + 1 + 1 by omega]; rfl
  rw [e1, e2, e3, tx_mul, tx_app, tx_app, tx_to (by omega), e4]
  congr 1
  have e5 : List.replicate (2 * s.toNat) 34 ++ [34] = List.replicate (2 * s.toNat + 1) 34 := (List.replicate_succ' ..).symm
  rw [List.append_assoc, e5, List.take_append]
  have e6 : List.take (5 + 2 * k + f).toNat [50, 53, 55, 32, 34] = [50, 53, 55, 32, 34] := List.take_of_length_le (by simp; omega)
  rw [e6, List.take_replicate]
  congr 2
  simp; omega
section
variable {prog : Program} {w : World} {A : Around} {E : Value → Shared → Prop} {s : Shared} {x : PySem.Str} {t u : Tok} {i : Int} {Q : Value → Shared → Prop}
theorem mul_is (h0 : -100 ≤ i) (h1 : i ≤ 100) (hx : x.length ≤ 10) (h : ∀ t' k, (Txt.mul x i).length ≤ 1000 → Q (.str (Txt.mul x i) t') { s with toks := k }) :
    wpAny (model prog w) A (binaryOp .Mult (.str x t) (.int i u)) Q E s :=
  SB.mul (mulOk_of 16 1048576 (by omega) (by omega) (by omega) (by decide) (by decide)) fun t' k => h t' k (by
    have e := tx_mul x.cps.toList i
    have e2 : tx x.cps.toList = x := by simp [tx]
    rw [e2] at e
    rw [e, tx_len]
    have e3 : ∀ n : Nat, (List.replicate n x.cps.toList).flatten.length = n * x.length := by intro n; simp [Str.length]
    rw [e3]
    have : i.toNat ≤ 100 := by omega
    calc i.toNat * x.length ≤ 100 * 10 := Nat.mul_le_mul this hx
      _ ≤ 1000 := by omega)
end
theorem cut_half {s k f : Int} (h : 0 ≤ s ∧ 0 ≤ k ∧ 0 ≤ f ∧ f ≤ 1) : tx (List.replicate ((min (2 * k + f) (2 * s + 1)).toNat / 2) 34) = tx (List.replicate (min s k).toNat 34) := by
  congr 2; omega
theorem half_len {s k : Int} (h : 0 ≤ s) (hk : 0 ≤ k) : ((tx (List.replicate (min s k).toNat 34)).length : Int) = min s k := by
  rw [tx_len, List.length_replicate]; omega
theorem quotes (m : Int) : Txt.mul (Str.ofString "\"") m = tx (List.replicate m.toNat 34) := by
  rw [show Str.ofString "\"" = tx [34] by decide, tx_mul1]
theorem c_replies (w : World) (l : Addr) (vs : List Value) (ns : List Int) (nn : Nat) (news : Led) (k f : Int) (tk tf : Tok) (hi : IntsAre vs ns) (hns : ∀ n ∈ ns, 0 ≤ n ∧ n ≤ 5) (hk : 0 ≤ k ∧ k ≤ 5) (hf : 0 ≤ f ∧ f ≤ 1) :
    CallV w 131 3 24 [.ref l, .int k tk, .int f tf] (fun t => .int (tot ns k) t) (fun news' => news' = (l, listOf vs.toArray nn) :: news) := by
  w_on
  unfold CallV
  k_fill
  intro p loose mean mg mb dp un gd cn cs a ccd cl outer A₀ base h₀ L m news' s Q E B F X N T hkk hpre hdp hun hret
  subst hpre
  refine wpAny_call ?_
  k_dflt cell_enter
  k_with "pyIter ref" => k_state (fun pre whole => whole = tot pre k) "whole"
  k_with "binaryOp Mult str int" => ((have hn9 := hns _ (by assumption)); (refine mul_is (by omega) (by omega) (by decide) ?_); intro _ _ _)
  k_with "state" => first | rfl | (rw [tot_snoc]; omega)
  k_with "call ref" => (first
    | (refine' CallV.use (c_parse _ _ _ _ _ (Eq.symm (cut_resp ?a1 ?a2 ?a3)) (cut_half (f := f) (k := k) ?a5) ?a4) ?k1 ?k2 ?k3 ?k4 ?k5 ?k6 ?k7 ?k8 ?k9 ?_; (case a1 => omega); (case a2 => omega); (case a3 => omega); (case a4 => omega); (case a5 => omega); (case k1 => k_asm); (case k2 => k_asm); (case k3 => k_asm); (case k4 => k_asm); (case k5 => k_asm); (case k6 => first | exact rfl | assumption); (case k7 => trivial); (case k8 => ktr_room); (case k9 => ktr_units); intro t9 h9 tk9 F9 N9; (try dsimp only); (try k_fold))
    | (refine' CallV.use (c_hint _ _ (min _ k) _ (half_len ?a1 ?a3) ?a2) ?k1 ?k2 ?k3 ?k4 ?k5 ?k6 ?k7 ?k8 ?k9 ?_; (case a1 => omega); (case a3 => omega); (case a2 => rw [tx_len, List.length_replicate]; omega); (case k1 => k_asm); (case k2 => k_asm); (case k3 => k_asm); (case k4 => k_asm); (case k5 => k_asm); (case k6 => first | exact rfl | assumption); (case k7 => trivial); (case k8 => ktr_room); (case k9 => ktr_units); intro t9 h9 tk9 F9 N9; (try dsimp only); (try k_fold))
    | (refine' CallV.use (c_iadd _ _ _ _ _) ?k1 ?k2 ?k3 ?k4 ?k5 ?k6 ?k7 ?k8 ?k9 ?_; (case k1 => k_asm); (case k2 => k_asm); (case k3 => k_asm); (case k4 => k_asm); (case k5 => k_asm); (case k6 => first | exact rfl | assumption); (case k7 => trivial); (case k8 => ktr_room); (case k9 => ktr_units); intro t9 h9 tk9 F9 N9; (try dsimp only); (try k_fold)))
  k_steps
  · exfalso
    have := quotes
    simp_all
  · exact cb_retI hret (by assumption) (by assumption) (by assumption)
end Mine
end

/-! MBits -/
section
open PySem PySem.W PyProof.Rows PySem.Calls PySem.Spec
set_option maxRecDepth 100000
set_option maxHeartbeats 8000000
namespace Mine
theorem and_ones {s k : Int} (hs : 0 ≤ s ∧ s ≤ 5) (hk : 0 ≤ k ∧ k ≤ 5) : Builtin.bitAnd (1 * 2 ^ s.toNat - 1) (1 * 2 ^ k.toNat - 1) = 2 ^ (min s k).toNat - 1 := by
  obtain ⟨a, rfl⟩ := Int.eq_ofNat_of_zero_le hs.1
  obtain ⟨b, rfl⟩ := Int.eq_ofNat_of_zero_le hk.1
  have ha : a ≤ 5 := by omega
  have hb : b ≤ 5 := by omega
  have e : (min (a : Int) (b : Int)).toNat = min a b := by omega
  simp only [Int.toNat_natCast, e]
  have : ∀ a b : Fin 6, Builtin.bitAnd (1 * 2 ^ a.val - 1) (1 * 2 ^ b.val - 1) = 2 ^ (min a.val b.val) - 1 := by decide
  exact this ⟨a, by omega⟩ ⟨b, by omega⟩
theorem and_one {j : Int} (h0 : 0 ≤ j ∧ j ≤ 5) (hne : (2 : Int) ^ j.toNat - 1 ≠ 0) : Builtin.bitAnd (2 ^ j.toNat - 1) 1 = 1 ∧ ((2 : Int) ^ j.toNat - 1).fdiv (2 ^ Int.toNat 1) = 2 ^ (j - 1).toNat - 1 ∧ 1 ≤ j := by
  obtain ⟨a, rfl⟩ := Int.eq_ofNat_of_zero_le h0.1
  have ha : a ≤ 5 := by omega
  have e : ((a : Int) - 1).toNat = a - 1 := by omega
  simp only [Int.toNat_natCast, e] at hne ⊢
  have : ∀ a : Fin 6, (2 : Int) ^ a.val - 1 ≠ 0 → Builtin.bitAnd (2 ^ a.val - 1) 1 = 1 ∧ ((2 : Int) ^ a.val - 1).fdiv (2 ^ Int.toNat 1) = 2 ^ (a.val - 1) - 1 ∧ 1 ≤ a.val := by decide
  have := this ⟨a, by omega⟩ hne
  have h3 : 1 ≤ a := this.2.2
  exact ⟨this.1, this.2.1, by omega⟩
theorem and_one' {b j : Int} (hb : b = 2 ^ j.toNat - 1) (h0 : 0 ≤ j ∧ j ≤ 5) (hne : b ≠ 0) : Builtin.bitAnd b 1 = 1 ∧ b.fdiv (2 ^ Int.toNat 1) = 2 ^ (j - 1).toNat - 1 ∧ 1 ≤ j := by
  subst hb; exact and_one h0 hne
theorem b_start {pre : List Int} {n k w : Int} (h : w = tot pre k) (hn : 0 ≤ n) (hk : 0 ≤ k) : tot pre k ≤ w ∧ w ≤ tot pre k + min n k ∧ (2 : Int) ^ (min n k).toNat - 1 = 2 ^ (tot pre k + min n k - w).toNat - 1 := by
  subst h
  refine ⟨by omega, by omega, ?_⟩
  rw [show tot pre k + min n k - tot pre k = min n k by omega]
theorem b_turn {t n w j : Int} (h0 : t ≤ w) (hj : j = t + n - w) (h1 : 1 ≤ j) : t ≤ w + 1 ∧ w + 1 ≤ t + n ∧ (2 : Int) ^ (j - 1).toNat - 1 = 2 ^ (t + n - (w + 1)).toNat - 1 := by
  refine ⟨by omega, by omega, ?_⟩
  rw [show j - 1 = t + n - (w + 1) by omega]
theorem b_end {pre : List Int} {n k w b : Int} (h0 : tot pre k ≤ w ∧ w ≤ tot pre k + min n k) (hb : b = 2 ^ (tot pre k + min n k - w).toNat - 1) (h : b = 0) : w = tot (pre ++ [n]) k := by
  rw [tot_snoc]
  by_cases e : tot pre k + min n k - w = 0
  · omega
  · exfalso
    obtain ⟨a, ha⟩ : ∃ a : Nat, (tot pre k + min n k - w).toNat = a + 1 := ⟨(tot pre k + min n k - w).toNat - 1, by omega⟩
    rw [ha] at hb
    have : (1 : Int) ≤ 2 ^ a := Int.pow_pos (by decide)
    rw [Int.pow_succ] at hb
    omega
theorem c_bits (w : World) (l : Addr) (vs : List Value) (ns : List Int) (nn : Nat) (news : Led) (k : Int) (tk : Tok) (hi : IntsAre vs ns) (hns : ∀ n ∈ ns, 0 ≤ n ∧ n ≤ 5) (hk : 0 ≤ k ∧ k ≤ 5) :
    CallV w 145 3 24 [.ref l, .int k tk] (fun t => .int (tot ns k) t) (fun news' => news' = (l, listOf vs.toArray nn) :: news) := by
  w_on
  unfold CallV
  k_fill
  intro p loose mean mg mb dp un gd cn cs a ccd cl outer A₀ base h₀ L m news' s Q E B F X N T hkk hpre hdp hun hret
  subst hpre
  refine wpAny_call ?_
  k_dflt cell_enter
  k_with "pyIter ref" => k_state (fun pre whole => whole = tot pre k) "whole"
  k_with "exec While Compare cons nil" => k_while (fun _ both whole => tot kPre k ≤ whole ∧ whole ≤ tot kPre k + min kN k ∧ both = 2 ^ (tot kPre k + min kN k - whole).toNat - 1) (fun _ both whole => (tot kPre k + min kN k - whole).toNat) "both" "whole"
  k_with "state" => first
    | rfl
    | exact b_start (by assumption) (hns _ (by assumption)).1 hk.1
    | exact b_turn (by assumption) rfl (by have hn9 := hns _ (by assumption); exact (and_one' (by assumption) ⟨by omega, by omega⟩ (by omega)).2.2)
    | exact b_end ⟨by assumption, by assumption⟩ (by assumption) (by omega)
  k_with "measure" => ((have hn9 := hns _ (by assumption)); (have hj9 : 1 ≤ tot kPre k + min kN k - _ := (and_one' (by assumption) ⟨by omega, by omega⟩ (by assumption)).2.2); omega)
  k_with "call ref" => (first
    | (refine' CallV.use (c_ilshift _ _ _ _ ?a1) ?k1 ?k2 ?k3 ?k4 ?k5 ?k6 ?k7 ?k8 ?k9 ?_; (case a1 => first | omega | ((have hn9 := hns _ (by assumption)); omega)); (case k1 => k_asm); (case k2 => k_asm); (case k3 => k_asm); (case k4 => k_asm); (case k5 => k_asm); (case k6 => first | exact rfl | assumption); (case k7 => trivial); (case k8 => ktr_room); (case k9 => ktr_units); intro t9 h9 tk9 F9 N9; (try dsimp only); (try k_fold))
    | (refine' CallV.use (c_isub _ _ _ _ _) ?k1 ?k2 ?k3 ?k4 ?k5 ?k6 ?k7 ?k8 ?k9 ?_; (case k1 => k_asm); (case k2 => k_asm); (case k3 => k_asm); (case k4 => k_asm); (case k5 => k_asm); (case k6 => first | exact rfl | assumption); (case k7 => trivial); (case k8 => ktr_room); (case k9 => ktr_units); intro t9 h9 tk9 F9 N9; (try dsimp only); (try k_fold))
    | (refine' CallV.use (c_iadd _ _ _ _ _) ?k1 ?k2 ?k3 ?k4 ?k5 ?k6 ?k7 ?k8 ?k9 ?_; (case k1 => k_asm); (case k2 => k_asm); (case k3 => k_asm); (case k4 => k_asm); (case k5 => k_asm); (case k6 => first | exact rfl | assumption); (case k7 => trivial); (case k8 => ktr_room); (case k9 => ktr_units); intro t9 h9 tk9 F9 N9; (try dsimp only); (try k_fold))
    | (refine' CallV.use (c_iand _ _ _ _ _ _ (and_ones (hns _ (by assumption)) hk)) ?k1 ?k2 ?k3 ?k4 ?k5 ?k6 ?k7 ?k8 ?k9 ?_; (case k1 => k_asm); (case k2 => k_asm); (case k3 => k_asm); (case k4 => k_asm); (case k5 => k_asm); (case k6 => first | exact rfl | assumption); (case k7 => trivial); (case k8 => ktr_room); (case k9 => ktr_units); intro t9 h9 tk9 F9 N9; (try dsimp only); (try k_fold))
    | ((have hn9 := hns _ (by assumption)); refine' CallV.use (c_iand _ _ _ _ _ _ (and_one' (by assumption) ⟨by omega, by omega⟩ (by omega)).1) ?k1 ?k2 ?k3 ?k4 ?k5 ?k6 ?k7 ?k8 ?k9 ?_; (case k1 => k_asm); (case k2 => k_asm); (case k3 => k_asm); (case k4 => k_asm); (case k5 => k_asm); (case k6 => first | exact rfl | assumption); (case k7 => trivial); (case k8 => ktr_room); (case k9 => ktr_units); intro t9 h9 tk9 F9 N9; (try dsimp only); (try k_fold))
    | ((have hn9 := hns _ (by assumption)); refine' CallV.use (c_irshift _ _ _ _ _ (and_one' (by assumption) ⟨by omega, by omega⟩ (by omega)).2.1) ?k1 ?k2 ?k3 ?k4 ?k5 ?k6 ?k7 ?k8 ?k9 ?_; (case k1 => k_asm); (case k2 => k_asm); (case k3 => k_asm); (case k4 => k_asm); (case k5 => k_asm); (case k6 => first | exact rfl | assumption); (case k7 => trivial); (case k8 => ktr_room); (case k9 => ktr_units); intro t9 h9 tk9 F9 N9; (try dsimp only); (try k_fold)))
  k_steps
  all_goals (try exact cb_retI hret (by assumption) (by assumption) (by assumption))
end Mine
end

/-! MSigns -/
section
open PySem PySem.W PyProof.Rows PySem.Calls PySem.Spec
set_option maxRecDepth 100000
set_option maxHeartbeats 8000000
namespace Mine
/-- the two kinds of ink -/
def Ink (c : Nat) (price : Int) : Prop := (c = 88 ∧ price = 1) ∨ (c = 121 ∧ price = 2) ∨ (c = 89 ∧ price = 2)
abbrev row (c : Nat) (s : Int) : Str := Txt.mul (Str.ofString "x") s ++ Txt.mul (tx [c]) (5 - s)
abbrev sgn (c : Nat) (s i : Int) : Str := if i < s then tx [120] else tx [c]
def cst (s k price i : Int) : Int := if (i < s) = (i < k) then 0 else price
theorem row_tx (c : Nat) {s : Int} (_ : 0 ≤ s ∧ s ≤ 5) : row c s = tx (List.replicate s.toNat 120 ++ List.replicate (5 - s).toNat c) := by
  unfold row
  rw [show Str.ofString "x" = tx [120] by decide, tx_mul1, tx_mul1, tx_app]
theorem row_len (c : Nat) {s : Int} (h : 0 ≤ s ∧ s ≤ 5) : (row c s).length = 5 := by
  rw [row_tx c h, tx_len]; simp; omega
theorem row_item (c : Nat) {s i : Int} (h : 0 ≤ s ∧ s ≤ 5) (hi : 0 ≤ i ∧ i < 5) : Txt.item (row c s) i = sgn c s i := by
  rw [row_tx c h]
  have e : (List.replicate s.toNat 120 ++ List.replicate (5 - s).toNat c)[i.toNat]? = some (if i < s then 120 else c) := by
    by_cases hl : i < s
    · rw [if_pos hl, List.getElem?_append_left (by simp; omega), List.getElem?_replicate]; simp; omega
    · rw [if_neg hl, List.getElem?_append_right (by simp; omega), List.getElem?_replicate]; simp; omega
  rw [tx_item hi.1 e]
  unfold sgn
  split <;> rfl
theorem sgn_len (c : Nat) (s i : Int) : (sgn c s i).length ≤ 1 := by
  unfold sgn; split <;> exact Nat.le_refl 1
theorem sgn_cost {c : Nat} {price : Int} (hc : Ink c price) (s k i : Int) : (if sgn c s i = sgn c k i then (0 : Int) else if Txt.lower (sgn c s i) = Txt.lower (sgn c k i) then 1 else 2) = cst s k price i := by
  unfold sgn cst
  rcases hc with ⟨rfl, rfl⟩ | ⟨rfl, rfl⟩ | ⟨rfl, rfl⟩ <;> by_cases h1 : i < s <;> by_cases h2 : i < k <;> simp only [h1, h2, if_true, if_false, eq_self] <;> decide +kernel
def csum (s k price : Int) (is : List Int) : Int := (is.map (cst s k price)).sum
theorem csum_nil (s k price : Int) : csum s k price [] = 0 := rfl
theorem csum_snoc (s k price : Int) (is : List Int) (i : Int) : csum s k price (is ++ [i]) = csum s k price is + cst s k price i := by simp [csum]
theorem csum_all {price s k : Int} (hs : 0 ≤ s ∧ s ≤ 5) (hk : 0 ≤ k ∧ k ≤ 5) : csum s k price (rangeKs 0 5) = price * ((s - k).natAbs : Int) := by
  obtain ⟨a, rfl⟩ := Int.eq_ofNat_of_zero_le hs.1
  obtain ⟨b, rfl⟩ := Int.eq_ofNat_of_zero_le hk.1
  have h : ∀ a b : Fin 6, ∀ p : Int, csum a.val b.val p (rangeKs 0 5) = p * ((((a.val : Int) - (b.val : Int)).natAbs : Nat) : Int) := by
    intro a b p
    have : ∀ a b : Fin 6, csum a.val b.val 1 (rangeKs 0 5) = ((((a.val : Int) - (b.val : Int)).natAbs : Nat) : Int) := by decide
    rw [← this a b]
    unfold csum
    have e : ∀ is : List Int, (is.map (cst a.val b.val p)).sum = p * (is.map (cst a.val b.val 1)).sum := by
      intro is
      induction is with
      | nil => simp
      | cons i r ih => simp only [List.map_cons, List.sum_cons, ih, Int.mul_add]; congr 1; unfold cst; split <;> simp
    exact e _
  exact h ⟨a, by omega⟩ ⟨b, by omega⟩ price
abbrev gap (s k : Int) : Int := if s - k < 0 then -(s - k) else s - k
theorem gap_abs (s k : Int) : gap s k = ((s - k).natAbs : Int) := by unfold gap; split <;> omega
theorem csum_gap {a price s k : Int} (h : a = csum s k price (rangeKs 0 ((5 : Int) - 0).toNat)) (hs : 0 ≤ s ∧ s ≤ 5) (hk : 0 ≤ k ∧ k ≤ 5) : a = price * gap s k := by
  rw [h, gap_abs]; exact csum_all hs hk
theorem gap_le {a price s k : Int} (h : a = price * gap s k) (hp : 1 ≤ price ∧ price ≤ 2) (hs : 0 ≤ s ∧ s ≤ 5) (hk : 0 ≤ k ∧ k ≤ 5) : 0 ≤ a ∧ a ≤ 1000 := by
  have h1 : 0 ≤ gap s k ∧ gap s k ≤ 5 := by unfold gap; split <;> omega
  have h2 : price = 1 ∨ price = 2 := by omega
  rcases h2 with rfl | rfl <;> omega
theorem gap_div {a price s k : Int} (h : a = price * gap s k) (hp : 1 ≤ price ∧ price ≤ 2) : a.fdiv price = gap s k := by
  have h2 : price = 1 ∨ price = 2 := by omega
  rcases h2 with rfl | rfl
  · rw [h, Int.fdiv_eq_ediv_of_nonneg _ (by decide)]; omega
  · rw [h, Int.fdiv_eq_ediv_of_nonneg _ (by decide)]; omega
theorem gap_half (s k : Int) : (s + k - gap s k).fdiv (2 ^ Int.toNat 1) = min s k := by
  rw [Int.fdiv_eq_ediv_of_nonneg _ (by decide), show (2 : Int) ^ Int.toNat 1 = 2 by decide]
  unfold gap; split <;> omega
theorem c_signs (w : World) (l : Addr) (vs : List Value) (ns : List Int) (nn : Nat) (news : Led) (k price : Int) (c : Nat) (tk ti tp : Tok) (hi : IntsAre vs ns) (hns : ∀ n ∈ ns, 0 ≤ n ∧ n ≤ 5) (hk : 0 ≤ k ∧ k ≤ 5) (hc : Ink c price) :
    CallV w 138 3 24 [.ref l, .int k tk, .str (tx [c]) ti, .int price tp] (fun t => .int (tot ns k) t) (fun news' => news' = (l, listOf vs.toArray nn) :: news) := by
  w_on
  unfold CallV
  k_fill
  intro p loose mean mg mb dp un gd cn cs a ccd cl outer A₀ base h₀ L m news' s Q E B F X N T hkk hpre hdp hun hret
  subst hpre
  have hp : 1 ≤ price ∧ price ≤ 2 := by rcases hc with ⟨_, rfl⟩ | ⟨_, rfl⟩ | ⟨_, rfl⟩ <;> omega
  refine wpAny_call ?_
  k_dflt cell_enter
  k_with "pyIter ref" => (k_of "size" => k_state (fun pre whole => whole = tot pre k) "whole")
  k_with "exec For Name Call cons nil" => kpr_for
  k_with "pyIter ref" => (k_of "place" => k_state_short (fun is apart => apart = csum kN k price is) "apart")
  k_with "state" => (first | rfl | exact (csum_nil _ _ _).symm | (rw [csum_snoc]; omega) | (rw [tot_snoc]; omega))
  k_with "binaryOp Mult str int" => (first
    | (refine mul_is (by omega) (by omega) (by first | decide | (show (1 : Nat) ≤ 10; decide)) ?_)
    | ((have hn9 := hns _ (by assumption)); (refine mul_is (by omega) (by omega) (by first | decide | (show (1 : Nat) ≤ 10; decide)) ?_))); intro _ _ _
  k_with "subscriptTail Name Name str int" => (first
    | (refine item_is (by rw [row_len c hk]; decide) (by omega) (by rw [row_len c hk]; omega) (row_item c hk (by omega)) ?_)
    | (refine item_is (by rw [row_len c (hns _ (by assumption))]; decide) (by omega) (by rw [row_len c (hns _ (by assumption))]; omega) (row_item c (hns _ (by assumption)) (by omega)) ?_))
  k_with "call ref" => (first
    | (refine' CallV.use (c_subst _ _ _ _ _ _ (sgn_len _ _ _) (sgn_len _ _ _) (sgn_cost hc _ _ _)) ?k1 ?k2 ?k3 ?k4 ?k5 ?k6 ?k7 ?k8 ?k9 ?_; (case k1 => k_asm); (case k2 => k_asm); (case k3 => k_asm); (case k4 => k_asm); (case k5 => k_asm); (case k6 => first | exact rfl | assumption); (case k7 => trivial); (case k8 => ktr_room); (case k9 => ktr_units); intro t9 h9 tk9 F9 N9; (try dsimp only); (try k_fold))
    | (refine' CallV.use (c_ifloordiv _ _ _ _ _ _ (gap_le (by assumption) hp (hns _ (by assumption)) hk) (by omega) (gap_div (by assumption) hp)) ?k1 ?k2 ?k3 ?k4 ?k5 ?k6 ?k7 ?k8 ?k9 ?_; (case k1 => k_asm); (case k2 => k_asm); (case k3 => k_asm); (case k4 => k_asm); (case k5 => k_asm); (case k6 => first | exact rfl | assumption); (case k7 => trivial); (case k8 => ktr_room); (case k9 => ktr_units); intro t9 h9 tk9 F9 N9; (try dsimp only); (try k_fold))
    | (refine' CallV.use (c_isub _ _ _ _ _) ?k1 ?k2 ?k3 ?k4 ?k5 ?k6 ?k7 ?k8 ?k9 ?_; (case k1 => k_asm); (case k2 => k_asm); (case k3 => k_asm); (case k4 => k_asm); (case k5 => k_asm); (case k6 => first | exact rfl | assumption); (case k7 => trivial); (case k8 => ktr_room); (case k9 => ktr_units); intro t9 h9 tk9 F9 N9; (try dsimp only); (try k_fold))
    | (refine' CallV.use (c_iadd _ _ _ _ _) ?k1 ?k2 ?k3 ?k4 ?k5 ?k6 ?k7 ?k8 ?k9 ?_; (case k1 => k_asm); (case k2 => k_asm); (case k3 => k_asm); (case k4 => k_asm); (case k5 => k_asm); (case k6 => first | exact rfl | assumption); (case k7 => trivial); (case k8 => ktr_room); (case k9 => ktr_units); intro t9 h9 tk9 F9 N9; (try dsimp only); (try k_fold))
    | (refine' CallV.use (c_irshift _ _ _ _ _ (gap_half _ _)) ?k1 ?k2 ?k3 ?k4 ?k5 ?k6 ?k7 ?k8 ?k9 ?_; (case k1 => k_asm); (case k2 => k_asm); (case k3 => k_asm); (case k4 => k_asm); (case k5 => k_asm); (case k6 => first | exact rfl | assumption); (case k7 => trivial); (case k8 => ktr_room); (case k9 => ktr_units); intro t9 h9 tk9 F9 N9; (try dsimp only); (try k_fold)))
  k_steps
  · exact absurd (csum_gap (by assumption) (hns _ (by assumption)) hk) (by assumption)
  all_goals (try exact cb_retI hret (by assumption) (by assumption) (by assumption))
end Mine
end

/-! MStrip -/
section
open PySem PySem.W PyProof.Rows PySem.Calls PySem.Spec
set_option maxRecDepth 100000
set_option maxHeartbeats 8000000
namespace Mine
/-- a box's line: r blanks ahead of an x, or behind it -/
def line (b : Bool) (r : Nat) : List Nat := if b then List.replicate r 32 ++ [120] else [120] ++ List.replicate r 32
theorem line_len (b : Bool) (r : Nat) : (tx (line b r)).length = r + 1 := by
  rw [tx_len]; unfold line; cases b <;> simp
theorem line_f0 (r : Nat) : Txt.item (tx (line false r)) 0 = Str.ofString "x" := tx_item (by omega) (by simp [line])
theorem line_t0 (r : Nat) : Txt.item (tx (line true (r + 1))) 0 = Str.ofString " " := tx_item (by omega) (by simp [line, List.replicate_succ])
theorem line_t9 (r : Nat) : Txt.item (tx (line true r)) ((((r + 1 : Nat) : Int)) - 1) = Str.ofString "x" := tx_item (by omega) (by simp [line])
theorem line_f9 (r : Nat) : Txt.item (tx (line false (r + 1))) ((((r + 1 + 1 : Nat) : Int)) - 1) = Str.ofString " " := by
  refine tx_item (by omega) ?_
  have e : ((((r + 1 + 1 : Nat) : Int)) - 1).toNat = r + 1 := by omega
  rw [e]
  simp [line, List.getElem?_replicate]
theorem strip0_end {x : Str} {b : Bool} {i j : Int} (hx : x = tx (line b 0)) (hi : i = 0) (hj : j = 1) : Txt.slice x (some i) (some j) = tx (line b 0) := by
  subst hi hj hx
  cases b <;> decide
theorem stripT_end {x : Str} {r : Nat} {i j : Int} (hx : x = tx (line true (r + 1))) (hi : i = 1) (hj : j = r + 2) : Txt.slice x (some i) (some j) = tx (line true r) := by
  subst hi hj hx
  rw [tx_cut (by omega) (by omega) (by simp [line]; omega)]
  congr 1
  simp [line, List.replicate_succ]
  exact List.take_of_length_le (by simp; omega)
theorem stripF_end {x : Str} {r : Nat} {i j : Int} (hx : x = tx (line false (r + 1))) (hi : i = 0) (hj : j = r + 1) : Txt.slice x (some i) (some j) = tx (line false r) := by
  subst hi hj hx
  rw [tx_cut (by omega) (by omega) (by simp [line]; omega)]
  congr 1
  simp [line, List.take_replicate]
theorem c_strip0 (w : World) (x : Str) (b : Bool) (tk tj : Tok) (hx : x = tx (line b 0)) : CallV w 67 1 8 [.str x tk, .int 1 tj] (fun t => .str (tx (line b 0)) t) (fun _ => True) := by
  have hl : x.length = 1 := by rw [hx, line_len]
  have h0 : Txt.item x 0 = Str.ofString "x" := by rw [hx]; cases b <;> decide
  have h9 : Txt.item x ((x.length : Int) - 1) = Str.ofString "x" := by rw [hl, hx]; cases b <;> decide
  w_on
  unfold CallV
  k_fill
  intro p loose mean mg mb dp un gd cn cs a ccd cl outer A₀ base h₀ L m news s Q E B F X N T hk hpre hdp hun hret
  refine wpAny_call ?_
  k_dflt cell_enter
  k_with "exec While BoolOp" => (k_dflt (refine whl_start 100 ?_))
  k_with "exec While BoolOp cons nil" => (k_dflt (refine whl_start 100 ?_))
  k_with "subscriptTail Name Name str int" => (refine item_is (y := Str.ofString "x") (by rw [hl]; decide) (by first | decide | omega) (by rw [hl]; first | decide | omega) (by first | exact h0 | exact h9) ?_)
  k_steps
  all_goals refine cb_retS hret ?_ (by assumption) (by assumption)
  exact strip0_end hx (by omega) (by omega)
theorem c_stripT (w : World) (x : Str) (r : Nat) (tk tj : Tok) (hr : r ≤ 10) (hx : x = tx (line true (r + 1))) : CallV w 67 1 8 [.str x tk, .int 1 tj] (fun t => .str (tx (line true r)) t) (fun _ => True) := by
  have hl : x.length = r + 2 := by rw [hx, line_len]
  have h0 : Txt.item x 0 = Str.ofString " " := by rw [hx]; exact line_t0 r
  w_on
  unfold CallV
  k_fill
  intro p loose mean mg mb dp un gd cn cs a ccd cl outer A₀ base h₀ L m news s Q E B F X N T hk hpre hdp hun hret
  refine wpAny_call ?_
  k_dflt cell_enter
  k_with "exec While BoolOp" => (k_dflt (refine whl_start 100 ?_))
  k_with "exec While BoolOp cons nil" => (k_dflt (refine whl_start 100 ?_))
  k_with "subscriptTail Name Name str int" => (refine item_is (y := Str.ofString " ") (by rw [hl]; omega) (by first | decide | omega) (by rw [hl]; omega) (by first | exact h0 | exact h9) ?_)
  k_steps
  all_goals refine cb_retS hret ?_ (by assumption) (by assumption)
  exact stripT_end hx (by omega) (by omega)
theorem c_stripF (w : World) (x : Str) (r : Nat) (tk tj : Tok) (hr : r ≤ 10) (hx : x = tx (line false (r + 1))) : CallV w 67 1 8 [.str x tk, .int 1 tj] (fun t => .str (tx (line false r)) t) (fun _ => True) := by
  have hl : x.length = r + 2 := by rw [hx, line_len]
  have h0 : Txt.item x 0 = Str.ofString "x" := by rw [hx]; exact line_f0 _
  have h9 : Txt.item x ((x.length : Int) - 1) = Str.ofString " " := by rw [hl, hx]; exact line_f9 r
  w_on
  unfold CallV
  k_fill
  intro p loose mean mg mb dp un gd cn cs a ccd cl outer A₀ base h₀ L m news s Q E B F X N T hk hpre hdp hun hret
  refine wpAny_call ?_
  k_dflt cell_enter
  k_with "exec While BoolOp" => (k_dflt (refine whl_start 100 ?_))
  k_with "exec While BoolOp cons nil" => (k_dflt (refine whl_start 100 ?_))
  k_with "subscriptTail Name Name str int" => (first | (refine item_is (y := Str.ofString "x") (by rw [hl]; omega) (by first | decide | omega) (by rw [hl]; omega) (by exact h0) ?_) | (refine item_is (y := Str.ofString " ") (by rw [hl]; omega) (by omega) (by rw [hl]; omega) (by exact h9) ?_))
  k_steps
  all_goals refine cb_retS hret ?_ (by assumption) (by assumption)
  exact stripF_end hx (by omega) (by omega)
theorem c_strip (w : World) (x : Str) (b : Bool) (r : Nat) (tk tj : Tok) (hr : r ≤ 10) (hx : x = tx (line b r)) : CallV w 67 1 8 [.str x tk, .int 1 tj] (fun t => .str (tx (line b (r - 1))) t) (fun _ => True) := by
  cases r with
  | zero => exact c_strip0 w x b tk tj hx
  | succ r =>
    cases b with
    | true => exact c_stripT w x r tk tj (by omega) hx
    | false => exact c_stripF w x r tk tj (by omega) hx
end Mine
end

/-! MLines -/
section
open PySem PySem.W PyProof.Rows PySem.Calls PySem.Spec
set_option maxRecDepth 100000
set_option maxHeartbeats 8000000
namespace Mine
def evenLen {α : Type} (l : List α) : Bool := l.length % 2 == 0
/-- the boxes' lines, an x behind and ahead by turns -/
def linesOf : List Int → List Str := fun ns => ns.mapIdx fun i r => tx (line (i % 2 == 0) r.toNat)
theorem lines_snoc (pre : List Int) (n : Int) : linesOf (pre ++ [n]) = linesOf pre ++ [tx (line (pre.length % 2 == 0) n.toNat)] := by
  simp [linesOf, List.mapIdx_append]
theorem line_t (n : Int) : Txt.mul (Str.ofString " ") n ++ Str.ofString "x" = tx (line true n.toNat) := by
  rw [show Str.ofString " " = tx [32] by decide, show Str.ofString "x" = tx [120] by decide, tx_mul1, tx_app]; rfl
theorem line_f (n : Int) : Str.ofString "x" ++ Txt.mul (Str.ofString " ") n = tx (line false n.toNat) := by
  rw [show Str.ofString " " = tx [32] by decide, show Str.ofString "x" = tx [120] by decide, tx_mul1, tx_app]; rfl
theorem lines_even {ss : List Str} {pre : List Int} {n : Int} (h : ss = linesOf pre) (hl : ss.length = pre.length) (he : ((ss.length : Nat) : Int).fmod 2 = 0) :
    ss ++ [Txt.mul (Str.ofString " ") n ++ Str.ofString "x"] = linesOf (pre ++ [n]) ∧ (ss ++ [Txt.mul (Str.ofString " ") n ++ Str.ofString "x"]).length = (pre ++ [n]).length := by
  rw [Int.fmod_eq_emod_of_nonneg _ (by decide), hl] at he
  have e : (pre.length % 2 == 0) = true := by rw [beq_iff_eq]; omega
  refine ⟨?_, by simp [hl]⟩
  rw [lines_snoc, e, line_t, h]
theorem lines_odd {ss : List Str} {pre : List Int} {n : Int} (h : ss = linesOf pre) (hl : ss.length = pre.length) (he : ¬ ((ss.length : Nat) : Int).fmod 2 = 0) :
    ss ++ [Str.ofString "x" ++ Txt.mul (Str.ofString " ") n] = linesOf (pre ++ [n]) ∧ (ss ++ [Str.ofString "x" ++ Txt.mul (Str.ofString " ") n]).length = (pre ++ [n]).length := by
  rw [Int.fmod_eq_emod_of_nonneg _ (by decide), hl] at he
  have e : (pre.length % 2 == 0) = false := by rw [beq_eq_false_iff_ne]; omega
  refine ⟨?_, by simp [hl]⟩
  rw [lines_snoc, e, line_f, h]
abbrev CallL (w : World) (f : Addr) (dd uu : Nat) (vs : List Value) (ss : List Str) (pre : Led → Prop) : Prop :=
  ∀ (p : Program) (loose : List Str) (mean : ExcName → Option Value) (mg mb : Str → Option Value) (dp un : Nat) (gd : Option (List Code)) (cn : Str) (cs : Scope) (a : Addr) (ccd : Value) (cl : List (Str × Addr)) (outer : List Env) (A₀ : Around) (base h₀ : Heap) (L : Addr) (m : Str → Option Value) (news : Led) (s : Shared) (Q E : Value → Shared → Prop),
    Below A₀ base outer h₀ → Fr h₀ L s.heap m → (hd.heap_39 w.params).In h₀ → News h₀ L s.heap news → Top p loose mean mg mb h₀ → cs.kind = .function → pre news → dp + dd < recursionLimit → un + uu < cLine →
    (∀ (r : Addr) (us : List Value) (c : Nat) (h' : Heap) (tk' : Nat), Fr h₀ L h' m → News h₀ L h' ((r, listOf us.toArray c) :: news) → AllLt r news → StrsAre us ss → Q (.ref r) { s with heap := h', toks := tk' }) →
      wpAny (model PySem.Challenge.rw_wu0030_01.row.prog w) (ktrTop dp un gd cn cs L a ccd cl outer) (call (.ref f) vs) Q E s
theorem c_lines (w : World) (l : Addr) (vs : List Value) (ns : List Int) (nn : Nat) (news : Led) (hi : IntsAre vs ns) (hns : ∀ n ∈ ns, 0 ≤ n ∧ n ≤ 5) (hl : ns.length ≤ 4) :
    CallL w 152 3 24 [.ref l] (linesOf ns) (fun news' => news' = (l, listOf vs.toArray nn) :: news) := by
  w_on
  unfold CallL
  k_fill
  intro p loose mean mg mb dp un gd cn cs a ccd cl outer A₀ base h₀ L m news' s Q E B F X N T hkk hpre hdp hun hret
  subst hpre
  refine wpAny_call ?_
  k_dflt cell_enter
  k_with "pyIter ref" => k_state (fun pre lines => lines = linesOf pre ∧ lines.length = pre.length) "lines$"
  k_with "binaryOp Mult str int" => ((have hn9 := hns _ (by assumption)); (refine mul_is (by omega) (by omega) (by decide) ?_); intro _ _ _; (try dsimp only))
  k_with "binaryOp Add str str" => ((refine KOpn.add (by kopn_len) ?_); intro _ _ _; (try dsimp only))
  k_with "call builtin:list.append" => ((try dsimp only); (try simp only [List.cons_append, List.nil_append]); k_dflt (refine' append_K ?k1 ?k2 ?k3 ?_ ?z; (case k1 => k_asm); (case k2 => k_asm); (case k3 => k_upd); (case z => size_fits); k_whole); intro h' F' N'; (try k_sweep))
  k_with "state" => first | exact ⟨rfl, rfl⟩ | exact lines_even (by assumption) (by assumption) (by assumption) | exact lines_odd (by assumption) (by assumption) (by assumption)
  k_steps
  rename StrsAre _ _ => hS
  rename _ = linesOf ns => hE
  exact hret _ _ _ _ _ (by assumption) (by assumption) (by assumption) (hE ▸ hS)
end Mine
end

/-! MDeal0 -/
section
open PySem PySem.W PyProof.Rows PySem.Calls PySem.Spec
set_option maxRecDepth 100000
set_option maxHeartbeats 8000000
namespace Mine
/-- how many blanks a line has, whatever their side -/
def rm (s : Str) : Nat := s.length - 1
def IsLine (s : Str) : Prop := ∃ b r, r ≤ 10 ∧ s = tx (line b r)
theorem rm_line (b : Bool) (r : Nat) : rm (tx (line b r)) = r := by unfold rm; rw [line_len]; omega
def ins (x : Nat) : List Nat → List Nat
  | [] => [x]
  | y :: r => if y ≤ x then x :: y :: r else y :: ins x r
def isort : List Nat → List Nat
  | [] => []
  | x :: r => ins x (isort r)
theorem ins_perm (x : Nat) : ∀ l : List Nat, (ins x l).Perm (x :: l)
  | [] => .refl _
  | y :: r => by
    unfold ins
    split
    · exact .refl _
    · exact ((ins_perm x r).cons y).trans (.swap x y r)
theorem isort_perm : ∀ l : List Nat, (isort l).Perm l
  | [] => .refl _
  | x :: r => (ins_perm x _).trans ((isort_perm r).cons x)
theorem ins_sorted (x : Nat) : ∀ l : List Nat, l.Pairwise (fun a b => b ≤ a) → (ins x l).Pairwise (fun a b => b ≤ a)
  | [], _ => by simp [ins]
  | y :: r, h => by
    unfold ins
    obtain ⟨h1, h2⟩ := List.pairwise_cons.mp h
    split
    · rename_i hle
      refine List.pairwise_cons.mpr ⟨fun z hz => ?_, h⟩
      rcases List.mem_cons.mp hz with rfl | hz
      · exact hle
      · exact Nat.le_trans (h1 z hz) hle
    · rename_i hle
      refine List.pairwise_cons.mpr ⟨fun z hz => ?_, ins_sorted x r h2⟩
      rcases List.mem_cons.mp ((ins_perm x r).mem_iff.mp hz) with rfl | hz
      · omega
      · exact h1 z hz
theorem isort_sorted : ∀ l : List Nat, (isort l).Pairwise (fun a b => b ≤ a)
  | [] => .nil
  | x :: r => ins_sorted x _ (isort_sorted r)
theorem sorted_uniq : ∀ {a b : List Nat}, a.Perm b → a.Pairwise (fun x y => y ≤ x) → b.Pairwise (fun x y => y ≤ x) → a = b
  | [], b, p, _, _ => by have := p.length_eq; cases b with | nil => rfl | cons => simp at this
  | x :: r, [], p, _, _ => by have := p.length_eq; simp at this
  | x :: r, y :: t, p, ha, hb => by
    obtain ⟨a1, a2⟩ := List.pairwise_cons.mp ha
    obtain ⟨b1, b2⟩ := List.pairwise_cons.mp hb
    have hx : x ≤ y := by
      rcases List.mem_cons.mp (p.mem_iff.mp (List.mem_cons_self ..)) with e | e
      · omega
      · exact b1 x e
    have hy : y ≤ x := by
      rcases List.mem_cons.mp (p.mem_iff.mpr (List.mem_cons_self ..)) with e | e
      · omega
      · exact a1 y e
    have e : x = y := by omega
    subst e
    rw [sorted_uniq (List.Perm.cons_inv p) a2 b2]
theorem isort_uniq {a l : List Nat} (p : a.Perm l) (h : a.Pairwise (fun x y => y ≤ x)) : a = isort l :=
  sorted_uniq (p.trans (isort_perm l).symm) h (isort_sorted l)
/-- the rooms behind the first i gifts, and how many gifts found room -/
def part (i : Nat) (rs : List Nat) : List Nat := (rs.take i).map (· - 1) ++ rs.drop i
def count (i : Nat) (rs : List Nat) : Int := (((rs.take i).filter (0 < ·)).length : Nat)
theorem part_zero (rs : List Nat) : part 0 rs = rs := by simp [part]
theorem count_zero (rs : List Nat) : count 0 rs = 0 := by simp [count]
theorem part_get {i : Nat} {rs : List Nat} (h : i < rs.length) : (part i rs)[i]? = rs[i]? := by
  unfold part
  have hl : ((rs.take i).map (· - 1)).length = i := by simp; omega
  rw [List.getElem?_append_right (by omega), hl]
  simp
theorem part_succ {i r : Nat} {rs : List Nat} (h : rs[i]? = some r) : part (i + 1) rs = (part i rs).set i (r - 1) := by
  have hlt : i < rs.length := (List.getElem?_eq_some_iff.mp h).1
  unfold part
  have hl : ((rs.take i).map (· - 1)).length = i := by simp; omega
  have e1 : rs.take (i + 1) = rs.take i ++ [r] := by rw [List.take_add_one, h]; rfl
  have e2 : rs.drop i = r :: rs.drop (i + 1) := by
    rw [List.drop_eq_getElem_cons hlt]; congr 1; exact (List.getElem?_eq_some_iff.mp h).2
  rw [e1, e2, List.map_append, List.set_append, hl]
  simp
theorem count_succ {i r : Nat} {rs : List Nat} (h : rs[i]? = some r) : count (i + 1) rs = count i rs + (if 0 < r then 1 else 0) := by
  unfold count
  have e1 : rs.take (i + 1) = rs.take i ++ [r] := by rw [List.take_add_one, h]; rfl
  rw [e1, List.filter_append]
  by_cases h0 : 0 < r <;> simp [h0]
/-- all givers, one by one -/
def deals (rs : List Nat) (ns : List Int) : List Nat × Int :=
  ns.foldl (fun p n => let q := isort p.1; (part (min n (q.length : Int)).toNat q, p.2 + count (min n (q.length : Int)).toNat q)) (rs, 0)
theorem deals_nil (rs : List Nat) : deals rs [] = (rs, 0) := rfl
theorem deals_snoc (rs : List Nat) (ns : List Int) (n : Int) : deals rs (ns ++ [n]) =
    (part (min n ((isort (deals rs ns).1).length : Int)).toNat (isort (deals rs ns).1), (deals rs ns).2 + count (min n ((isort (deals rs ns).1).length : Int)).toNat (isort (deals rs ns).1)) := by
  simp [deals, List.foldl_append]
section
variable {prog : Program} {w : World} {A : Around} {E : Value → Shared → Prop} {s : Shared} {h₀ : Heap} {L l : Addr} {m : Str → Option Value} {news : List (Addr × Obj)} {Q : Value → Shared → Prop}
theorem zip_strs : ∀ {us : List Value} {ss : List Str}, StrsAre us ss → ∀ p ∈ (ss.map fun s => (-(s.length : Int))).zip us, ∃ x t, p = (-(x.length : Int), Value.str x t)
  | _, _, .nil, _, hp => by simp at hp
  | _, _, .cons y t h, p, hp => by
    simp only [List.map_cons, List.zip_cons_cons, List.mem_cons] at hp
    rcases hp with rfl | hp
    · exact ⟨y, t, rfl⟩
    · exact zip_strs h p hp
theorem strs_of : ∀ (ps : List (Int × Value)), (∀ p ∈ ps, ∃ x t, p = (-(x.length : Int), Value.str x t)) → StrsAre (ps.map Prod.snd) (ps.map fun p => strOf p.2)
  | [], _ => .nil
  | p :: r, h => by
    obtain ⟨x, t, rfl⟩ := h p (List.mem_cons_self ..)
    exact .cons x t (strs_of r fun q hq => h q (List.mem_cons_of_mem _ hq))
theorem zip_snd : ∀ {us : List Value} {ss : List Str}, StrsAre us ss → ((ss.map fun s => (-(s.length : Int))).zip us).map (fun p => strOf p.2) = ss
  | _, _, .nil => rfl
  | _, _, .cons y t h => by simp only [List.map_cons, List.zip_cons_cons]; rw [zip_snd h]; rfl
theorem out_strs {us out : List Value} {ss : List Str} (hS : StrsAre us ss) (ko : KskOut false (ss.map fun s => (-(s.length : Int))) us out) :
    ∃ ss', StrsAre out ss' ∧ ss'.Perm ss ∧ ss'.Pairwise fun a b => b.length ≤ a.length := by
  obtain ⟨ps, hp, rfl, hs⟩ := ko
  have hall : ∀ p ∈ ps, ∃ x t, p = (-(x.length : Int), Value.str x t) := fun p hq => zip_strs hS p (hp.mem_iff.mp hq)
  refine ⟨ps.map fun p => strOf p.2, strs_of ps hall, ?_, ?_⟩
  · have := hp.map (fun p => strOf p.2)
    rwa [zip_snd hS] at this
  · rw [List.pairwise_map]
    refine hs.imp_of_mem fun {p q} h1 h2 h => ?_
    obtain ⟨x, t, rfl⟩ := hall p h1
    obtain ⟨y, u, rfl⟩ := hall q h2
    simp only [Bool.false_eq_true, if_false] at h
    show y.length ≤ x.length
    omega
theorem sorted_by_len {us : List Value} {ss : List Str} {q : Addr} (F : Fr h₀ L s.heap m) (N : News h₀ L s.heap news) (hl : s.heap.IsList l us.toArray) (hS : StrsAre us ss) (h64 : ss.length < 64)
    (turn : ∀ (x : Str) (t : Tok), x ∈ ss → ∀ (h : Heap) (tk : Nat) (own : List (Addr × Obj)), Fr h₀ L h m → News h₀ L h (news ++ own) →
      wpAny (model prog w) A.in1.in1 (call (.ref q) [.str x t]) (KskEnd h₀ L m (news ++ own) (-(x.length : Int)) { s with heap := h, toks := tk }) (fun _ _ => False) { s with heap := h, toks := tk })
    (h : ∀ D h' tk us' ss' c, Fr h₀ L h' m → News h₀ L h' ((D, PySem.W.listOf (List.toArray us') c) :: news) → (∀ q ∈ news, q.1 < D) → StrsAre us' ss' → ss'.Perm ss → ss'.Pairwise (fun a b => b.length ≤ a.length) → Q (.ref D) { s with heap := h', toks := tk }) :
    wpAny (model prog w) A (call (.builtin "sorted") [.ref l] [(Str.ofString "key", .ref q)]) Q E s := by
  have hlen : us.length = ss.length := hS.length
  refine ksk_sorted (b := false) (kz := ss.map fun s => (-(s.length : Int))) F N hl (by simp [hlen]) (by omega) (ksk_s1 _ _) (fun x => ksk_l1 _ _) (fun x => ksk_t1 _ _) (fun i v k hv hk h tk own F' N' => ?_) fun D h' tk out c F' N' l1 ko => ?_
  · obtain ⟨y, t, rfl, hy⟩ := hS.item i v hv
    rw [List.getElem?_map, hy] at hk
    simp only [Option.map_some, Option.some.injEq] at hk
    subst hk
    exact turn y t (List.mem_of_getElem? hy) h tk own F' N'
  · obtain ⟨ss', h1, h2, h3⟩ := out_strs hS ko
    exact h D h' tk out.toList ss' c F' (by simpa [seqObj] using N') l1 h1 h2 h3
end
theorem rooms_sorted {ss ss' : List Str} (hl : ∀ s ∈ ss, IsLine s) (p : ss'.Perm ss) (hs : ss'.Pairwise fun a b => b.length ≤ a.length) : ss'.map rm = isort (ss.map rm) := by
  refine isort_uniq (p.map rm) ?_
  rw [List.pairwise_map]
  exact hs.imp fun {a b} h => by unfold rm; omega
end Mine
end

/-! MPlace -/
section
open PySem PySem.W PyProof.Rows PySem.Calls PySem.Spec
set_option maxRecDepth 100000
set_option maxHeartbeats 8000000
namespace Mine
/-- behind the first i places of a giver's round: rs the rooms ahead of it, d₀ what was dealt ahead of it -/
structure PJ (rs : List Nat) (d₀ : Int) (i : Nat) (us : List Value) (ss : List Str) (d : Int) : Prop where
  stx : StrsAre us ss
  lnx : ∀ s ∈ ss, IsLine s
  rox : ss.map rm = part i rs
  dex : d = d₀ + count i rs
def PKJ (D : Addr) (rest : Led) (rs : List Nat) (d₀ : Int) (i : Nat) (m : Str → Option Value) (nx : Led) : Prop :=
  ∃ (us : List Value) (ss : List Str) (cc : Nat) (d : Int) (td : Tok), nx = (D, listOf us.toArray cc) :: rest ∧ PJ rs d₀ i us ss d ∧ m "left" = some (.ref D) ∧ m "dealt" = some (.int d td)
theorem part_len {i : Nat} {rs : List Nat} : (part i rs).length = rs.length := by
  unfold part; simp; omega
theorem PJ.len {rs : List Nat} {d₀ d : Int} {i : Nat} {us : List Value} {ss : List Str} (h : PJ rs d₀ i us ss d) : ss.length = rs.length := by
  have := congrArg List.length h.rox
  rw [List.length_map, part_len] at this
  exact this
theorem place_map {v : Value} {m : Str → Option Value} {a b : Value} (h1 : m "left" = some a) (h2 : m "dealt" = some b) :
    (fun y => if y = Str.ofString "place" then some v else m y) = fun y => if y = Str.ofString "place" then some v else if y = "left" then some a else if y = "dealt" then some b else m y := by
  funext y
  by_cases e : y = Str.ofString "place"
  · simp [e]
  · simp only [if_neg e]
    by_cases e1 : y = "left"
    · subst e1; simp [h1]
    · simp only [if_neg e1]
      by_cases e2 : y = "dealt"
      · subst e2; simp [h2]
      · simp only [if_neg e2]
section
variable {prog : Program} {w : World} {A : Around} {E : Value → Shared → Prop} {s : Shared} {env : Env} {h₀ : Heap} {body : List Stmt} {Q : Flow → Shared → Prop}
theorem place_iter {D r : Addr} {us : List Value} {ss : List Str} {rs : List Nat} {cc : Nat} {rest : Led} {b₀ d : Int} {td t₀ u₀ v₀ : Tok} {m₀ : Str → Option Value}
    (hh : A.handled = none) (hr : IsRange s.heap r 0 b₀ 1 t₀ u₀ v₀) (hb : 0 ≤ b₀ ∧ b₀ ≤ 5) (F : Fr h₀ env.locals s.heap m₀) (N : News h₀ env.locals s.heap ((D, listOf us.toArray cc) :: rest))
    (hD : ∀ p ∈ rest, p.1 ≠ D) (hS : StrsAre us ss) (hL : ∀ s ∈ ss, IsLine s) (hrs : ss.map rm = rs) (hle : b₀ ≤ (ss.length : Int)) (hm1 : m₀ "left" = some (.ref D)) (hm2 : m₀ "dealt" = some (.int d td))
    (turn : ∀ (i : Nat) us₁ ss₁ cc₁ d₁ td₁ t (u : Str → Option Value) h tk own, (i : Int) < b₀ → i < ss₁.length → (∀ p ∈ rest ++ own, p.1 ≠ D) → PJ rs d i us₁ ss₁ d₁ →
      Fr h₀ env.locals h (fun y => if y = Str.ofString "place" then some (.int i t) else if y = "left" then some (.ref D) else if y = "dealt" then some (.int d₁ td₁) else u y) → News h₀ env.locals h ((D, listOf us₁.toArray cc₁) :: (rest ++ own)) →
      wpAny (model prog w) A (execs body env) (InvPostN h₀ env.locals (PKJ D rest rs d (i + 1)) own (D :: rest.map (·.1)) { s with heap := h, toks := tk } Q) E { s with heap := h, toks := tk })
    (done : ∀ us₁ ss₁ cc₁ d₁ td₁ (u : Str → Option Value) h tk, PJ rs d b₀.toNat us₁ ss₁ d₁ → u "left" = some (.ref D) → u "dealt" = some (.int d₁ td₁) → Fr h₀ env.locals h u → News h₀ env.locals h ((D, listOf us₁.toArray cc₁) :: rest) → Q .next { s with heap := h, toks := tk }) :
    wpAny (model prog w) A (pyIter (.ref r)) (fun it s₂ => LoopAtV prog w A h₀ env (Str.ofString "place") body Q E it s₂) E s := by
  obtain ⟨n, rfl⟩ := Int.eq_ofNat_of_zero_le hb.1
  have hsmall : Builtin.Range.small 0 (n : Int) 1 = true := small_one (by omega) (by omega) (by omega) (by omega)
  have hn : Builtin.Range.rangeSize 0 (n : Int) 1 = (n : Int) := rangeSize_nat _ _
  refine wpAny_pyIter_range hr hsmall ?_
  have W : Walks prog w A s.heap.objs.size [s.heap.objs.size] [s.heap.objs.size] n (fun i v => i < n ∧ ∃ t, v = .int (0 + i * 1) t)
      (fun i h => IsRangeIter h s.heap.objs.size (0 + (i : Nat) * 1) ((n : Int) - (i : Nat)) 1) := (Walks.range hh _ 0 1 n).bound
  refine loop_invN (fun i m nx => PKJ D rest rs d i m nx) W ?_ ?_ ?_ ?_ (by show IsRangeIter _ _ _ _ _; rw [hn]; simpa using Heap.get?_push_size _ rfl) (F.push _) (fun p hp => ⟨Heap.get?_push_of_some _ (N p hp).1, (N p hp).2⟩)
    ⟨us, ss, cc, d, td, rfl, ⟨hS, hL, by rw [part_zero, hrs], by rw [count_zero]; omega⟩, hm1, hm2⟩ ?_ ?_
  · intro hm
    exact absurd F.ns.lt ((List.mem_singleton.mp hm) ▸ Nat.lt_irrefl _)
  · intro b hb
    rw [List.mem_singleton.mp hb]
    exact next_is_new F
  · intro p hp hI
    exact absurd (Heap.lt_size (N p hp).1) ((List.mem_singleton.mp hI) ▸ Nat.lt_irrefl _)
  · intro p hp hI
    exact absurd (Heap.lt_size (N p hp).1) ((List.mem_singleton.mp hI) ▸ Nat.lt_irrefl _)
  · rintro i v m₁ nx h tk own hi ⟨_, t, rfl⟩ _ hoff ⟨us₁, ss₁, cc₁, d₁, td₁, rfl, hP, h1, h2⟩ F₁ N₁
    have e1 : (0 : Int) + (i : Int) * 1 = (i : Int) := by omega
    rw [e1, place_map h1 h2] at F₁
    have hlen := hP.len
    have hl2 : rs.length = ss.length := by rw [← hrs, List.length_map]
    exact turn i us₁ ss₁ cc₁ d₁ td₁ t m₁ h tk own (by omega) (by omega) (fun p hp => (List.mem_append.mp hp).elim (hD p) fun hp => hoff p hp D (by simp)) hP F₁ (by simpa only [List.cons_append] using N₁)
  · rintro m₁ nx h tk ⟨us₁, ss₁, cc₁, d₁, td₁, rfl, hP, h1, h2⟩ F₁ N₁
    exact done us₁ ss₁ cc₁ d₁ td₁ m₁ h tk hP h1 h2 F₁ N₁
end
section
variable {prog : Program} {w : World} {A : Around} {E : Value → Shared → Prop} {s : Shared} {h₀ : Heap} {L D : Addr} {m : Str → Option Value} {news rest : Led} {vs : List Value} {ss : List Str} {n : Nat} {k : Int} {x : Str} {t u : Tok}
theorem item_txt {value slice : PySem.Expr} {Q : Value → Shared → Prop} (N : News h₀ L s.heap news) (hm : (D, listOf vs.toArray n) ∈ news) (hS : StrsAre vs ss) (h0 : 0 ≤ k) (hfit : k < 2 ^ 63) (hx : ss[k.toNat]? = some x) (h : ∀ t, Q (.str x t) s)
    (hs : subscripted slice false (.ref D) (.int k u) = operate [.ref D, .int k u] (getItem (.ref D) (.int k u)) := by with_unfolding_all rfl) :
    wpAny (model prog w) A (subscriptTail value slice (.ref D) (.int k u)) Q E s := by
  have hl : s.heap.IsList D vs.toArray := PySem.IsL.isList (n := n) (N _ hm).1
  obtain ⟨t, ht⟩ := hS.get k.toNat x hx
  exact tail_any hl.typeIs slot_list_getitem.lookup (wpAny_getItem_list hl h0 hfit (by simpa using ht) (h t)) hs
theorem set_txt {Q : Unit → Shared → Prop} (F : Fr h₀ L s.heap m) (N : News h₀ L s.heap ((D, listOf vs.toArray n) :: rest)) (hne : ∀ p ∈ rest, p.1 ≠ D) (h0 : 0 ≤ k) (h1 : k < (vs.length : Int)) (hfit : k < 2 ^ 63)
    (h : ∀ h', Fr h₀ L h' m → News h₀ L h' ((D, listOf (vs.set k.toNat (.str x u)).toArray n) :: rest) → Q () { s with heap := h' }) :
    wpAny (model prog w) A (setItem (.ref D) (.int k t) (.str x u)) Q E s := by
  have z := N (D, listOf vs.toArray n) (.head _)
  refine ki_setAt z.1 h0 hfit (by rw [List.size_toArray]; exact h1) (h _ (F.change (Heap.SameBut.update ..) z.2.1 z.2.2) (ki_turn (pre := []) _ N (fun _ hp => (nomatch hp)) hne ?_ ?_))
  · show vs.toArray.setIfInBounds k.toNat (.str x u) = (vs.set k.toNat (.str x u)).toArray
    apply Array.toList_inj.mp
    simp
  · simp
end
theorem strs_set {x : Str} {u : Tok} : ∀ {vs : List Value} {ns : List Str}, StrsAre vs ns → ∀ j : Nat, StrsAre (vs.set j (.str x u)) (ns.set j x)
  | _, _, .nil, _ => .nil
  | _, _, .cons _ _ h, 0 => .cons x u h
  | _, _, .cons i t h, j + 1 => .cons i t (strs_set h j)
theorem line_ne {b : Bool} {r : Nat} : tx (line b (r - 1)) ≠ tx (line b r) ↔ 0 < r := by
  constructor
  · intro h
    cases r with
    | zero => exact absurd rfl h
    | succ r => exact Nat.succ_pos r
  · intro h e
    have := congrArg Str.length e
    rw [line_len, line_len] at this
    omega
theorem PJ.room {rs : List Nat} {d₀ d : Int} {i : Nat} {us : List Value} {ss : List Str} {b : Bool} {r : Nat} (h : PJ rs d₀ i us ss d) (hx : ss[i]? = some (tx (line b r))) : rs[i]? = some r := by
  have hlt : i < rs.length := by rw [← h.len]; exact (List.getElem?_eq_some_iff.mp hx).1
  rw [← part_get hlt, ← h.rox, List.getElem?_map, hx]
  simp [rm_line]
theorem PJ.hit {rs : List Nat} {d₀ d : Int} {i : Nat} {us : List Value} {ss : List Str} {b : Bool} {r : Nat} {u : Tok} (h : PJ rs d₀ i us ss d) (hx : ss[i]? = some (tx (line b r))) (hr : r ≤ 10) (hne : (tx (line b (r - 1)) != tx (line b r)) = true) :
    PJ rs d₀ (i + 1) (us.set ((i : Int)).toNat (.str (tx (line b (r - 1))) u)) (ss.set ((i : Int)).toNat (tx (line b (r - 1)))) (d + 1) := by
  rw [Int.toNat_natCast]
  have hrs := h.room hx
  refine ⟨strs_set h.stx i, fun s hs => ?_, ?_, ?_⟩
  · rcases List.mem_or_eq_of_mem_set hs with hs | rfl
    · exact h.lnx s hs
    · exact ⟨b, r - 1, by omega, rfl⟩
  · rw [List.map_set, rm_line, h.rox, part_succ hrs]
  · rw [count_succ hrs, if_pos (line_ne.mp (by simpa using hne)), h.dex]; omega
theorem PJ.none {rs : List Nat} {d₀ d : Int} {i : Nat} {us : List Value} {ss : List Str} {b : Bool} {r : Nat} (h : PJ rs d₀ i us ss d) (hx : ss[i]? = some (tx (line b r))) (hne : (tx (line b (r - 1)) != tx (line b r)) = false) :
    PJ rs d₀ (i + 1) us ss d := by
  have hrs := h.room hx
  have h0 : r = 0 := by
    by_cases h0 : 0 < r
    · exact absurd (line_ne.mpr h0) (by simpa using hne)
    · omega
  subst h0
  refine ⟨h.stx, h.lnx, ?_, ?_⟩
  · rw [part_succ hrs, h.rox]
    have hlt : i < rs.length := (List.getElem?_eq_some_iff.mp hrs).1
    have e := part_get hlt
    rw [hrs] at e
    obtain ⟨hl, e2⟩ := List.getElem?_eq_some_iff.mp e
    have e3 := List.set_getElem_self hl
    rw [e2] at e3
    exact e3.symm
  · rw [count_succ hrs, h.dex]; simp
theorem place_end {D : Addr} {rest : Led} {rs : List Nat} {d₀ d : Int} {i cc : Nat} {us : List Value} {ss : List Str} {td : Tok} {h₀ h' : Heap} {L : Addr} {m' : Str → Option Value} {own : Led} {s₁ : Shared} {tk : Nat}
    (F : Fr h₀ L h' m') (N : News h₀ L h' ((D, listOf us.toArray cc) :: (rest ++ own))) (h1 : m' "left" = some (.ref D)) (h2 : m' "dealt" = some (.int d td)) (hP : PJ rs d₀ i us ss d) :
    InvEndN h₀ L (PKJ D rest rs d₀ i) own (D :: rest.map (·.1)) s₁ { s₁ with heap := h', toks := tk } :=
  InvEndN.intro F N (nx := (D, listOf us.toArray cc) :: rest) ⟨us, ss, cc, d, td, rfl, hP, h1, h2⟩ rfl
    (fun p hp => by rcases List.mem_cons.mp hp with rfl | hp; exact .head _; exact .tail _ (List.mem_append.mpr (.inl hp))) fun p hp => .tail _ (List.mem_append.mpr (.inr hp))
end Mine
end

/-! MDeal -/
section
open PySem PySem.W PyProof.Rows PySem.Calls PySem.Spec
set_option maxRecDepth 100000
set_option maxHeartbeats 8000000
namespace Mine
/-- the table of the code that _law_dealt makes, ahead of its first lambda and behind it -/
def TabPart (tp : Led) : Prop := tp = [(154, tabObj #[])] ∨
  ∃ (c' : Addr) (oc : Obj) (vs : Array Value) (t : Tok), tp = [(c', oc), (154, tabObj (#[] ++ #[rawInt ((151 : Nat) : Int), rawInt ((32 : Nat) : Int), .ref c']))] ∧ oc.data = .fields vs ∧ vs[1]? = some (.str (Str.ofString "_law_dealt" ++ ".<locals>." ++ Str.ofString "<lambda>") t)
def DJ (lz : Addr) (vz : List Value) (nz : Nat) (news : Led) (ns : List Int) (rs : List Nat) (i : Nat) (m : Str → Option Value) (nx : Led) : Prop :=
  ∃ (lf : Addr) (us : List Value) (cc : Nat) (ss : List Str) (d : Int) (td : Tok) (tp : Led),
    nx = (lf, listOf us.toArray cc) :: (tp ++ (lz, listOf vz.toArray nz) :: news) ∧ TabPart tp ∧ StrsAre us ss ∧ (∀ s ∈ ss, IsLine s) ∧ ss.length ≤ 4 ∧ @LT.lt Nat _ 154 lf ∧ (ss.map rm, d) = deals rs (ns.take i) ∧
    m "left" = some (.ref lf) ∧ m "dealt" = some (.int d td)
theorem deal_map {x : Str} {v : Value} {m : Str → Option Value} {a b : Value} (h1 : m "left" = some a) (h2 : m "dealt" = some b) (hx1 : x ≠ "left") (hx2 : x ≠ "dealt") :
    (fun y => if y = x then some v else m y) = fun y => if y = x then some v else if y = "left" then some a else if y = "dealt" then some b else m y := by
  funext y
  by_cases e : y = x
  · simp [e]
  · simp only [if_neg e]
    by_cases e1 : y = "left"
    · subst e1; simp [h1]
    · simp only [if_neg e1]
      by_cases e2 : y = "dealt"
      · subst e2; simp [h2]
      · simp only [if_neg e2]
theorem deal_map0 {m : Str → Option Value} {a b : Value} (h1 : m "left" = some a) (h2 : m "dealt" = some b) :
    m = fun y => if y = Str.ofString "left" then some a else if y = Str.ofString "dealt" then some b else m y := by
  funext y
  by_cases e1 : y = "left"
  · subst e1; simp [h1]
  · simp only [if_neg e1]
    by_cases e2 : y = "dealt"
    · subst e2; simp [h2]
    · simp only [if_neg e2]
theorem ints_item : ∀ {vs : List Value} {ns : List Int}, IntsAre vs ns → ∀ {i : Nat} {v : Value}, vs[i]? = some v → ∃ n t, v = .int n t ∧ ns[i]? = some n
  | _, _, .nil, _, _, h => by simp at h
  | _, _, .cons n t _, 0, v, h => ⟨n, t, by simpa using h.symm, rfl⟩
  | _, _, .cons _ _ r, i + 1, v, h => ints_item r (i := i) (by simpa using h)
theorem deal_end {lz D : Addr} {vz us₂ : List Value} {nz cc₂ i tk : Nat} {news news' own tp : Led} {ns : List Int} {rs : List Nat} {ss₁ ss₂ ss9 : List Str} {d d₂ n : Int} {td₂ : Tok} {h₀ h' : Heap} {L : Addr} {m' : Str → Option Value} {s₁ : Shared}
    (hT : TabPart tp) (F : Fr h₀ L h' m') (N : News h₀ L h' news') (hm1 : m' "left" = some (.ref D)) (hm2 : m' "dealt" = some (.int d₂ td₂)) (hoff : OwnOff own (D :: (tp.map (·.1) ++ lz :: news.map (·.1))))
    (hP : PJ (isort (ss₁.map rm)) d (if (ss9.length : Int) < n then (ss9.length : Int) else n).toNat us₂ ss₂ d₂) (hp9 : ss9.Perm ss₁) (hl : ss9.length ≤ 4) (hlt : @LT.lt Nat _ 154 D) (hn : ns[i]? = some n)
    (hd : (ss₁.map rm, d) = deals rs (ns.take i)) (hsub : ∀ p ∈ (D, listOf us₂.toArray cc₂) :: (tp ++ (lz, listOf vz.toArray nz) :: news), p ∈ news') (hown : ∀ p ∈ own, p ∈ news') :
    InvEndG h₀ L (fun m' nx => (lz, listOf vz.toArray nz) ∈ nx ∧ DJ lz vz nz news ns rs (i + 1) m' nx) own s₁ { s₁ with heap := h', toks := tk } := by
  have e1 : (isort (ss₁.map rm)).length = ss9.length := by rw [(isort_perm _).length_eq, List.length_map, hp9.length_eq]
  refine ⟨h', tk, m', news', _, rfl, F, N, hsub, hown, ?_, by simp, D, us₂, cc₂, ss₂, d₂, td₂, tp, rfl, hT, hP.stx, hP.lnx, ?_, hlt, ?_, hm1, hm2⟩
  · simpa only [List.map_cons, List.map_append] using hoff
  · rw [hP.len, e1]; exact hl
  · have e2 : ns.take (i + 1) = ns.take i ++ [n] := by rw [List.take_add_one, hn]; rfl
    have e3 : (if (ss9.length : Int) < n then (ss9.length : Int) else n) = min n (ss9.length : Int) := by split <;> omega
    rw [e2, deals_snoc, ← hd, hP.rox, hP.dex, e1, e3]
abbrev tab9 (c8 : Addr) : Obj := tabObj (#[] ++ #[rawInt ((151 : Nat) : Int), rawInt ((32 : Nat) : Int), .ref c8])
theorem off_cons {own : Led} {b : Addr} {l : List Addr} (h1 : ∀ p ∈ own, p.1 ≠ b) (h2 : OwnOff own l) : OwnOff own (b :: l) := fun p hp c hc => by
  rcases List.mem_cons.mp hc with rfl | hc
  · exact h1 p hp
  · exact h2 p hp c hc
theorem deal_end1 {lz D lf f8 c8 : Addr} {vz us₂ : List Value} {nz cc₂ i tk : Nat} {news own : Led} {of8 oc8 olf : Obj} {ns : List Int} {rs : List Nat} {ss₁ ss₂ ss9 : List Str} {d d₂ n : Int} {td₂ t : Tok} {h₀ h' : Heap} {L : Addr} {m' : Str → Option Value} {s₁ : Shared} {vs : Array Value}
    (F : Fr h₀ L h' m') (N : News h₀ L h' ((D, listOf us₂.toArray cc₂) :: (f8, of8) :: (c8, oc8) :: (lf, olf) :: (154, tab9 c8) :: (lz, listOf vz.toArray nz) :: (news ++ own)))
    (l9 : ∀ q ∈ (f8, of8) :: (c8, oc8) :: (lf, olf) :: (154, tab9 c8) :: (lz, listOf vz.toArray nz) :: (news ++ own), q.1 < D)
    (hd1 : oc8.data = .fields vs) (hd2 : vs[1]? = some (.str (Str.ofString "_law_dealt" ++ ".<locals>." ++ Str.ofString "<lambda>") t)) (l1 : @LT.lt Nat _ lf c8 ∧ @LT.lt Nat _ 154 c8 ∧ @LT.lt Nat _ lz c8 ∧ AllLt c8 (news ++ own)) (hoff : OwnOff own (lf :: 154 :: lz :: news.map (·.1)))
    (hm1 : m' "left" = some (.ref D)) (hm2 : m' "dealt" = some (.int d₂ td₂))
    (hP : PJ (isort (ss₁.map rm)) d (if (ss9.length : Int) < n then (ss9.length : Int) else n).toNat us₂ ss₂ d₂) (hp9 : ss9.Perm ss₁) (hl : ss9.length ≤ 4) (hlt : @LT.lt Nat _ 154 lf) (hn : ns[i]? = some n)
    (hd : (ss₁.map rm, d) = deals rs (ns.take i)) :
    InvEndG h₀ L (fun m' nx => (lz, listOf vz.toArray nz) ∈ nx ∧ DJ lz vz nz news ns rs (i + 1) m' nx) own s₁ { s₁ with heap := h', toks := tk } := by
  refine deal_end (cc₂ := cc₂) (tp := [(c8, oc8), (154, tab9 c8)]) (.inr ⟨c8, oc8, vs, t, rfl, hd1, hd2⟩) F N hm1 hm2 ?_ hP hp9 hl (Nat.lt_trans hlt (l9 (lf, olf) (by simp))) hn hd (fun p hp => ?_) (fun p hp => by simp [hp])
  · refine off_cons (fun p hp => Nat.ne_of_lt (l9 p (by simp [hp]))) ?_
    refine off_cons (fun p hp => Nat.ne_of_lt (kst_ltOf l1.2.2.2 p (by simp [hp]))) ?_
    exact fun p hp b hb => hoff p hp b (List.mem_cons_of_mem _ hb)
  · simp only [List.cons_append, List.nil_append, List.mem_cons, List.mem_append] at hp ⊢
    rcases hp with h | h | h | h | h <;> simp [h]
theorem deal_end2 {lz D lf f8 c8 : Addr} {vz us₂ : List Value} {nz cc₂ i tk : Nat} {news own : Led} {of8 oc8 olf : Obj} {ns : List Int} {rs : List Nat} {ss₁ ss₂ ss9 : List Str} {d d₂ n : Int} {td₂ t : Tok} {h₀ h' : Heap} {L : Addr} {m' : Str → Option Value} {s₁ : Shared} {vs : Array Value}
    (F : Fr h₀ L h' m') (N : News h₀ L h' ((D, listOf us₂.toArray cc₂) :: (f8, of8) :: (lf, olf) :: (c8, oc8) :: (154, tab9 c8) :: (lz, listOf vz.toArray nz) :: (news ++ own)))
    (l9 : ∀ q ∈ (f8, of8) :: (lf, olf) :: (c8, oc8) :: (154, tab9 c8) :: (lz, listOf vz.toArray nz) :: (news ++ own), q.1 < D)
    (hd1 : oc8.data = .fields vs) (hd2 : vs[1]? = some (.str (Str.ofString "_law_dealt" ++ ".<locals>." ++ Str.ofString "<lambda>") t)) (hoff : OwnOff own (lf :: c8 :: 154 :: lz :: news.map (·.1)))
    (hm1 : m' "left" = some (.ref D)) (hm2 : m' "dealt" = some (.int d₂ td₂))
    (hP : PJ (isort (ss₁.map rm)) d (if (ss9.length : Int) < n then (ss9.length : Int) else n).toNat us₂ ss₂ d₂) (hp9 : ss9.Perm ss₁) (hl : ss9.length ≤ 4) (hlt : @LT.lt Nat _ 154 lf) (hn : ns[i]? = some n)
    (hd : (ss₁.map rm, d) = deals rs (ns.take i)) :
    InvEndG h₀ L (fun m' nx => (lz, listOf vz.toArray nz) ∈ nx ∧ DJ lz vz nz news ns rs (i + 1) m' nx) own s₁ { s₁ with heap := h', toks := tk } := by
  refine deal_end (cc₂ := cc₂) (tp := [(c8, oc8), (154, tab9 c8)]) (.inr ⟨c8, oc8, vs, t, rfl, hd1, hd2⟩) F N hm1 hm2 ?_ hP hp9 hl (Nat.lt_trans hlt (l9 (lf, olf) (by simp))) hn hd (fun p hp => ?_) (fun p hp => by simp [hp])
  · refine off_cons (fun p hp => Nat.ne_of_lt (l9 p (by simp [hp]))) ?_
    exact fun p hp b hb => hoff p hp b (List.mem_cons_of_mem _ hb)
  · simp only [List.cons_append, List.nil_append, List.mem_cons, List.mem_append] at hp ⊢
    rcases hp with h | h | h | h | h <;> simp [h]
theorem line_short {s : Str} (h : IsLine s) : s.length ≤ 20 := by
  obtain ⟨b, r, hr, rfl⟩ := h
  rw [line_len]; omega
abbrev CallD (w : World) (vs : List Value) (x : Int) (pre : Led → Prop) (post : Led → Prop) : Prop :=
  ∀ (p : Program) (loose : List Str) (mean : ExcName → Option Value) (mg mb : Str → Option Value) (dp un : Nat) (gd : Option (List Code)) (cn : Str) (cs : Scope) (a : Addr) (ccd : Value) (cl : List (Str × Addr)) (outer : List Env) (A₀ : Around) (base h₀ : Heap) (L : Addr) (m : Str → Option Value) (news : Led) (s : Shared) (Q E : Value → Shared → Prop),
    Below A₀ base outer h₀ → Fr h₀ L s.heap m → (hd.heap_39 w.params).In h₀ → News h₀ L s.heap news → Top p loose mean mg mb h₀ → cs.kind = .function → CodeHd h₀ 158 154 → pre news → dp + 3 < recursionLimit → un + 24 < cLine →
    (∀ (t : Tok) (h' : Heap) (tk' : Nat) (news' : Led), Fr h₀ L h' m → News h₀ L h' news' → post news' → Q (.int x t) { s with heap := h', toks := tk' }) →
      wpAny (model PySem.Challenge.rw_wu0030_01.row.prog w) (ktrTop dp un gd cn cs L a ccd cl outer) (call (.ref 159) vs) Q E s
theorem c_dealt (w : World) (lz ll : Addr) (vz us : List Value) (ns : List Int) (ss : List Str) (nz cc : Nat) (news : Led) (hi : IntsAre vz ns) (hns : ∀ n ∈ ns, 0 ≤ n ∧ n ≤ 5) (hS : StrsAre us ss) (hL : ∀ s ∈ ss, IsLine s) (hl4 : ss.length ≤ 4) (hll : @LT.lt Nat _ 154 ll) (hlz : @LT.lt Nat _ 154 lz) (hnw : OwnOff news [154]) :
    CallD w [.ref lz, .ref ll] (deals (ss.map rm) ns).2 (fun l => l = (ll, listOf us.toArray cc) :: ((154, tabObj #[]) :: (lz, listOf vz.toArray nz) :: news)) (fun l => ∃ ps, (154, tabObj ps) ∈ l) := by
  w_on
  unfold CallD
  k_fill
  intro p loose mean mg mb dp un gd cn cs a ccd cl outer A₀ base h₀ L m news' s Q E B F X N T hkk hcode hpre hdp hun hret
  subst hpre
  refine wpAny_call ?_
  k_dflt cell_enter
  have kmk9 : KstMark := kstMark
  have hcode9 := hcode.keeps (Fr.keep (by assumption))
  k_with "call builtin:sorted" => (
    (rename Fr _ _ _ _ => lF'); (rename News _ _ _ _ => lN');
    (with_unfolding_all refine' sorted_by_len lF' lN' ?shl (by assumption) (by omega) ?_ ?_);
    (case shl => kso_list);
    clear lF' lN'; intro x9 t9 hx9 h9 tk9 own9 F9 N9; (have hxl9 : x9.length ≤ 20 := line_short (hL₁ x9 hx9));
    rotate_left;
    clear lF' lN'; intro D9 h9 tk9 us9 ss9 c9 F9 N9 l9 hS9 hp9 hs9; (have hlen9 : ss9.length ≤ 4 := Nat.le_trans (Nat.le_of_eq hp9.length_eq) (by assumption));
    rotate_left;
    (all_goals (try simp only [List.nil_append, List.cons_append, List.append_nil] at N9)))
  k_with "call ref" => (k_dflt (refine wpAny_call ?_; (refine' kla_code ?k1 ?k2 ?k3 ?k4 ?k5 ?kA ?kF ?kK ?k6 ?k7 ?k8 ?k9 ?kB ?_ ?c2 ?c3 ?c4 ?c5; (case kA => exact rfl); (case kF => exact rfl); (case kK => exact rfl); (case k1 => k_asm); (case k2 => k_asm); (case k3 => k_asm); (case k4 => k_asm); (case k5 => k_asm); (case k6 => k_mem); (case k7 => exact codeRec_news (by k_asm) (by k_mem) (by assumption) (by assumption)); (case k8 => ktr_room); (case k9 => exact rfl); (case c5 => decide); (case kB => exact locs rfl); (case c2 => exact rfl); (case c3 => exact rfl); (case c4 => exact rfl); k_whole; intro g' L' h' FG' F' N' B' X' T'; (try dsimp only); (try k_lift B'); (try k_fold))))
  k_with "pyIter ref" => (k_of "size" => (
    (rename Fr _ _ _ _ => lF'); (rename News _ _ _ _ => lN');
    (with_unfolding_all refine' kdl_iter (l := lz) (vs := vz) (nn := nz) (fun i m nx => DJ lz vz nz news ns (ss.map rm) i m nx) (by rfl) ?ohl lF' lN' ?ohj ?_ ?_);
    (case ohl => simp);
    (case ohj => exact ⟨ll, us, cc, ss, 0, _, [(154, tabObj #[])], rfl, .inl rfl, hS, hL, hl4, hll, rfl, rfl, rfl⟩);
    clear lF' lN';
    rintro i v m₁ nx₁ h tk own hv hoff hmem ⟨lf, us₁, cc₁, ss₁, d, td, tp, rfl, hT, hS₁, hL₁, hl₁, hlt₁, hd₁, hm1, hm2⟩ F₁ N₁;
    (obtain ⟨n, tn, rfl, hn⟩ := ints_item hi hv);
    (rw [deal_map hm1 hm2 (by decide) (by decide)] at F₁);
    rotate_left;
    clear lF' lN';
    rintro m₁ nx₁ h tk ⟨lf, us₁, cc₁, ss₁, d, td, tp, rfl, hT, hS₁, hL₁, hl₁, hlt₁, hd₁, hm1, hm2⟩ F₁ N₁;
    (rw [List.take_of_length_le (Nat.le_of_eq (IntsAre.length hi).symm)] at hd₁);
    (rw [deal_map0 hm1 hm2] at F₁);
    rotate_left;
    (rcases hT with rfl | ⟨c', oc, vc, tq, rfl, hd1, hd2⟩ <;> simp only [List.cons_append, List.nil_append, List.map_cons] at N₁ hoff)))
  k_with "pyIter ref" => (k_of "place" => (
    (rename Fr _ _ _ _ => lF'); (rename News _ _ _ _ => lN'); (rename IsRange _ _ _ _ _ _ _ _ => rgX);
    (have hn9 := hns n (List.mem_of_getElem? hn));
    (with_unfolding_all refine' place_iter (rs := isort (ss₁.map rm)) (by rfl) rgX ?pb lF' lN' ?pd hS9 (fun s hs => hL₁ s (hp9.mem_iff.mp hs)) (rooms_sorted hL₁ hp9 hs9) ?pe (by rfl) (by rfl) ?_ ?_);
    (case pb => split <;> omega);
    (case pd => exact fun p hp => Nat.ne_of_lt (l9 p hp));
    (case pe => split <;> omega);
    clear lF' lN' rgX;
    intro j us₂ ss₂ cc₂ d₂ td₂ t₂ u₂ h₂ tk₂ own₂ hjb hjl hne₂ hP₂ F₂ N₂;
    (obtain ⟨x₂, hx₂⟩ : ∃ x, ss₂[j]? = some x := ⟨ss₂[j], List.getElem?_eq_getElem hjl⟩);
    (obtain ⟨b₂, r₂, hr₂, rfl⟩ := hP₂.lnx x₂ (List.mem_of_getElem? hx₂));
    rotate_left;
    clear lF' lN' rgX;
    intro us₂ ss₂ cc₂ d₂ td₂ u₂ h₂ tk₂ hP₂ hu1 hu2 F₂ N₂;
    (rw [deal_map0 hu1 hu2] at F₂);
    rotate_left))
  k_with "subscriptTail Name Name ref int" => (refine item_txt (by assumption) (.head _) hP₂.stx (by omega) (by omega) hx₂ ?_; intro _)
  k_with "call ref" => (
    (refine' CallV.use (c_strip _ _ _ _ _ _ hr₂ rfl) ?k1 ?k2 ?k3 ?k4 ?k5 ?k6 ?k7 ?k8 ?k9 ?_; (case k1 => k_asm); (case k2 => k_asm); (case k3 => k_asm); (case k4 => k_asm); (case k5 => k_asm); (case k6 => first | exact rfl | assumption); (case k7 => trivial); (case k8 => ktr_room); (case k9 => ktr_units); intro t9 h9 tk9 F9 N9; (try dsimp only); (try k_fold)))
  k_with "setItem ref int str" => (refine set_txt (by assumption) (by assumption) hne₂ (by omega) (by have := hP₂.stx.length; omega) (by omega) ?_; intro h9 F9 N9)
  k_with "InvEndN" => (first | exact place_end (by assumption) (by assumption) (by rfl) (by rfl) (hP₂.hit hx₂ hr₂ (by assumption)) | exact place_end (by assumption) (by assumption) (by rfl) (by rfl) (hP₂.none hx₂ (by assumption)))
  k_steps
  · exact deal_end1 F₂ N₂ l9 (by assumption) (by assumption) (by assumption) hoff rfl rfl hP₂ hp9 hlen9 hlt₁ hn hd₁
  · exact deal_end2 F₂ N₂ l9 hd1 hd2 hoff rfl rfl hP₂ hp9 hlen9 hlt₁ hn hd₁
  · have hx : d = (deals (ss.map rm) ns).2 := congrArg Prod.snd hd₁
    subst hx
    refine hret _ _ _ _ (by assumption) (by assumption) ?_
    rcases hT with rfl | ⟨c', oc, vc, tq, rfl, _, _⟩
    · exact ⟨_, .tail _ (.head _)⟩
    · exact ⟨_, .tail _ (.tail _ (.head _))⟩
end Mine
end

/-! MGale -/
section
set_option maxRecDepth 100000
set_option linter.unusedSimpArgs false
namespace Mine
/-- the least price of all k -/
def Gm (h : Nat → Int) : Nat → List Nat → Int
  | k, [] => h k
  | k, x :: r => min (h k + ((x + r.sum : Nat) : Int)) (Gm h (k + 1) r)
theorem gm_le (h : Nat → Int) : ∀ (q : List Nat) (k₀ k : Nat), k ≤ q.length → Gm h k₀ q ≤ h (k₀ + k) + (((q.drop k).sum : Nat) : Int)
  | [], k₀, k, hk => by
    obtain rfl : k = 0 := by simpa using hk
    simp [Gm]
  | x :: r, k₀, 0, _ => by
    unfold Gm
    simp only [Nat.add_zero, List.drop_zero, List.sum_cons]
    exact Int.min_le_left _ _
  | x :: r, k₀, k + 1, hk => by
    have ih := gm_le h r (k₀ + 1) k (by simpa using hk)
    unfold Gm
    rw [show k₀ + (k + 1) = k₀ + 1 + k by omega, List.drop_succ_cons]
    exact Int.le_trans (Int.min_le_right _ _) ih
theorem gm_ex (h : Nat → Int) : ∀ (q : List Nat) (k₀ : Nat), ∃ k, k ≤ q.length ∧ Gm h k₀ q = h (k₀ + k) + (((q.drop k).sum : Nat) : Int)
  | [], k₀ => ⟨0, Nat.le_refl _, by simp [Gm]⟩
  | x :: r, k₀ => by
    obtain ⟨k, hk, e⟩ := gm_ex h r (k₀ + 1)
    unfold Gm
    by_cases c : h k₀ + ((x + r.sum : Nat) : Int) ≤ Gm h (k₀ + 1) r
    · exact ⟨0, Nat.zero_le _, by rw [Int.min_eq_left c]; simp⟩
    · refine ⟨k + 1, by simpa using hk, ?_⟩
      rw [Int.min_eq_right (by omega), e, show k₀ + (k + 1) = k₀ + 1 + k by omega, List.drop_succ_cons]
structure Conc (h : Nat → Int) : Prop where
  c : ∀ k, h k + h (k + 2) ≤ 2 * h (k + 1)
  u : ∀ k, h k ≤ h (k + 1)
theorem Conc.mono {h : Nat → Int} (c : Conc h) {i : Nat} : ∀ {k : Nat}, i ≤ k → h i ≤ h k
  | 0, hk => by obtain rfl : i = 0 := by omega
                exact Int.le_refl _
  | k + 1, hk => by
    by_cases e : i = k + 1
    · exact e ▸ Int.le_refl _
    · exact Int.le_trans (c.mono (by omega : i ≤ k)) (c.u k)
theorem Conc.dec {h : Nat → Int} (c : Conc h) (k : Nat) : ∀ n, h (k + n + 1) - h (k + n) ≤ h (k + 1) - h k
  | 0 => Int.le_refl _
  | n + 1 => by
    have x := c.dec k n
    have y := c.c (k + n)
    rw [show k + (n + 1) + 1 = k + n + 2 by omega, show k + (n + 1) = k + n + 1 by omega]
    omega
theorem Conc.up {h : Nat → Int} (c : Conc h) (k : Nat) : ∀ n : Nat, h (k + 1 + n) - h (k + 1) ≤ (n : Int) * (h (k + 1) - h k)
  | 0 => by simp
  | n + 1 => by
    have x := c.up k n
    have y := c.dec k (n + 1)
    rw [show k + (n + 1) + 1 = k + 1 + (n + 1) by omega, show k + (n + 1) = k + 1 + n by omega] at y
    have e : ((n + 1 : Nat) : Int) * (h (k + 1) - h k) = (n : Int) * (h (k + 1) - h k) + (h (k + 1) - h k) := by
      rw [Int.natCast_add, Int.add_mul]; simp
    omega
theorem Conc.down {h : Nat → Int} (c : Conc h) (i : Nat) : ∀ m : Nat, ((m + 1 : Nat) : Int) * (h (i + m + 1) - h (i + m)) ≤ h (i + m + 1) - h i
  | 0 => by simp
  | m + 1 => by
    have x := c.down i m
    have y := c.c (i + m)
    rw [show i + (m + 1) + 1 = i + m + 2 by omega, show i + (m + 1) = i + m + 1 by omega]
    have z : ((m + 1 : Nat) : Int) * (h (i + m + 2) - h (i + m + 1)) ≤ ((m + 1 : Nat) : Int) * (h (i + m + 1) - h (i + m)) := Int.mul_le_mul_of_nonneg_left (by omega) (by omega)
    have e : ((m + 1 + 1 : Nat) : Int) * (h (i + m + 2) - h (i + m + 1)) = ((m + 1 : Nat) : Int) * (h (i + m + 2) - h (i + m + 1)) + (h (i + m + 2) - h (i + m + 1)) := by
      rw [Int.natCast_add (m + 1) 1, Int.add_mul]; simp
    omega
/-- whole steps: the price at k is matched on the left or on the right -/
theorem Conc.cross {h : Nat → Int} (c : Conc h) {i k t a b d : Nat} (hi : i < k) (h1 : d ≤ b) (h2 : a ≤ b + (k - i) * ((b - d) / (t + 1) + 1)) :
    h i + (a : Int) ≤ h k + (b : Int) ∨ h (k + 1 + t) + (d : Int) ≤ h k + (b : Int) := by
  obtain ⟨m, rfl⟩ : ∃ m, k = i + m + 1 := ⟨k - i - 1, by omega⟩
  have u := c.up (i + m) (t + 1)
  rw [show i + m + 1 + (t + 1) = i + m + 1 + 1 + t by omega] at u
  have w := c.down i m
  rw [show i + m + 1 - i = m + 1 by omega] at h2
  generalize h (i + m + 1) - h (i + m) = g at u w
  generalize hq : (b - d) / (t + 1) = q at h2
  by_cases hg : g ≤ (q : Int)
  · right
    have x : ((t + 1 : Nat) : Int) * g ≤ ((t + 1 : Nat) : Int) * (q : Int) := Int.mul_le_mul_of_nonneg_left hg (by omega)
    have y : (t + 1) * q ≤ b - d := by rw [← hq]; exact Nat.mul_div_le ..
    have y' : ((t + 1 : Nat) : Int) * (q : Int) ≤ (b : Int) - d := by rw [← Int.natCast_mul]; omega
    omega
  · left
    have x : ((m + 1 : Nat) : Int) * ((q + 1 : Nat) : Int) ≤ ((m + 1 : Nat) : Int) * g := Int.mul_le_mul_of_nonneg_left (by omega) (by omega)
    rw [← Int.natCast_mul] at x
    omega
/-- the price ahead of a giver and behind it, each without the rest's part -/
def cnt (m : Nat) (q : List Nat) : Nat := ((q.take m).filter (0 < ·)).length
def cA (s : Nat) (q : List Nat) (k : Nat) : Nat := min s k + (q.drop k).sum
def cB (s : Nat) (q : List Nat) (k : Nat) : Nat := cnt (min s q.length) q + ((isort (part (min s q.length) q)).drop k).sum
def okB (s : Nat) (q : List Nat) : Bool := (List.range (q.length + 1)).all fun k => decide (cB s q k ≤ cA s q k) &&
  (decide (cA s q k ≤ cB s q k) || (List.range k).any fun i => decide (cA s q i ≤ cB s q k) || (List.range (q.length - k)).any fun t => decide (cA s q (k + 1 + t) ≤ cB s q k) && decide (cA s q i ≤ cB s q k + (k - i) * ((cB s q k - cA s q (k + 1 + t)) / (t + 1) + 1)))
theorem ok4 : ((List.range 5).all fun a => (List.range (a + 1)).all fun b => (List.range (b + 1)).all fun c => (List.range (c + 1)).all fun d => (List.range 6).all fun s => okB s [a, b, c, d]) = true := by decide +kernel
theorem ok3 : ((List.range 5).all fun a => (List.range (a + 1)).all fun b => (List.range (b + 1)).all fun c => (List.range 6).all fun s => okB s [a, b, c]) = true := by decide +kernel
theorem ok2 : ((List.range 5).all fun a => (List.range (a + 1)).all fun b => (List.range 6).all fun s => okB s [a, b]) = true := by decide +kernel
theorem ok_all {q : List Nat} {s : Nat} (hq : q.Pairwise fun a b => b ≤ a) (hl : 2 ≤ q.length ∧ q.length ≤ 4) (h4 : ∀ x ∈ q, x ≤ 4) (hs : s ≤ 5) : okB s q = true := by
  match q, hq, hl, h4 with
  | [a, b], hq, _, h4 =>
    simp only [List.pairwise_cons, List.mem_cons, List.not_mem_nil, or_false, forall_eq_or_imp, forall_eq] at hq h4
    have x := ok2
    simp only [List.all_eq_true, List.mem_range] at x
    exact x a (by omega) b (by omega) s (by omega)
  | [a, b, c], hq, _, h4 =>
    simp only [List.pairwise_cons, List.mem_cons, List.not_mem_nil, or_false, forall_eq_or_imp, forall_eq] at hq h4
    have x := ok3
    simp only [List.all_eq_true, List.mem_range] at x
    exact x a (by omega) b (by omega) c (by omega) s (by omega)
  | [a, b, c, d], hq, _, h4 =>
    simp only [List.pairwise_cons, List.mem_cons, List.not_mem_nil, or_false, forall_eq_or_imp, forall_eq] at hq h4
    have x := ok4
    simp only [List.all_eq_true, List.mem_range] at x
    exact x a (by omega) b (by omega) c (by omega) d (by omega) s (by omega)
  | [], _, hl, _ => simp at hl
  | [_], _, hl, _ => simp at hl
  | _ :: _ :: _ :: _ :: _ :: _, _, hl, _ => simp at hl
theorem isort_len (l : List Nat) : (isort l).length = l.length := (isort_perm l).length_eq
theorem part_len' {i : Nat} {rs : List Nat} : (part i rs).length = rs.length := by
  unfold part; simp; omega
theorem part_le {i : Nat} {rs : List Nat} (h : ∀ x ∈ rs, x ≤ 4) : ∀ x ∈ part i rs, x ≤ 4 := by
  intro x hx
  unfold part at hx
  rcases List.mem_append.mp hx with hx | hx
  · obtain ⟨y, hy, rfl⟩ := List.mem_map.mp hx
    have := h y (List.mem_of_mem_take hy)
    omega
  · exact h x (List.mem_of_mem_drop hx)
theorem isort_le {l : List Nat} (h : ∀ x ∈ l, x ≤ 4) : ∀ x ∈ isort l, x ≤ 4 := fun x hx => h x ((isort_perm l).mem_iff.mp hx)
theorem gm_nat {h : Nat → Int} (c : Conc h) {q : List Nat} {s : Nat} (ok : okB s q = true) :
    Gm (fun k => min (s : Int) (k : Int) + h k) 0 q = count (min s q.length) q + Gm h 0 (isort (part (min s q.length) q)) := by
  simp only [okB, List.all_eq_true, List.mem_range, Bool.and_eq_true, Bool.or_eq_true, decide_eq_true_eq, List.any_eq_true] at ok
  have hl : (isort (part (min s q.length) q)).length = q.length := by rw [isort_len, part_len']
  have le : ∀ k, k ≤ q.length → Gm (fun k => min (s : Int) (k : Int) + h k) 0 q ≤ h k + (cA s q k : Int) := fun k hk => by
    have x := gm_le (fun k => min (s : Int) (k : Int) + h k) q 0 k hk
    simp only [Nat.zero_add] at x
    have e : (cA s q k : Int) = min (s : Int) (k : Int) + (((q.drop k).sum : Nat) : Int) := by unfold cA; omega
    omega
  apply Int.le_antisymm
  · obtain ⟨k, hk, e⟩ := gm_ex h (isort (part (min s q.length) q)) 0
    rw [hl] at hk
    have eB : count (min s q.length) q + Gm h 0 (isort (part (min s q.length) q)) = h k + (cB s q k : Int) := by
      rw [e, Nat.zero_add]
      have : (cB s q k : Int) = count (min s q.length) q + ((((isort (part (min s q.length) q)).drop k).sum : Nat) : Int) := by
        unfold cB count cnt; omega
      omega
    rw [eB]
    rcases (ok k (by omega)).2 with x | ⟨i, hi, x | ⟨t, ht, x1, x2⟩⟩
    · have := le k hk
      omega
    · have y := le i (by omega)
      have z := c.mono (Nat.le_of_lt hi)
      omega
    · have y1 := le i (by omega)
      have y2 := le (k + 1 + t) (by omega)
      rcases c.cross hi x1 x2 with z | z <;> omega
  · obtain ⟨k, hk, e⟩ := gm_ex (fun k => min (s : Int) (k : Int) + h k) q 0
    have x := gm_le h (isort (part (min s q.length) q)) 0 k (by omega)
    have y := (ok k (by omega)).1
    rw [e]
    simp only [Nat.zero_add] at x ⊢
    unfold cA cB cnt at y
    unfold count
    omega
theorem conc_one {s : Int} (hs : 0 ≤ s) : Conc fun k => min s (k : Int) := ⟨fun k => by omega, fun k => by omega⟩
/-- how much the rest can give is concave in the number of boxes -/
theorem conc_tot : ∀ ns : List Int, (∀ n ∈ ns, 0 ≤ n) → Conc fun k => ((ns.map fun s => min s (k : Int)).sum)
  | [], _ => ⟨fun k => by simp, fun k => by simp⟩
  | n :: r, h => by
    obtain ⟨c, u⟩ := conc_tot r fun m hm => h m (List.mem_cons_of_mem _ hm)
    obtain ⟨c', u'⟩ := conc_one (h n (List.mem_cons_self ..))
    constructor
    · intro k
      simp only [List.map_cons, List.sum_cons]
      have := c k
      have := c' k
      omega
    · intro k
      simp only [List.map_cons, List.sum_cons]
      have := u k
      have := u' k
      omega
def dealsFrom (p : List Nat × Int) (ns : List Int) : List Nat × Int :=
  ns.foldl (fun p n => let q := isort p.1; (part (min n (q.length : Int)).toNat q, p.2 + count (min n (q.length : Int)).toNat q)) p
theorem gm_zero : ∀ (k : Nat) (q : List Nat), Gm (fun _ => 0) k q = 0
  | _, [] => rfl
  | k, x :: r => by unfold Gm; rw [gm_zero (k + 1) r]; omega
theorem gm_step {h : Nat → Int} (c : Conc h) {q : List Nat} (hq : q.Pairwise fun a b => b ≤ a) (hl : 2 ≤ q.length ∧ q.length ≤ 4) (h4 : ∀ x ∈ q, x ≤ 4) {s : Int} (hs : 0 ≤ s ∧ s ≤ 5) :
    Gm (fun k => min s k + h k) 0 q = count (min s (q.length : Int)).toNat q + Gm h 0 (isort (part (min s (q.length : Int)).toNat q)) := by
  obtain ⟨n, rfl⟩ := Int.eq_ofNat_of_zero_le hs.1
  have e : (min ((n : Nat) : Int) (q.length : Int)).toNat = min n q.length := by omega
  rw [e]
  exact gm_nat c (ok_all hq hl h4 (by omega))
theorem gale : ∀ (ns : List Int) (rs : List Nat) (d : Int), (∀ n ∈ ns, 0 ≤ n ∧ n ≤ 5) → 2 ≤ rs.length ∧ rs.length ≤ 4 → (∀ x ∈ rs, x ≤ 4) →
    (dealsFrom (rs, d) ns).2 = d + Gm (fun k => (ns.map fun s => min s (k : Int)).sum) 0 (isort rs)
  | [], rs, d, _, _, _ => by
    show d = d + Gm (fun _ => 0) 0 _
    rw [gm_zero]; omega
  | n :: r, rs, d, hn, hl, h4 => by
    have hl' : 2 ≤ (isort rs).length ∧ (isort rs).length ≤ 4 := by rw [isort_len]; exact hl
    have ih := gale r (part (min n ((isort rs).length : Int)).toNat (isort rs)) (d + count (min n ((isort rs).length : Int)).toNat (isort rs)) (fun m hm => hn m (List.mem_cons_of_mem _ hm)) (by rw [part_len']; exact hl') (part_le (isort_le h4))
    show (dealsFrom (part (min n ((isort rs).length : Int)).toNat (isort rs), d + count (min n ((isort rs).length : Int)).toNat (isort rs)) r).2 = _
    rw [ih]
    have c := conc_tot r fun m hm => (hn m (List.mem_cons_of_mem _ hm)).1
    have st := gm_step c (isort_sorted rs) hl' (isort_le h4) (hn n (List.mem_cons_self ..))
    simp only [List.map_cons, List.sum_cons]
    rw [st]; omega
end Mine
end

/-! MGen1 -/
section
open PySem PySem.W PyProof.Rows PySem.Calls PySem.Spec
namespace Mine
section
variable {M : Model} {A : Around} {R : GenEnd} {Y : Protocol} {n : Nat} {s₀ : Shared} {c : Code} {fs : List Frame} {s : Shared} {env : Env}
  {K : Flow → Sem Fin} {H : Value → Sem Fin} {gd : Bool → Bool} {lv : List Value → List Value}

/-- one statement that yields nothing -/
theorem seg_plain {st : Stmt} (h : wpAny M (A.over c fs) (exec st env) (fun f s' => Seg M A R Y n s₀ c (K f) fs s') (fun x s' => Seg M A R Y n s₀ c (H x) fs s') s) :
    Seg M A R Y n s₀ c ((exec st env).wrap K H gd lv) fs s := seg_wrap h

theorem seg_If {test : Expr} {body orelse : List Stmt} {pos : Pos}
    (h : wpAny M (A.over c fs) (isTrue test env (eval test env)) (fun b s' => Seg M A R Y n s₀ c ((if b = true then execs body env else execs orelse env).wrap K H gd lv) fs s')
      (fun x s' => Seg M A R Y n s₀ c (H x) fs s') s) :
    Seg M A R Y n s₀ c ((exec (.If test body orelse pos) env).wrap K H gd lv) fs s := by
  rw [exec_If]
  show Seg M A R Y n s₀ c (.at pos fun _ => (isTrue test env (eval test env) >>= fun b => if b = true then execs body env else execs orelse env).wrap K H gd lv) fs s
  refine seg_at ?_
  rw [Sem.bind_eq_wrap', Sem.wrap_wrap]
  exact seg_wrap h

theorem seg_Return_none {pos : Pos} (h : Seg M A R Y n s₀ c (K (.ret .none)) fs s) : Seg M A R Y n s₀ c ((exec (.Return none pos) env).wrap K H gd lv) fs s :=
  seg_at h

theorem seg_For {target iter : Expr} {body orelse : List Stmt} {pos : Pos}
    (h : wpAny M (A.over c fs) (eval iter env) (fun x s₁ => wpAny M (A.over c fs) (pyIter x) (fun it s₂ =>
      ∀ p, Seg M A R Y n s₀ (.forLoop target it body orelse env) (M.den (.forLoop target it body orelse env))
      (.ret (fun r => ((match r with | .ok f => (.pure f : Sem Flow) | .error e => .raise e).onRaise fun (x : Value) => do
        if (← field x 1) == Value.none then unsupported "frame.own-activation:exception-without-traceback"
        setFlight x env.frame).wrap K H gd lv) none (gd false) (lv []) c p [] :: fs) s₂) (fun x s' => Seg M A R Y n s₀ c (H x) fs s') s₁) (fun x s' => Seg M A R Y n s₀ c (H x) fs s') s)
    (hs : ∀ x, foldedSetIterable iter env x = pure x := by intro _; rfl) :
    Seg M A R Y n s₀ c ((exec (.For target iter body orelse pos) env).wrap K H gd lv) fs s := by
  rw [exec_For]
  show Seg M A R Y n s₀ c (.at pos fun _ => (eval iter env >>= fun x => foldedSetIterable iter env x >>= fun x => (do
    standAt iter.pos
    runOwn (.forLoop target (← holding [x] (pyIter x)) body orelse env) env)).wrap K H gd lv) fs s
  refine seg_at ?_
  simp only [hs]
  rw [Sem.bind_eq_wrap', Sem.wrap_wrap]
  refine seg_wrap (wpAny_mono h (fun x s₁ h₁ => ?_) fun _ _ e => e)
  show Seg M A R Y n s₀ c (.at iter.pos fun _ => (holding [x] (pyIter x) >>= fun it => runOwn (.forLoop target it body orelse env) env).wrap K H gd lv) fs s₁
  refine seg_at ?_
  rw [Sem.bind_eq_wrap', Sem.wrap_wrap]
  refine seg_wrap (wpAny_holding (wpAny_mono h₁ (fun it s₂ h₂ => ?_) fun _ _ e => e))
  exact seg_call h₂
end

section
variable {prog : Program} {w : World} {A : Around} {R : GenEnd} {Y : Protocol} {n : Nat} {s₀ : Shared} {fs : List Frame} {s : Shared} {env : Env}

abbrev noted (env : Env) (e : Value) : Sem Fin := (do noteFrame e env; theTreesLotGoes e : Sem Unit).wrap (fun _ => .raise e) .raise id id

theorem seg_forLoop {target it} {body : List Stmt}
    (h : wpAny (model prog w) (A.over (.forLoop target it body [] env) fs) (pyNext it) (fun r s₁ => match r with
        | none => Seg (model prog w) A R Y n s₀ (.block [] env) (.pure (.done .next)) fs s₁
        | some v => wpAny (model prog w) (A.over (.forLoop target it body [] env) fs) (assign target env v) (fun _ s₂ =>
            Seg (model prog w) A R Y n s₀ (.forLoop target it body [] env) ((execs body env).wrap (fun f => match f with
            | .next | .cont => .pure (.again (.forLoop target it body [] env))
            | .brk => .pure (.done .next)
            | .ret v => .pure (.done (.ret v))) (noted env) id id) fs s₂) (fun x s' => Seg (model prog w) A R Y n s₀ (.forLoop target it body [] env) (noted env x) fs s') s₁)
      (fun _ _ => False) s)
    (ht : ∀ v, letOwnedTupleGo target it v = pure () := by intro _; rfl) :
    Seg (model prog w) A R Y n s₀ (.forLoop target it body [] env) ((model prog w).den (.forLoop target it body [] env)) fs s := by
  show Seg _ A R Y n s₀ _ ((forTurn target it body [] env).onRaise (fun x => do noteFrame x env; theTreesLotGoes x)) fs s
  unfold forTurn
  rw [Sem.onRaise_eq_wrap]
  show Seg _ A R Y n s₀ _ (.at target.pos fun _ => ((pyNext it).onRaise _ >>= _).wrap _ _ _ _) fs s
  refine seg_at ?_
  rw [Sem.onRaise_eq_wrap, Sem.bind_eq_wrap', Sem.wrap_wrap, Sem.wrap_wrap]
  refine seg_wrap (wpAny_mono h (fun r s₁ hr => ?_) fun x s' hx => hx.elim)
  cases r with
  | none => exact seg_again rfl hr
  | some v =>
    show Seg _ A R Y n s₀ _ ((letOwnedTupleGo target it v >>= fun _ => (do
      assign target env v
      match ← execs body env with
      | .next | .cont => again (.forLoop target it body [] env)
      | .brk => pure (.done .next)
      | .ret v => pure (.done (.ret v)))).wrap _ _ _ _) fs s₁
    rw [ht v]
    show Seg _ A R Y n s₀ _ ((assign target env v >>= _).wrap _ _ _ _) fs s₁
    rw [Sem.bind_eq_wrap', Sem.wrap_wrap]
    refine seg_wrap (wpAny_mono hr (fun _ s₂ h₂ => ?_) fun x s' hx => ?_)
    · show Seg _ A R Y n s₀ _ ((execs body env >>= _).wrap _ _ _ _) fs s₂
      rw [Sem.bind_eq_wrap', Sem.wrap_wrap]
      rw [Sem.wrap_congr (execs body env) _ _ (K' := fun f => match f with
            | .next | .cont => .pure (.again (.forLoop target it body [] env))
            | .brk => .pure (.done .next)
            | .ret v => .pure (.done (.ret v))) (H' := noted env)
        (fun f => by cases f <;> rfl)
        (fun e => by first | exact Sem.bind_eq_wrap _ _ | (show (do noteFrame e env; theTreesLotGoes e : Sem Unit).bind (fun _ => .raise e) = _; rw [Sem.bind_eq_wrap]))]
      exact h₂
    · first
        | (unfold noted at hx; rw [← Sem.bind_eq_wrap] at hx; exact hx)
        | (show Seg _ A R Y n s₀ _ ((do noteFrame x env; theTreesLotGoes x : Sem Unit).bind fun _ => .raise x) fs s'; rw [Sem.bind_eq_wrap]; exact hx)

/-- a loop in a generator: the invariant knows the turn, the wakes left, the state at the wake and the state now -/
theorem seg_ind {M : Model} {c : Code} {t : Sem Fin} (len : Nat) (Inv : Nat → Nat → Shared → Shared → Prop)
    (step : ∀ i, i ≤ len → (i < len → ∀ n s₀ s, Inv (i + 1) n s₀ s → Seg M A R Y n s₀ c t fs s) → ∀ n s₀ s, Inv i n s₀ s → Seg M A R Y n s₀ c t fs s) :
    ∀ i, i ≤ len → ∀ n s₀ s, Inv i n s₀ s → Seg M A R Y n s₀ c t fs s := by
  have go : ∀ d i, i + d = len → ∀ n s₀ s, Inv i n s₀ s → Seg M A R Y n s₀ c t fs s := by
    intro d
    induction d with
    | zero => intro i hi; exact step i (by omega) (fun h => absurd h (by omega))
    | succ d ih => intro i hi; exact step i (by omega) (fun _ => ih (i + 1) (by omega))
  exact fun i hi => go (len - i) i (by omega)
end

section
variable {prog : Program} {w : World} {A : Around} {E : Value → Shared → Prop} {s : Shared}
theorem pyNext_genQ {a : Addr} {g n : Nat} {gs : GenState} {R : GenEnd} {Y : Protocol} {Q : Option Value → Shared → Prop} (hh : A.handled = none)
    (hl : s.heap.NoLimit) (hroom : A.depth < recursionLimit)
    (hg : s.heap.IsGen a g) (hgs : s.gens[g]? = some gs)
    (hgo : gs.Goes (model prog w) A.in1 R Y n (.send .none) (s.setGen g .running))
    (hY : ∀ v s₁ gs', gs'.bare = true → Y (n - 1) (s.setGen g .running) v s₁ (fun r' s'' => match n with
        | 0 => False
        | m + 1 => gs'.Goes (model prog w) A.in1 R Y m r' s'') → Q (some v) (s₁.setGen g gs'))
    (hP : ∀ x s₁, R n (s.setGen g .running) x s₁ → x = .ok (.ret .none) ∧ ∀ h', (∀ b o, s₁.heap.get? b = some o → h'.get? b = some o) → Q none { s₁.setGen g .finished with heap := h' }) :
    wpAny (model prog w) A (pyNext (.ref a)) Q E s := by
  unfold pyNext
  refine wpAny_bind (wpAny_attempt (wpAny_callSpecial?_slot (name := Str.ofString "__next__") hg.typeIs slot_gen_next
    (wpAny_call_entry slot_gen_next hg.typeIs entry_gen_next ?_ (args_gen_next _))))
  show wpAny _ _ (Builtin.Generator.genWake (.ref a) (.send .none)) _ _ s
  unfold Builtin.Generator.genWake
  refine wpAny_bind (wpAny_holding (wpAny_genNumber hg (wpAny_bind (wpAny_genState hgs ?_))))
  cases gs with
  | running => exact hgo.elim
  | finished => exact hgo.elim
  | _ =>
    refine wpAny_bind (wpAny_roomToWake hl hroom ?_)
    show wpAny _ _ (.resume g (.send .none) [] _) _ _ s
    refine wpAny_resumeQ hgs hgo (fun x s₁ hx => ?_) (fun v s₁ gs' hb hv => ?_)
    · obtain ⟨rfl, hp⟩ := hP x s₁ hx
      show wpAny _ _ (newExc (.type "StopIteration") [] >>= _) _ _ _
      refine wpAny_bind ?_
      simp only [newExc, newTuple]
      refine wpAny_bind (wpAny_newObj_type ?_ (by size_fits))
      refine wpAny_bind (m := firstArgMember _ _) (wpAny_of_eq (a := Value.none) (by first | rfl | (simp only [firstArgMember]; rfl)) ?_)
      refine wpAny_newObj_type ?_ (by size_fits)
      simp only [raiseNew]
      refine wpAny_bind (wpAny_bind (wpAny_handled ?_))
      rw [show A.in1.handled = none from hh]
      refine wpAny_throw ?_
      refine wpAny_bind (wpAny_isInstance (T := "StopIteration") (b := true) ⟨_, Heap.get?_push_size _ rfl, rfl⟩ isSubtype_stop ?_)
      exact wpAny_pure (hp _ fun b o hb => Heap.get?_push_of_some _ (Heap.get?_push_of_some _ hb))
    · exact wpAny_pure ⟨v, rfl, wpAny_pure (hY v s₁ gs' hb hv)⟩
end
end Mine
end

/-! MGen2 -/
section
open PySem PySem.W PyProof.Rows PySem.Calls PySem.Spec
set_option maxRecDepth 100000
set_option maxHeartbeats 8000000
namespace Mine
/-- a generator function is called: its frame is made, nothing runs -/
theorem call_gen {prog : Program} {w : World} {A : Around} {s : Shared} {h₀ : Heap} {L : Addr} {m : Str → Option Value} {K : Frag}
    {R : Result → Shared → Prop} {name qual : Str} {params : Arguments} {body : List Stmt} {scope : Scope} {dV kV doc pm cdv ct oc : Value} {an od : Option Addr} {osl : Array (Option Value)} {f : Addr} {args : Args} {binds : List (Str × Value)}
    (F : Fr h₀ L s.heap m) (X₀ : K.In h₀) (hlim : h₀.NoLimit)
    (ho : K.lookup f = some ⟨oc, od, .func (fnOf name qual params body scope dV kV doc pm an cdv ct), osl⟩) (hcd : codeIn K cdv qual = true) (hroom : A.depth < recursionLimit)
    (hbind : BindsTo s (fnOf name qual params body scope dV kV doc pm an cdv ct) args binds) (hloc : ∀ y ∈ binds, scope.names.lookup y.1 = some .local)
    (h : ∀ (h₁ : Heap) (u t1 t2 : Tok), h₁.Ns s.heap.objs.size (fun y => binds.reverse.lookup y) → (∀ b o, s.heap.get? b = some o → h₁.get? b = some o) → h₁.objs.size = s.heap.objs.size + 1 →
      R (.ok (.ret (.ref h₁.objs.size))) { s with gens := s.gens.push (.fresh (.func body (envOf qual scope s.heap.objs.size f cdv))), toks := u, heap := h₁.push { cls := .type "generator", data := .fields #[.int s.gens.size 0, .str name t1, .str qual t2] } })
    (hco : scope.isCoroutine = false := by rfl) (hgen : scope.isGenerator = true := by rfl) (hk : scope.kind = .function := by rfl)
    (hcell : ∀ x ∈ scope.names, x.2 ≠ .cell := by decide) : codeAny (model prog w) A (.call (.ref f) args) R s := by
  have X := X₀.keeps F.keep
  refine codeAny_call_generator (fd := fnOf name qual params body scope dV kV doc pm an cdv ct) (body := body) hroom (X _ _ ho) rfl hco hgen rfl (codeRec_of X hcd) (hbind _ _ _ _ ?_)
  refine wpAny_newFunctionEnv hcell hloc (fun h₁ hns hsb => ?_) hk
  have up : ∀ b o, s.heap.get? b = some o → h₁.get? b = some o := fun b o e => hsb.extBut b o (Nat.ne_of_lt (Heap.lt_size e)) (Heap.get?_push_of_some _ e)
  refine ⟨hlim.keeps fun b o e => up b o (F.keep b o e), ?_⟩
  exact h h₁ _ _ _ hns up (by rw [hsb.1, Heap.size_push])

/-- what a generator function may touch: its own frame and its own list_iterator -/
abbrev Own (h₀ : Heap) (r Lg b : Addr) (o : Obj) : Prop := b = Lg ∨ (h₀.get? b = none ∧ ∃ i : Nat, o.data = .fields #[.ref r, .int i 0])
abbrev Since (h₀ : Heap) (r Lg : Addr) (s₀ s : Shared) : Prop :=
  (∃ h tk, s = { s₀ with heap := h, toks := tk }) ∧ ∀ b o, ¬ Own h₀ r Lg b o → s₀.heap.get? b = some o → s.heap.get? b = some o
abbrev GR (h₀ : Heap) (r Lg : Addr) (ws : List Int) : GenEnd := fun n s₀ x s₁ => x = .ok (.ret .none) ∧ ws.length + n = 4 ∧ Since h₀ r Lg s₀ s₁
abbrev GY (h₀ : Heap) (r : Addr) (lo : Obj) (Lg : Addr) (ws : List Int) : Protocol := fun n s₀ v s' kap =>
  (∃ x t, ws[3 - n]? = some x ∧ v = .int x t) ∧ Since h₀ r Lg s₀ s' ∧ ∃ oL I oI, s'.heap.get? Lg = some oL ∧ s'.heap.get? I = some oI ∧ h₀.get? I = none ∧ (∃ i : Nat, oI.data = .fields #[.ref r, .int i 0]) ∧
    (0 < n → ∀ s'', (∀ b o, h₀.get? b = some o → s''.heap.get? b = some o) → s''.heap.get? r = some lo → s''.heap.get? Lg = some oL → s''.heap.get? I = some oI → kap (.send .none) s'')
/-- a generator function at rest, n wakes left; pl: its own objects -/
def GenSt (prog : Program) (w : World) (A : Around) (h₀ : Heap) (r : Addr) (lo : Obj) (Lg : Addr) (ws : List Int) (n : Nat) (pl : Led) (gs : GenState) : Prop :=
  0 < n → ∀ s : Shared, (∀ b o, h₀.get? b = some o → s.heap.get? b = some o) → s.heap.get? r = some lo → (∀ p ∈ pl, s.heap.get? p.1 = some p.2) →
    gs.Goes (model prog w) A.in1 (GR h₀ r Lg ws) (GY h₀ r lo Lg ws) n (.send .none) s
theorem Since.refl {h₀ : Heap} {r Lg : Addr} (s : Shared) : Since h₀ r Lg s s := ⟨⟨_, _, rfl⟩, fun _ _ _ e => e⟩
end Mine
end

/-! MGen3 -/
section
open PySem PySem.W PyProof.Rows PySem.Calls PySem.Spec
set_option maxRecDepth 100000
set_option maxHeartbeats 8000000
namespace Mine
/-- what the ruler's list tells: the items of ws, in turn, four at most -/
def Rul (ns ws : List Int) : Prop := ∃ k, 1 ≤ k ∧ k ≤ 3 ∧ (∀ i < k, ∃ x, ns[i]? = some x ∧ ws[i]? = some x ∧ x ≠ 0 ∧ x ≠ 127) ∧
  ((ns.length = k ∧ ws.length = k) ∨ (ns[k]? = some 127 ∧ ws.length = k) ∨ (ns[k]? = some 0 ∧ ws.length = 4 ∧ ∀ j, k ≤ j → j < 4 → ws[j]? = ns[k-1]?))
theorem ints_at {vs : List Value} {ns : List Int} (h : IntsAre vs ns) : ∀ {i : Nat} {x : Int}, ns[i]? = some x → ∃ t, vs[i]? = some (.int x t) := by
  induction h with
  | nil => intro i x h; simp at h
  | cons n t h ih =>
    intro i x hx
    cases i with
    | zero => simp at hx; exact ⟨t, by simp [hx]⟩
    | succ i => simpa using ih (by simpa using hx)
theorem ints_len {vs : List Value} {ns : List Int} (h : IntsAre vs ns) : vs.length = ns.length := by
  induction h with
  | nil => rfl
  | cons n t h ih => simp [ih]
abbrev iterObj (r : Addr) (i : Nat) (o : Obj) : Prop := o.cls = .type "list_iterator" ∧ o.data = .fields #[.ref r, .int i 0]
def gF (r : Addr) (vi : Option Value) (lv : Value) : Str → Option Value := fun y => if y = "interval" then vi else if y = "last_interval" then some lv else if y = "grouping" then some (.ref r) else none
/-- a store of the generator's frame -/
theorem st_s {M : Model} {A : Around} {E : Value → Shared → Prop} {s : Shared} {name : Str} {scope : Scope} {L a : Addr} {cd : Value} {h₀ : Heap} {m : Str → Option Value} {x : Str} {v : Value} {Q : Unit → Shared → Prop} (F : Fr h₀ L s.heap m)
    (h : ∀ h', Fr h₀ L h' (fun y => if y = x then some v else m y) → Heap.SameBut L s.heap h' → Q () { s with heap := h', toks := s.toks + 1 })
    (hk : scope.kind = .function := by rfl) (hl : (envOf name scope L a cd).kindOf x = some .local := by rfl) :
    wpAny M A (storeName (envOf name scope L a cd) x v) Q E s :=
  wpAny_storeName_local hl F.ns (fun h' hn hs => h h' (F.set hn hs) hs)
    (by show (scope.kind == .class || (scope.kind == .module && L != mainGlobals)) = false; rw [hk]; rfl)
theorem Since.same {h₀ : Heap} {r Lg : Addr} {s₀ s : Shared} {h' : Heap} {tk : Nat} (x : Since h₀ r Lg s₀ s) (hs : Heap.SameBut Lg s.heap h') : Since h₀ r Lg s₀ { s with heap := h', toks := tk } := by
  obtain ⟨⟨h, u, rfl⟩, k⟩ := x
  exact ⟨⟨_, _, rfl⟩, fun b o hb e => (hs.2 b fun q => hb (.inl q)).trans (k b o hb e)⟩
theorem Since.push {h₀ : Heap} {r Lg : Addr} {s₀ s : Shared} {o' : Obj} (x : Since h₀ r Lg s₀ s) : Since h₀ r Lg s₀ { s with heap := s.heap.push o' } := by
  obtain ⟨⟨h, u, rfl⟩, k⟩ := x
  exact ⟨⟨_, _, rfl⟩, fun b o hb e => Heap.get?_push_of_some _ (k b o hb e)⟩
theorem Since.ext {h₀ : Heap} {r Lg I : Addr} {s₀ s : Shared} {h' : Heap} {o : Obj} (x : Since h₀ r Lg s₀ s) (hI : s.heap.get? I = some o) (h0 : h₀.get? I = none) (ho : ∃ i : Nat, o.data = .fields #[.ref r, .int i 0]) (hs : Heap.ExtBut I s.heap h') : Since h₀ r Lg s₀ { s with heap := h' } := by
  obtain ⟨⟨h, u, rfl⟩, k⟩ := x
  refine ⟨⟨_, _, rfl⟩, fun b o' hb e => ?_⟩
  have e2 := k b o' hb e
  by_cases q : b = I
  · subst q
    rw [hI] at e2
    cases e2
    exact absurd (.inr ⟨h0, ho⟩) hb
  · exact hs b o' q e2
theorem gF_last {r : Addr} {vi : Option Value} {lv v : Value} : (fun y => if y = Str.ofString "last_interval" then some v else gF r vi lv y) = gF r vi v := by
  funext y
  unfold gF
  by_cases h1 : y = Str.ofString "last_interval"
  · subst h1; rfl
  · simp only [h1, if_false]
theorem gF_int {r : Addr} {vi : Option Value} {lv v : Value} : (fun y => if y = Str.ofString "interval" then some v else gF r vi lv y) = gF r (some v) lv := by
  funext y
  unfold gF
  by_cases h1 : y = Str.ofString "interval" <;> simp [h1]
theorem seg_down {M : Model} {A : Around} {R : GenEnd} {Y : Protocol} {c : Code} {t : Sem Fin} {fs : List Frame} (Inv : Nat → Shared → Shared → Prop)
    (step : ∀ n, (∀ m, m < n → ∀ s₀ s, Inv m s₀ s → Seg M A R Y m s₀ c t fs s) → ∀ s₀ s, Inv n s₀ s → Seg M A R Y n s₀ c t fs s) : ∀ n s₀ s, Inv n s₀ s → Seg M A R Y n s₀ c t fs s := by
  intro n
  induction n using Nat.strongRecOn with
  | _ n ih => exact step n ih
theorem Since.tok {h₀ : Heap} {r Lg : Addr} {s₀ s : Shared} {tk : Nat} (x : Since h₀ r Lg s₀ s) : Since h₀ r Lg s₀ { s with toks := tk } := by
  obtain ⟨⟨h, u, rfl⟩, k⟩ := x
  exact ⟨⟨_, _, rfl⟩, k⟩
theorem c_gen (w : World) (r : Addr) (vs : List Value) (nn : Nat) (ns ws : List Int) (news : Led) (hi : IntsAre vs ns) (hr : Rul ns ws)
    {p : Program} {loose : List Str} {mean : ExcName → Option Value} {mg mb : Str → Option Value} {dp un : Nat} {gd : Option (List Code)} {cn : Str} {cs : Scope} {a : Addr} {ccd : Value} {cl : List (Str × Addr)} {outer : List Env} {h₀ : Heap} {L : Addr} {m : Str → Option Value} {s : Shared} {Q E : Value → Shared → Prop}
    (F : Fr h₀ L s.heap m) (X : (hd.heap_39 w.params).In h₀) (N : News h₀ L s.heap ((r, listOf vs.toArray nn) :: news)) (T : Top p loose mean mg mb h₀) (hdp : dp + 3 < recursionLimit)
    (hret : ∀ (oL oG : Obj) (Lg aG : Addr) (h' : Heap) (tk' : Nat) (gs : GenState), Fr h₀ L h' m → News h₀ L h' ((Lg, oL) :: (aG, oG) :: (r, listOf vs.toArray nn) :: news) → 
      (oG.cls = .type "generator" ∧ (∃ t1 t2, oG.data = .fields #[.int s.gens.size 0, t1, t2]) ∧ oG.slots = #[]) → (∀ q ∈ (aG, oG) :: (r, listOf vs.toArray nn) :: news, q.1 ≠ Lg) → gs.bare = true →
      (∀ A : Around, A.handled = none → GenSt (PySem.Challenge.rw_wu0030_01.row.prog) w A h₀ r (listOf vs.toArray nn) Lg ws 4 [(Lg, oL)] gs) →
      Q (.ref aG) { s with heap := h', toks := tk', gens := s.gens.push gs }) :
    wpAny (model (PySem.Challenge.rw_wu0030_01.row.prog) w) (ktrTop dp un gd cn cs L a ccd cl outer) (call (.ref 60) [.ref r]) Q E s := by
  w_on
  revert X
  k_fill
  intro X
  refine wpAny_call ?_
  refine call_gen F X T.nolimit rfl (by kernel_rfl) (by ktr_room) (BindsTo.of_eq rfl) (locs rfl) ?_
  intro h₁ u t1 t2 hns up hsz
  show Q _ _
  obtain ⟨oL, es, ep, hL, hLd, hLk, hLf⟩ := id hns
  obtain ⟨oC, ce, cp, hC, hCr⟩ := F.ns
  have none₀ : ∀ b, s.heap.objs.size ≤ b → h₀.get? b = none := fun b hb => by
    cases q : h₀.get? b with
    | none => rfl
    | some o => exact absurd (Heap.lt_size (F.keep _ _ q)) (Nat.not_lt.mpr hb)
  have up2 : ∀ (o : Obj) b o', s.heap.get? b = some o' → (h₁.push o).get? b = some o' := fun o b o' e => Heap.get?_push_of_some _ (up b o' e)
  refine hret oL { cls := .type "generator", data := .fields #[.int s.gens.size 0, .str (Str.ofString "_grouping_intervals") t1, .str (Str.ofString "_grouping_intervals") t2] } s.heap.objs.size h₁.objs.size _ u _
    ⟨⟨oC, ce, cp, up2 _ _ _ hC, hCr⟩, fun b o e => up2 _ _ _ (F.keep b o e), F.above⟩ ?_ ⟨rfl, ⟨_, _, rfl⟩, rfl⟩ ?_ rfl ?_
  · intro q hq
    rcases List.mem_cons.mp hq with rfl | hq
    · exact ⟨Heap.get?_push_of_some _ hL, Nat.ne_of_gt (Heap.lt_size hC), none₀ _ (Nat.le_refl _)⟩
    rcases List.mem_cons.mp hq with rfl | hq
    · exact ⟨Heap.get?_push_size _ rfl, fun q => absurd (Heap.lt_size hC) (by rw [← q]; show ¬ h₁.objs.size < _; rw [hsz]; omega), none₀ _ (by show _ ≤ h₁.objs.size; rw [hsz]; omega)⟩
    · exact ⟨up2 _ _ _ (N q hq).1, (N q hq).2⟩
  · intro q hq
    rcases List.mem_cons.mp hq with rfl | hq
    · show h₁.objs.size ≠ _; rw [hsz]; omega
    · exact Nat.ne_of_lt (Heap.lt_size (N q hq).1)
  intro A hA _ s₂ k₀ kr kp
  refine ⟨rfl, ?_⟩
  have F₂ : Fr h₀ s.heap.objs.size s₂.heap (fun y => [(Str.ofString "grouping", Value.ref r)].reverse.lookup y) :=
    ⟨⟨oL, es, ep, kp _ List.mem_cons_self, hLd, hLk, hLf⟩, k₀, Nat.le_trans F.above (Nat.le_of_lt (Heap.lt_size hC))⟩
  have hrL : r ≠ s.heap.objs.size := Nat.ne_of_lt (Heap.lt_size (N _ List.mem_cons_self).1)
  generalize s.heap.objs.size = Lg at *
  have N₂ : News h₀ Lg s₂.heap [(r, listOf vs.toArray nn)] := fun q hq => by
    rcases List.mem_cons.mp hq with rfl | hq
    · exact ⟨kr, hrL, (N _ List.mem_cons_self).2.2⟩
    · cases hq
  refine seg_func ?_
  clear hLf hns hret F N hL hsz none₀ up2 up hCr hC hLd hLk
  refine seg_execs_cons (seg_plain (wpAny_Assign_Name (wpAny_Constant_none (st_s F₂ fun h₃ F₃ hs₃ => ?_))))
  have S₃ : Since h₀ r Lg s₂ { s₂ with heap := h₃, toks := s₂.toks + 1 } := (Since.refl (h₀ := h₀) (r := r) (Lg := Lg) s₂).same hs₃
  have N₃ := N₂.set hs₃
  dsimp only
  refine seg_execs_cons (seg_For (ld F₃ rfl ?_))
  refine wpAny_pyIter_list (l := r) (items := vs.toArray) ⟨_, N₃.get List.mem_cons_self, rfl, _, rfl⟩ ?_
  intro p₁
  obtain ⟨oL₃, _, _, hL₃, _⟩ := F₃.ns
  have S₄ := S₃.push (o' := { cls := .type "list_iterator", data := .fields #[.ref r, .int 0 0] })
  have F₄ := F₃.push { cls := .type "list_iterator", data := .fields #[.ref r, .int 0 0] }
  have N₄ := N₃.push F₃ { cls := .type "list_iterator", data := .fields #[.ref r, .int 0 0] }
  have h0I : h₀.get? h₃.objs.size = none := Heap.get?_none_of_le (Nat.le_trans F₃.above (Nat.le_of_lt (Heap.lt_size hL₃)))
  obtain ⟨k, hk1, hk3, hks, hkt⟩ := hr
  have e₃ : (fun y => if y = Str.ofString "last_interval" then some Value.none else List.lookup y [(Str.ofString "grouping", Value.ref r)].reverse) = gF r none .none := by
    funext y
    unfold gF
    by_cases h1 : y = Str.ofString "last_interval"
    · subst h1; rfl
    · rw [if_neg h1, if_neg h1]
      by_cases h2 : y = Str.ofString "grouping"
      · subst h2; rfl
      · rw [if_neg h2]
        have : (y == Str.ofString "grouping") = false := by simpa using h2
        simp [List.lookup, this]
  rw [e₃] at F₄
  dsimp only at S₄ N₄ h0I ⊢
  generalize h₃.objs.size = I at *
  refine seg_ind k (fun i n s₀ s => n + i = 4 ∧ Since h₀ r Lg s₀ s ∧ ∃ oI lv vi, iterObj r i oI ∧ Fr h₀ Lg s.heap (gF r vi lv) ∧ News h₀ Lg s.heap [(I, oI), (r, listOf vs.toArray nn)] ∧ (0 < i → ∃ x t, ns[i-1]? = some x ∧ lv = .int x t)) ?_ 0 (Nat.zero_le _) 4 _ _
    ⟨rfl, S₄, _, _, _, ⟨rfl, rfl⟩, F₄, N₄, fun h => absurd h (Nat.lt_irrefl _)⟩
  clear S₄ F₄ N₄ S₃ F₃ N₃ F₂ N₂ hL₃ hs₃ kp kr k₀
  intro i hik ih n s₀ s₅ ⟨hn, S₅, oI, lv, vi, hoI, F₅, N₅, hlv⟩
  refine seg_forLoop ?_
  have gI := N₅.get List.mem_cons_self
  have hIL : I ≠ Lg := (N₅ _ List.mem_cons_self).2.1
  have lr : s₅.heap.IsList r vs.toArray := ⟨_, N₅.get (.tail _ List.mem_cons_self), rfl, _, rfl⟩
  have hrI : r ≠ I := fun q => by
    have e1 := N₅.get (.tail _ List.mem_cons_self)
    rw [q, gI] at e1
    have := Option.some.inj e1
    rw [this] at hoI
    exact absurd hoI.2 (by simp)
  have goF : ∀ h', Heap.ExtBut I s₅.heap h' → Fr h₀ Lg h' (gF r vi lv) := fun h' hx => by
    obtain ⟨o1, e1, e2, e3, e4⟩ := F₅.ns
    exact ⟨⟨o1, e1, e2, hx _ _ (Ne.symm hIL) e3, e4⟩, fun b o e => hx b o (fun q => by rw [q, h0I] at e; cases e) (F₅.keep b o e), F₅.above⟩
  cases hx : ns[i]? with
  | none =>
    have hl9 := List.getElem?_eq_none_iff.mp hx
    refine wpAny_pyNext_list_end (l := r) (i := i) (items := vs.toArray) hA ⟨oI, gI, hoI⟩ lr (by simpa [ints_len hi] using hl9) (fun h₆ hs₆ => ?_)
    refine seg_leaf (.ok .next) (seg_end (.ok (.ret .none)) ⟨rfl, ?_, S₅.ext gI h0I ⟨i, hoI.2⟩ hs₆⟩)
    rcases hkt with ⟨h1, h2⟩ | ⟨h1, h2⟩ | ⟨h1, h2, _⟩
    · omega
    · exact absurd h1 (by rw [List.getElem?_eq_none_iff.mpr (by omega)]; simp)
    · exact absurd h1 (by rw [List.getElem?_eq_none_iff.mpr (by omega)]; simp)
  | some x =>
    obtain ⟨t, hvx⟩ := ints_at hi hx
    refine wpAny_pyNext_list_item (l := r) (i := i) (items := vs.toArray) ⟨oI, gI, hoI⟩ lr (by simpa using hvx) (fun h₆ hit₆ hs₆ => ?_)
    have S₆ := S₅.ext gI h0I ⟨i, hoI.2⟩ hs₆.extBut
    have F₆ := goF h₆ hs₆.extBut
    obtain ⟨oI₆, hI₆, hoI₆⟩ := hit₆
    have N₆ : News h₀ Lg h₆ [(I, oI₆), (r, listOf vs.toArray nn)] := fun q hq => by
      rcases List.mem_cons.mp hq with rfl | hq
      · exact ⟨hI₆, hIL, h0I⟩
      · exact ⟨hs₆.extBut _ _ (by rcases List.mem_cons.mp hq with rfl | hq; exact hrI; cases hq) (N₅ q (.tail _ hq)).1, (N₅ q (.tail _ hq)).2⟩
    dsimp only
    refine wpAny_assign_Name (st_s F₆ fun h₇ F₇ hs₇ => ?_)
    have S₇ := S₆.same (tk := s₅.toks + 1) hs₇
    have N₇ := N₆.set hs₇
    rw [gF_int] at F₇
    clear S₆ F₆ N₆ F₅ N₅ S₅ goF lr gI hs₇ hs₆ hI₆
    refine seg_execs_cons (seg_If ?_)
    k_steps
    dsimp only at S₇ ⊢
    by_cases h127 : x = 127
    · rw [if_pos (by simpa using h127)]
      refine seg_execs_cons (seg_Return_none (seg_leaf (.ok (.ret .none)) (seg_end (.ok (.ret .none)) ⟨rfl, ?_, S₇⟩)))
      subst h127
      have hkq : i = k := by
        by_cases q : i < k
        · obtain ⟨z, hz, _, _, hz7⟩ := hks i q
          rw [hx] at hz
          cases hz
          exact absurd rfl hz7
        · omega
      subst hkq
      rcases hkt with ⟨h1, h2⟩ | ⟨h1, h2⟩ | ⟨h1, h2, _⟩
      · rw [List.getElem?_eq_none_iff.mpr (by omega)] at hx; cases hx
      · omega
      · rw [hx] at h1; cases h1
    rw [if_neg (by simpa using h127)]
    refine seg_execs_nil ?_
    dsimp only
    refine seg_execs_cons (seg_If ?_)
    k_steps
    by_cases h0 : x = 0
    · rw [if_pos (by simpa using h0)]
      subst h0
      have hkq : i = k := by
        by_cases q : i < k
        · obtain ⟨z, hz, _, hz0, _⟩ := hks i q
          rw [hx] at hz
          cases hz
          exact absurd rfl hz0
        · omega
      subst hkq
      obtain ⟨y, ty, hy, rfl⟩ := hlv hk1
      have hws : ∀ j, i ≤ j → j < 4 → ws[j]? = some y := by
        rcases hkt with ⟨h1, h2⟩ | ⟨h1, h2⟩ | ⟨h1, h2, h3⟩
        · rw [List.getElem?_eq_none_iff.mpr (by omega)] at hx; cases hx
        · rw [hx] at h1; cases h1
        · exact fun j a b => (h3 j a b).trans hy
      refine seg_execs_cons (seg_If ?_)
      k_steps
      rw [if_neg Bool.false_ne_true]
      refine seg_execs_nil ?_
      dsimp only
      refine seg_execs_cons (seg_While ?_)
      intro p₂
      refine seg_down (fun n s₀ s => 1 ≤ n ∧ n + i ≤ 4 ∧ Since h₀ r Lg s₀ s ∧ Fr h₀ Lg s.heap (gF r (some (.int 0 t)) (.int y ty)) ∧ News h₀ Lg s.heap [(I, oI₆), (r, listOf vs.toArray nn)]) ?_ n _ _ ⟨by omega, by omega, S₇.tok, F₇, N₇⟩
      clear S₇ F₇ N₇ ih
      intro n' ih' s₀' s₈ ⟨hn1, hn4, S₈, F₈, N₈⟩
      refine seg_whileLoop ?_
      k_steps
      obtain ⟨n', rfl⟩ : ∃ q, n' = q + 1 := ⟨n' - 1, by omega⟩
      refine seg_execs_cons (seg_Expr_Yield rfl rfl rfl (ld F₈ rfl ?_))
      intro kap hk
      obtain ⟨oL₈, e8, p8, hL₈, hr₈⟩ := F₈.ns
      refine ⟨⟨y, ty, hws _ (by omega) (by omega), rfl⟩, S₈, oL₈, I, oI₆, hL₈, N₈.get List.mem_cons_self, h0I, ⟨_, hoI₆.2⟩, fun hn s₉ k0 kr kL kI => hk .none s₉ ?_⟩
      dsimp only
      refine seg_execs_nil ?_
      dsimp only
      refine seg_again rfl (ih' n' (by omega) _ _ ⟨by omega, by omega, Since.refl _, ⟨⟨oL₈, e8, p8, kL, hr₈⟩, k0, F₈.above⟩, fun q hq => ?_⟩)
      rcases List.mem_cons.mp hq with rfl | hq
      · exact ⟨kI, (N₈ _ List.mem_cons_self).2⟩
      rcases List.mem_cons.mp hq with rfl | hq
      · exact ⟨kr, (N₈ _ (.tail _ List.mem_cons_self)).2⟩
      · cases hq
    · rw [if_neg (by simpa using h0)]
      refine seg_execs_nil ?_
      dsimp only
      have hik : i < k := by
        by_cases q : i < k
        · exact q
        · have hkq : i = k := by omega
          subst hkq
          rcases hkt with ⟨h1, h2⟩ | ⟨h1, h2⟩ | ⟨h1, h2, h3⟩
          · rw [List.getElem?_eq_none_iff.mpr (by omega)] at hx; cases hx
          · rw [hx] at h1; cases h1; exact absurd rfl h127
          · rw [hx] at h1; cases h1; exact absurd rfl h0
      obtain ⟨n', rfl⟩ : ∃ q, n = q + 1 := ⟨n - 1, by omega⟩
      refine seg_execs_cons (seg_Expr_Yield rfl rfl rfl (ld F₇ rfl ?_))
      intro kap hk
      obtain ⟨oL₈, e8, p8, hL₈, hr₈⟩ := F₇.ns
      obtain ⟨z, hz, hwz, _, _⟩ := hks i hik
      rw [hx] at hz
      cases hz
      refine ⟨⟨x, t, by rw [show 3 - n' = i by omega]; exact hwz, rfl⟩, S₇.tok, oL₈, I, oI₆, hL₈, N₇.get List.mem_cons_self, h0I, ⟨_, hoI₆.2⟩, fun hn s₉ k0 kr kL kI => hk .none s₉ ?_⟩
      dsimp only
      have F₉ : Fr h₀ Lg s₉.heap (gF r (some (.int x t)) lv) := ⟨⟨oL₈, e8, p8, kL, hr₈⟩, k0, F₇.above⟩
      have N₉ : News h₀ Lg s₉.heap [(I, oI₆), (r, listOf vs.toArray nn)] := fun q hq => by
        rcases List.mem_cons.mp hq with rfl | hq
        · exact ⟨kI, (N₇ _ List.mem_cons_self).2⟩
        rcases List.mem_cons.mp hq with rfl | hq
        · exact ⟨kr, (N₇ _ (.tail _ List.mem_cons_self)).2⟩
        · cases hq
      refine seg_execs_cons (seg_plain (wpAny_Assign_Name (ld F₉ rfl (st_s F₉ fun hA FA hsA => ?_))))
      rw [gF_last] at FA
      dsimp only
      refine seg_execs_nil ?_
      dsimp only
      exact seg_again rfl (ih hik n' _ _ ⟨by omega, (Since.refl _).same hsA, oI₆, _, _, hoI₆, FA, N₉.set hsA, fun _ => ⟨x, t, hx, rfl⟩⟩)
end Mine
end

/-! MGen4 -/
section
open PySem PySem.W PyProof.Rows PySem.Calls PySem.Spec
set_option maxRecDepth 100000
set_option maxHeartbeats 8000000
namespace Mine
theorem IntsAre.app {vs us : List Value} {ns ms : List Int} (h : IntsAre vs ns) (h2 : IntsAre us ms) : IntsAre (vs ++ us) (ns ++ ms) := by
  induction h with
  | nil => exact h2
  | cons n t _ ih => exact .cons n t ih
theorem bare_set {G : Array GenState} {g : Nat} {x : GenState} (h : AllBare G) (hx : x.bare = true) : AllBare (G.setIfInBounds g x) := fun y hy => by
  obtain ⟨i, hi, rfl⟩ := Array.mem_iff_getElem.mp hy
  rw [Array.getElem_setIfInBounds (by simpa using hi)]
  split
  · exact hx
  · exact h _ (Array.getElem_mem _)
/-- a for over a generator function at rest, at most four turns; the body hangs the item on lb -/
theorem gen_loop {prog : Program} {w : World} {A : Around} {env : Env} {px : Pos} {body : List Stmt} {R : Result → Shared → Prop} {h₀ : Heap} {L aG r lb Lg : Addr} {m : Str → Option Value} {s : Shared} {lo oG oL : Obj} {g c : Nat} {gs : GenState} {ws : List Int} {news : Led} {x : Str}
    (hA : A.handled = none) (hroom : A.depth < recursionLimit) (hnl : h₀.NoLimit) (hloc : env.locals = L) (hkx : env.kindOf x = some .local) (hpx : (env.scope.kind == .class || (env.scope.kind == .module && env.locals != env.globals)) = false)
    (F : Fr h₀ L s.heap m) (N : News h₀ L s.heap ((lb, listOf [].toArray c) :: (Lg, oL) :: (aG, oG) :: (r, lo) :: news))
    (hoG : oG.cls = .type "generator" ∧ (∃ t1 t2, oG.data = .fields #[.int g 0, t1, t2]) ∧ oG.slots = #[]) (hLg : ∀ q ∈ (lb, listOf [].toArray c) :: (aG, oG) :: (r, lo) :: news, q.1 ≠ Lg)
    (hit : ∀ q ∈ (r, lo) :: news, ∀ i : Nat, q.2.data ≠ .fields #[.ref r, .int i 0])
    (hgs : s.gens[g]? = some gs) (hG : AllBare s.gens) (hgen : ∀ A : Around, A.handled = none → GenSt prog w A h₀ r lo Lg ws 4 [(Lg, oL)] gs) (hws : ws.length ≤ 4)
    (turn : ∀ (us : List Value) (c' : Nat) (y : Int) (t : Tok) (rest : Led) (s' : Shared), us.length < 4 → (∀ q ∈ news, q ∈ rest) → (∀ q ∈ rest, q.1 ≠ lb) → Fr h₀ L s'.heap (fun z => if z = x then some (.int y t) else m z) → News h₀ L s'.heap ((lb, listOf us.toArray c') :: rest) →
      wpAny (model prog w) A (execs body env) (fun f s'' => (∃ h'' tk'' c'', s'' = { s' with heap := h'', toks := tk'' } ∧ Fr h₀ L h'' (fun z => if z = x then some (.int y t) else m z) ∧ News h₀ L h'' ((lb, listOf (us ++ [Value.int y t] : List Value).toArray c'') :: rest)) ∧
        ((f = .next ∧ us.length + 1 ≠ 4) ∨ (f = .brk ∧ us.length + 1 = 4))) (notedBy (model prog w) A env fun e s' => R (.error e) s') s')
    (done : ∀ (us : List Value) (c' : Nat) (v : Option Value) (h' : Heap) (tk' : Nat) (G : Array GenState), IntsAre us ws → AllBare G → Fr h₀ L h' (fun z => if z = x then v else m z) → News h₀ L h' ((lb, listOf us.toArray c') :: news) → R (.ok .next) { s with heap := h', toks := tk', gens := G })
    (hne : ∀ q ∈ (Lg, oL) :: (aG, oG) :: (r, lo) :: news, q.1 ≠ lb) (hm : m x = none) :
    codeAny (model prog w) A (.forLoop (.Name x px) (.ref aG) body [] env) R s := by
  refine codeAny_forLoop (fun k s' => ∃ (j : Nat) (us : List Value) (c' : Nat) (v : Option Value) (pl : Led) (gs : GenState) (h' : Heap) (tk' : Nat) (G : Array GenState), j + k = 4 ∧ 0 < k ∧ us.length = j ∧ j ≤ ws.length ∧ IntsAre us (ws.take j) ∧ s' = { s with heap := h', toks := tk', gens := G } ∧ AllBare G ∧ G[g]? = some gs ∧
    GenSt prog w A h₀ r lo Lg ws k pl gs ∧ Fr h₀ L h' (fun z => if z = x then v else m z) ∧ News h₀ L h' ((lb, listOf us.toArray c') :: (pl ++ (aG, oG) :: (r, lo) :: news)) ∧ (∀ q ∈ pl, q.1 ≠ lb)) ?_ 4
    ⟨0, [], c, none, [(Lg, oL)], gs, s.heap, s.toks, s.gens, rfl, by omega, rfl, Nat.zero_le _, .nil, rfl, hG, hgs, hgen A hA, ?_, N, fun q hq => hne q (by cases hq with | head => exact .head _ | tail _ h => cases h)⟩
  · intro k s' ⟨j, us, c', v, pl, gs, h', tk', G, hj, hk, hus, hjw, hi, hs', hB, hg, hst, F', N', hpl⟩
    subst hs'
    have hgobj : ({ s with heap := h', toks := tk', gens := G } : Shared).heap.IsGen aG g := by
      obtain ⟨h1, ⟨t1, t2, h2⟩, h3⟩ := hoG
      exact ⟨oG, t1, t2, N'.get (by simp), h1, h2, h3⟩
    have nL : h₀.get? Lg = none := (N (Lg, oL) (by simp)).2.2
    have nLL : L ≠ Lg := Ne.symm (N (Lg, oL) (by simp)).2.1
    -- what the wake leaves alone
    have carry : ∀ s₁ : Shared, Since h₀ r Lg (({ s with heap := h', toks := tk', gens := G } : Shared).setGen g .running) s₁ → Fr h₀ L s₁.heap (fun z => if z = x then v else m z) ∧ News h₀ L s₁.heap ((lb, listOf us.toArray c') :: (aG, oG) :: (r, lo) :: news) := by
      intro s₁ ⟨_, ke⟩
      have ke' : ∀ b o, ¬ Own h₀ r Lg b o → h'.get? b = some o → s₁.heap.get? b = some o := ke
      obtain ⟨oC, ce, cp, hC, hCd, hCr⟩ := F'.ns
      refine ⟨⟨⟨oC, ce, cp, ke' L oC (fun q => ?_) hC, hCd, hCr⟩, fun b o e => ke' b o (fun q => ?_) (F'.keep b o e), F'.above⟩, fun q hq => ?_⟩
      · rcases q with q | ⟨_, i, q⟩
        · exact nLL q
        · rw [hCd] at q; cases q
      · rcases q with q | ⟨q, _⟩
        · rw [q, nL] at e; cases e
        · rw [q] at e; cases e
      · have hq' : q ∈ (lb, listOf us.toArray c') :: (pl ++ (aG, oG) :: (r, lo) :: news) := by
          rcases List.mem_cons.mp hq with rfl | hq
          · exact List.mem_cons_self
          · exact List.mem_cons_of_mem _ (List.mem_append_right _ hq)
        refine ⟨ke' q.1 q.2 (fun z => ?_) (N' q hq').1, (N' q hq').2⟩
        rcases z with z | ⟨_, i, z⟩
        · rcases List.mem_cons.mp hq with rfl | hq
          · exact hLg (lb, listOf [].toArray c) List.mem_cons_self z
          · exact hLg q (List.mem_cons_of_mem _ hq) z
        · rcases List.mem_cons.mp hq with rfl | hq
          · cases z
          rcases List.mem_cons.mp hq with rfl | hq
          · obtain ⟨_, ⟨t1, t2, h2⟩, _⟩ := hoG
            have z' : oG.data = .fields #[.ref r, .int i 0] := z
            rw [h2] at z'
            simp at z'
          · exact hit q hq i z
    refine pyNext_genQ (R := GR h₀ r Lg ws) (Y := GY h₀ r lo Lg ws) (n := k) hA (hnl.keeps F'.keep) hroom hgobj hg (hst hk _ F'.keep (N'.get (by simp)) fun q hq => N'.get (by simp [hq])) (fun vv s₁ gs' hb hv => ?_) (fun xx s₁ hx => ?_)
    · obtain ⟨⟨y, t, hy, rfl⟩, hsn, oL', I, oI, gL, gI, h0I, ⟨iI, hdI⟩, hkap⟩ := hv
      obtain ⟨F₁, N₁⟩ := carry s₁ hsn
      obtain ⟨⟨h1, tk1, rfl⟩, _⟩ := hsn
      dsimp only [Shared.setGen] at *
      have hIL : I ≠ L := fun q => by
        obtain ⟨oC, ce, cp, hC, hCd, _⟩ := F₁.ns
        rw [q, hC] at gI
        cases gI
        rw [hCd] at hdI; cases hdI
      have hIb : I ≠ lb := fun q => by
        have := N₁.get (List.mem_cons_self)
        rw [← q, gI] at this
        cases this
        cases hdI
      refine wpAny_assign_Name (wpAny_storeName_local hkx (m := fun z => if z = x then v else m z) (hloc ▸ F₁.ns) (fun h₂ hn₂ hs₂ => ?_) hpx)
      rw [hloc] at hn₂ hs₂
      have e₂ : (fun z => if z = x then some (Value.int y t) else if z = x then v else m z) = fun z => if z = x then some (Value.int y t) else m z := by
        funext z
        by_cases q : z = x <;> simp [q]
      rw [e₂] at hn₂
      have F₂ := F₁.set hn₂ hs₂
      have N₂ : News h₀ L h₂ ((lb, listOf us.toArray c') :: ([(Lg, oL'), (I, oI)] ++ (aG, oG) :: (r, lo) :: news)) := by
        have N₁' : News h₀ L h1 ((lb, listOf us.toArray c') :: ([(Lg, oL'), (I, oI)] ++ (aG, oG) :: (r, lo) :: news)) := fun q hq => by
          rcases List.mem_cons.mp hq with rfl | hq
          · exact N₁ _ List.mem_cons_self
          rcases List.mem_cons.mp hq with rfl | hq
          · exact ⟨gL, Ne.symm nLL, nL⟩
          rcases List.mem_cons.mp hq with rfl | hq
          · exact ⟨gI, hIL, h0I⟩
          · exact N₁ _ (List.mem_cons_of_mem _ hq)
        exact N₁'.set hs₂
      have hu4 : us.length < 4 := by omega
      refine wpAny_mono (turn us c' y t ([(Lg, oL'), (I, oI)] ++ (aG, oG) :: (r, lo) :: news) { s with heap := h₂, toks := tk1 + 1, gens := (G.setIfInBounds g .running).setIfInBounds g gs' } hu4 (fun q hq => by simp [hq]) (fun q hq => ?_) F₂ N₂) (fun f s₃ hf => ?_) fun _ _ e => e
      · rcases List.mem_cons.mp hq with rfl | hq
        · exact hne (Lg, oL) List.mem_cons_self
        rcases List.mem_cons.mp hq with rfl | hq
        · exact hIb
        · exact hne q (List.mem_cons_of_mem _ hq)
      · obtain ⟨⟨h₃, tk₃, c₃, rfl, F₃, N₃⟩, hf⟩ := hf
        have hyl : j < ws.length := by
          have := (List.getElem?_eq_some_iff.mp hy).1
          omega
        have hyj : ws[j]? = some y := by rw [← hy]; congr 1; omega
        have hi3 : IntsAre (us ++ [.int y t]) (ws.take (j + 1)) := by
          rw [List.take_add_one, hyj]
          exact IntsAre.app hi (.cons y t .nil)
        have hgsz : g < G.size := (Array.getElem?_eq_some_iff.mp hg).1
        rcases hf with ⟨rfl, h4⟩ | ⟨rfl, h4⟩
        · refine ⟨k - 1, by omega, j + 1, us ++ [.int y t], c₃, some (.int y t), [(Lg, oL'), (I, oI)], gs', h₃, tk₃, _, by omega, by omega, by simp [hus], by omega, hi3, rfl, bare_set (bare_set hB rfl) hb, ?_, ?_, F₃, N₃, ?_⟩
          · rw [Array.getElem?_setIfInBounds_self]; simp [hgsz]
          · intro hk1 s₄ k0 kr kp
            have := hkap hk1 s₄ k0 kr (kp (Lg, oL') (by simp)) (kp (I, oI) (by simp))
            obtain ⟨k', rfl⟩ : ∃ k', k = k' + 1 := ⟨k - 1, by omega⟩
            exact this
          · intro q hq
            rcases List.mem_cons.mp hq with rfl | hq
            · exact hne (Lg, oL) List.mem_cons_self
            rcases List.mem_cons.mp hq with rfl | hq
            · exact hIb
            · cases hq
        · have hj4 : ws.take (j + 1) = ws := List.take_of_length_le (by omega)
          rw [hj4] at hi3
          refine done (us ++ [.int y t]) c₃ (some (.int y t)) h₃ tk₃ _ hi3 (bare_set (bare_set hB rfl) hb) F₃ fun q hq => N₃ q ?_
          rcases List.mem_cons.mp hq with rfl | hq
          · exact List.mem_cons_self
          · simp [hq]
    · obtain ⟨rfl, hlen, hsn⟩ := hx
      refine ⟨rfl, fun h₂ up => ?_⟩
      obtain ⟨F₁, N₁⟩ := carry s₁ hsn
      obtain ⟨⟨h1, tk1, rfl⟩, _⟩ := hsn
      dsimp only [Shared.setGen] at *
      refine wpAny_pure ?_
      have hj4 : ws.take j = ws := List.take_of_length_le (by omega)
      rw [hj4] at hi
      obtain ⟨o1, e1, e2, e3, e4⟩ := F₁.ns
      refine done us c' v h₂ tk1 _ hi (bare_set (bare_set hB rfl) rfl) ⟨⟨o1, e1, e2, up _ _ e3, e4⟩, fun b o e => up _ _ (F₁.keep b o e), F₁.above⟩ fun q hq => ?_
      have hq' : q ∈ (lb, listOf us.toArray c') :: (aG, oG) :: (r, lo) :: news := by
        rcases List.mem_cons.mp hq with rfl | hq
        · exact List.mem_cons_self
        · simp [hq]
      exact ⟨up _ _ (N₁ q hq').1, (N₁ q hq').2⟩
  · have e : (fun z => if z = x then none else m z) = m := by
      funext z
      by_cases q : z = x
      · simp [q, hm]
      · simp [q]
    rw [e]; exact F
end Mine
end

/-! MRul -/
section
open PySem PySem.W PyProof.Rows PySem.Calls PySem.Spec
set_option maxRecDepth 100000
set_option maxHeartbeats 8000000
namespace Mine
abbrev CallR (w : World) (vs : List Value) (pre : Led → Prop) : Prop :=
  ∀ (p : Program) (loose : List Str) (mean : ExcName → Option Value) (mg mb : Str → Option Value) (dp un : Nat) (gd : Option (List Code)) (cn : Str) (cs : Scope) (a : Addr) (ccd : Value) (cl : List (Str × Addr)) (outer : List Env) (A₀ : Around) (base h₀ : Heap) (L : Addr) (m : Str → Option Value) (news : Led) (s : Shared) (Q E : Value → Shared → Prop),
    Below A₀ base outer h₀ → Fr h₀ L s.heap m → (hd.heap_39 w.params).In h₀ → News h₀ L s.heap news → Top p loose mean mg mb h₀ → cs.kind = .function → pre news → dp + 3 < recursionLimit → un + 24 < cLine →
    (∀ (r l1 l2 : Addr) (us1 us2 : List Value) (ns ws : List Int) (n1 n2 n3 : Nat) (h' : Heap) (tk' : Nat), Fr h₀ L h' m → News h₀ L h' ((r, { cls := .type "tuple", data := .seq #[.ref l1, .ref l2] n3 }) :: (l2, listOf us2.toArray n2) :: (l1, listOf us1.toArray n1) :: news) →
      AllLt l1 news → (@LT.lt Nat _ l1 l2 ∧ AllLt l2 news) → (@LT.lt Nat _ l2 r ∧ @LT.lt Nat _ l1 r ∧ AllLt r news) → IntsAre us1 ns → IntsAre us2 ws → Rul ns ws → (∀ x ∈ ws, 1 ≤ x ∧ x ≤ 4) → 2 ≤ ws.length → ws.length ≤ 4 → Q (.ref r) { s with heap := h', toks := tk' }) →
      wpAny (model PySem.Challenge.rw_wu0030_01.row.prog w) (ktrTop dp un gd cn cs L a ccd cl outer) (call (.ref 124) vs) Q E s
theorem rul0 {x y z : Int} (hx : 1 ≤ x ∧ x ≤ 4) (hy : 1 ≤ y ∧ y ≤ 4) (hz : 1 ≤ z ∧ z ≤ 4) : Rul [x, y, z, 0, 5] [x, y, z, z] := by
  refine ⟨3, by omega, by omega, fun i hi => ?_, .inr (.inr ⟨rfl, rfl, fun j h1 h2 => ?_⟩)⟩
  · rcases i with _ | _ | _ | i
    · exact ⟨x, rfl, rfl, by omega, by omega⟩
    · exact ⟨y, rfl, rfl, by omega, by omega⟩
    · exact ⟨z, rfl, rfl, by omega, by omega⟩
    · omega
  · have : j = 3 := by omega
    subst this; rfl
theorem rul1 {x y z : Int} (hx : 1 ≤ x ∧ x ≤ 4) (hy : 1 ≤ y ∧ y ≤ 4) : Rul [x, y, 127, z] [x, y] := by
  refine ⟨2, by omega, by omega, fun i hi => ?_, .inr (.inl ⟨rfl, rfl⟩)⟩
  rcases i with _ | _ | i
  · exact ⟨x, rfl, rfl, by omega, by omega⟩
  · exact ⟨y, rfl, rfl, by omega, by omega⟩
  · omega
theorem rul2 {x y z : Int} (hx : 1 ≤ x ∧ x ≤ 4) (hy : 1 ≤ y ∧ y ≤ 4) (hz : 1 ≤ z ∧ z ≤ 4) : Rul [x, y, z] [x, y, z] := by
  refine ⟨3, by omega, by omega, fun i hi => ?_, .inl ⟨rfl, rfl⟩⟩
  rcases i with _ | _ | _ | i
  · exact ⟨x, rfl, rfl, by omega, by omega⟩
  · exact ⟨y, rfl, rfl, by omega, by omega⟩
  · exact ⟨z, rfl, rfl, by omega, by omega⟩
  · omega
theorem c_ruler (w : World) (x y z k : Int) (tx ty tz tk : Tok) (hx : 1 ≤ x ∧ x ≤ 4) (hy : 1 ≤ y ∧ y ≤ 4) (hz : 1 ≤ z ∧ z ≤ 4) : CallR w [.int x tx, .int y ty, .int z tz, .int k tk] (fun _ => True) := by
  w_on
  unfold CallR
  k_fill
  intro p loose mean mg mb dp un gd cn cs a ccd cl outer A₀ base h₀ L m news s Q E B F X N T hkk hpre hdp hun hret
  refine wpAny_call ?_
  k_dflt cell_enter
  k_steps
  · exact hret _ _ _ _ _ _ _ _ _ _ _ _ (by assumption) (by assumption) (allLt_of (by assumption)) (by assumption) (by assumption) (.cons _ _ (.cons _ _ (.cons _ _ (.cons _ _ (.cons _ _ .nil))))) (.cons _ _ (.cons _ _ (.cons _ _ (.cons _ _ .nil)))) (rul0 hx hy hz) (by simp; omega) (by simp) (by simp)
  · exact hret _ _ _ _ _ _ _ _ _ _ _ _ (by assumption) (by assumption) (allLt_of (by assumption)) (by assumption) (by assumption) (.cons _ _ (.cons _ _ (.cons _ _ (.cons _ _ .nil)))) (.cons _ _ (.cons _ _ .nil)) (rul1 hx hy) (by simp; omega) (by simp) (by simp)
  · exact hret _ _ _ _ _ _ _ _ _ _ _ _ (by assumption) (by assumption) (allLt_of (by assumption)) (by assumption) (by assumption) (.cons _ _ (.cons _ _ (.cons _ _ .nil))) (.cons _ _ (.cons _ _ (.cons _ _ .nil))) (rul2 hx hy hz) (by simp; omega) (by simp) (by simp)
end Mine
end

/-! MPost -/
section
open PySem PySem.W PyProof.Rows PySem.Calls PySem.Spec
set_option maxRecDepth 100000
set_option maxHeartbeats 8000000
namespace Mine
/-- the law's own end: True is handed back, only the table has grown, no generator waits with a cleanup -/
def Ends1 (s₁ : Shared) (tabs : List (Addr × Addr)) (r : Result) (s' : Shared) : Prop :=
  r = .ok (.ret (.bool true)) ∧ (∀ b o, (ghostOf s₁.heap tabs).get? b = some o → s'.heap.get? b = some o) ∧ s'.os = s₁.os ∧ AllBare s'.gens ∧ GrownAll tabs s'.heap
theorem my_post {M : Model} {A : Around} {cd : Code} {s s₁ : Shared} {cw : ClaimW} {cl : Str → Option Addr} {mean : ExcName → Option Value} {args : List WData} {tabs : List (Addr × Addr)} (hT : TabsAt tabs s₁.heap) (hr : ∀ a x, cw.raises a x = false)
    (hp : cw.post args (.bool true) args = true) (h : codeAny M A cd (Ends1 s₁ tabs) s) : codeAny M A cd (GoodWG cw cl mean args s₁) s :=
  codeAny_mono h fun r s' ⟨hc, hk, hos, hg, hgr⟩ => by
    have keep : ∀ b o, b ∉ tabs.map (·.2) → s₁.heap.get? b = some o → s'.heap.get? b = some o := fun b o hb e => hk b o (ghost_ne e hb)
    have grown : ∀ b o, b ∈ tabs.map (·.2) → s₁.heap.get? b = some o → isCodeTable s₁.heap b ∧ o = tabObj #[] ∧ ∃ ps, s'.heap.get? b = some (tabObj ps) := fun b o hb e => by
      obtain ⟨q, hq, rfl⟩ := List.mem_map.mp hb
      have e2 := (hT q hq).2
      rw [e] at e2
      exact ⟨((hT q hq).1.tab (hT q hq).2).isCodeTable, Option.some.inj e2, hgr.get q hq⟩
    refine ⟨.inl ⟨.bool true, .bool true, [], hc, hr _, .bool true, hp, fun _ => ⟨.nil, fun a ha => nomatch ha⟩⟩, ⟨fun b o e => ?_, fun b o e => ?_⟩, hos, hg⟩
    · by_cases hb : b ∈ tabs.map (·.2)
      · obtain ⟨ht, rfl, ps, hP⟩ := grown b o hb e
        exact .inr (.inl ⟨ht, rfl, #[], ps, rfl, by rw [Array.empty_append]; exact hP⟩)
      · exact .inl (keep b o hb e)
    · by_cases hb : b ∈ tabs.map (·.2)
      · obtain ⟨_, _, ps, hP⟩ := grown b o hb e
        exact ⟨_, hP⟩
      · exact ⟨o, keep b o hb e⟩
end Mine
end

/-! MSplit -/
section
open PySem PySem.W PyProof.Rows PySem.Calls PySem.Spec
set_option maxRecDepth 100000
set_option maxHeartbeats 8000000
namespace Mine
theorem execs_append (env : Env) (b : List Stmt) : ∀ a : List Stmt, execs (a ++ b) env = (execs a env >>= fun f => match f with | .next => execs b env | f => pure f)
  | [] => rfl
  | st :: a => by
    rw [List.cons_append, execs_cons, execs_cons, Sem.bind_eq_wrap', Sem.bind_eq_wrap', Sem.bind_eq_wrap', Sem.wrap_wrap]
    refine Sem.wrap_congr _ _ _ (fun f => ?_) (fun e => rfl)
    cases f with
    | next => show execs (a ++ b) env = _; rw [execs_append env b a, Sem.bind_eq_wrap']
    | _ => rfl
theorem execs_two {M : Model} {A : Around} {env : Env} {E : Value → Shared → Prop} {Q : Flow → Shared → Prop} {a b : List Stmt} {s : Shared}
    (h : wpAny M A (execs a env) (fun f s' => match f with | .next => wpAny M A (execs b env) Q E s' | f => Q f s') E s) : wpAny M A (execs (a ++ b) env) Q E s := by
  rw [execs_append]
  refine wpAny_bind (wpAny_mono h (fun f s' hf => ?_) fun _ _ e => e)
  cases f with
  | next => exact hf
  | _ => exact wpAny_pure hf
noncomputable def lawData (P : Params) : Option FuncData := match (hd.heap_39 P).lookup 164 with
  | some ⟨_, _, .func fd, _⟩ => some fd
  | _ => none
noncomputable def lawPart (P : Params) (i n : Nat) : List Stmt := match lawData P with
  | some fd => (match fd.body with | .stmts b => (b.drop i).take n | _ => [])
  | none => []
noncomputable def lawScope (P : Params) : Scope := match lawData P with
  | some fd => fd.scope
  | none => default
theorem fr_is {h₀ h : Heap} {L : Addr} {m m' : Str → Option Value} (F : Fr h₀ L h m) (e : m = m') : Fr h₀ L h m' := e ▸ F
end Mine
end

/-! MPlain -/
section
open PySem PySem.W PyProof.Rows PySem.Calls PySem.Spec
set_option maxRecDepth 100000
set_option maxHeartbeats 8000000
set_option linter.unusedSimpArgs false
namespace Mine
theorem sum_nat : ∀ fs : List Int, (∀ x ∈ fs, 0 ≤ x) → (((fs.map Int.toNat).sum : Nat) : Int) = fs.sum
  | [], _ => rfl
  | x :: r, h => by
    have ih := sum_nat r fun y hy => h y (List.mem_cons_of_mem _ hy)
    have := h x (List.mem_cons_self ..)
    simp only [List.map_cons, List.sum_cons]
    omega
theorem mem_ks {n : Nat} {k : Int} : k ∈ rangeKs 0 ((n : Int) + 1 - 0).toNat ↔ ∃ j : Nat, j ≤ n ∧ k = j := by
  rw [show ((n : Int) + 1 - 0).toNat = n + 1 by omega]
  unfold rangeKs
  simp only [List.mem_map, List.mem_range]
  constructor
  · rintro ⟨j, hj, rfl⟩
    exact ⟨j, by omega, by omega⟩
  · rintro ⟨j, hj, rfl⟩
    exact ⟨j, by omega, by omega⟩
theorem gm_is (h : Int → Int) (fs : List Int) (M' : Int) (hf : ∀ x ∈ fs, 0 ≤ x)
    (hm : M' ∈ (rangeKs 0 ((fs.length : Int) + 1 - 0).toNat).map (fun k => h k + (fs.drop k.toNat).sum)) (hmin : ∀ a ∈ (rangeKs 0 ((fs.length : Int) + 1 - 0).toNat).map (fun k => h k + (fs.drop k.toNat).sum), M' ≤ a) :
    M' = Gm (fun k => h (k : Int)) 0 (fs.map Int.toNat) := by
  have e : ∀ j : Nat, ((((fs.map Int.toNat).drop j).sum : Nat) : Int) = (fs.drop j).sum := fun j => by
    rw [← List.map_drop]; exact sum_nat _ fun x hx => hf x (List.mem_of_mem_drop hx)
  apply Int.le_antisymm
  · obtain ⟨j, hj, x⟩ := gm_ex (fun k => h (k : Int)) (fs.map Int.toNat) 0
    rw [x, e]
    refine hmin _ (List.mem_map.mpr ⟨(j : Int), mem_ks.mpr ⟨j, by simpa using hj, rfl⟩, ?_⟩)
    simp
  · obtain ⟨k, hk, rfl⟩ := List.mem_map.mp hm
    obtain ⟨j, hj, rfl⟩ := mem_ks.mp hk
    have x := gm_le (fun k => h (k : Int)) (fs.map Int.toNat) 0 j (by simpa using hj)
    rw [e] at x
    simpa using x
/-- the least price is what the dealing gives -/
theorem plain {ws zs fs : List Int} {M' : Int} (hw : ∀ x ∈ ws, 1 ≤ x ∧ x ≤ 4) (h2 : 2 ≤ ws.length) (h4 : ws.length ≤ 4) (hz : ∀ z ∈ zs, 0 ≤ z ∧ z ≤ 5) (hp : fs.Perm ws) (hs : fs.Pairwise fun x y => y ≤ x)
    (hm : M' ∈ (rangeKs 0 ((ws.length : Int) + 1 - 0).toNat).map (fun k => tot zs k + (fs.drop k.toNat).sum)) (hmin : ∀ a ∈ (rangeKs 0 ((ws.length : Int) + 1 - 0).toNat).map (fun k => tot zs k + (fs.drop k.toNat).sum), M' ≤ a) :
    M' = (deals (ws.map Int.toNat) zs).2 := by
  have hl := hp.length_eq
  have g := gale zs (ws.map Int.toNat) 0 hz (by rw [List.length_map]; exact ⟨h2, h4⟩) (fun x hx => by
    obtain ⟨y, hy, rfl⟩ := List.mem_map.mp hx
    have := hw y hy
    omega)
  rw [Int.zero_add] at g
  have e : fs.map Int.toNat = isort (ws.map Int.toNat) := by
    refine isort_uniq (hp.map _) ?_
    rw [List.pairwise_map]
    exact hs.imp fun {a b} h => by omega
  rw [← e] at g
  show M' = (dealsFrom (ws.map Int.toNat, 0) zs).2
  rw [g]
  rw [← hl] at hm hmin
  exact gm_is (tot zs) fs M' (fun x hx => by have := hw x (hp.mem_iff.mp hx); omega) hm hmin
end Mine
end

/-! MLaw1 -/
section
open PySem PySem.W PyProof.Rows PySem.Calls PySem.Spec
set_option maxRecDepth 100000
set_option maxHeartbeats 8000000
namespace Mine
/-- the law's frame behind its first three lines -/
def lf1 (la lz : Addr) (t : Int) (tt : Tok) : Str → Option Value := fun y => if y = Str.ofString "sizes" then some (.ref lz) else if y = Str.ofString "t" then some (.int t tt) else List.lookup y [(Str.ofString "script", Value.ref la)].reverse
theorem lf1_is {la lz lz' : Addr} {t : Int} {tt : Tok} : (fun y => if y = Str.ofString "sizes" then some (Value.ref lz) else if y = Str.ofString "sizes" then some (Value.ref lz') else if y = Str.ofString "t" then some (Value.int t tt) else List.lookup y [(Str.ofString "script", Value.ref la)].reverse) = lf1 la lz t tt := by
  funext y
  unfold lf1
  by_cases h : y = Str.ofString "sizes" <;> simp [h]
theorem sizes_ok (ns : List Int) : ∀ z ∈ (List.map (fun k => Int.fmod k 6) (List.take 5 ns) ++ List.drop ((List.map (fun k => Int.fmod k 6) (List.take 5 ns)).length : Int).toNat [5, 0, 4, 1]), 0 ≤ z ∧ z ≤ 5 := by
  intro z hz
  rcases List.mem_append.mp hz with h | h
  · obtain ⟨k, _, rfl⟩ := List.mem_map.mp h
    rw [Int.fmod_eq_emod_of_nonneg _ (by decide)]; omega
  · have := List.mem_of_mem_drop h
    simp at this
    omega
theorem s1 (w : World) {p : Program} {loose : List Str} {mean : ExcName → Option Value} {mg mb : Str → Option Value} {h₀ : Heap} {L la fa : Addr} {cd : Value} {vs : List Value} {ns : List Int} {s : Shared} {Q : Flow → Shared → Prop} {E : Value → Shared → Prop}
    (B : Below callerA h₀ [] h₀) (F : Fr h₀ L s.heap (fun y => List.lookup y [(Str.ofString "script", Value.ref la)].reverse)) (X : (hd.heap_39 w.params).In h₀) (N : News h₀ L s.heap [(154, tabObj #[])]) (T : Top p loose mean mg mb h₀) (l0 : @LT.lt Nat _ 154 L)
    (lifted : h₀.IsList la vs.toArray) (hI : IntsAre vs ns) (hcond' : ¬ (((63 : Nat) : Int) < (ns.length : Int)))
    (hret : ∀ (lz : Addr) (vz : List Value) (zs : List Int) (t : Int) (tt : Tok) (nz : Nat) (h' : Heap) (tk' : Nat), Fr h₀ L h' (lf1 la lz t tt) → News h₀ L h' [(lz, listOf vz.toArray nz), (154, tabObj #[])] → @LT.lt Nat _ 154 lz → IntsAre vz zs → (∀ z ∈ zs, 0 ≤ z ∧ z ≤ 5) → zs.length ≤ 9 → 
      Q .next { s with heap := h', toks := tk' }) :
    wpAny (model PySem.Challenge.rw_wu0030_01.row.prog w) (callerA.deeper (envOf (Str.ofString "law") (lawScope w.params) L fa cd)) (execs (lawPart w.params 0 3) (envOf (Str.ofString "law") (lawScope w.params) L fa cd)) Q E s := by
  w_on
  revert X
  k_fill
  intro X
  obtain ⟨b, hb⟩ : ∃ b, lawPart w.params 0 3 = b := ⟨_, rfl⟩
  rw [hb]
  conv at hb => lhs; whnf
  subst hb
  obtain ⟨sc, hsc⟩ : ∃ b, lawScope w.params = b := ⟨_, rfl⟩
  rw [hsc]
  conv at hsc => lhs; whnf
  subst hsc
  k_steps
  show wpAny _ _ (execs [] _) _ _ _
  refine wpAny_execs_nil ?_
  rename News h₀ L _ _ => kN
  rename Fr h₀ L _ _ => kF
  refine hret _ _ _ _ _ 0 _ _ (fr_is kF lf1_is) (fun q hq => ?_) ?_ (by assumption) (sizes_ok _) ?_
  · rcases List.mem_cons.mp hq with rfl | hq
    · exact kN _ List.mem_cons_self
    rcases List.mem_cons.mp hq with rfl | hq
    · exact kN _ (by simp)
    · cases hq
  · first | assumption | omega
  · simp; omega
end Mine
end

/-! MLaw2 -/
section
open PySem PySem.W PyProof.Rows PySem.Calls PySem.Spec
set_option maxRecDepth 100000
set_option maxHeartbeats 8000000
namespace Mine
theorem fm4 (a : Int) : 1 ≤ 1 + a.fmod 4 ∧ 1 + a.fmod 4 ≤ 4 := by
  rw [Int.fmod_eq_emod_of_nonneg _ (by decide)]; omega
theorem CallR.use {w : World} {vs : List Value} {pre : Led → Prop} (C : CallR w vs pre)
    {p : Program} {loose : List Str} {mean : ExcName → Option Value} {mg mb : Str → Option Value} {dp un : Nat} {gd : Option (List Code)} {cn : Str} {cs : Scope} {a : Addr} {ccd : Value} {cl : List (Str × Addr)} {outer : List Env} {A₀ : Around} {base h₀ : Heap} {L : Addr} {m : Str → Option Value} {news : Led} {s : Shared} {Q E : Value → Shared → Prop}
    (B : Below A₀ base outer h₀) (F : Fr h₀ L s.heap m) (X : (hd.heap_39 w.params).In h₀) (N : News h₀ L s.heap news) (T : Top p loose mean mg mb h₀) (hk : cs.kind = .function) (hp : pre news) (hd : dp + 3 < recursionLimit) (hu : un + 24 < cLine)
    (ret : ∀ (r l1 l2 : Addr) (us1 us2 : List Value) (ns ws : List Int) (n1 n2 n3 : Nat) (h' : Heap) (tk' : Nat), Fr h₀ L h' m → News h₀ L h' ((r, { cls := .type "tuple", data := .seq #[.ref l1, .ref l2] n3 }) :: (l2, listOf us2.toArray n2) :: (l1, listOf us1.toArray n1) :: news) →
      AllLt l1 news → (@LT.lt Nat _ l1 l2 ∧ AllLt l2 news) → (@LT.lt Nat _ l2 r ∧ @LT.lt Nat _ l1 r ∧ AllLt r news) → IntsAre us1 ns → IntsAre us2 ws → Rul ns ws → (∀ x ∈ ws, 1 ≤ x ∧ x ≤ 4) → 2 ≤ ws.length → ws.length ≤ 4 → Q (.ref r) { s with heap := h', toks := tk' }) :
      wpAny (model PySem.Challenge.rw_wu0030_01.row.prog w) (ktrTop dp un gd cn cs L a ccd cl outer) (call (.ref 124) vs) Q E s :=
  C _ _ _ _ _ _ _ _ _ _ _ _ _ _ _ _ _ _ _ _ _ _ _ B F X N T hk hp hd hu ret
theorem news_drop2 {h₀ h : Heap} {L : Addr} {a b : Addr × Obj} {l : Led} (N : News h₀ L h (a :: b :: l)) : News h₀ L h (a :: l) := fun q hq => by
  rcases List.mem_cons.mp hq with rfl | hq
  · exact N _ List.mem_cons_self
  · exact N _ (.tail _ (.tail _ hq))
/-- the law's frame ahead of its for -/
def lf2 (la lz lr lm lb : Addr) (t : Int) (tt : Tok) : Str → Option Value := fun y => if y = Str.ofString "boxes" then some (.ref lb) else if y = Str.ofString "rooms" then some (.ref lm) else if y = Str.ofString "ruler" then some (.ref lr) else lf1 la lz t tt y
section
local macro_rules | `(tactic| walk_at "call ref") => `(tactic| (k_here; k_dflt (refine' CallR.use (c_ruler _ _ _ _ _ _ _ _ _ (fm4 _) (fm4 _) (fm4 _)) (by k_asm) (by k_asm) (by k_asm) (by k_asm) (by k_asm) (by first | exact rfl | assumption) trivial (by ktr_room) (by ktr_units) ?_); intro r9 la9 lb9 ua9 ub9 na9 nb9 n19 n29 n39 h9 tk9 F9 N9 o19 o29 o39 ia9 ib9 rul9 rng9 two9 four9; (try dsimp only); (try k_fold)))
theorem s2 (w : World) {p : Program} {loose : List Str} {mean : ExcName → Option Value} {mg mb : Str → Option Value} {h₀ : Heap} {L la fa lz : Addr} {cd : Value} {vz : List Value} {zs : List Int} {nz : Nat} {t : Int} {tt : Tok} {s : Shared} {Q : Flow → Shared → Prop} {E : Value → Shared → Prop}
    (B : Below callerA h₀ [] h₀) (F : Fr h₀ L s.heap (lf1 la lz t tt)) (X : (hd.heap_39 w.params).In h₀) (N : News h₀ L s.heap [(lz, listOf vz.toArray nz), (154, tabObj #[])]) (T : Top p loose mean mg mb h₀) (l1 : @LT.lt Nat _ 154 lz) (hI : IntsAre vz zs)
    (hret : ∀ (lr lm lb : Addr) (us1 us2 : List Value) (ns ws : List Int) (n1 n2 n3 : Nat) (h' : Heap) (tk' : Nat), Fr h₀ L h' (lf2 la lz lr lm lb t tt) → News h₀ L h' [(lb, listOf [].toArray n3), (lm, listOf us2.toArray n2), (lr, listOf us1.toArray n1), (lz, listOf vz.toArray nz), (154, tabObj #[])] → 
      @LT.lt Nat _ lz lr → @LT.lt Nat _ lr lm → @LT.lt Nat _ lm lb → IntsAre us1 ns → IntsAre us2 ws → Rul ns ws → (∀ x ∈ ws, 1 ≤ x ∧ x ≤ 4) → 2 ≤ ws.length → ws.length ≤ 4 → Q .next { s with heap := h', toks := tk' }) :
    wpAny (model PySem.Challenge.rw_wu0030_01.row.prog w) (callerA.deeper (envOf (Str.ofString "law") (lawScope w.params) L fa cd)) (execs (lawPart w.params 3 2) (envOf (Str.ofString "law") (lawScope w.params) L fa cd)) Q E s := by
  w_on
  revert X
  k_fill
  intro X
  delta lf1 at F
  obtain ⟨b, hb⟩ : ∃ b, lawPart w.params 3 2 = b := ⟨_, rfl⟩
  rw [hb]
  conv at hb => lhs; whnf
  subst hb
  obtain ⟨sc, hsc⟩ : ∃ b, lawScope w.params = b := ⟨_, rfl⟩
  rw [hsc]
  conv at hsc => lhs; whnf
  subst hsc
  k_steps
  show wpAny _ _ (execs [] _) _ _ _
  refine wpAny_execs_nil ?_
  rename News h₀ L _ _ => kN
  rename Fr h₀ L _ _ => kF
  rename Rul _ _ => kR
  refine hret _ _ _ _ _ _ _ _ _ 0 _ _ kF (news_drop2 kN) ?_ ?_ ?_ (by assumption) (by assumption) kR (by assumption) (by assumption) (by assumption)
  · simp only [AllLt] at *; omega
  · simp only [AllLt] at *; omega
  · simp only [AllLt] at *; omega
end
end Mine
end

/-! MLaw3 -/
section
open PySem PySem.W PyProof.Rows PySem.Calls PySem.Spec
set_option maxRecDepth 100000
set_option maxHeartbeats 8000000
namespace Mine
theorem news_rot {h₀ h : Heap} {L : Addr} {a b c : Addr × Obj} {l : Led} (N : News h₀ L h (a :: b :: c :: l)) : News h₀ L h (c :: a :: b :: l) := fun q hq => by
  refine N q ?_
  simp only [List.mem_cons] at hq ⊢
  rcases hq with h | h | h | h
  · exact .inr (.inr (.inl h))
  · exact .inl h
  · exact .inr (.inl h)
  · exact .inr (.inr (.inr h))
theorem len_app {us : List Value} {x : Value} : (((us ++ [x]).toArray.size : Nat) : Int) = ((us.length + 1 : Nat) : Int) := by simp
section
local macro_rules | `(tactic| walk_at "call ref") => `(tactic| (k_here; k_dflt (refine' c_gen _ _ _ _ _ _ _ (by assumption) (by assumption) (by assumption) (by assumption) (news_rot (by assumption)) (by assumption) (by ktr_room) ?_); intro oL9 oG9 Lg9 aG9 h9 tk9 gs9 F9 N9 G9 O9 b9 g9; (try dsimp only)))
local macro_rules | `(tactic| walk_at "call builtin:list.append") => `(tactic| (k_here; (try dsimp only); (try simp only [List.cons_append, List.nil_append]); k_dflt (refine' append_K (by k_asm) (by k_asm) (Upd.head (by assumption)) ?_ (by rw [List.size_toArray]; exact Nat.le_trans (Nat.le_of_lt (by assumption)) (by decide)); k_whole); intro h' F' N'; (try dsimp only)))
local macro_rules | `(tactic| walk_at "call builtin:len") => `(tactic| (k_here; k_dflt (refine' kun_lenL (News.isList (by k_asm) (by k_mem)) len_app (by omega) ?_; k_whole)))
theorem s3 (w : World) {p : Program} {loose : List Str} {mean : ExcName → Option Value} {mg mb : Str → Option Value} {h₀ : Heap} {L la fa lz lr lm lb : Addr} {cd : Value} {us1 us2 vz : List Value} {ns ws : List Int} {n1 n2 n3 nz : Nat} {t : Int} {tt : Tok} {s : Shared} {Q : Flow → Shared → Prop} {E : Value → Shared → Prop}
    (B : Below callerA h₀ [] h₀) (F : Fr h₀ L s.heap (lf2 la lz lr lm lb t tt)) (X : (hd.heap_39 w.params).In h₀) (N : News h₀ L s.heap [(lb, listOf [].toArray n3), (lm, listOf us2.toArray n2), (lr, listOf us1.toArray n1), (lz, listOf vz.toArray nz), (154, tabObj #[])]) (T : Top p loose mean mg mb h₀) (l1 : @LT.lt Nat _ 154 lz) (l2 : @LT.lt Nat _ lz lr) (l3 : @LT.lt Nat _ lr lm) (l4 : @LT.lt Nat _ lm lb)
    (hI : IntsAre us1 ns) (hR : Rul ns ws) (hw4 : ws.length ≤ 4) (hG : AllBare s.gens)
    (hret : ∀ (us : List Value) (c' : Nat) (v : Option Value) (h' : Heap) (tk' : Nat) (G : Array GenState), IntsAre us ws → AllBare G → Fr h₀ L h' (fun z => if z = Str.ofString "room" then v else lf2 la lz lr lm lb t tt z) → News h₀ L h' [(lb, listOf us.toArray c'), (lm, listOf us2.toArray n2), (lz, listOf vz.toArray nz), (154, tabObj #[])] → Q .next { s with heap := h', toks := tk', gens := G }) :
    wpAny (model PySem.Challenge.rw_wu0030_01.row.prog w) (callerA.deeper (envOf (Str.ofString "law") (lawScope w.params) L fa cd)) (execs (lawPart w.params 5 1) (envOf (Str.ofString "law") (lawScope w.params) L fa cd)) Q E s := by
  w_on
  revert X
  k_fill
  intro X
  delta lf2 lf1 at F
  obtain ⟨b, hb⟩ : ∃ b, lawPart w.params 5 1 = b := ⟨_, rfl⟩
  rw [hb]
  conv at hb => lhs; whnf
  subst hb
  obtain ⟨sc, hsc⟩ : ∃ b, lawScope w.params = b := ⟨_, rfl⟩
  rw [hsc]
  conv at hsc => lhs; whnf
  subst hsc
  refine wpAny_execs_cons (wpAny_For ?_)
  k_steps
  rename_i oL oG Lg aG h9 tk9 gs F9 N9 hoG hO hb hgen
  refine wpAny_pyIter_gen (g := s.gens.size) ⟨oG, hoG.2.1.choose, hoG.2.1.choose_spec.choose, N9.get (by simp), hoG.1, hoG.2.1.choose_spec.choose_spec, hoG.2.2⟩ ?_
  have d1 : lb ≠ Lg := hO (lb, listOf [].toArray n3) (by simp)
  have d2 : aG ≠ lb := fun q => by
    have e1 := N9.get (a := aG) (o := oG) (by simp)
    have e2 := N9.get (a := lb) (o := listOf [].toArray n3) (by simp)
    rw [q, e2] at e1
    have := Option.some.inj e1
    obtain ⟨z, _⟩ := hoG
    rw [← this] at z
    have z2 : Value.type "list" = Value.type "generator" := z
    exact absurd z2 (by decide)
  refine gen_loop (L := L) (Lg := Lg) (oL := oL) (oG := oG) (r := lr) (lo := listOf us1.toArray n1) (lb := lb) (c := n3) (gs := gs) (ws := ws) (g := s.gens.size) (news := [(lm, listOf us2.toArray n2), (lz, listOf vz.toArray nz), (154, tabObj #[])])
    rfl (by ktr_room) T.nolimit rfl rfl rfl F9 (fun q hq => N9 q (by simp only [List.mem_cons] at hq ⊢; rcases hq with h | h | h | h | h | h | h | h <;> first | (simp [h]; done) | cases h)) hoG (fun q hq => hO q (by simp only [List.mem_cons] at hq ⊢; rcases hq with h | h | h | h | h | h | h <;> first | (simp [h]; done) | cases h)) ?hit (by simp) (hG.push hb) hgen hw4 ?turn ?done ?hne rfl
  case hit => 
    intro q hq i
    simp only [List.mem_cons, List.not_mem_nil, or_false] at hq
    rcases hq with rfl | rfl | rfl | rfl <;> simp [W.listOf, tabObj]
  case hne =>
    intro q hq
    simp only [List.mem_cons, List.not_mem_nil, or_false] at hq
    rcases hq with rfl | rfl | rfl | rfl | rfl | rfl
    · exact Ne.symm d1
    · exact d2
    · exact Nat.ne_of_lt (Nat.lt_trans l3 l4)
    · exact Nat.ne_of_lt l4
    · exact Nat.ne_of_lt (Nat.lt_trans l2 (Nat.lt_trans l3 l4))
    · exact Nat.ne_of_lt (Nat.lt_trans l1 (Nat.lt_trans l2 (Nat.lt_trans l3 l4)))
  case done =>
    intro us c' v h' tk' G hi hG' F' N'
    show wpAny _ _ (execs [] _) _ _ _
    exact wpAny_execs_nil (hret us c' v h' tk' G hi hG' F' fun q hq => N' q hq)
  case turn =>
    clear hret F9 N9 F N hO
    intro us c' y ty rest s' hlen hin hne F' N'
    k_steps
    all_goals first
      | exact .inr ⟨rfl, by omega⟩
      | exact .inl ⟨rfl, by omega⟩
      | assumption
end
end Mine
end

/-! MLaw4 -/
section
open PySem PySem.W PyProof.Rows PySem.Calls PySem.Spec
set_option maxRecDepth 100000
set_option maxHeartbeats 8000000
namespace Mine
/-- the law's frame ahead of its second for -/
def lf4 (la lz lr lm lb lf lp : Addr) (t : Int) (tt kt : Tok) (v : Option Value) : Str → Option Value := fun y => if y = Str.ofString "prices" then some (.ref lp) else if y = Str.ofString "falling" then some (.ref lf) else if y = Str.ofString "kind" then some (.int ((t.fdiv 384).fmod 3) kt) else if y = Str.ofString "room" then v else lf2 la lz lr lm lb t tt y
theorem news_drop4 {h₀ h : Heap} {L : Addr} {a b c d : Addr × Obj} {l : Led} (N : News h₀ L h (a :: b :: c :: d :: l)) : News h₀ L h (a :: b :: c :: l) := fun q hq => by
  rcases List.mem_cons.mp hq with rfl | hq
  · exact N _ List.mem_cons_self
  rcases List.mem_cons.mp hq with rfl | hq
  · exact N _ (.tail _ List.mem_cons_self)
  rcases List.mem_cons.mp hq with rfl | hq
  · exact N _ (.tail _ (.tail _ List.mem_cons_self))
  · exact N _ (.tail _ (.tail _ (.tail _ (.tail _ hq))))
theorem s4 (w : World) {p : Program} {loose : List Str} {mean : ExcName → Option Value} {mg mb : Str → Option Value} {h₀ : Heap} {L la fa lz lr lm lb : Addr} {cd : Value} {us us2 vz : List Value} {ws zs : List Int} {n2 n3 nz : Nat} {t : Int} {tt : Tok} {v : Option Value} {s : Shared} {Q : Flow → Shared → Prop} {E : Value → Shared → Prop}
    (B : Below callerA h₀ [] h₀) (F : Fr h₀ L s.heap (fun z => if z = Str.ofString "room" then v else lf2 la lz lr lm lb t tt z)) (X : (hd.heap_39 w.params).In h₀) (N : News h₀ L s.heap [(lb, listOf us.toArray n3), (lm, listOf us2.toArray n2), (lz, listOf vz.toArray nz), (154, tabObj #[])]) (T : Top p loose mean mg mb h₀) (l1 : @LT.lt Nat _ 154 lz) (l2 : @LT.lt Nat _ lz lr) (l3 : @LT.lt Nat _ lr lm) (l4 : @LT.lt Nat _ lm lb)
    (hi : IntsAre us ws) (hi2 : IntsAre us2 ws) (hz : IntsAre vz zs) (hw2 : 2 ≤ ws.length) (hw4 : ws.length ≤ 4) (hwr : ∀ x ∈ ws, 1 ≤ x ∧ x ≤ 4)
    (hret : ∀ (lf lp : Addr) (vf : List Value) (fs : List Int) (nf np : Nat) (kt : Tok) (h' : Heap) (tk' : Nat), Fr h₀ L h' (lf4 la lz lr lm lb lf lp t tt kt v) → News h₀ L h' [(lp, listOf [].toArray np), (lf, listOf vf.toArray nf), (lb, listOf us.toArray n3), (lz, listOf vz.toArray nz), (154, tabObj #[])] →
      @LT.lt Nat _ lb lf → @LT.lt Nat _ lf lp → IntsAre vf fs → fs.Perm ws → List.Pairwise (fun x y => y ≤ x) fs → Q .next { s with heap := h', toks := tk' }) :
    wpAny (model PySem.Challenge.rw_wu0030_01.row.prog w) (callerA.deeper (envOf (Str.ofString "law") (lawScope w.params) L fa cd)) (execs (lawPart w.params 6 4) (envOf (Str.ofString "law") (lawScope w.params) L fa cd)) Q E s := by
  w_on
  revert X
  k_fill
  intro X
  delta lf2 lf1 at F
  obtain ⟨b, hb⟩ : ∃ b, lawPart w.params 6 4 = b := ⟨_, rfl⟩
  rw [hb]
  conv at hb => lhs; whnf
  subst hb
  obtain ⟨sc, hsc⟩ : ∃ b, lawScope w.params = b := ⟨_, rfl⟩
  rw [hsc]
  conv at hsc => lhs; whnf
  subst hsc
  k_steps
  show wpAny _ _ (execs [] _) _ _ _
  refine wpAny_execs_nil ?_
  rename News h₀ L _ _ => kN
  rename Fr h₀ L _ _ => kF
  rename List.Perm _ ws => kP
  refine hret _ _ _ _ _ 0 _ _ _ kF (news_drop4 kN) ?_ ?_ (by assumption) kP (by assumption)
  · omega
  · omega
end Mine
end

/-! MLaw5 -/
section
open PySem PySem.W PyProof.Rows PySem.Calls PySem.Spec
set_option maxRecDepth 100000
set_option maxHeartbeats 8000000
namespace Mine
theorem CallV.useM {w : World} {f : Addr} {dd uu : Nat} {vs : List Value} {R : Tok → Value} {x : Addr × Obj} {news : Led} (C : CallV w f dd uu vs R (fun n' => n' = x :: news))
    {p : Program} {loose : List Str} {mean : ExcName → Option Value} {mg mb : Str → Option Value} {dp un : Nat} {gd : Option (List Code)} {cn : Str} {cs : Scope} {a : Addr} {ccd : Value} {cl : List (Str × Addr)} {outer : List Env} {A₀ : Around} {base h₀ : Heap} {L : Addr} {m : Str → Option Value} {s : Shared} {Q E : Value → Shared → Prop}
    (B : Below A₀ base outer h₀) (F : Fr h₀ L s.heap m) (X : (hd.heap_39 w.params).In h₀) (N : News h₀ L s.heap news) (T : Top p loose mean mg mb h₀) (hk : cs.kind = .function) (hp : x ∈ news) (hd : dp + dd < recursionLimit) (hu : un + uu < cLine)
    (ret : ∀ (t : Tok) (h' : Heap) (tk' : Nat), Fr h₀ L h' m → News h₀ L h' news → Q (R t) { s with heap := h', toks := tk' }) :
      wpAny (model PySem.Challenge.rw_wu0030_01.row.prog w) (ktrTop dp un gd cn cs L a ccd cl outer) (call (.ref f) vs) Q E s :=
  CallV.use C B F X (fun q hq => by
    rcases List.mem_cons.mp hq with rfl | hq
    · exact N _ hp
    · exact N _ hq) T hk rfl hd hu fun t h' tk' F' N' => ret t h' tk' F' fun q hq => N' q (.tail _ hq)
theorem fm2 (a : Int) : 0 ≤ a.fmod 2 ∧ a.fmod 2 ≤ 1 := by
  rw [Int.fmod_eq_emod_of_nonneg _ (by decide)]; omega
theorem fm3 (a : Int) : a.fmod 3 = 0 ∨ a.fmod 3 = 1 ∨ a.fmod 3 = 2 := by
  rw [Int.fmod_eq_emod_of_nonneg _ (by decide)]; omega
/-- the law's frame behind its second for -/
def lf5 (la lz lr lm lb lf lp : Addr) (t : Int) (tt : Tok) (kv : Value) (v : Option Value) (kU : Str → Option Value) : Str → Option Value := fun y =>
  if y = Str.ofString "k" then kU y else if [Str.ofString "told"].contains y = true then kU y else if y = Str.ofString "prices" then some (.ref lp) else if y = Str.ofString "falling" then some (.ref lf) else if y = Str.ofString "kind" then some kv else if y = Str.ofString "room" then v else lf2 la lz lr lm lb t tt y
def Le4 (n : Nat) : Prop := n ≤ 4
theorem Le4.le {n : Nat} (h : Le4 n) : n ≤ 4 := h
def Lf4 (n : Nat) : Prop := n ≤ 4 ∧ True
theorem Lf4.le {n : Nat} (h : Lf4 n) : n ≤ 4 := h.1
theorem room_k {n : Nat} {k : Int} (h : Le4 n) (h0 : 0 ≤ k) (h1 : k ≤ n) : 0 ≤ k ∧ k ≤ 5 := by have := h.le; omega
theorem Le4.fit {n : Nat} (h : Le4 n) : n < 2 ^ 62 := Nat.lt_of_le_of_lt h (by decide)
/-- the sizes, told apart from the other lists -/
def Szs (vz : List Value) (zs : List Int) : Prop := IntsAre vz zs ∧ ∀ z ∈ zs, 0 ≤ z ∧ z ≤ 5
theorem Szs.i {vz : List Value} {zs : List Int} (h : Szs vz zs) : IntsAre vz zs := h.1
theorem Szs.r {vz : List Value} {zs : List Int} (h : Szs vz zs) : ∀ z ∈ zs, 0 ≤ z ∧ z ≤ 5 := h.2
/-- the price of room k -/
def price (zs fs : List Int) (k : Int) : Int := tot zs k + (fs.drop k.toNat).sum
theorem app_fit {vp : List Value} {ps ks : List Int} {f : Int → Int} {n : Nat} (h : IntsAre vp ps) (e : ps = ks.map f) (hl : ks.length < n) (hn : n ≤ 16384) : vp.toArray.size ≤ sizeLine := by
  have h1 := h.length
  subst e
  rw [List.size_toArray, h1, List.length_map]
  exact Nat.le_trans (Nat.le_of_lt (Nat.lt_of_lt_of_le hl hn)) (by decide)
section
local macro_rules | `(tactic| walk_at "call builtin:list.append") => `(tactic| (k_here; (try dsimp only); k_dflt (refine' append_K (by k_asm) (by k_asm) (by k_upd) ?_ (app_fit (by assumption) (by assumption : _ = List.map (price _ _) _) (by assumption : List.length _ < Int.toNat _) (by omega)); k_whole); intro h' F' N'; (try k_sweep)))
local macro_rules | `(tactic| walk_at "call ref") => `(tactic| (k_here; k_dflt (first
    | refine' CallV.useM (c_replies _ _ _ _ _ _ _ _ _ _ (Szs.i (by assumption)) (Szs.r (by assumption)) (room_k (by assumption) (by omega) (by omega)) (fm2 _)) (by k_asm) (by k_asm) (by k_asm) (by k_asm) (by k_asm) (by first | exact rfl | assumption) (by k_mem) (by ktr_room) (by ktr_units) ?_
    | refine' CallV.useM (c_signs _ _ _ _ _ _ _ _ _ _ _ _ (Szs.i (by assumption)) (Szs.r (by assumption)) (room_k (by assumption) (by omega) (by omega)) (by assumption)) (by k_asm) (by k_asm) (by k_asm) (by k_asm) (by k_asm) (by first | exact rfl | assumption) (by k_mem) (by ktr_room) (by ktr_units) ?_
    | refine' CallV.useM (c_bits _ _ _ _ _ _ _ _ (Szs.i (by assumption)) (Szs.r (by assumption)) (room_k (by assumption) (by omega) (by omega))) (by k_asm) (by k_asm) (by k_asm) (by k_asm) (by k_asm) (by first | exact rfl | assumption) (by k_mem) (by ktr_room) (by ktr_units) ?_
    | refine' CallV.use (c_iadd _ _ _ _ _) (by k_asm) (by k_asm) (by k_asm) (by k_asm) (by k_asm) (by first | exact rfl | assumption) trivial (by ktr_room) (by ktr_units) ?_); intro t9 h9 tk9 F9 N9; (try dsimp only); (try k_fold)))
local macro_rules | `(tactic| walk_at "subscriptTail Name Slice ref ref") => `(tactic| (k_here; k_dflt (refine' kmk_slice_ints ?F ?N ?l ?p ?q ?i ?m ?c ?_ ?s ?t ?z; (case F => k_asm); (case N => k_asm); (case l => kmk_list); (case p => exact IsPart.int _ _); (case q => exact IsPart.none); (case i => assumption); (case m => exact slice_ints_fromW (by assumption) (by omega)); (case c => rfl); (case s => with_unfolding_all rfl); (case t => kmk_pure); (case z => (rw [List.size_toArray]; exact Nat.le_trans (Lf4.le (by assumption)) (by decide)))); intro D' ws' h' F' N' l1 hI' hC' hL'; (try k_lt l1); (try k_sweep)))
local macro_rules | `(tactic| walk_at "call builtin:len") => `(tactic| (k_here; k_dflt (refine' len_ints_fit (News.isList (by k_asm) (by k_mem)) (by assumption) (Le4.fit (by assumption)) ?_; k_whole)))
theorem s5 (w : World) {p : Program} {loose : List Str} {mean : ExcName → Option Value} {mg mb : Str → Option Value} {h₀ : Heap} {L la fa lz lr lm lb lf lp : Addr} {cd : Value} {us vf vz : List Value} {ws zs fs : List Int} {n3 nz nf np : Nat} {t : Int} {tt kt : Tok} {v : Option Value} {s : Shared} {Q : Flow → Shared → Prop}
    (B : Below callerA h₀ [] h₀) (F : Fr h₀ L s.heap (lf4 la lz lr lm lb lf lp t tt kt v)) (X : (hd.heap_39 w.params).In h₀) (N : News h₀ L s.heap [(lp, listOf [].toArray np), (lf, listOf vf.toArray nf), (lb, listOf us.toArray n3), (lz, listOf vz.toArray nz), (154, tabObj #[])]) (T : Top p loose mean mg mb h₀) (l1 : @LT.lt Nat _ 154 lz) (l2 : @LT.lt Nat _ lz lb) (l3 : @LT.lt Nat _ lb lf) (l4 : @LT.lt Nat _ lf lp)
    (hi : IntsAre us ws) (hz : Szs vz zs) (hf : IntsAre vf fs) (hw4 : Le4 ws.length) (hv4 : Lf4 vf.length)
    (hret : ∀ (vp : List Value) (ps : List Int) (np' : Nat) (kv : Value) (kU : Str → Option Value) (h' : Heap) (tk' : Nat), Fr h₀ L h' (lf5 la lz lr lm lb lf lp t tt kv v kU) → News h₀ L h' [(lp, listOf vp.toArray np'), (lf, listOf vf.toArray nf), (lb, listOf us.toArray n3), (lz, listOf vz.toArray nz), (154, tabObj #[])] →
      IntsAre vp ps → ps = (rangeKs 0 ((ws.length : Int) + 1 - 0).toNat).map (price zs fs) → Q .next { s with heap := h', toks := tk' }) :
    wpAny (model PySem.Challenge.rw_wu0030_01.row.prog w) (callerA.deeper (envOf (Str.ofString "law") (lawScope w.params) L fa cd)) (execs (lawPart w.params 10 1) (envOf (Str.ofString "law") (lawScope w.params) L fa cd)) Q (fun _ _ => False) s := by
  w_on
  revert X
  k_fill
  intro X
  have hk3 := fm3 (t.fdiv 384)
  have hw9 : ws.length ≤ 1000 := Nat.le_trans (Le4.le hw4) (by decide)
  delta lf4 lf2 lf1 at F
  generalize (t.fdiv 384).fmod 3 = kd at F hk3
  obtain ⟨b, hb⟩ : ∃ b, lawPart w.params 10 1 = b := ⟨_, rfl⟩
  rw [hb]
  conv at hb => lhs; whnf
  subst hb
  obtain ⟨sc, hsc⟩ : ∃ b, lawScope w.params = b := ⟨_, rfl⟩
  rw [hsc]
  conv at hsc => lhs; whnf
  subst hsc
  have hc0 : Ink 88 1 := by unfold Ink; decide
  have hc1 : Ink 121 2 := by unfold Ink; decide
  have hc2 : Ink 89 2 := by unfold Ink; decide
  k_with "pyIter ref" => (k_state (fun ks prices => prices = ks.map (price zs fs)) "prices")
  rcases hk3 with rfl | rfl | rfl
  all_goals
    k_steps
    all_goals try exact absurd rfl (by assumption)
    all_goals show wpAny _ _ (execs [] _) _ _ _
    all_goals refine wpAny_execs_nil ?_
    all_goals rename News h₀ _ _ _ => kN
    all_goals rename Fr h₀ _ _ _ => kF
    all_goals rename _ = List.map _ _ => kI
    all_goals exact hret _ _ _ _ _ _ _ kF kN (by assumption) kI
end
end Mine
end

/-! MLaw6 -/
section
open PySem PySem.W PyProof.Rows PySem.Calls PySem.Spec
set_option maxRecDepth 100000
set_option maxHeartbeats 8000000
namespace Mine
/-- the rooms of the boxes' lines -/
def Bxs (us : List Value) (ws : List Int) : Prop := IntsAre us ws ∧ (∀ x ∈ ws, 1 ≤ x ∧ x ≤ 4) ∧ ws.length ≤ 4
theorem Bxs.i {us : List Value} {ws : List Int} (h : Bxs us ws) : IntsAre us ws := h.1
theorem Bxs.r {us : List Value} {ws : List Int} (h : Bxs us ws) : ∀ x ∈ ws, 0 ≤ x ∧ x ≤ 5 := fun x hx => by have := h.2.1 x hx; omega
theorem Bxs.l {us : List Value} {ws : List Int} (h : Bxs us ws) : ws.length ≤ 4 := h.2.2
theorem linesOf_len (ws : List Int) : (linesOf ws).length = ws.length := by simp [linesOf]
theorem linesOf_line {ws : List Int} (h : ∀ x ∈ ws, 0 ≤ x ∧ x ≤ 5) : ∀ s ∈ linesOf ws, IsLine s := by
  intro s hs
  unfold linesOf at hs
  rw [List.mem_mapIdx] at hs
  obtain ⟨i, hi, rfl⟩ := hs
  have := h _ (List.getElem_mem hi)
  exact ⟨_, _, by omega, rfl⟩
theorem linesOf_rm (ws : List Int) : (linesOf ws).map rm = ws.map Int.toNat := by
  unfold linesOf
  apply List.ext_getElem
  · simp
  · intro i h1 h2
    simp [rm_line]
theorem useL {w : World} {vs : List Value} {ss : List Str} {x : Addr × Obj} {news : Led} (C : CallL w 152 3 24 vs ss (fun n' => n' = x :: news))
    {p : Program} {loose : List Str} {mean : ExcName → Option Value} {mg mb : Str → Option Value} {dp un : Nat} {gd : Option (List Code)} {cn : Str} {cs : Scope} {a : Addr} {ccd : Value} {cl : List (Str × Addr)} {outer : List Env} {A₀ : Around} {base h₀ : Heap} {L : Addr} {m : Str → Option Value} {s : Shared} {Q E : Value → Shared → Prop}
    (B : Below A₀ base outer h₀) (F : Fr h₀ L s.heap m) (X : (hd.heap_39 w.params).In h₀) (N : News h₀ L s.heap news) (T : Top p loose mean mg mb h₀) (hk : cs.kind = .function) (hp : x ∈ news) (hd : dp + 3 < recursionLimit) (hu : un + 24 < cLine)
    (ret : ∀ (r : Addr) (us : List Value) (c : Nat) (h' : Heap) (tk' : Nat), Fr h₀ L h' m → News h₀ L h' ((r, listOf us.toArray c) :: news) → AllLt r news → StrsAre us ss → Q (.ref r) { s with heap := h', toks := tk' }) :
      wpAny (model PySem.Challenge.rw_wu0030_01.row.prog w) (ktrTop dp un gd cn cs L a ccd cl outer) (call (.ref 152) vs) Q E s :=
  C _ _ _ _ _ _ _ _ _ _ _ _ _ _ _ _ _ _ _ _ _ _ _ B F X (fun q hq => by
    rcases List.mem_cons.mp hq with rfl | hq
    · exact N _ hp
    · exact N _ hq) T hk rfl hd hu fun r us c h' tk' F' N' hl hs => ret r us c h' tk' F' (news_drop2 N') hl.2 hs
theorem useD {w : World} {vs : List Value} {x : Int} {a1 a2 a3 : Addr × Obj} {post : Led → Prop} (C : CallD w vs x (fun l => l = [a1, a2, a3]) post)
    {p : Program} {loose : List Str} {mean : ExcName → Option Value} {mg mb : Str → Option Value} {dp un : Nat} {gd : Option (List Code)} {cn : Str} {cs : Scope} {a : Addr} {ccd : Value} {cl : List (Str × Addr)} {outer : List Env} {A₀ : Around} {base h₀ : Heap} {L : Addr} {m : Str → Option Value} {s : Shared} {Q E : Value → Shared → Prop} {news : Led}
    (B : Below A₀ base outer h₀) (F : Fr h₀ L s.heap m) (X : (hd.heap_39 w.params).In h₀) (N : News h₀ L s.heap news) (T : Top p loose mean mg mb h₀) (hk : cs.kind = .function) (hc : CodeHd h₀ 158 154) (h1 : a1 ∈ news) (h2 : a2 ∈ news) (h3 : a3 ∈ news) (hd : dp + 3 < recursionLimit) (hu : un + 24 < cLine)
    (ret : ∀ (t : Tok) (h' : Heap) (tk' : Nat) (news' : Led), Fr h₀ L h' m → News h₀ L h' news' → post news' → Q (.int x t) { s with heap := h', toks := tk' }) :
      wpAny (model PySem.Challenge.rw_wu0030_01.row.prog w) (ktrTop dp un gd cn cs L a ccd cl outer) (call (.ref 159) vs) Q E s :=
  C _ _ _ _ _ _ _ _ _ _ _ _ _ _ _ _ _ _ _ _ _ _ _ B F X (fun q hq => by
    simp only [List.mem_cons, List.not_mem_nil, or_false] at hq
    rcases hq with rfl | rfl | rfl
    · exact N _ h1
    · exact N _ h2
    · exact N _ h3) T hk hc rfl hd hu ret
theorem ret_true {Q : Flow → Shared → Prop} {a b : Int} {s : Shared} (e : a = b) (h : Q (.ret (.bool true)) s) : Q (.ret (.bool (a == b))) s := by
  rw [e, beq_self_eq_true]; exact h
section
local macro_rules | `(tactic| walk_at "call ref") => `(tactic| (k_here; k_dflt (first
    | (refine' useL (c_lines _ _ _ _ _ _ (Bxs.i (by assumption)) (Bxs.r (by assumption)) (Bxs.l (by assumption))) (by k_asm) (by k_asm) (by k_asm) (by k_asm) (by k_asm) (by first | exact rfl | assumption) (by k_mem) (by ktr_room) (by ktr_units) ?_; intro r9 us9 c9 h9 tk9 F9 N9 lt9 st9)
    | (refine' useD (c_dealt _ _ _ _ _ _ _ _ _ [] (Szs.i (by assumption)) (Szs.r (by assumption)) (by assumption) (linesOf_line (Bxs.r (by assumption))) (by rw [linesOf_len]; exact Bxs.l (by assumption)) (by simp only [AllLt] at *; omega) (by assumption) (by simp [OwnOff])) (by k_asm) (by k_asm) (by k_asm) (by k_asm) (by k_asm) (by first | exact rfl | assumption) (by assumption) (by k_mem) (by k_mem) (by k_mem) (by ktr_room) (by ktr_units) ?_; intro t9 h9 tk9 news9 F9 N9 post9)); (try dsimp only); (try k_fold)))
theorem s6 (w : World) {p : Program} {loose : List Str} {mean : ExcName → Option Value} {mg mb : Str → Option Value} {h₀ : Heap} {L la fa lz lr lm lb lf lp : Addr} {cd : Value} {us vf vz vp : List Value} {ws zs fs ps : List Int} {n3 nz nf np : Nat} {t : Int} {tt : Tok} {kv : Value} {v : Option Value} {kU : Str → Option Value} {s : Shared} {Q : Flow → Shared → Prop}
    (B : Below callerA h₀ [] h₀) (F : Fr h₀ L s.heap (lf5 la lz lr lm lb lf lp t tt kv v kU)) (X : (hd.heap_39 w.params).In h₀) (N : News h₀ L s.heap [(lp, listOf vp.toArray np), (lf, listOf vf.toArray nf), (lb, listOf us.toArray n3), (lz, listOf vz.toArray nz), (154, tabObj #[])]) (T : Top p loose mean mg mb h₀) (hC : CodeHd h₀ 158 154) (l1 : @LT.lt Nat _ 154 lz)
    (hi : Bxs us ws) (hz : Szs vz zs) (hp : IntsAre vp ps) (hpl : 0 < ps.length) (hps : ps.length ≤ 5) (hlaw : ∀ M', M' ∈ ps → (∀ a ∈ ps, M' ≤ a) → M' = (deals (ws.map Int.toNat) zs).2)
    (hret : ∀ (h' : Heap) (tk' : Nat) (news' : Led) (ps' : Array Value) (m' : Str → Option Value), Fr h₀ L h' m' → News h₀ L h' news' → (154, tabObj ps') ∈ news' → Q (.ret (.bool true)) { s with heap := h', toks := tk' }) :
    wpAny (model PySem.Challenge.rw_wu0030_01.row.prog w) (callerA.deeper (envOf (Str.ofString "law") (lawScope w.params) L fa cd)) (execs (lawPart w.params 11 1) (envOf (Str.ofString "law") (lawScope w.params) L fa cd)) Q (fun _ _ => False) s := by
  w_on
  revert X
  k_fill
  intro X
  delta lf5 lf2 lf1 at F
  obtain ⟨b, hb⟩ : ∃ b, lawPart w.params 11 1 = b := ⟨_, rfl⟩
  rw [hb]
  conv at hb => lhs; whnf
  subst hb
  obtain ⟨sc, hsc⟩ : ∃ b, lawScope w.params = b := ⟨_, rfl⟩
  rw [hsc]
  conv at hsc => lhs; whnf
  subst hsc
  k_steps
  rename ∃ ps, (154, tabObj ps) ∈ _ => kP
  obtain ⟨ps', kP⟩ := kP
  exact ret_true ((hlaw _ (by assumption) (by assumption)).trans (by rw [linesOf_rm])) (hret _ _ _ _ _ (by assumption) (by assumption) kP)
end
end Mine
end

/-! MAll -/
section
open PySem PySem.W PyProof.Rows PySem.Calls PySem.Spec
set_option maxRecDepth 100000
set_option maxHeartbeats 8000000
namespace Mine
theorem law_all (w : World) {p : Program} {loose : List Str} {mean : ExcName → Option Value} {mg mb : Str → Option Value} {h₀ : Heap} {L la fa : Addr} {cd : Value} {vs : List Value} {ns : List Int} {s : Shared} {Q : Flow → Shared → Prop}
    (B : Below callerA h₀ [] h₀) (F : Fr h₀ L s.heap (fun y => List.lookup y [(Str.ofString "script", Value.ref la)].reverse)) (X : (hd.heap_39 w.params).In h₀) (N : News h₀ L s.heap [(154, tabObj #[])]) (T : Top p loose mean mg mb h₀) (l0 : @LT.lt Nat _ 154 L)
    (lifted : h₀.IsList la vs.toArray) (hI : IntsAre vs ns) (hcond' : ¬ (((63 : Nat) : Int) < (ns.length : Int))) (hC : CodeHd h₀ 158 154) (hG : AllBare s.gens)
    (hret : ∀ (h' : Heap) (tk' : Nat) (G : Array GenState) (news' : Led) (ps' : Array Value) (m' : Str → Option Value), AllBare G → Fr h₀ L h' m' → News h₀ L h' news' → (154, tabObj ps') ∈ news' → Q (.ret (.bool true)) { s with heap := h', toks := tk', gens := G }) :
    wpAny (model PySem.Challenge.rw_wu0030_01.row.prog w) (callerA.deeper (envOf (Str.ofString "law") (lawScope w.params) L fa cd))
      (execs (lawPart w.params 0 3 ++ (lawPart w.params 3 2 ++ (lawPart w.params 5 1 ++ (lawPart w.params 6 4 ++ (lawPart w.params 10 1 ++ lawPart w.params 11 1))))) (envOf (Str.ofString "law") (lawScope w.params) L fa cd)) Q (fun _ _ => False) s := by
  refine execs_two (s1 w B F X N T l0 lifted hI hcond' ?_)
  clear N lifted hcond' hI F
  intro lz vz zs t tt nz h1 tk1 F N a1 hz rz _
  show wpAny _ _ _ _ _ _
  try dsimp only
  refine execs_two (s2 w B F X N T a1 hz ?_)
  clear F N
  intro lr lm lb us1 us2 ns ws n1 n2 n3 h2 tk2 F N a2 a3 a4 i1 i2 hR hw hw2 hw4
  show wpAny _ _ _ _ _ _
  try dsimp only
  refine execs_two (s3 w B F X N T a1 a2 a3 a4 i1 hR hw4 hG ?_)
  clear F N hG
  intro us c' v h3 tk3 G hi hG F N
  show wpAny _ _ _ _ _ _
  try dsimp only
  refine execs_two (s4 w B F X N T a1 a2 a3 a4 hi i2 hz hw2 hw4 hw ?_)
  clear F N
  intro lf lp vf fs nf np kt h4 tk4 F N a5 a6 hf hp hs
  show wpAny _ _ _ _ _ _
  try dsimp only
  have hl : vf.length ≤ 4 := by rw [hf.length, hp.length_eq]; exact hw4
  refine execs_two (s5 w B F X N T a1 (Nat.lt_trans a2 (Nat.lt_trans a3 a4)) a5 a6 hi ⟨hz, rz⟩ hf hw4 ⟨hl, trivial⟩ ?_)
  clear F N
  intro vp ps np' kv kU h5 tk5 F N ip eps
  show wpAny _ _ _ _ _ _
  try dsimp only
  have el : ps.length = ws.length + 1 := by
    rw [eps, List.length_map]
    simp [rangeKs]
  refine s6 w (fs := fs) B F X N T hC a1 ⟨hi, hw, hw4⟩ ⟨hz, rz⟩ ip (by omega) (by omega) (fun M' hm hmin => ?_) ?_
  · rw [eps] at hm hmin
    exact plain hw hw2 hw4 rz hp hs hm hmin
  · intro h6 tk6 news' ps' m' F' N' hm
    exact hret _ _ _ _ _ _ hG F' N' hm
end Mine
end

/-! MMain -/
section
open PySem PySem.W PyProof.Rows
set_option maxRecDepth 100000
set_option maxHeartbeats 8000000
open Mine
theorem PySem.Challenge.cw_wu0030_01_holds : PySem.Challenge.rw_wu0030_01.Holds := by
  exact Mine.hd (by
  w_strict (
  k_fill
  intro w s₀ s₁ mg mb G Y fa o pm cd doc dV kV ho hd hcd hD hmg hg args vals as hpre hlay hrd hwl hlo
  have KX := km_in_of Y
  km_tabs Y
  have X := (Ground.X G).1
  have V := (Ground.X G).2
  refine Ground.open G ?_
  intro T B D TE TW
  try (refine guard_noD D (by decide +kernel) ?_; clear D)
  km_lay T hmg ho hd cd
  clear hmg
  wrow_args hpre hlay hrd hwl hlo
  all_goals (
    first | refine callC_kw (enter_call ?_) | refine enter_call ?_
    w_top on
    refine my_post hT9 (fun _ _ => rfl) (by first | with_unfolding_all rfl | kernel_rfl) ?_
    w_call any ho hd hcd hD T F
    clear hd
    kn_ghosts F T
    k_drop
    skip)
  all_goals try k_fold
  refine wpAny_noRaise ?_
  refine law_all _ (by assumption) (by assumption) (by assumption) (by assumption) (by assumption) (by assumption) (by assumption) (by assumption) (by assumption) (by assumption) ?hG ?_
  case hG =>
    show AllBare s₁.gens
    exact AllBare.of_eq hg
  intro h' tk' G' news' ps' m' hG' F9 N9 hm
  exact ⟨rfl, F9.keep, rfl, hG', GrownAt.of N9 hm, trivial⟩))
end

