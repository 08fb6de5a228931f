import PyProof.Rows.All
import Wide.All
import OpenK.AllK
import Wide.FinOn
import PySem.Challenge.RW_db5019_01
set_option Elab.async false
set_option rowWalk.seconds 0

section
open PySem PySem.W PyProof.Rows
namespace Mine
/-- a code record's table of places -/
def tabO (ps : Array Value) : Obj := { cls := .none, data := .fields ps }
/-- a hook that says one object more -/
def hook2 (H : Hook) (a : Addr) (o : Obj) : Hook :=
  ⟨H.α × Option Obj, fun s => (H.obs s, s.heap.get? a), fun w => (H.val w, some o), fun w h => H.says w h ∧ h.get? a = some o, fun w s e => ⟨H.of w s (congrArg Prod.fst e), congrArg Prod.snd e⟩, fun w h h' x k => ⟨H.keeps w h h' x.1 k, k _ _ x.2⟩⟩
/-- what a head asks for -/
def Asked {P Q : Prop} (_ : P → Q) : Prop := P
end Mine
end

section
open PySem PySem.W PyProof.Rows
namespace Mine
local macro_rules | `(tactic| o_head ($f:ident $k $a $g)) => `(tactic| o_head hook2 ($f $k $a $g) 39 (tabO #[]))
set_option maxRecDepth 100000 in
set_option maxHeartbeats 8000000 in
open_top hd for PySem.Challenge.rw_db5019_01
end Mine
end

section
open PySem
namespace Mine

/-- the script's item at a place, or a number made of the place -/
def lawAt (ns : List Int) (a : Int) : Int :=
  if a < (ns.length : Int) then Int.fmod (ns.getD a.toNat 0) 1000 else Int.fmod (a * 37 + 5) 1000
def headS : Str := Str.ofString "ABXZ0159"
def topS : Str := Str.ofString "ABCDEFGHIJKLMNOPQRSTUVWXYZ0123456789"
def goesS : Str := Str.ofString "aqéÄ٣²_"
def endsS : Str := Str.ofString "-' .,\n"
def digitsS : Str := Str.ofString "0123456789٣²"
def everyS : Str := (headS ++ goesS) ++ endsS
end Mine
end

section
open PySem PySem.W PyProof.Rows
namespace Mine
theorem fmod_bnd (a : Int) (k : Int) (hk : 0 < k) : 0 ≤ Int.fmod a k ∧ Int.fmod a k < k := by
  rw [Int.fmod_eq_emod_of_nonneg _ (Int.le_of_lt hk)]
  exact ⟨Int.emod_nonneg _ (by omega), Int.emod_lt_of_pos _ hk⟩
theorem lawAt_bnd (ns : List Int) (a : Int) : 0 ≤ lawAt ns a ∧ lawAt ns a < 1000 := by
  unfold lawAt
  split
  · exact fmod_bnd _ _ (by decide)
  · exact fmod_bnd _ _ (by decide)

section
variable {w : World} {loose : List Str} {mean : ExcName → Option Value} {mg mb : Str → Option Value} {news : List (Addr × Obj)}
  {dp un : Nat} {gd : Option (List Code)} {cn : Str} {cs : Scope} {ad : Addr} {ccd : Value} {cl : List (Str × Addr)} {outer : List Env} {A₀ : Around} {base h₀ : Heap} {L : Addr} {m : Str → Option Value} {s : Shared} {Q E : Value → Shared → Prop}
set_option maxRecDepth 100000 in
set_option maxHeartbeats 8000000 in
theorem at_rule {l : Addr} {vs : List Value} {ns : List Int} {a : Int} {t : Tok}
    (B : Below A₀ base outer h₀) (F : Fr h₀ L s.heap m) (X : (hd.heap_39 w.params).In h₀) (N : News h₀ L s.heap news) (T : Top hd.view_39 loose mean mg mb h₀) (hk : cs.kind = .function)
    (hl : base.IsList l vs.toArray) (hi : IntsAre vs ns) (hn : ns.length < 2 ^ 62) (hp : 0 ≤ a ∧ a < 1000) (hd' : dp + 1 < recursionLimit) (hu : un + 8 < cLine)
    (hret : ∀ t h' tk', 0 ≤ lawAt ns a → lawAt ns a < 1000 → Fr h₀ L h' m → News h₀ L h' news → Q (.int (lawAt ns a) t) { s with heap := h', toks := tk' }) :
    wpAny (model PySem.Challenge.rw_db5019_01.row.prog w) (ktrTop dp un gd cn cs L ad ccd cl outer) (call (.ref 51) [.ref l, .int a t]) Q E s := by
  w_on
  k_with_none
  revert X; k_fill; intro X
  have hr2 : ∀ t h' tk', Fr h₀ L h' m → News h₀ L h' news → Q (.int (lawAt ns a) t) { s with heap := h', toks := tk' } := fun t h' tk' F N => hret t h' tk' (lawAt_bnd _ _).1 (lawAt_bnd _ _).2 F N
  clear hret
  refine wpAny_call ?_
  k_dflt cell_enter
  k_with "tree" => (simp only [lawAt]; (try simp only [decide_eq_true_eq, decide_eq_false_iff_not] at *); split <;> first | rfl | omega)
  k_steps
  all_goals cb_end hr2
end
end Mine
end

section
open PySem PySem.W PyProof.Rows
namespace Mine
def lawSign (n : Int) : Str := Txt.item (Str.ofString "ABXZ0159aqéÄ٣²_-' .,\n") (Int.fmod n 21)
section
variable {w : World} {loose : List Str} {mean : ExcName → Option Value} {mg mb : Str → Option Value} {news : List (Addr × Obj)}
  {dp un : Nat} {gd : Option (List Code)} {cn : Str} {cs : Scope} {ad : Addr} {ccd : Value} {cl : List (Str × Addr)} {outer : List Env} {A₀ : Around} {base h₀ : Heap} {L : Addr} {m : Str → Option Value} {s : Shared} {Q E : Value → Shared → Prop}
set_option maxRecDepth 100000 in
set_option maxHeartbeats 8000000 in
theorem sign_rule {a : Int} {t : Tok}
    (B : Below A₀ base outer h₀) (F : Fr h₀ L s.heap m) (X : (hd.heap_39 w.params).In h₀) (N : News h₀ L s.heap news) (T : Top hd.view_39 loose mean mg mb h₀) (hk : cs.kind = .function)
    (hp : 0 ≤ a ∧ a < 2000) (hd' : dp + 1 < recursionLimit) (hu : un + 8 < cLine)
    (hret : ∀ t h' tk', Fr h₀ L h' m → News h₀ L h' news → Q (.str (lawSign a) t) { s with heap := h', toks := tk' }) :
    wpAny (model PySem.Challenge.rw_db5019_01.row.prog w) (ktrTop dp un gd cn cs L ad ccd cl outer) (call (.ref 58) [.int a t]) Q E s := by
  w_on
  k_with_none
  revert X; k_fill; intro X
  refine wpAny_call ?_
  k_dflt cell_enter
  k_steps
  all_goals cb_end hret
end
end Mine
end

section
open PySem PySem.W PyProof.Rows
namespace Mine
def isDig (c : Int) : Bool := digitsS.cps.toList.contains c.toNat
def digF (x : Str) : Bool := (KStt.codes x).any isDig
theorem dig_in (n : Nat) : (!(Builtin.Str.occurrences (Str.ofString "0123456789٣²") ⟨#[n]⟩ 0 (Str.ofString "0123456789٣²").length 1).isEmpty) = isDig (n : Int) := by
  rw [StrLaws.found_one]
  show decide (n ∈ digitsS.cps.toList) = digitsS.cps.toList.contains n
  rw [Bool.eq_iff_iff]
  simp
theorem dig_no {pre : List Int} {n : Nat} {f : Bool} (hf : f = pre.any isDig) (h : (Builtin.Str.occurrences (Str.ofString "0123456789٣²") ⟨#[n]⟩ 0 (Str.ofString "0123456789٣²").length 1).isEmpty = true) :
    f = (pre ++ [(n : Int)]).any isDig := by
  have e := dig_in n
  rw [h] at e
  rw [List.any_append, hf]
  simp [← e]
theorem dig_yes {pre : List Int} {n : Nat} (h : (Builtin.Str.occurrences (Str.ofString "0123456789٣²") ⟨#[n]⟩ 0 (Str.ofString "0123456789٣²").length 1).isEmpty = false) :
    true = (pre ++ [(n : Int)]).any isDig := by
  have e := dig_in n
  rw [h] at e
  rw [List.any_append]
  simp [← e]
section
variable {w : World} {loose : List Str} {mean : ExcName → Option Value} {mg mb : Str → Option Value} {news : List (Addr × Obj)}
  {dp un : Nat} {gd : Option (List Code)} {cn : Str} {cs : Scope} {ad : Addr} {ccd : Value} {cl : List (Str × Addr)} {outer : List Env} {A₀ : Around} {base h₀ : Heap} {L : Addr} {m : Str → Option Value} {s : Shared} {Q E : Value → Shared → Prop}
set_option maxRecDepth 100000 in
set_option maxHeartbeats 8000000 in
theorem dig_rule {x : Str} {t : Tok}
    (B : Below A₀ base outer h₀) (F : Fr h₀ L s.heap m) (X : (hd.heap_39 w.params).In h₀) (N : News h₀ L s.heap news) (T : Top hd.view_39 loose mean mg mb h₀) (hk : cs.kind = .function)
    (hp : x.length ≤ 100) (hd' : dp + 1 < recursionLimit) (hu : un + 8 < cLine)
    (hret : ∀ (t : Tok) h' tk', Fr h₀ L h' m → News h₀ L h' news → Q (.bool (digF x)) { s with heap := h', toks := tk' }) :
    wpAny (model PySem.Challenge.rw_db5019_01.row.prog w) (ktrTop dp un gd cn cs L ad ccd cl outer) (call (.ref 77) [.str x t]) Q E s := by
  w_on
  k_with_none
  revert X; k_fill; intro X
  refine wpAny_call ?_
  k_dflt cell_enter
  k_with "pyIter str" => k_state (fun pre f => f = pre.any isDig) "found"
  k_with "state" => first | exact dig_no (by assumption) (by assumption) | exact dig_yes (by assumption) | exact rfl
  k_with "tree" => (simp only [digF]; assumption)
  k_steps
  all_goals cb_end hret
end
end Mine
end

section
open PySem PySem.W PyProof.Rows
namespace Mine
def isTopC (c : Nat) : Bool := topS.cps.toList.contains c
def isEndC (c : Nat) : Bool := endsS.cps.toList.contains c
/-- the first k signs are capitals and digits -/
def CapI (x : Str) (k : Int) : Prop := (x.cps.toList.take k.toNat).all isTopC = true
def capNum (x : Str) : Nat := (x.cps.toList.takeWhile isTopC).length
def endAt (x : Str) (n : Nat) : Bool := match x.cps.toList[n]? with
  | some c => isEndC c
  | none => false
def capF (x : Str) : Bool := decide (2 ≤ capNum x) && (capNum x == x.length || endAt x (capNum x))

theorem tw_len (p : Nat → Bool) : ∀ (l : List Nat) (n : Nat), (l.take n).all p = true → n ≤ l.length → (∀ c, l[n]? = some c → p c = false) → (l.takeWhile p).length = n
  | [], n, _, h, _ => by simp at h; simp [h]
  | a :: r, 0, _, _, h => by have := h a rfl; simp [List.takeWhile, this]
  | a :: r, n + 1, h1, h2, h3 => by
    simp only [List.take_succ_cons, List.all_cons, Bool.and_eq_true] at h1
    rw [List.takeWhile_cons, if_pos h1.1, List.length_cons, tw_len p r n h1.2 (by simpa using h2) (fun c hc => h3 c (by simpa using hc))]

theorem item_one {x : Str} {k : Int} (h0 : 0 ≤ k) (h1 : k < (x.length : Int)) : ∃ c, x.cps.toList[k.toNat]? = some c ∧ Txt.item x k = ⟨#[c]⟩ := by
  have hl : k.toNat < x.cps.size := by
    have : x.length = x.cps.size := rfl
    omega
  exact ⟨x.cps[k.toNat], by simp [hl], item_meets h0 (by simp [hl])⟩
theorem occ_one (D : Str) (c : Nat) (b : Bool) (h : (Builtin.Str.occurrences D ⟨#[c]⟩ 0 D.length 1).isEmpty = b) : D.cps.toList.contains c = !b := by
  have e := StrLaws.found_one D c
  rw [h] at e
  rw [Bool.eq_iff_iff, e]
  simp
theorem cap_numS {x : Str} {k : Int} (h : 0 ≤ k ∧ k ≤ (x.length : Int) ∧ CapI x k) (hlt : k < (x.length : Int))
    (hn : (Builtin.Str.occurrences (Str.ofString "ABCDEFGHIJKLMNOPQRSTUVWXYZ0123456789") (Txt.item x k) 0 (Str.ofString "ABCDEFGHIJKLMNOPQRSTUVWXYZ0123456789").length 1).isEmpty = true) : capNum x = k.toNat := by
  obtain ⟨c, hc, e⟩ := item_one h.1 hlt
  rw [e] at hn
  have hn' := occ_one _ _ _ hn
  have hsz : x.cps.toList.length = x.length := Array.length_toList
  refine tw_len isTopC _ _ h.2.2 (by omega) fun d hd => ?_
  rw [hc] at hd
  cases hd
  exact hn'
theorem cap_numE {x : Str} {k : Int} (h : 0 ≤ k ∧ k ≤ (x.length : Int) ∧ CapI x k) (hge : ¬ k < (x.length : Int)) : capNum x = k.toNat := by
  have hsz : x.cps.toList.length = x.length := Array.length_toList
  refine tw_len isTopC _ _ h.2.2 (by omega) fun d hd => ?_
  have : k.toNat < x.cps.toList.length := by
    rcases Nat.lt_or_ge k.toNat x.cps.toList.length with q | q
    · exact q
    · rw [List.getElem?_eq_none q] at hd; cases hd
  omega
theorem cap_end1 {x : Str} {k : Int} (hn : capNum x = k.toNat) (h2 : 2 ≤ k) (he : k = (x.length : Int)) : (k == (x.length : Int)) = capF x := by
  have h3 : k.toNat = x.length := by omega
  unfold capF
  rw [hn]
  have h4 : decide (2 ≤ k.toNat) = true := decide_eq_true (by omega)
  rw [h4, h3]
  simp [he]
theorem cap_end2 {x : Str} {k : Int} (hn : capNum x = k.toNat) (h : 0 ≤ k ∧ k ≤ (x.length : Int) ∧ CapI x k) (h2 : 2 ≤ k) (he : k ≠ (x.length : Int)) :
    (!(Builtin.Str.occurrences (Str.ofString "-' .,\n") (Txt.item x k) 0 (Str.ofString "-' .,\n").length 1).isEmpty) = capF x := by
  obtain ⟨c, hc, e⟩ := item_one (x := x) (k := k) h.1 (by omega)
  rw [e, StrLaws.found_one]
  unfold capF endAt
  rw [hn, hc]
  have h4 : decide (2 ≤ k.toNat) = true := decide_eq_true (by omega)
  have h5 : (k.toNat == x.length) = false := by
    rw [beq_eq_false_iff_ne]
    omega
  rw [h4, h5, Bool.true_and, Bool.false_or]
  show decide (c ∈ endsS.cps.toList) = endsS.cps.toList.contains c
  rw [Bool.eq_iff_iff]
  simp
theorem cap_end3 {x : Str} {k : Int} (hn : capNum x = k.toNat) (h2 : ¬ 2 ≤ k) : decide (2 ≤ k) = capF x := by
  unfold capF
  rw [hn]
  have h4 : decide (2 ≤ k.toNat) = false := decide_eq_false (by omega)
  rw [h4, decide_eq_false h2]
  rfl
theorem cap_start (x : Str) : (0 : Int) ≤ 0 ∧ (0 : Int) ≤ (x.length : Int) ∧ CapI x 0 := ⟨by omega, by omega, rfl⟩
theorem cap_turn {x : Str} {k : Int} (h : 0 ≤ k ∧ k ≤ (x.length : Int) ∧ CapI x k) (hlt : k < (x.length : Int))
    (hn : (Builtin.Str.occurrences (Str.ofString "ABCDEFGHIJKLMNOPQRSTUVWXYZ0123456789") (Txt.item x k) 0 (Str.ofString "ABCDEFGHIJKLMNOPQRSTUVWXYZ0123456789").length 1).isEmpty = false) :
    0 ≤ k + 1 ∧ k + 1 ≤ (x.length : Int) ∧ CapI x (k + 1) := by
  refine ⟨by omega, by omega, ?_⟩
  obtain ⟨c, hc, e⟩ := item_one h.1 hlt
  rw [e] at hn
  have hn' := occ_one _ _ _ hn
  unfold CapI
  have e2 : (k + 1).toNat = k.toNat + 1 := by omega
  rw [e2, List.take_add_one, hc, List.all_append, show List.all (List.take k.toNat x.cps.toList) isTopC = true from h.2.2]
  simpa [isTopC, topS] using hn'
section
variable {w : World} {loose : List Str} {mean : ExcName → Option Value} {mg mb : Str → Option Value} {news : List (Addr × Obj)}
  {dp un : Nat} {gd : Option (List Code)} {cn : Str} {cs : Scope} {ad : Addr} {ccd : Value} {cl : List (Str × Addr)} {outer : List Env} {A₀ : Around} {base h₀ : Heap} {L : Addr} {m : Str → Option Value} {s : Shared} {Q E : Value → Shared → Prop}
set_option maxRecDepth 100000 in
set_option maxHeartbeats 8000000 in
theorem cap_rule {x : Str} {t : Tok}
    (B : Below A₀ base outer h₀) (F : Fr h₀ L s.heap m) (X : (hd.heap_39 w.params).In h₀) (N : News h₀ L s.heap news) (T : Top hd.view_39 loose mean mg mb h₀) (hk : cs.kind = .function)
    (hp : x.length ≤ 100) (hd' : dp + 1 < recursionLimit) (hu : un + 8 < cLine)
    (hret : ∀ (t : Tok) h' tk', Fr h₀ L h' m → News h₀ L h' news → Q (.bool (capF x)) { s with heap := h', toks := tk' }) :
    wpAny (model PySem.Challenge.rw_db5019_01.row.prog w) (ktrTop dp un gd cn cs L ad ccd cl outer) (call (.ref 70) [.str x t]) Q E s := by
  w_on
  k_with_none
  revert X; k_fill; intro X
  refine wpAny_call ?_
  k_dflt cell_enter
  k_with "exec While BoolOp cons nil" => k_while (fun _ k => 0 ≤ k ∧ k ≤ (x.length : Int) ∧ CapI x k) (fun _ k => x.length - k.toNat) "k"
  k_with "state" => first | exact cap_start x | exact cap_turn ⟨by assumption, by assumption, by assumption⟩ (by assumption) (by assumption)
  k_with "tree" => first
    | exact cap_end1 (cap_numS ⟨by assumption, by assumption, by assumption⟩ (by assumption) (by assumption)) (by assumption) (by assumption)
    | exact cap_end1 (cap_numE ⟨by assumption, by assumption, by assumption⟩ (by assumption)) (by assumption) (by assumption)
    | exact cap_end2 (cap_numS ⟨by assumption, by assumption, by assumption⟩ (by assumption) (by assumption)) ⟨by assumption, by assumption, by assumption⟩ (by assumption) (by assumption)
    | exact cap_end3 (cap_numS ⟨by assumption, by assumption, by assumption⟩ (by assumption) (by assumption)) (by assumption)
    | exact cap_end3 (cap_numE ⟨by assumption, by assumption, by assumption⟩ (by assumption)) (by assumption)
    | (exfalso; omega)
  k_steps
  all_goals cb_end hret
end
end Mine
end

section
open PySem PySem.W PyProof.Rows PySem.Calls
namespace Mine
set_option maxRecDepth 100000

/-- the end of an element whose value is a text -/
def TEnd (h₀ : Heap) (L : Addr) (m : Str → Option Value) (s : Shared) (r : Str) (led : List (Addr × Obj)) (y : Value) (s₂ : Shared) : Prop :=
  ∃ h' tk t, s₂ = { s with heap := h', toks := tk } ∧ y = .str r t ∧ Fr h₀ L h' m ∧ News h₀ L h' led
theorem TEnd.intro {h₀ : Heap} {L : Addr} {m : Str → Option Value} {s : Shared} {r : Str} {led : List (Addr × Obj)} {t : Tok} {h' : Heap} {tk : Nat} (F : Fr h₀ L h' m) (N : News h₀ L h' led) :
    TEnd h₀ L m s r led (.str r t) { s with heap := h', toks := tk } := ⟨h', tk, t, rfl, rfl, F, N⟩

section
variable {prog : Program} {w : World} {A : Around} {h₀ : Heap} {L : Addr} {m : Str → Option Value} {env : Env} {elt : Expr} {x : Str} {scope : Scope} {cl : List (Str × Addr)} {s : Shared} {Fin : List Value → List (Addr × Obj) → Prop} {news : List (Addr × Obj)}
theorem my_range {n : Nat} {a : Int} (g : Int → PySem.Str)
    (turn : ∀ k t I oI C oC D m₂ ys h tk (E' : Value → Shared → Prop), a ≤ k → k < a + (n : Int) → LCg.NsObj oC m₂ → m₂ x = some (.int k t) → Fr h₀ L h m → News h₀ L h ((I, oI) :: (C, oC) :: (D, LCg.lst ys) :: news) → LCg.Off3 I C D news → ((@Ne Nat I C) ∧ (@Ne Nat I D) ∧ (@Ne Nat C D)) →
      wpAny (model prog w) A (eval elt (compEnvC scope cl C env)) (TEnd h₀ L m { s with heap := h, toks := tk } (g k) ((I, oI) :: (C, oC) :: (D, LCg.lst ys) :: news)) E' { s with heap := h, toks := tk })
    (fin : ∀ ys, CarriedAll ys ((rangeKs a n).map fun k => PyData.str (g k)) → (rangeKs a n).length = n → Fin ys news) :
    LCg.CompRest prog w A h₀ L m env elt x scope cl s (fun _ => True) (fun i v => ∃ t, v = .int (a + (i : Int)) t) Fin n 0 [] news :=
  kct_range g (fun k t I oI C oC D m₂ ys h tk E' h1 h2 hC hx F N off ne _ =>
    wpAny_mono (turn k t I oI C oC D m₂ ys h tk E' h1 h2 hC hx F N off ne) (fun y s₂ q => by
      obtain ⟨h', tk', t', e, ey, F', N'⟩ := q
      exact ⟨h', tk', news, e, F', N', off, trivial, rfl, t', ey⟩) fun _ _ e => e) fin
end
end Mine
end

section
open PySem PySem.W PyProof.Rows
namespace Mine

def headAt (ns : List Int) (a j : Int) : Str := Txt.item (Str.ofString "ABXZ0159") (Int.fmod (lawAt ns (a + 1 + j) + j) 8)
def tailAt (ns : List Int) (a j : Int) : Str := lawSign (lawAt ns (a + 6 + j) + 3 * j)
def lawText (ns : List Int) (a : Int) : Str :=
  Txt.join (Str.ofString "") ((rangeKs 0 ((lawAt ns a).fmod 5 - 0).toNat).map fun j => headAt ns a j)
    ++ Txt.join (Str.ofString "") ((rangeKs 0 ((lawAt ns (a + 5)).fmod 4 - 0).toNat).map fun j => tailAt ns a j)

theorem str_join_mem : ∀ (l : List Str) (c : Nat), c ∈ (Str.join (Str.ofString "") l).cps.toList → ∃ x ∈ l, c ∈ x.cps.toList
  | [], c, h => by simp [Str.join, Str.empty] at h
  | [x], c, h => ⟨x, .head _, h⟩
  | x :: y :: r, c, h => by
    have e : Str.join (Str.ofString "") (x :: y :: r) = x ++ Str.ofString "" ++ Str.join (Str.ofString "") (y :: r) := rfl
    rw [e, Str.cps_append, Str.cps_append, Array.toList_append, Array.toList_append] at h
    have z : (Str.ofString "").cps.toList = [] := by decide +kernel
    rw [z, List.append_nil] at h
    rcases List.mem_append.mp h with h | h
    · exact ⟨x, .head _, h⟩
    · obtain ⟨u, hu, hc⟩ := str_join_mem (y :: r) c h
      exact ⟨u, .tail _ hu, hc⟩
theorem join_mem (l : List Str) (c : Nat) (h : c ∈ (Txt.join (Str.ofString "") l).cps.toList) : ∃ x ∈ l, c ∈ x.cps.toList := by
  have e : Txt.join (Str.ofString "") l = Str.join (Str.ofString "") l := StrLaws.glued_eq_join _ _
  rw [e] at h
  exact str_join_mem l c h
/-- the signs that a text of the law may hold -/
def known (c : Nat) : Bool := everyS.cps.toList.contains c
theorem item_known (D : Str) (hD : D.cps.toList.all known = true) (k : Int) (h0 : 0 ≤ k) (h1 : k < (D.length : Int)) : ∀ c ∈ (Txt.item D k).cps.toList, known c = true := by
  have hl : k.toNat < D.cps.size := by
    have : D.length = D.cps.size := rfl
    omega
  have e : Txt.item D k = ⟨#[D.cps[k.toNat]]⟩ := item_meets h0 (by simp [hl])
  intro c hc
  rw [e] at hc
  have hc' : c = D.cps[k.toNat] := by simpa using hc
  rw [hc']
  exact List.all_eq_true.mp hD _ (by simp)
theorem lawText_known (ns : List Int) (a : Int) : ∀ c ∈ (lawText ns a).cps.toList, known c = true := by
  intro c hc
  unfold lawText at hc
  rw [Str.cps_append, Array.toList_append] at hc
  rcases List.mem_append.mp hc with h | h
  · obtain ⟨x, hx, hc⟩ := join_mem _ c h
    obtain ⟨j, _, rfl⟩ := List.mem_map.mp hx
    exact item_known _ (by decide +kernel) _ (fmod_bnd _ 8 (by decide)).1 (Int.lt_of_lt_of_le (fmod_bnd _ 8 (by decide)).2 (by decide +kernel)) c hc
  · obtain ⟨x, hx, hc⟩ := join_mem _ c h
    obtain ⟨j, _, rfl⟩ := List.mem_map.mp hx
    exact item_known _ (by decide +kernel) _ (fmod_bnd _ 21 (by decide)).1 (Int.lt_of_lt_of_le (fmod_bnd _ 21 (by decide)).2 (by decide +kernel)) c hc
theorem lawText_len (ns : List Int) (a : Int) : (lawText ns a).length ≤ 7 := by
  unfold lawText
  rw [Str.length_append, KT.join_ones _ (by intro x hx; obtain ⟨j, _, rfl⟩ := List.mem_map.mp hx; rfl), KT.join_ones _ (by intro x hx; obtain ⟨j, _, rfl⟩ := List.mem_map.mp hx; rfl)]
  rw [List.length_map, List.length_map, rangeKs_length, rangeKs_length]
  have h1 := fmod_bnd (lawAt ns a) 5 (by decide)
  have h2 := fmod_bnd (lawAt ns (a + 5)) 4 (by decide)
  omega
local macro_rules | `(tactic| walk_at "call ref") => `(tactic| (k_here; (with_reducible show wpAny _ _ (call (Value.ref 51) [Value.ref _, Value.int _ _]) _ _ _); k_dflt (refine' at_rule ?k1 ?k2 ?k3 ?k4 ?k5 ?kK ?l1 ?l2 ?l3 ?kp ?kd ?ku ?_); (case k1 => k_asm); (case k2 => k_asm); (case k3 => k_asm); (case k4 => k_asm); (case k5 => k_asm); (case kK => first | exact rfl | assumption); (case l1 => k_asm); (case l2 => assumption); (case l3 => assumption); (case kp => (first | omega | l_fact)); (case kd => ktr_room); (case ku => ktr_units); intro t9 h9 tk9 lo9 hi9 F9 N9; (try dsimp only); (try k_fold)))
local macro_rules | `(tactic| walk_at "call ref") => `(tactic| (k_here; (with_reducible show wpAny _ _ (call (Value.ref 58) [Value.int _ _]) _ _ _); k_dflt (refine' sign_rule ?k1 ?k2 ?k3 ?k4 ?k5 ?kK ?kp ?kd ?ku ?_); (case k1 => k_asm); (case k2 => k_asm); (case k3 => k_asm); (case k4 => k_asm); (case k5 => k_asm); (case kK => first | exact rfl | assumption); (case kp => (first | omega | l_fact)); (case kd => ktr_room); (case ku => ktr_units); intro t9 h9 tk9 F9 N9; (try dsimp only); (try k_fold)))
local macro_rules | `(tactic| walk_at "TEnd") => `(tactic| exact TEnd.intro (by assumption) (by assumption))
local macro_rules | `(tactic| walk_at "eval ListComp") => `(tactic| (k_here; k_dflt (refine LCg.ListComp_U (F₀ := by k_asm) (by with_unfolding_all rfl) (by decide) (by rfl) (by decide) (by rfl) ?_)))
local macro_rules | `(tactic| walk_at "CompSrc") => `(tactic| (k_here; (try k_fmods); k_dflt (refine LCg.CompSrc.range (by rfl) (by k_asm) (by k_asm) (by assumption) (by first | decide | exact small_one (by l_bnd) (by l_bnd) (by l_bnd) (by l_bnd)) (by first | exact rangeSize_nat _ _ | rfl) (by first | exact Nat.le_of_ble_eq_true rfl | (rw [PySem.sizeLine_eq]; omega) | size_fits) ?_; intro g'; refine' my_range _ (fun k' t' I' oI' C' oC' D' m' ys' h' tk' E' hlo' hhi' hC' hx' F' N' off' ne' => ?_) (fun ys' cC' hN' => ?_)); kcf_last))
section
variable {w : World} {loose : List Str} {mean : ExcName → Option Value} {mg mb : Str → Option Value} {news : List (Addr × Obj)}
  {dp un : Nat} {gd : Option (List Code)} {cn : Str} {cs : Scope} {ad : Addr} {ccd : Value} {cl : List (Str × Addr)} {outer : List Env} {A₀ : Around} {base h₀ : Heap} {L : Addr} {m : Str → Option Value} {s : Shared} {Q E : Value → Shared → Prop}
set_option maxRecDepth 100000 in
set_option maxHeartbeats 8000000 in
theorem text_rule {l : Addr} {vs : List Value} {ns : List Int} {a : Int} {t : Tok}
    (B : Below A₀ base outer h₀) (F : Fr h₀ L s.heap m) (X : (hd.heap_39 w.params).In h₀) (N : News h₀ L s.heap news) (T : Top hd.view_39 loose mean mg mb h₀) (hk : cs.kind = .function)
    (hl : base.IsList l vs.toArray) (hi : IntsAre vs ns) (hn : ns.length < 2 ^ 62) (hp : 0 ≤ a ∧ a < 100) (hd' : dp + 10 < recursionLimit) (hu : un + 100 < cLine)
    (hret : ∀ (t : Tok) h' tk', Fr h₀ L h' m → News h₀ L h' news → Q (.str (lawText ns a) t) { s with heap := h', toks := tk' }) :
    wpAny (model PySem.Challenge.rw_db5019_01.row.prog w) (ktrTop dp un gd cn cs L ad ccd cl outer) (call (.ref 63) [.ref l, .int a t]) Q E s := by
  w_on
  k_with_none
  revert X; k_fill; intro X
  refine wpAny_call ?_
  k_dflt ((refine' code_defC ?k1 ?k2 ?k3 ?k4 ?k5 ?kA ?kF ?kK ?k6 ?k7 ?k8 ?k9 ?kB ?kD ?_ ?c2 ?c3 ?c4; (case kA => exact rfl); (case kF => exact rfl); (case kK => assumption); (case k1 => k_asm); (case k2 => k_asm); (case k3 => k_asm); (case k4 => k_asm); (case k5 => k_asm); (case k6 => k_is); (case k7 => k_is); (case k8 => ktr_room); (case k9 => exact BindsTo.of_eq rfl); (case kB => exact rfl); (case kD => decide +kernel); (case c2 => exact rfl); (case c3 => exact rfl); (case c4 => exact rfl); k_whole; intro g' L' h' tk' cells' FG' F' N' Y' B' X' T' l1; (try k_lt l1); k_cells Y'; (try simp only [List.cons_append, List.nil_append] at N'); (try dsimp only); (try k_lift B'); (try k_fold)))
  k_steps
  all_goals cb_end hret
end
end Mine
end

section
namespace Mine
open PySem.Sre
set_option maxRecDepth 100000

def code24 : Array Nat := #[14,4,0,2,4294967295,6,10,24,13,2,4294967295,13,8,22,65,90,22,48,57,0,1,6,10,1]

def isTop (c : Nat) : Bool := (65 ≤ c && c ≤ 90) || (48 ≤ c && c ≤ 57)

/-- a state of the machine, as far as this pattern turns it -/
def st (text : Array Nat) (pc pos : Nat) (frames : List Frame) (weight : Nat) (answer : Option Bool) (seen : Seen) (handed : Nat) (outermost : Bool) : M :=
  { code := code24, text := text, lim := text.size, start := 0, pc := pc, pos := pos, handed := handed, outermost := outermost, marks := #[], frames := frames, weight := weight, answer := answer, seen := seen }

theorem start_eq (text : Array Nat) (h : 2 ≤ text.size) : ∃ seen, forMatch code24 text 0 0 text.size false false = st text 5 0 [] 0 none seen 0 true := by
  refine ⟨({} : Seen).add 14, ?_⟩
  have e : (text.size - 0 < 2) = False := by simp; omega
  unfold forMatch
  simp only [show header code24 = (2, 5) from rfl, e, decide_false, Bool.and_false]
  rfl
theorem start_short (text : Array Nat) (h : text.size < 2) : (forMatch code24 text 0 0 text.size false false).answer = some false ∧ (forMatch code24 text 0 0 text.size false false).frames = [] ∧ (forMatch code24 text 0 0 text.size false false).outcome.isSome = false := by
  have e : (text.size - 0 < 2) = True := by simp; omega
  unfold forMatch
  simp only [show header code24 = (2, 5) from rfl, e, decide_true, Bool.and_true, Nat.zero_le]
  exact ⟨rfl, rfl, rfl⟩

/-- the text's boundary at a place -/
def bound (text : Array Nat) (pos : Nat) : Bool :=
  text.size != 0 && (((pos > 0 && isWordUni (text.getD (pos - 1) 0)) != (pos < text.size && isWordUni (text.getD pos 0))) == true)

theorem step_at5 {text : Array Nat} {pos w hd : Nat} {fr : List Frame} {seen : Seen} {o : Bool} : ∃ seen', M.step (st text 5 pos fr w none seen hd o) =
    if bound text pos then st text 7 pos fr w none seen' hd o else st text 5 pos fr w (some false) seen' hd o := by
  refine ⟨(seen.add 6).add 53, ?_⟩
  cases h : bound text pos
  · have : M.step (st text 5 pos fr w none seen hd o) = if bound text pos then st text 7 pos fr w none ((seen.add 6).add 53) hd o else st text 5 pos fr w (some false) ((seen.add 6).add 53) hd o := rfl
    rw [this, h]
  · have : M.step (st text 5 pos fr w none seen hd o) = if bound text pos then st text 7 pos fr w none ((seen.add 6).add 53) hd o else st text 5 pos fr w (some false) ((seen.add 6).add 53) hd o := rfl
    rw [this, h]
theorem step_at21 {text : Array Nat} {pos w hd : Nat} {fr : List Frame} {seen : Seen} {o : Bool} : ∃ seen', M.step (st text 21 pos fr w none seen hd o) =
    if bound text pos then st text 23 pos fr w none seen' hd o else st text 21 pos fr w (some false) seen' hd o := by
  refine ⟨(seen.add 6).add 53, ?_⟩
  rfl
theorem step_23 {text : Array Nat} {pos w hd : Nat} {fr : List Frame} {seen : Seen} {o : Bool} : ∃ seen', M.step (st text 23 pos fr w none seen hd o) = st text 23 pos fr w (some true) seen' pos o := by
  refine ⟨seen.add 1, ?_⟩
  show (if (o && ((false && pos != text.size) || (false && pos == 0))) = true then _ else _) = _
  simp only [Bool.false_and, Bool.or_false, Bool.and_false]
  rfl

theorem accepts_eq (c : Nat) (seen : Seen) : ∃ seen', accepts code24 11 c seen = .ok (isTop c, seen') := by
  have e : accepts code24 11 c seen = if 65 ≤ c && c ≤ 90 then .ok (true, seen.add 22) else if 48 ≤ c && c ≤ 57 then .ok (true, (seen.add 22).add 22) else .ok (false, ((seen.add 22).add 22).add 0) := rfl
  rw [e]
  unfold isTop
  cases h1 : (decide (65 ≤ c) && decide (c ≤ 90))
  · cases h2 : (decide (48 ≤ c) && decide (c ≤ 57))
    · exact ⟨_, rfl⟩
    · exact ⟨_, rfl⟩
  · exact ⟨_, rfl⟩

/-- how many of the n places from p on hold a capital or a plain digit, up to the first that does not -/
def lead (text : Array Nat) (n p : Nat) : Nat := ((List.range' p n).takeWhile (fun j => isTop (text.getD j 0))).length
theorem lead_succ (text : Array Nat) (n p : Nat) : lead text (n + 1) p = if isTop (text.getD p 0) then lead text n (p + 1) + 1 else 0 := by
  unfold lead
  rw [List.range'_succ, List.takeWhile_cons]
  split <;> rfl

theorem run_eq (text : Array Nat) : ∀ (n p found : Nat) (seen : Seen), ∃ seen', run code24 text 11 n p found seen = .ok (found + lead text n p, seen')
  | 0, _, found, seen => ⟨seen, rfl⟩
  | n + 1, p, found, seen => by
    obtain ⟨s1, h1⟩ := accepts_eq (text.getD p 0) seen
    have e : run code24 text 11 (n + 1) p found seen = (do let (yes, seen) ← accepts code24 11 (text.getD p 0) seen; if yes then run code24 text 11 n (p + 1) (found + 1) seen else pure (found, seen)) := rfl
    rw [e, h1]
    show ∃ seen', (if isTop (text.getD p 0) = true then run code24 text 11 n (p + 1) (found + 1) s1 else pure (found, s1)) = _
    rw [lead_succ]
    cases h : isTop (text.getD p 0)
    · exact ⟨s1, rfl⟩
    · obtain ⟨s2, h2⟩ := run_eq text n (p + 1) (found + 1) s1
      refine ⟨s2, ?_⟩
      simp only [if_true]
      rw [h2, show found + 1 + lead text n (p + 1) = found + (lead text n (p + 1) + 1) by omega]

def fr (k : Nat) : Frame := { wait := .giveBack, pc := 7, pos := k, outermost := true, count := (k : Int), kept := {} }

theorem step_7 {text : Array Nat} {seen : Seen} (h2 : 2 ≤ text.size) (hb : text.size ≤ 1000) : ∃ seen', M.step (st text 7 0 [] 0 none seen 0 true) =
    if lead text text.size 0 < 2 then st text 7 0 [] 0 (some false) seen' 0 true else st text 21 (lead text text.size 0) [fr (lead text text.size 0)] 1 none seen' (lead text text.size 0) true := by
  obtain ⟨s1, h1⟩ := run_eq text text.size 0 0 ((seen.add 24).add 13)
  refine ⟨s1, ?_⟩
  have hm : min 4294967295 (Int.toNat ((text.size : Int) - (0 : Nat))) = text.size := by omega
  have hr : ¬ ((2 : Nat) : Int) > (text.size : Int) - (0 : Nat) := by omega
  have e : M.step (st text 7 0 [] 0 none seen 0 true) = if ((2 : Nat) : Int) > (text.size : Int) - (0 : Nat) then (st text 7 0 [] 0 none (seen.add 24) 0 true).say false else
      match run code24 text 11 (min 4294967295 (Int.toNat ((text.size : Int) - (0 : Nat)))) 0 0 ((seen.add 24).add 13) with
      | .error why => (st text 7 0 [] 0 none (seen.add 24) 0 true).stick why
      | .ok (n, seen) =>
        if n < 2 then (st text 7 0 [] 0 none seen 0 true).say false else
          ({ st text 7 0 [] 0 none seen 0 true with pos := 0 + n }).afterRun .giveBack n (({ st text 7 0 [] 0 none seen 0 true with pos := 0 + n }).keep false) := rfl
  rw [e, if_neg hr, hm, h1]
  simp only [Nat.zero_add]
  cases Nat.decLt (lead text text.size 0) 2 with
  | isTrue h => rw [if_pos h, if_pos h]; rfl
  | isFalse h => rw [if_neg h, if_neg h]; rfl

theorem step_back_yes {text : Array Nat} {pc pos k hd : Nat} {seen : Seen} : M.step (st text pc pos [fr k] 1 (some true) seen hd true) = st text 7 k [] 0 (some true) seen hd true := rfl
theorem step_back_no {text : Array Nat} {pc pos k hd : Nat} {seen : Seen} : M.step (st text pc pos [fr k] 1 (some false) seen hd true) =
    if (k : Int) - 1 < (2 : Nat) then st text 7 k [] 0 (some false) seen hd true else st text 21 (k - 1) [{ fr (k - 1) with count := (k : Int) - 1 }] 1 none seen (k - 1) true := by
  have e : M.step (st text pc pos [fr k] 1 (some false) seen hd true) =
    if (k : Int) - 1 < (2 : Nat) then st text 7 k [] 0 (some false) seen hd true else ({ st text 7 k [] 0 none seen hd true with pos := k - 1 }).afterRun .giveBack ((k : Int) - 1) {} := rfl
  rw [e]
  cases Int.decLt ((k : Int) - 1) (2 : Nat) with
  | isTrue h => rw [if_pos h, if_pos h]
  | isFalse h => rw [if_neg h, if_neg h]; rfl
theorem fr_back {k : Nat} (h : 1 ≤ k) : ({ fr (k - 1) with count := (k : Int) - 1 } : Frame) = fr (k - 1) := by
  unfold fr
  have : ((k - 1 : Nat) : Int) = (k : Int) - 1 := by omega
  rw [this]
theorem step_last {text : Array Nat} {pc pos hd : Nat} {seen : Seen} {b : Bool} : (M.step (st text pc pos [] 0 (some b) seen hd true)).outcome = some (if b then .matched else .failed) := rfl

theorem runFor_add : ∀ (n i : Nat) (m : M), M.runFor (n + i) m = M.runFor i (M.runFor n m)
  | 0, i, m => by rw [Nat.zero_add]; rfl
  | n + 1, i, m => by
    have e : n + 1 + i = (n + i) + 1 := by omega
    rw [e]
    show (if m.outcome.isSome then m else M.runFor (n + i) m.step) = M.runFor i (if m.outcome.isSome then m else M.runFor n m.step)
    cases h : m.outcome.isSome
    · exact runFor_add n i m.step
    · show m = M.runFor i m
      cases i with
      | zero => rfl
      | succ i => show m = if m.outcome.isSome then m else _; rw [h]; rfl
theorem runFor_stay (i : Nat) (m : M) (h : m.outcome.isSome = true) : M.runFor i m = m := by
  cases i with
  | zero => rfl
  | succ i => show (if m.outcome.isSome then m else _) = m; rw [h]; rfl

/-- within n steps the machine ends so -/
def Ends (n : Nat) (m : M) (o : Outcome) : Prop := (M.runFor n m).outcome = some o
theorem Ends.more {n k : Nat} {m : M} {o : Outcome} (h : Ends n m o) (hk : n ≤ k) : Ends k m o := by
  obtain ⟨i, rfl⟩ := Nat.exists_eq_add_of_le hk
  unfold Ends at *
  rw [runFor_add, runFor_stay i _ (by rw [h]; rfl)]
  exact h
theorem Ends.step {n : Nat} {m : M} {o : Outcome} (hn : m.outcome.isSome = false) (h : Ends n m.step o) : Ends (n + 1) m o := by
  unfold Ends at *
  show (if m.outcome.isSome then m else M.runFor n m.step).outcome = some o
  rw [hn]
  exact h
theorem Ends.last {text : Array Nat} {pc pos hd : Nat} {seen : Seen} {b : Bool} : Ends 1 (st text pc pos [] 0 (some b) seen hd true) (if b then .matched else .failed) := Ends.step rfl step_last

def outc (b : Bool) : Outcome := if b then .matched else .failed

theorem ends_down (text : Array Nat) : ∀ (k : Nat) (seen : Seen) (hd : Nat), 2 ≤ k → (∀ j, 2 ≤ j → j < k → bound text j = false) → Ends (3 * k + 5) (st text 21 k [fr k] 1 none seen hd true) (outc (bound text k))
  | k, seen, hd, h2, hlow => by
    obtain ⟨s1, h1⟩ := step_at21 (text := text) (pos := k) (w := 1) (hd := hd) (fr := [fr k]) (seen := seen) (o := true)
    refine (Ends.step (n := 3 * k + 4) rfl ?_).more (by omega)
    rw [h1]
    cases hb : bound text k
    · simp only [Bool.false_eq_true, if_false]
      refine Ends.step (n := 3 * k + 3) rfl ?_
      rw [step_back_no]
      cases Int.decLt ((k : Int) - 1) (2 : Nat) with
      | isTrue h => rw [if_pos h]; exact Ends.last.more (by omega)
      | isFalse h =>
        rw [if_neg h, fr_back (by omega)]
        have ih := ends_down text (k - 1) s1 (k - 1) (by omega) (fun j a b => hlow j a (by omega))
        rw [hlow (k - 1) (by omega) (by omega)] at ih
        exact ih.more (by omega)
    · simp only [if_true]
      obtain ⟨s2, e2⟩ := step_23 (text := text) (pos := k) (w := 1) (hd := hd) (fr := [fr k]) (seen := s1) (o := true)
      refine Ends.step (n := 3 * k + 3) rfl ?_
      rw [e2]
      refine Ends.step (n := 3 * k + 2) rfl ?_
      rw [step_back_yes]
      exact Ends.last.more (by omega)
termination_by k => k

theorem lead_top (text : Array Nat) : ∀ (n p j : Nat), j < lead text n p → isTop (text.getD (p + j) 0) = true
  | 0, _, _, h => by simp [lead] at h
  | n + 1, p, j, h => by
    rw [lead_succ] at h
    cases ht : isTop (text.getD p 0)
    · rw [ht] at h; simp at h
    · rw [ht] at h
      simp only [if_true] at h
      cases j with
      | zero => exact ht
      | succ j =>
        have := lead_top text n (p + 1) j (by omega)
        rw [show p + (j + 1) = p + 1 + j by omega]
        exact this
theorem lead_le (text : Array Nat) : ∀ (n p : Nat), lead text n p ≤ n
  | 0, _ => Nat.le_refl _
  | n + 1, p => by
    rw [lead_succ]
    split
    · have := lead_le text n (p + 1); omega
    · omega
theorem word_of_top {c : Nat} (h : isTop c = true) : isWordUni c = true := by
  have hc : c < 128 := by
    simp only [isTop, Bool.or_eq_true, Bool.and_eq_true, decide_eq_true_eq] at h
    omega
  have key : ∀ c : Fin 128, isTop c.1 = true → isWordUni c.1 = true := by decide +kernel
  exact key ⟨c, hc⟩ h

/-- what the pattern's match says of a text -/
def reYes (text : Array Nat) : Bool := decide (2 ≤ lead text text.size 0) && bound text (lead text text.size 0)

theorem bound_mid {text : Array Nat} {j : Nat} (h1 : 1 ≤ j) (h2 : j < text.size) (ha : isWordUni (text.getD (j - 1) 0) = true) (hb : isWordUni (text.getD j 0) = true) : bound text j = false := by
  unfold bound
  have e1 : decide (j > 0) = true := decide_eq_true h1
  have e2 : decide (j < text.size) = true := decide_eq_true h2
  rw [ha, hb, e1, e2]
  simp
theorem match_ends (text : Array Nat) (hb : text.size ≤ 1000) : Ends (4 * 1000) (forMatch code24 text 0 0 text.size false false) (outc (reYes text)) := by
  have hle := lead_le text text.size 0
  have htop : ∀ j, j < lead text text.size 0 → isWordUni (text.getD j 0) = true := fun j hj => word_of_top (by have := lead_top text text.size 0 j hj; simpa using this)
  rcases Nat.lt_or_ge text.size 2 with h | h
  · obtain ⟨a, b, c⟩ := start_short text h
    have e : reYes text = false := by
      unfold reYes
      have : decide (2 ≤ lead text text.size 0) = false := decide_eq_false (by omega)
      rw [this]; rfl
    rw [e]
    have q : (M.step (forMatch code24 text 0 0 text.size false false)).outcome = some (outc false) := by
      generalize forMatch code24 text 0 0 text.size false false = m at a b c
      unfold M.step
      rw [c, a, b]
      rfl
    exact (Ends.step (n := 0) c q).more (by omega)
  · obtain ⟨s0, e0⟩ := start_eq text h
    rw [e0]
    obtain ⟨s1, e1⟩ := step_at5 (text := text) (pos := 0) (w := 0) (hd := 0) (fr := []) (seen := s0) (o := true)
    refine (Ends.step (n := 3999) rfl ?_).more (by omega)
    rw [e1]
    cases hb0 : bound text 0
    · simp only [Bool.false_eq_true, if_false]
      have hz : lead text text.size 0 = 0 := by
        rcases Nat.eq_zero_or_pos (lead text text.size 0) with q | q
        · exact q
        · exfalso
          have hw := htop 0 q
          unfold bound at hb0
          rw [hw] at hb0
          have e3 : decide (0 < text.size) = true := decide_eq_true (by omega)
          have e4 : (text.size != 0) = true := by rw [bne_iff_ne]; omega
          rw [e3, e4] at hb0
          simp at hb0
      have e : reYes text = false := by unfold reYes; rw [hz]; rfl
      rw [e]
      exact (Ends.last (b := false)).more (by omega)
    · simp only [if_true]
      obtain ⟨s2, e2⟩ := step_7 (text := text) (seen := s1) h hb
      refine Ends.step (n := 3998) rfl ?_
      rw [e2]
      cases Nat.decLt (lead text text.size 0) 2 with
      | isTrue q =>
        rw [if_pos q]
        have e : reYes text = false := by
          unfold reYes
          have : decide (2 ≤ lead text text.size 0) = false := decide_eq_false (by omega)
          rw [this]; rfl
        rw [e]
        exact (Ends.last (b := false)).more (by omega)
      | isFalse q =>
        rw [if_neg q]
        have e : reYes text = bound text (lead text text.size 0) := by
          unfold reYes
          have : decide (2 ≤ lead text text.size 0) = true := decide_eq_true (by omega)
          rw [this]; rfl
        rw [e]
        refine (ends_down text _ s2 _ (by omega) (fun j a b => ?_)).more (by omega)
        exact bound_mid (by omega) (by omega) (htop _ (by omega)) (htop _ b)
end Mine
end

section
open PySem PySem.W PyProof.Rows
namespace Mine
set_option maxRecDepth 100000

theorem plainAttrs_pat : PlainAttrs "re.Pattern" :=
  ⟨⟨"object.__getattribute__", by rw [typeLookup_type, builtinLookup_eq_fast]; kernel_rfl, by decide +kernel⟩, by rw [typeLookup_type, builtinLookup_eq_fast]; kernel_rfl⟩
theorem slot_pat_match : Slot "re.Pattern" "match" "re.Pattern.match" :=
  .of (owner := "re.Pattern") (n := "match") (by rw [typeLookup_type, builtinLookup_eq_fast]; kernel_rfl) (by decide +kernel) (by decide +kernel) (by decide +kernel)
    (by first | exact .inl (by decide +kernel) | exact .inr (by decide +kernel)) (by rw [isSubtype_type]; kernel_rfl)
theorem type_pat_match : typeOf (.builtin "re.Pattern.match") = pure (.type "method_descriptor") := by show builtinType _ = _; rw [builtinType_eq_fast]; kernel_rfl
theorem entry_pat_match : entryFor table "re.Pattern.match" = some Builtin.«re.Pattern.match» := entryFor_of_tree (by kernel_rfl)
theorem args_pat_match (a b : Value) : argsOk "re.Pattern.match" ⟨[a, b], []⟩ := by
  unfold argsOk; kernel_rfl
end Mine
end

section
open PySem PySem.W PyProof.Rows PySem.Calls
namespace Mine
set_option maxRecDepth 100000
open PySem.Builtin.Re

def patObj : Obj := { cls := Value.type "re.Pattern", data := Data.fields #[Value.str (Str.ofString "\\b[A-Z0-9]{2,}\\b") 285, Value.int 32 312, Value.int 0 0, Value.none, Value.none, Value.ref 35, Value.int 0 0] }
def codeObj : Obj := { cls := Value.type "tuple", data := Data.seq #[Value.int 14 0, Value.int 4 0, Value.int 0 0, Value.int 2 0, Value.int 4294967295 0, Value.int 6 0,
              Value.int 10 0, Value.int 24 0, Value.int 13 0, Value.int 2 0, Value.int 4294967295 0, Value.int 13 0,
              Value.int 8 0, Value.int 22 0, Value.int 65 0, Value.int 90 0, Value.int 22 0, Value.int 48 0,
              Value.int 57 0, Value.int 0 0, Value.int 1 0, Value.int 6 0, Value.int 10 0, Value.int 1 0] }

section
variable {M : Model} {A : Around} {E : Value → Shared → Prop} {s : Shared}

theorem drive_any : ∀ (j T : Nat) (m : Sre.M) (s : Shared) (Q : Sre.M → Shared → Prop), (Sre.M.runFor (4 * j) m).outcome.isSome = true → j + 1 ≤ T → Q (Sre.M.runFor (4 * j) m) s → wpAny M A (reDrive T m) Q E s
  | j, 0, _, _, _, _, hT, _ => by omega
  | 0, T + 1, m, s, Q, h, _, hq => by
    have e : Sre.M.runFor 4 m = m := runFor_stay 4 m h
    show wpAny M A (if (Sre.M.runFor 4 m).outcome.isSome = true then pure (Sre.M.runFor 4 m) else do rule "sre.turn"; reDrive T (Sre.M.runFor 4 m)) Q E s
    rw [e, if_pos (show m.outcome.isSome = true from h)]
    exact wpAny_pure hq
  | j + 1, T + 1, m, s, Q, h, hT, hq => by
    have e : Sre.M.runFor (4 * (j + 1)) m = Sre.M.runFor (4 * j) (Sre.M.runFor 4 m) := by rw [show 4 * (j + 1) = 4 + 4 * j by omega]; exact runFor_add 4 (4 * j) m
    rw [e] at h hq
    show wpAny M A (if (Sre.M.runFor 4 m).outcome.isSome = true then pure (Sre.M.runFor 4 m) else do rule "sre.turn"; reDrive T (Sre.M.runFor 4 m)) Q E s
    cases ho : (Sre.M.runFor 4 m).outcome.isSome
    · rw [if_neg (by simp)]
      exact wpAny_bind (wpAny_rule (drive_any j T _ s Q h (by omega) hq))
    · rw [if_pos rfl]
      rw [runFor_stay _ _ ho] at hq
      exact wpAny_pure hq

theorem toEnd_any {m : Sre.M} {b : Bool} {Q : Option Sre.M → Shared → Prop} (h : Ends (4 * 1000) m (outc b)) (hy : b = true → ∀ m', Q (some m') s) (hn : b = false → Q none s) : wpAny M A (reRunToEnd m) Q E s := by
  unfold reRunToEnd
  refine wpAny_bind (drive_any 1000 (2 ^ 64) m s _ (by unfold Ends at h; rw [h]; rfl) (by decide) ?_)
  refine wpAny_bind ?_
  refine wpAny_forIn_list _ (fun _ _ s' => s' = s) _ (fun x rest u s' hs => ?_) (fun u s' hs => ?_) _ _ rfl
  · subst hs
    refine wpAny_ite ?_
    split
    · exact wpAny_bind (wpAny_rule (wpAny_pure rfl))
    · exact wpAny_pure rfl
  · subst hs
    unfold Ends at h
    rw [h]
    unfold outc
    cases b
    · exact wpAny_pure (hn rfl)
    · exact wpAny_pure (hy rfl _)

theorem target_any {x : Str} {t : Tok} {Q : ReTarget → Shared → Prop} (ho : s.heap.get? 36 = some patObj) (hc : s.heap.get? 35 = some codeObj) (hlen : x.length ≤ 1000)
    (h : Q ⟨.ref 36, .str x t, code24, x.cps, 0, 0, 0, x.cps.size⟩ s) : wpAny M A (reTarget "re.Pattern.match" "match" ⟨[.ref 36, .str x t], []⟩) Q E s := by
  unfold reTarget
  have e1 : reNamed "re.Pattern.match" "match" ["string", "pos", "endpos"] 1 [Value.str x t] [] = pure [some (Value.str x t), none, none] := rfl
  dsimp only
  rw [e1]
  refine wpAny_bind (wpAny_pure ?_)
  dsimp only
  refine wpAny_bind (wpAny_pure ?_)
  refine wpAny_bind (wpAny_pure ?_)
  refine wpAny_bind (wpAny_fieldsOf ho rfl ?_)
  have e2 : reTextOf (.str x t) = pure (x.cps, 0) := rfl
  rw [e2]
  refine wpAny_bind (wpAny_pure ?_)
  change wpAny M A (if (false = true) then _ else (if (false = true) then _ else _)) Q E s
  rw [if_neg Bool.false_ne_true, if_neg Bool.false_ne_true]
  have e3 : reNoCollectionInside (Value.str x t) ((x.cps, 0) : Array Nat × Nat).snd = pure () := rfl
  rw [e3]
  refine wpAny_bind (wpAny_pure ?_)
  refine wpAny_bind (wpAny_bind (wpAny_seqItems hc rfl (wpAny_pure ?_)))
  refine wpAny_pure ?_
  have hl : x.cps.size ≤ 1000 := hlen
  have e4 : min (2 ^ 63 - 1 : Int).toNat x.cps.size = x.cps.size := by
    have : (2 ^ 63 - 1 : Int).toNat = 9223372036854775807 := by decide
    rw [this]; omega
  have e5 : min (Int.toNat 0) x.cps.size = 0 := by simp
  show Q ⟨_, _, _, _, _, _, min (Int.toNat 0) x.cps.size, min (2 ^ 63 - 1 : Int).toNat x.cps.size⟩ s
  rw [e4, e5]
  have e6 : Array.map (fun (x : Int) => x.toNat) (Array.map reRawOf #[Value.int 14 0, Value.int 4 0, Value.int 0 0, Value.int 2 0, Value.int 4294967295 0, Value.int 6 0,
              Value.int 10 0, Value.int 24 0, Value.int 13 0, Value.int 2 0, Value.int 4294967295 0, Value.int 13 0,
              Value.int 8 0, Value.int 22 0, Value.int 65 0, Value.int 90 0, Value.int 22 0, Value.int 48 0,
              Value.int 57 0, Value.int 0 0, Value.int 1 0, Value.int 6 0, Value.int 10 0, Value.int 1 0]) = code24 := by decide +kernel
  have h' := h
  rw [← e6] at h'
  exact h'

def matchTup (st hd : Nat) : Obj := { cls := .type "tuple", data := .seq #[rawInt st, rawInt hd] }
def matchObj (x : Str) (t : Tok) (lim : Nat) (li : Int) (tup : Addr) : Obj := { cls := .type "re.Match", data := .fields #[.str x t, .ref 36, rawInt (0 : Nat), rawInt lim, rawInt li, .ref tup] }

theorem newMatch_any {x : Str} {t : Tok} {m : Sre.M} {lim : Nat} {Q : Value → Shared → Prop}
    (h : ∀ st hd li, Q (.ref (s.heap.objs.size + 1)) { s with heap := (s.heap.push (matchTup st hd)).push (matchObj x t lim li s.heap.objs.size) }) :
    wpAny M A (reNewMatch (.ref 36) (.str x t) 0 0 lim m) Q E s := by
  unfold reNewMatch
  change wpAny M A (if (false = true) then _ else _) Q E s
  rw [if_neg Bool.false_ne_true]
  refine wpAny_bind ?_
  refine wpAny_newObj_type ?_ (by show (2 : Nat) ≤ sizeLine; decide)
  refine wpAny_newObj_type ?_ ?_
  · have e : (s.heap.push (matchTup m.start m.handed)).objs.size = s.heap.objs.size + 1 := Heap.size_push _ _
    have := h m.start m.handed m.lastindex
    rw [← e] at this
    exact this
  · show (6 : Nat) ≤ sizeLine + 2
    decide
end
section
variable {prog : Program} {w : World} {A : Around} {E : Value → Shared → Prop} {s : Shared}
theorem match_any {x : Str} {t : Tok} {Q : Value → Shared → Prop} (ho : s.heap.get? 36 = some patObj) (hc : s.heap.get? 35 = some codeObj) (hlen : x.length ≤ 1000)
    (hn : reYes x.cps = false → Q .none s)
    (hy : reYes x.cps = true → ∀ st hd li, Q (.ref (s.heap.objs.size + 1)) { s with heap := (s.heap.push (matchTup st hd)).push (matchObj x t x.cps.size li s.heap.objs.size) }) :
    wpAny (model prog w) A (call (.builtin "re.Pattern.match") [.ref 36, .str x t]) Q E s := by
  refine wpAny_call_entry slot_pat_match ⟨patObj, ho, rfl⟩ entry_pat_match ?_ (args_pat_match _ _)
  unfold Builtin.«re.Pattern.match»
  refine wpAny_bind (target_any ho hc hlen ?_)
  unfold reAnswer
  refine wpAny_bind (toEnd_any (b := reYes x.cps) (match_ends x.cps hlen) (fun hb m' => ?_) fun hb => ?_)
  · refine wpAny_bind (newMatch_any fun st hd li => ?_)
    exact wpAny_pure ⟨_, rfl, hy hb st hd li⟩
  · exact wpAny_pure ⟨_, rfl, hn hb⟩
theorem getMethod_pat {pl : Sem Bool} {Q : Value × List Value → Shared → Prop} (ho : s.heap.get? 36 = some patObj) (h : Q (.builtin "re.Pattern.match", [.ref 36]) s) :
    wpAny (model prog w) A (getMethod (.ref 36) "match" pl) Q E s :=
  getMethod_builtin ⟨patObj, ho, rfl⟩ plainAttrs_pat slot_pat_match type_pat_match (fun a e => by cases e; exact ⟨patObj, ho, rfl⟩) h
end
end Mine
end

section
open PySem PySem.W PyProof.Rows PySem.Calls
namespace Mine
set_option maxRecDepth 100000

def acrCode : Obj := { cls := Value.type "code", data := Data.fields #[Value.str (Str.ofString "is_acronym") 314, Value.str (Str.ofString "is_acronym") 315, Value.str (Str.ofString "/claim/cut.py") 316, Value.int 4 0, Value.int 2 0, Value.int 0 0, Value.int 0 0, Value.int 3 0, Value.ref 38, Value.bool true, Value.int 276 0, Value.ref 39, Value.none, Value.ref 40, Value.ref 41, Value.ref 42, Value.int 319 0, Value.int 4 0, Value.str (Str.ofString "/claim/cut.py") 320] }

theorem isCode_of {h : Heap} {ps : Array Value} (ho : h.get? 43 = some acrCode) (ht : h.get? 39 = some (tabO ps)) (htr : TriplesOk ps.toList) : h.IsCode 43 39 ps :=
  ⟨acrCode, _, _, _, _, _, _, _, _, tabO ps, ho, rfl, rfl, rfl, rfl, rfl, rfl, ht, rfl, htr, by decide⟩
theorem tableAt_of {h : Heap} {ps : Array Value} (ho : h.get? 43 = some acrCode) (ht : h.get? 39 = some (tabO ps)) : h.TableAt 43 39 ps :=
  ⟨⟨acrCode, _, ho, rfl, rfl, rfl⟩, ht⟩

section
variable {M : Model} {A : Around} {E : Value → Shared → Prop} {s : Shared}
theorem genCode_any {env : Env} {ps : Array Value} {pos : Pos} {qualname : Str} {scope : Scope} {Q : Value → Shared → Prop} (hcode : env.code = .ref 43) (ho : s.heap.get? 43 = some acrCode) (ht : s.heap.get? 39 = some (tabO ps)) (htr : TriplesOk ps.toList)
    (hQ : ∀ code h' tk ps', Heap.ExtBut 39 s.heap h' → s.heap.objs.size ≤ h'.objs.size → h'.get? 39 = some (tabO ps') → TriplesOk ps'.toList → Q code { s with heap := h', toks := tk }) : wpAny M A (genexprCode env pos qualname scope) Q E s := by
  have hok := isCode_of ho ht htr
  cases hf : codeAmong pos ps.toList with
  | none =>
    refine wpAny_genexprCodeX hcode hok (tableAt_of ho ht) hf fun c' h' tk hx hge hlt hk _ htab _ => ?_
    obtain ⟨_, _, _, _, _, _, _, _, _, op, _, _, _, _, _, _, _, e1, e2, e3, _⟩ := hk
    have e4 := htab.2
    rw [e1] at e4
    cases e4
    exact hQ _ _ _ _ hx (Nat.le_trans hge (Nat.le_of_lt hlt)) e1 e3
  | some cv =>
    unfold genexprCode codeAt
    rw [hcode]
    rw [if_neg (show ¬ ((Value.ref 43 == Value.none) = true) from Bool.false_ne_true)]
    refine wpAny_bind (wpAny_fieldsOf ho rfl ?_)
    refine wpAny_bind (wpAny_fieldsOf (a := 39) ht rfl ?_)
    rw [hf]
    exact wpAny_pure (hQ cv s.heap s.toks ps (Heap.ExtBut.refl _ _) (Nat.le_refl _) ht htr)
end

section
variable {prog : Program} {w : World} {A : Around} {E : Value → Shared → Prop} {s : Shared} {h₀ : Heap} {L : Addr} {m mg : Str → Option Value} {bm : Addr} {ob : Obj} {news : List (Addr × Obj)} {ps : Array Value}

theorem all_range (y : Str) (q : Str → Bool) {n : Nat} (hn : n = y.cps.size) {K a : Addr} {s : Shared}
    (X : Gen prog w A K a (passing (fun _ => true) n 0).length (fun j v => ∃ i, (passing (fun _ => true) n 0)[j]? = some i ∧ ∃ b, (signs y)[i]? = some b ∧ Carried v (.bool (q b))) s) :
    GenOnD prog w A K a (signs y) (fun _ => true) (fun k => .bool (q k)) s := by
  have hp : passing (fun _ => true) n 0 = List.range n := by simp [passing]
  have hf : (signs y).filter (fun _ => true) = signs y := List.filter_eq_self.mpr (by simp)
  have hl : (signs y).length = n := by rw [signs_length, hn]; rfl
  unfold GenOnD
  rw [hf, hl]
  rw [hp, List.length_range] at X
  refine X.imp fun j v hv => ?_
  obtain ⟨i, hi, b, hb, hc⟩ := hv
  have : i = j := by
    rcases Nat.lt_or_ge j n with q | q
    · rw [List.getElem?_range q] at hi; exact (Option.some.inj hi).symm
    · rw [List.getElem?_eq_none (by rw [List.length_range]; exact q)] at hi; cases hi
  subst this
  exact ⟨b, hb, hc⟩

theorem genexp_rule {env : Env} {elt iter : Expr} {x : Str} {px pos : Pos} {scope : Scope} {Q : Value → Shared → Prop} {y : Str} {t : Tok} {q : Str → Bool}
    (M : BMod h₀ env.globals mg bm ob) (hcode : env.code = .ref 43) (F : Fr h₀ L s.heap m) (N : News h₀ L s.heap ((39, tabO ps) :: news)) (G : AllBare s.gens) (hlim : h₀.NoLimit)
    (hoC : h₀.get? 43 = some acrCode) (htr : TriplesOk ps.toList) (hnd : ∀ p ∈ news, p.1 ≠ 39)
    (hh : A.handled = none) (hco : scope.isCoroutine = false) (hclos : closureFor scope env = pure []) (hcell : ∀ y ∈ scope.names, y.2 ≠ .cell) (h0 : scope.names.lookup (".0" : Str) = some NameKind.local)
    (hx : scope.names.lookup x = some .local) (hkind : scope.kind = .function) (hroom : A.depth < recursionLimit)
    (hiter : wpAny (model prog w) A (eval iter env) (fun xv s₁ => xv = .str y t ∧ s₁ = s) E s)
    (helt : ∀ (C : Addr) (code : Value) (A' : Around) (E' : Value → Shared → Prop) (a : Str) (v : Value) (u : Shared) m₂, A'.handled = none → ItemKind.str.is a v → u.heap.Ns C m₂ → m₂ x = some v →
      wpAny (model prog w) A' (eval elt (genEnv scope [] C code builtinsNs env)) (fun r s₃ => Carried r (.bool (q a)) ∧ Keeps u s₃) E' u)
    (hs : ∀ x, genFold iter env x = pure x)
    (hQ : ∀ (a Kb : Addr) (ps' : Array Value) (s₅ : Shared), Fr h₀ L s₅.heap m → News h₀ L s₅.heap ((39, tabO ps') :: news) → AllBare s₅.gens → s₅.os = s.os → TriplesOk ps'.toList → L ≤ Kb → (∀ p ∈ (39, tabO ps') :: news, p.1 ≤ Kb) →
      GenOnD prog w A Kb a (signs y) (fun _ => true) (fun k => .bool (q k)) s₅ → Q (.ref a) s₅) :
    wpAny (model prog w) A (eval (.GeneratorExp elt [⟨.Name x px, iter, [], 0⟩] scope pos) env) Q E s := by
  refine wpAny_GeneratorExp_walksQD hh hco hclos hcell h0 hx hkind hroom (wpAny_mono hiter (fun xv s₁ h₁ => ?_) fun _ _ e => e) hs
  obtain ⟨rfl, rfl⟩ := h₁
  have hoff : ∀ b o, h₀.get? b = some o → b ≠ 39 := fun b o e hb => by
    have := (N _ (.head _)).2.2
    rw [hb] at e
    rw [e] at this
    cases this
  refine wpAny_pyIter_str fun o St W hst => ?_
  have F₂ : Fr h₀ L (s₁.heap.push o) m := F.keeps fun _ _ e => Heap.get?_push_of_some _ e
  have N₂ : News h₀ L (s₁.heap.push o) ((39, tabO ps) :: news) := N.keepsAll fun _ _ e => Heap.get?_push_of_some _ e
  have hL1 : L < s₁.heap.objs.size := F.ns.lt
  have h39 : (39 : Nat) < s₁.heap.objs.size := Heap.lt_size (N _ (.head _)).1
  refine ⟨hlim.keeps F₂.keep, genCode_any (s := { s₁ with heap := s₁.heap.push o }) hcode (F₂.keep 43 _ hoC) (N₂ _ (.head _)).1 htr fun code h₃ tk₃ ps' hx₃ hsz₃ ht₃ htr₃ => ?_⟩
  have hL39 : L ≠ 39 := fun e => (N _ (.head _)).2.1 e.symm
  have F₃ : Fr h₀ L h₃ m := ⟨F₂.ns.extBut hx₃ hL39, fun b o' e => hx₃ b o' (hoff b o' e) (F₂.keep b o' e), F₂.above⟩
  have M₃ := M.keeps F₃.keep
  refine wpAny_builtinsFor M₃.ns M₃.name M₃.ne M₃.obj M₃.cls M₃.dict M₃.data ?_
  have hlim₃ : h₃.NoLimit := hlim.keeps F₃.keep
  have hns : cStatics < h₀.objs.size := let ⟨_, hn, _⟩ := hlim; hn.lt
  have hsz : s₁.heap.objs.size + 1 ≤ h₃.objs.size := Nat.le_trans (Nat.le_of_eq (Heap.size_push _ _).symm) hsz₃
  refine ⟨s₁.heap.objs.size, [s₁.heap.objs.size], [s₁.heap.objs.size], y.cps.size, SignAt y, St, fun _ => true, fun i r => ∃ b, (signs y)[i]? = some b ∧ Carried r (.bool (q b)), rfl, W,
    (W A hh).frame _ _ _ hst (fun b hb o' e => hx₃ b o' (fun e' => ?_) e), (fun b hb => ?_), hlim₃, (fun hm => ?_), (fun href hhref => ⟨?_, ?_⟩), fun a h₅ tk gs hgb hag hsz₅ hk₅ Wg hat => ?_⟩
  · rcases List.mem_cons.mp hb with rfl | hb
    · exact absurd e' (Nat.ne_of_gt h39)
    · cases hb
  · rcases List.mem_cons.mp hb with rfl | hb
    · exact hsz
    · cases hb
  · rcases List.mem_cons.mp hm with e | hm
    · have : L < cStatics := by rw [e]; exact hL1
      exact Nat.lt_irrefl _ (Nat.lt_trans (Nat.lt_of_lt_of_le hns F.above) this)
    · cases hm
  · intro A' E' i v u m₂ hA hD hU hP hn hm hkp
    exact wpAny_pure ⟨rfl, u.heap, u.toks, rfl, fun _ _ e => e⟩
  · intro A' E' i v u m₂ hA hD hU hP hp hn hm hkp
    obtain ⟨cc, tk, hc, rfl⟩ := hP
    exact wpAny_mono (helt _ code A' E' ⟨#[cc]⟩ _ u m₂ hA ⟨tk, rfl⟩ hn hm) (fun r s₃ z => ⟨⟨_, signs_at hc, z.1⟩, z.2⟩) fun _ _ e => e
  · have hkall : ∀ b o', b ≠ 39 → s₁.heap.get? b = some o' → h₅.get? b = some o' := fun b o' hb e => hk₅ b o' (hx₃ b o' hb (Heap.get?_push_of_some _ e))
    refine hQ a (s₁.heap.objs.size - 1) ps' _ (F₃.keeps hk₅) (fun p hp => ?_) (G.push hgb) rfl htr₃ F.kb1 (fun p hp => ?_) (all_range y q rfl ⟨_, _, _, _, Wg, hat, (fun i s' st => st.1.typeIs), List.mem_cons_self, ?_, ?_⟩)
    · rcases List.mem_cons.mp hp with rfl | hp
      · exact ⟨hk₅ _ _ ht₃, (N _ (.head _)).2.1, (N _ (.head _)).2.2⟩
      · have z := N p (.tail _ hp)
        exact ⟨hkall _ _ (hnd p hp) z.1, z.2.1, z.2.2⟩
    · rcases List.mem_cons.mp hp with rfl | hp
      · exact Nat.le_sub_one_of_lt h39
      · exact Nat.le_sub_one_of_lt (Heap.lt_size (N p (.tail _ hp)).1)
    · intro b hb
      show b < h₅.objs.size
      rw [hsz₅]
      rcases List.mem_cons.mp hb with rfl | hb
      · exact Nat.lt_succ_self _
      · rcases List.mem_cons.mp hb with rfl | hb
        · exact Nat.lt_succ_of_lt hag
        · exact Nat.lt_succ_of_lt (Nat.lt_trans (List.mem_range.mp hb) hag)
    · intro b hb
      have hpos : 0 < s₁.heap.objs.size := Nat.lt_of_le_of_lt (Nat.zero_le _) hL1
      have hlt : s₁.heap.objs.size - 1 < s₁.heap.objs.size := Nat.sub_lt hpos Nat.one_pos
      rcases List.mem_cons.mp hb with rfl | hb
      · exact Nat.lt_of_lt_of_le hlt (Nat.le_of_lt hsz)
      · rcases List.mem_cons.mp hb with rfl | hb
        · exact hlt
        · cases hb
end
end Mine
end

section
open PySem PySem.W PyProof.Rows PySem.Calls
namespace Mine
set_option maxRecDepth 100000

def genScope : Scope := { kind := PySem.ScopeKind.function, names := [(PySem.Str.ofString ".0", PySem.NameKind.local), (PySem.Str.ofString "i", PySem.NameKind.local)], isGenerator := true, isCoroutine := false, more := [] }
section
variable {prog : Program} {w : World} {A : Around} {E : Value → Shared → Prop} {s : Shared} {h₀ : Heap} {L : Addr} {m : Str → Option Value} {news : List (Addr × Obj)}
theorem digit_elt {env : Env} {C : Addr} {code v : Value} {a : Str} {m₂ : Str → Option Value} (ha : ItemKind.str.is a v) (hn : s.heap.Ns C m₂) (hm : m₂ (Str.ofString "i") = some v) :
    wpAny (model prog w) A (eval (.Call (.Attribute (.Name (Str.ofString "i") ⟨5, 79, 5, 80⟩) (Str.ofString "isdigit") ⟨5, 79, 5, 88⟩) [] [] ⟨5, 79, 5, 90⟩) (genEnv genScope [] C code builtinsNs env)) (fun r s₃ => Carried r (.bool (Txt.isdigit a)) ∧ Keeps s s₃) E s := by
  obtain ⟨t, rfl⟩ := ItemKind.str_is ha
  refine MethodCall_ ?_
  refine wpAny_Name (wpAny_loadName_local (m := m₂) rfl rfl hn hm ?_)
  refine GM.isdigit ?_
  refine callWith_method0 ?_
  exact SC.isdigit ⟨.bool _, s.heap, s.toks, rfl, fun _ _ e => e⟩
theorem any_rule {a Kb : Addr} {ps : Array Value} {y : Str} {q : Str → Bool} {Q : Value → Shared → Prop} (F : Fr h₀ L s.heap m) (N : News h₀ L s.heap ((39, tabO ps) :: news)) (G : AllBare s.gens)
    (X : GenOnD prog w A Kb a (signs y) (fun _ => true) (fun k => .bool (q k)) s) (hLK : L ≤ Kb) (hle : ∀ p ∈ (39, tabO ps) :: news, p.1 ≤ Kb)
    (hQ : ∀ s', Fr h₀ L s'.heap m → News h₀ L s'.heap ((39, tabO ps) :: news) → AllBare s'.gens → s'.os = s.os → Q (.bool ((signs y).any q)) s') :
    wpAny (model prog w) A (call (.builtin "any") [.ref a]) Q E s := by
  have hf : (signs y).filter (fun _ => true) = signs y := List.filter_eq_self.mpr (by simp)
  refine any_genD F G X hLK fun s' F' G' os' hk => ?_
  rw [hf]
  exact hQ s' F' (News.kept N hle hk) G' os'
theorem match_K {x : Str} {t : Tok} {Q : Value → Shared → Prop} (F : Fr h₀ L s.heap m) (N : News h₀ L s.heap news) (ho : s.heap.get? 36 = some patObj) (hc : s.heap.get? 35 = some codeObj) (hlen : x.length ≤ 1000)
    (hn : reYes x.cps = false → Q .none s)
    (hy : reYes x.cps = true → ∀ a b h' o1 o2, Fr h₀ L h' m → News h₀ L h' ((a, o1) :: (b, o2) :: news) → Q (.ref a) { s with heap := h' }) :
    wpAny (model prog w) A (call (.builtin "re.Pattern.match") [.ref 36, .str x t]) Q E s := by
  refine match_any ho hc hlen hn fun hb st hd li => ?_
  have F1 := F.push (matchTup st hd)
  have N1 := N.push F (matchTup st hd)
  have F2 := F1.push (matchObj x t x.cps.size li s.heap.objs.size)
  have N2 := N1.push F1 (matchObj x t x.cps.size li s.heap.objs.size)
  have e : (s.heap.push (matchTup st hd)).objs.size = s.heap.objs.size + 1 := Heap.size_push _ _
  rw [e] at N2
  exact hy hb _ _ _ _ _ F2 N2
end
end Mine
end

section
open PySem PySem.W PyProof.Rows PySem.Calls
namespace Mine
def acr0 (x : Str) (b : Bool) : Bool := reYes x.cps || (b && (signs x).any Txt.isdigit)
theorem acr_y {x : Str} {b : Bool} (h : reYes x.cps = true) : true = acr0 x b := by unfold acr0; rw [h]; rfl
theorem acr_f {x : Str} {b : Bool} (hb : b = false) (h : reYes x.cps = false) : b = acr0 x b := by subst hb; unfold acr0; rw [h]; rfl
theorem acr_f1 {x : Str} (h : reYes x.cps = false) : false = acr0 x false := acr_f rfl h
theorem acr_t {x : Str} {b : Bool} (hb : b = true) (h : reYes x.cps = false) : (signs x).any Txt.isdigit = acr0 x b := by subst hb; unfold acr0; rw [h]; rfl
local macro_rules | `(tactic| walk_at "getMethod ref") => `(tactic| (k_here; (with_reducible show wpAny _ _ (getMethod (Value.ref 36) _ _) _ _ _); k_dflt (refine getMethod_pat ?ko ?_); (case ko => exact (by k_in : Frag.In _ _) _ _ (by k_is))))
local macro_rules | `(tactic| walk_at "call builtin:re.Pattern.match") => `(tactic| (k_here; k_dflt (refine' match_K ?kF ?kN ?ko ?kc ?kl ?_ ?_); (case kF => k_asm); (case kN => k_asm); (case ko => exact (by k_in : Frag.In _ _) _ _ (by k_is)); (case kc => exact (by k_in : Frag.In _ _) _ _ (by k_is)); (case kl => omega); intro hno9; rotate_left; intro hye9 a9 b9 h9 o9 o8 F9 N9; rotate_left; (all_goals (try dsimp only))))
local macro_rules | `(tactic| walk_at "eval GeneratorExp") => `(tactic| (k_here; k_dflt (refine' genexp_rule (q := Txt.isdigit) ?kM ?kcode ?kF ?kN ?kG ?klim ?koC ?ktr ?knd ?khh ?kco ?kclos ?kcell ?k0 ?kx ?kkind ?kroom ?kiter ?kelt ?ks ?_); (case kF => k_asm); (case kN => k_asm); (case kM => exact (bmod_of_top (by k_asm)).choose_spec.choose_spec); (case kcode => rfl); (case kG => assumption); (case klim => exact Top.nolimit (by k_asm)); (case koC => exact (by k_asm : Frag.In _ _) _ _ (by k_is)); (case ktr => assumption); (case knd => assumption); (case khh => rfl); (case kco => rfl); (case kclos => rfl); (case kcell => decide); (case k0 => rfl); (case kx => rfl); (case kkind => rfl); (case kroom => ktr_room); (case kiter => exact ld (by k_asm) (by rfl) ⟨rfl, rfl⟩); (case kelt => exact fun _ _ _ _ _ _ _ _ _ ha hn hm => digit_elt ha hn hm); (case ks => (intro _; with_unfolding_all rfl)); intro a9 Kb9 ps9 s9 F9 N9 G9 os9 tr9 lk9 le9 X9))
local macro_rules | `(tactic| walk_at "call builtin:any") => `(tactic| (k_here; k_dflt (refine' any_rule ?kF ?kN ?kG ?kX ?kl ?ke ?_); (case kF => k_asm); (case kN => k_asm); (case kG => assumption); (case kX => assumption); (case kl => assumption); (case ke => assumption); intro s8 F8 N8 G8 os8))
section
variable {w : World} {loose : List Str} {mean : ExcName → Option Value} {mg mb : Str → Option Value} {news : List (Addr × Obj)}
  {dp un : Nat} {gd : Option (List Code)} {cn : Str} {cs : Scope} {ad : Addr} {ccd : Value} {cl : List (Str × Addr)} {outer : List Env} {A₀ : Around} {base h₀ : Heap} {L : Addr} {m : Str → Option Value} {s : Shared} {Q E : Value → Shared → Prop}
set_option maxRecDepth 100000 in
set_option maxHeartbeats 8000000 in
theorem acr_rule2 {x : Str} {t : Tok} {b : Bool} {ps : Array Value}
    (B : Below A₀ base outer h₀) (F : Fr h₀ L s.heap m) (X : (hd.heap_39 w.params).In h₀) (N : News h₀ L s.heap ((39, tabO ps) :: news)) (T : Top hd.view_39 loose mean mg mb h₀) (hk : cs.kind = .function)
    (htr : TriplesOk ps.toList) (hnd : ∀ p ∈ news, p.1 ≠ 39) (G : AllBare s.gens)
    (hp : x.length ≤ 100) (hd' : dp + 10 < recursionLimit) (hu : un + 100 < cLine)
    (hret : ∀ v s' ps', v = acr0 x b → Fr h₀ L s'.heap m → News h₀ L s'.heap ((39, tabO ps') :: news) → TriplesOk ps'.toList → AllBare s'.gens → s'.os = s.os → Q (.bool v) s') :
    wpAny (model PySem.Challenge.rw_db5019_01.row.prog w) (ktrTop dp un gd cn cs L ad ccd cl outer) (call (.ref 44) [.str x t, .bool b]) Q E s := by
  w_on
  k_with_none
  revert X; k_fill; intro X
  refine wpAny_call ?_
  k_dflt (refine' code_def ?k1 ?k2 ?k3 ?k4 ?k5 ?kA ?kF ?kK ?k6 ?k7 ?k8 ?k9 ?kB ?_ ?c2 ?c3 ?c4 ?c5; (case kA => exact rfl); (case kF => exact rfl); (case kK => assumption); (case k1 => k_asm); (case k2 => k_asm); (case k3 => k_asm); (case k4 => k_asm); (case k5 => k_asm); (case k6 => k_is); (case k7 => k_is); (case k8 => ktr_room); (case k9 => first | exact BindsTo.of_eq rfl | exact binds_K (by k_in) rfl (by k_is) rfl rfl rfl); (case c5 => decide); (case kB => exact locs rfl); (case c2 => exact rfl); (case c3 => exact rfl); (case c4 => exact rfl); k_whole; intro g' L' h' FG' F' N' B' X' T'; (try dsimp only); (try k_lift B'); (try k_fold))
  k_steps
  all_goals first
    | exact hret _ _ _ (acr_y (by assumption)) (by assumption) (cb_drop (by assumption) (fun p hp => .tail _ (.tail _ hp))) (by assumption) (by assumption) rfl
    | exact hret _ _ _ (acr_f (by assumption) (by assumption)) (by assumption) (by assumption) (by assumption) (by assumption) rfl
    | exact hret _ _ _ (acr_t (by assumption) (by assumption)) (by assumption) (by assumption) (by assumption) (by assumption) (Eq.trans (by assumption) (by assumption))
set_option maxRecDepth 100000 in
set_option maxHeartbeats 8000000 in
theorem acr_rule1 {x : Str} {t : Tok} {ps : Array Value}
    (B : Below A₀ base outer h₀) (F : Fr h₀ L s.heap m) (X : (hd.heap_39 w.params).In h₀) (N : News h₀ L s.heap ((39, tabO ps) :: news)) (T : Top hd.view_39 loose mean mg mb h₀) (hk : cs.kind = .function)
    (htr : TriplesOk ps.toList) (hnd : ∀ p ∈ news, p.1 ≠ 39) (G : AllBare s.gens)
    (hp : x.length ≤ 100) (hd' : dp + 10 < recursionLimit) (hu : un + 100 < cLine)
    (hret : ∀ v s' ps', v = acr0 x false → Fr h₀ L s'.heap m → News h₀ L s'.heap ((39, tabO ps') :: news) → TriplesOk ps'.toList → AllBare s'.gens → s'.os = s.os → Q (.bool v) s') :
    wpAny (model PySem.Challenge.rw_db5019_01.row.prog w) (ktrTop dp un gd cn cs L ad ccd cl outer) (call (.ref 44) [.str x t]) Q E s := by
  w_on
  k_with_none
  revert X; k_fill; intro X
  refine wpAny_call ?_
  k_dflt (refine' code_def ?k1 ?k2 ?k3 ?k4 ?k5 ?kA ?kF ?kK ?k6 ?k7 ?k8 ?k9 ?kB ?_ ?c2 ?c3 ?c4 ?c5; (case kA => exact rfl); (case kF => exact rfl); (case kK => assumption); (case k1 => k_asm); (case k2 => k_asm); (case k3 => k_asm); (case k4 => k_asm); (case k5 => k_asm); (case k6 => k_is); (case k7 => k_is); (case k8 => ktr_room); (case k9 => first | exact BindsTo.of_eq rfl | exact binds_K (by k_in) rfl (by k_is) rfl rfl rfl); (case c5 => decide); (case kB => exact locs rfl); (case c2 => exact rfl); (case c3 => exact rfl); (case c4 => exact rfl); k_whole; intro g' L' h' FG' F' N' B' X' T'; (try dsimp only); (try k_lift B'); (try k_fold))
  k_steps
  all_goals first
    | exact hret _ _ _ (acr_y (by assumption)) (by assumption) (cb_drop (by assumption) (fun p hp => .tail _ (.tail _ hp))) (by assumption) (by assumption) rfl
    | exact hret _ _ _ (acr_f1 (by assumption)) (by assumption) (by assumption) (by assumption) (by assumption) rfl
end
end Mine
end

section
open PySem PySem.W PyProof.Rows PySem.Calls
namespace Mine
set_option maxRecDepth 100000

theorem isTop_eq (c : Nat) : isTop c = isTopC c := by
  rcases Nat.lt_or_ge c 128 with h | h
  · have key : ∀ c : Fin 128, isTop c.1 = isTopC c.1 := by decide +kernel
    exact key ⟨c, h⟩
  · have h1 : isTop c = false := by
      unfold isTop
      have a : decide (c ≤ 90) = false := decide_eq_false (by omega)
      have b : decide (c ≤ 57) = false := decide_eq_false (by omega)
      rw [a, b]; simp
    have h2 : isTopC c = false := by
      unfold isTopC
      rw [Bool.eq_false_iff]
      intro hc
      have hm : c ∈ topS.cps.toList := by simpa using hc
      have key : topS.cps.toList.all (fun c => decide (c < 128)) = true := by decide +kernel
      have := of_decide_eq_true (List.all_eq_true.mp key c hm)
      omega
    rw [h1, h2]
theorem lead_tw (text : Array Nat) : ∀ (n p : Nat), p + n = text.size → lead text n p = ((text.toList.drop p).takeWhile isTopC).length
  | 0, p, h => by
    have : text.toList.drop p = [] := List.drop_eq_nil_of_le (by rw [Array.length_toList]; omega)
    rw [this]; rfl
  | n + 1, p, h => by
    have hp : p < text.toList.length := by rw [Array.length_toList]; omega
    have hg : text.getD p 0 = text.toList[p] := by
      have : p < text.size := by omega
      simp [Array.getD, this]
    rw [List.drop_eq_getElem_cons hp]
    rw [lead_succ]
    rw [hg, isTop_eq, List.takeWhile_cons, lead_tw text n (p + 1) (by omega)]
    split
    · rfl
    · rfl
theorem lead_cap (x : Str) : lead x.cps x.cps.size 0 = capNum x := by
  rw [lead_tw x.cps x.cps.size 0 (by omega)]
  rfl
theorem known_facts : everyS.cps.toList.all (fun c => (isTopC c || (PySem.Sre.isWordUni c == !isEndC c)) && (Unicode.isDigit c == digitsS.cps.toList.contains c)) = true := by decide +kernel
theorem known_word {c : Nat} (h : known c = true) (ht : isTopC c = false) : PySem.Sre.isWordUni c = !isEndC c := by
  have hm : c ∈ everyS.cps.toList := by unfold known at h; simpa using h
  have z := List.all_eq_true.mp known_facts c hm
  rw [ht] at z
  simp only [Bool.false_or, Bool.and_eq_true, beq_iff_eq] at z
  exact z.1
theorem known_digit {c : Nat} (h : known c = true) : Unicode.isDigit c = digitsS.cps.toList.contains c := by
  have hm : c ∈ everyS.cps.toList := by unfold known at h; simpa using h
  have z := List.all_eq_true.mp known_facts c hm
  simp only [Bool.and_eq_true, beq_iff_eq] at z
  exact z.2
theorem tw_all (p : Nat → Bool) : ∀ (l : List Nat) (j : Nat), j < (l.takeWhile p).length → ∃ c, l[j]? = some c ∧ p c = true
  | [], j, h => by simp at h
  | a :: r, j, h => by
    rw [List.takeWhile_cons] at h
    split at h
    · rename_i ha
      cases j with
      | zero => exact ⟨a, rfl, ha⟩
      | succ j => exact tw_all p r j (by simpa using h)
    · simp at h
theorem tw_stop (p : Nat → Bool) : ∀ (l : List Nat) (c : Nat), l[(l.takeWhile p).length]? = some c → p c = false
  | [], c, h => by simp at h
  | a :: r, c, h => by
    rw [List.takeWhile_cons] at h
    split at h
    · exact tw_stop p r c (by simpa using h)
    · rename_i ha
      have : a = c := by simpa using h
      subst this
      simpa using ha
theorem tw_le (p : Nat → Bool) : ∀ (l : List Nat), (l.takeWhile p).length ≤ l.length
  | [] => Nat.le_refl _
  | a :: r => by
    rw [List.takeWhile_cons]
    split
    · have := tw_le p r; simp only [List.length_cons]; omega
    · simp
theorem reYes_cap (x : Str) (hk : ∀ c ∈ x.cps.toList, known c = true) : reYes x.cps = capF x := by
  unfold reYes capF
  rw [lead_cap]
  cases h2 : decide (2 ≤ capNum x)
  · rfl
  · have hge : 2 ≤ capNum x := of_decide_eq_true h2
    rw [Bool.true_and, Bool.true_and]
    have hle : capNum x ≤ x.cps.size := by have := tw_le isTopC x.cps.toList; rw [Array.length_toList] at this; exact this
    have hlen : x.length = x.cps.size := rfl
    have hb : PySem.Sre.isWordUni (x.cps.getD (capNum x - 1) 0) = true := by
      obtain ⟨c, hc, ht⟩ := tw_all isTopC x.cps.toList (capNum x - 1) (by show capNum x - 1 < capNum x; omega)
      have hlt : capNum x - 1 < x.cps.size := by omega
      have e : x.cps.getD (capNum x - 1) 0 = c := by
        simp only [Array.getD, hlt, dif_pos]
        have : x.cps.toList[capNum x - 1]? = some x.cps[capNum x - 1] := by simp [hlt]
        rw [this] at hc
        exact Option.some.inj hc
      rw [e]
      exact word_of_top (by rw [isTop_eq]; exact ht)
    unfold bound
    have e1 : (x.cps.size != 0) = true := by rw [bne_iff_ne]; omega
    have e2 : decide (capNum x > 0) = true := decide_eq_true (by omega)
    rw [e1, e2, hb]
    rcases Nat.lt_or_ge (capNum x) x.cps.size with h | h
    · have e3 : decide (capNum x < x.cps.size) = true := decide_eq_true h
      have e4 : (capNum x == x.length) = false := by rw [beq_eq_false_iff_ne]; omega
      rw [e3, e4]
      have hc : x.cps.toList[capNum x]? = some x.cps[capNum x] := by simp [h]
      have hg : x.cps.getD (capNum x) 0 = x.cps[capNum x] := by simp [Array.getD, h]
      have hs := tw_stop isTopC x.cps.toList _ hc
      have hw := known_word (hk _ (List.mem_of_getElem? hc)) hs
      unfold endAt
      rw [hc, hg, hw]
      show (true && (((true && true) != (true && !isEndC x.cps[capNum x])) == true)) = (false || isEndC x.cps[capNum x])
      cases isEndC x.cps[capNum x] <;> rfl
    · have e3 : decide (capNum x < x.cps.size) = false := decide_eq_false (by omega)
      have e4 : (capNum x == x.length) = true := by rw [beq_iff_eq]; omega
      rw [e3, e4]
      rfl
theorem any_dig (x : Str) (hk : ∀ c ∈ x.cps.toList, known c = true) : (signs x).any Txt.isdigit = digF x := by
  unfold digF signs KStt.codes
  rw [List.any_map, List.any_map]
  have key : ∀ l : List Nat, (∀ c ∈ l, known c = true) → l.any (Txt.isdigit ∘ fun n => (⟨#[n]⟩ : Str)) = l.any (isDig ∘ fun (c : Nat) => (c : Int)) := by
    intro l
    induction l with
    | nil => intro _; rfl
    | cons a r ih =>
      intro h
      rw [List.any_cons, List.any_cons, ih fun c hc => h c (.tail _ hc)]
      have e1 : Txt.isdigit ⟨#[a]⟩ = Unicode.isDigit a := by
        unfold Txt.isdigit
        simp [Str.length]
      have e2 : isDig (a : Int) = digitsS.cps.toList.contains a := rfl
      show (Txt.isdigit ⟨#[a]⟩ || _) = (isDig (a : Int) || _)
      rw [e1, e2, known_digit (h a (.head _))]
  exact key x.cps.toList hk
theorem acr_known (x : Str) (b : Bool) (hk : ∀ c ∈ x.cps.toList, known c = true) : acr0 x b = (capF x || (b && digF x)) := by
  unfold acr0
  rw [reYes_cap x hk, any_dig x hk]
theorem acr_text_f (ns : List Int) (a : Int) : acr0 (lawText ns a) false = capF (lawText ns a) := by
  rw [acr_known _ _ (lawText_known ns a), Bool.false_and, Bool.or_false]
theorem acr_text_t (ns : List Int) (a : Int) : acr0 (lawText ns a) true = (capF (lawText ns a) || digF (lawText ns a)) := by
  rw [acr_known _ _ (lawText_known ns a), Bool.true_and]
end Mine
end

section
open PySem PySem.W PyProof.Rows PySem.Calls
namespace Mine
set_option maxRecDepth 100000

/-- the heap without is_acronym's places -/
def noTab (h : Heap) : Heap := h.update 39 fun _ => { cls := .none, data := .freed }
theorem noTab_size (h : Heap) : (noTab h).objs.size = h.objs.size := Heap.size_after_update _ _ _
theorem noTab_off {h : Heap} {b : Addr} (hb : b ≠ 39) : (noTab h).get? b = h.get? b := Heap.get?_update_other _ _ (Ne.symm hb)
theorem noTab_39 (h : Heap) : (noTab h).get? 39 = none := by
  cases hq : (noTab h).get? 39 with
  | none => rfl
  | some o =>
    obtain ⟨e, hf⟩ := Heap.get?_some_iff.mp hq
    obtain ⟨objs, l⟩ := h
    simp only [noTab, Heap.update, Array.getElem?_modify, if_true] at e
    cases hx : objs[39]? with
    | none => rw [hx] at e; cases e
    | some o' =>
      rw [hx] at e
      have : o = { cls := .none, data := .freed } := (Option.some.inj e).symm
      rw [this] at hf
      cases hf
theorem noTab_back {h : Heap} (b : Addr) (o : Obj) (e : (noTab h).get? b = some o) : h.get? b = some o := by
  by_cases hb : b = 39
  · rw [hb, noTab_39] at e; cases e
  · rw [noTab_off hb] at e; exact e
theorem noTab_keep {h : Heap} (h39 : h.get? 39 = some (tabO #[])) {b : Addr} {o : Obj} (e : h.get? b = some o) (hne : o ≠ tabO #[]) : (noTab h).get? b = some o := by
  have hb : b ≠ 39 := fun q => by rw [q, h39] at e; exact hne (Option.some.inj e).symm
  rw [noTab_off hb]; exact e
theorem ne_dict {o : Obj} {es ep} (h : o.data = .dict es ep) : o ≠ tabO #[] := fun e => by rw [e] at h; cases h
theorem ne_func {o : Obj} {fd} (h : o.data = .func fd) : o ≠ tabO #[] := fun e => by rw [e] at h; cases h
theorem ne_cls {o : Obj} {c : String} (h : o.cls = .type c) : o ≠ tabO #[] := fun e => by rw [e] at h; cases h
section
variable {h : Heap} (h39 : h.get? 39 = some (tabO #[]))
include h39
theorem noTab_ns {a : Addr} {m : Str → Option Value} (x : h.Ns a m) : (noTab h).Ns a m :=
  let ⟨o, es, ep, e, hd, r⟩ := x; ⟨o, es, ep, noTab_keep h39 e (ne_dict hd), hd, r⟩
theorem noTab_code {cd : Value} {q : Str} (x : h.CodeRec cd q) : (noTab h).CodeRec cd q := by
  obtain ⟨c, o, vs, t, e, g, hd, h1⟩ := x
  refine ⟨c, o, vs, t, e, noTab_keep h39 g (fun q => ?_), hd, h1⟩
  rw [q] at hd
  cases hd
  cases h1
theorem noTab_list {l : Addr} {xs : Array Value} (x : h.IsList l xs) : (noTab h).IsList l xs :=
  let ⟨o, e, hc, r⟩ := x; ⟨o, noTab_keep h39 e (ne_cls hc), hc, r⟩
theorem noTab_limit (x : h.NoLimit) : (noTab h).NoLimit := let ⟨mc, a, b⟩ := x; ⟨mc, noTab_ns h39 a, b⟩
theorem noTab_seer (x : h.NoSeer) : (noTab h).NoSeer where
  statics := let ⟨mc, a, b⟩ := x.statics; ⟨mc, noTab_ns h39 a, b⟩
  mods := let ⟨mc, a, b⟩ := x.mods; ⟨mc, noTab_ns h39 a, b⟩
  imp := let ⟨mc, a, b⟩ := x.imp; ⟨mc, noTab_ns h39 a, b⟩
  main := let ⟨mg, bm, ob, a, b, c, d, e⟩ := x.main; ⟨mg, bm, ob, noTab_ns h39 a, b, noTab_keep h39 c (ne_cls d), d, e⟩
theorem noTab_in {P : Params} (x : (hd.heap_39 P).In h) : (hd.heap_39 P).In (noTab h) := fun a o e => by
  have hb : a ≠ 39 := fun q => by
    rw [q] at e
    have z : (hd.heap_39 P).lookup 39 = none := rfl
    rw [z] at e
    cases e
  rw [noTab_off hb]
  exact x a o e

/-- the places of a def's code, as the written part tells them -/
def tabIn (K : Frag) (n : Str) : Option Addr := match nsIn K mainGlobals n with
  | some (some (.ref a)) => match K.lookup a with
    | some ⟨_, _, .func fd, _⟩ => match fd.code with
      | .ref c => match K.lookup c with
        | some ⟨_, _, .fields vs, _⟩ => match (vs[11]? : Option Value) with
          | some (Value.ref P) => some P
          | _ => none
        | _ => none
      | _ => none
    | _ => none
  | _ => none
omit h39 in
theorem tabIn_ne {K : Frag} {n : Str} {P : Addr} (hK : tabIn K n = some P) {mg : Str → Option Value} (X : K.In h) (G : h.Ns mainGlobals mg) {a c P' : Addr} {o : Obj} {fd : FuncData} {ps : Array Value}
    (h1 : mg n = some (.ref a)) (h2 : h.get? a = some o) (h3 : o.data = .func fd) (h4 : fd.code = .ref c) (h5 : h.TableAt c P' ps) : P' = P := by
  unfold tabIn at hK
  split at hK
  · rename_i a' e1
    have m1 := mg_of X G e1
    rw [h1] at m1
    cases m1
    split at hK
    · rename_i e2
      have m2 := X _ _ e2
      rw [h2] at m2
      cases m2
      cases h3
      split at hK
      · rename_i c' e3
        rw [h4] at e3
        cases e3
        split at hK
        · rename_i e4
          have m4 := X _ _ e4
          obtain ⟨⟨oc, vs', g1, _, g3, g4⟩, _⟩ := h5
          rw [g1] at m4
          cases m4
          cases g3
          split at hK
          · rename_i e5
            rw [g4] at e5
            cases e5
            exact Option.some.inj hK
          · cases hK
        · cases hK
      · cases hK
    · cases hK
  · cases hK
theorem noTab_top {P : Params} {loose : List Str} {mean : ExcName → Option Value} {mg mb : Str → Option Value} (X : (hd.heap_39 P).In h) (T : Top hd.view_39 loose mean mg mb h) : Top hd.view_39 loose mean mg mb (noTab h) where
  g := noTab_ns h39 T.g
  b := noTab_ns h39 T.b
  nolimit := noTab_limit h39 T.nolimit
  nodigits := let ⟨mc, h1, h2⟩ := T.nodigits; ⟨mc, noTab_ns h39 h1, h2⟩
  fn := fun d hd => let ⟨a, o, pm, code, doc, h1, h2, h3, h4⟩ := T.fn d hd; ⟨a, o, pm, code, doc, h1, noTab_keep h39 h2 (ne_func h3), h3, noTab_code h39 h4⟩
  own := fun o ho => by
    have e : ownsOf hd.view_39 = [] := rfl
    rw [e] at ho
    cases ho
  const := T.const
  free := T.free
  builtins := T.builtins
  tab := fun d hd' => by
    obtain ⟨a, o, fd, c, P', h1, h2, h3, h4, h5, h6⟩ := T.tab d hd'
    have hn : d.name ∈ (recsOf hd.view_39).map (·.name) := List.mem_map_of_mem hd'
    have e : (recsOf hd.view_39).map (·.name) = [Str.ofString "_law_at", Str.ofString "_law_sign", Str.ofString "_law_text", Str.ofString "_law_capitals", Str.ofString "_law_digit", Str.ofString "law"] := rfl
    rw [e] at hn
    have hP : P' ≠ 39 := by
      simp only [List.mem_cons, List.not_mem_nil, or_false] at hn
      rcases hn with q | q | q | q | q | q <;> rw [q] at h1
      · rw [tabIn_ne (K := hd.heap_39 P) (P := 46) rfl X T.g h1 h2 h3 h4 h6]; decide
      · rw [tabIn_ne (K := hd.heap_39 P) (P := 53) rfl X T.g h1 h2 h3 h4 h6]; decide
      · rw [tabIn_ne (K := hd.heap_39 P) (P := 60) rfl X T.g h1 h2 h3 h4 h6]; decide
      · rw [tabIn_ne (K := hd.heap_39 P) (P := 65) rfl X T.g h1 h2 h3 h4 h6]; decide
      · rw [tabIn_ne (K := hd.heap_39 P) (P := 72) rfl X T.g h1 h2 h3 h4 h6]; decide
      · rw [tabIn_ne (K := hd.heap_39 P) (P := 79) rfl X T.g h1 h2 h3 h4 h6]; decide
    have hc : c ≠ 39 := fun q => by
      obtain ⟨⟨oc, vs', g1, g2, _⟩, _⟩ := h6
      rw [q, h39] at g1
      cases g1
      cases g2
    have keep : ∀ b, b ≠ 39 → ∀ o, h.get? b = some o → (noTab h).get? b = some o := fun b hb o e => by rw [noTab_off hb]; exact e
    refine ⟨a, o, fd, c, P', h1, noTab_keep h39 h2 (ne_func h3), h3, h4, ?_, ?_⟩
    · obtain ⟨o', vs, file, tf, flags, tg, inF, text, tt, op, a1, r1, r2, r3, r4, r5, r6, b1, r⟩ := h5
      exact ⟨o', vs, file, tf, flags, tg, inF, text, tt, op, keep _ hc _ a1, r1, r2, r3, r4, r5, r6, keep _ hP _ b1, r⟩
    · obtain ⟨⟨o', vs, e1, r⟩, t⟩ := h6
      exact ⟨⟨o', vs, keep _ hc _ e1, r⟩, keep _ hP _ t⟩
  bmain := let ⟨bm, ob, h1, h2, h3, h4, r⟩ := T.bmain; ⟨bm, ob, h1, h2, noTab_keep h39 h3 (ne_cls h4), h4, r⟩
  seer := fun hi => noTab_seer h39 (T.seer hi)
end
end Mine
end

section
open PySem PySem.W PyProof.Rows PySem.Calls
namespace Mine
set_option maxRecDepth 100000
def Known (x : Str) : Prop := ∀ c ∈ x.cps.toList, known c = true

theorem news_upd {h₀ h : Heap} {L : Addr} {ps : Array Value} {led : List (Addr × Obj)} {led' : Array Value → List (Addr × Obj)} (N : News h₀ L h led) (hU : ∀ ps', Upd 39 (tabO ps) (tabO ps') led (led' ps')) :
    ∃ news, News h₀ L h ((39, tabO ps) :: news) ∧ (∀ p ∈ news, p.1 ≠ 39) ∧ ∀ (h' : Heap) ps', News h₀ L h' ((39, tabO ps') :: news) → News h₀ L h' (led' ps') := by
  obtain ⟨pre, post, e, _, h1, h2⟩ := (hU ps).split
  refine ⟨pre ++ post, fun p hp => ?_, fun p hp => ?_, fun h' ps' N' p hp => ?_⟩
  · rcases List.mem_cons.mp hp with rfl | hp
    · exact N _ (by rw [e]; simp)
    · refine N _ ?_
      rw [e]
      rcases List.mem_append.mp hp with q | q
      · exact List.mem_append_left _ q
      · exact List.mem_append_right _ (.tail _ q)
  · rcases List.mem_append.mp hp with q | q
    · exact h1 p q
    · exact h2 p q
  · obtain ⟨pre2, post2, e1, e2, g1, g2⟩ := (hU ps').split
    rw [e2] at hp
    have other : p ∈ led → p.1 ≠ 39 → p ∈ pre ++ post := fun q hne => by
      rw [e] at q
      rcases List.mem_append.mp q with q | q
      · exact List.mem_append_left _ q
      · rcases List.mem_cons.mp q with q | q
        · exact absurd (by rw [q]) hne
        · exact List.mem_append_right _ q
    rcases List.mem_append.mp hp with q | q
    · exact N' _ (.tail _ (other (by rw [e1]; exact List.mem_append_left _ q) (g1 p q)))
    · rcases List.mem_cons.mp q with rfl | q
      · exact N' _ (.head _)
      · exact N' _ (.tail _ (other (by rw [e1]; exact List.mem_append_right _ (.tail _ q)) (g2 p q)))

section
variable {w : World} {loose : List Str} {mean : ExcName → Option Value} {mg mb : Str → Option Value} {news led : List (Addr × Obj)}
  {dp un : Nat} {gd : Option (List Code)} {cn : Str} {cs : Scope} {ad : Addr} {ccd : Value} {cl : List (Str × Addr)} {outer : List Env} {A₀ : Around} {base h₀ : Heap} {L : Addr} {m : Str → Option Value} {s : Shared} {Q E : Value → Shared → Prop}
theorem textL {l : Addr} {vs : List Value} {ns : List Int} {a : Int} {t : Tok}
    (B : Below A₀ base outer h₀) (F : Fr h₀ L s.heap m) (X : (hd.heap_39 w.params).In h₀) (N : News h₀ L s.heap news) (T : Top hd.view_39 loose mean mg mb h₀) (hk : cs.kind = .function)
    (hl : base.IsList l vs.toArray) (hi : IntsAre vs ns) (hn : ns.length < 2 ^ 62) (hp : 0 ≤ a ∧ a < 100) (hd' : dp + 10 < recursionLimit) (hu : un + 100 < cLine)
    (hret : ∀ (x : Str) (t : Tok) h' tk', x.length ≤ 7 → Known x → Fr h₀ L h' m → News h₀ L h' news → Q (.str x t) { s with heap := h', toks := tk' }) :
    wpAny (model PySem.Challenge.rw_db5019_01.row.prog w) (ktrTop dp un gd cn cs L ad ccd cl outer) (call (.ref 63) [.ref l, .int a t]) Q E s :=
  text_rule B F X N T hk hl hi hn hp hd' hu fun t h' tk' F' N' => hret _ t h' tk' (lawText_len ns a) (lawText_known ns a) F' N'
theorem acrL1 {x : Str} {t : Tok} {ps : Array Value} {led' : Array Value → List (Addr × Obj)}
    (B : Below A₀ base outer h₀) (F : Fr h₀ L s.heap m) (X : (hd.heap_39 w.params).In h₀) (N : News h₀ L s.heap led) (T : Top hd.view_39 loose mean mg mb h₀) (hk : cs.kind = .function)
    (hU : ∀ ps', Upd 39 (tabO ps) (tabO ps') led (led' ps')) (htr : TriplesOk ps.toList) (G : AllBare s.gens)
    (hp : x.length ≤ 7) (hx : Known x) (hd' : dp + 10 < recursionLimit) (hu : un + 100 < cLine)
    (hret : ∀ s' ps', Fr h₀ L s'.heap m → News h₀ L s'.heap (led' ps') → TriplesOk ps'.toList → AllBare s'.gens → s'.os = s.os → Q (.bool (capF x)) s') :
    wpAny (model PySem.Challenge.rw_db5019_01.row.prog w) (ktrTop dp un gd cn cs L ad ccd cl outer) (call (.ref 44) [.str x t]) Q E s := by
  obtain ⟨news, N', hnd, back⟩ := news_upd N hU
  refine acr_rule1 B F X N' T hk htr hnd G (Nat.le_trans hp (by decide)) hd' hu fun v s' ps' hv F' N'' tr' G' os' => ?_
  rw [hv, acr_known x false hx, Bool.false_and, Bool.or_false]
  exact hret s' ps' F' (back _ _ N'') tr' G' os'
theorem acrLF {x : Str} {t : Tok} {ps : Array Value} {led' : Array Value → List (Addr × Obj)}
    (B : Below A₀ base outer h₀) (F : Fr h₀ L s.heap m) (X : (hd.heap_39 w.params).In h₀) (N : News h₀ L s.heap led) (T : Top hd.view_39 loose mean mg mb h₀) (hk : cs.kind = .function)
    (hU : ∀ ps', Upd 39 (tabO ps) (tabO ps') led (led' ps')) (htr : TriplesOk ps.toList) (G : AllBare s.gens)
    (hp : x.length ≤ 7) (hx : Known x) (hd' : dp + 10 < recursionLimit) (hu : un + 100 < cLine)
    (hret : ∀ s' ps', Fr h₀ L s'.heap m → News h₀ L s'.heap (led' ps') → TriplesOk ps'.toList → AllBare s'.gens → s'.os = s.os → Q (.bool (capF x)) s') :
    wpAny (model PySem.Challenge.rw_db5019_01.row.prog w) (ktrTop dp un gd cn cs L ad ccd cl outer) (call (.ref 44) [.str x t, .bool false]) Q E s := by
  obtain ⟨news, N', hnd, back⟩ := news_upd N hU
  refine acr_rule2 B F X N' T hk htr hnd G (Nat.le_trans hp (by decide)) hd' hu fun v s' ps' hv F' N'' tr' G' os' => ?_
  rw [hv, acr_known x false hx, Bool.false_and, Bool.or_false]
  exact hret s' ps' F' (back _ _ N'') tr' G' os'
theorem acrLT {x : Str} {t : Tok} {ps : Array Value} {led' : Array Value → List (Addr × Obj)}
    (B : Below A₀ base outer h₀) (F : Fr h₀ L s.heap m) (X : (hd.heap_39 w.params).In h₀) (N : News h₀ L s.heap led) (T : Top hd.view_39 loose mean mg mb h₀) (hk : cs.kind = .function)
    (hU : ∀ ps', Upd 39 (tabO ps) (tabO ps') led (led' ps')) (htr : TriplesOk ps.toList) (G : AllBare s.gens)
    (hp : x.length ≤ 7) (hx : Known x) (hd' : dp + 10 < recursionLimit) (hu : un + 100 < cLine)
    (hret : ∀ s' ps', Fr h₀ L s'.heap m → News h₀ L s'.heap (led' ps') → TriplesOk ps'.toList → AllBare s'.gens → s'.os = s.os → Q (.bool (capF x || digF x)) s') :
    wpAny (model PySem.Challenge.rw_db5019_01.row.prog w) (ktrTop dp un gd cn cs L ad ccd cl outer) (call (.ref 44) [.str x t, .bool true]) Q E s := by
  obtain ⟨news, N', hnd, back⟩ := news_upd N hU
  refine acr_rule2 B F X N' T hk htr hnd G (Nat.le_trans hp (by decide)) hd' hu fun v s' ps' hv F' N'' tr' G' os' => ?_
  rw [hv, acr_known x true hx, Bool.true_and]
  exact hret s' ps' F' (back _ _ N'') tr' G' os'
end

/-- the end of an expression whose value is a truth value -/
def BEnd (h₀ : Heap) (L : Addr) (m : Str → Option Value) (s : Shared) (r : Bool) (led : List (Addr × Obj)) (y : Value) (s₂ : Shared) : Prop :=
  ∃ h' tk, s₂ = { s with heap := h', toks := tk } ∧ y = .bool r ∧ Fr h₀ L h' m ∧ News h₀ L h' led
theorem BEnd.intro {h₀ : Heap} {L : Addr} {m : Str → Option Value} {s : Shared} {r : Bool} {led : List (Addr × Obj)} {h' : Heap} {tk : Nat} (F : Fr h₀ L h' m) (N : News h₀ L h' led) :
    BEnd h₀ L m s r led (.bool r) { s with heap := h', toks := tk } := ⟨h', tk, rfl, rfl, F, N⟩
section
variable {prog : Program} {w : World} {A : Around} {h₀ : Heap} {L : Addr} {m : Str → Option Value} {env : Env} {elt : Expr} {x : Str} {scope : Scope} {cl : List (Str × Addr)} {s : Shared} {Fin : List Value → List (Addr × Obj) → Prop} {news : List (Addr × Obj)} {Q E : Value → Shared → Prop}
theorem or_rule {e₁ e₂ : Expr} {pos : Pos} {c d : Bool} (F : Fr h₀ L s.heap m) (N : News h₀ L s.heap news)
    (h1 : wpAny (model prog w) A (eval e₁ env) (fun v s' => v = .bool c ∧ s' = s) E s)
    (h2 : wpAny (model prog w) A (eval e₂ env) (BEnd h₀ L m s d news) E s)
    (hq : ∀ h' tk', Fr h₀ L h' m → News h₀ L h' news → Q (.bool (c || d)) { s with heap := h', toks := tk' }) :
    wpAny (model prog w) A (eval (.BoolOp .Or [e₁, e₂] pos) env) Q E s := by
  refine BoolOp_or (wpAny_mono h1 (fun v s' q => ?_) fun _ _ e => e)
  obtain ⟨rfl, rfl⟩ := q
  refine wpAny_truthy_bool ?_
  cases c
  · exact BoolOp_one (wpAny_mono h2 (fun v s₂ q => by obtain ⟨h', tk, rfl, rfl, F', N'⟩ := q; exact hq h' tk F' N') fun _ _ e => e)
  · exact hq s'.heap s'.toks F N

def ansElt : Expr :=
  (PySem.Expr.BoolOp (op := PySem.BoolOp.Or) (values := [
    (PySem.Expr.Compare (left := (PySem.Expr.Name "answer" ⟨39, 12, 39, 18⟩)) (ops := [PySem.CmpOp.Is]) (comparators := [(PySem.Expr.Constant (PySem.Const.bool true) 0 ⟨39, 22, 39, 26⟩)]) (pos := ⟨39, 12, 39, 26⟩)),
    (PySem.Expr.Compare (left := (PySem.Expr.Name "answer" ⟨39, 30, 39, 36⟩)) (ops := [PySem.CmpOp.Is]) (comparators := [(PySem.Expr.Constant (PySem.Const.bool false) 0 ⟨39, 40, 39, 45⟩)]) (pos := ⟨39, 30, 39, 45⟩))]) (pos := ⟨39, 12, 39, 45⟩))
def ansScope : Scope := { kind := PySem.ScopeKind.function, names := [(PySem.Str.ofString ".0", PySem.NameKind.local), (PySem.Str.ofString "answer", PySem.NameKind.local)], isGenerator := false, isCoroutine := false, more := [] }
theorem ans_name {C : Addr} {oC : Obj} {m₂ : Str → Option Value} {c : Bool} {pos : Pos} {led : List (Addr × Obj)} (N : News h₀ L s.heap led) (hm : (C, oC) ∈ led) (hC : LCg.NsObj oC m₂) (hx : m₂ (Str.ofString "answer") = some (.bool c)) (h : Q (.bool c) s) :
    wpAny (model prog w) A (eval (.Name (Str.ofString "answer") pos) (compEnvC ansScope cl C env)) Q E s := LCgL.ld_own N hm hC hx h
theorem ans_elt {C : Addr} {oC : Obj} {m₂ : Str → Option Value} {c : Bool} {led : List (Addr × Obj)} (N : News h₀ L s.heap led) (hm : (C, oC) ∈ led) (hC : LCg.NsObj oC m₂) (hx : m₂ (Str.ofString "answer") = some (.bool c)) (h : Q (.bool true) s) :
    wpAny (model prog w) A (eval ansElt (compEnvC ansScope cl C env)) Q E s := by
  refine BoolOp_or ?_
  refine wpAny_Compare1 (ans_name N hm hC hx (Constant_bool (is_bool ?_)))
  refine wpAny_truthy_bool ?_
  cases c
  · refine BoolOp_one ?_
    exact wpAny_Compare1 (ans_name N hm hC hx (Constant_bool (is_bool h)))
  · exact h
theorem ans_rest {n : Nat} {S : List (Addr × Obj) → Prop} {P : Nat → Value → Prop} (hS : S news) (hP : ∀ i v, i < n → P i v → ∃ c, v = .bool c) (fin : Fin (List.replicate n (.bool true)) news) :
    LCg.CompRest prog w A h₀ L m env ansElt (Str.ofString "answer") ansScope cl s S P Fin n 0 [] news := by
  have key : ∀ (j i : Nat), i + j = n → LCg.CompRest prog w A h₀ L m env ansElt (Str.ofString "answer") ansScope cl s S P Fin j i (List.replicate i (.bool true)) news := by
    intro j
    induction j with
    | zero =>
      intro i hi
      have : i = n := by omega
      subst this
      exact LCg.CompRest.zero fin
    | succ j ih =>
      intro i hi
      refine LCg.CompRest.succ ?_
      intro v I oI C oC D m₂ h tk E' hv hC hx F N off ne
      obtain ⟨c, rfl⟩ := hP i v (by omega) hv
      refine ans_elt (s := { s with heap := h, toks := tk }) N (.tail _ (.head _)) hC hx ?_
      refine ⟨h, tk, news, rfl, F, N, off, hS, ?_⟩
      have z := ih (i + 1) (by omega)
      rw [List.replicate_succ'] at z
      exact z
  exact key n 0 (by omega)
theorem off1_mem {D : Addr} : ∀ {l : List (Addr × Obj)}, LCg.Off1 D l → ∀ p ∈ l, p.1 ≠ D
  | [], _, _, h => nomatch h
  | _ :: _, x, p, h => by
    rcases List.mem_cons.mp h with rfl | h
    · exact x.1
    · exact off1_mem x.2 p h
theorem ans_comp {ip px pos : Pos} {ax : Addr} {bs : List Bool} {its : Array Value} {k : Nat} (F₀ : Fr h₀ L s.heap m) (hh : A.handled = none) (N : News h₀ L s.heap news) (hm : (ax, ({ cls := .type "list", data := .seq its k } : Obj)) ∈ news) (hits : its.toList = bs.map Value.bool) {n : Nat} (hn : bs.length = n) (hsz : n ≤ 1000)
    (hi : wpAny (model prog w) A (eval (.Name (Str.ofString "told") ip) env) (fun v s' => v = .ref ax ∧ s' = s) E s)
    (hq : ∀ D h' tk', Fr h₀ L h' m → News h₀ L h' ((D, LCg.lst (List.replicate n (.bool true))) :: news) → (∀ p ∈ news, p.1 ≠ D) → Q (.ref D) { s with heap := h', toks := tk' }) :
    wpAny (model prog w) A (eval (.ListComp ansElt [⟨.Name (Str.ofString "answer") px, .Name (Str.ofString "told") ip, [], 0⟩] ansScope pos) env) Q E s := by
  refine LCg.ListComp_U (cl := []) F₀ rfl (by decide) rfl (by decide) rfl (wpAny_mono hi (fun v s' q => ?_) fun _ _ e => e)
  obtain ⟨rfl, rfl⟩ := q
  subst hn
  have hlen : its.size = bs.length := by rw [← Array.length_toList, hits, List.length_map]
  refine LCg.CompSrc.ledger hh F₀ N hm (by rw [hlen]; exact Nat.le_trans hsz (by decide)) fun g => ?_
  rw [hlen]
  refine ans_rest (.inr ⟨_, hm, rfl, _, rfl⟩) (fun i v hi' hv => ?_) ?_
  · have hv' : its.toList[i]? = some v := by rw [Array.getElem?_toList]; exact hv
    rw [hits, List.getElem?_map] at hv'
    cases hb : bs[i]? with
    | none => rw [hb] at hv'; cases hv'
    | some c => rw [hb] at hv'; exact ⟨c, (Option.some.inj hv').symm⟩
  · intro D h tk F N' off
    exact hq D h tk F N' (off1_mem off)
end
end Mine
end

section
open PySem PySem.W PyProof.Rows PySem.Calls
namespace Mine
set_option maxRecDepth 100000

/-- a range stands there, and all else as it stood -/
def RangeIn (h₀ : Heap) (L : Addr) (m : Str → Option Value) (s : Shared) (n : Nat) (led : List (Addr × Obj)) (xv : Value) (s₁ : Shared) : Prop :=
  ∃ r t u v h tk, xv = .ref r ∧ s₁ = { s with heap := h, toks := tk } ∧ IsRange h r 0 (n : Int) 1 t u v ∧ Fr h₀ L h m ∧ News h₀ L h led
theorem RangeIn.intro {h₀ : Heap} {L : Addr} {m : Str → Option Value} {s : Shared} {n : Nat} {led : List (Addr × Obj)} {r : Addr} {t u v : Tok} {h : Heap} {tk : Nat} (R : IsRange h r 0 (n : Int) 1 t u v) (F : Fr h₀ L h m) (N : News h₀ L h led) :
    RangeIn h₀ L m s n led (.ref r) { s with heap := h, toks := tk } := ⟨r, t, u, v, h, tk, rfl, rfl, R, F, N⟩

/-- a turn's end: the next turn's word holds -/
def LEnd (h₀ : Heap) (L I : Addr) (it : Obj) (os : OsState) (word : (Str → Option Value) → List (Addr × Obj) → Prop) (f : Flow) (s₃ : Shared) : Prop :=
  f = .next ∧ ∃ m' led', word m' led' ∧ (∀ p ∈ led', p.1 ≠ I) ∧ Fr h₀ L s₃.heap m' ∧ News h₀ L s₃.heap ((I, it) :: led') ∧ AllBare s₃.gens ∧ s₃.os = os

section
variable {prog : Program} {w : World} {A : Around} {E : Value → Shared → Prop} {s : Shared} {h₀ : Heap} {env : Env} {m₀ : Str → Option Value} {led₀ : List (Addr × Obj)}
theorem range_loop {x : Str} {px pos : Pos} {iter : Expr} {body : List Stmt} {n : Nat} {Q : Flow → Shared → Prop} (_F₀ : Fr h₀ env.locals s.heap m₀) (_N₀ : News h₀ env.locals s.heap led₀) (inv : Nat → (Str → Option Value) → List (Addr × Obj) → Prop)
    (hh : A.handled = none) (hx : env.kindOf x = some .local) (hp : (env.scope.kind == .class || (env.scope.kind == .module && env.locals != env.globals)) = false)
    (hsmall : Builtin.Range.small 0 (n : Int) 1 = true) (hsize : Builtin.Range.rangeSize 0 (n : Int) 1 = (n : Int))
    (hE : PassesOwn (model prog w) A env E) (hs : ∀ x, foldedSetIterable iter env x = pure x)
    (G : AllBare s.gens) (h0 : inv 0 m₀ led₀)
    (hiter : wpAny (model prog w) A (eval iter env) (RangeIn h₀ env.locals m₀ s n led₀) E s)
    (step : ∀ (i : Nat) m led (I : Addr) (s' : Shared) t, i < n → inv i m led → AllBare s'.gens → s'.os = s.os → (∀ p ∈ led, p.1 ≠ I) → Fr h₀ env.locals s'.heap (fun y => if y = x then some (.int (i : Int) t) else m y) →
      News h₀ env.locals s'.heap ((I, itR ((i + 1 : Nat) : Int) ((n : Int) - ((i + 1 : Nat) : Int))) :: led) →
      wpAny (model prog w) A (execs body env) (LEnd h₀ env.locals I (itR ((i + 1 : Nat) : Int) ((n : Int) - ((i + 1 : Nat) : Int))) s.os (inv (i + 1))) E s')
    (fin : ∀ m led (s' : Shared), inv n m led → Fr h₀ env.locals s'.heap m → News h₀ env.locals s'.heap led → AllBare s'.gens → s'.os = s.os → Q .next s') :
    wpAny (model prog w) A (exec (.For (.Name x px) iter body [] pos) env) Q E s := by
  refine wpAny_For (wpAny_mono hiter (fun xv s₁ h₁ => ?_) fun _ _ e => e) hs
  obtain ⟨r, t, u, v, h, tk, rfl, rfl, R, F, N⟩ := h₁
  refine wpAny_pyIter_range R hsmall ?_
  have W : Walks prog w A h.objs.size [h.objs.size] [h.objs.size] n (fun i v => ∃ t, v = .int (0 + i * 1) t) (fun i g => IsRangeIter g h.objs.size (0 + (i : Nat) * 1) ((n : Int) - (i : Nat)) 1) := Walks.range hh _ 0 1 n
  have hnew : h₀.get? h.objs.size = none := next_is_new F
  have hLI : env.locals ≠ h.objs.size := Nat.ne_of_lt F.ns.lt
  have up : ∀ (o : Obj) b o', h.get? b = some o' → (h.push o).get? b = some o' := fun o b o' e => Heap.get?_push_of_some _ e
  refine codeAny_forLoop (R := fun r s' => match r with | .ok f => Q f s' | .error e => cameBackBy (model prog w) A env E e s')
    (fun k s' => ∃ i m led, k = n + 1 - i ∧ i ≤ n ∧ inv i m led ∧ (∀ p ∈ led, p.1 ≠ h.objs.size) ∧ IsRangeIter s'.heap h.objs.size (0 + (i : Nat) * 1) ((n : Int) - (i : Nat)) 1 ∧ Fr h₀ env.locals s'.heap m ∧ News h₀ env.locals s'.heap led ∧ AllBare s'.gens ∧ s'.os = s.os)
    ?_ (n + 1) ⟨0, m₀, led₀, rfl, Nat.zero_le _, h0, fun p hp => Nat.ne_of_lt (Heap.lt_size (N p hp).1), ?_, F.push _, N.grown (up _), G, rfl⟩
  · rintro k s' ⟨i, m, led, rfl, hi, hinv, hoff, st, F', N', G', os'⟩
    have next : ∀ h₁ : Heap, (∀ b o, b ∉ [h.objs.size] → s'.heap.get? b = some o → h₁.get? b = some o) → Fr h₀ env.locals h₁ m ∧ News h₀ env.locals h₁ led := fun h₁ hk₁ =>
      ⟨⟨F'.ns.at' fun o e => hk₁ _ o (by simpa using hLI) e, fun b o e => hk₁ b o (fun q => by rw [List.mem_singleton.mp q, hnew] at e; cases e) (F'.keep b o e), F'.above⟩,
        fun p hp => ⟨hk₁ _ _ (by simpa using hoff p hp) (N' p hp).1, (N' p hp).2⟩⟩
    by_cases hlt : i < n
    · refine W.item i _ _ _ hlt st fun v h₁ tk₁ hP st₁ hk₁ => ?_
      obtain ⟨t', rfl⟩ := hP
      obtain ⟨F₁, N₁⟩ := next h₁ hk₁
      refine wpAny_assign_Name (wpAny_storeName_local hx F₁.ns (fun h₂ hn₂ hs₂ => ?_) hp)
      have F₂ := F₁.set hn₂ hs₂
      have st₂ : h₂.get? h.objs.size = some (itR ((i + 1 : Nat) : Int) ((n : Int) - ((i + 1 : Nat) : Int))) := by
        have q : h₁.get? h.objs.size = some (itR (0 + ((i + 1 : Nat) : Int) * 1) ((n : Int) - ((i + 1 : Nat) : Int))) := st₁
        rw [Int.mul_one, Int.zero_add] at q
        exact (hs₂.2 _ (Ne.symm hLI)).trans q
      have e1 : (0 : Int) + (i : Int) * 1 = (i : Int) := by omega
      rw [e1] at F₂
      have z := step i m led h.objs.size { s' with heap := h₂, toks := tk₁ + 1 } t' hlt hinv G' os' hoff F₂ (fun p hp => by
        rcases List.mem_cons.mp hp with rfl | hp
        · exact ⟨st₂, Ne.symm hLI, hnew⟩
        · exact (N₁.set hs₂) p hp)
      refine wpAny_mono (wpAny_passesOwn hE z) (fun f s₃ q => ?_) fun _ _ e => e
      obtain ⟨rfl, m', led', hinv', hoff', F₃, N₃, G₃, os₃⟩ := q
      refine ⟨n + 1 - (i + 1), by omega, i + 1, m', led', rfl, hlt, hinv', hoff', ?_, F₃, fun p hp => N₃ _ (.tail _ hp), G₃, os₃⟩
      have q : s₃.heap.get? h.objs.size = some (itR ((i + 1 : Nat) : Int) ((n : Int) - ((i + 1 : Nat) : Int))) := (N₃ _ (.head _)).1
      show s₃.heap.get? h.objs.size = some (itR (0 + ((i + 1 : Nat) : Int) * 1) ((n : Int) - ((i + 1 : Nat) : Int)))
      rw [Int.mul_one, Int.zero_add]
      exact q
    · have hin : i = n := by omega
      subst hin
      refine W.done _ _ _ st fun h₁ tk₁ hk₁ => wpAny_execs_nil ?_
      obtain ⟨F₁, N₁⟩ := next h₁ hk₁
      exact fin m led _ hinv F₁ N₁ G' os'
  · show (h.push _).get? h.objs.size = some (itR (0 + ((0 : Nat) : Int) * 1) ((n : Int) - ((0 : Nat) : Int)))
    rw [Heap.get?_push_size _ rfl, hsize]
    simp [itR]
end
end Mine
end

section
open PySem PySem.W PyProof.Rows PySem.Calls
namespace Mine
set_option maxRecDepth 100000
theorem b_canLayAll0 : ∀ bs : List Bool, PyData.canLayAll0 (bs.map PyData.bool) = true
  | [] => rfl
  | _ :: r => by simp [PyData.canLayAll0, PyData.canLay0, b_canLayAll0 r]
theorem b_depthAll : ∀ bs : List Bool, PyData.depthAll (bs.map PyData.bool) = 0
  | [] => rfl
  | _ :: r => by simp [PyData.depthAll, PyData.depth, b_depthAll r]
theorem b_shaped (bs : List Bool) : SeqAt.shaped (.list (bs.map PyData.bool)) = true := by
  simp [SeqAt.shaped, PyData.canLay0, PyData.depth, b_canLayAll0, b_depthAll]
theorem b_sameAll : ∀ bs : List Bool, PySem.Spec.sameAll (bs.map PyData.bool) (bs.map PyData.bool) = true
  | [] => by simp [PySem.Spec.sameAll]
  | a :: r => by simp [PySem.Spec.sameAll, PySem.Spec.same, b_sameAll r]
theorem b_same (bs : List Bool) : PySem.Spec.same (.list (bs.map PyData.bool)) (.list (bs.map PyData.bool)) = true := by
  simp only [PySem.Spec.same]; exact b_sameAll bs
theorem b_carried : ∀ bs : List Bool, CarriedAll (bs.map Value.bool) (bs.map PyData.bool)
  | [] => .nil
  | b :: r => .cons (.bool b) (b_carried r)
section
variable {prog : Program} {w : World} {A : Around} {E : Value → Shared → Prop} {s : Shared} {a b : Addr} {xs ys : Array Value} {Q : Value → Shared → Prop}
theorem eq_bools (bs : List Bool) (ha : s.heap.IsList a xs) (hb : s.heap.IsList b ys) (hx : xs.toList = bs.map Value.bool) (hy : ys.toList = bs.map Value.bool) (hu : A.units + 64 < cLine) (h : Q (.bool true) s) :
    wpAny (model prog w) A (compareOp .Eq (.ref a) (.ref b)) Q E s := by
  have ex : xs = (bs.map Value.bool).toArray := by rw [← hx]
  have ey : ys = (bs.map Value.bool).toArray := by rw [← hy]
  subst ex ey
  exact eq_dataH_same (reads_newData ha (b_carried bs)) (reads_newData hb (b_carried bs)) (b_shaped _) (b_shaped _) hu (SeqAt.noMix_of_shape (.list .bool) rfl _ _ (list_map_has fun _ => rfl) (list_map_has fun _ => rfl)) (by rw [b_same]; exact h)
end
section
variable {prog : Program} {w : World} {A : Around} {E : Value → Shared → Prop} {s : Shared} {h₀ : Heap} {L D b : Addr} {m : Str → Option Value} {news news' : List (Addr × Obj)} {n n2 : Nat} {Q : Value → Shared → Prop}
theorem ext_bools {bs : List Bool} {c1 c2 c3 : Bool} (F : Fr h₀ L s.heap m) (N : News h₀ L s.heap news) (hb : (b, listOf #[.bool c1, .bool c2, .bool c3] n2) ∈ news)
    (U : Upd D (listOf (bs.map Value.bool).toArray n) (listOf ((bs ++ [c1, c2, c3]).map Value.bool).toArray (n + 1)) news news') (hlen : bs.length ≤ 100)
    (h : ∀ h', Fr h₀ L h' m → News h₀ L h' news' → Q .none { s with heap := h' }) : wpAny (model prog w) A (call (.builtin "list.extend") [.ref D, .ref b]) Q E s := by
  have hsz : (bs.map Value.bool).toArray.size = bs.length := by simp
  have hl : sizeLine = 16777216 := PySem.sizeLine_eq
  refine kl_extend F N hb (l := (bs ++ [c1, c2, c3]).map Value.bool) (by simp) (by simp) U ?_ ?_ ?_ h
  · have h3 : Builtin.List.listTooLong ((bs.map Value.bool).toArray.size + (#[Value.bool c1, Value.bool c2, Value.bool c3] : Array Value).size) = false := by
      unfold Builtin.List.listTooLong
      rw [hsz]
      exact decide_eq_false (by simp; omega)
    rw [h3, Bool.and_false]
    exact Bool.false_ne_true
  · simp; omega
  · rw [hsz]; simp; omega
end
end Mine
end

section
open PySem PySem.W PyProof.Rows
namespace Mine
local macro_rules | `(tactic| walk_at "call ref") => `(tactic| (k_here; (with_reducible show wpAny _ _ (call (Value.ref 63) [Value.ref _, Value.int _ _]) _ _ _); k_dflt ((refine' textL ?my1k1 ?my1k2 ?my1k3 ?my1k4 ?my1k5 ?my1kK ?my1l1 ?my1l2 ?my1l3 ?my1kp ?my1kd ?my1ku ?_); (case my1k1 => k_asm); (case my1k2 => k_asm); (case my1k3 => k_asm); (case my1k4 => k_asm); (case my1k5 => k_asm); (case my1kK => first | exact rfl | assumption); (case my1l1 => k_asm); (case my1l2 => assumption); (case my1l3 => first | assumption | omega); (case my1kp => (first | omega | decide | l_fact)); (case my1kd => first | decide | ktr_room); (case my1ku => first | decide | ktr_units); intro x9 t9 h9 tk9 ln9 kn9 F9 N9; (try dsimp only); (try k_fold))))
local macro_rules | `(tactic| walk_at "call ref") => `(tactic| (k_here; (with_reducible show wpAny _ _ (call (Value.ref 70) [Value.str _ _]) _ _ _); k_dflt ((refine' cap_rule ?my2k1 ?my2k2 ?my2k3 ?my2k4 ?my2k5 ?my2kK ?my2kp ?my2kd ?my2ku ?_); (case my2k1 => k_asm); (case my2k2 => k_asm); (case my2k3 => k_asm); (case my2k4 => k_asm); (case my2k5 => k_asm); (case my2kK => first | exact rfl | assumption); (case my2kp => omega); (case my2kd => first | decide | ktr_room); (case my2ku => first | decide | ktr_units); intro t9 h9 tk9 F9 N9; (try dsimp only); (try k_fold))))
local macro_rules | `(tactic| walk_at "call ref") => `(tactic| (k_here; (with_reducible show wpAny _ _ (call (Value.ref 77) [Value.str _ _]) _ _ _); k_dflt ((refine' dig_rule ?my3k1 ?my3k2 ?my3k3 ?my3k4 ?my3k5 ?my3kK ?my3kp ?my3kd ?my3ku ?_); (case my3k1 => k_asm); (case my3k2 => k_asm); (case my3k3 => k_asm); (case my3k4 => k_asm); (case my3k5 => k_asm); (case my3kK => first | exact rfl | assumption); (case my3kp => omega); (case my3kd => first | decide | ktr_room); (case my3ku => first | decide | ktr_units); intro t9 h9 tk9 F9 N9; (try dsimp only); (try k_fold))))
local macro_rules | `(tactic| walk_at "call ref") => `(tactic| (k_here; k_dflt ((first | (with_reducible show wpAny _ _ (call (Value.ref 44) [Value.str _ _]) _ _ _); (refine' acrL1 ?my4k1 ?my4k2 ?my4k3 ?my4k4 ?my4k5 ?my4kK ?my4kU ?my4kt ?my4kG ?my4kp ?my4kx ?my4kd ?my4ku ?_) | (with_reducible show wpAny _ _ (call (Value.ref 44) [Value.str _ _, Value.bool Bool.false]) _ _ _); (refine' acrLF ?my4k1 ?my4k2 ?my4k3 ?my4k4 ?my4k5 ?my4kK ?my4kU ?my4kt ?my4kG ?my4kp ?my4kx ?my4kd ?my4ku ?_) | (with_reducible show wpAny _ _ (call (Value.ref 44) [Value.str _ _, Value.bool Bool.true]) _ _ _); (refine' acrLT ?my4k1 ?my4k2 ?my4k3 ?my4k4 ?my4k5 ?my4kK ?my4kU ?my4kt ?my4kG ?my4kp ?my4kx ?my4kd ?my4ku ?_)); (case my4k1 => k_asm); (case my4k2 => k_asm); (case my4k3 => k_asm); (case my4k4 => k_asm); (case my4k5 => k_asm); (case my4kK => first | exact rfl | assumption); (case my4kU => (intro ps9; k_upd)); (case my4kt => assumption); (case my4kG => assumption); (case my4kp => assumption); (case my4kx => assumption); (case my4kd => first | decide | ktr_room); (case my4ku => first | decide | ktr_units); intro s9 ps9 F9 N9 tr9 G9 os9; (try dsimp only); (try k_fold))))
local macro_rules | `(tactic| walk_at "BEnd") => `(tactic| k_dflt (exact BEnd.intro (by assumption) (by assumption)))
local macro_rules | `(tactic| walk_at "eval BoolOp") => `(tactic| (k_here; (with_reducible show wpAny _ _ (eval (Expr.BoolOp BoolOp.Or [Expr.Name _ _, Expr.Call _ _ _ _] _) _) _ _ _); k_dflt ((refine' or_rule ?my6kF ?my6kN ?my6kh ?_ (fun h9 tk9 F9 N9 => ?_)); (case my6kF => k_asm); (case my6kN => k_asm); (case my6kh => exact ld (by k_asm) (by rfl) ⟨rfl, rfl⟩); kcf_last)))
local macro_rules | `(tactic| walk_at "RangeIn") => `(tactic| k_dflt (exact RangeIn.intro (by assumption) (by assumption) (by assumption)))
local macro_rules | `(tactic| walk_at "call builtin:list.extend") => `(tactic| (k_here; (with_reducible show wpAny _ _ (call (Value.builtin _) [Value.ref _, Value.ref _]) _ _ _); k_dflt ((refine' ext_bools ?my7a ?my7b ?my7c ?my7d ?my7e ?_); (case my7a => k_asm); (case my7b => k_asm); (case my7c => k_mem); (case my7d => k_upd); (case my7e => omega); intro h' F' N'; (try dsimp only at N'))))
/-- a goal that the walk leaves alone -/
def Hold (P : Prop) : Prop := P
theorem hold {P : Prop} (h : Hold P) : P := h
local macro_rules | `(tactic| walk_at "exec For Name Call cons nil") => `(tactic| refine hold ?_)
def canonF (a b l : Addr) (m : Str → Option Value) : Str → Option Value := fun y => if y = Str.ofString "told" then some (.ref a) else if y = Str.ofString "due" then some (.ref b) else if y = Str.ofString "script" then some (.ref l) else m y
theorem canon_eq {a b l : Addr} {m : Str → Option Value} (h1 : m (Str.ofString "told") = some (.ref a)) (h2 : m (Str.ofString "due") = some (.ref b)) (h3 : m (Str.ofString "script") = some (.ref l)) : m = canonF a b l m := by
  funext y
  unfold canonF
  split
  · rename_i h; rw [h]; exact h1
  · split
    · rename_i h; rw [h]; exact h2
    · split
      · rename_i h; rw [h]; exact h3
      · rfl
def boolsO (bs : List Bool) (k : Nat) : Obj := listOf (bs.map Value.bool).toArray k
def LawInv (a b l : Addr) (i : Nat) (m : Str → Option Value) (led : List (Addr × Obj)) : Prop :=
  ∃ (bs : List Bool) (k1 k2 : Nat) (ps : Array Value) (u : Str → Option Value), m = canonF a b l u ∧ led = [(b, boolsO bs k1), (a, boolsO bs k2), (39, tabO ps)] ∧ bs.length = 3 * i ∧ TriplesOk ps.toList
theorem lend_close {h₀ : Heap} {L I a b l : Addr} {it : Obj} {os : OsState} {i k1 k2 : Nat} {bs : List Bool} {c1 c2 c3 : Bool} {ps : Array Value} {m : Str → Option Value} {led : List (Addr × Obj)} {s₃ : Shared}
    (F : Fr h₀ L s₃.heap m) (N : News h₀ L s₃.heap led) (h1 : m (Str.ofString "told") = some (.ref a)) (h2 : m (Str.ofString "due") = some (.ref b)) (h3 : m (Str.ofString "script") = some (.ref l))
    (hb : (b, listOf ((bs ++ [c1, c2, c3]).map Value.bool).toArray k1) ∈ led) (ha : (a, listOf ((bs ++ [c1, c2, c3]).map Value.bool).toArray k2) ∈ led) (ht : (39, tabO ps) ∈ led) (hI : (I, it) ∈ led)
    (hlen : bs.length = 3 * i) (htr : TriplesOk ps.toList) (o1 : @Ne Nat b I) (o2 : @Ne Nat a I) (o3 : @Ne Nat 39 I) (G : AllBare s₃.gens) (hos : s₃.os = os) : LEnd h₀ L I it os (LawInv a b l (i + 1)) .next s₃ := by
  refine ⟨rfl, m, [(b, boolsO (bs ++ [c1, c2, c3]) k1), (a, boolsO (bs ++ [c1, c2, c3]) k2), (39, tabO ps)], ⟨bs ++ [c1, c2, c3], k1, k2, ps, m, canon_eq h1 h2 h3, rfl, ?_, htr⟩, ?_, F, fun p hp => N p ?_, G, hos⟩
  · rw [List.length_append]
    show bs.length + 3 = 3 * (i + 1)
    omega
  · intro p hp
    rcases List.mem_cons.mp hp with rfl | hp
    · exact o1
    · rcases List.mem_cons.mp hp with rfl | hp
      · exact o2
      · rcases List.mem_cons.mp hp with rfl | hp
        · exact o3
        · cases hp
  · rcases List.mem_cons.mp hp with rfl | hp
    · exact hI
    · rcases List.mem_cons.mp hp with rfl | hp
      · exact hb
      · rcases List.mem_cons.mp hp with rfl | hp
        · exact ha
        · rcases List.mem_cons.mp hp with rfl | hp
          · exact ht
          · cases hp
local macro_rules | `(tactic| walk_at "eval ListComp") => `(tactic| (k_here; k_dflt ((refine' ans_comp ?my8a ?my8b ?my8c ?my8d ?my8e ?my8f ?my8g ?my8h ?_); (case my8a => k_asm); (case my8b => rfl); (case my8c => k_asm); (case my8h => exact ld (by k_asm) (by rfl) ⟨rfl, rfl⟩); (case my8d => k_mem); (case my8e => rfl); (case my8f => assumption); (case my8g => decide); intro D9 h9 tk9 F9 N9 off9; (try dsimp only); (try k_fold))))
local macro_rules | `(tactic| walk_at "compareOp Eq ref ref") => `(tactic| (k_here; (with_reducible show wpAny _ _ (compareOp CmpOp.Eq (Value.ref _) (Value.ref _)) _ _ _); k_dflt ((first | (refine' eq_bools (List.replicate 18 true) ?my9a ?my9b ?my9c ?my9d ?my9e ?_; (case my9a => first | is_list | exact News.isList (by k_asm) (by k_mem)); (case my9b => first | is_list | exact News.isList (by k_asm) (by k_mem)); (case my9c => rfl); (case my9d => rfl); (case my9e => ke_room)) | (refine' eq_bools _ ?my10a ?my10b ?my10c ?my10d ?my10e ?_; (case my10a => first | is_list | exact News.isList (by k_asm) (by k_mem)); (case my10b => first | is_list | exact News.isList (by k_asm) (by k_mem)); (case my10c => rfl); (case my10d => rfl); (case my10e => ke_room))))))
theorem oldK_tab {h h' : Heap} {ps : Array Value} {K39 : h.get? 39 = some (tabO #[])} (h43 : h.get? 43 = some acrCode) (K : ∀ b o, b ≠ 39 → h.get? b = some o → h'.get? b = some o) (N : h'.get? 39 = some (tabO ps)) : OldK h h' := by
  refine ⟨fun b o e => ?_, fun b o e => ?_⟩
  · by_cases hb : b = 39
    · subst hb
      have e₀ : o = tabO #[] := Option.some.inj (e.symm.trans K39)
      subst e₀
      exact .inr (.inl ⟨(tableAt_of h43 K39).isCodeTable, rfl, #[], ps, rfl, by rw [Array.empty_append]; exact N⟩)
    · exact .inl (K b o hb e)
  · by_cases hb : b = 39
    · subst hb; exact ⟨_, N⟩
    · exact ⟨o, K b o hb e⟩
theorem good_true {c : ClaimW} {cl : Str → Option Addr} {mean : ExcName → Option Value} {args : List WData} {s₁ s' : Shared} (hr : ∀ cls, c.raises args cls = false) (hp : c.post args (.bool true) args = true)
    (hK : OldK s₁.heap s'.heap) (ho : s'.os = s₁.os) (hG : AllBare s'.gens) : GoodWG c cl mean args s₁ (.ok (.ret (.bool true))) s' :=
  ⟨.inl ⟨.bool true, .bool true, [], rfl, hr, .bool _, hp, fun _ => ⟨List.nodup_nil, fun a ha => by cases ha⟩⟩, hK, ho, hG⟩
set_option maxRecDepth 100000 in
set_option maxHeartbeats 8000000 in
theorem law_walk : Asked hd := by
  w_on
  k_with_none
  unfold Asked
  k_fill
  intro w s₀ s₁ mg mb G Y fa o pm cd doc dV kV ho hdd hcd hD hmg hg args vals as hpre hlay hrd hwl hlo
  have KX := kIn_of Y.1
  have K39 := Y.2
  lge_behind G ho hdd hcd hD hmg hpre hlay hrd hwl hlo cd
  rename Below _ _ _ _ => K0
  rename News _ _ _ _ => N0
  clear K0 N0
  rename Top _ _ _ _ _ _ => T
  rename Fr _ _ _ _ => F
  rename IntsAre _ _ => hI
  rename Heap.IsList _ _ _ => hL
  have F2 : Fr (noTab s₁.heap) s₁.heap.objs.size _ _ := ⟨F.ns, fun b o e => F.keep b o (noTab_back b o e), by rw [noTab_size]; exact F.above⟩
  have N2 : News (noTab s₁.heap) s₁.heap.objs.size _ [(39, tabO #[])] := fun p hp => by
    rcases List.mem_cons.mp hp with rfl | hp
    · exact ⟨F.keep _ _ K39, Nat.ne_of_lt (Heap.lt_size K39), noTab_39 _⟩
    · cases hp
  have T2 := noTab_top K39 KX T
  have X2 := noTab_in K39 KX
  have B2 := below_caller (noTab s₁.heap)
  have L2 := noTab_list K39 hL
  have G2 : AllBare s₁.gens := AllBare.of_eq hg
  have tr2 : TriplesOk (#[] : Array Value).toList := trivial
  have h43 : s₁.heap.get? 43 = some acrCode := KX _ _ (by k_is)
  have off2 : ∀ b o, b ≠ 39 → s₁.heap.get? b = some o → (noTab s₁.heap).get? b = some o := fun b o hb e => by rw [noTab_off hb]; exact e
  have len2 := IntsAre.length hI
  clear F T hL
  clear KX
  try k_fold
  k_steps
  unfold Hold
  rename_i a h5 la b h4 lb D h3 lD h2 h1 h0 F3 N3
  have N4 : News (noTab s₁.heap) s₁.heap.objs.size _ [(b, boolsO [] 0), (a, boolsO [] 0), (39, tabO #[])] := cb_drop N3 (by
    intro p hp
    rcases List.mem_cons.mp hp with rfl | hp
    · exact .tail _ (.head _)
    · rcases List.mem_cons.mp hp with rfl | hp
      · exact .tail _ (.tail _ (.head _))
      · rcases List.mem_cons.mp hp with rfl | hp
        · exact .tail _ (.tail _ (.tail _ (.head _)))
        · cases hp)
  clear N3
  refine range_loop (n := 6) F3 N4 (LawInv a b _) rfl rfl rfl (by decide) (by decide) (by passes_own) (by intro _; rfl) G2 ⟨[], 0, 0, #[], _, canon_eq rfl rfl rfl, rfl, rfl, trivial⟩ ?hiter ?step ?fin
  case hiter =>
    try k_fold
    k_steps
  case fin =>
    intro m led s' hinv hF hN hG hos
    obtain ⟨bs, k1, k2, ps, u, rfl, rfl, hlen, htr⟩ := hinv
    have hlen18 : bs.length = 18 := by omega
    clear F3 N4
    dsimp only [canonF, boolsO] at hF hN
    dsimp only
    try k_fold
    k_steps
    refine good_true ?_ ?_ ?_ ?_ ?_
    · exact raisesW_false (by wrow_none_raised)
    · exact postW_of (by wrow_shape) (by wtm_val) (by str_meet; first | done | w_fin)
    · rename Fr _ _ _ _ => F7
      rename News _ _ _ _ => N7
      exact oldK_tab (K39 := K39) h43 (fun b o hb e => F7.keep b o (off2 b o hb e)) (N7.get (by k_mem))
    · exact hos
    · exact hG
  case step =>
    intro i m led I s' t hi hinv hG hos hoff hF hN
    obtain ⟨bs, k1, k2, ps, u, rfl, rfl, hlen, htr⟩ := hinv
    have o1 : @Ne Nat b I := hoff _ (.head _)
    have o2 : @Ne Nat a I := hoff _ (.tail _ (.head _))
    have o3 : @Ne Nat 39 I := hoff _ (.tail _ (.tail _ (.head _)))
    clear hoff F3 N4
    dsimp only [canonF, boolsO] at hF hN
    try k_fold
    k_steps
    k_dflt (exact lend_close (by assumption) (by assumption) rfl rfl rfl (by k_mem) (by k_mem) (by k_mem) (by k_mem) hlen (by assumption) o1 o2 o3 (by assumption) (Eq.trans (by assumption) (Eq.trans (by assumption) (Eq.trans (by assumption) (by assumption)))))
end Mine
end

open PySem PySem.W PyProof.Rows Mine
theorem PySem.Challenge.cw_db5019_01_holds : PySem.Challenge.rw_db5019_01.Holds := by
  exact hd law_walk
