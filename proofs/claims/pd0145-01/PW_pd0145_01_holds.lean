import PyProof.Rows.All
import Wide.All
import OpenK.AllK
import Wide.FinOn
import Lean
import PySem.Challenge.RW_pd0145_01
open PySem PySem.W PyProof.Rows
set_option Elab.async false
set_option maxRecDepth 100000
set_option maxHeartbeats 8000000
namespace Mine
/-- the top's view: the statements that the head holds -/
def vw : Program := { PySem.Challenge.rw_pd0145_01.row.prog with main := { PySem.Challenge.rw_pd0145_01.row.prog.main with body := [0, 2, 4, 6, 7, 9, 11, 13, 14, 15, 16, 17, 18, 19, 20, 22, 25, 27, 28, 29, 30, 31, 32, 33, 34].filterMap fun i => PySem.Challenge.rw_pd0145_01.row.prog.main.body[i]? } }

set_option hygiene false in
local macro_rules | `(tactic| o_head $H) => `(tactic| (refine holds_open (q := vw) (loose := [PySem.Str.ofString "_initial_missing", PySem.Str.ofString "reduce"]) (Xt := fun s => xlAt vw [] s && recOk (RowW.records (OpenRow.toRowW PySem.Challenge.rw_pd0145_01.row)) s) (XP := XL vw []) (Yf := Hook.obs $H) (Ya := Hook.val $H) (YP := Hook.says $H) (N := 2814) ?hl (Hook.of $H) (Hook.keeps $H) (fun s e => xl_of s (Bool.and_eq_true_iff.mp e).1) XL.keeps (by rfl) (by rfl) (by rfl) (fun s e => recFacts_of (Bool.and_eq_true_iff.mp e).2) (by rfl) (by first | assumption | decide +kernel) (by decide +kernel) ⟨rfl, rfl, rfl, rfl, rfl, by decide +kernel⟩ ?hw ?hc; (case hl => (intro w; kernel_rfl))))

open_top hd for PySem.Challenge.rw_pd0145_01
end Mine

namespace Mine
abbrev AA (dp un : Nat) (fr : Option (List Env)) (gd : Option (List Code)) : Around := { handled := none, depth := dp, frames := fr, guards := gd, units := un }

/-- what a call of a def gives: it keeps the whole heap, hands back r, has made tl -/
abbrev Sp (w : World) (f : Addr) (vs : List Value) (dd uu : Nat) (Pre : Heap → Prop) (Ret : Value → List (Addr × Obj) → Prop) : Prop :=
  ∀ (loose : List Str) (mean : ExcName → Option Value) (mg mb : Str → Option Value) (dp un : Nat) (fr : Option (List Env)) (gd : Option (List Code)) (R : Result → Shared → Prop) (s : Shared),
    (hd.heap_39 w.params).In s.heap → Top topProg loose mean mg mb s.heap → Pre s.heap → dp + dd < recursionLimit → un + uu < cLine →
    (∀ r tl h' tk', Ret r tl → (∀ b o, s.heap.get? b = some o → h'.get? b = some o) → (∀ p ∈ tl, h'.get? p.1 = some p.2 ∧ s.heap.get? p.1 = none) → R (.ok (.ret r)) { s with heap := h', toks := tk' }) →
    codeAny (model Challenge.rw_pd0145_01.row.prog w) (AA dp un fr gd) (.call (.ref f) ⟨vs, []⟩) R s

section
variable {prog : Program} {w : World} {K : Frag} {A : Around} {s : Shared} {R : Result → Shared → Prop} {name qual : Str} {params : Arguments} {body : List Stmt} {scope : Scope} {dV kV doc pm cdv ct oc : Value}
  {an od : Option Addr} {osl : Array (Option Value)} {f : Addr} {args : Args} {binds : List (Str × Value)} {p : Program} {loose : List Str} {mean : ExcName → Option Value} {mg mb : Str → Option Value}

theorem enter (X : K.In s.heap) (T : Top p loose mean mg mb s.heap)
    (ho : K.lookup f = some ⟨oc, od, .func (fnOf name qual params body scope dV kV doc pm an cdv ct), osl⟩) (hcd : codeIn K cdv qual = true) (hroom : A.depth < recursionLimit)
    (hbind : BindsTo s (fnOf name qual params body scope dV kV doc pm an cdv ct) args binds) (hloc : ∀ y ∈ binds, scope.names.lookup y.1 = some .local)
    (h : ∀ L' h₁, Fr s.heap L' h₁ (fun y => binds.reverse.lookup y) → News s.heap L' h₁ [] →
      wpAny (model prog w) (A.deeper (envOf qual scope L' f cdv)) (execs body (envOf qual scope L' f cdv))
        (fun fl s' => R (.ok (.ret (match fl with | .ret v => v | _ => .none))) s') (fun _ _ => False) { s with heap := h₁, toks := s.toks + binds.length })
    (hco : scope.isCoroutine = false) (hgen : scope.isGenerator = false) (hk : scope.kind = .function)
    (hcell : ∀ x ∈ scope.names, x.2 ≠ .cell) : codeAny (model prog w) A (.call (.ref f) args) R s := by
  refine codeAny_call_def (fd := fnOf name qual params body scope dV kV doc pm an cdv ct) (body := body) (binds := binds) hroom (X _ _ ho) rfl T.nolimit (codeRec_of X hcd) rfl hbind hcell hloc (fun h₁ hns hk₁ => ?_) hco hgen hk
  exact wpAny_mono (h s.heap.objs.size h₁ ⟨hns, hk₁, Nat.le_refl _⟩ News.nil) (fun _ _ x => x) (fun _ _ x => x.elim)

end

/-- a contract taken at a call -/
theorem Sp.use {w : World} {f : Addr} {vs : List Value} {dd uu : Nat} {Pre : Heap → Prop} {Ret : Value → List (Addr × Obj) → Prop} (C : Sp w f vs dd uu Pre Ret)
    {loose : List Str} {mean : ExcName → Option Value} {mg mb : Str → Option Value} {dp un : Nat} {fr : Option (List Env)} {gd : Option (List Code)} {h₀ : Heap} {L : Addr} {m : Str → Option Value} {news : List (Addr × Obj)} {s : Shared} {Q E : Value → Shared → Prop}
    (F : Fr h₀ L s.heap m) (X : (hd.heap_39 w.params).In h₀) (N : News h₀ L s.heap news) (T : Top topProg loose mean mg mb h₀) (pre : Pre s.heap) (hd1 : dp + dd < recursionLimit) (hu1 : un + uu < cLine)
    (h : ∀ r tl h' tk', Ret r tl → Fr h₀ L h' m → News h₀ L h' (tl ++ news) → (∀ p ∈ tl, ∀ q ∈ news, q.1 ≠ p.1) → (∀ b o, s.heap.get? b = some o → h'.get? b = some o) → Q r { s with heap := h', toks := tk' }) :
    wpAny (model Challenge.rw_pd0145_01.row.prog w) (AA dp un fr gd) (call (.ref f) vs) Q E s := by
  refine wpAny_call (C loose mean mg mb dp un fr gd _ s (X.keeps F.keep) (T.keeps F.keep) pre hd1 hu1 fun r tl h' tk' hr hk ht => ?_)
  have F' : Fr h₀ L h' m := F.keeps hk
  refine h r tl h' tk' hr F' (fun p hp => ?_) (fun p hp q hq e => ?_) hk
  · rcases List.mem_append.mp hp with hp | hp
    · obtain ⟨h1, h2⟩ := ht p hp
      refine ⟨h1, fun e => ?_, ?_⟩
      · obtain ⟨oL, es, ep, hL, _⟩ := F.ns
        rw [e, hL] at h2; cases h2
      · cases q : h₀.get? p.1 with
        | none => rfl
        | some o => have := F.keep _ _ q; rw [h2] at this; cases this
    · exact ⟨hk _ _ (N p hp).1, (N p hp).2⟩
  · have h1 := (N q hq).1
    rw [e, (ht p hp).2] at h1; cases h1

theorem ret1 {h₀ h' : Heap} {L a : Addr} {o : Obj} {news : List (Addr × Obj)} (N : News h₀ L h' ((a, o) :: news)) : ∀ p ∈ [(a, o)], h'.get? p.1 = some p.2 ∧ h₀.get? p.1 = none :=
  fun p hp => by
    have e := List.mem_singleton.mp hp
    subst e
    exact ⟨(N _ (.head _)).1, (N _ (.head _)).2.2⟩
theorem ret2 {h₀ h' : Heap} {L a a' : Addr} {o o' : Obj} {news : List (Addr × Obj)} (N : News h₀ L h' ((a, o) :: (a', o') :: news)) : ∀ p ∈ [(a, o), (a', o')], h'.get? p.1 = some p.2 ∧ h₀.get? p.1 = none :=
  fun p hp => by
    rcases List.mem_cons.mp hp with e | hp
    · subst e
      exact ⟨(N _ (.head _)).1, (N _ (.head _)).2.2⟩
    · have e := List.mem_singleton.mp hp
      subst e
      exact ⟨(N _ (.tail _ (.head _))).1, (N _ (.tail _ (.head _))).2.2⟩
abbrev tupOf (its : List Value) : Obj := { cls := .type "tuple", data := .seq its.toArray }

/-- a name of the frame laid open -/
theorem see {h₀ h : Heap} {L : Addr} {m : Str → Option Value} {k : Str} {v : Option Value} (F : Fr h₀ L h m) (e : m k = v) : Fr h₀ L h (fun y => if y = k then v else m y) := by
  have : (fun y => if y = k then v else m y) = m := by
    funext y
    by_cases hy : y = k
    · rw [if_pos hy, hy, e]
    · rw [if_neg hy]
  rw [this]; exact F

/-! plain facts about the bytes functions of the model, on lists -/
section
open Builtin
theorem ext_eq (l : List UInt8) (i : Nat) : (l.toArray.extract i (i + 1) == #[47]) = (l[i]? == some 47) := by
  by_cases h : i < l.length
  · have h2 : l.toArray.extract i (i + 1) = #[l[i]] := by
      apply Array.ext'
      simp only [Array.toList_extract, List.extract_eq_take_drop]
      rw [show i + 1 - i = 1 by omega, List.drop_eq_getElem_cons h]
      rfl
    rw [h2, List.getElem?_eq_getElem h]
    by_cases hx : l[i] = 47
    · rw [hx]; rfl
    · have e1 : (#[l[i]] == (#[47] : Array UInt8)) = false := by simp [hx]
      rw [e1]; simp [hx]
  · have h2 : l.toArray.extract i (i + 1) = #[] := by
      apply Array.ext'
      simp only [Array.toList_extract, List.extract_eq_take_drop]
      rw [List.drop_eq_nil_of_le (by omega)]
      simp
    rw [h2, List.getElem?_eq_none (by omega)]
    rfl

def tailLen (l : List UInt8) : Nat := (l.reverse.takeWhile (· != 47)).length
def baseB (l : List UInt8) : List UInt8 := (l.reverse.takeWhile (· != 47)).reverse
def dirB (l : List UInt8) : List UInt8 := (l.reverse.dropWhile (· != 47)).reverse
theorem dir_base (l : List UInt8) : dirB l ++ baseB l = l := by
  unfold dirB baseB
  rw [← List.reverse_append, List.takeWhile_append_dropWhile, List.reverse_reverse]
theorem base_len (l : List UInt8) : (baseB l).length = tailLen l := by simp [baseB, tailLen]
theorem tail_le (l : List UInt8) : tailLen l ≤ l.length := by
  have := congrArg List.length (dir_base l)
  rw [List.length_append, base_len] at this
  omega
theorem dir_len (l : List UInt8) : (dirB l).length = l.length - tailLen l := by
  have := congrArg List.length (dir_base l)
  rw [List.length_append, base_len] at this
  omega
theorem take_dir (l : List UInt8) : l.take (l.length - tailLen l) = dirB l := by
  conv => lhs; arg 2; rw [← dir_base l]
  rw [← dir_len, List.take_left]
theorem drop_base (l : List UInt8) : l.drop (l.length - tailLen l) = baseB l := by
  conv => lhs; arg 2; rw [← dir_base l]
  rw [← dir_len, List.drop_left]

def lastAt (l : List UInt8) : Option Nat := (List.range l.length).reverse.find? fun i => l[i]? == some 47
theorem tailLen_snoc (r : List UInt8) (x : UInt8) : tailLen (r ++ [x]) = if x = 47 then 0 else tailLen r + 1 := by
  unfold tailLen
  rw [List.reverse_append]
  by_cases hx : x = 47
  · simp [hx]
  · simp [hx]
theorem find_congr {p q : Nat → Bool} : ∀ {l : List Nat}, (∀ i ∈ l, p i = q i) → l.find? p = l.find? q
  | [], _ => rfl
  | x :: r, h => by
    have h1 := h x (.head _)
    have h2 := find_congr (l := r) fun i hi => h i (.tail _ hi)
    simp only [List.find?_cons, h1, h2]
theorem lastAt_snoc (r : List UInt8) (x : UInt8) : lastAt (r ++ [x]) = if x = 47 then some r.length else lastAt r := by
  unfold lastAt
  rw [List.length_append, List.length_singleton, List.range_succ, List.reverse_append]
  simp only [List.reverse_singleton, List.singleton_append, List.find?_cons]
  have h0 : (r ++ [x])[r.length]? = some x := by simp
  rw [h0]
  by_cases hx : x = 47
  · simp [hx]
  · simp only [hx, if_false]
    have : (some x == some (47 : UInt8)) = false := by simp [hx]
    rw [this]
    refine find_congr fun i hi => ?_
    have hi' : i < r.length := by simpa using hi
    rw [List.getElem?_append_left hi']
theorem lastAt_eq (l : List UInt8) : (match lastAt l with | some i => (i : Int) | none => -1) = (l.length : Int) - tailLen l - 1 := by
  induction hn : l.length generalizing l with
  | zero =>
    have : l = [] := List.length_eq_zero_iff.mp hn
    subst this; rfl
  | succ n ih =>
    rcases List.eq_nil_or_concat l with rfl | ⟨r, x, rfl⟩
    · cases hn
    · rw [List.concat_eq_append] at *
      have hr : r.length = n := by simpa using hn
      have := ih r hr
      rw [lastAt_snoc, tailLen_snoc]
      by_cases hx : x = 47
      · simp only [hx, if_true]; omega
      · simp only [hx, if_false]; omega
theorem rfind_raw (l : List UInt8) : ((if (l.toArray.size : Int) - 0 < ((#[47] : Array UInt8).size : Int) then none else some ((0 : Int).toNat, (l.toArray.size : Int).toNat)).bind
      fun x => match x with | (lo, hi) => if true = true then Bytes.rfind? l.toArray #[47] lo hi else Bytes.find? l.toArray #[47] lo hi) = lastAt l := by
  cases l with
  | nil => rfl
  | cons y r =>
    have h1 : ¬ (((y :: r).toArray.size : Int) - 0 < ((#[47] : Array UInt8).size : Int)) := by simp; omega
    rw [if_neg h1]
    simp only [Option.bind_some, if_true]
    unfold Bytes.rfind? lastAt
    have e : (Int.toNat 0) = 0 := rfl
    have e1 : ((#[47] : Array UInt8).size) = 1 := rfl
    have e2 : ((((y :: r).toArray.size : Nat) : Int).toNat + 1 - (0 + 1)) = (y :: r).length := by simp
    rw [e, e1, e2]
    simp only [Nat.add_zero, List.map_id_fun', id_eq]
    exact find_congr fun i _ => ext_eq _ i

def rstripB (l : List UInt8) : List UInt8 := (l.reverse.dropWhile (· == 47)).reverse
theorem contains47 : (#[47] : Array UInt8).contains = fun x => x == 47 := by
  funext x
  simp [Array.contains]
theorem rstrip_full {l : List UInt8} (h : (rstripB l).length = l.length) : rstripB l = l := by
  have e : l = rstripB l ++ (l.reverse.takeWhile (· == 47)).reverse := by
    unfold rstripB
    rw [← List.reverse_append, List.takeWhile_append_dropWhile, List.reverse_reverse]
  have h2 := congrArg List.length e
  rw [List.length_append, h] at h2
  have h3 : (l.reverse.takeWhile (· == 47)).reverse = [] := List.length_eq_zero_iff.mp (by omega)
  rw [h3, List.append_nil] at e
  exact e.symm
theorem rstrip_le (l : List UInt8) : (rstripB l).length ≤ l.length := by
  unfold rstripB
  rw [List.length_reverse, ← List.length_reverse (as := l)]
  exact (List.dropWhile_sublist _).length_le

/-- the pieces between slashes -/
def splitB : List UInt8 → List (List UInt8)
  | [] => [[]]
  | x :: r => if x = 47 then [] :: splitB r else match splitB r with | [] => [[x]] | p :: ps => (x :: p) :: ps
theorem splitB_ne (l : List UInt8) : splitB l ≠ [] := by
  cases l with
  | nil => simp [splitB]
  | cons x r =>
    unfold splitB
    split
    · simp
    · split <;> simp

def placesL : Nat → List UInt8 → List Nat
  | _, [] => []
  | k, x :: r => if x = 47 then k :: placesL (k + 1) r else placesL (k + 1) r
theorem placesL_snoc (x : UInt8) : ∀ (k : Nat) (r : List UInt8), placesL k (r ++ [x]) = placesL k r ++ (if x = 47 then [k + r.length] else [])
  | k, [] => by simp only [List.nil_append, placesL]; split <;> rfl
  | k, y :: r => by
    have ih := placesL_snoc x (k + 1) r
    simp only [List.cons_append, placesL, ih]
    have e : k + 1 + r.length = k + (y :: r).length := by simp; omega
    rw [e]
    split <;> simp
theorem occ_raw (l : List UInt8) : Bytes.occurrences l.toArray #[47] 0 l.toArray.size = placesL 0 l := by
  unfold Bytes.occurrences
  have e1 : ((#[47] : Array UInt8).size) = 1 := rfl
  have e2 : l.toArray.size + 1 - (0 + 1) = l.length := by simp
  simp only [e1, e2, Nat.add_zero, List.map_id_fun', id_eq, ext_eq]
  have key : ∀ n, n ≤ l.length → ∃ m, m ≤ n ∧ (List.range n).foldl (fun (acc : List Nat × Nat) i => if (decide (i ≥ acc.2) && l[i]? == some 47) = true then (i :: acc.1, i + 1) else acc) ([], 0) = ((placesL 0 (l.take n)).reverse, m) := by
    intro n
    induction n with
    | zero => intro _; exact ⟨0, Nat.le_refl _, by simp [placesL]⟩
    | succ n ih =>
      intro hn
      obtain ⟨m, hm, e⟩ := ih (by omega)
      rw [List.range_succ, List.foldl_append, e]
      simp only [List.foldl_cons, List.foldl_nil]
      have hlt : n < l.length := by omega
      have ht : l.take (n + 1) = l.take n ++ [l[n]] := by rw [List.take_add_one, List.getElem?_eq_getElem hlt]; rfl
      rw [ht, placesL_snoc, List.getElem?_eq_getElem hlt]
      have hd : decide (n ≥ m) = true := by simpa using hm
      rw [hd, Bool.true_and]
      by_cases hx : l[n] = 47
      · refine ⟨n + 1, Nat.le_refl _, ?_⟩
        have : (some l[n] == some (47 : UInt8)) = true := by simp [hx]
        rw [if_pos this, if_pos hx]
        have hl : (l.take n).length = n := by simp; omega
        simp [hl]
      · refine ⟨m, by omega, ?_⟩
        have : ¬ (some l[n] == some (47 : UInt8)) = true := by simp [hx]
        rw [if_neg this, if_neg hx, List.append_nil]
  obtain ⟨m, _, e⟩ := key l.length (Nat.le_refl _)
  rw [e, List.reverse_reverse, List.take_length]
theorem places_len : ∀ (k : Nat) (l : List UInt8), (placesL k l).length ≤ l.length
  | _, [] => Nat.le_refl _
  | k, x :: r => by
    have := places_len (k + 1) r
    unfold placesL
    split <;> simp <;> omega
theorem places_nil : ∀ (k : Nat) (l : List UInt8), placesL k l = [] → splitB l = [l]
  | _, [], _ => rfl
  | k, x :: r, h => by
    unfold placesL at h
    split at h
    · cases h
    · rename_i hx
      have := places_nil (k + 1) r h
      unfold splitB
      rw [if_neg hx, this]
theorem between_raw (l : List UInt8) : ∀ (rest pre : List UInt8) (parts : Array (Array UInt8)) (last : Nat), l = pre ++ rest → last ≤ pre.length →
    (((placesL pre.length rest).foldl (fun (q : Array (Array UInt8) × Nat) p => (q.1.push (l.toArray.extract q.2 p), p + 1)) (parts, last)).1.push
      (l.toArray.extract ((placesL pre.length rest).foldl (fun (q : Array (Array UInt8) × Nat) p => (q.1.push (l.toArray.extract q.2 p), p + 1)) (parts, last)).2 l.toArray.size)).toList
      = parts.toList ++ (match splitB rest with | [] => [] | p :: ps => ((pre.drop last ++ p) :: ps).map List.toArray)
  | [], pre, parts, last, h, hl => by
    rw [List.append_nil] at h
    subst h
    simp only [placesL, List.foldl_nil, splitB, Array.toList_push, List.append_nil, List.map_cons, List.map_nil]
    congr 1
    congr 1
    apply Array.ext'
    simp only [Array.toList_extract, List.extract_eq_take_drop, List.size_toArray, List.toList_toArray]
    exact List.take_of_length_le (by simp)
  | x :: r, pre, parts, last, h, hl => by
    have h' : l = (pre ++ [x]) ++ r := by rw [h]; simp
    have hlen : (pre ++ [x]).length = pre.length + 1 := by simp
    by_cases hx : x = 47
    · have ih := between_raw l r (pre ++ [x]) (parts.push (l.toArray.extract last pre.length)) (pre.length + 1) h' (by omega)
      rw [hlen] at ih
      simp only [placesL, hx, if_true, List.foldl_cons, splitB]
      rw [ih]
      have hd : (pre ++ [x]).drop (pre.length + 1) = [] := List.drop_eq_nil_of_le (by omega)
      rw [hd]
      have hex : l.toArray.extract last pre.length = (pre.drop last).toArray := by
        apply Array.ext'
        rw [h]
        simp only [Array.toList_extract, List.extract_eq_take_drop]
        rw [List.drop_append_of_le_length hl, List.take_append_of_le_length (by simp), List.take_of_length_le (by simp)]
      rw [hex]
      have hne := splitB_ne r
      cases hs : splitB r with
      | nil => exact absurd hs hne
      | cons p ps => simp
    · have ih := between_raw l r (pre ++ [x]) parts last h' (by omega)
      rw [hlen] at ih
      simp only [placesL, hx, if_false, splitB]
      rw [ih]
      have hd : (pre ++ [x]).drop last = pre.drop last ++ [x] := List.drop_append_of_le_length hl
      rw [hd]
      have hne := splitB_ne r
      cases hs : splitB r with
      | nil => exact absurd hs hne
      | cons p ps => simp
theorem between_eq (l : List UInt8) : Bytes.between l.toArray (#[47] : Array UInt8).size (placesL 0 l) = (splitB l).map List.toArray := by
  unfold Bytes.between
  have e1 : ((#[47] : Array UInt8).size) = 1 := rfl
  rw [e1]
  have := between_raw l l [] #[] 0 (by simp) (by simp)
  simp only [List.length_nil] at this
  refine Eq.trans ?_ (this.trans ?_)
  · rfl
  · have hne := splitB_ne l
    cases hs : splitB l with
    | nil => exact absurd hs hne
    | cons p ps => simp

/-- slashes between the parts -/
def joinL : List (List UInt8) → List UInt8
  | [] => []
  | p :: ps => p ++ (ps.map (47 :: ·)).flatten
theorem joined_tail : ∀ (ps : List (List UInt8)) (k : Nat) (out : List UInt8), 0 < k →
    ((ps.map List.toArray).zipIdx k).foldl (fun (out : Array UInt8) (x : Array UInt8 × Nat) => (if x.2 > 0 then out ++ #[47] else out) ++ x.1) out.toArray = (out ++ (ps.map (47 :: ·)).flatten).toArray
  | [], _, out, _ => by simp
  | p :: ps, k, out, hk => by
    have ih := joined_tail ps (k + 1) (out ++ 47 :: p) (by omega)
    simp only [List.map_cons, List.zipIdx_cons, List.foldl_cons, if_pos hk, gt_iff_lt]
    have e : (out.toArray ++ #[47] ++ p.toArray) = (out ++ 47 :: p).toArray := by apply Array.ext'; simp
    rw [e, ih]
    simp
theorem joined_eq (ps : List (List UInt8)) : Bytes.joined #[47] (ps.map List.toArray) = (joinL ps).toArray := by
  unfold Bytes.joined joinL
  cases ps with
  | nil => rfl
  | cons p ps =>
    simp only [List.map_cons, List.zipIdx_cons, List.foldl_cons]
    have := joined_tail ps 1 p (by omega)
    simp only [Nat.lt_irrefl, if_false, gt_iff_lt, Nat.zero_add, Array.empty_append] at this ⊢
    exact this
end

theorem entry_issub : entryFor table "issubclass" = some Builtin.«issubclass» := entryFor_of_tree (by kernel_rfl)
theorem entry_issub_nested : entryFor table "issubclass.nested" = some Builtin.«issubclass.nested» := entryFor_of_tree (by kernel_rfl)
theorem typeOf_str : typeOf (.type "str") = pure (.type "type") := by kernel_rfl
theorem typeOf_bytes : typeOf (.type "bytes") = pure (.type "type") := by kernel_rfl
section
variable {prog : Program} {w : World} {A : Around} {E : Value → Shared → Prop} {h : Heap} {g : Array GenState} {d : Drawn} {t : Nat} {os : OsState} {s : Shared} {b : Array UInt8} {u : Tok}
theorem type_bytes {Q : Value → Shared → Prop} (hq : Q (.type "bytes") ⟨h, g, d, t, os⟩) :
    wpAny (model prog w) A (call (.type "type") [.bytes b u]) Q E ⟨h, g, d, t, os⟩ := by
  refine wpAny_call (codeAny_of_tree ?_)
  show wpAny _ _ (callAny (.type "type") ⟨[.bytes b u], []⟩) _ _ _
  simp only [callAny]
  refine wpAny_pure ⟨Code.quiet_builtin _ (by decide +kernel), codeAny_builtin entry_type_call ?_⟩
  unfold Builtin.«type.__call__»
  dsimp only
  unfold shownTypeOf
  repeat (first | wp_step)
  exact hq

theorem issub_nested_no {Q : Fin → Shared → Prop} {k : Int} {tk : Tok} (hq : Q (.done (.ret (.bool false))) ⟨h, g, d, t, os⟩) :
    wpAny (model prog w) A (Builtin.«issubclass.nested» ⟨[.type "bytes", .type "str", .int k tk], []⟩) Q E ⟨h, g, d, t, os⟩ := by
  have f1 := typeOf_str
  have f2 := F.sub_bytes_str
  have f3 := typeOf_bytes
  repeat (any_goals (first | assumption | wp_step))
theorem issub_nested_yes {Q : Fin → Shared → Prop} {k : Int} {tk : Tok} (hq : Q (.done (.ret (.bool true))) ⟨h, g, d, t, os⟩) :
    wpAny (model prog w) A (Builtin.«issubclass.nested» ⟨[.type "bytes", .type "bytes", .int k tk], []⟩) Q E ⟨h, g, d, t, os⟩ := by
  have f2 := F.sub_bytes_bytes
  have f3 := typeOf_bytes
  repeat (any_goals (first | assumption | wp_step))

theorem code_fn {id : String} {b : Builtin} {args : List Value} {R : Result → Shared → Prop} (hk : builtinKind id = none) (hp : plainId id = true)
    (hb : entryFor table id = some b) (ha : argsOk id ⟨args, []⟩)
    (hc : wpAny (model prog w) A.in1 (b ⟨args, []⟩) (fun fin s' => match fin with
      | .done f => R (.ok f) s'
      | .again c' => c'.quiet = true ∧ codeAny (model prog w) A c' R s') (fun e s' => R (.error e) s') s) :
    codeAny (model prog w) A (.call (.builtin id) ⟨args, []⟩) R s := by
  refine codeAny_call_builtin hp hb ?_
  simp only [checkBuiltinCall, hk]
  cases hsig : Manifest.signature? id with
  | none => exact wpAny_pure hc
  | some sig =>
    simp only [argsOk, hsig] at ha
    have h2 : Bind.checkArgs id sig ⟨args, []⟩ = pure () := ha
    show wpAny _ _ (Bind.checkArgs id sig ⟨args, []⟩) _ _ s
    rw [h2]; exact wpAny_pure hc
theorem issub_kind : builtinKind "issubclass" = none := by decide +kernel
theorem issub_plain : plainId "issubclass" = true := by decide +kernel
theorem issubn_kind : builtinKind "issubclass.nested" = none := by decide +kernel
theorem issubn_plain : plainId "issubclass.nested" = true := by decide +kernel
theorem issub_args (a b : Value) : argsOk "issubclass" ⟨[a, b], []⟩ := by unfold argsOk; kernel_rfl
theorem issubn_args (a b c : Value) : argsOk "issubclass.nested" ⟨[a, b, c], []⟩ := by unfold argsOk; kernel_rfl

theorem issub_nested_tup {Q : Fin → Shared → Prop} {tk : Tok} {tp : Addr} (htp : h.get? tp = some { cls := .type "tuple", data := .seq (#[.type "str", .type "bytes"]) })
    (hq : Q (.done (.ret (.bool true))) ⟨h, g, d, t, os⟩) :
    wpAny (model prog w) A (Builtin.«issubclass.nested» ⟨[.type "bytes", .ref tp, .int 0 tk], []⟩) Q E ⟨h, g, d, t, os⟩ := by
  have hT2 : (⟨h, g, d, t, os⟩ : Shared).TypeIs (.ref tp) "tuple" := ⟨_, htp, rfl⟩
  have f1 := F.isi_sub_tuple
  repeat (any_goals (first | assumption | wp_step))
  refine code_fn issubn_kind issubn_plain entry_issub_nested (issubn_args _ _ _) (issub_nested_no ?_)
  repeat (any_goals (first | assumption | wp_step))
  refine code_fn issubn_kind issubn_plain entry_issub_nested (issubn_args _ _ _) (issub_nested_yes ?_)
  repeat (any_goals (first | assumption | wp_step))

theorem issub_call {Q : Value → Shared → Prop} {tp : Addr} (htp : s.heap.get? tp = some { cls := .type "tuple", data := .seq (#[.type "str", .type "bytes"]) })
    (hq : Q (.bool true) s) :
    wpAny (model prog w) A (call (.builtin "issubclass") [.type "bytes", .ref tp]) Q E s := by
  obtain ⟨h, g, d, t, os⟩ := s
  refine wpAny_call (code_fn issub_kind issub_plain entry_issub (issub_args _ _) ?_)
  refine wpAny_pure (a := Fin.again (.builtin "issubclass.nested" ⟨[.type "bytes", .ref tp, rawInt 0], []⟩)) ⟨plainId_quiet issubn_plain _, codeAny_builtin entry_issub_nested ?_⟩
  rw [Around.under_plainId (id := "issubclass.nested") (by decide +kernel) _]
  exact issub_nested_tup htp hq
end

-- facts of the bytes methods (printed by mkfacts.py)
theorem slot_bytes_rfind : Slot "bytes" "rfind" "bytes.rfind" :=
  .of (owner := "bytes") (n := "rfind") (by rw [typeLookup_type, builtinLookup_eq_fast]; kernel_rfl) (by decide +kernel) (by decide +kernel) (by decide +kernel)
    (by first | exact .inl (by decide +kernel) | exact .inr (by decide +kernel)) (by rw [isSubtype_type]; kernel_rfl)
theorem type_bytes_rfind : typeOf (.builtin "bytes.rfind") = pure (.type "method_descriptor") := by show builtinType _ = _; rw [builtinType_eq_fast]; kernel_rfl
theorem entry_bytes_rfind : entryFor table "bytes.rfind" = some Builtin.«bytes.rfind» := entryFor_of_tree (by kernel_rfl)
theorem args_bytes_rfind (a b : Value) : argsOk "bytes.rfind" ⟨[a, b], []⟩ := by
  unfold argsOk; rw [signature?_of (id := "bytes.rfind") (n := ['d', 'n', 'i', 'f', 'r']) (o := ['s', 'e', 't', 'y', 'b']) (by kernel_rfl) FB.owner_bytes]; kernel_rfl
theorem slot_bytes_rstrip : Slot "bytes" "rstrip" "bytes.rstrip" :=
  .of (owner := "bytes") (n := "rstrip") (by rw [typeLookup_type, builtinLookup_eq_fast]; kernel_rfl) (by decide +kernel) (by decide +kernel) (by decide +kernel)
    (by first | exact .inl (by decide +kernel) | exact .inr (by decide +kernel)) (by rw [isSubtype_type]; kernel_rfl)
theorem type_bytes_rstrip : typeOf (.builtin "bytes.rstrip") = pure (.type "method_descriptor") := by show builtinType _ = _; rw [builtinType_eq_fast]; kernel_rfl
theorem entry_bytes_rstrip : entryFor table "bytes.rstrip" = some Builtin.«bytes.rstrip» := entryFor_of_tree (by kernel_rfl)
theorem args_bytes_rstrip (a b : Value) : argsOk "bytes.rstrip" ⟨[a, b], []⟩ := by
  unfold argsOk; rw [signature?_of (id := "bytes.rstrip") (n := ['p', 'i', 'r', 't', 's', 'r']) (o := ['s', 'e', 't', 'y', 'b']) (by kernel_rfl) FB.owner_bytes]; kernel_rfl
theorem slot_bytes_split : Slot "bytes" "split" "bytes.split" :=
  .of (owner := "bytes") (n := "split") (by rw [typeLookup_type, builtinLookup_eq_fast]; kernel_rfl) (by decide +kernel) (by decide +kernel) (by decide +kernel)
    (by first | exact .inl (by decide +kernel) | exact .inr (by decide +kernel)) (by rw [isSubtype_type]; kernel_rfl)
theorem type_bytes_split : typeOf (.builtin "bytes.split") = pure (.type "method_descriptor") := by show builtinType _ = _; rw [builtinType_eq_fast]; kernel_rfl
theorem entry_bytes_split : entryFor table "bytes.split" = some Builtin.«bytes.split» := entryFor_of_tree (by kernel_rfl)
theorem args_bytes_split (a b : Value) : argsOk "bytes.split" ⟨[a, b], []⟩ := by
  unfold argsOk; rw [signature?_of (id := "bytes.split") (n := ['t', 'i', 'l', 'p', 's']) (o := ['s', 'e', 't', 'y', 'b']) (by kernel_rfl) FB.owner_bytes]; kernel_rfl
theorem slot_bytes_join : Slot "bytes" "join" "bytes.join" :=
  .of (owner := "bytes") (n := "join") (by rw [typeLookup_type, builtinLookup_eq_fast]; kernel_rfl) (by decide +kernel) (by decide +kernel) (by decide +kernel)
    (by first | exact .inl (by decide +kernel) | exact .inr (by decide +kernel)) (by rw [isSubtype_type]; kernel_rfl)
theorem type_bytes_join : typeOf (.builtin "bytes.join") = pure (.type "method_descriptor") := by show builtinType _ = _; rw [builtinType_eq_fast]; kernel_rfl
theorem entry_bytes_join : entryFor table "bytes.join" = some Builtin.«bytes.join» := entryFor_of_tree (by kernel_rfl)
theorem args_bytes_join (a b : Value) : argsOk "bytes.join" ⟨[a, b], []⟩ := by
  unfold argsOk; rw [signature?_of (id := "bytes.join") (n := ['n', 'i', 'o', 'j']) (o := ['s', 'e', 't', 'y', 'b']) (by kernel_rfl) FB.owner_bytes]; kernel_rfl

section
open Builtin
variable {b c : Array UInt8} {l : List UInt8} {t u : Tok}
theorem window_all (n : Nat) : Bytes.window n none none = (0, (n : Int)) := by
  unfold Bytes.window
  simp only [Option.getD_none]
  have h1 : ¬ ((n : Int) < 0) := by omega
  simp only [if_neg h1, Int.lt_irrefl, if_false]
  simp
theorem head_eq (l : List UInt8) : (if (l.toArray.size : Int) - 0 < ((#[47] : Array UInt8).size : Int) then false else l.toArray.extract 0 (0 + (#[47] : Array UInt8).size) == #[47]) = (l.head? == some 47) := by
  cases l with
  | nil => rfl
  | cons x r =>
    have h1 : ¬ (((x :: r).toArray.size : Int) - 0 < ((#[47] : Array UInt8).size : Int)) := by simp; omega
    rw [if_neg h1]
    have h2 : (x :: r).toArray.extract 0 (0 + (#[47] : Array UInt8).size) = #[x] := by simp
    rw [h2]
    by_cases hx : x = 47
    · subst hx; rfl
    · have : (#[x] == (#[47] : Array UInt8)) = false := by simp [hx]
      rw [this]; simp [hx]
theorem last_eq (l : List UInt8) : (if (l.toArray.size : Int) - 0 < ((#[47] : Array UInt8).size : Int) then false else l.toArray.extract (l.toArray.size - (#[47] : Array UInt8).size) l.toArray.size == #[47]) = (l.getLast? == some 47) := by
  rcases List.eq_nil_or_concat l with rfl | ⟨r, x, rfl⟩
  · rfl
  · have h1 : ¬ (((r ++ [x]).toArray.size : Int) - 0 < ((#[47] : Array UInt8).size : Int)) := by simp; omega
    rw [List.concat_eq_append] at *
    rw [if_neg h1]
    have h2 : (r ++ [x]).toArray.extract ((r ++ [x]).toArray.size - (#[47] : Array UInt8).size) (r ++ [x]).toArray.size = #[x] := by simp
    rw [h2]
    by_cases hx : x = 47
    · subst hx; simp
    · have : (#[x] == (#[47] : Array UInt8)) = false := by simp [hx]
      rw [this]; simp [hx]
theorem meets_startswith : Meets («bytes.startswith» ⟨[.bytes l.toArray t, .bytes #[47] u], []⟩) (fun _ R s => R (.ok (.ret (.bool (l.head? == some 47)))) s) := by
  refine .of_wp fun prog w A R s hS => ?_
  have f2 := F.sub_bytes_tuple
  have hT : s.TypeIs (.bytes #[47] u) "bytes" := rfl
  repeat (any_goals (first | assumption | with_reducible refine wpAny_of_eq KBy.buffer_eq ?_ | wp_step))
  refine ⟨_, rfl, ?_⟩
  rw [window_all]
  rw [← head_eq] at hS
  exact hS
theorem meets_endswith : Meets («bytes.endswith» ⟨[.bytes l.toArray t, .bytes #[47] u], []⟩) (fun _ R s => R (.ok (.ret (.bool (l.getLast? == some 47)))) s) := by
  refine .of_wp fun prog w A R s hS => ?_
  have f2 := F.sub_bytes_tuple
  have hT : s.TypeIs (.bytes #[47] u) "bytes" := rfl
  repeat (any_goals (first | assumption | with_reducible refine wpAny_of_eq KBy.buffer_eq ?_ | wp_step))
  refine ⟨_, rfl, ?_⟩
  rw [window_all]
  rw [← last_eq] at hS
  exact hS
end

section
variable {prog : Program} {w : World} {M : Model} {A : Around} {E : Value → Shared → Prop} {s : Shared} {l l' : List UInt8} {t u : Tok}
theorem startswith_b {Q : Value → Shared → Prop} (h : Q (.bool (l.head? == some 47)) s) : wpAny (model prog w) A (call (.builtin "bytes.startswith") [.bytes l.toArray t, .bytes #[47] u]) Q E s :=
  call_meets FB.slot_bytes_startswith (typeIs_bytes _ _ _) FB.entry_bytes_startswith (FB.args_bytes_startswith_2 _ _) meets_startswith h
theorem endswith_b {Q : Value → Shared → Prop} (h : Q (.bool (l.getLast? == some 47)) s) : wpAny (model prog w) A (call (.builtin "bytes.endswith") [.bytes l.toArray t, .bytes #[47] u]) Q E s :=
  call_meets FB.slot_bytes_endswith (typeIs_bytes _ _ _) FB.entry_bytes_endswith (FB.args_bytes_endswith_2 _ _) meets_endswith h
variable {b : Array UInt8} {pl : Sem Bool} {Q : Value × List Value → Shared → Prop}
theorem gm_startswith (h : Q (.builtin "bytes.startswith", [.bytes b t]) s) : wpAny M A (getMethod (.bytes b t) "startswith" pl) Q E s := by
  with_reducible exact KBd.method_of (.bytes b t) (typeIs_bytes _ _ _) FB.slot_bytes_startswith FB.type_bytes_startswith KBd.noRef h
theorem gm_endswith (h : Q (.builtin "bytes.endswith", [.bytes b t]) s) : wpAny M A (getMethod (.bytes b t) "endswith" pl) Q E s := by
  with_reducible exact KBd.method_of (.bytes b t) (typeIs_bytes _ _ _) FB.slot_bytes_endswith FB.type_bytes_endswith KBd.noRef h
theorem gm_rfind (h : Q (.builtin "bytes.rfind", [.bytes b t]) s) : wpAny M A (getMethod (.bytes b t) "rfind" pl) Q E s := by
  with_reducible exact KBd.method_of (.bytes b t) (typeIs_bytes _ _ _) slot_bytes_rfind type_bytes_rfind KBd.noRef h
theorem gm_rstrip (h : Q (.builtin "bytes.rstrip", [.bytes b t]) s) : wpAny M A (getMethod (.bytes b t) "rstrip" pl) Q E s := by
  with_reducible exact KBd.method_of (.bytes b t) (typeIs_bytes _ _ _) slot_bytes_rstrip type_bytes_rstrip KBd.noRef h
theorem gm_split (h : Q (.builtin "bytes.split", [.bytes b t]) s) : wpAny M A (getMethod (.bytes b t) "split" pl) Q E s := by
  with_reducible exact KBd.method_of (.bytes b t) (typeIs_bytes _ _ _) slot_bytes_split type_bytes_split KBd.noRef h
theorem gm_join (h : Q (.builtin "bytes.join", [.bytes b t]) s) : wpAny M A (getMethod (.bytes b t) "join" pl) Q E s := by
  with_reducible exact KBd.method_of (.bytes b t) (typeIs_bytes _ _ _) slot_bytes_join type_bytes_join KBd.noRef h
end

/-- a list's values are these bytes -/
def BytesAre : List Value → List (List UInt8) → Prop
  | [], [] => True
  | v :: vs, p :: ps => (∃ t, v = .bytes p.toArray t) ∧ BytesAre vs ps
  | _, _ => False
theorem BytesAre.length : ∀ {vs : List Value} {ps : List (List UInt8)}, BytesAre vs ps → vs.length = ps.length
  | [], [], _ => rfl
  | _ :: vs, _ :: ps, h => by simp [BytesAre.length h.2]
theorem BytesAre.append : ∀ {vs vs' : List Value} {ps ps' : List (List UInt8)}, BytesAre vs ps → BytesAre vs' ps' → BytesAre (vs ++ vs') (ps ++ ps')
  | [], _, [], _, _, h => h
  | _ :: _, _, _ :: _, _, h, h' => ⟨h.1, BytesAre.append h.2 h'⟩
theorem BytesAre.one {p : List UInt8} {t : Tok} : BytesAre [.bytes p.toArray t] [p] := ⟨⟨t, rfl⟩, trivial⟩
theorem BytesAre.get : ∀ {vs : List Value} {ps : List (List UInt8)} (i : Nat) {p : List UInt8}, BytesAre vs ps → ps[i]? = some p → ∃ t, vs[i]? = some (.bytes p.toArray t)
  | _ :: _, _ :: _, 0, _, h, e => by
    obtain ⟨⟨t, rfl⟩, _⟩ := h
    cases e
    exact ⟨t, rfl⟩
  | _ :: _, _ :: _, i + 1, _, h, e => BytesAre.get i h.2 e
  | [], [], _, _, _, e => by cases e
  | [], _ :: _, _, _, h, _ => h.elim
  | _ :: _, [], _, _, h, _ => h.elim
theorem BytesAre.get' : ∀ {vs : List Value} {ps : List (List UInt8)} (i : Nat) {v : Value}, BytesAre vs ps → vs[i]? = some v → ∃ p t, ps[i]? = some p ∧ v = .bytes p.toArray t
  | _ :: _, p :: _, 0, _, h, e => by
    obtain ⟨⟨t, rfl⟩, _⟩ := h
    cases e
    exact ⟨p, t, rfl, rfl⟩
  | _ :: _, _ :: _, i + 1, _, h, e => BytesAre.get' i h.2 e
  | [], _, _, _, _, e => by cases e
  | _ :: _, [], _, _, h, _ => h.elim

section
open Builtin
variable {l : List UInt8} {t u : Tok}
theorem meets_rfind : Meets («bytes.rfind» ⟨[.bytes l.toArray t, .bytes #[47] u], []⟩) (fun _ R s => ∀ t' k, R (.ok (.ret (.int ((l.length : Int) - tailLen l - 1) t'))) { s with toks := k }) := by
  refine .of_wp fun prog w A R s hS => ?_
  have hT : s.TypeIs (.bytes #[47] u) "bytes" := rfl
  repeat (any_goals (first | assumption | with_reducible refine wpAny_of_eq KBy.buffer_eq ?_ | wp_step))
  rw [window_all, rfind_raw]
  have e := lastAt_eq l
  cases hl : lastAt l with
  | some i =>
    rw [hl] at e
    dsimp only at e
    rw [← e] at hS
    exact wpAny_bind (wpAny_mkInt (wpAny_pure ⟨_, rfl, hS _ _⟩))
  | none =>
    rw [hl] at e
    dsimp only at e
    rw [← e] at hS
    exact wpAny_bind (wpAny_rule (wpAny_bind (wpAny_mkInt (wpAny_pure ⟨_, rfl, hS _ _⟩))))
theorem meets_rstrip (hz : l.length ≤ 16777216) : Meets («bytes.rstrip» ⟨[.bytes l.toArray t, .bytes #[47] u], []⟩) (fun _ R s => ∀ t' k, R (.ok (.ret (.bytes (rstripB l).toArray t'))) { s with toks := k }) := by
  refine .of_wp fun prog w A R s hS => ?_
  have hT : s.TypeIs (.bytes #[47] u) "bytes" := rfl
  repeat (any_goals (first | assumption | with_reducible refine wpAny_of_eq KBy.buffer_eq ?_ | wp_step))
  simp only [if_true, Bool.false_eq_true, if_false, contains47]
  show wpAny _ _ (if ((rstripB l).length == l.toArray.size) = true then _ else _) _ _ _
  by_cases hc : ((rstripB l).length == l.toArray.size) = true
  · rw [if_pos hc]
    have e : rstripB l = l := rstrip_full (by simpa using hc)
    refine wpAny_bind (wpAny_rule ?_)
    refine wpAny_bind ?_
    refine wpAny_bind (wpAny_typeOf (typeIs_bytes _ _ _) ?_)
    refine wpAny_pure (wpAny_pure ⟨_, rfl, ?_⟩)
    rw [e] at hS
    exact hS _ _
  · rw [if_neg hc]
    refine wpAny_bind (wpAny_mkBytes (wpAny_pure ⟨_, rfl, hS _ _⟩) ?_)
    have := rstrip_le l
    rw [sizeLine_eq, List.size_toArray]
    exact Nat.le_trans this hz
theorem mapM_new {M : Model} {A : Around} {E : Value → Shared → Prop} : ∀ (ps : List (List UInt8)) (s : Shared) (Q : List Value → Shared → Prop), (∀ p ∈ ps, p.length ≤ 16777216) →
    (∀ vs k, BytesAre vs ps → Q vs { s with toks := k }) → wpAny M A ((ps.map List.toArray).mapM Bytes.Kind.bytes.new) Q E s
  | [], s, Q, _, h => wpAny_pure (h [] s.toks trivial)
  | p :: ps, s, Q, hz, h => by
    rw [List.map_cons, List.mapM_cons]
    refine wpAny_bind (wpAny_mkBytes ?_ (by rw [sizeLine_eq, List.size_toArray]; exact hz p (.head _)))
    refine wpAny_bind (mapM_new ps _ _ (fun q hq => hz q (.tail _ hq)) fun vs k hv => ?_)
    exact wpAny_pure (h _ _ ⟨⟨_, rfl⟩, hv⟩)
theorem splitB_sum : ∀ l : List UInt8, (splitB l).length ≤ l.length + 1 ∧ ∀ p ∈ splitB l, p.length ≤ l.length
  | [] => ⟨by simp [splitB], fun p hp => by simp [splitB] at hp; subst hp; simp⟩
  | x :: r => by
    obtain ⟨h1, h2⟩ := splitB_sum r
    unfold splitB
    split
    · refine ⟨by simp; omega, fun p hp => ?_⟩
      rcases List.mem_cons.mp hp with rfl | hp
      · simp
      · have := h2 p hp; simp; omega
    · split
      · rename_i e; exact absurd e (splitB_ne r)
      · rename_i q qs e
        rw [e] at h1 h2
        refine ⟨by simp at h1 ⊢; omega, fun p hp => ?_⟩
        rcases List.mem_cons.mp hp with rfl | hp
        · have := h2 q (.head _); simp; omega
        · have := h2 p (.tail _ hp); simp; omega
theorem meets_split (hz : l.length ≤ 1000000) : Meets («bytes.split» ⟨[.bytes l.toArray t, .bytes #[47] u], []⟩) (fun _ R s => ∀ vs k, BytesAre vs (splitB l) →
    R (.ok (.ret (.ref s.heap.objs.size))) { s with heap := s.heap.push { cls := .type "list", data := .seq vs.toArray }, toks := k }) := by
  refine .of_wp fun prog w A R s hS => ?_
  have hT : s.TypeIs (.bytes #[47] u) "bytes" := rfl
  repeat (any_goals (first | assumption | with_reducible refine wpAny_of_eq KBy.buffer_eq ?_ | wp_step))
  simp only [Bool.false_eq_true, if_false, occ_raw]
  have e1 : (if (-1 : Int) < 0 then l.toArray.size + 1 else (-1 : Int).toNat) = l.length + 1 := by simp
  rw [e1, List.take_of_length_le (Nat.le_succ_of_le (places_len 0 l))]
  by_cases hc : (placesL 0 l).isEmpty = true
  · rw [if_pos hc]
    have e : splitB l = [l] := places_nil 0 l (by simpa using hc)
    refine wpAny_bind (wpAny_rule ?_)
    refine wpAny_bind ?_
    refine wpAny_bind (wpAny_typeOf (typeIs_bytes _ _ _) ?_)
    refine wpAny_pure ?_
    refine wpAny_bind (wpAny_newObj_type (wpAny_pure ⟨_, rfl, ?_⟩) (by show 1 ≤ sizeLine; rw [sizeLine_eq]; decide))
    exact hS [_] s.toks (by rw [e]; exact BytesAre.one)
  · rw [if_neg hc, between_eq]
    obtain ⟨z1, z2⟩ := splitB_sum l
    refine wpAny_bind (mapM_new _ _ _ (fun p hp => Nat.le_trans (z2 p hp) (by omega)) fun vs k hv => ?_)
    refine wpAny_bind (wpAny_newObj_type (wpAny_pure ⟨_, rfl, hS vs k hv⟩) ?_)
    show vs.toArray.size ≤ sizeLine
    rw [List.size_toArray, hv.length, sizeLine_eq]
    omega
end

section
open Builtin
variable {t : Tok}
theorem buffer_full {id : String} {full : Bool} {b : Array UInt8} {u : Tok} : Bytes.buffer? id (.bytes b u) full = pure (some b) := by
  unfold Bytes.buffer?
  rw [KBy.special_eq KBy.look_buffer, KBy.own_buffer, KBy.own_release]
  kernel_rfl
theorem take_quiet {id : String} {b : Array UInt8} {u : Tok} : Bytes.takeBufferQuiet? id (.bytes b u) 0 = pure (some (b, none)) := by
  have h : Bytes.takeBuffer? id (.bytes b u) 0 = pure (some (b, none)) := by
    unfold Bytes.takeBuffer?
    rw [KBy.special_eq KBy.look_buffer, KBy.own_buffer, buffer_full]
    kernel_rfl
  unfold Bytes.takeBufferQuiet?
  rw [h]
  kernel_rfl
theorem letGo_all {M : Model} {A : Around} {E : Value → Shared → Prop} {keep : List Value} : ∀ (taken : List (Value × Option Value)) (s : Shared) (Q : Unit → Shared → Prop), (∀ q ∈ taken, q.2 = none) → Q () s → wpAny M A (Bytes.joinLetGo taken keep) Q E s
  | [], s, Q, _, h => wpAny_pure h
  | (x, w) :: r, s, Q, hn, h => by
    have hw : w = none := hn _ (.head _)
    subst hw
    unfold Bytes.joinLetGo
    exact wpAny_bind (wpAny_letGo (letGo_all r s Q (fun q hq => hn q (.tail _ hq)) h))
theorem sizes_le : ∀ (ps : List (List UInt8)) (n : Nat), ((ps.map List.toArray).foldl (fun (x1 : Nat) (x2 : Array UInt8) => x1 + x2.size) n) = n + (ps.map List.length).sum
  | [], n => by simp
  | p :: ps, n => by simp only [List.map_cons, List.foldl_cons, sizes_le ps, List.size_toArray, List.sum_cons]; omega
theorem joinL_len : ∀ (ps : List (List UInt8)), (joinL ps).length ≤ ps.length + (ps.map List.length).sum
  | [] => by simp [joinL]
  | p :: ps => by
    have h : ∀ qs : List (List UInt8), ((qs.map (47 :: ·)).flatten).length = qs.length + (qs.map List.length).sum := by
      intro qs
      induction qs with
      | nil => rfl
      | cons q qs ih => simp only [List.map_cons, List.flatten_cons, List.length_append, List.length_cons, List.sum_cons, ih]; omega
    simp only [joinL, List.length_append, h, List.map_cons, List.sum_cons, List.length_cons]
    omega
theorem meets_join {a : Addr} {vs : List Value} {n : Nat} {ps : List (List UInt8)} (hb : BytesAre vs ps) (hz : ps.length + (ps.map List.length).sum ≤ 1000000) :
    Meets («bytes.join» ⟨[.bytes #[47] t, .ref a], []⟩) (fun _ R s => s.heap.get? a = some (listOf vs.toArray n) ∧ ∀ t' k, R (.ok (.ret (.bytes (joinL ps).toArray t'))) { s with toks := k }) := by
  refine .of_wp fun prog w A R s hS => ?_
  obtain ⟨ho, hS⟩ := hS
  have hT : s.TypeIs (.ref a) "list" := ⟨_, ho, rfl⟩
  repeat (any_goals (first | assumption | with_reducible refine wpAny_of_eq KBy.buffer_eq ?_ | wp_step))
  have hseq : ∀ (Q : Option (Array Value) → Shared → Prop) (s' : Shared), s' = s → Q (some vs.toArray) s → wpAny (model prog w) A.in1 (seqItems? (.ref a)) Q (fun e s' => R (.error e) s') s' := by
    intro Q s' e hq
    subst e
    unfold seqItems?
    exact wpAny_bind (wpAny_load ho (wpAny_pure hq))
  rcases vs with _ | ⟨x, _ | ⟨y, r⟩⟩
  · cases ps with
    | cons _ _ => exact hb.elim
    | nil =>
      dsimp only
      refine wpAny_bind ?_
      rw [Std.Legacy.Range.forIn_eq_forIn_range']
      refine wpAny_of_eq (a := (#[], [])) rfl ?_
      dsimp only
      refine wpAny_bind (wpAny_of_eq (a := #[47]) rfl ?_)
      refine wpAny_ite (KBy.ite_no (by decide +kernel) ?_)
      refine wpAny_bind (wpAny_mkBytes ?_ (by decide))
      refine wpAny_bind (wpAny_holding (wpAny_point ?_))
      refine wpAny_bind (letGo_all [] _ _ (fun q hq => nomatch hq) ?_)
      exact wpAny_pure ⟨_, rfl, hS _ _⟩
  · cases ps with
    | nil => exact hb.elim
    | cons p ps =>
      obtain ⟨⟨u, rfl⟩, hr⟩ := hb
      cases ps with
      | cons _ _ => exact hr.elim
      | nil =>
        refine wpAny_bind (wpAny_typeOf (typeIs_bytes _ _ _) ?_)
        refine wpAny_ite (KBc.ite_yes rfl ?_)
        refine wpAny_bind (wpAny_rule (wpAny_pure ⟨_, rfl, ?_⟩))
        have := hS u s.toks
        rw [show (joinL [p]).toArray = p.toArray by simp [joinL]] at this
        exact this
  · refine wpAny_bind ?_
    generalize x :: y :: r = vs at *
    rw [Std.Legacy.Range.forIn_eq_forIn_range']
    simp only [Std.Legacy.Range.size, Nat.sub_zero, Nat.add_sub_cancel, Nat.div_one]
    have hlen : vs.toArray.size = ps.length := by rw [List.size_toArray, hb.length]
    refine wpAny_forIn_list _ (fun rest (q : Array (Array UInt8) × List (Value × Option Value)) s' => ∃ i, rest = List.range' i (vs.toArray.size - i) ∧ i ≤ vs.toArray.size ∧ s' = s ∧ q.1 = ((ps.take i).map List.toArray).toArray ∧ ∀ z ∈ q.2, z.2 = none ∧ z.1.onHeap = false) _ ?turn ?fin _ _ ⟨0, rfl, Nat.zero_le _, rfl, rfl, fun _ h => nomatch h⟩
    case turn =>
      rintro j rest ⟨parts, taken⟩ s' ⟨i, hr, hi, rfl, hp, ht⟩
      dsimp only at hp ht ⊢
      have hlt : i < vs.toArray.size := by
        rcases Nat.lt_or_ge i vs.toArray.size with h | h
        · exact h
        · rw [Nat.sub_eq_zero_of_le h] at hr; cases hr
      have hr' : List.range' i (vs.toArray.size - i) = i :: List.range' (i + 1) (vs.toArray.size - (i + 1)) := by
        rw [show vs.toArray.size - i = (vs.toArray.size - (i + 1)) + 1 by omega]; rfl
      rw [hr'] at hr
      injection hr with hj hrest
      subst hj hrest
      have hplt : j < ps.length := by omega
      obtain ⟨u, hu⟩ := hb.get j (p := ps[j]) (by simp [hplt])
      have hget : vs.toArray.getD j Value.none = .bytes (ps[j]).toArray u := by
        have : vs.toArray[j]? = some (.bytes (ps[j]).toArray u) := by simpa using hu
        simp [Array.getD_eq_getD_getElem?, this]
      refine wpAny_bind (hseq _ _ rfl ?_)
      dsimp only
      have hany : (Bytes.Kind.bytes == Bytes.Kind.bytearray || taken.any fun x => x.fst.onHeap) = false := by
        have h1 : (taken.any fun x => x.fst.onHeap) = false := by
          rw [List.any_eq_false]
          intro z hz
          rw [(ht z hz).2]; exact Bool.false_ne_true
        rw [h1]; rfl
      refine wpAny_ite (KBy.ite_no (by rw [hany]; exact Bool.false_ne_true) ?_)
      rw [hget]
      refine wpAny_bind (wpAny_holding (wpAny_of_eq take_quiet ?_))
      dsimp only
      refine wpAny_bind (hseq _ _ rfl ?_)
      dsimp only
      refine wpAny_ite (KBy.ite_no (by simp) ?_)
      refine wpAny_pure ⟨j + 1, rfl, by omega, rfl, ?_, ?_⟩
      · dsimp only
        rw [hp, List.take_add_one, List.getElem?_eq_getElem hplt]
        apply Array.ext'
        simp only [Array.toList_push, List.map_append, Option.toList, List.map_cons, List.map_nil]
      · intro z hz
        rcases List.mem_append.mp hz with hz | hz
        · exact ht z hz
        · have := List.mem_singleton.mp hz
          subst this
          exact ⟨rfl, rfl⟩
    case fin =>
      rintro ⟨parts, taken⟩ s' ⟨i, hr, hi, rfl, hp, ht⟩
      dsimp only at hp ht ⊢
      have hin : i = vs.toArray.size := by
        rcases Nat.lt_or_ge i vs.toArray.size with h | h
        · rw [show vs.toArray.size - i = (vs.toArray.size - (i + 1)) + 1 by omega] at hr; cases hr
        · omega
      have hp' : parts = (ps.map List.toArray).toArray := by
        rw [hp, hin, hlen, List.take_length]
      subst hp'
      refine wpAny_bind (wpAny_of_eq (a := #[47]) rfl ?_)
      have hsz : Array.foldl (fun x1 x2 => x1 + x2.size) ((#[47] : Array UInt8).size * ((ps.map List.toArray).toArray.size - 1)) (ps.map List.toArray).toArray ≤ 1000000 := by
        rw [List.foldl_toArray' (h := rfl), sizes_le]
        simp
        omega
      refine wpAny_ite (KBy.ite_no (by rw [KBy.tooLong_not (by omega)]; exact Bool.false_ne_true) ?_)
      have hj := joinL_len ps
      rw [joined_eq]
      refine wpAny_bind (wpAny_mkBytes ?_ (by rw [sizeLine_eq, List.size_toArray]; omega))
      refine wpAny_bind (wpAny_holding (wpAny_point ?_))
      refine wpAny_bind (letGo_all _ _ _ (fun q hq => (ht q hq).1) ?_)
      exact wpAny_pure ⟨_, rfl, hS _ _⟩
end

/-- a cut of bytes -/
def cut (l : List UInt8) (lo hi : Option Int) : List UInt8 := (l.drop (lo.elim 0 (clipAt l.length))).take (hi.elim l.length (clipAt l.length) - lo.elim 0 (clipAt l.length))
theorem cut_le (l : List UInt8) (lo hi : Option Int) : (cut l lo hi).length ≤ l.length := by
  unfold cut
  rw [List.length_take, List.length_drop]
  omega
theorem clip_in {n : Nat} {k : Int} (h0 : 0 ≤ k) (h1 : k ≤ n) : clipAt n k = k.toNat := by
  obtain ⟨j, rfl⟩ := Int.eq_ofNat_of_zero_le h0
  rw [clipAt_nat]
  omega
theorem cut_dir (l : List UInt8) : cut l none (some ((l.length : Int) - tailLen l - 1 + 1)) = dirB l := by
  have h := tail_le l
  unfold cut
  simp only [Option.elim]
  rw [clip_in (by omega) (by omega), List.drop_zero, Nat.sub_zero, ← take_dir]
  congr 1
  omega
theorem cut_base (l : List UInt8) : cut l (some ((l.length : Int) - tailLen l - 1 + 1)) none = baseB l := by
  have h := tail_le l
  unfold cut
  simp only [Option.elim]
  rw [clip_in (by omega) (by omega), ← drop_base]
  rw [show ((l.length : Int) - tailLen l - 1 + 1).toNat = l.length - tailLen l by omega]
  exact List.take_of_length_le (by simp)
theorem picked_cut (l : List UInt8) (lo hi : Option Int) : KBy.picked l.toArray lo hi = (cut l lo hi).toArray := by
  rw [KBc.picked_eq]
  simp only [cut, List.size_toArray]

section
variable {prog : Program} {w : World} {A : Around} {E : Value → Shared → Prop} {s : Shared} {value slice : PySem.Expr} {a b l : List UInt8} {t u : Tok} {h₀ : Heap} {L : Addr} {m : PySem.Str → Option Value} {news : List (Addr × Obj)}
theorem add_b {Q : Value → Shared → Prop} (hsz : a.length + b.length ≤ 16777216) (h : ∀ t' k, Q (.bytes (a ++ b).toArray t') { s with toks := k }) :
    wpAny (model prog w) A (binaryOp .Add (.bytes a.toArray t) (.bytes b.toArray u)) Q E s :=
  KBy.add_bytes (by simpa using hsz) fun t' k => by
    have := h t' k
    rwa [show (a ++ b).toArray = a.toArray ++ b.toArray by simp] at this
theorem eq_b {Q : Value → Shared → Prop} (h : Q (.bool (a == b)) s) : wpAny (model prog w) A (compareOp .Eq (.bytes a.toArray t) (.bytes b.toArray u)) Q E s := eq_bytes h
theorem ne_b {Q : Value → Shared → Prop} (h : Q (.bool (a != b)) s) : wpAny (model prog w) A (compareOp .NotEq (.bytes a.toArray t) (.bytes b.toArray u)) Q E s := ne_bytes h
theorem truthy_b {Q : Bool → Shared → Prop} (hz : l.length ≤ 16777216) (h : ∀ k, Q (!l.isEmpty) { s with toks := k }) : wpAny (model prog w) A (truthy (.bytes l.toArray t)) Q E s := by
  refine truthy_bytes (by simp; omega) ?_
  have := h (s.toks + 1 + 1)
  have e : (((l.toArray.size : Nat) : Int) != 0) = !l.isEmpty := by
    cases l with
    | nil => rfl
    | cons x r => simp; omega
  rw [e]; exact this
theorem len_b {Q : Value → Shared → Prop} (hz : l.length ≤ 16777216) (h : ∀ t' k, Q (.int (l.length : Int) t') { s with toks := k }) : wpAny (model prog w) A (call (.builtin "len") [.bytes l.toArray t]) Q E s :=
  len_bytes (by simp; omega) (h _ _)
theorem slice_b {lv uv : Value} {lo hi : Option Int} {Q : Value → Shared → Prop} (hF : Fr h₀ L s.heap m) (hN : News h₀ L s.heap news) (hl : IsPart lv lo) (hu : IsPart uv hi) (hz : l.length ≤ 16777216)
    (h : ∀ h' t' k, Fr h₀ L h' m → News h₀ L h' news → Q (.bytes (cut l lo hi).toArray t') { s with heap := h', toks := k })
    (hs : subscripted slice false (.bytes l.toArray t) (.ref s.heap.objs.size) = operate [.ref s.heap.objs.size, .bytes l.toArray t] (getItem (.bytes l.toArray t) (.ref s.heap.objs.size)) := by with_unfolding_all rfl)
    (ht : ∀ r, letTemporaryGo value (.bytes l.toArray t) r = pure () := by intro _; with_unfolding_all rfl) :
    wpAny (model prog w) A (subscriptTail value slice (.bytes l.toArray t) (.ref s.heap.objs.size)) Q E { s with heap := s.heap.push { cls := .type "slice", data := .fields #[lv, uv, .none] } } :=
  tail_of_ItemOn ⟨"bytes", _, FB.slot_bytes_getitem.lookup, typeIs_bytes _ _ _, getItem_meets (typeIs_bytes _ _ _) (by decide) FB.slot_bytes_getitem FB.entry_bytes_getitem (FB.args_bytes_getitem_2 _ _) (KBc.meets_slice2 l.toArray t _ hl hu)
    ⟨Heap.IsSliceOf.new _ _ _ _, by rw [picked_cut, sizeLine_eq, List.size_toArray]; exact Nat.le_trans (cut_le l lo hi) hz, fun t' k => by rw [picked_cut]; exact h _ _ _ (hF.push _) (News.pushKeep hN _)⟩⟩ hs ht
theorem rfind_b {Q : Value → Shared → Prop} (h : ∀ t' k, Q (.int ((l.length : Int) - tailLen l - 1) t') { s with toks := k }) : wpAny (model prog w) A (call (.builtin "bytes.rfind") [.bytes l.toArray t, .bytes #[47] u]) Q E s :=
  call_meets slot_bytes_rfind (typeIs_bytes _ _ _) entry_bytes_rfind (args_bytes_rfind _ _) meets_rfind h
theorem rstrip_b {Q : Value → Shared → Prop} (hz : l.length ≤ 16777216) (h : ∀ t' k, Q (.bytes (rstripB l).toArray t') { s with toks := k }) : wpAny (model prog w) A (call (.builtin "bytes.rstrip") [.bytes l.toArray t, .bytes #[47] u]) Q E s :=
  call_meets slot_bytes_rstrip (typeIs_bytes _ _ _) entry_bytes_rstrip (args_bytes_rstrip _ _) (meets_rstrip hz) h
theorem split_b {Q : Value → Shared → Prop} (F : Fr h₀ L s.heap m) (N : News h₀ L s.heap news) (hz : l.length ≤ 1000000)
    (h : ∀ a vs h' k, BytesAre vs (splitB l) → Fr h₀ L h' m → News h₀ L h' ((a, listOf vs.toArray 0) :: news) → (∀ p ∈ news, p.1 < a) → Q (.ref a) { s with heap := h', toks := k }) :
    wpAny (model prog w) A (call (.builtin "bytes.split") [.bytes l.toArray t, .bytes #[47] u]) Q E s :=
  call_meets slot_bytes_split (typeIs_bytes _ _ _) entry_bytes_split (args_bytes_split _ _) (meets_split hz) fun vs k hv => h _ vs _ k hv (F.push _) (N.push F _) fun p hp => Heap.lt_size (N p hp).1
theorem join_b {Q : Value → Shared → Prop} {d : Addr} {vs : List Value} {n : Nat} {ps : List (List UInt8)} (hb : BytesAre vs ps) (hz : ps.length + (ps.map List.length).sum ≤ 1000000) (ho : s.heap.get? d = some (listOf vs.toArray n))
    (h : ∀ t' k, Q (.bytes (joinL ps).toArray t') { s with toks := k }) : wpAny (model prog w) A (call (.builtin "bytes.join") [.bytes #[47] t, .ref d]) Q E s :=
  call_meets slot_bytes_join (typeIs_bytes _ _ _) entry_bytes_join (args_bytes_join _ _) (meets_join hb hz) ⟨ho, h⟩
theorem mul_b {n : Int} {Q : Value → Shared → Prop} (hlo : 0 ≤ n) (hn : n ≤ 1048576) (h : ∀ t' k, Q (.bytes (List.replicate n.toNat 47).toArray t') { s with toks := k }) :
    wpAny (model prog w) A (binaryOp .Mult (.bytes #[47] t) (.int n u)) Q E s := by
  refine bytes_mul_any (b := [47]) (by simp) (by omega) hn (by simp) fun t' k => ?_
  have e : (List.replicate n.toNat ([47] : List UInt8)).flatten = List.replicate n.toNat 47 := by
    generalize n.toNat = j
    induction j with
    | zero => rfl
    | succ j ih => rw [List.replicate_succ, List.replicate_succ, List.flatten_cons, ih]; rfl
  rw [e]
  exact h t' k
end

local macro_rules | `(tactic| walk_at "mine:size") => `(tactic| first
  | omega
  | ((simp only [List.length_append, List.length_cons, List.length_nil, List.length_replicate]); omega)
  | (refine Nat.le_trans (cut_le _ _ _) ?_; omega)
  | (refine Nat.le_trans (rstrip_le _) ?_; omega)
  | (refine Nat.le_trans (rstrip_le _) (Nat.le_trans (cut_le _ _ _) ?_); omega)
  | (refine Int.le_trans (Int.ofNat_le.mpr (cut_le _ _ _)) ?_; omega))

local macro_rules | `(tactic| walk_at "binaryOp Add bytes bytes") => `(tactic| (k_here; (with_reducible show wpAny _ _ (binaryOp Operator.Add (Value.bytes (List.toArray _) _) (Value.bytes (List.toArray _) _)) _ _ _); (refine add_b (by walk_at "mine:size") ?_); intro _ _))

local macro_rules | `(tactic| walk_at "binaryOp Mult bytes int") => `(tactic| (k_here; (with_reducible show wpAny _ _ (binaryOp Operator.Mult (Value.bytes (List.toArray _) _) (Value.int _ _)) _ _ _); (refine mul_b (by walk_at "mine:size") (by walk_at "mine:size") ?_); intro _ _))

local macro_rules | `(tactic| walk_at "compareOp Eq bytes bytes") => `(tactic| (k_here; (with_reducible show wpAny _ _ (compareOp CmpOp.Eq (Value.bytes (List.toArray _) _) (Value.bytes (List.toArray _) _)) _ _ _); (refine eq_b ?_)))

local macro_rules | `(tactic| walk_at "compareOp NotEq bytes bytes") => `(tactic| (k_here; (with_reducible show wpAny _ _ (compareOp CmpOp.NotEq (Value.bytes (List.toArray _) _) (Value.bytes (List.toArray _) _)) _ _ _); (refine ne_b ?_)))

local macro_rules | `(tactic| walk_at "truthy bytes") => `(tactic| (k_here; (with_reducible show wpAny _ _ (truthy (Value.bytes (List.toArray _) _)) _ _ _); (refine truthy_b (by walk_at "mine:size") ?_); intro _))

local macro_rules | `(tactic| walk_at "call builtin:len") => `(tactic| (k_here; (with_reducible show wpAny _ _ (call (Value.builtin "len") [Value.bytes (List.toArray _) _]) _ _ _); (refine len_b (by walk_at "mine:size") ?_); intro _ _))

local macro_rules | `(tactic| walk_at "subscriptTail") => `(tactic| (k_here; (with_reducible show wpAny _ _ (subscriptTail _ (Expr.Slice _ _ none _) (Value.bytes (List.toArray _) _) (Value.ref _)) _ _ _); (with_reducible rename Fr _ _ _ _ => F'); (with_reducible rename News _ _ _ _ => N'); (refine slice_b (s := ⟨_, _, _, _, _⟩) F' N' (by constructor) (by constructor) (by walk_at "mine:size") ?_); intro _ _ _ F' N'; (try k_sweep)))

local macro_rules | `(tactic| walk_at "getMethod bytes") => `(tactic| (k_here; (first | refine gm_startswith ?_ | refine gm_endswith ?_ | refine gm_rfind ?_ | refine gm_rstrip ?_ | refine gm_split ?_ | refine gm_join ?_)))

local macro_rules | `(tactic| walk_at "call builtin:bytes.startswith") => `(tactic| (k_here; (refine startswith_b ?_)))

local macro_rules | `(tactic| walk_at "call builtin:bytes.endswith") => `(tactic| (k_here; (refine endswith_b ?_)))

local macro_rules | `(tactic| walk_at "call builtin:bytes.rfind") => `(tactic| (k_here; (refine rfind_b ?_); intro _ _))

local macro_rules | `(tactic| walk_at "call builtin:bytes.rstrip") => `(tactic| (k_here; (refine rstrip_b (by walk_at "mine:size") ?_); intro _ _))

local macro_rules | `(tactic| walk_at "call builtin:bytes.split") => `(tactic| (k_here; k_dflt (refine' split_b ?F ?N ?z ?_; (case F => k_asm); (case N => k_asm); (case z => walk_at "mine:size")); intro a' vs' h' k' hv' F' N' l1; (try k_lt l1); (try k_sweep)))

section
variable {prog : Program} {w : World} {K : Frag} {A : Around} {s : Shared} {R : Result → Shared → Prop} {name qual : Str} {params : Arguments} {body : List Stmt} {scope : Scope} {dV kV doc pm cdv ct oc : Value}
  {an od : Option Addr} {osl : Array (Option Value)} {f : Addr} {args : Args} {p : Program} {loose : List Str} {mean : ExcName → Option Value} {mg mb : Str → Option Value}

theorem bind_rest {M : Model} {E : Value → Shared → Prop} {nm pv : Str} {p1 p2 : Pos} {x : Value} {vs : List Value} {Q : List (Str × Value) → Shared → Prop} (hz : vs.length ≤ 1000000)
    (h : Q [(nm, x), (pv, .ref s.heap.objs.size)] { s with heap := s.heap.push { cls := .type "tuple", data := .seq vs.toArray } }) :
    wpAny M A (bindArgs (fnOf name qual { posonlyargs := [], args := [{ arg := nm, annotation := none, pos := p1 }], vararg := some { arg := pv, annotation := none, pos := p2 }, kwonlyargs := [], kw_defaults := [], kwarg := none, defaults := [] } body scope .none kV doc pm an cdv ct) ⟨x :: vs, []⟩) Q E s := by
  unfold bindArgs
  simp only [List.map_cons, List.map_nil, List.nil_append, List.forIn_nil, List.zip_cons_cons, List.zip_nil_left, pure_bind]
  refine wpAny_bind (wpAny_of_eq (a := none) rfl ?_)
  simp only [Option.isNone_some, Bool.and_false, Bool.false_eq_true, if_false, Option.getD_none, List.length_nil, List.length_cons, Nat.zero_sub, List.drop_nil, Nat.sub_zero, List.take_succ_cons, List.take_zero, List.filter_cons, List.filter_nil,
    List.lookup_cons, beq_self_eq_true, List.isEmpty_nil, Bool.not_true, List.drop_succ_cons, List.drop_zero, List.zip_nil_right, List.forIn_nil, pure_bind, List.append_nil, List.filterMap_cons, List.filterMap_nil, Option.map_some, Nat.zero_add]
  refine wpAny_bind (wpAny_newObj_type ?_ ?_)
  · exact wpAny_pure h
  · show vs.toArray.size ≤ sizeLine
    rw [List.size_toArray, sizeLine_eq]; omega

theorem enter_rest {nm pv : Str} {p1 p2 : Pos} {x : Value} {vs : List Value} (hz : vs.length ≤ 1000000) (X : K.In s.heap) (T : Top p loose mean mg mb s.heap)
    (ho : K.lookup f = some ⟨oc, od, .func (fnOf name qual { posonlyargs := [], args := [{ arg := nm, annotation := none, pos := p1 }], vararg := some { arg := pv, annotation := none, pos := p2 }, kwonlyargs := [], kw_defaults := [], kwarg := none, defaults := [] } body scope .none kV doc pm an cdv ct), osl⟩) (hcd : codeIn K cdv qual = true) (hroom : A.depth < recursionLimit)
    (hloc : ∀ D : Value, ∀ y ∈ [(nm, x), (pv, D)], scope.names.lookup y.1 = some .local)
    (h : ∀ D L' h₁ tk, Fr s.heap L' h₁ (fun y => [(nm, x), (pv, .ref D)].reverse.lookup y) → News s.heap L' h₁ [(D, ({ cls := .type "tuple", data := .seq vs.toArray } : Obj))] →
      wpAny (model prog w) (A.deeper (envOf qual scope L' f cdv)) (execs body (envOf qual scope L' f cdv))
        (fun fl s' => R (.ok (.ret (match fl with | .ret v => v | _ => .none))) s') (fun _ _ => False) { s with heap := h₁, toks := tk })
    (hco : scope.isCoroutine = false) (hgen : scope.isGenerator = false) (hk : scope.kind = .function)
    (hcell : ∀ x ∈ scope.names, x.2 ≠ .cell) : codeAny (model prog w) A (.call (.ref f) ⟨x :: vs, []⟩) R s := by
  refine codeAny_call_function (fd := fnOf name qual _ body scope .none kV doc pm an cdv ct) (body := body) hroom (X _ _ ho) rfl hco hgen rfl (codeRec_of X hcd) ?_
  refine bind_rest hz ?_
  have hlim : (s.heap.push ({ cls := .type "tuple", data := .seq vs.toArray } : Obj)).NoLimit := T.nolimit.keeps fun b x hb => Heap.get?_push_of_some _ hb
  refine wpAny_newFunctionEnv hcell (hloc _) (fun h₁ hns hsb => ⟨hlim.fresh _ hsb, codeAny_func ?_⟩) hk
  have hk₁ : ∀ b o, (s.heap.push ({ cls := .type "tuple", data := .seq vs.toArray } : Obj)).get? b = some o → h₁.get? b = some o := fun b o e => hsb.extBut b o (Nat.ne_of_lt (Heap.lt_size e)) (Heap.get?_push_of_some _ e)
  have hsz : (s.heap.push ({ cls := .type "tuple", data := .seq vs.toArray } : Obj)).objs.size = s.heap.objs.size + 1 := Heap.size_push _ _
  refine wpAny_mono (h s.heap.objs.size _ h₁ _ ⟨hns, fun b o e => hk₁ b o (Heap.get?_push_of_some _ e), by rw [hsz]; omega⟩ (fun p hp => ?_)) (fun _ _ x => x) (fun _ _ x => x.elim)
  have e := List.mem_singleton.mp hp
  subst e
  exact ⟨hk₁ _ _ (Heap.get?_push_size _ rfl), by show s.heap.objs.size ≠ _; rw [hsz]; omega, Heap.get?_none_of_le (Nat.le_refl _)⟩
end

/-- a turn's end: the loop goes on with J, or leaves -/
def TurnEnd (h₀ : Heap) (L : Addr) (adr : List Addr) (ow : List (Addr × Obj)) (J : (Str → Option Value) → List (Addr × Obj) → Prop) (Q : Flow → Shared → Prop) (s : Shared) (f : Flow) (s₂ : Shared) : Prop :=
  match f with
  | .ret v => Q (.ret v) s₂
  | .brk => Q .next s₂
  | _ => ∃ h' tk m' mu', s₂ = { s with heap := h', toks := tk } ∧ Fr h₀ L h' m' ∧ News h₀ L h' (mu' ++ ow) ∧ mu'.map (·.1) = adr ∧ J m' mu'

section
variable {prog : Program} {w : World} {A : Around} {E : Value → Shared → Prop} {s : Shared} {env : Env} {h₀ : Heap} {x : Str} {body : List Stmt} {Q : Flow → Shared → Prop}

/-- a loop by what holds between its turns: over any iterator I (fp: what it leans on, wr: what it writes) -/
theorem iter_walk {I : Addr} {fp wr : List Addr} {n : Nat} {P : Nat → Value → Prop} {St : Nat → Heap → Prop} {m₀ : Str → Option Value} {L : Addr} {mu fx : List (Addr × Obj)} (J : Nat → (Str → Option Value) → List (Addr × Obj) → Prop)
    (W : Walks prog w A I fp wr n P St) (hst : St 0 s.heap) (hLf : L ∉ fp) (hwr : ∀ b ∈ wr, h₀.get? b = none) (hfx : ∀ p ∈ fx, p.1 ∉ wr) (hmu : ∀ p ∈ mu, p.1 ∉ fp) (hmf : ∀ p ∈ mu, ∀ q ∈ fx, p.1 ≠ q.1)
    (F : Fr h₀ L s.heap m₀) (N : News h₀ L s.heap (mu ++ fx)) (hj : J 0 m₀ mu)
    (hL : env.locals = L)
    (turn : ∀ i v m₁ mu₁ h tk ow, i < n → P i v → J i m₁ mu₁ → mu₁.map (·.1) = mu.map (·.1) → (∀ p ∈ fx, p ∈ ow) → (∀ p ∈ ow, ∀ b ∈ mu.map (·.1), p.1 ≠ b) →
      Fr h₀ L h (fun y => if y = x then some v else m₁ y) → News h₀ L h (mu₁ ++ ow) →
      wpAny (model prog w) A (execs body env) (TurnEnd h₀ L (mu.map (·.1)) ow (J (i + 1)) Q { s with heap := h, toks := tk }) E { s with heap := h, toks := tk })
    (done : ∀ m₁ mu₁ h tk, J n m₁ mu₁ → mu₁.map (·.1) = mu.map (·.1) → Fr h₀ L h m₁ → News h₀ L h (mu₁ ++ fx) → Q .next { s with heap := h, toks := tk }) :
    LoopAtV prog w A h₀ env x body Q E (.ref I) s := by
  subst hL
  let J' : Nat → (Str → Option Value) → List (Addr × Obj) → Prop := fun i m₁ news₁ => ∃ mu₁, news₁ = mu₁ ++ fx ∧ mu₁.map (·.1) = mu.map (·.1) ∧ J i m₁ mu₁
  refine ⟨I, fp, wr, n, P, St, m₀, mu ++ fx, J', rfl, W, hLf, hwr, ?_, hst, F, N, ⟨mu, rfl, rfl, hj⟩, ?_, ?_⟩
  · intro p hp
    rcases List.mem_append.mp hp with hp | hp
    · exact fun h => hmu p hp (W.sub _ h)
    · exact hfx p hp
  · rintro i v m₁ news₁ s₁ own ⟨h, tk, rfl⟩ hi hP ⟨mu₁, rfl, hadr, hJ⟩ hoff hown _ _ _ F₁ N₁
    have N₂ : News h₀ env.locals h (mu₁ ++ (fx ++ own)) := fun p hp => by
      rcases List.mem_append.mp hp with hp | hp
      · exact N₁ p (List.mem_append.mpr (.inr (List.mem_append.mpr (.inl hp))))
      · rcases List.mem_append.mp hp with hp | hp
        · exact N₁ p (List.mem_append.mpr (.inr (List.mem_append.mpr (.inr hp))))
        · exact N₁ p (List.mem_append.mpr (.inl hp))
    have hsep : ∀ p ∈ fx ++ own, ∀ b ∈ mu.map (·.1), p.1 ≠ b := by
      intro p hp b hb e
      obtain ⟨q, hq, rfl⟩ := List.mem_map.mp hb
      rcases List.mem_append.mp hp with hp | hp
      · exact hmf q hq p hp e.symm
      · exact hmu q hq (e ▸ hown p hp)
    refine wpAny_mono (turn i v m₁ mu₁ h tk (fx ++ own) hi hP hJ hadr (fun p hp => List.mem_append.mpr (.inl hp)) hsep F₁ N₂) (fun f s₂ p => ?_) fun _ _ e => e
    have fin : (∃ h' tk' m' mu', s₂ = { ({ s with heap := h, toks := tk } : Shared) with heap := h', toks := tk' } ∧ Fr h₀ env.locals h' m' ∧ News h₀ env.locals h' (mu' ++ (fx ++ own)) ∧ mu'.map (·.1) = mu.map (·.1) ∧ J (i + 1) m' mu') →
        LoopStepU h₀ env.locals wr own (J' (i + 1)) { s with heap := h, toks := tk } .next s₂ := by
      rintro ⟨h', tk', m', mu', e, F', N', ha, hm⟩
      refine ⟨rfl, h', tk', m', mu' ++ fx, e, F', fun p hp => ?_, fun p hp => ?_, mu', rfl, ha, hm⟩
      · rcases List.mem_append.mp hp with hp | hp
        · exact N' p (List.mem_append.mpr (.inr (List.mem_append.mpr (.inr hp))))
        · rcases List.mem_append.mp hp with hp | hp
          · exact N' p (List.mem_append.mpr (.inl hp))
          · exact N' p (List.mem_append.mpr (.inr (List.mem_append.mpr (.inl hp))))
      · rcases List.mem_append.mp hp with hp | hp
        · intro hw
          have : p.1 ∈ mu.map (·.1) := ha ▸ List.mem_map_of_mem hp
          obtain ⟨q, hq, e⟩ := List.mem_map.mp this
          exact hmu q hq (e ▸ W.sub _ hw)
        · exact hfx p hp
    cases f with
    | ret v => exact .ret p
    | brk => exact .brk p
    | next => exact .next (fin p)
    | cont => exact .cont (fin p)
  · rintro h' tk m' news' F' N' _ ⟨mu₁, rfl, ha, hJ⟩
    exact done m' mu₁ h' tk hJ ha F' N'
end

section
variable {prog : Program} {w : World} {A : Around} {E : Value → Shared → Prop} {s : Shared} {env : Env} {h₀ : Heap} {x : Str} {body : List Stmt} {Q : Flow → Shared → Prop}

/-- where a list or tuple stands that a loop goes over: below the frame, or in the ledger's part that stays -/
def Stands (h₀ : Heap) (fx : List (Addr × Obj)) (l : Addr) : Prop := (∃ o, h₀.get? l = some o) ∨ ∃ o, (l, o) ∈ fx
theorem Stands.ne {h : Heap} {L l : Addr} {m : Str → Option Value} {mu fx : List (Addr × Obj)} (hs : Stands h₀ fx l) (F : Fr h₀ L h m) (N : News h₀ L h (mu ++ fx)) : L ≠ l := by
  rcases hs with ⟨o, ho⟩ | ⟨o, ho⟩
  · exact fun e => absurd (Nat.lt_of_lt_of_le (Heap.lt_size ho) F.above) (e ▸ Nat.lt_irrefl _)
  · exact fun e => (N _ (List.mem_append.mpr (.inr ho))).2.1 e.symm
theorem Stands.off {h : Heap} {L l : Addr} {mu fx : List (Addr × Obj)} (hs : Stands h₀ fx l) (N : News h₀ L h (mu ++ fx)) (hmf : ∀ p ∈ mu, ∀ q ∈ fx, p.1 ≠ q.1) : ∀ p ∈ mu, p.1 ≠ l := by
  intro p hp e
  rcases hs with ⟨o, ho⟩ | ⟨o, ho⟩
  · have := (N p (List.mem_append.mpr (.inl hp))).2.2
    rw [e, ho] at this; cases this
  · exact hmf p hp _ ho e
theorem news_push {h : Heap} {L : Addr} {news : List (Addr × Obj)} {o : Obj} (N : News h₀ L h news) : News h₀ L (h.push o) news := fun p hp => ⟨Heap.get?_push_of_some _ (N p hp).1, (N p hp).2⟩

theorem iter_list {l : Addr} {vs : List Value} {m₀ : Str → Option Value} {L : Addr} (mu fx : List (Addr × Obj)) (J : Nat → (Str → Option Value) → List (Addr × Obj) → Prop)
    (hh : A.handled = none) (hl : s.heap.IsList l vs.toArray) (hst : Stands h₀ fx l) (hmf : ∀ p ∈ mu, ∀ q ∈ fx, p.1 ≠ q.1)
    (F : Fr h₀ L s.heap m₀) (N : News h₀ L s.heap (mu ++ fx)) (hj : J 0 m₀ mu)
    (hL : env.locals = L)
    (turn : ∀ i v m₁ mu₁ h tk ow, vs[i]? = some v → J i m₁ mu₁ → mu₁.map (·.1) = mu.map (·.1) → (∀ p ∈ fx, p ∈ ow) → (∀ p ∈ ow, ∀ b ∈ mu.map (·.1), p.1 ≠ b) →
      Fr h₀ L h (fun y => if y = x then some v else m₁ y) → News h₀ L h (mu₁ ++ ow) →
      wpAny (model prog w) A (execs body env) (TurnEnd h₀ L (mu.map (·.1)) ow (J (i + 1)) Q { s with heap := h, toks := tk }) E { s with heap := h, toks := tk })
    (done : ∀ m₁ mu₁ h tk, J vs.length m₁ mu₁ → mu₁.map (·.1) = mu.map (·.1) → Fr h₀ L h m₁ → News h₀ L h (mu₁ ++ fx) → Q .next { s with heap := h, toks := tk }) :
    wpAny (model prog w) A (pyIter (.ref l)) (fun it s₂ => LoopAtV prog w A h₀ env x body Q E it s₂) E s := by
  subst hL
  obtain ⟨ol, hol, _⟩ := id hl
  have hlt : l < s.heap.objs.size := Heap.lt_size hol
  refine wpAny_pyIter_list hl ?_
  have W := Walks.list (prog := prog) (w := w) hh s.heap.objs.size l (Nat.ne_of_lt hlt) vs.toArray
  refine iter_walk (mu := mu) (fx := fx) J W ⟨⟨_, Heap.get?_push_size _ rfl, rfl, rfl⟩, hl.at fun o e => Heap.get?_push_of_some _ e⟩ ?_ ?_ ?_ ?_ hmf (F.push _) (news_push N) hj rfl ?_ ?_
  · intro hm
    rcases List.mem_cons.mp hm with e | hm
    · exact absurd F.ns.lt (e ▸ Nat.lt_irrefl _)
    · exact hst.ne F N (List.mem_singleton.mp hm)
  · intro b hb
    rw [List.mem_singleton.mp hb]
    exact next_is_new F
  · intro p hp hI
    exact absurd (Heap.lt_size (N p (List.mem_append.mpr (.inr hp))).1) ((List.mem_singleton.mp hI) ▸ Nat.lt_irrefl _)
  · intro p hp hI
    rcases List.mem_cons.mp hI with e | hm
    · exact absurd (Heap.lt_size (N p (List.mem_append.mpr (.inl hp))).1) (e ▸ Nat.lt_irrefl _)
    · exact hst.off N hmf p hp (List.mem_singleton.mp hm)
  · intro i v m₁ mu₁ h tk ow _ hP hJ ha h1 h2 F₁ N₁
    exact turn i v m₁ mu₁ h tk ow (by simpa using hP) hJ ha h1 h2 F₁ N₁
  · intro m₁ mu₁ h tk hJ ha F₁ N₁
    exact done m₁ mu₁ h tk (by simpa using hJ) ha F₁ N₁

theorem iter_tup {l : Addr} {vs : List Value} {m₀ : Str → Option Value} {L : Addr} (mu fx : List (Addr × Obj)) (J : Nat → (Str → Option Value) → List (Addr × Obj) → Prop)
    (hh : A.handled = none) (hl : s.heap.IsTuple l vs.toArray) (hst : Stands h₀ fx l) (hmf : ∀ p ∈ mu, ∀ q ∈ fx, p.1 ≠ q.1)
    (F : Fr h₀ L s.heap m₀) (N : News h₀ L s.heap (mu ++ fx)) (hj : J 0 m₀ mu)
    (hL : env.locals = L)
    (turn : ∀ i v m₁ mu₁ h tk ow, vs[i]? = some v → J i m₁ mu₁ → mu₁.map (·.1) = mu.map (·.1) → (∀ p ∈ fx, p ∈ ow) → (∀ p ∈ ow, ∀ b ∈ mu.map (·.1), p.1 ≠ b) →
      Fr h₀ L h (fun y => if y = x then some v else m₁ y) → News h₀ L h (mu₁ ++ ow) →
      wpAny (model prog w) A (execs body env) (TurnEnd h₀ L (mu.map (·.1)) ow (J (i + 1)) Q { s with heap := h, toks := tk }) E { s with heap := h, toks := tk })
    (done : ∀ m₁ mu₁ h tk, J vs.length m₁ mu₁ → mu₁.map (·.1) = mu.map (·.1) → Fr h₀ L h m₁ → News h₀ L h (mu₁ ++ fx) → Q .next { s with heap := h, toks := tk }) :
    wpAny (model prog w) A (pyIter (.ref l)) (fun it s₂ => LoopAtV prog w A h₀ env x body Q E it s₂) E s := by
  subst hL
  obtain ⟨ol, hol, _⟩ := id hl
  have hlt : l < s.heap.objs.size := Heap.lt_size hol
  refine wpAny_pyIter_tuple hl ?_
  have W := Walks.tuple (prog := prog) (w := w) hh s.heap.objs.size l (Nat.ne_of_lt hlt) vs.toArray
  refine iter_walk (mu := mu) (fx := fx) J W ⟨⟨_, Heap.get?_push_size _ rfl, rfl, rfl⟩, hl.at fun o e => Heap.get?_push_of_some _ e⟩ ?_ ?_ ?_ ?_ hmf (F.push _) (news_push N) hj rfl ?_ ?_
  · intro hm
    rcases List.mem_cons.mp hm with e | hm
    · exact absurd F.ns.lt (e ▸ Nat.lt_irrefl _)
    · exact hst.ne F N (List.mem_singleton.mp hm)
  · intro b hb
    rw [List.mem_singleton.mp hb]
    exact next_is_new F
  · intro p hp hI
    exact absurd (Heap.lt_size (N p (List.mem_append.mpr (.inr hp))).1) ((List.mem_singleton.mp hI) ▸ Nat.lt_irrefl _)
  · intro p hp hI
    rcases List.mem_cons.mp hI with e | hm
    · exact absurd (Heap.lt_size (N p (List.mem_append.mpr (.inl hp))).1) (e ▸ Nat.lt_irrefl _)
    · exact hst.off N hmf p hp (List.mem_singleton.mp hm)
  · intro i v m₁ mu₁ h tk ow _ hP hJ ha h1 h2 F₁ N₁
    exact turn i v m₁ mu₁ h tk ow (by simpa using hP) hJ ha h1 h2 F₁ N₁
  · intro m₁ mu₁ h tk hJ ha F₁ N₁
    exact done m₁ mu₁ h tk (by simpa using hJ) ha F₁ N₁
end

theorem noI_bytes_add : typeLookup (.type "bytes") (dunderI "add") = pure none := by rw [typeLookup_type, builtinLookup_eq_fast]; kernel_rfl
section
variable {prog : Program} {w : World} {A : Around} {E : Value → Shared → Prop} {s : Shared} {a b l : List UInt8} {t u : Tok}
theorem iadd_b {Q : Value → Shared → Prop} (hsz : a.length + b.length ≤ 16777216) (h : ∀ t' k, Q (.bytes (a ++ b).toArray t') { s with toks := k }) :
    wpAny (model prog w) A (inplaceOp .Add (.bytes a.toArray t) (.bytes b.toArray u)) Q E s := by
  have h : ∀ t' k, Q (.bytes (a.toArray ++ b.toArray) t') { s with toks := k } := fun t' k => by
    have := h t' k
    rwa [show (a ++ b).toArray = a.toArray ++ b.toArray by simp] at this
  have hsz : a.toArray.size + b.toArray.size ≤ 16777216 := by simpa using hsz
  generalize a.toArray = a at *
  generalize b.toArray = b at *
  refine iconcat_gives (typeIs_bytes s a t) (typeIs_bytes s b u) noI_bytes_add KBy.noFill_bytes_add KBy.seq_bytes_add FB.slot_bytes_add FB.entry_bytes_add (FB.args_bytes_add_2 _ _) (KBy.gives_bytes_add (KBy.tooLong_not hsz)) ?_
  by_cases hb : a.isEmpty = true
  · rw [if_pos hb]
    have e : a = #[] := Array.isEmpty_iff.1 hb
    have h' := h u s.toks
    rw [e, Array.empty_append] at h'
    exact h'
  · rw [if_neg hb]
    by_cases hc : b.isEmpty = true
    · rw [if_pos hc]
      have e : b = #[] := Array.isEmpty_iff.1 hc
      have h' := h t s.toks
      rw [e, Array.append_empty] at h'
      exact h'
    · rw [if_neg hc]
      exact ⟨by rw [Array.size_append, sizeLine_eq]; exact hsz, h s.toks (s.toks + 1)⟩
end

local macro_rules | `(tactic| walk_at "inplaceOp Add bytes bytes") => `(tactic| (k_here; (with_reducible show wpAny _ _ (inplaceOp Operator.Add (Value.bytes (List.toArray _) _) (Value.bytes (List.toArray _) _)) _ _ _); (refine iadd_b (by walk_at "mine:size") ?_); intro _ _))

theorem BytesAre.isEmpty : ∀ {vs : List Value} {ps : List (List UInt8)}, BytesAre vs ps → vs.isEmpty = ps.isEmpty
  | [], [], _ => rfl
  | _ :: _, _ :: _, _ => rfl
  | [], _ :: _, h => h.elim
  | _ :: _, [], h => h.elim
theorem BytesAre.last : ∀ {vs : List Value} {ps : List (List UInt8)}, BytesAre vs ps → ps.isEmpty = false → ∃ vs' ps' p t, vs = vs' ++ [.bytes p.toArray t] ∧ ps = ps' ++ [p] ∧ BytesAre vs' ps'
  | [], [], _, h => by cases h
  | [v], [p], h, _ => by
    obtain ⟨⟨t, rfl⟩, _⟩ := h
    exact ⟨[], [], p, t, rfl, rfl, trivial⟩
  | v :: v2 :: vs, p :: p2 :: ps, h, _ => by
    obtain ⟨vs', ps', q, t, e1, e2, e3⟩ := BytesAre.last (vs := v2 :: vs) (ps := p2 :: ps) h.2 rfl
    exact ⟨v :: vs', p :: ps', q, t, by rw [e1]; rfl, by rw [e2]; rfl, ⟨h.1, e3⟩⟩
  | [], _ :: _, h, _ => h.elim
  | _ :: _, [], h, _ => h.elim
  | [_], _ :: _ :: _, h, _ => h.2.elim
  | _ :: _ :: _, [_], h, _ => h.2.elim
section
variable {prog : Program} {w : World} {A : Around} {E : Value → Shared → Prop} {s : Shared} {h₀ : Heap} {L D : Addr} {m : Str → Option Value} {news news' : List (Addr × Obj)} {vs : List Value} {ps : List (List UInt8)} {n : Nat} {value slice : PySem.Expr} {u : Tok}
theorem led_list (N : News h₀ L s.heap news) (hm : (D, W.listOf vs.toArray n) ∈ news) : s.heap.IsList D vs.toArray := ⟨_, N.get hm, rfl, n, rfl⟩
theorem truthy_lb {Q : Bool → Shared → Prop} (hl : s.heap.IsList D vs.toArray) (hb : BytesAre vs ps) (hz : ps.length ≤ 1000000) (h : ∀ k, Q (!ps.isEmpty) { s with toks := k }) : wpAny (model prog w) A (truthy (.ref D)) Q E s := by
  refine wpAny_truthy_list hl (by rw [List.size_toArray, hb.length]; omega) ?_
  have e : (!vs.toArray.isEmpty) = !ps.isEmpty := by rw [List.isEmpty_toArray, hb.isEmpty]
  rw [e]; exact h _
theorem last_lb {Q : Value → Shared → Prop} (hl : s.heap.IsList D vs.toArray) (hb : BytesAre vs ps) (hne : ps.isEmpty = false) (hz : ps.length ≤ 1000000) (h : ∀ p t, ps.getLast? = some p → Q (.bytes p.toArray t) s)
    (hs : subscripted slice false (.ref D) (.int (-1) u) = operate [.ref D, .int (-1) u] (getItem (.ref D) (.int (-1) u)) := by with_unfolding_all rfl) :
    wpAny (model prog w) A (subscriptTail value slice (.ref D) (.int (-1) u)) Q E s := by
  obtain ⟨vs', ps', p, t, rfl, rfl, _⟩ := hb.last hne
  refine tail_any hl.typeIs slot_list_getitem.lookup (wpAny_getItem_list_neg (x := .bytes p.toArray t) hl (by omega) (by simp; omega) (by omega) ?_ (h p t (by simp))) hs
  have e : ((-1 : Int) + ((vs' ++ [Value.bytes p.toArray t]).toArray.size : Int)).toNat = vs'.length := by simp; omega
  rw [e]
  simp
theorem pop_lb {Q : Value → Shared → Prop} (F : Fr h₀ L s.heap m) (N : News h₀ L s.heap news) (hb : BytesAre vs ps) (hne : ps.isEmpty = false) (hz : ps.length ≤ 1000000)
    (U : Upd D (W.listOf vs.toArray n) (W.listOf vs.dropLast.toArray (n + 1)) news news')
    (h : ∀ v h', BytesAre vs.dropLast ps.dropLast → Fr h₀ L h' m → News h₀ L h' news' → Q v { s with heap := h' }) : wpAny (model prog w) A (call (.builtin "list.pop") [.ref D]) Q E s := by
  obtain ⟨vs', ps', p, t, rfl, rfl, h3⟩ := hb.last hne
  have hl := hb.length
  rw [List.dropLast_concat] at *
  rw [List.dropLast_concat] at h
  refine kl_pop F N (p := vs') (y := .bytes p.toArray t) (kpa_last _ _) U ?_ fun h' F' N' => h _ h' h3 F' N'
  rw [sizeLine_eq, List.toList_toArray, hl]
  omega
theorem append_lb {Q : Value → Shared → Prop} {x : Value} (F : Fr h₀ L s.heap m) (N : News h₀ L s.heap news) (hz : vs.length ≤ 1000000) (U : Upd D (W.listOf vs.toArray n) (W.listOf (vs ++ [x]).toArray (n + 1)) news news')
    (h : ∀ h', Fr h₀ L h' m → News h₀ L h' news' → Q .none { s with heap := h' }) : wpAny (model prog w) A (call (.builtin "list.append") [.ref D, x]) Q E s := by
  have e : (vs ++ [x]).toArray = vs.toArray.push x := by simp
  rw [e] at U
  exact append_K F N U h (by rw [List.size_toArray, sizeLine_eq]; omega)
end

local macro_rules | `(tactic| k_all) => `(tactic| assumption)

local macro_rules | `(tactic| walk_at "mine:list") => `(tactic| first | (refine' led_list ?N ?m; (case N => k_asm); (case m => k_mem)) | assumption)

local macro_rules | `(tactic| walk_at "mine:ne") => `(tactic| first | assumption | (simp only [Bool.not_eq_true', Bool.not_eq_false'] at *; assumption))

local macro_rules | `(tactic| walk_at "truthy ref") => `(tactic| (k_here; (with_reducible show wpAny _ _ (truthy (Value.ref _)) _ _ _); k_dflt (refine' truthy_lb ?l ?b ?z ?_; (case l => walk_at "mine:list"); (case b => assumption); (case z => walk_at "mine:size")); intro _))

local macro_rules | `(tactic| walk_at "subscriptTail Name UnaryOp ref int") => `(tactic| (k_here; (with_reducible show wpAny _ _ (subscriptTail _ _ (Value.ref _) (Value.int (-1) _)) _ _ _); k_dflt (refine' last_lb ?l ?b ?e ?z ?_; (case l => walk_at "mine:list"); (case b => assumption); (case e => assumption); (case z => walk_at "mine:size")); intro p9 t9 hp9))

local macro_rules | `(tactic| walk_at "call builtin:list.pop") => `(tactic| (k_here; (with_reducible show wpAny _ _ (call (Value.builtin _) [Value.ref _]) _ _ _); k_dflt (refine' pop_lb ?F ?N ?b ?e ?z ?U ?_; (case F => k_asm); (case N => k_asm); (case U => k_upd); (case b => assumption); (case e => assumption); (case z => walk_at "mine:size")); intro v9 h' hb9 F' N'; (try k_sweep)))

local macro_rules | `(tactic| walk_at "call builtin:list.append") => `(tactic| (k_here; (with_reducible show wpAny _ _ (call (Value.builtin _) [Value.ref _, Value.bytes _ _]) _ _ _); k_dflt (refine' append_lb ?F ?N ?z ?U ?_; (case F => k_asm); (case N => k_asm); (case U => k_upd); (case z => walk_at "mine:size")); intro h' F' N'; (try k_sweep)))


local macro_rules | `(tactic| walk_at "call builtin:bytes.join") => `(tactic| (k_here; k_dflt (refine' join_b ?b ?z ?o ?_; (case o => exact News.get (by k_asm) (by k_mem)); (case b => assumption); (case z => omega)); intro _ _))

theorem enter_pos {prog : Program} {w : World} {K : Frag} {A : Around} {s : Shared} {R : Result → Shared → Prop} {name qual : Str} {params : Arguments} {body : List Stmt} {scope : Scope} {dV kV doc pm cdv ct oc : Value}
  {an od : Option Addr} {osl : Array (Option Value)} {f : Addr} {vs : List Value} {p : Program} {loose : List Str} {mean : ExcName → Option Value} {mg mb : Str → Option Value} (X : K.In s.heap) (T : Top p loose mean mg mb s.heap)
    (ho : K.lookup f = some ⟨oc, od, .func (fnOf name qual params body scope dV kV doc pm an cdv ct), osl⟩) (hcd : codeIn K cdv qual = true) (hroom : A.depth < recursionLimit)
    (hbind : bindArgs (fnOf name qual params body scope dV kV doc pm an cdv ct) ⟨vs, []⟩ = pure ((params.args.map (·.arg)).zip vs)) (hloc : ∀ y ∈ (params.args.map (·.arg)).zip vs, scope.names.lookup y.1 = some .local)
    (h : ∀ L' h₁, Fr s.heap L' h₁ (fun y => ((params.args.map (·.arg)).zip vs).reverse.lookup y) → News s.heap L' h₁ [] →
      wpAny (model prog w) (A.deeper (envOf qual scope L' f cdv)) (execs body (envOf qual scope L' f cdv))
        (fun fl s' => R (.ok (.ret (match fl with | .ret v => v | _ => .none))) s') (fun _ _ => False) { s with heap := h₁, toks := s.toks + ((params.args.map (·.arg)).zip vs).length })
    (hco : scope.isCoroutine = false) (hgen : scope.isGenerator = false) (hk : scope.kind = .function)
    (hcell : ∀ x ∈ scope.names, x.2 ≠ .cell) : codeAny (model prog w) A (.call (.ref f) ⟨vs, []⟩) R s :=
  enter X T ho hcd hroom (BindsTo.of_eq hbind) hloc h hco hgen hk hcell

local macro_rules | `(tactic| walk_at "mine:enter") => `(tactic| (
  (refine' enter_pos ?k1 ?k2 ?k6 ?k7 ?k8 ?k9 ?kB ?_ ?c2 ?c3 ?c4 ?c5; (case k1 => k_asm); (case k2 => k_asm); (case k6 => k_is); (case k7 => k_is); (case k8 => ktr_room); (case k9 => exact rfl); (case c5 => decide); (case kB => exact locs rfl); (case c2 => exact rfl); (case c3 => exact rfl); (case c4 => exact rfl); k_whole; intro L' h' F' N'; (simp only [List.map_cons, List.map_nil, List.zip_cons_cons, List.zip_nil_left, List.reverse_cons, List.reverse_nil, List.nil_append, List.cons_append] at F'); (try dsimp only); (try k_fold))))

local macro_rules | `(tactic| walk_at "call type:type") => `(tactic| (k_here; (with_reducible show wpAny _ _ (call (Value.type "type") [Value.bytes _ _]) _ _ _); refine type_bytes ?_))

local macro_rules | `(tactic| walk_at "call builtin:issubclass") => `(tactic| (k_here; (with_reducible show wpAny _ _ (call (Value.builtin "issubclass") [Value.type "bytes", Value.ref _]) _ _ _); k_dflt (refine' issub_call ?_ ?_; (exact News.get (by k_asm) (by k_mem)))))


theorem get_sep_ok (w : World) (b : Array UInt8) (t : Tok) : Sp w 108 [.bytes b t] 1 8 (fun _ => True) (fun r tl => ∃ t', r = .bytes #[47] t' ∧ tl = []) := by
  intro loose mean mg mb dp un fr gd R s X; revert X; w_top off; k_fill; intro X T pre hd1 hu1 hret; k_dflt walk_at "mine:enter"
  k_steps
  refine hret _ [] _ _ ?_ (Fr.keep (by k_asm)) (fun _ hp => nomatch hp)
  exact ⟨_, rfl, rfl⟩

theorem fspath_ok (w : World) (b : Array UInt8) (t : Tok) : Sp w 94 [.bytes b t] 1 8 (fun _ => True) (fun r tl => r = .bytes b t ∧ tl = []) := by
  intro loose mean mg mb dp un fr gd R s X; revert X; w_top off; k_fill; intro X T pre hd1 hu1 hret; k_dflt walk_at "mine:enter"
  k_steps
  refine hret _ [] _ _ ?_ (Fr.keep (by k_asm)) (fun _ hp => nomatch hp)
  exact ⟨rfl, rfl⟩

local macro_rules | `(tactic| walk_at "mine:use") => `(tactic| ((case F => k_asm); (case X => k_asm); (case N => k_asm); (case T => k_asm); (case d => ktr_room); (case u => ktr_units)))

local macro_rules | `(tactic| walk_at "call ref") => `(tactic| (k_here; k_dflt (refine' Sp.use (fspath_ok _ _ _) ?F ?X ?N ?T ?p ?d ?u ?_; (walk_at "mine:use"); (case p => trivial); (intro r9 tl9 h' tk' hr9 F' N' hn9 hk9; obtain ⟨e1, e2⟩ := hr9; subst e1; subst e2; (try simp only [List.nil_append] at N'); (try k_sweep)))))

local macro_rules | `(tactic| walk_at "call ref") => `(tactic| (k_here; k_dflt (refine' Sp.use (get_sep_ok _ _ _) ?F ?X ?N ?T ?p ?d ?u ?_; (walk_at "mine:use"); (case p => trivial); (intro r9 tl9 h' tk' hr9 F' N' hn9 hk9; obtain ⟨t9, e1, e2⟩ := hr9; subst e1; subst e2; (try simp only [List.nil_append] at N'); (try k_sweep)))))

theorem isabs_ok (w : World) (l : List UInt8) (t : Tok) : Sp w 115 [.bytes l.toArray t] 2 16 (fun _ => True) (fun r tl => r = .bool (l.head? == some 47) ∧ tl = []) := by
  intro loose mean mg mb dp un fr gd R s X; revert X; w_top off; k_fill; intro X T pre hd1 hu1 hret; k_dflt walk_at "mine:enter"
  k_steps
  refine hret _ [] _ _ ?_ (Fr.keep (by k_asm)) (fun _ hp => nomatch hp)
  exact ⟨rfl, rfl⟩

/-- dirname, as posixpath reckons it -/
def headB (l : List UInt8) : List UInt8 := if (dirB l).isEmpty = false ∧ dirB l ≠ List.replicate (dirB l).length 47 then rstripB (dirB l) else dirB l

theorem basename_ok (w : World) (l : List UInt8) (t : Tok) (hz : l.length ≤ 1000) : Sp w 143 [.bytes l.toArray t] 2 16 (fun _ => True) (fun r tl => (∃ t', r = .bytes (baseB l).toArray t') ∧ tl = []) := by
  intro loose mean mg mb dp un fr gd R s X; revert X; w_top off; k_fill; intro X T pre hd1 hu1 hret; k_dflt walk_at "mine:enter"
  k_steps
  refine hret _ [] _ _ ?_ (Fr.keep (by k_asm)) (fun _ hp => nomatch hp)
  exact ⟨⟨_, by rw [cut_base]⟩, rfl⟩

theorem head1 {l : List UInt8} (h : (cut l none (some ((l.length : Int) - tailLen l - 1 + 1))).isEmpty = true) : cut l none (some ((l.length : Int) - tailLen l - 1 + 1)) = headB l := by
  rw [cut_dir] at h ⊢
  unfold headB
  rw [if_neg (fun q => by rw [h] at q; cases q.1)]
theorem head2 {l : List UInt8} (h : (cut l none (some ((l.length : Int) - tailLen l - 1 + 1))).isEmpty = false)
    (h' : (cut l none (some ((l.length : Int) - tailLen l - 1 + 1)) != List.replicate (((cut l none (some ((l.length : Int) - tailLen l - 1 + 1))).length : Int)).toNat 47) = true) :
    rstripB (cut l none (some ((l.length : Int) - tailLen l - 1 + 1))) = headB l := by
  rw [cut_dir] at h h' ⊢
  unfold headB
  rw [if_pos ⟨h, by simpa using h'⟩]
theorem head3 {l : List UInt8} (h : (cut l none (some ((l.length : Int) - tailLen l - 1 + 1))).isEmpty = false)
    (h' : (cut l none (some ((l.length : Int) - tailLen l - 1 + 1)) != List.replicate (((cut l none (some ((l.length : Int) - tailLen l - 1 + 1))).length : Int)).toNat 47) = false) :
    cut l none (some ((l.length : Int) - tailLen l - 1 + 1)) = headB l := by
  rw [cut_dir] at h h' ⊢
  unfold headB
  rw [if_neg (fun q => q.2 (by simpa using h'))]

theorem dirname_ok (w : World) (l : List UInt8) (t : Tok) (hz : l.length ≤ 1000) : Sp w 150 [.bytes l.toArray t] 2 16 (fun _ => True) (fun r tl => (∃ t', r = .bytes (headB l).toArray t') ∧ tl = []) := by
  intro loose mean mg mb dp un fr gd R s X; revert X; w_top off; k_fill; intro X T pre hd1 hu1 hret; k_dflt walk_at "mine:enter"
  k_steps
  all_goals refine hret _ [] _ _ ?_ (Fr.keep (by k_asm)) (fun _ hp => nomatch hp)
  · exact ⟨⟨_, congrArg (fun x => Value.bytes (List.toArray x) _) (head1 (by assumption))⟩, rfl⟩
  · exact ⟨⟨_, congrArg (fun x => Value.bytes (List.toArray x) _) (head2 (by assumption) (by assumption))⟩, rfl⟩
  · exact ⟨⟨_, congrArg (fun x => Value.bytes (List.toArray x) _) (head3 (by assumption) (by assumption))⟩, rfl⟩

theorem split_ok (w : World) (l : List UInt8) (t : Tok) (hz : l.length ≤ 1000) : Sp w 129 [.bytes l.toArray t] 2 16 (fun _ => True)
    (fun r tl => ∃ a t1 t2, r = .ref a ∧ tl = [(a, tupOf [.bytes (headB l).toArray t1, .bytes (baseB l).toArray t2])]) := by
  intro loose mean mg mb dp un fr gd R s X; revert X; w_top off; k_fill; intro X T pre hd1 hu1 hret; k_dflt walk_at "mine:enter"
  k_steps
  all_goals refine' hret _ _ _ _ ?_ (Fr.keep (by k_asm)) (ret1 (by k_asm))
  · exact ⟨_, _, _, rfl, by rw [head1 (by assumption), cut_base]⟩
  · exact ⟨_, _, _, rfl, by rw [head2 (by assumption) (by assumption), cut_base]⟩
  · exact ⟨_, _, _, rfl, by rw [head3 (by assumption) (by assumption), cut_base]⟩

theorem cut_01 (l : List UInt8) : (cut l none (some 1) != [47]) = !(l.head? == some 47) := by
  have : cut l none (some 1) = l.take 1 := by
    unfold cut
    simp only [Option.elim]
    rw [show clipAt l.length 1 = min 1 l.length from clipAt_nat _ 1, List.drop_zero, Nat.sub_zero]
    rcases l with _ | ⟨x, r⟩
    · rfl
    · simp
  rw [this]
  rcases l with _ | ⟨x, r⟩
  · rfl
  · by_cases hx : x = 47
    · subst hx; rfl
    · simp [bne, hx]
theorem cut_12 (l : List UInt8) : (cut l (some 1) (some 2) != [47]) = !(l[1]? == some 47) := by
  have : cut l (some 1) (some 2) = (l.drop 1).take 1 := by
    unfold cut
    simp only [Option.elim]
    rw [show clipAt l.length 1 = min 1 l.length from clipAt_nat _ 1, show clipAt l.length 2 = min 2 l.length from clipAt_nat _ 2]
    rcases l with _ | ⟨x, _ | ⟨y, r⟩⟩
    · rfl
    · rfl
    · have e1 : min 1 (x :: y :: r).length = 1 := by simp
      have e2 : min 2 (x :: y :: r).length = 2 := by simp
      rw [e1, e2]
  rw [this]
  rcases l with _ | ⟨x, _ | ⟨y, r⟩⟩
  · rfl
  · rfl
  · by_cases hx : y = 47
    · subst hx; rfl
    · simp [bne, hx]
theorem cut_1 (l : List UInt8) : cut l (some 1) none = l.drop 1 := by
  unfold cut
  simp only [Option.elim]
  rw [show clipAt l.length 1 = min 1 l.length from clipAt_nat _ 1]
  rcases l with _ | ⟨x, r⟩
  · rfl
  · have e1 : min 1 (x :: r).length = 1 := by simp
    rw [e1]
    exact List.take_of_length_le (by simp)

def rootB (l : List UInt8) : List UInt8 := if l.head? = some 47 then [47] else []
def restB (l : List UInt8) : List UInt8 := if l.head? = some 47 then l.drop 1 else l

theorem root_no {l : List UInt8} (h : (cut l none (some 1) != [47]) = true) : rootB l = [] ∧ restB l = l := by
  rw [cut_01] at h
  have h' : l.head? ≠ some 47 := by simpa using h
  exact ⟨if_neg h', if_neg h'⟩
theorem root_yes {l : List UInt8} (h : (cut l none (some 1) != [47]) = false) : rootB l = [47] ∧ restB l = cut l (some 1) none := by
  rw [cut_01] at h
  have h' : l.head? = some 47 := by simpa using h
  exact ⟨if_pos h', by rw [cut_1]; exact if_pos h'⟩
theorem root_two {l : List UInt8} (h : (cut l none (some 1) != [47]) = false) (h2 : (cut l (some 1) (some 2) != [47]) = false) (h3 : l.head? = some 47 → l[1]? ≠ some 47) : False := by
  rw [cut_01] at h
  rw [cut_12] at h2
  exact h3 (by simpa using h) (by simpa using h2)

theorem splitroot_ok (w : World) (l : List UInt8) (t : Tok) (hz : l.length ≤ 1000) (h2 : l.head? = some 47 → l[1]? ≠ some 47) : Sp w 136 [.bytes l.toArray t] 2 16 (fun _ => True)
    (fun r tl => ∃ a t1 t2 t3, r = .ref a ∧ tl = [(a, tupOf [.bytes #[] t1, .bytes (rootB l).toArray t2, .bytes (restB l).toArray t3])]) := by
  intro loose mean mg mb dp un fr gd R s X; revert X; w_top off; k_fill; intro X T pre hd1 hu1 hret; k_dflt walk_at "mine:enter"
  k_steps
  all_goals refine' hret _ _ _ _ ?_ (Fr.keep (by k_asm)) (ret1 (by k_asm))
  · exact ⟨_, _, _, _, rfl, by rw [(root_no (by assumption)).1, (root_no (by assumption)).2]⟩
  · exact ⟨_, _, _, _, rfl, by rw [(root_yes (by assumption)).1, (root_yes (by assumption)).2]⟩
  · exact ⟨_, _, _, _, rfl, by rw [(root_yes (by assumption)).1, (root_yes (by assumption)).2]⟩
  · exact (root_two (by assumption) (by assumption) h2).elim

local macro_rules | `(tactic| walk_at "mine:enter_rest") => `(tactic| (
  (refine' enter_rest ?kz ?k1 ?k2 ?k6 ?k7 ?k8 ?kB ?_ ?c2 ?c3 ?c4 ?c5; (case k1 => k_asm); (case k2 => k_asm); (case k6 => k_is); (case k7 => k_is); (case k8 => ktr_room); (case kB => exact fun _ => locs rfl); (case c5 => decide); (case c2 => exact rfl); (case c3 => exact rfl); (case c4 => exact rfl); (case kz => walk_at "mine:size"); k_whole; intro D' L' h' tk' F' N'; (try dsimp only); (try k_fold))))

def joinB (a b : List UInt8) : List UInt8 := if b.head? = some 47 ∨ a = [] then b else if a.getLast? = some 47 then a ++ b else a ++ (47 :: b)

theorem joinB_len (a b : List UInt8) : (joinB a b).length ≤ a.length + b.length + 1 := by
  unfold joinB
  split
  · omega
  · split
    · rw [List.length_append]; omega
    · rw [List.length_append, List.length_cons]; omega
theorem joinB1 {a b : List UInt8} (h : (b.head? == some 47) = true) : b = joinB a b := (if_pos (.inl (by simpa using h))).symm
theorem joinB2 {a b : List UInt8} (h : a.isEmpty = true) : b = joinB a b := (if_pos (.inr (by simpa using h))).symm
theorem joinB3 {a b : List UInt8} (h : (b.head? == some 47) = false) (h2 : a.isEmpty = false) (h3 : (a.getLast? == some 47) = true) : a ++ b = joinB a b := by
  have h : ¬ (b.head? = some 47 ∨ a = []) := fun q => q.elim (by simpa using h) (by simpa using h2)
  unfold joinB
  rw [if_neg h, if_pos (by simpa using h3)]
theorem joinB4 {a b : List UInt8} (h : (b.head? == some 47) = false) (h2 : a.isEmpty = false) (h3 : (a.getLast? == some 47) = false) : a ++ ([47] ++ b) = joinB a b := by
  have h : ¬ (b.head? = some 47 ∨ a = []) := fun q => q.elim (by simpa using h) (by simpa using h2)
  unfold joinB
  rw [if_neg h, if_neg (by simpa using h3)]
  rfl
theorem fold_len : ∀ (ps : List (List UInt8)) (a : List UInt8), (ps.foldl joinB a).length ≤ a.length + (ps.map List.length).sum + ps.length
  | [], a => by simp
  | p :: ps, a => by
    have h1 := fold_len ps (joinB a p)
    have h2 := joinB_len a p
    simp only [List.foldl_cons, List.map_cons, List.sum_cons, List.length_cons]
    omega
theorem fold_take (ps : List (List UInt8)) (a : List UInt8) (i : Nat) : ((ps.take i).foldl joinB a).length ≤ a.length + (ps.map List.length).sum + ps.length := by
  have h := fold_len (ps.take i) a
  have h2 : ((ps.take i).map List.length).sum ≤ (ps.map List.length).sum := by
    conv => rhs; rw [← List.take_append_drop i ps]
    rw [List.map_append, List.sum_append]
    omega
  have h3 : (ps.take i).length ≤ ps.length := List.length_take_le' i ps
  omega
theorem fold_succ {ps : List (List UInt8)} {a p : List UInt8} {i : Nat} (h : ps[i]? = some p) : (ps.take (i + 1)).foldl joinB a = joinB ((ps.take i).foldl joinB a) p := by
  rw [List.take_add_one, h, List.foldl_append]
  rfl
theorem mem_len {ps : List (List UInt8)} {p : List UInt8} (h : p ∈ ps) : p.length ≤ (ps.map List.length).sum := by
  induction ps with
  | nil => cases h
  | cons q ps ih =>
    rw [List.map_cons, List.sum_cons]
    rcases List.mem_cons.mp h with rfl | h
    · omega
    · have := ih h; omega

theorem join_ok (w : World) (a : List UInt8) (t : Tok) (vs : List Value) (ps : List (List UInt8)) (hb : BytesAre vs ps) (hz : a.length + (ps.map List.length).sum + ps.length ≤ 1000) :
    Sp w 122 (.bytes a.toArray t :: vs) 3 24 (fun _ => True) (fun r tl => (∃ t', r = .bytes (ps.foldl joinB a).toArray t') ∧ tl = []) := by
  intro loose mean mg mb dp un fr gd R s X; revert X; w_top off; k_fill; intro X T pre hd1 hu1 hret; have hlv := hb.length; k_dflt walk_at "mine:enter_rest"
  k_steps
  refine' iter_tup [] [_] (fun i m₁ mu₁ => mu₁ = [] ∧ (∃ t', m₁ "path" = some (.bytes ((ps.take i).foldl joinB a).toArray t')) ∧ (∃ t', m₁ "sep" = some (.bytes #[47] t'))) rfl ?hl ?st ?mf ?F ?N ?j rfl ?turn ?done
  case F => k_asm
  case N => k_asm
  case hl => exact ⟨_, News.get (by k_asm) (by k_mem), rfl, 0, rfl⟩
  case st => exact .inr ⟨_, List.mem_singleton.mpr rfl⟩
  case mf => exact fun _ hp => nomatch hp
  case j => exact ⟨rfl, ⟨_, rfl⟩, ⟨_, rfl⟩⟩
  case turn =>
    rintro i v m₁ mu₁ h tk ow hv ⟨rfl, ⟨t1, e1⟩, ⟨t2, e2⟩⟩ hadr hfx hoff F N
    obtain ⟨p, tp, hp, rfl⟩ := hb.get' i hv
    have hpl := mem_len (List.mem_of_getElem? hp)
    have hfl := fold_take ps a i
    have hJ := fold_succ (a := a) hp
    generalize (ps.take i).foldl joinB a = acc at *
    dsimp only [List.nil_append] at N
    replace F := see (see F (k := "path") (v := some (.bytes acc.toArray t1)) e1) (k := "sep") (v := some (.bytes #[47] t2)) e2
    try k_fold
    k_steps
    · exact ⟨_, _, _, [], rfl, by k_asm, by k_asm, rfl, rfl, ⟨_, congrArg (fun x => some (Value.bytes (List.toArray x) _)) ((joinB1 (by assumption)).trans hJ.symm)⟩, ⟨_, rfl⟩⟩
    · exact ⟨_, _, _, [], rfl, by k_asm, by k_asm, rfl, rfl, ⟨_, congrArg (fun x => some (Value.bytes (List.toArray x) _)) ((joinB2 (by assumption)).trans hJ.symm)⟩, ⟨_, rfl⟩⟩
    · exact ⟨_, _, _, [], rfl, by k_asm, by k_asm, rfl, rfl, ⟨_, congrArg (fun x => some (Value.bytes (List.toArray x) _)) ((joinB3 (by assumption) (by assumption) (by assumption)).trans hJ.symm)⟩, ⟨_, rfl⟩⟩
    · exact ⟨_, _, _, [], rfl, by k_asm, by k_asm, rfl, rfl, ⟨_, congrArg (fun x => some (Value.bytes (List.toArray x) _)) ((joinB4 (by assumption) (by assumption) (by assumption)).trans hJ.symm)⟩, ⟨_, rfl⟩⟩
  case done =>
    rintro m₁ mu₁ h tk ⟨rfl, ⟨t1, e1⟩, _⟩ hadr F N
    dsimp only [List.nil_append] at N
    replace F := see F e1
    k_steps
    refine hret _ [] _ _ ?_ (Fr.keep (by k_asm)) (fun _ hp => nomatch hp)
    rw [hlv, List.take_length]
    exact ⟨⟨_, rfl⟩, rfl⟩

local macro_rules | `(tactic| walk_at "call ref") => `(tactic| (k_here; k_dflt (refine' Sp.use (splitroot_ok _ _ _ ?z ?z2) ?F ?X ?N ?T ?p ?d ?u ?_; (walk_at "mine:use"); (case p => trivial); (case z => walk_at "mine:size"); (case z2 => assumption); (intro r9 tl9 h' tk' hr9 F' N' hn9 hk9; obtain ⟨a9, t1, t2, t3, e1, e2⟩ := hr9; subst e1; subst e2; (try simp only [List.nil_append, List.cons_append] at N'); (try k_sweep)))))

def normStep (rooted : Bool) (st : List (List UInt8)) (comp : List UInt8) : List (List UInt8) :=
  if comp = [] ∨ comp = [46] then st
  else if comp ≠ [46, 46] ∨ (rooted = false ∧ st = []) ∨ (st ≠ [] ∧ st.getLast? = some [46, 46]) then st ++ [comp]
  else if st ≠ [] then st.dropLast else st
def normB (l : List UInt8) : List UInt8 :=
  if l = [] then [46] else
  let r := rootB l ++ joinL ((splitB (restB l)).foldl (normStep (!(rootB l).isEmpty)) [])
  if r = [] then [46] else r

theorem root_len (l : List UInt8) : (rootB l).length ≤ 1 := by
  unfold rootB
  split <;> simp
theorem rest_len (l : List UInt8) : (restB l).length ≤ l.length := by
  unfold restB
  split
  · rw [List.length_drop]; omega
  · omega
theorem norm_inv {k : Nat} (r : Bool) : ∀ (cs st : List (List UInt8)), (∀ p ∈ cs, p.length ≤ k) → (∀ p ∈ st, p.length ≤ k) → (∀ p ∈ cs.foldl (normStep r) st, p.length ≤ k) ∧ (cs.foldl (normStep r) st).length ≤ st.length + cs.length
  | [], st, _, h => ⟨h, Nat.le_refl _⟩
  | c :: cs, st, hc, h => by
    have h1 : (∀ p ∈ normStep r st c, p.length ≤ k) ∧ (normStep r st c).length ≤ st.length + 1 := by
      unfold normStep
      split
      · exact ⟨h, by omega⟩
      · split
        · refine ⟨fun p hp => ?_, by simp⟩
          rcases List.mem_append.mp hp with hp | hp
          · exact h p hp
          · rw [List.mem_singleton.mp hp]; exact hc c (.head _)
        · split
          · exact ⟨fun p hp => h p (List.dropLast_subset st hp), by simp; omega⟩
          · exact ⟨h, by omega⟩
    have h2 := norm_inv r cs (normStep r st c) (fun p hp => hc p (.tail _ hp)) h1.1
    refine ⟨h2.1, ?_⟩
    have := h2.2
    simp only [List.foldl_cons, List.length_cons]
    omega
theorem sum_le {k : Nat} : ∀ {ps : List (List UInt8)}, (∀ p ∈ ps, p.length ≤ k) → (ps.map List.length).sum ≤ ps.length * k
  | [], _ => by simp
  | p :: ps, h => by
    have h1 := sum_le (ps := ps) fun q hq => h q (.tail _ hq)
    have h2 := h p (.head _)
    simp only [List.map_cons, List.sum_cons, List.length_cons, Nat.add_mul, Nat.one_mul]
    omega
theorem foldN_succ {r : Bool} {ps st : List (List UInt8)} {p : List UInt8} {i : Nat} (h : ps[i]? = some p) : (ps.take (i + 1)).foldl (normStep r) st = normStep r ((ps.take i).foldl (normStep r) st) p := by
  rw [List.take_add_one, h, List.foldl_append]
  rfl

theorem ba_eq {vs : List Value} {a b : List (List UInt8)} (h : BytesAre vs b) (e : a = b) : BytesAre vs a := e ▸ h
section
variable {r : Bool} {st : List (List UInt8)} {p q : List UInt8}
theorem ns1 (h : p.isEmpty = true) : normStep r st p = st := if_pos (.inl (by simpa using h))
theorem ns2 (h : (p == [46]) = true) : normStep r st p = st := if_pos (.inr (by simpa using h))
theorem nsN (h1 : p.isEmpty = false) (h2 : (p == [46]) = false) : ¬ (p = [] ∨ p = [46]) := fun q => q.elim (by simpa using h1) (by simpa using h2)
theorem ns3 (h1 : p.isEmpty = false) (h2 : (p == [46]) = false) (h3 : (p != [46, 46]) = true) : normStep r st p = st ++ [p] := by
  unfold normStep
  rw [if_neg (nsN h1 h2), if_pos (.inl (by simpa using h3))]
theorem ns4 (h1 : p.isEmpty = false) (h2 : (p == [46]) = false) (hr : r = false) (hs : st.isEmpty = true) : normStep r st p = st ++ [p] := by
  unfold normStep
  rw [if_neg (nsN h1 h2), if_pos (.inr (.inl ⟨hr, by simpa using hs⟩))]
theorem ns5 (h1 : p.isEmpty = false) (h2 : (p == [46]) = false) (hs : st.getLast? = some q) (hq : (q == [46, 46]) = true) : normStep r st p = st ++ [p] := by
  have hq' : q = [46, 46] := by simpa using hq
  have hne : st ≠ [] := fun e => by rw [e] at hs; cases hs
  unfold normStep
  rw [if_neg (nsN h1 h2), if_pos (.inr (.inr ⟨hne, by rw [hs, hq']⟩))]
theorem ns6 (h1 : p.isEmpty = false) (h2 : (p == [46]) = false) (h3 : (p != [46, 46]) = false) (hs : st.getLast? = some q) (hq : (q == [46, 46]) = false) : normStep r st p = st.dropLast := by
  have hq' : q ≠ [46, 46] := by simpa using hq
  have hne : st ≠ [] := fun e => by rw [e] at hs; cases hs
  have h3' : p = [46, 46] := by simpa using h3
  unfold normStep
  rw [if_neg (nsN h1 h2), if_neg, if_pos hne]
  rintro (h | ⟨_, h⟩ | ⟨_, h⟩)
  · exact h h3'
  · exact hne h
  · rw [hs] at h; exact hq' (Option.some.inj h)
theorem ns7 (h1 : p.isEmpty = false) (h2 : (p == [46]) = false) (h3 : (p != [46, 46]) = false) (hr : r = true) (hs : st.isEmpty = true) : normStep r st p = st := by
  have h3' : p = [46, 46] := by simpa using h3
  have hs' : st = [] := by simpa using hs
  unfold normStep
  rw [if_neg (nsN h1 h2), if_neg, if_neg (fun h => h hs')]
  rintro (h | ⟨h, _⟩ | ⟨h, _⟩)
  · exact h h3'
  · rw [hr] at h; cases h
  · exact h hs'
theorem rr1 {l : List UInt8} (h : l.isEmpty = true) : (!l.isEmpty) = false := by rw [h]; rfl
theorem rr2 {l : List UInt8} (h : l.isEmpty = false) : (!l.isEmpty) = true := by rw [h]; rfl
end

theorem normpath_ok (w : World) (l : List UInt8) (t : Tok) (hz : l.length ≤ 500) (h2 : l.head? = some 47 → l[1]? ≠ some 47) :
    Sp w 157 [.bytes l.toArray t] 3 24 (fun _ => True) (fun r tl => (∃ t', r = .bytes (normB l).toArray t') ∧ tl = []) := by
  have hrt := root_len l
  have hre := rest_len l
  intro loose mean mg mb dp un fr gd R s X; revert X; w_top off; k_fill; intro X T pre hd1 hu1 hret; k_dflt walk_at "mine:enter"
  k_steps
  · refine hret _ [] _ _ ?_ (Fr.keep (by k_asm)) (fun _ hp => nomatch hp)
    have e : l = [] := by simpa using (by assumption : l.isEmpty = true)
    subst e
    exact ⟨⟨_, rfl⟩, rfl⟩
  rename_i hv9 _ _ _ _ _ _ _ _
  refine' iter_list [_] [_, _] (fun i m₁ mu₁ => ∃ nc vs n t1 t2 t3 t4, mu₁ = [(nc, W.listOf vs.toArray n)] ∧ BytesAre vs (((splitB (restB l)).take i).foldl (normStep (!(rootB l).isEmpty)) []) ∧ m₁ "new_comps" = some (.ref nc)
     ∧ m₁ "initial_slashes" = some (.bytes (rootB l).toArray t1) ∧ m₁ "dot" = some (.bytes #[46] t2) ∧ m₁ "dotdot" = some (.bytes #[46, 46] t3) ∧ m₁ "sep" = some (.bytes #[47] t4)) rfl ?hl ?st ?mf ?F ?N ?j rfl ?turn ?done
  case F => k_asm
  case N => k_asm
  case hl => exact led_list (by k_asm) (by k_mem)
  case st => exact .inr ⟨_, .head _⟩
  case mf =>
    intro p hp q hq
    have e := List.mem_singleton.mp hp
    subst e
    dsimp only
    rcases List.mem_cons.mp hq with e | hq
    · subst e; dsimp only; exact neN (by omega)
    · have e := List.mem_singleton.mp hq
      subst e; dsimp only; exact neN (by omega)
  case j => exact ⟨_, [], _, _, _, _, _, rfl, trivial, rfl, rfl, rfl, rfl, rfl⟩
  case turn =>
    rintro i v m₁ mu₁ h tk ow hv ⟨nc, vs, n, t1, t2, t3, t4, rfl, hB, e1, e2, e3, e4, e5⟩ hadr hfx hoff F N
    obtain ⟨p, tp, hp, rfl⟩ := BytesAre.get' i (by assumption) hv
    have hS := splitB_sum (restB l)
    have hpl := hS.2 p (List.mem_of_getElem? hp)
    have hin := norm_inv (k := 500) (!(rootB l).isEmpty) ((splitB (restB l)).take i) [] (fun q hq => Nat.le_trans (hS.2 q (List.take_subset _ _ hq)) (by omega)) (fun _ h => nomatch h)
    have hlen : (((splitB (restB l)).take i).foldl (normStep (!(rootB l).isEmpty)) []).length ≤ 501 := by
      have := hin.2
      have h3 : ((splitB (restB l)).take i).length ≤ (splitB (restB l)).length := List.length_take_le' _ _
      simp only [List.length_nil] at this
      omega
    have hJ := foldN_succ (r := !(rootB l).isEmpty) (st := []) hp
    clear hin hS
    generalize ((splitB (restB l)).take i).foldl (normStep (!(rootB l).isEmpty)) [] = st at *
    have hvl := hB.length
    have hnc : ∀ q ∈ ow, q.1 ≠ nc := by
      intro q hq
      have e : [nc] = [_] := hadr
      injection e with e
      rw [e]
      exact hoff q hq _ (.head _)
    have hadr1 : ∀ o : Obj, List.map (fun x : Addr × Obj => x.1) [(nc, o)] = _ := fun _ => hadr
    dsimp only [List.nil_append, List.cons_append] at N
    replace F := see (see (see (see (see F (k := "new_comps") e1) (k := "initial_slashes") e2) (k := "dot") e3) (k := "dotdot") e4) (k := "sep") e5
    try k_fold
    k_steps
    all_goals first
      | exact ⟨_, _, _, [(nc, _)], rfl, by k_asm, by k_asm, hadr1 _, nc, _, _, _, _, _, _, rfl, ba_eq hB (hJ.trans (ns1 (by assumption))), rfl, rfl, rfl, rfl, rfl⟩
      | exact ⟨_, _, _, [(nc, _)], rfl, by k_asm, by k_asm, hadr1 _, nc, _, _, _, _, _, _, rfl, ba_eq hB (hJ.trans (ns2 (by assumption))), rfl, rfl, rfl, rfl, rfl⟩
      | exact ⟨_, _, _, [(nc, _)], rfl, by k_asm, by k_asm, hadr1 _, nc, _, _, _, _, _, _, rfl, ba_eq (hB.append .one) (hJ.trans (ns3 (by assumption) (by assumption) (by assumption))), rfl, rfl, rfl, rfl, rfl⟩
      | exact ⟨_, _, _, [(nc, _)], rfl, by k_asm, by k_asm, hadr1 _, nc, _, _, _, _, _, _, rfl, ba_eq (hB.append .one) (hJ.trans (ns4 (by assumption) (by assumption) (rr1 (by assumption)) (by assumption))), rfl, rfl, rfl, rfl, rfl⟩
      | exact ⟨_, _, _, [(nc, _)], rfl, by k_asm, by k_asm, hadr1 _, nc, _, _, _, _, _, _, rfl, ba_eq (hB.append .one) (hJ.trans (ns5 (by assumption) (by assumption) (by assumption) (by assumption))), rfl, rfl, rfl, rfl, rfl⟩
      | exact ⟨_, _, _, [(nc, _)], rfl, by k_asm, by k_asm, hadr1 _, nc, _, _, _, _, _, _, rfl, ba_eq (by assumption) (hJ.trans (ns6 (by assumption) (by assumption) (by assumption) (by assumption) (by assumption))), rfl, rfl, rfl, rfl, rfl⟩
      | exact ⟨_, _, _, [(nc, _)], rfl, by k_asm, by k_asm, hadr1 _, nc, _, _, _, _, _, _, rfl, ba_eq hB (hJ.trans (ns7 (by assumption) (by assumption) (by assumption) (rr2 (by assumption)) (by assumption))), rfl, rfl, rfl, rfl, rfl⟩
  case done =>
    rintro m₁ mu₁ h tk ⟨nc, vs, n, t1, t2, t3, t4, rfl, hB, e1, e2, e3, e4, e5⟩ hadr F N
    have hS := splitB_sum (restB l)
    have hvv := hv9.length
    have hin := norm_inv (k := 500) (!(rootB l).isEmpty) (splitB (restB l)) [] (fun q hq => Nat.le_trans (hS.2 q hq) (by omega)) (fun _ h => nomatch h)
    rw [hvv, List.take_length] at hB
    have hne : l ≠ [] := fun e => by subst e; exact absurd (by assumption : ([] : List UInt8).isEmpty = false) (by decide)
    have hJ : normB l = if rootB l ++ joinL ((splitB (restB l)).foldl (normStep (!(rootB l).isEmpty)) []) = [] then [46] else rootB l ++ joinL ((splitB (restB l)).foldl (normStep (!(rootB l).isEmpty)) []) := by
      unfold normB
      rw [if_neg hne]
    generalize (splitB (restB l)).foldl (normStep (!(rootB l).isEmpty)) [] = st at *
    have hsum := sum_le hin.1
    have hln := hin.2
    simp only [List.length_nil] at hln
    have hjl := joinL_len st
    have hjz : (joinL st).length ≤ 1000000 := by omega
    dsimp only [List.nil_append, List.cons_append] at N
    replace F := see (see (see (see (see F (k := "new_comps") e1) (k := "initial_slashes") e2) (k := "dot") e3) (k := "dotdot") e4) (k := "sep") e5
    k_steps
    all_goals refine hret _ [] _ _ ?_ (Fr.keep (by k_asm)) (fun _ hp => nomatch hp)
    all_goals first
      | exact ⟨⟨_, congrArg (fun x => Value.bytes (List.toArray x) _) (hJ.trans (if_pos (List.isEmpty_iff.mp (by assumption)))).symm⟩, rfl⟩
      | exact ⟨⟨_, congrArg (fun x => Value.bytes (List.toArray x) _) (hJ.trans (if_neg (fun e => absurd (by assumption : (rootB l ++ joinL st).isEmpty = false) (by rw [e]; decide)))).symm⟩, rfl⟩
      | trace_state

/-! the plain law, first part: join after join is the way laid by _law_joined -/
def sepB (p : List UInt8) (more : Prop) [Decidable more] : List UInt8 := if p ≠ [] ∧ p.getLast? ≠ some 47 ∧ more then [47] else []
def wayAt (ps : List (List UInt8)) (b : Nat) : Nat → List UInt8
  | 0 => []
  | i + 1 => wayAt ps b i ++ ps.getD (b + i) [] ++ sepB (ps.getD (b + i) []) (b + i + 1 < ps.length)
def IsBegin (ps : List (List UInt8)) (b : Nat) : Prop := b < ps.length ∧ (b = 0 ∨ (ps.getD b []).head? = some 47) ∧ ∀ k, b < k → k < ps.length → (ps.getD k []).head? ≠ some 47
theorem joinB_sep {x p : List UInt8} (hp : p.head? ≠ some 47) : joinB x p = x ++ sepB x True ++ p := by
  unfold joinB sepB
  by_cases hx : x = []
  · subst hx; simp
  · by_cases hl : x.getLast? = some 47
    · rw [if_neg (fun h => h.elim hp hx), if_pos hl, if_neg (fun h => h.2.1 hl)]; simp
    · rw [if_neg (fun h => h.elim hp hx), if_neg hl, if_pos ⟨hx, hl, trivial⟩]; simp
theorem sep_join {x p : List UInt8} (hp : p.head? ≠ some 47) (more : Prop) [Decidable more] : sepB (joinB x p) more = sepB p more := by
  rw [joinB_sep hp]
  by_cases h : p = []
  · subst h
    rw [List.append_nil]
    have e1 : sepB ([] : List UInt8) more = [] := if_neg (fun h => h.1 rfl)
    rw [e1]
    unfold sepB
    by_cases hx : x = []
    · subst hx; simp
    · by_cases hl : x.getLast? = some 47
      · simp [hl]
      · have e2 : (if x ≠ [] ∧ x.getLast? ≠ some 47 ∧ True then ([47] : List UInt8) else []) = [47] := if_pos ⟨hx, hl, trivial⟩
        rw [e2]; simp
  · have h1 : (x ++ sepB x True ++ p).getLast? = p.getLast? := by
      rw [List.getLast?_append]
      cases hq : p.getLast? with
      | none => exact absurd (List.getLast?_eq_none_iff.mp hq) h
      | some y => rfl
    have h2 : x ++ sepB x True ++ p ≠ [] := by simp [h]
    unfold sepB at h1 h2 ⊢
    simp only [h1, h2, ne_eq, not_false_eq_true, true_and, h]
theorem sep_true {x : List UInt8} {more : Prop} [Decidable more] (h : more) : sepB x more = sepB x True := by
  unfold sepB
  simp [h]
def foldAt (ps : List (List UInt8)) (b : Nat) : Nat → List UInt8
  | 0 => ps.getD b []
  | i + 1 => joinB (foldAt ps b i) (ps.getD (b + i + 1) [])
theorem way_fold {ps : List (List UInt8)} {b : Nat} (hb : IsBegin ps b) : ∀ i, b + i < ps.length → wayAt ps b (i + 1) = foldAt ps b i ++ sepB (foldAt ps b i) (b + i + 1 < ps.length)
  | 0, _ => by simp [wayAt, foldAt]
  | i + 1, h => by
    have ih := way_fold hb i (by omega)
    have hp : (ps.getD (b + i + 1) []).head? ≠ some 47 := hb.2.2 _ (by omega) (by omega)
    have e : wayAt ps b (i + 1 + 1) = wayAt ps b (i + 1) ++ ps.getD (b + (i + 1)) [] ++ sepB (ps.getD (b + (i + 1)) []) (b + (i + 1) + 1 < ps.length) := rfl
    rw [e, ih, sep_true (show b + i + 1 < ps.length by omega)]
    have e2 : foldAt ps b (i + 1) = joinB (foldAt ps b i) (ps.getD (b + i + 1) []) := rfl
    rw [e2, sep_join hp, joinB_sep hp]
    rfl
theorem fold_at {ps : List (List UInt8)} {b : Nat} (hb : IsBegin ps b) : ∀ i, b + i < ps.length → foldAt ps b i = foldAt ps 0 (b + i)
  | 0, h => by
    cases b with
    | zero => rfl
    | succ b =>
      rcases hb.2.1 with h0 | h0
      · cases h0
      · show ps.getD (b + 1) [] = joinB (foldAt ps 0 b) (ps.getD (0 + b + 1) [])
        rw [Nat.zero_add]
        unfold joinB
        rw [if_pos (.inl h0)]
  | i + 1, h => by
    show joinB (foldAt ps b i) (ps.getD (b + i + 1) []) = joinB (foldAt ps 0 (b + i)) (ps.getD (0 + (b + i) + 1) [])
    rw [fold_at hb i (by omega), Nat.zero_add]
theorem fold_at0 (a : List UInt8) (ps : List (List UInt8)) : ∀ i, i ≤ ps.length → foldAt (a :: ps) 0 i = (ps.take i).foldl joinB a
  | 0, _ => by simp [foldAt]
  | i + 1, h => by
    have ih := fold_at0 a ps i (by omega)
    have hi : i < ps.length := by omega
    rw [fold_succ (p := ps[i]) (by simp [hi]), ← ih]
    show joinB _ ((a :: ps).getD (0 + i + 1) []) = _
    congr 1
    simp [hi]
/-- join's way is the way of _law_joined -/
theorem way_joined {a : List UInt8} {ps : List (List UInt8)} {b : Nat} (hb : IsBegin (a :: ps) b) : wayAt (a :: ps) b ((a :: ps).length - b) = ps.foldl joinB a := by
  have h1 := hb.1
  rw [List.length_cons] at h1
  have e : (a :: ps).length - b = (ps.length - b) + 1 := by rw [List.length_cons]; omega
  rw [e, way_fold hb _ (by rw [List.length_cons]; omega), fold_at hb _ (by rw [List.length_cons]; omega)]
  have e2 : b + (ps.length - b) = ps.length := by omega
  rw [e2, fold_at0 a ps _ (Nat.le_refl _), List.take_length]
  unfold sepB
  rw [if_neg (fun h => by have := h.2.2; rw [List.length_cons] at this; omega), List.append_nil]

section
variable {prog : Program} {w : World} {A : Around} {E : Value → Shared → Prop} {s : Shared} {env : Env} {h₀ : Heap} {L : Addr} {m : Str → Option Value} {news : List (Addr × Obj)}
/-- what a comprehension over any iterator asks and gives -/
theorem comp_walk {I : Addr} {fp wr : List Addr} {n : Nat} {P : Nat → Value → Prop} {St : Nat → Heap → Prop} {scope : Scope} {cl : List (Str × Addr)} {x : Str} {ifs : List Expr} {elt : Expr} {Q : Value → Shared → Prop} {h₁ : Heap}
    (p : Value → Bool) (Fy : Value → Value → Prop) (W : Walks prog w A I fp wr n P St) (hz : n ≤ 1000000) (hst : St 0 s.heap) (hfp : ∀ b ∈ fp, b < s.heap.objs.size)
    (hw : ∀ b ∈ wr, h₁.get? b = none) (hk : ∀ b o, h₁.get? b = some o → s.heap.get? b = some o) (hsz : h₁.objs.size ≤ s.heap.objs.size)
    (F : Fr h₀ L h₁ m) (N : News h₀ L h₁ news)
    (tests : ∀ C i v s₃ m₃, P i v → Fr h₁ C s₃.heap m₃ → m₃ x = some v →
      wpAny (model prog w) A (forIn ifs true fun c r => if r = true then do let ok ← isTrue c (compEnvC scope cl C env) (eval c (compEnvC scope cl C env)); pure (ForInStep.yield ok) else pure (ForInStep.yield r))
        (fun ok s₄ => ok = p v ∧ Keeps s₃ s₄) (fun _ _ => False) s₃)
    (helt : ∀ C i v s₃ m₃, P i v → p v = true → Fr h₁ C s₃.heap m₃ → m₃ x = some v →
      wpAny (model prog w) A (eval elt (compEnvC scope cl C env)) (fun y s₄ => Fy v y ∧ Keeps s₃ s₄) (fun _ _ => False) s₃)
    (h : ∀ D h' tk (ys vs : List Value) k, vs.length = n → (∀ j v, vs[j]? = some v → P j v) → Paired Fy (vs.filter p) ys → Fr h₀ L h' m → News h₀ L h' ((D, PySem.W.listOf ys.toArray k) :: news) → (∀ q ∈ news, q.1 ≠ D) → Q (.ref D) { s with heap := h', toks := tk }) :
    ∃ I' fp wr n P St, Value.ref I = .ref I' ∧ Walks prog w A I' fp wr n P St ∧ n ≤ sizeLine ∧ St 0 s.heap ∧ (∀ b ∈ fp, b < s.heap.objs.size) ∧
      QuietOnC prog w A env scope cl x ifs elt wr P p Fy s ∧
      (∀ D h' tk ys (vs : List Value), s.heap.get? D = none → h'.IsList D ys → h'.PlainList D ys → vs.length = n → (∀ j v, vs[j]? = some v → P j v) → Paired Fy (vs.filter p) ys.toList →
        (∀ b o, b ∉ wr → s.heap.get? b = some o → h'.get? b = some o) → Q (.ref D) { s with heap := h', toks := tk }) := by
  have old : ∀ h' : Heap, (∀ b o, b ∉ wr → s.heap.get? b = some o → h'.get? b = some o) → ∀ b o, h₁.get? b = some o → h'.get? b = some o := fun h' hk' b o e =>
    hk' b o (fun hb => by rw [hw b hb] at e; cases e) (hk b o e)
  refine ⟨I, fp, wr, n, P, St, rfl, W, by rw [sizeLine_eq]; omega, hst, hfp, ⟨fun C i v s₃ m₃ E' hC hP hn hm hk' _ => ?_, fun C i v s₃ m₃ E' hC hP hp hn hm hk' _ => ?_⟩, fun D h' tk ys vs hD _ hpl hlen hP hF hk' => ?_⟩
  · exact wpAny_noRaise (tests C i v s₃ m₃ hP ⟨hn, old _ hk', Nat.le_trans hsz hC⟩ hm)
  · exact wpAny_noRaise (helt C i v s₃ m₃ hP hp ⟨hn, old _ hk', Nat.le_trans hsz hC⟩ hm)
  · obtain ⟨k, hg⟩ := hpl
    obtain ⟨ys⟩ := ys
    have hD1 : h₁.get? D = none := by
      cases e : h₁.get? D with
      | none => rfl
      | some o => rw [hk _ _ e] at hD; cases hD
    refine h D h' tk ys vs k hlen hP hF (F.keeps (old h' hk')) (fun q hq => ?_) (fun q hq e => ?_)
    · rcases List.mem_cons.mp hq with e | hq
      · subst e
        refine ⟨hg, fun e => ?_, ?_⟩
        · obtain ⟨oL, _, _, hL, _⟩ := F.ns
          rw [← e, hD1] at hL; cases hL
        · cases e : h₀.get? D with
          | none => rfl
          | some o => rw [F.keep _ _ e] at hD1; cases hD1
      · exact ⟨old h' hk' _ _ (N q hq).1, (N q hq).2⟩
    · have := (N q hq).1
      rw [e, hD1] at this; cases this

/-- a comprehension stands before its iterator -/
def CompAt (prog : Program) (w : World) (A : Around) (env : Env) (scope : Scope) (cl : List (Str × Addr)) (x : Str) (ifs : List Expr) (elt : Expr) (p : Value → Bool) (Fy : Value → Value → Prop) (Q : Value → Shared → Prop) (E : Value → Shared → Prop) (xv : Value) (s : Shared) : Prop :=
  wpAny (model prog w) A (pyIter xv) (fun it s₂ => ∃ I fp wr n P St, it = .ref I ∧ Walks prog w A I fp wr n P St ∧ n ≤ sizeLine ∧ St 0 s₂.heap ∧ (∀ b ∈ fp, b < s₂.heap.objs.size) ∧
      QuietOnC prog w A env scope cl x ifs elt wr P p Fy s₂ ∧
      (∀ D h' tk ys (vs : List Value), s₂.heap.get? D = none → h'.IsList D ys → h'.PlainList D ys → vs.length = n → (∀ j v, vs[j]? = some v → P j v) → Paired Fy (vs.filter p) ys.toList →
        (∀ b o, b ∉ wr → s₂.heap.get? b = some o → h'.get? b = some o) → Q (.ref D) { s₂ with heap := h', toks := tk })) E s
theorem listcomp {elt iter : Expr} {x : Str} {px : Pos} {ifs : List Expr} {scope : Scope} {cl : List (Str × Addr)} {pos : Pos} {Q : Value → Shared → Prop} (p : Value → Bool) (Fy : Value → Value → Prop)
    (hclos : closureFor scope env = pure cl) (hcell : ∀ y ∈ scope.names, y.2 ≠ .cell) (hkind : scope.kind = .function)
    (hnames : ∀ y ∈ scope.names, y.2 = .local → scope.names.lookup y.1 = some .local) (hx : scope.names.lookup x = some .local)
    (h : wpAny (model prog w) A (eval iter env) (fun xv s₁ => CompAt prog w A env scope cl x ifs elt p Fy Q E xv s₁) E s)
    (hs : ∀ x, foldedSetIterable iter env x = pure x := by intro _; rfl) :
    wpAny (model prog w) A (eval (.ListComp elt [⟨.Name x px, iter, ifs, 0⟩] scope pos) env) Q E s :=
  wpAny_ListComp_free p Fy hclos hcell hkind hnames hx h hs

theorem comp_tup {l : Addr} {vs : List Value} {scope : Scope} {cl : List (Str × Addr)} {x : Str} {ifs : List Expr} {elt : Expr} {Q : Value → Shared → Prop}
    (p : Value → Bool) (Fy : Value → Value → Prop) (hh : A.handled = none) (hl : s.heap.IsTuple l vs.toArray) (hz : vs.length ≤ 1000000) (F : Fr h₀ L s.heap m) (N : News h₀ L s.heap news)
    (tests : ∀ (C : Addr) (i : Nat) (v : Value) (s₃ : Shared) (m₃ : Str → Option Value), vs[i]? = some v → Fr s.heap C s₃.heap m₃ → m₃ x = some v →
      wpAny (model prog w) A (forIn ifs true fun c r => if r = true then do let ok ← isTrue c (compEnvC scope cl C env) (eval c (compEnvC scope cl C env)); pure (ForInStep.yield ok) else pure (ForInStep.yield r))
        (fun ok s₄ => ok = p v ∧ Keeps s₃ s₄) (fun _ _ => False) s₃)
    (helt : ∀ (C : Addr) (i : Nat) (v : Value) (s₃ : Shared) (m₃ : Str → Option Value), vs[i]? = some v → p v = true → Fr s.heap C s₃.heap m₃ → m₃ x = some v →
      wpAny (model prog w) A (eval elt (compEnvC scope cl C env)) (fun y s₄ => Fy v y ∧ Keeps s₃ s₄) (fun _ _ => False) s₃)
    (h : ∀ D h' tk (ys : List Value) k, Paired Fy (vs.filter p) ys → Fr h₀ L h' m → News h₀ L h' ((D, PySem.W.listOf ys.toArray k) :: news) → (∀ q ∈ news, q.1 ≠ D) → Q (.ref D) { s with heap := h', toks := tk }) :
    CompAt prog w A env scope cl x ifs elt p Fy Q E (.ref l) s := by
  obtain ⟨ol, hol, _⟩ := id hl
  have hlt : l < s.heap.objs.size := Heap.lt_size hol
  unfold CompAt
  refine wpAny_pyIter_tuple hl ?_
  have W := Walks.tuple (prog := prog) (w := w) hh s.heap.objs.size l (Nat.ne_of_lt hlt) vs.toArray
  refine comp_walk (h₁ := s.heap) p Fy W (by rw [List.size_toArray]; exact hz) ⟨⟨_, Heap.get?_push_size _ rfl, rfl, rfl⟩, hl.at fun o e => Heap.get?_push_of_some _ e⟩ ?_ ?_ (fun b o e => Heap.get?_push_of_some _ e) (by rw [Heap.size_push]; omega) F N
    (fun C i v s₃ m₃ hP => tests C i v s₃ m₃ (by simpa using hP)) (fun C i v s₃ m₃ hP => helt C i v s₃ m₃ (by simpa using hP)) (fun D h' tk ys us k hlen hP hF F' N' hn => ?_)
  · intro b hb
    rw [Heap.size_push]
    rcases List.mem_cons.mp hb with e | hb
    · rw [e]; exact Nat.lt_succ_self _
    · rw [List.mem_singleton.mp hb]; exact Nat.lt_succ_of_lt hlt
  · intro b hb
    rw [List.mem_singleton.mp hb]
    exact Heap.get?_none_of_le (Nat.le_refl _)
  · have : us = vs := by
      apply List.ext_getElem?
      intro j
      by_cases hj : j < us.length
      · have := hP j us[j] (by simp [hj])
        rw [List.getElem?_eq_getElem hj]
        exact (by simpa using this : vs[j]? = some us[j]).symm
      · rw [List.getElem?_eq_none (by omega), List.getElem?_eq_none (by rw [List.size_toArray] at hlen; omega)]
    subst this
    exact h D h' tk ys k hF F' N' hn
end

theorem led_tup {s : Shared} {h₀ : Heap} {L D : Addr} {news : List (Addr × Obj)} {vs : List Value} (N : News h₀ L s.heap news) (hm : (D, tupOf vs) ∈ news) : s.heap.IsTuple D vs.toArray := ⟨_, N.get hm, rfl, 0, rfl⟩

/-- a while's turn has ended -/
def WEnd (h₀ : Heap) (L : Addr) (s : Shared) (news : List (Addr × Obj)) (J : Nat → (Str → Option Value) → Prop) (Q : Flow → Shared → Prop) (n : Nat) (f : Flow) (s₃ : Shared) : Prop :=
  match f with
  | .next | .cont => ∃ h' tk m₂ n', s₃ = { s with heap := h', toks := tk } ∧ Fr h₀ L h' m₂ ∧ News h₀ L h' news ∧ n' < n ∧ J n' m₂
  | .brk => Q .next s₃
  | .ret v => Q (.ret v) s₃
theorem while_inv {prog : Program} {w : World} {A : Around} {E : Value → Shared → Prop} {Q : Flow → Shared → Prop} {s : Shared} {env : Env} {h₀ : Heap} {L : Addr} {test : Expr} {body : List Stmt} {pos : Pos} {m : Str → Option Value} {news : List (Addr × Obj)}
    (J : Nat → (Str → Option Value) → Prop) {n₀ : Nat}
    (F : Fr h₀ L s.heap m) (N : News h₀ L s.heap news) (hJ : J n₀ m)
    (turn : ∀ n m₁ h₁ tk₁, Fr h₀ L h₁ m₁ → News h₀ L h₁ news → J n m₁ →
      wpAny (model prog w) A (isTrue test env (eval test env)) (fun b s₂ =>
        if b = true then wpAny (model prog w) A (execs body env) (WEnd h₀ L s news J Q n) E s₂ else Q .next s₂) E { s with heap := h₁, toks := tk₁ })
    (hE : PassesOwn (model prog w) A env E := by passes_own) :
    wpAny (model prog w) A (exec (.While test body [] pos) env) Q E s := by
  refine wpAny_While (codeAny_whileLoop (fun n s' => ∃ h₁ tk₁ m₁, s' = { s with heap := h₁, toks := tk₁ } ∧ Fr h₀ L h₁ m₁ ∧ News h₀ L h₁ news ∧ J n m₁) ?_ n₀ ⟨s.heap, s.toks, m, rfl, F, N, hJ⟩)
  rintro n s' ⟨h₁, tk₁, m₁, rfl, F₁, N₁, J₁⟩
  refine wpAny_mono (turn n m₁ h₁ tk₁ F₁ N₁ J₁) (fun b s₂ h₂ => ?_) hE
  cases b with
  | false =>
    simp only [Bool.false_eq_true, if_false] at h₂ ⊢
    exact wpAny_execs_nil h₂
  | true =>
    simp only [if_true] at h₂ ⊢
    refine wpAny_mono h₂ (fun f s₃ h₃ => ?_) hE
    cases f with
    | next =>
      obtain ⟨h', tk, m₂, n', rfl, F₂, N₂, hn, J₂⟩ := h₃
      exact ⟨n', hn, h', tk, m₂, rfl, F₂, N₂, J₂⟩
    | cont =>
      obtain ⟨h', tk, m₂, n', rfl, F₂, N₂, hn, J₂⟩ := h₃
      exact ⟨n', hn, h', tk, m₂, rfl, F₂, N₂, J₂⟩
    | brk => exact h₃
    | ret v => exact h₃

/-- the number to the base 16 by the letters A to P -/
def wordF : Nat → Nat → List UInt8
  | 0, _ => []
  | f + 1, n => if n = 0 then [] else wordF f (n / 16) ++ [UInt8.ofNat (65 + n % 16)]
abbrev wordB (n : Nat) : List UInt8 := wordF 3 n

/-- the walk stands still here -/
def Stopped (P : Prop) : Prop := P
theorem stopped {P : Prop} (h : Stopped P) : P := h

local macro_rules | `(tactic| walk_at "exec While Name cons nil") => `(tactic| (k_here; refine stopped ?_))

local macro_rules | `(tactic| walk_at "mine:size") => `(tactic| (refine Nat.le_trans (Nat.add_le_add_right (cut_le _ _ _) _) ?_; (simp only [List.length_cons, List.length_nil]); omega))

theorem fdivN (n : Nat) : (n : Int).fdiv 16 = ((n / 16 : Nat) : Int) := by
  rw [Int.fdiv_eq_ediv_of_nonneg _ (by omega)]; rfl
theorem fmodN (n : Nat) : (n : Int).fmod 16 = ((n % 16 : Nat) : Int) := by
  rw [Int.fmod_eq_emod_of_nonneg _ (by omega)]; rfl
theorem cut_ap (n : Nat) : cut [65, 66, 67, 68, 69, 70, 71, 72, 73, 74, 75, 76, 77, 78, 79, 80] (some ((n : Int).fmod 16)) (some ((n : Int).fmod 16 + 1)) = [UInt8.ofNat (65 + n % 16)] := by
  rw [fmodN]
  have h : n % 16 < 16 := Nat.mod_lt _ (by omega)
  generalize n % 16 = j at h
  have : ∀ j : Fin 16, cut [65, 66, 67, 68, 69, 70, 71, 72, 73, 74, 75, 76, 77, 78, 79, 80] (some ((j.val : Nat) : Int)) (some (((j.val : Nat) : Int) + 1)) = [UInt8.ofNat (65 + j.val)] := by decide
  exact this ⟨j, h⟩
theorem word_step {n num : Nat} {val : List UInt8} (hn : num ≠ 0) (h1 : num < 16 ^ (n + 1)) : num / 16 < 16 ^ n ∧ wordF n (num / 16) ++ ([UInt8.ofNat (65 + num % 16)] ++ val) = wordF (n + 1) num ++ val := by
  refine ⟨?_, ?_⟩
  · rw [Nat.pow_succ] at h1
    exact (Nat.div_lt_iff_lt_mul (by omega)).mpr h1
  · show _ = (if num = 0 then [] else wordF n (num / 16) ++ [UInt8.ofNat (65 + num % 16)]) ++ val
    rw [if_neg hn]
    simp

theorem int2ap_ok (w : World) (k : Int) (t : Tok) (hk : k.natAbs < 4096) :
    Sp w 173 [.int k t] 2 16 (fun _ => True) (fun r tl => (∃ t', r = .bytes (wordB k.natAbs).toArray t') ∧ tl = []) := by
  intro loose mean mg mb dp un fr gd R s X; revert X; w_top off; k_fill; intro X T pre hd1 hu1 hret; k_dflt walk_at "mine:enter"
  k_steps
  unfold Stopped
  refine' while_inv (fun n m₁ => ∃ (num : Nat) (val : List UInt8) (t1 t2 t3 : Tok), m₁ "num" = some (.int num t1) ∧ m₁ "val" = some (.bytes val.toArray t2) ∧ m₁ "AP" = some (.bytes #[65, 66, 67, 68, 69, 70, 71, 72, 73, 74, 75, 76, 77, 78, 79, 80] t3)
      ∧ num < 16 ^ n ∧ val.length + n ≤ 3 ∧ wordF n num ++ val = wordB k.natAbs) (n₀ := 3) ?F ?N ?j ?turn
  case F => k_asm
  case N => k_asm
  case j => exact ⟨k.natAbs, [], _, _, _, congrArg (fun x => some (Value.int x _)) (by split <;> omega), rfl, rfl, hk, by simp, by simp⟩
  case turn =>
    rintro n m₁ h₁ tk₁ F N ⟨num, val, t1, t2, t3, e1, e2, e3, h1, h2, h3⟩
    replace F := see (see (see F (k := "num") e1) (k := "val") e2) (k := "AP") e3
    try k_fold
    k_steps
    · have hn : num ≠ 0 := by omega
      cases n with
      | zero => simp at h1; omega
      | succ n =>
        obtain ⟨g1, g2⟩ := word_step (val := val) hn h1
        refine ⟨_, _, _, n, rfl, by k_asm, News.nil, by omega, num / 16, _, _, _, _, congrArg (fun x => some (Value.int x _)) (fdivN num), rfl, rfl, g1, ?_, ?_⟩
        · rw [cut_ap]; simp only [List.length_append, List.length_cons, List.length_nil]; omega
        · rw [cut_ap, g2]; exact h3
    · have hn : num = 0 := by omega
      subst hn
      have hw : wordF n 0 = [] := by cases n <;> rfl
      rw [hw, List.nil_append] at h3
      subst h3
      refine hret _ [] _ _ ?_ (Fr.keep (by k_asm)) (fun _ hp => nomatch hp)
      exact ⟨⟨_, rfl⟩, rfl⟩

theorem enter_cells {prog : Program} {w : World} {K : Frag} {A : Around} {s : Shared} {R : Result → Shared → Prop} {name qual : Str} {params : Arguments} {body : List Stmt} {scope : Scope} {dV kV doc pm cdv ct oc : Value}
  {an od : Option Addr} {osl : Array (Option Value)} {f : Addr} {vs : List Value} {p : Program} {loose : List Str} {mean : ExcName → Option Value} {mg mb : Str → Option Value} (X : K.In s.heap) (T : Top p loose mean mg mb s.heap)
    (ho : K.lookup f = some ⟨oc, od, .func (fnOf name qual params body scope dV kV doc pm an cdv ct), osl⟩) (hcd : codeIn K cdv qual = true) (hroom : A.depth < recursionLimit)
    (hbind : bindArgs (fnOf name qual params body scope dV kV doc pm an cdv ct) ⟨vs, []⟩ = pure ((params.args.map (·.arg)).zip vs))
    (hkind : (((params.args.map (·.arg)).zip vs).all fun y => scope.names.lookup y.1 == some .local || scope.names.lookup y.1 == some .cell) = true)
    (hnd : ((cellsFrom 0 scope.names []).map (·.1)).Nodup)
    (h : ∀ L' h₁ tk cells, Fr s.heap L' h₁ (bindL (envOfC qual scope L' f cdv).kindOf ((params.args.map (·.arg)).zip vs) fun _ => none) → News s.heap L' h₁ (cells ++ []) →
      CellsAre (bindC (envOfC qual scope L' f cdv).kindOf ((params.args.map (·.arg)).zip vs) fun _ => none) (cellsFrom (L' + 1) scope.names []) cells →
      wpAny (model prog w) (A.deeper (envOfC qual scope L' f cdv)) (execs body (envOfC qual scope L' f cdv))
        (fun fl s' => R (.ok (.ret (match fl with | .ret v => v | _ => .none))) s') (fun _ _ => False) { s with heap := h₁, toks := tk })
    (hco : scope.isCoroutine = false) (hgen : scope.isGenerator = false) (hk : scope.kind = .function) : codeAny (model prog w) A (.call (.ref f) ⟨vs, []⟩) R s := by
  refine codeAny_call_function (fd := fnOf name qual params body scope dV kV doc pm an cdv ct) hroom (X _ _ ho) rfl hco hgen rfl (codeRec_of X hcd) ?_
  rw [hbind]
  refine wpAny_pure ?_
  refine wpAny_newFunctionEnv_cells hk (kindsX hkind _) fun env' he s' x => ?_
  subst he
  refine ⟨T.nolimit.keeps x.toInCall.keep, codeAny_func ?_⟩
  obtain ⟨h₁, tk, rfl, _⟩ := x.done
  have hk₁ := x.toInCall.keep
  obtain ⟨cells, NC, Y⟩ := Cl.news (h₀ := s.heap) (Nat.le_refl _) fun n c hm => ⟨x.cell n c (lookup_of_mem_nodup (cellsFrom_names scope.names 0 (s.heap.objs.size + 1) [] [] rfl ▸ hnd) hm), x.above n c hm⟩
  refine wpAny_mono (h s.heap.objs.size h₁ tk cells ⟨x.toInCall.ns, hk₁, Nat.le_refl _⟩ (fun p hp => ?_) Y) (fun _ _ y => y) (fun _ _ y => y.elim)
  rw [List.append_nil] at hp
  exact NC p hp

local macro_rules | `(tactic| walk_at "mine:enterC") => `(tactic| (
  (refine' enter_cells ?k1 ?k2 ?k6 ?k7 ?k8 ?k9 ?kB ?kD ?_ ?c2 ?c3 ?c4; (case k1 => k_asm); (case k2 => k_asm); (case k6 => k_is); (case k7 => k_is); (case k8 => ktr_room); (case k9 => exact rfl); (case kB => exact rfl); (case kD => decide +kernel); (case c2 => exact rfl); (case c3 => exact rfl); (case c4 => exact rfl); k_whole; intro L' h' tk' cells' F' N' Y'; k_cells Y'; (try simp only [List.cons_append, List.nil_append] at N'); (try dsimp only); (try k_fold))))

section
variable {M : Model} {A : Around} {E : Value → Shared → Prop} {s : Shared} {h₁ : Heap} {C c : Addr} {m₃ : Str → Option Value} {scope : Scope} {cl : List (Str × Addr)} {env : Env} {x : Str} {pos : Pos} {v : Value} {o : Obj} {Q : Value → Shared → Prop}
theorem nm_loc (F : Fr h₁ C s.heap m₃) (hv : m₃ x = some v) (h : Q v s)
    (hk : (relabel scope env).kind = .function := by rfl) (hx : (compEnvC scope cl C env).kindOf x = some .local := by rfl) (hd : (x == ("__debug__" : Str)) = false := by decide) :
    wpAny M A (eval (.Name x pos) (compEnvC scope cl C env)) Q E s := wpAny_Name (wpAny_loadName_local hk hx F.ns hv h) hd
theorem nm_cell (F : Fr h₁ C s.heap m₃) (hc : cl.lookup x = some c) (ho : h₁.get? c = some o) (hd : o.data = .cell (some v)) (h : Q v s)
    (hk : (relabel scope env).kind = .function := by rfl) (hx : (compEnvC scope cl C env).kindOf x = some .cell := by rfl) (hb : (x == ("__debug__" : Str)) = false := by decide) :
    wpAny M A (eval (.Name x pos) (compEnvC scope cl C env)) Q E s := wpAny_Name (wpAny_loadName_cell hk hx hc ⟨o, F.keep _ _ ho, hd⟩ h) hb
end
theorem forIn_one {M : Model} {A : Around} {E : Value → Shared → Prop} {s : Shared} {c : Expr} {env : Env} {Q : Bool → Shared → Prop} (h : wpAny M A (isTrue c env (eval c env)) Q E s) :
    wpAny M A (forIn [c] true fun c r => if r = true then do let ok ← isTrue c env (eval c env); pure (ForInStep.yield ok) else pure (ForInStep.yield r)) Q E s := by
  rw [List.forIn_cons]
  simp only [if_true]
  refine wpAny_bind (wpAny_bind (wpAny_mono h (fun ok s' hq => wpAny_pure ?_) fun _ _ e => e))
  exact wpAny_pure hq

local macro_rules | `(tactic| walk_at "eval ListComp") => `(tactic| (k_here; refine stopped ?_))

local macro_rules | `(tactic| walk_at "eval Name") => `(tactic| (k_here; (with_reducible show wpAny _ _ (eval (Expr.Name _ _) (compEnvC _ _ _ _)) _ _ _); k_dflt (first
  | (refine' nm_loc ?F ?v ?_; (case F => k_asm); (case v => assumption))
  | (refine' nm_cell ?F ?c ?o ?d ?_; (case F => k_asm); (case c => exact rfl); (case o => assumption); (case d => assumption)))))

def WordElt (n : Nat) (v y : Value) : Prop := ∃ j t1 t2, v = .int j t1 ∧ y = .int (65 + ((n / 16 ^ j.toNat % 16 : Nat) : Int)) t2
theorem word_val {a : Int} {n e : Nat} (h : a = n) : 65 + (a.fdiv ((16 : Int) ^ e)).fmod 16 = 65 + ((n / 16 ^ e % 16 : Nat) : Int) := by
  subst h
  have h1 : ((16 : Int) ^ e) = ((16 ^ e : Nat) : Int) := by simp
  have h2 : (0 : Int) ≤ ((16 ^ e : Nat) : Int) := Int.natCast_nonneg _
  rw [h1, Int.fdiv_eq_ediv_of_nonneg _ h2, Int.fmod_eq_emod_of_nonneg _ (by omega), ← Int.natCast_ediv]
  rfl

theorem make_b {prog : Program} {w : World} {A : Around} {E : Value → Shared → Prop} {s : Shared} {h₀ : Heap} {L D : Addr} {m : Str → Option Value} {news : List (Addr × Obj)} {vs : List Value} {ns : List Int} {l : List UInt8} {Q : Value → Shared → Prop}
    (F : Fr h₀ L s.heap m) (N : News h₀ L s.heap news) (hh : A.handled = none) (hl : s.heap.IsList D vs.toArray) (hi : IntsAre vs ns) (hr : ∀ n ∈ ns, 0 ≤ n ∧ n < 256) (hn : ns.length ≤ 16777216) (e : byteArr ns = l.toArray)
    (h : ∀ h' t' k, Fr h₀ L h' m → News h₀ L h' news → Q (.bytes l.toArray t') { s with heap := h', toks := k }) : wpAny (model prog w) A (call (.type "bytes") [.ref D]) Q E s := by
  refine KBa.make_K F N hh hl hi hr hn fun h' t' k F' N' _ => ?_
  rw [e]
  exact h h' t' k F' N'
theorem word_dig (n e : Nat) : 0 ≤ 65 + ((n / 16 ^ e % 16 : Nat) : Int) ∧ 65 + ((n / 16 ^ e % 16 : Nat) : Int) < 256 := by
  have := Nat.mod_lt (n / 16 ^ e) (show 16 > 0 by omega)
  omega
theorem word_u8 (n e : Nat) : (65 + ((n / 16 ^ e % 16 : Nat) : Int)).toNat.toUInt8 = UInt8.ofNat (65 + n / 16 ^ e % 16) := by
  have : (65 + ((n / 16 ^ e % 16 : Nat) : Int)).toNat = 65 + n / 16 ^ e % 16 := by omega
  rw [this]
theorem word_ints {n : Nat} (hn : n < 4096) {a b c : Tok} {ys : List Value}
    (h : Paired (WordElt n) (List.filter (fun v => match v with | .int j _ => decide ((16 : Int) ^ j.toNat ≤ (n : Int)) | _ => false) [.int 2 a, .int 1 b, .int 0 c]) ys) :
    ∃ ns, IntsAre ys ns ∧ (∀ m ∈ ns, 0 ≤ m ∧ m < 256) ∧ ns.length ≤ 3 ∧ byteArr ns = (wordB n).toArray := by
  have e2 : ((16 : Int) ^ (2 : Int).toNat) = 256 := by decide
  have e1 : ((16 : Int) ^ (1 : Int).toNat) = 16 := by decide
  have e0 : ((16 : Int) ^ (0 : Int).toNat) = 1 := by decide
  have one : ∀ {j : Int} {t : Tok} {y : Value}, WordElt n (.int j t) y → ∃ t2, y = .int (65 + ((n / 16 ^ j.toNat % 16 : Nat) : Int)) t2 := by
    rintro j t y ⟨j', t1, t2, e, rfl⟩
    cases e
    exact ⟨t2, rfl⟩
  simp only [List.filter_cons, e2, e1, e0, List.filter_nil, decide_eq_true_eq] at h
  by_cases h2 : 256 ≤ n
  · rw [if_pos (by omega), if_pos (by omega), if_pos (by omega)] at h
    cases h with
    | cons ha h => cases h with
      | cons hb h => cases h with
        | cons hc h =>
          cases h
          obtain ⟨ta, rfl⟩ := one ha
          obtain ⟨tb, rfl⟩ := one hb
          obtain ⟨tc, rfl⟩ := one hc
          refine ⟨_, .cons _ _ (.cons _ _ (.cons _ _ .nil)), ?_, by simp, ?_⟩
          · intro m hm
            simp only [List.mem_cons, List.not_mem_nil, or_false] at hm
            rcases hm with rfl | rfl | rfl <;> exact word_dig _ _
          · unfold byteArr
            simp only [List.map_cons, List.map_nil, word_u8]
            have w0 : n ≠ 0 := by omega
            have w1 : n / 16 ≠ 0 := by omega
            have w2 : n / 16 / 16 ≠ 0 := by omega
            simp only [wordF, w0, w1, w2, if_false, List.nil_append, List.cons_append]
            have g2 : n / 16 ^ (2 : Int).toNat = n / 16 / 16 := by show n / 256 = _; omega
            have g1 : n / 16 ^ (1 : Int).toNat = n / 16 := rfl
            have g0 : n / 16 ^ (0 : Int).toNat = n := by show n / 1 = n; omega
            rw [g2, g1, g0]
  · rw [if_neg (by omega)] at h
    by_cases h1 : 16 ≤ n
    · rw [if_pos (by omega), if_pos (by omega)] at h
      cases h with
      | cons hb h => cases h with
        | cons hc h =>
          cases h
          obtain ⟨tb, rfl⟩ := one hb
          obtain ⟨tc, rfl⟩ := one hc
          refine ⟨_, .cons _ _ (.cons _ _ .nil), ?_, by simp, ?_⟩
          · intro m hm
            simp only [List.mem_cons, List.not_mem_nil, or_false] at hm
            rcases hm with rfl | rfl <;> exact word_dig _ _
          · unfold byteArr
            simp only [List.map_cons, List.map_nil, word_u8]
            have w0 : n ≠ 0 := by omega
            have w1 : n / 16 ≠ 0 := by omega
            have w2 : n / 16 / 16 = 0 := by omega
            simp only [wordF, w0, w1, w2, if_false, if_true, List.nil_append, List.cons_append]
            have g1 : n / 16 ^ (1 : Int).toNat = n / 16 := rfl
            have g0 : n / 16 ^ (0 : Int).toNat = n := by show n / 1 = n; omega
            rw [g1, g0]
    · rw [if_neg (by omega)] at h
      by_cases h0 : 1 ≤ n
      · rw [if_pos (by omega)] at h
        cases h with
        | cons hc h =>
          cases h
          obtain ⟨tc, rfl⟩ := one hc
          refine ⟨_, .cons _ _ .nil, ?_, by simp, ?_⟩
          · intro m hm
            simp only [List.mem_cons, List.not_mem_nil, or_false] at hm
            subst hm
            exact word_dig _ _
          · unfold byteArr
            simp only [List.map_cons, List.map_nil, word_u8]
            have w0 : n ≠ 0 := by omega
            have w1 : n / 16 = 0 := by omega
            simp only [wordF, w0, w1, if_false, if_true, List.nil_append, List.cons_append]
            have g0 : n / 16 ^ (0 : Int).toNat = n := by show n / 1 = n; omega
            rw [g0]
      · rw [if_neg (by omega)] at h
        cases h
        have : n = 0 := by omega
        subst this
        exact ⟨[], .nil, (fun _ hm => (nomatch hm)), by decide, rfl⟩

theorem word_ok (w : World) (k : Int) (t : Tok) (hk : k.natAbs < 4096) :
    Sp w 185 [.int k t] 2 16 (fun _ => True) (fun r tl => (∃ t', r = .bytes (wordB k.natAbs).toArray t') ∧ tl = []) := by
  intro loose mean mg mb dp un fr gd R s X; revert X; w_top off; k_fill; intro X T pre hd1 hu1 hret; k_dflt walk_at "mine:enterC"
  k_steps
  unfold Stopped
  refine' listcomp (fun v => match v with | .int j _ => decide ((16 : Int) ^ j.toNat ≤ k.natAbs) | _ => false) (WordElt k.natAbs) ?c1 ?c2 ?c3 ?c4 ?c5 ?_
  case c1 => exact rfl
  case c2 => decide
  case c3 => exact rfl
  case c4 => decide
  case c5 => exact rfl
  k_steps
  have habs : (if k < 0 then -k else k) = (k.natAbs : Int) := by split <;> omega
  have hc := News.get (by k_asm : News s.heap _ _ _) (.tail _ (.head _))
  refine' comp_tup _ _ ?hh (led_tup (by k_asm) (by k_mem)) ?z ?F ?N ?tests ?elt ?h
  case F => k_asm
  case N => k_asm
  case hh => exact rfl
  case z => simp
  case tests =>
    intro C i v s₃ m₃ hv F hm
    have hj : ∃ (j : Int) (tj : Tok), v = .int j tj ∧ (j = 2 ∨ j = 1 ∨ j = 0) := by
      have := List.mem_of_getElem? hv
      simp only [List.mem_cons, List.not_mem_nil, or_false] at this
      rcases this with e | e | e <;> exact ⟨_, _, e, by simp⟩
    obtain ⟨j, tj, rfl, hj⟩ := hj
    refine forIn_one ?_
    rcases hj with rfl | rfl | rfl
    all_goals k_steps
    all_goals first
      | exact ⟨_, _, rfl, fun _ _ e => e⟩
      | exact congrArg (fun x : Int => decide ((16 : Int) ^ _ ≤ x)) habs
  case elt =>
    intro C i v s₃ m₃ hv hp F hm
    have hj : ∃ (j : Int) (tj : Tok), v = .int j tj ∧ (j = 2 ∨ j = 1 ∨ j = 0) := by
      have := List.mem_of_getElem? hv
      simp only [List.mem_cons, List.not_mem_nil, or_false] at this
      rcases this with e | e | e <;> exact ⟨_, _, e, by simp⟩
    obtain ⟨j, tj, rfl, hj⟩ := hj
    rcases hj with rfl | rfl | rfl
    all_goals k_steps
    all_goals first
      | exact ⟨_, _, rfl, fun _ _ e => e⟩
      | exact ⟨_, _, _, rfl, congrArg (fun x : Int => Value.int x _) (word_val habs)⟩
  case h =>
    intro D h' tk ys k' hP F N hn
    obtain ⟨ns, hi, hr, hnl, he⟩ := word_ints hk hP
    k_steps
    refine hret _ [] _ _ ?_ (Fr.keep (by k_asm)) (fun _ hp => nomatch hp)
    exact ⟨⟨_, congrArg (fun x => Value.bytes x _) he⟩, rfl⟩

def partB (cell : Int) : List UInt8 :=
  if cell.fmod 8 < 2 then [46, 46] else if cell.fmod 8 = 2 then [46] else if cell.fmod 8 = 3 then [47] ++ wordB ((cell.fdiv 8).fmod 4096).natAbs
  else if cell.fmod 8 = 4 then wordB ((cell.fdiv 8).fmod 4096).natAbs ++ [47] else wordB ((cell.fdiv 8).fmod 4096).natAbs
theorem wordF_len : ∀ (f n : Nat), (wordF f n).length ≤ f
  | 0, _ => Nat.le_refl _
  | f + 1, n => by
    unfold wordF
    split
    · simp
    · have := wordF_len f (n / 16)
      rw [List.length_append]; simp; omega

theorem fm_bound (x : Int) : (x.fmod 4096).natAbs < 4096 := by
  have h1 := Int.fmod_nonneg_of_pos x (show (0 : Int) < 4096 by omega)
  have h2 := Int.fmod_lt_of_pos x (show (0 : Int) < 4096 by omega)
  omega
theorem fm_boundN (x : Int) : (-(x.fmod 4096)).natAbs < 4096 := by
  have := fm_bound x
  omega

local macro_rules | `(tactic| walk_at "mine:num") => `(tactic| first | exact fm_bound _ | exact fm_boundN _ | assumption | omega)

theorem fnAt_keeps {q : Addr} {h h' : Heap} (X : FnAt q h) (hk : ∀ b o, h.get? b = some o → h'.get? b = some o) : FnAt q h' := by
  obtain ⟨a, b, c, d, e⟩ := X
  exact ⟨a, b, c, d, hk _ _ e⟩

local macro_rules | `(tactic| walk_at "callWith ref") => `(tactic| (k_here; k_dflt (refine' callWith_F ?k1 ?_; (case k1 => exact fnAt_keeps (by assumption) (Fr.keep (by k_asm))); k_whole)))

local macro_rules | `(tactic| walk_at "FnAt") => `(tactic| (k_dflt (exact fnAt_keeps (by assumption) (Fr.keep (by k_asm)))))

/-- a def that writes the word of a number -/
structure WordAt (w : World) (g : Addr) : Prop where
  go : ∀ (k : Int) (t : Tok), k.natAbs < 4096 → Sp w g [.int k t] 2 16 (fun _ => True) (fun r tl => (∃ t', r = .bytes (wordB k.natAbs).toArray t') ∧ tl = [])

local macro_rules | `(tactic| walk_at "call ref") => `(tactic| (k_here; k_dflt (refine' Sp.use (WordAt.go (by assumption) _ _ ?n) ?F ?X ?N ?T ?p ?d ?u ?_; (walk_at "mine:use"); (case p => trivial); (case n => walk_at "mine:num"); (intro r9 tl9 h' tk' hr9 F' N' hn9 hk9; obtain ⟨⟨t9, e1⟩, e2⟩ := hr9; subst e1; subst e2; (try simp only [List.nil_append] at N'); (try k_sweep)))))

local macro_rules | `(tactic| walk_at "call ref") => `(tactic| (k_here; k_dflt (refine' Sp.use (word_ok _ _ _ ?n) ?F ?X ?N ?T ?p ?d ?u ?_; (walk_at "mine:use"); (case p => trivial); (case n => walk_at "mine:num"); (intro r9 tl9 h' tk' hr9 F' N' hn9 hk9; obtain ⟨⟨t9, e1⟩, e2⟩ := hr9; subst e1; subst e2; (try simp only [List.nil_append] at N'); (try k_sweep)))))

/-- a list's values are these ints (apart from IntsAre, so that the library's folds stand off) -/
structure NumsAre (vs : List Value) (ns : List Int) : Prop where
  out : IntsAre vs ns
theorem NumsAre.length {vs : List Value} {ns : List Int} (h : NumsAre vs ns) : vs.length = ns.length := h.out.length
theorem NumsAre.get' {vs : List Value} {ns : List Int} (i : Nat) {v : Value} (h : NumsAre vs ns) (e : vs[i]? = some v) : ∃ n t, ns[i]? = some n ∧ v = .int n t := by
  have hl := h.length
  have hi : i < ns.length := by
    rcases Nat.lt_or_ge i vs.length with h1 | h1
    · omega
    · rw [List.getElem?_eq_none h1] at e; cases e
  obtain ⟨t, ht⟩ := IntsAre.get h.out i ns[i] (by simp [hi])
  rw [ht] at e
  exact ⟨ns[i], t, by simp [hi], (Option.some.inj e).symm⟩

local macro_rules | `(tactic| walk_at "pyIter ref") => `(tactic| (k_here; refine stopped ?_))

local macro_rules | `(tactic| walk_at "exec For Name Name cons nil") => `(tactic| (k_here; (rename Fr _ _ _ _ => lF'); (with_unfolding_all refine' For_invVF lF' ?k1 ?k2 ?_; (case k1 => exact rfl); (case k2 => exact rfl); k_whole)))


section
variable {ns : List Int} {c : Int} {i : Nat} {us : List Value} {p : List UInt8} {t : Tok}
theorem pt_more (hc : ns[i]? = some c) (hB : BytesAre us ((ns.take i).map partB)) (e : partB c = p) : BytesAre (us ++ [.bytes p.toArray t]) ((ns.take (i + 1)).map partB) := by
  rw [List.take_add_one, hc, List.map_append]
  exact hB.append ⟨⟨t, by rw [e]⟩, trivial⟩
theorem pt1 (h : c.fmod 8 < 2) : partB c = [46, 46] := if_pos h
theorem pt2 (h1 : ¬ c.fmod 8 < 2) (h : c.fmod 8 = 2) : partB c = [46] := by unfold partB; rw [if_neg h1, if_pos h]
theorem pt3 (h1 : ¬ c.fmod 8 < 2) (h2 : ¬ c.fmod 8 = 2) (h : c.fmod 8 = 3) : partB c = [47] ++ wordB ((c.fdiv 8).fmod 4096).natAbs := by unfold partB; rw [if_neg h1, if_neg h2, if_pos h]
theorem pt4 (h1 : ¬ c.fmod 8 < 2) (h2 : ¬ c.fmod 8 = 2) (h3 : ¬ c.fmod 8 = 3) (h : c.fmod 8 = 4) : partB c = wordB ((c.fdiv 8).fmod 4096).natAbs ++ [47] := by unfold partB; rw [if_neg h1, if_neg h2, if_neg h3, if_pos h]
theorem pt5 (h1 : ¬ c.fmod 8 < 2) (h2 : ¬ c.fmod 8 = 2) (h3 : ¬ c.fmod 8 = 3) (h : ¬ c.fmod 8 = 4) : partB c = wordB ((c.fdiv 8).fmod 4096).natAbs := by unfold partB; rw [if_neg h1, if_neg h2, if_neg h3, if_neg h]
theorem pt6 (h1 : ¬ c.fmod 8 < 2) (h2 : ¬ c.fmod 8 = 2) (h3 : ¬ c.fmod 8 = 3) (h : ¬ c.fmod 8 = 4) : partB c = wordB (-((c.fdiv 8).fmod 4096)).natAbs := by rw [pt5 h1 h2 h3 h, Int.natAbs_neg]
end

theorem parts_ok (w : World) (l g : Addr) (vs : List Value) (ns : List Int) (hi : NumsAre vs ns) (hz : ns.length ≤ 20) (hw : ∀ (k : Int) (t : Tok), k.natAbs < 4096 → Sp w g [.int k t] 2 16 (fun _ => True) (fun r tl => (∃ t', r = .bytes (wordB k.natAbs).toArray t') ∧ tl = []))
    (hf : ∀ h : Heap, (hd.heap_39 w.params).In h → FnAt g h) :
    Sp w 192 [.ref l, .ref g] 4 32 (fun h => h.IsList l vs.toArray) (fun r tl => ∃ a, ∃ us : List Value, ∃ n, r = .ref a ∧ tl = [(a, W.listOf us.toArray n)] ∧ BytesAre us (ns.map partB)) := by
  intro loose mean mg mb dp un fr gd R s X; revert X; w_top off; k_fill; intro X T pre hd1 hu1 hret; k_dflt walk_at "mine:enter"
  have hfn := hf _ X
  have hwd : WordAt w g := ⟨hw⟩
  k_steps
  unfold Stopped
  refine' iter_list [_] [] (fun i m₁ mu₁ => ∃ a, ∃ us : List Value, ∃ n, mu₁ = [(a, W.listOf us.toArray n)] ∧ BytesAre us ((ns.take i).map partB) ∧ m₁ "parts" = some (.ref a) ∧ m₁ "word" = some (.ref g)) rfl ?hl ?st ?mf ?F ?N ?j rfl ?turn ?done
  case F => k_asm
  case N => k_asm
  case hl =>
    obtain ⟨o, ho, r⟩ := pre
    exact ⟨o, Fr.keep (by k_asm) _ _ ho, r⟩
  case st =>
    obtain ⟨o, ho, r⟩ := pre
    exact .inl ⟨o, ho⟩
  case mf => exact fun _ _ _ hq => nomatch hq
  case j => exact ⟨_, [], _, rfl, trivial, rfl, rfl⟩
  case turn =>
    rintro i v m₁ mu₁ h tk ow hv ⟨a, us, n, rfl, hB, e1, e2⟩ hadr hfx hoff F N
    obtain ⟨c, tc, hc, rfl⟩ := hi.get' i hv
    have hul := hB.length
    have hus : us.length ≤ 20 := by rw [hul, List.length_map, List.length_take]; omega
    have hwl : (wordB ((c.fdiv 8).fmod 4096).natAbs).length ≤ 3 := wordF_len 3 _
    have hnc : ∀ q ∈ ow, q.1 ≠ a := by
      intro q hq
      have e : [a] = [_] := hadr
      injection e with e
      rw [e]
      exact hoff q hq _ (.head _)
    have hadr1 : ∀ o : Obj, List.map (fun x : Addr × Obj => x.1) [(a, o)] = _ := fun _ => hadr
    dsimp only [List.nil_append, List.cons_append] at N
    replace F := see (see F (k := "parts") e1) (k := "word") e2
    try k_fold
    k_steps
    all_goals first
      | exact ⟨_, _, _, [(a, _)], rfl, by k_asm, by k_asm, hadr1 _, a, _, _, rfl, pt_more hc hB (pt1 (by assumption)), rfl, rfl⟩
      | exact ⟨_, _, _, [(a, _)], rfl, by k_asm, by k_asm, hadr1 _, a, _, _, rfl, pt_more hc hB (pt2 (by assumption) (by assumption)), rfl, rfl⟩
      | exact ⟨_, _, _, [(a, _)], rfl, by k_asm, by k_asm, hadr1 _, a, _, _, rfl, pt_more hc hB (pt3 (by assumption) (by assumption) (by assumption)), rfl, rfl⟩
      | exact ⟨_, _, _, [(a, _)], rfl, by k_asm, by k_asm, hadr1 _, a, _, _, rfl, pt_more hc hB (pt4 (by assumption) (by assumption) (by assumption) (by assumption)), rfl, rfl⟩
      | exact ⟨_, _, _, [(a, _)], rfl, by k_asm, by k_asm, hadr1 _, a, _, _, rfl, pt_more hc hB (pt6 (by assumption) (by assumption) (by assumption) (by assumption)), rfl, rfl⟩
      | exact ⟨_, _, _, [(a, _)], rfl, by k_asm, by k_asm, hadr1 _, a, _, _, rfl, pt_more hc hB (pt5 (by assumption) (by assumption) (by assumption) (by assumption)), rfl, rfl⟩
      | trace_state
  case done =>
    rintro m₁ mu₁ h tk ⟨a, us, n, rfl, hB, e1, e2⟩ hadr F N
    rw [hi.length, List.take_length] at hB
    dsimp only [List.nil_append, List.cons_append] at N
    replace F := see F e1
    k_steps
    refine' hret _ _ _ _ ?_ (Fr.keep (by k_asm)) (ret1 (by k_asm))
    exact ⟨_, _, _, rfl, rfl, hB⟩

/-! the plain law, second part: normpath's way against the folders told by numbers -/
theorem splitB_app (b : List UInt8) : ∀ a : List UInt8, splitB (a ++ 47 :: b) = splitB a ++ splitB b
  | [] => by simp [splitB]
  | x :: r => by
    have ih := splitB_app b r
    simp only [List.cons_append, splitB, ih]
    by_cases hx : x = 47
    · simp [hx]
    · simp only [hx, if_false]
      have hne := splitB_ne r
      cases hs : splitB r with
      | nil => exact absurd hs hne
      | cons p ps => rfl
theorem splitB_plain : ∀ w : List UInt8, (∀ x ∈ w, x ≠ 47) → splitB w = [w]
  | [], _ => rfl
  | x :: r, h => by
    have ih := splitB_plain r fun y hy => h y (.tail _ hy)
    have hx := h x (.head _)
    simp only [splitB, hx, if_false, ih]
def compsB (l : List UInt8) : List (List UInt8) := (splitB l).filter fun p => !p.isEmpty
theorem comps_app (a b : List UInt8) : compsB (a ++ 47 :: b) = compsB a ++ compsB b := by
  unfold compsB
  rw [splitB_app, List.filter_append]
theorem comps_nil : compsB [] = [] := rfl
theorem comps_word {w : List UInt8} (h : ∀ x ∈ w, x ≠ 47) (hne : w ≠ []) : compsB w = [w] := by
  unfold compsB
  rw [splitB_plain w h]
  cases w with
  | nil => exact absurd rfl hne
  | cons x r => rfl
theorem comps_snoc (a : List UInt8) : compsB (a ++ [47]) = compsB a := by
  rw [comps_app, comps_nil, List.append_nil]
theorem comps_cons (a : List UInt8) : compsB (47 :: a) = compsB a := by
  have := comps_app [] a
  rwa [comps_nil, List.nil_append, List.nil_append] at this
theorem comps_rest (l : List UInt8) : compsB (restB l) = compsB l := by
  unfold restB
  cases l with
  | nil => rfl
  | cons x r =>
    by_cases hx : x = 47
    · subst hx
      simp [comps_cons]
    · simp [hx]
theorem fold_filter (r : Bool) : ∀ (ps st : List (List UInt8)), ps.foldl (normStep r) st = (ps.filter fun p => !p.isEmpty).foldl (normStep r) st
  | [], _ => rfl
  | [] :: ps, st => by
    have e : normStep r st [] = st := if_pos (.inl rfl)
    rw [List.foldl_cons, e, fold_filter r ps st]
    rfl
  | (x :: p) :: ps, st => by
    rw [List.foldl_cons, fold_filter r ps _]
    rfl
def normN (r : Bool) (l : List UInt8) : List (List UInt8) := (compsB l).foldl (normStep r) []
theorem normB_eq (l : List UInt8) : normB l = if l = [] then [46] else if rootB l ++ joinL (normN (!(rootB l).isEmpty) l) = [] then [46] else rootB l ++ joinL (normN (!(rootB l).isEmpty) l) := by
  unfold normB normN
  rw [fold_filter]
  have e : List.filter (fun p => !p.isEmpty) (splitB (restB l)) = compsB l := comps_rest l
  rw [e]
theorem last_split {a : List UInt8} {x : UInt8} (h : a.getLast? = some x) : ∃ b, a = b ++ [x] := by
  rcases List.eq_nil_or_concat a with rfl | ⟨b, y, rfl⟩
  · cases h
  · rw [List.concat_eq_append] at h ⊢
    rw [List.getLast?_append] at h
    exact ⟨b, by cases h; rfl⟩
theorem comps_join {way q : List UInt8} (hq : q.head? ≠ some 47) : compsB (joinB way q) = compsB way ++ compsB q := by
  unfold joinB
  by_cases hw : way = []
  · subst hw
    simp [comps_nil]
  · rw [if_neg (fun h => h.elim hq hw)]
    by_cases hl : way.getLast? = some 47
    · rw [if_pos hl]
      obtain ⟨b, rfl⟩ := last_split hl
      rw [List.append_assoc]
      show compsB (b ++ 47 :: q) = _
      rw [comps_app, comps_snoc]
    · rw [if_neg hl, comps_app]
theorem head_join {way q : List UInt8} (hq : q.head? ≠ some 47) : ((joinB way q).head? = some 47 ↔ way.head? = some 47) := by
  unfold joinB
  cases way with
  | nil => simp [hq]
  | cons x r =>
    rw [if_neg (fun h => h.elim hq (fun e => by cases e))]
    split <;> simp
theorem second_join {way q : List UInt8} (hq : q.head? ≠ some 47) (h : way.head? = some 47 → way[1]? ≠ some 47) : (joinB way q).head? = some 47 → (joinB way q)[1]? ≠ some 47 := by
  intro h0
  have h1 := (head_join hq).mp h0
  have h2 := h h1
  unfold joinB
  rcases way with _ | ⟨x, _ | ⟨y, r⟩⟩
  · cases h1
  · have hx : x = 47 := by simpa using h1
    subst hx
    have e : ([47] : List UInt8).getLast? = some 47 := rfl
    rw [if_neg (fun h => h.elim hq (fun e => by cases e)), if_pos e]
    cases q with
    | nil => simp
    | cons z q => simpa using hq
  · rw [if_neg (fun h => h.elim hq (fun e => by cases e))]
    split
    · simpa using h2
    · simpa using h2
theorem join_abs {way q : List UInt8} (hq : q.head? = some 47) : joinB way q = q := if_pos (.inl hq)

/-! words -/
theorem word_mem : ∀ (f n : Nat), ∀ x ∈ wordF f n, ∃ d, d < 16 ∧ x = UInt8.ofNat (65 + d)
  | 0, _, x, h => nomatch h
  | f + 1, n, x, h => by
    unfold wordF at h
    split at h
    · cases h
    · rcases List.mem_append.mp h with h | h
      · exact word_mem f _ x h
      · exact ⟨n % 16, Nat.mod_lt _ (by omega), List.mem_singleton.mp h⟩
theorem dig_val {d : Nat} (h : d < 16) : (UInt8.ofNat (65 + d)).toNat = 65 + d := by
  rw [UInt8.toNat_ofNat']
  omega
theorem word_not {f n : Nat} {x : UInt8} (h : x ∈ wordF f n) : x ≠ 47 ∧ x ≠ 46 := by
  obtain ⟨d, hd, rfl⟩ := word_mem f n x h
  have := dig_val hd
  constructor
  · intro e; rw [e] at this; simp at this; omega
  · intro e; rw [e] at this; simp at this; omega
theorem word_ne {f n : Nat} (hf : f ≠ 0) (hn : n ≠ 0) : wordF f n ≠ [] := by
  cases f with
  | zero => exact absurd rfl hf
  | succ f =>
    unfold wordF
    rw [if_neg hn]
    simp
theorem word_zero (f : Nat) : wordF f 0 = [] := by cases f <;> rfl
theorem word_fold : ∀ (f n : Nat), n < 16 ^ f → (wordF f n).foldl (fun (k : Int) (o : UInt8) => 16 * k + (o.toNat : Int) - 65) 0 = (n : Int)
  | 0, n, h => by simp at h; subst h; rfl
  | f + 1, n, h => by
    unfold wordF
    split
    · rename_i h0; subst h0; rfl
    · have h1 : n / 16 < 16 ^ f := by
        rw [Nat.pow_succ] at h
        exact (Nat.div_lt_iff_lt_mul (by omega)).mpr h
      rw [List.foldl_append, word_fold f _ h1]
      simp only [List.foldl_cons, List.foldl_nil]
      rw [dig_val (Nat.mod_lt _ (by omega))]
      omega

/-! names -/
def nameB (n : Int) : List UInt8 := if n = -1 then [46, 46] else wordB n.natAbs
def NumOk (n : Int) : Prop := n = -1 ∨ (0 < n ∧ n < 4096)
theorem name_ne {n : Int} (h : NumOk n) : nameB n ≠ [] := by
  unfold nameB
  split
  · simp
  · rcases h with h | h
    · contradiction
    · exact word_ne (by omega) (by omega)
theorem name_no47 (n : Int) : ∀ x ∈ nameB n, x ≠ 47 := by
  unfold nameB
  split
  · intro x hx; simp at hx; subst hx; decide
  · exact fun x hx => (word_not hx).1
theorem word_head46 {f n : Nat} (hf : f ≠ 0) (hn : n ≠ 0) : ∃ x r, wordF f n = x :: r ∧ x ≠ 46 ∧ x ≠ 47 := by
  have h := word_ne hf hn
  have h2 := fun x => @word_not f n x
  cases hw : wordF f n with
  | nil => exact absurd hw h
  | cons x r =>
    rw [hw] at h2
    have := h2 x (.head _)
    exact ⟨x, r, rfl, this.2, this.1⟩
theorem wordB_head {n : Nat} (hn : n ≠ 0) : ∃ x r, wordB n = x :: r ∧ x ≠ 46 ∧ x ≠ 47 := word_head46 (by omega) hn
theorem name_dots {n : Int} (h : NumOk n) : nameB n = [46, 46] ↔ n = -1 := by
  constructor
  · intro e
    rcases h with h | h
    · exact h
    · unfold nameB at e
      rw [if_neg (by omega)] at e
      obtain ⟨x, r, e1, e2, _⟩ := wordB_head (n := n.natAbs) (by omega)
      rw [e] at e1
      cases e1
      exact absurd rfl e2
  · intro e; subst e; rfl
theorem name_len (n : Int) : (nameB n).length ≤ 3 := by
  unfold nameB
  split
  · simp
  · exact wordF_len 3 _
def numberB (name : List UInt8) : Int := if name = [46, 46] then -1 else if name = [46] then 0 else name.foldl (fun (k : Int) (o : UInt8) => 16 * k + (o.toNat : Int) - 65) 0
theorem number_name {n : Int} (h : NumOk n) : numberB (nameB n) = n := by
  rcases h with h | h
  · subst h; rfl
  · have hn : ¬ n = -1 := by omega
    unfold nameB
    rw [if_neg hn]
    obtain ⟨x, r, e1, e2, _⟩ := wordB_head (n := n.natAbs) (by omega)
    unfold numberB
    rw [if_neg (fun e => by rw [e1] at e; cases e; exact e2 rfl), if_neg (fun e => by rw [e1] at e; cases e; exact e2 rfl), word_fold 3 _ (by omega)]
    omega

/-! the folders -/
def foldStep (st : Bool × List Int) (cell : Int) : Bool × List Int :=
  let st1 := if cell.fmod 8 = 3 ∨ (cell.fmod 8 = 4 ∧ (cell.fdiv 8).fmod 4096 = 0) then (true, []) else st
  let st2 := if cell.fmod 8 < 2 then (if st1.2 ≠ [] ∧ st1.2.getLast? ≠ some (-1) then (st1.1, st1.2.dropLast) else if st1.1 = false then (st1.1, st1.2 ++ [-1]) else st1) else st1
  if 2 < cell.fmod 8 ∧ (cell.fdiv 8).fmod 4096 ≠ 0 then (st2.1, st2.2 ++ [(cell.fdiv 8).fmod 4096]) else st2
structure Inv (way : List UInt8) (st : Bool × List Int) : Prop where
  root : way.head? = some 47 ↔ st.1 = true
  norm : normN st.1 way = st.2.map nameB
  ok : ∀ n ∈ st.2, NumOk n
  up : st.1 = true → ∀ n ∈ st.2, n ≠ -1
  two : way.head? = some 47 → way[1]? ≠ some 47
theorem inv_begin (b : Bool) : Inv (if b = true then [47] else []) (b, []) := by
  cases b
  · exact ⟨by simp, rfl, (fun _ h => nomatch h), (fun _ _ h => nomatch h), by simp⟩
  · exact ⟨by simp, rfl, (fun _ h => nomatch h), (fun _ _ h => nomatch h), by simp⟩
theorem norm_join {r : Bool} {way q : List UInt8} (hq : q.head? ≠ some 47) : normN r (joinB way q) = (compsB q).foldl (normStep r) (normN r way) := by
  unfold normN
  rw [comps_join hq, List.foldl_append]
theorem norm_word {r : Bool} {st : List (List UInt8)} {w : List UInt8} (h0 : w ≠ []) (h1 : w ≠ [46]) (h2 : w ≠ [46, 46]) : normStep r st w = st ++ [w] := by
  unfold normStep
  rw [if_neg (fun h => h.elim h0 h1), if_pos (.inl h2)]
theorem map_last {ns : List Int} (ok : ∀ n ∈ ns, NumOk n) : (ns.map nameB).getLast? = some [46, 46] ↔ ns.getLast? = some (-1) := by
  rw [List.getLast?_map]
  cases h : ns.getLast? with
  | none => simp
  | some n =>
    have hm := List.mem_of_getLast? h
    simp only [Option.map_some, Option.some.injEq]
    exact name_dots (ok n hm)
theorem inv_word {way q w : List UInt8} {st : Bool × List Int} {n : Int} (I : Inv way st) (hn : 0 < n ∧ n < 4096) (hw : w = wordB n.natAbs) (hc : compsB q = [w]) (hq : q.head? ≠ some 47) : Inv (joinB way q) (st.1, st.2 ++ [n]) := by
  have hN : NumOk n := .inr hn
  obtain ⟨x, r, e1, e2, _⟩ := wordB_head (n := n.natAbs) (by omega)
  have e : nameB n = w := by unfold nameB; rw [if_neg (by omega), hw]
  refine ⟨(head_join hq).trans I.root, ?_, ?_, ?_, second_join hq I.two⟩
  · rw [norm_join hq, hc, I.norm]
    show normStep _ _ _ = _
    have ew : w = x :: r := hw.trans e1
    rw [norm_word (by rw [ew]; simp) (by rw [ew]; intro h; cases h; exact e2 rfl) (by rw [ew]; intro h; cases h; exact e2 rfl), List.map_append, List.map_cons, List.map_nil, e]
  · intro m hm
    rcases List.mem_append.mp hm with hm | hm
    · exact I.ok m hm
    · rw [List.mem_singleton.mp hm]; exact hN
  · intro hr m hm
    rcases List.mem_append.mp hm with hm | hm
    · exact I.up hr m hm
    · rw [List.mem_singleton.mp hm]; omega
theorem inv_same {way q : List UInt8} {st : Bool × List Int} (I : Inv way st) (hc : compsB q = [] ∨ compsB q = [[46]]) (hq : q.head? ≠ some 47) : Inv (joinB way q) st := by
  refine ⟨(head_join hq).trans I.root, ?_, I.ok, I.up, second_join hq I.two⟩
  rw [norm_join hq, I.norm]
  rcases hc with hc | hc
  · rw [hc]; rfl
  · rw [hc]; simp only [List.foldl_cons, List.foldl_nil]; unfold normStep; exact if_pos (Or.inr rfl)
theorem inv_up {way : List UInt8} {st : Bool × List Int} (I : Inv way st) : Inv (joinB way [46, 46]) (if st.2 ≠ [] ∧ st.2.getLast? ≠ some (-1) then (st.1, st.2.dropLast) else if st.1 = false then (st.1, st.2 ++ [-1]) else st) := by
  obtain ⟨r, ns⟩ := st
  have hq : ([46, 46] : List UInt8).head? ≠ some 47 := by decide
  have hn : normN r (joinB way [46, 46]) = normStep r (ns.map nameB) [46, 46] := by
    rw [norm_join hq, I.norm]; rfl
  have hlast := map_last I.ok
  dsimp only at *
  by_cases h : ns ≠ [] ∧ ns.getLast? ≠ some (-1)
  · rw [if_pos h]
    refine ⟨(head_join hq).trans I.root, ?_, fun n hm => I.ok n (List.dropLast_subset _ hm), fun hr n hm => I.up hr n (List.dropLast_subset _ hm), second_join hq I.two⟩
    dsimp only
    rw [hn]
    unfold normStep
    rw [if_neg (by decide), if_neg ?_, if_pos (by simpa using h.1), List.map_dropLast]
    rintro (h1 | ⟨_, h1⟩ | ⟨_, h1⟩)
    · exact h1 rfl
    · exact h.1 (by simpa using h1)
    · exact h.2 (hlast.mp h1)
  · rw [if_neg h]
    cases r with
    | false =>
      rw [if_pos rfl]
      refine ⟨(head_join hq).trans I.root, ?_, ?_, (fun hr => Bool.noConfusion hr), second_join hq I.two⟩
      · dsimp only
        rw [hn]
        unfold normStep
        rw [if_neg (by decide), if_pos ?_, List.map_append]
        · rfl
        · by_cases h1 : ns = []
          · subst h1; exact .inr (.inl ⟨rfl, rfl⟩)
          · refine .inr (.inr ⟨by simpa using h1, hlast.mpr ?_⟩)
            by_cases h2 : ns.getLast? = some (-1)
            · exact h2
            · exact absurd ⟨h1, h2⟩ h
      · intro m hm
        rcases List.mem_append.mp hm with hm | hm
        · exact I.ok m hm
        · rw [List.mem_singleton.mp hm]; exact .inl rfl
    | true =>
      rw [if_neg (by decide)]
      have h1 : ns = [] := by
        by_cases h1 : ns = []
        · exact h1
        · by_cases h2 : ns.getLast? = some (-1)
          · exact absurd rfl (I.up rfl _ (List.mem_of_getLast? h2))
          · exact absurd ⟨h1, h2⟩ h
      subst h1
      refine ⟨(head_join hq).trans I.root, ?_, I.ok, I.up, second_join hq I.two⟩
      dsimp only
      rw [hn]
      rfl
theorem inv_abs {way q : List UInt8} {ns : List Int} (hq : q.head? = some 47) (hn : normN true q = ns.map nameB) (ok : ∀ n ∈ ns, 0 < n ∧ n < 4096) (two : q[1]? ≠ some 47) : Inv (joinB way q) (true, ns) := by
  rw [join_abs hq]
  exact ⟨by simp [hq], hn, fun n hm => .inr (ok n hm), fun _ n hm => by have := ok n hm; omega, fun _ => two⟩
theorem no47_head {w : List UInt8} (h : ∀ x ∈ w, x ≠ 47) : w.head? ≠ some 47 := by
  cases w with
  | nil => simp
  | cons x r => simpa using h x (.head _)
theorem inv_step {way : List UInt8} {st : Bool × List Int} (c : Int) (I : Inv way st) : Inv (joinB way (partB c)) (foldStep st c) := by
  have k0 := Int.fmod_nonneg_of_pos c (show (0 : Int) < 8 by omega)
  have k1 := Int.fmod_lt_of_pos c (show (0 : Int) < 8 by omega)
  have n0 := Int.fmod_nonneg_of_pos (c.fdiv 8) (show (0 : Int) < 4096 by omega)
  have n1 := Int.fmod_lt_of_pos (c.fdiv 8) (show (0 : Int) < 4096 by omega)
  unfold partB foldStep
  generalize c.fmod 8 = k at *
  generalize (c.fdiv 8).fmod 4096 = n at *
  have w47 : ∀ x ∈ wordB n.natAbs, x ≠ 47 := fun x hx => (word_not hx).1
  have wh : (wordB n.natAbs).head? ≠ some 47 := no47_head w47
  by_cases h2 : k < 2
  · rw [if_pos h2]
    simp only [show ¬ (k = 3 ∨ k = 4 ∧ n = 0) by omega, show ¬ (2 < k ∧ n ≠ 0) by omega, if_false, h2, if_true]
    exact inv_up I
  · simp only [h2, if_false]
    by_cases h3 : k = 2
    · subst h3
      simp only [if_true, show ¬ ((2 : Int) = 3 ∨ (2 : Int) = 4 ∧ n = 0) by omega, show ¬ ((2 : Int) < 2 ∧ n ≠ 0) by omega, if_false]
      exact inv_same I (.inr rfl) (by decide)
    · simp only [h3, if_false]
      by_cases hn : n = 0
      · subst hn
        simp only [show ¬ (2 < k ∧ ((0 : Int) ≠ 0)) from fun h => h.2 rfl, if_false]
        have ew : wordB (0 : Int).natAbs = [] := word_zero 3
        rw [ew]
        by_cases h4 : k = 3
        · subst h4
          simp only [if_true, true_or]
          exact inv_abs rfl rfl (fun _ h => nomatch h) (by decide)
        · by_cases h5 : k = 4
          · subst h5
            simp only [h4, if_false, if_true, and_self, or_true]
            exact inv_abs rfl rfl (fun _ h => nomatch h) (by decide)
          · simp only [h4, h5, if_false, false_and, or_self]
            exact inv_same I (.inl rfl) (by decide)
      · have hk : 2 < k := by omega
        simp only [hk, hn, ne_eq, not_false_eq_true, and_self, and_false, or_false, if_true]
        have wne : wordB n.natAbs ≠ [] := word_ne (by omega) (by omega)
        by_cases h4 : k = 3
        · subst h4
          simp only [if_true]
          refine inv_abs (q := [47] ++ wordB n.natAbs) rfl ?_ ?_ ?_
          · obtain ⟨x, r, e1, e2, _⟩ := wordB_head (n := n.natAbs) (by omega)
            unfold normN
            rw [List.singleton_append, comps_cons, comps_word w47 wne]
            show normStep _ _ _ = _
            rw [norm_word wne (by rw [e1]; intro h; cases h; exact e2 rfl) (by rw [e1]; intro h; cases h; exact e2 rfl)]
            show _ = [nameB n]
            unfold nameB
            rw [if_neg (by omega)]
            rfl
          · intro m hm
            rw [List.mem_singleton.mp hm]; omega
          · show (wordB n.natAbs)[0]? ≠ _
            rw [← List.head?_eq_getElem?]
            exact wh
        · simp only [h4, if_false]
          by_cases h5 : k = 4
          · simp only [h5, if_true]
            refine inv_word I (by omega) rfl (q := wordB n.natAbs ++ [47]) ?_ ?_
            · rw [comps_snoc, comps_word w47 wne]
            · rw [List.head?_append]
              cases h : (wordB n.natAbs).head? with
              | none => exact absurd (List.head?_eq_none_iff.mp h) wne
              | some x => rw [h] at wh; exact wh
          · simp only [h5, if_false]
            exact inv_word I (by omega) rfl (comps_word w47 wne) wh
theorem inv_fold : ∀ (cs : List Int) {way : List UInt8} {st : Bool × List Int}, Inv way st → Inv ((cs.map partB).foldl joinB way) (cs.foldl foldStep st)
  | [], _, _, I => I
  | c :: cs, _, _, I => inv_fold cs (inv_step c I)

/-! the straight way -/
def straightB (r : Bool) (ns : List Int) : List UInt8 :=
  if (if r = true then [47] else []) ++ joinL (ns.map nameB) = [] then [46] else (if r = true then [47] else []) ++ joinL (ns.map nameB)
theorem inv_root {way : List UInt8} {st : Bool × List Int} (I : Inv way st) : rootB way = if st.1 = true then [47] else [] := by
  unfold rootB
  by_cases h : st.1 = true
  · rw [if_pos (I.root.mpr h), if_pos h]
  · rw [if_neg (fun q => h (I.root.mp q)), if_neg h]
theorem inv_straight {way : List UInt8} {st : Bool × List Int} (I : Inv way st) : normB way = straightB st.1 st.2 := by
  rw [normB_eq, inv_root I]
  have e : (!(if st.1 = true then ([47] : List UInt8) else []).isEmpty) = st.1 := by cases st.1 <;> rfl
  rw [e, I.norm]
  unfold straightB
  by_cases hw : way = []
  · subst hw
    have h1 : st.1 = false := by
      cases h : st.1 with
      | false => rfl
      | true => exact absurd (I.root.mpr h) (by simp)
    have h2 : st.2.map nameB = [] := by rw [← I.norm]; rfl
    rw [if_pos rfl, h1, h2]
    rfl
  · rw [if_neg hw]
theorem joinL_snoc (ps : List (List UInt8)) (p : List UInt8) : joinL (ps ++ [p]) = if ps = [] then p else joinL ps ++ 47 :: p := by
  cases ps with
  | nil => simp [joinL]
  | cons q ps => simp [joinL]
theorem straight_head {r : Bool} {ns : List Int} (ok : ∀ n ∈ ns, NumOk n) : ((straightB r ns).head? == some 47) = r := by
  unfold straightB
  cases r with
  | true => rfl
  | false =>
    cases ns with
    | nil => rfl
    | cons n ns =>
      have hn := name_ne (ok n (.head _))
      have hh := no47_head (name_no47 n)
      simp only [Bool.false_eq_true, if_false, List.nil_append, List.map_cons, joinL]
      cases hb : nameB n with
      | nil => exact absurd hb hn
      | cons x q =>
        rw [hb] at hh
        simp at hh
        simp [hh]
/-! the climb -/
def climbB : Nat → List UInt8 → List Int → Option (List UInt8 × List Int)
  | 0, _, _ => none
  | f + 1, way, nums => if baseB way = [] then some (way, nums) else if (baseB way).length ≤ 3 ∧ way.length ≤ 500 then climbB f (headB way) (numberB (baseB way) :: nums) else none
theorem base_app {a w : List UInt8} (h : ∀ x ∈ w, x ≠ 47) (ha : a = [] ∨ a.getLast? = some 47) : baseB (a ++ w) = w ∧ dirB (a ++ w) = a := by
  have hw : ∀ x ∈ w.reverse, (x != 47) = true := fun x hx => by simpa using h x (List.mem_reverse.mp hx)
  have h1 : (a ++ w).reverse.takeWhile (· != 47) = w.reverse := by
    rw [List.reverse_append, List.takeWhile_append_of_pos hw]
    rcases ha with rfl | ha
    · simp
    · obtain ⟨b, rfl⟩ := last_split ha
      simp
  have h2 : (a ++ w).reverse.dropWhile (· != 47) = a.reverse := by
    rw [List.reverse_append, List.dropWhile_append_of_pos hw]
    rcases ha with rfl | ha
    · rfl
    · obtain ⟨b, rfl⟩ := last_split ha
      simp
  unfold baseB dirB
  rw [h1, h2, List.reverse_reverse, List.reverse_reverse]
  exact ⟨rfl, rfl⟩
theorem rstrip_one {a : List UInt8} (h : a.getLast? ≠ some 47) : rstripB (a ++ [47]) = a := by
  unfold rstripB
  rw [List.reverse_append]
  simp only [List.reverse_singleton, List.singleton_append, List.dropWhile_cons, beq_self_eq_true, if_true]
  have : a.reverse.dropWhile (· == 47) = a.reverse := by
    rcases List.eq_nil_or_concat a with rfl | ⟨b, y, rfl⟩
    · rfl
    · rw [List.concat_eq_append] at h ⊢
      rw [List.getLast?_append] at h
      have hy : y ≠ 47 := by simpa using h
      simp [hy]
  rw [this, List.reverse_reverse]
theorem joinL_last {ps : List (List UInt8)} (hne : ps ≠ []) (h : ∀ p ∈ ps, p ≠ [] ∧ ∀ x ∈ p, x ≠ 47) : ∃ x, (joinL ps).getLast? = some x ∧ x ≠ 47 := by
  rcases List.eq_nil_or_concat ps with rfl | ⟨qs, q, rfl⟩
  · exact absurd rfl hne
  · rw [List.concat_eq_append] at *
    have hq := h q (by simp)
    rcases List.eq_nil_or_concat q with rfl | ⟨s, y, rfl⟩
    · exact absurd rfl hq.1
    · rw [List.concat_eq_append] at *
      refine ⟨y, ?_, hq.2 y (by simp)⟩
      rw [joinL_snoc]
      split
      · simp
      · have e : joinL qs ++ 47 :: (s ++ [y]) = (joinL qs ++ 47 :: s) ++ [y] := by simp
        rw [e, List.getLast?_append]
        rfl
theorem climb_path (r : Bool) : ∀ (m : Nat) (ns acc : List Int) (f : Nat), ns.length = m → (∀ n ∈ ns, NumOk n) → ns.length < f → ns.length ≤ 100 →
    climbB f ((if r = true then [47] else []) ++ joinL (ns.map nameB)) acc = some ((if r = true then [47] else []), ns ++ acc)
  | 0, ns, acc, f, hm, ok, hf, hz => by
    have e : ns = [] := List.length_eq_zero_iff.mp hm
    subst e
    cases f with
    | zero => omega
    | succ f =>
      cases r <;> rfl
  | m + 1, ns, acc, f, hm, ok, hf, hz => by
    rcases List.eq_nil_or_concat ns with rfl | ⟨ms, n, rfl⟩
    · cases hm
    · rw [List.concat_eq_append] at *
      rw [List.length_append, List.length_singleton] at hm hf hz
      cases f with
      | zero => omega
      | succ f =>
        have okm : ∀ x ∈ ms, NumOk x := fun x hx => ok x (by simp [hx])
        have okn : NumOk n := ok n (by simp)
        have ih := climb_path r m ms (n :: acc) f (by omega) okm (by omega) (by omega)
        have hlen : ∀ p ∈ (ms ++ [n]).map nameB, p.length ≤ 3 := by
          intro p hp
          obtain ⟨x, _, rfl⟩ := List.mem_map.mp hp
          exact name_len x
        have hsz := joinL_len ((ms ++ [n]).map nameB)
        have hsum := sum_le hlen
        simp only [List.length_map, List.length_append, List.length_singleton] at hsz hsum
        have hroot : ((if r = true then [47] else []) : List UInt8).length ≤ 1 := by cases r <;> simp
        have hl : ((if r = true then [47] else []) ++ joinL ((ms ++ [n]).map nameB)).length ≤ 500 := by
          rw [List.length_append]; omega
        have key : baseB ((if r = true then [47] else []) ++ joinL ((ms ++ [n]).map nameB)) = nameB n ∧ headB ((if r = true then [47] else []) ++ joinL ((ms ++ [n]).map nameB)) = (if r = true then [47] else []) ++ joinL (ms.map nameB) := by
          rw [List.map_append, List.map_cons, List.map_nil, joinL_snoc]
          by_cases hms : ms = []
          · subst hms
            have hb := base_app (a := if r = true then [47] else []) (name_no47 n) (by cases r <;> simp)
            simp only [List.map_nil, if_true]
            refine ⟨hb.1, ?_⟩
            unfold headB
            rw [hb.2]
            cases r <;> rfl
          · have hmm : ms.map nameB ≠ [] := by simpa using hms
            rw [if_neg hmm]
            obtain ⟨y, hy, hy47⟩ := joinL_last hmm (fun p hp => by
              obtain ⟨x, hx, rfl⟩ := List.mem_map.mp hp
              exact ⟨name_ne (okm x hx), name_no47 x⟩)
            have e : (if r = true then [47] else []) ++ (joinL (ms.map nameB) ++ 47 :: nameB n) = (((if r = true then [47] else []) ++ joinL (ms.map nameB)) ++ [47]) ++ nameB n := by simp
            rw [e]
            generalize hj : (if r = true then [47] else []) ++ joinL (ms.map nameB) = J
            have hJ : J.getLast? = some y := by
              rw [← hj, List.getLast?_append, hy]
              rfl
            have hb := base_app (a := J ++ [47]) (name_no47 n) (.inr (by rw [List.getLast?_append]; rfl))
            refine ⟨hb.1, ?_⟩
            unfold headB
            rw [hb.2, if_pos]
            · exact rstrip_one (by rw [hJ]; intro h; cases h; exact hy47 rfl)
            · refine ⟨by simp, fun e => ?_⟩
              have hyJ : y ∈ J ++ [47] := List.mem_append.mpr (.inl (List.mem_of_getLast? hJ))
              rw [e] at hyJ
              exact hy47 (List.mem_replicate.mp hyJ).2
        rw [climbB, key.1, key.2, if_neg (name_ne okn), if_pos ⟨name_len n, hl⟩, number_name okn, ih]
        simp
theorem climb_straight {r : Bool} {ns : List Int} (ok : ∀ n ∈ ns, NumOk n) (hz : ns.length ≤ 10) :
    climbB 11 (straightB r ns) [] = some ((if r = true then [47] else []), if ns ≠ [] ∨ r = true then ns else [0]) := by
  unfold straightB
  by_cases h : ns ≠ [] ∨ r = true
  · rw [if_pos h, if_neg, climb_path r ns.length ns [] 11 rfl ok (by omega) (by omega), List.append_nil]
    intro e
    rcases h with h | h
    · cases ns with
      | nil => exact h rfl
      | cons n ns =>
        have := name_ne (ok n (.head _))
        simp [joinL] at e
        exact this e.2.1
    · subst h; cases e
  · have h1 : ns = [] := by
      by_cases h1 : ns = []
      · exact h1
      · exact absurd (.inl h1) h
    have h2 : r = false := by
      cases r with
      | false => rfl
      | true => exact absurd (.inr rfl) h
    subst h1 h2
    rw [if_neg h]
    rfl

/-- a turn's end where the ledger's changing part may be another one (made anew) -/
def TurnEndG (h₀ : Heap) (L : Addr) (ow : List (Addr × Obj)) (J : (Str → Option Value) → List (Addr × Obj) → Prop) (Q : Flow → Shared → Prop) (s : Shared) (f : Flow) (s₂ : Shared) : Prop :=
  match f with
  | .ret v => Q (.ret v) s₂
  | .brk => Q .next s₂
  | _ => ∃ h' tk m' mu', s₂ = { s with heap := h', toks := tk } ∧ Fr h₀ L h' m' ∧ News h₀ L h' (mu' ++ ow) ∧ (∀ p ∈ mu', ∀ q ∈ ow, q.1 ≠ p.1) ∧ J m' mu'

section
variable {prog : Program} {w : World} {A : Around} {E : Value → Shared → Prop} {s : Shared} {env : Env} {h₀ : Heap} {x : Str} {body : List Stmt} {Q : Flow → Shared → Prop}

theorem iter_walkG {I : Addr} {fp wr : List Addr} {n : Nat} {P : Nat → Value → Prop} {St : Nat → Heap → Prop} {m₀ : Str → Option Value} {L : Addr} {mu fx : List (Addr × Obj)} (J : Nat → (Str → Option Value) → List (Addr × Obj) → Prop)
    (W : Walks prog w A I fp wr n P St) (hlive : ∀ i h, St i h → ∀ b ∈ fp, ∃ o, h.get? b = some o) (hst : St 0 s.heap) (hLf : L ∉ fp) (hwr : ∀ b ∈ wr, h₀.get? b = none) (hfx : ∀ p ∈ fx, p.1 ∉ wr) (hmu : ∀ p ∈ mu, p.1 ∉ fp) (hmf : ∀ p ∈ mu, ∀ q ∈ fx, p.1 ≠ q.1)
    (F : Fr h₀ L s.heap m₀) (N : News h₀ L s.heap (mu ++ fx)) (hj : J 0 m₀ mu)
    (hL : env.locals = L)
    (turn : ∀ i v m₁ mu₁ h tk ow, i < n → P i v → J i m₁ mu₁ → (∀ p ∈ fx, p ∈ ow) → (∀ p ∈ mu₁, ∀ q ∈ ow, q.1 ≠ p.1) →
      Fr h₀ L h (fun y => if y = x then some v else m₁ y) → News h₀ L h (mu₁ ++ ow) →
      wpAny (model prog w) A (execs body env) (TurnEndG h₀ L ow (J (i + 1)) Q { s with heap := h, toks := tk }) E { s with heap := h, toks := tk })
    (done : ∀ m₁ mu₁ h tk, J n m₁ mu₁ → (∀ p ∈ mu₁, ∀ q ∈ fx, q.1 ≠ p.1) → Fr h₀ L h m₁ → News h₀ L h (mu₁ ++ fx) → Q .next { s with heap := h, toks := tk }) :
    LoopAtV prog w A h₀ env x body Q E (.ref I) s := by
  subst hL
  let J' : Nat → (Str → Option Value) → List (Addr × Obj) → Prop := fun i m₁ news₁ => ∃ mu₁, news₁ = mu₁ ++ fx ∧ (∀ p ∈ mu₁, ∀ q ∈ fx, q.1 ≠ p.1) ∧ (∀ p ∈ mu₁, p.1 ∉ fp) ∧ J i m₁ mu₁
  refine ⟨I, fp, wr, n, P, St, m₀, mu ++ fx, J', rfl, W, hLf, hwr, ?_, hst, F, N, ⟨mu, rfl, fun p hp q hq e => hmf p hp q hq e.symm, hmu, hj⟩, ?_, ?_⟩
  · intro p hp
    rcases List.mem_append.mp hp with hp | hp
    · exact fun h => hmu p hp (W.sub _ h)
    · exact hfx p hp
  · rintro i v m₁ news₁ s₁ own ⟨h, tk, rfl⟩ hi hP ⟨mu₁, rfl, hsf, hsp, hJ⟩ hoff hown _ hmem hst' F₁ N₁
    have N₂ : News h₀ env.locals h (mu₁ ++ (fx ++ own)) := fun p hp => by
      rcases List.mem_append.mp hp with hp | hp
      · exact N₁ p (List.mem_append.mpr (.inr (List.mem_append.mpr (.inl hp))))
      · rcases List.mem_append.mp hp with hp | hp
        · exact N₁ p (List.mem_append.mpr (.inr (List.mem_append.mpr (.inr hp))))
        · exact N₁ p (List.mem_append.mpr (.inl hp))
    have hsep : ∀ p ∈ mu₁, ∀ q ∈ fx ++ own, q.1 ≠ p.1 := by
      intro p hp q hq e
      rcases List.mem_append.mp hq with hq | hq
      · exact hsf p hp q hq e
      · exact hsp p hp (e ▸ hown q hq)
    refine wpAny_mono (turn i v m₁ mu₁ h tk (fx ++ own) hi hP hJ (fun p hp => List.mem_append.mpr (.inl hp)) hsep F₁ N₂) (fun f s₂ p => ?_) fun _ _ e => e
    have fin : (∃ h' tk' m' mu', s₂ = { ({ s with heap := h, toks := tk } : Shared) with heap := h', toks := tk' } ∧ Fr h₀ env.locals h' m' ∧ News h₀ env.locals h' (mu' ++ (fx ++ own)) ∧ (∀ p ∈ mu', ∀ q ∈ fx ++ own, q.1 ≠ p.1) ∧ J (i + 1) m' mu') →
        LoopStepU h₀ env.locals wr own (J' (i + 1)) { s with heap := h, toks := tk } .next s₂ := by
      rintro ⟨h', tk', m', mu', e, F', N', ha, hm⟩
      have hfp : ∀ p ∈ mu', p.1 ∉ fp := by
        intro p hp hb
        cases q : h₀.get? p.1 with
        | some o => rw [(N' p (List.mem_append.mpr (.inl hp))).2.2] at q; cases q
        | none =>
          obtain ⟨o, ho⟩ := hlive _ _ hst' _ hb
          exact ha p hp _ (List.mem_append.mpr (.inr (hmem _ hb q o ho))) rfl
      refine ⟨rfl, h', tk', m', mu' ++ fx, e, F', fun p hp => ?_, fun p hp => ?_, mu', rfl, fun p hp q hq => ha p hp q (List.mem_append.mpr (.inl hq)), hfp, hm⟩
      · rcases List.mem_append.mp hp with hp | hp
        · exact N' p (List.mem_append.mpr (.inr (List.mem_append.mpr (.inr hp))))
        · rcases List.mem_append.mp hp with hp | hp
          · exact N' p (List.mem_append.mpr (.inl hp))
          · exact N' p (List.mem_append.mpr (.inr (List.mem_append.mpr (.inl hp))))
      · rcases List.mem_append.mp hp with hp | hp
        · exact fun hw => hfp p hp (W.sub _ hw)
        · exact hfx p hp
    cases f with
    | ret v => exact .ret p
    | brk => exact .brk p
    | next => exact .next (fin p)
    | cont => exact .cont (fin p)
  · rintro h' tk m' news' F' N' _ ⟨mu₁, rfl, hsf, _, hJ⟩
    exact done m' mu₁ h' tk hJ hsf F' N'

theorem iter_listG {l : Addr} {vs : List Value} {m₀ : Str → Option Value} {L : Addr} (mu fx : List (Addr × Obj)) (J : Nat → (Str → Option Value) → List (Addr × Obj) → Prop)
    (hh : A.handled = none) (hl : s.heap.IsList l vs.toArray) (hst : Stands h₀ fx l) (hmf : ∀ p ∈ mu, ∀ q ∈ fx, p.1 ≠ q.1)
    (F : Fr h₀ L s.heap m₀) (N : News h₀ L s.heap (mu ++ fx)) (hj : J 0 m₀ mu)
    (hL : env.locals = L)
    (turn : ∀ i v m₁ mu₁ h tk ow, vs[i]? = some v → J i m₁ mu₁ → (∀ p ∈ fx, p ∈ ow) → (∀ p ∈ mu₁, ∀ q ∈ ow, q.1 ≠ p.1) →
      Fr h₀ L h (fun y => if y = x then some v else m₁ y) → News h₀ L h (mu₁ ++ ow) →
      wpAny (model prog w) A (execs body env) (TurnEndG h₀ L ow (J (i + 1)) Q { s with heap := h, toks := tk }) E { s with heap := h, toks := tk })
    (done : ∀ m₁ mu₁ h tk, J vs.length m₁ mu₁ → (∀ p ∈ mu₁, ∀ q ∈ fx, q.1 ≠ p.1) → Fr h₀ L h m₁ → News h₀ L h (mu₁ ++ fx) → Q .next { s with heap := h, toks := tk }) :
    wpAny (model prog w) A (pyIter (.ref l)) (fun it s₂ => LoopAtV prog w A h₀ env x body Q E it s₂) E s := by
  subst hL
  obtain ⟨ol, hol, _⟩ := id hl
  have hlt : l < s.heap.objs.size := Heap.lt_size hol
  refine wpAny_pyIter_list hl ?_
  have W := Walks.list (prog := prog) (w := w) hh s.heap.objs.size l (Nat.ne_of_lt hlt) vs.toArray
  refine iter_walkG (mu := mu) (fx := fx) J W ?_ ⟨⟨_, Heap.get?_push_size _ rfl, rfl, rfl⟩, hl.at fun o e => Heap.get?_push_of_some _ e⟩ ?_ ?_ ?_ ?_ hmf (F.push _) (news_push N) hj rfl ?_ ?_
  · rintro i h ⟨⟨oi, hoi, _⟩, ⟨ol, hol, _⟩⟩ b hb
    rcases List.mem_cons.mp hb with rfl | hb
    · exact ⟨_, hoi⟩
    · rw [List.mem_singleton.mp hb]; exact ⟨_, hol⟩
  · intro hm
    rcases List.mem_cons.mp hm with e | hm
    · exact absurd F.ns.lt (e ▸ Nat.lt_irrefl _)
    · exact hst.ne F N (List.mem_singleton.mp hm)
  · intro b hb
    rw [List.mem_singleton.mp hb]
    exact next_is_new F
  · intro p hp hI
    exact absurd (Heap.lt_size (N p (List.mem_append.mpr (.inr hp))).1) ((List.mem_singleton.mp hI) ▸ Nat.lt_irrefl _)
  · intro p hp hI
    rcases List.mem_cons.mp hI with e | hm
    · exact absurd (Heap.lt_size (N p (List.mem_append.mpr (.inl hp))).1) (e ▸ Nat.lt_irrefl _)
    · exact hst.off N hmf p hp (List.mem_singleton.mp hm)
  · intro i v m₁ mu₁ h tk ow _ hP hJ h1 h2 F₁ N₁
    exact turn i v m₁ mu₁ h tk ow (by simpa using hP) hJ h1 h2 F₁ N₁
  · intro m₁ mu₁ h tk hJ ha F₁ N₁
    exact done m₁ mu₁ h tk (by simpa using hJ) ha F₁ N₁

theorem iter_rangeG {r : Addr} {a₀ b₀ : Int} {t₀ u₀ v₀ : Tok} {n : Nat} {m₀ : Str → Option Value} {L : Addr} (mu fx : List (Addr × Obj)) (J : Nat → (Str → Option Value) → List (Addr × Obj) → Prop)
    (hh : A.handled = none) (hr : IsRange s.heap r a₀ b₀ 1 t₀ u₀ v₀) (hsmall : Builtin.Range.small a₀ b₀ 1 = true) (hn : Builtin.Range.rangeSize a₀ b₀ 1 = (n : Int)) (hmf : ∀ p ∈ mu, ∀ q ∈ fx, p.1 ≠ q.1)
    (F : Fr h₀ L s.heap m₀) (N : News h₀ L s.heap (mu ++ fx)) (hj : J 0 m₀ mu)
    (hL : env.locals = L)
    (turn : ∀ i t m₁ mu₁ h tk ow, i < n → J i m₁ mu₁ → (∀ p ∈ fx, p ∈ ow) → (∀ p ∈ mu₁, ∀ q ∈ ow, q.1 ≠ p.1) →
      Fr h₀ L h (fun y => if y = x then some (.int (a₀ + (i : Int)) t) else m₁ y) → News h₀ L h (mu₁ ++ ow) →
      wpAny (model prog w) A (execs body env) (TurnEndG h₀ L ow (J (i + 1)) Q { s with heap := h, toks := tk }) E { s with heap := h, toks := tk })
    (done : ∀ m₁ mu₁ h tk, J n m₁ mu₁ → (∀ p ∈ mu₁, ∀ q ∈ fx, q.1 ≠ p.1) → Fr h₀ L h m₁ → News h₀ L h (mu₁ ++ fx) → Q .next { s with heap := h, toks := tk }) :
    wpAny (model prog w) A (pyIter (.ref r)) (fun it s₂ => LoopAtV prog w A h₀ env x body Q E it s₂) E s := by
  subst hL
  refine wpAny_pyIter_range hr hsmall ?_
  have W : Walks prog w A s.heap.objs.size [s.heap.objs.size] [s.heap.objs.size] n (fun i v => i < n ∧ ∃ t, v = .int (a₀ + i * 1) t)
      (fun i h => IsRangeIter h s.heap.objs.size (a₀ + (i : Nat) * 1) ((n : Int) - (i : Nat)) 1) := (Walks.range hh _ a₀ 1 n).bound
  refine iter_walkG (mu := mu) (fx := fx) J W ?_ (by show IsRangeIter _ _ _ _ _; rw [hn]; simpa using Heap.get?_push_size _ rfl) ?_ ?_ ?_ ?_ hmf (F.push _) (news_push N) hj rfl ?_ done
  · intro i h hi b hb
    rw [List.mem_singleton.mp hb]
    exact ⟨_, hi⟩
  · intro hm
    exact absurd F.ns.lt ((List.mem_singleton.mp hm) ▸ Nat.lt_irrefl _)
  · intro b hb
    rw [List.mem_singleton.mp hb]
    exact next_is_new F
  · intro p hp hI
    exact absurd (Heap.lt_size (N p (List.mem_append.mpr (.inr hp))).1) ((List.mem_singleton.mp hI) ▸ Nat.lt_irrefl _)
  · intro p hp hI
    exact absurd (Heap.lt_size (N p (List.mem_append.mpr (.inl hp))).1) ((List.mem_singleton.mp hI) ▸ Nat.lt_irrefl _)
  · rintro i v m₁ mu₁ h tk ow hi ⟨_, t, rfl⟩ hJ h1 h2 F₁ N₁
    have e1 : a₀ + (i : Int) * 1 = a₀ + (i : Int) := by omega
    rw [e1] at F₁
    exact turn i t m₁ mu₁ h tk ow hi hJ h1 h2 F₁ N₁
end

theorem sep1 {a : Addr} {o : Obj} {ow : List (Addr × Obj)} (h : ∀ q ∈ ow, q.1 ≠ a) : ∀ p ∈ [(a, o)], ∀ q ∈ ow, q.1 ≠ p.1 := fun p hp q hq => by
  rw [List.mem_singleton.mp hp]; exact h q hq
theorem ne_of_allLt {a : Addr} {ow : List (Addr × Obj)} (h : AllLt a ow) : ∀ q ∈ ow, q.1 ≠ a := fun q hq => Nat.ne_of_lt (kst_ltOf h q hq)

section
variable {prog : Program} {w : World} {A : Around} {E : Value → Shared → Prop} {s : Shared} {env : Env} {h₀ : Heap} {body : List Stmt} {Q : Flow → Shared → Prop}

theorem iter_enum {elts : List Expr} {k : Nat} {pos : Pos} {l : Addr} {vs : List Value} {m₀ : Str → Option Value} {L : Addr} (mu fx : List (Addr × Obj)) (J : Nat → (Str → Option Value) → List (Addr × Obj) → Prop)
    (hh : A.handled = none) (hl : s.heap.IsList l vs.toArray) (hst : Stands h₀ fx l) (hmf : ∀ p ∈ mu, ∀ q ∈ fx, p.1 ≠ q.1)
    (F : Fr h₀ L s.heap m₀) (N : News h₀ L s.heap (mu ++ fx)) (hj : J 0 m₀ mu)
    (hL : env.locals = L)
    (turn : ∀ i v T t m₁ mu₁ h tk ow, vs[i]? = some v → J i m₁ mu₁ → (∀ p ∈ fx, p ∈ ow) → (∀ p ∈ mu₁, ∀ q ∈ ow, q.1 ≠ p.1) → IsTup h T #[.int i t, v] →
      Fr h₀ L h m₁ → News h₀ L h (mu₁ ++ ow) →
      wpAny (model prog w) A (assign (.Tuple elts k pos) env (.ref T)) (fun _ s₂ => wpAny (model prog w) A (execs body env) (TurnEndG h₀ L ow (J (i + 1)) Q { s with heap := h, toks := tk }) E s₂) E { s with heap := h, toks := tk })
    (done : ∀ m₁ mu₁ h tk, J vs.length m₁ mu₁ → Fr h₀ L h m₁ → News h₀ L h (mu₁ ++ fx) → Q .next { s with heap := h, toks := tk }) :
    wpAny (model prog w) A (call (.type "enumerate") [.ref l]) (fun xv s₁ => wpAny (model prog w) A (pyIter xv) (fun it s₂ => TurnsAt prog w A h₀ env (.Tuple elts k pos) body Q E it s₂) E s₁) E s := by
  subst hL
  obtain ⟨ol, hol, _⟩ := id hl
  have hlt : l < s.heap.objs.size := Heap.lt_size hol
  have hLs : env.locals < s.heap.objs.size := F.ns.lt
  refine call_enumerate_list hl fun h' hE hI hsz hk => ?_
  refine wpAny_pyIter_enum hE ?_
  have W := KTurns.ofWalksU (elts := elts) (k := k) (pos := pos) (WalksT.enumerate (prog := prog) (w := w) hh (s.heap.objs.size + 1) s.heap.objs.size l (Nat.succ_ne_self _) (ktu_ne 1 hlt) (Nat.ne_of_lt hlt) vs.toArray).toU
  let J' : Nat → (Str → Option Value) → List (Addr × Obj) → Prop := fun i m₁ news₁ => ∃ mu₁, news₁ = mu₁ ++ fx ∧ (∀ p ∈ mu₁, ∀ q ∈ fx, q.1 ≠ p.1) ∧ (∀ p ∈ mu₁, p.1 ≠ l) ∧ J i m₁ mu₁
  have hnot : ∀ p ∈ mu ++ fx, p.1 ∉ [s.heap.objs.size + 1, s.heap.objs.size] := by
    intro p hp hI'
    have hb' : p.1 = s.heap.objs.size + 1 ∨ p.1 = s.heap.objs.size := by simpa using hI'
    have hlp := Heap.lt_size (N p hp).1
    rcases hb' with e | e
    · exact ktu_ne 1 hlp e
    · exact Nat.ne_of_lt hlp e
  refine ⟨s.heap.objs.size + 1, _, _, _, _, _, _, m₀, mu ++ fx, J', rfl, W, ?_, ?_, hnot, ⟨⟨.none, hE⟩, hI, hl.at fun o e => hk l o e⟩, F.keeps hk, N.grown hk, ⟨mu, rfl, fun p hp q hq e => hmf p hp q hq e.symm, hst.off N hmf, hj⟩, ?_, ?_⟩
  · intro hI'
    have hb' : env.locals = s.heap.objs.size + 1 ∨ env.locals = s.heap.objs.size ∨ env.locals = l := by simpa using hI'
    rcases hb' with e | e | e
    · exact ktu_ne 1 hLs e
    · exact Nat.ne_of_lt hLs e
    · exact hst.ne F N e
  · intro b hb
    have hb' : b = s.heap.objs.size + 1 ∨ b = s.heap.objs.size := by simpa using hb
    rcases hb' with rfl | rfl
    · exact ktu_new F (Nat.le_add_right _ _)
    · exact ktu_new F (Nat.le_refl _)
  · rintro i v m₁ news₁ h tk own hi ⟨T, vals, rfl, ⟨t, x, hx, rfl⟩, hT⟩ ⟨mu₁, rfl, hsf, hsl, hJ⟩ hoff hown hhas hmem hst' F₁ N₁
    have N₂ : News h₀ env.locals h (mu₁ ++ (fx ++ own)) := fun p hp => by
      rcases List.mem_append.mp hp with hp | hp
      · exact N₁ p (List.mem_append.mpr (.inr (List.mem_append.mpr (.inl hp))))
      · rcases List.mem_append.mp hp with hp | hp
        · exact N₁ p (List.mem_append.mpr (.inr (List.mem_append.mpr (.inr hp))))
        · exact N₁ p (List.mem_append.mpr (.inl hp))
    have hmuo : ∀ p ∈ mu₁, ∀ q ∈ own, q.1 ≠ p.1 := by
      intro p hp q hq e
      have h1 := hoff p (List.mem_append.mpr (.inl hp))
      have h2 : q.1 = s.heap.objs.size + 1 ∨ q.1 = s.heap.objs.size ∨ q.1 = l := by simpa using hown q hq
      rcases h2 with h2 | h2 | h2
      · exact h1 (by rw [← e, h2]; simp)
      · exact h1 (by rw [← e, h2]; simp)
      · exact hsl p hp (e ▸ h2)
    have hsep : ∀ p ∈ mu₁, ∀ q ∈ fx ++ own, q.1 ≠ p.1 := by
      intro p hp q hq e
      rcases List.mem_append.mp hq with hq | hq
      · exact hsf p hp q hq e
      · exact hmuo p hp q hq e
    refine wpAny_mono (turn i x T t m₁ mu₁ h tk (fx ++ own) (by simpa using hx) hJ (fun p hp => List.mem_append.mpr (.inl hp)) hsep hT F₁ N₂) (fun _ s₃ h₃ => wpAny_mono h₃ (fun f s₂ p => ?_) fun _ _ e => e) fun _ _ e => e
    have fin : (∃ h' tk' m' mu', s₂ = { ({ s with heap := h, toks := tk } : Shared) with heap := h', toks := tk' } ∧ Fr h₀ env.locals h' m' ∧ News h₀ env.locals h' (mu' ++ (fx ++ own)) ∧ (∀ p ∈ mu', ∀ q ∈ fx ++ own, q.1 ≠ p.1) ∧ J (i + 1) m' mu') →
        LoopStepU h₀ env.locals [s.heap.objs.size + 1, s.heap.objs.size] own (J' (i + 1)) { s with heap := h, toks := tk } .next s₂ := by
      rintro ⟨h'', tk', m', mu', e, F', N', ha, hm⟩
      have hfp : ∀ p ∈ mu', p.1 ≠ s.heap.objs.size + 1 ∧ p.1 ≠ s.heap.objs.size ∧ p.1 ≠ l := by
        intro p hp
        have key : ∀ b, b = s.heap.objs.size + 1 ∨ b = s.heap.objs.size ∨ b = l → (∃ o, h.get? b = some o) → p.1 ≠ b := by
          rintro b hb ⟨o, ho⟩ e
          cases q : h₀.get? b with
          | some o' => have := (N' p (List.mem_append.mpr (.inl hp))).2.2; rw [e, q] at this; cases this
          | none => exact ha p hp _ (List.mem_append.mpr (.inr (hmem b (by simpa using hb) q o ho))) e.symm
        obtain ⟨⟨old, he⟩, ⟨oi, hoi, _⟩, ⟨ol', hol', _⟩⟩ := hst'
        exact ⟨key _ (.inl rfl) ⟨_, he⟩, key _ (.inr (.inl rfl)) ⟨_, hoi⟩, key _ (.inr (.inr rfl)) ⟨_, hol'⟩⟩
      refine ⟨rfl, h'', tk', m', mu' ++ fx, e, F', fun p hp => ?_, fun p hp => ?_, mu', rfl, fun p hp q hq => ha p hp q (List.mem_append.mpr (.inl hq)), fun p hp => (hfp p hp).2.2, hm⟩
      · rcases List.mem_append.mp hp with hp | hp
        · exact N' p (List.mem_append.mpr (.inr (List.mem_append.mpr (.inr hp))))
        · rcases List.mem_append.mp hp with hp | hp
          · exact N' p (List.mem_append.mpr (.inl hp))
          · exact N' p (List.mem_append.mpr (.inr (List.mem_append.mpr (.inl hp))))
      · rcases List.mem_append.mp hp with hp | hp
        · intro hI'
          have hb' : p.1 = s.heap.objs.size + 1 ∨ p.1 = s.heap.objs.size := by simpa using hI'
          exact hb'.elim (hfp p hp).1 (hfp p hp).2.1
        · exact hnot p (List.mem_append.mpr (.inr hp))
    cases f with
    | ret v => exact p
    | brk => exact p
    | next => exact fin p
    | cont => exact fin p
  · rintro h'' tk m' news' F' N' _ ⟨mu₁, rfl, _, _, hJ⟩
    exact done m' mu₁ h'' tk (by simpa using hJ) F' N'
end

local macro_rules | `(tactic| walk_at "exec For Tuple Call cons nil") => `(tactic| (k_here; (rename Fr _ _ _ _ => lF'); (with_unfolding_all refine' For_turns lF' ?_; k_whole)))

local macro_rules | `(tactic| walk_at "call type:enumerate") => `(tactic| (k_here; refine stopped ?_))

theorem ints_set {x : Int} {t : Tok} {vs : List Value} {ns : List Int} (k : Nat) (h : IntsAre vs ns) : IntsAre (vs.set k (.int x t)) (ns.set k x) := by
  induction k generalizing vs ns with
  | zero => cases h with
    | nil => exact .nil
    | cons a b r => exact .cons _ _ r
  | succ k ih => cases h with
    | nil => exact .nil
    | cons a b r => exact .cons _ _ (ih r)
theorem NumsAre.set {x : Int} {t : Tok} {vs : List Value} {ns : List Int} (k : Nat) (h : NumsAre vs ns) : NumsAre (vs.set k (.int x t)) (ns.set k x) := ⟨ints_set k h.out⟩
section
variable {prog : Program} {w : World} {A : Around} {E : Value → Shared → Prop} {s : Shared} {h₀ : Heap} {L D : Addr} {m : Str → Option Value} {news news' : List (Addr × Obj)} {vs : List Value} {n : Nat} {k : Int} {t : Tok}
theorem set_num {x : Int} {tx : Tok} {cs : List Int} {Q : Unit → Shared → Prop} (F : Fr h₀ L s.heap m) (N : News h₀ L s.heap news) (U : Upd D (W.listOf vs.toArray n) (W.listOf (vs.set k.toNat (.int x tx)).toArray n) news news') (hb : NumsAre vs cs) (h0 : 0 ≤ k) (h1 : k < cs.length) (hfit : cs.length ≤ 1000000)
    (h : ∀ h', Fr h₀ L h' m → News h₀ L h' news' → NumsAre (vs.set k.toNat (.int x tx)) (cs.set k.toNat x) → Q () { s with heap := h' }) :
    wpAny (model prog w) A (setItem (.ref D) (.int k t) (.int x tx)) Q E s := by
  obtain ⟨pre, post, rfl, rfl, a, b'⟩ := U.split
  have z := N (D, W.listOf vs.toArray n) (List.mem_append.mpr (.inr (.head _)))
  have hs : vs.toArray.size = cs.length := by rw [List.size_toArray]; exact hb.length
  refine ki_setAt z.1 h0 (by omega) (by omega) (h _ (F.change (Heap.SameBut.update ..) z.2.1 z.2.2) (ki_turn _ N a b' ?_ ?_) (hb.set _))
  · show vs.toArray.setIfInBounds k.toNat (.int x tx) = (vs.set k.toNat (.int x tx)).toArray
    apply Array.toList_inj.mp
    simp
  · simp
end

local macro_rules | `(tactic| walk_at "mine:idx") => `(tactic| first | assumption | omega)

local macro_rules | `(tactic| walk_at "setItem ref int") => `(tactic| (k_here; (with_reducible show wpAny _ _ (PySem.setItem (Value.ref _) (Value.int _ _) (Value.int _ _)) _ _ _); k_dflt (refine' set_num ?k1 ?k2 ?k3 ?k4 ?k5 ?k6 ?k7 ?_; (case k1 => k_asm); (case k2 => k_asm); (case k3 => k_upd); (case k4 => with_reducible assumption); (case k5 => walk_at "mine:idx"); (case k6 => walk_at "mine:idx"); (case k7 => walk_at "mine:idx"); k_whole); intro h' F' N' hb'; (try k_sweep)))

theorem news_swap {h₀ h : Heap} {L : Addr} {p q : Addr × Obj} (N : News h₀ L h [p, q]) : News h₀ L h ([q] ++ [p]) := fun x hx => N x (by
  rcases List.mem_append.mp hx with hx | hx
  · rw [List.mem_singleton.mp hx]; exact .tail _ (.head _)
  · rw [List.mem_singleton.mp hx]; exact .head _)
theorem cells_ok (w : World) (l : Addr) (vs : List Value) (ns : List Int) (hi : IntsAre vs ns) (hz : ns.length ≤ 63) :
    Sp w 180 [.ref l] 1 16 (fun h => h.IsList l vs.toArray) (fun r tl => ∃ a, ∃ us : List Value, ∃ n cs, r = .ref a ∧ tl = [(a, W.listOf us.toArray n)] ∧ NumsAre us cs ∧ cs.length = 10) := by
  intro loose mean mg mb dp un fr gd R s X; revert X; w_top off; k_fill; intro X T pre hd1 hu1 hret; k_dflt walk_at "mine:enter"
  k_steps
  unfold Stopped
  refine' iter_enum [_] [_] (fun i m₁ mu₁ => ∃ a, ∃ us : List Value, ∃ n cs, mu₁ = [(a, W.listOf us.toArray n)] ∧ NumsAre us cs ∧ cs.length = 10 ∧ m₁ "cells" = some (.ref a)) rfl ?hl ?st ?mf ?F ?N ?j rfl ?turn ?done
  case N => exact news_swap (by k_asm)
  case F => k_asm
  case hl => exact led_list (by k_asm) (.head _)
  case st => exact .inr ⟨_, .head _⟩
  case mf =>
    intro p hp q hq
    rw [List.mem_singleton.mp hp, List.mem_singleton.mp hq]
    exact Nat.ne_of_lt (by assumption)
  case j => exact ⟨_, _, _, _, rfl, ⟨.cons _ _ (.cons _ _ (.cons _ _ (.cons _ _ (.cons _ _ (.cons _ _ (.cons _ _ (.cons _ _ (.cons _ _ (.cons _ _ .nil)))))))))⟩, rfl, rfl⟩
  case turn =>
    rintro i v T' t m₁ mu₁ h tk ow hv ⟨a, us, n, cs, rfl, hB, hcl, e1⟩ hfx hoff hT F N
    obtain ⟨x, tx, _, rfl⟩ := NumsAre.get' i ⟨by assumption⟩ hv
    have hIs : IntsAre us cs := hB.out
    dsimp only [List.nil_append, List.cons_append] at N
    replace F := see F (k := "cells") e1
    try k_fold
    have hnc : ∀ q ∈ ow, q.1 ≠ a := fun q hq => hoff _ (.head _) q hq
    have hk0 := Int.fmod_nonneg_of_pos (i : Int) (show (0 : Int) < 10 by omega)
    have hk1 : (i : Int).fmod 10 < (cs.length : Int) := by rw [hcl]; exact Int.fmod_lt_of_pos (i : Int) (show (0 : Int) < 10 by omega)
    k_steps
    exact ⟨_, _, _, [(a, _)], rfl, by k_asm, by k_asm, sep1 (fun q hq => hoff _ (.head _) q hq), a, _, _, _, rfl, by assumption, by rw [List.length_set]; exact hcl, rfl⟩
  case done =>
    rintro m₁ mu₁ h tk ⟨a, us, n, cs, rfl, hB, hcl, e1⟩ F N
    dsimp only [List.nil_append, List.cons_append] at N
    replace F := see F e1
    k_steps
    refine' hret _ _ _ _ ?_ (Fr.keep (by k_asm)) (ret1 (by k_asm))
    exact ⟨_, _, _, _, rfl, rfl, hB, hcl⟩

section
variable {prog : Program} {w : World} {A : Around} {E : Value → Shared → Prop} {s : Shared} {env : Env} {h₀ : Heap} {L : Addr} {m : Str → Option Value} {news : List (Addr × Obj)}
theorem small_ab {a b : Int} (h0 : 0 ≤ a) (h1 : a ≤ 1000000) (h2 : 0 ≤ b) (h3 : b ≤ 1000000) : Builtin.Range.small a b 1 = true := small_one (by omega) (by omega) (by omega) (by omega)

theorem comp_range {r : Addr} {n : Nat} {t₀ u₀ v₀ : Tok} {scope : Scope} {cl : List (Str × Addr)} {x : Str} {ifs : List Expr} {elt : Expr} {Q : Value → Shared → Prop}
    (p : Value → Bool) (Fy : Value → Value → Prop) (hh : A.handled = none) (hr : IsRange s.heap r 0 (n : Int) 1 t₀ u₀ v₀) (hz : n ≤ 1000000) (F : Fr h₀ L s.heap m) (N : News h₀ L s.heap news)
    (tests : ∀ (C : Addr) (i : Nat) (t : Tok) (s₃ : Shared) (m₃ : Str → Option Value), i < n → Fr s.heap C s₃.heap m₃ → m₃ x = some (.int (i : Int) t) →
      wpAny (model prog w) A (forIn ifs true fun c r => if r = true then do let ok ← isTrue c (compEnvC scope cl C env) (eval c (compEnvC scope cl C env)); pure (ForInStep.yield ok) else pure (ForInStep.yield r))
        (fun ok s₄ => ok = p (.int (i : Int) t) ∧ Keeps s₃ s₄) (fun _ _ => False) s₃)
    (helt : ∀ (C : Addr) (i : Nat) (t : Tok) (s₃ : Shared) (m₃ : Str → Option Value), i < n → p (.int (i : Int) t) = true → Fr s.heap C s₃.heap m₃ → m₃ x = some (.int (i : Int) t) →
      wpAny (model prog w) A (eval elt (compEnvC scope cl C env)) (fun y s₄ => Fy (.int (i : Int) t) y ∧ Keeps s₃ s₄) (fun _ _ => False) s₃)
    (h : ∀ (D : Addr) (h' : Heap) (tk : Nat) (ys vs : List Value) (k : Nat), vs.length = n → (∀ (j : Nat) (v : Value), vs[j]? = some v → ∃ t : Tok, v = Value.int (j : Int) t) → Paired Fy (vs.filter p) ys → Fr h₀ L h' m → News h₀ L h' ((D, PySem.W.listOf ys.toArray k) :: news) → (∀ q ∈ news, q.1 ≠ D) → Q (.ref D) { s with heap := h', toks := tk }) :
    CompAt prog w A env scope cl x ifs elt p Fy Q E (.ref r) s := by
  unfold CompAt
  refine wpAny_pyIter_range hr (small_ab (by omega) (by omega) (by omega) (by omega)) ?_
  have W : Walks prog w A s.heap.objs.size [s.heap.objs.size] [s.heap.objs.size] n (fun i v => i < n ∧ ∃ t, v = .int ((0 : Int) + i * 1) t)
      (fun i h => IsRangeIter h s.heap.objs.size ((0 : Int) + (i : Nat) * 1) ((n : Int) - (i : Nat)) 1) := (Walks.range hh _ 0 1 n).bound
  have hn : Builtin.Range.rangeSize 0 (n : Int) 1 = (n : Int) := by rw [rangeSize_nat]; simp
  have hi : ∀ (i : Nat), (0 : Int) + (i : Int) * 1 = (i : Int) := fun i => by omega
  refine comp_walk (h₁ := s.heap) p Fy W hz (by show IsRangeIter _ _ _ _ _; rw [hn]; simpa using Heap.get?_push_size _ rfl) ?_ ?_ (fun b o e => Heap.get?_push_of_some _ e) (by rw [Heap.size_push]; omega) F N ?_ ?_ (fun D h' tk ys us k hlen hP hF F' N' hn => ?_)
  · intro b hb
    rw [Heap.size_push, List.mem_singleton.mp hb]
    exact Nat.lt_succ_self _
  · intro b hb
    rw [List.mem_singleton.mp hb]
    exact Heap.get?_none_of_le (Nat.le_refl _)
  · rintro C i v s₃ m₃ ⟨hlt, t, rfl⟩ F₃ hm
    rw [hi] at hm ⊢
    exact tests C i t s₃ m₃ hlt F₃ hm
  · rintro C i v s₃ m₃ ⟨hlt, t, rfl⟩ hp F₃ hm
    rw [hi] at hm hp ⊢
    exact helt C i t s₃ m₃ hlt hp F₃ hm
  · refine h D h' tk ys us k hlen (fun j v hv => ?_) hF F' N' hn
    obtain ⟨_, t, rfl⟩ := hP j v hv
    exact ⟨t, by rw [hi]⟩
theorem item_lb {l : Addr} {vs : List Value} {ps : List (List UInt8)} {k : Int} {u : Tok} {value slice : Expr} {Q : Value → Shared → Prop} (hl : s.heap.IsList l vs.toArray) (hb : BytesAre vs ps) (h0 : 0 ≤ k) (h1 : k < (ps.length : Int)) (hz : ps.length ≤ 1000000)
    (h : ∀ t, Q (.bytes (ps.getD k.toNat []).toArray t) s)
    (hs : subscripted slice false (.ref l) (.int k u) = operate [.ref l, .int k u] (getItem (.ref l) (.int k u)) := by with_unfolding_all rfl) :
    wpAny (model prog w) A (subscriptTail value slice (.ref l) (.int k u)) Q E s := by
  have hk : k.toNat < ps.length := by omega
  have hp : ps[k.toNat]? = some (ps.getD k.toNat []) := by simp [hk]
  obtain ⟨t, ht⟩ := hb.get _ hp
  exact tail_any hl.typeIs slot_list_getitem.lookup (wpAny_getItem_list hl h0 (by omega) (by simpa using ht) (h t)) hs
theorem len_lb {l : Addr} {vs : List Value} {ps : List (List UInt8)} {Q : Value → Shared → Prop} (hl : s.heap.IsList l vs.toArray) (hb : BytesAre vs ps) (hz : ps.length ≤ 1000000) (h : ∀ t k, Q (.int (ps.length : Int) t) { s with toks := k }) :
    wpAny (model prog w) A (call (.builtin "len") [.ref l]) Q E s := by
  have e := hb.length
  refine len_list hl (by rw [List.size_toArray]; omega) ?_
  rw [List.size_toArray, e]
  exact h _ _
end

local macro_rules | `(tactic| walk_at "call type:range") => `(tactic| (k_here; (with_reducible rename Fr _ _ _ _ => F'); (with_reducible rename News _ _ _ _ => N'); first
  | (with_unfolding_all refine range1_rows F' N' ?_; intro _ _ _ _ _ R' F' N' _)
  | (with_unfolding_all refine range2_rows F' N' ?_; intro _ _ _ _ _ R' F' N' _)))

local macro_rules | `(tactic| walk_at "mine:list") => `(tactic| (refine' Fr.lst ?F ?l; (case F => k_asm); (case l => assumption)))

local macro_rules | `(tactic| walk_at "subscriptTail Name Name ref int") => `(tactic| (k_here; (with_reducible show wpAny _ _ (subscriptTail _ _ (Value.ref _) (Value.int _ _)) _ _ _); k_dflt (refine' item_lb ?l ?b ?h0 ?h1 ?z ?_; (case l => walk_at "mine:list"); (case b => assumption); (case h0 => omega); (case h1 => omega); (case z => omega)); intro t9))

local macro_rules | `(tactic| walk_at "call builtin:len") => `(tactic| (k_here; (with_reducible show wpAny _ _ (call (Value.builtin "len") [Value.ref _]) _ _ _); k_dflt (refine' len_lb ?l ?b ?z ?_; (case l => walk_at "mine:list"); (case b => assumption); (case z => omega)); intro _ _))

local macro_rules | `(tactic| walk_at "exec For Name Call cons nil") => `(tactic| (k_here; (rename Fr _ _ _ _ => lF'); (with_unfolding_all refine' For_invVF lF' ?k1 ?k2 ?_; (case k1 => exact rfl); (case k2 => exact rfl); k_whole)))

theorem slice_p {prog : Program} {w : World} {A : Around} {E : Value → Shared → Prop} {s : Shared} {value slice : PySem.Expr} {l : List UInt8} {t : Tok} {lv uv : Value} {lo hi : Option Int} {Q : Value → Shared → Prop} (hl : IsPart lv lo) (hu : IsPart uv hi) (hz : l.length ≤ 16777216)
    (h : ∀ t' k, Q (.bytes (cut l lo hi).toArray t') { s with heap := s.heap.push { cls := .type "slice", data := .fields #[lv, uv, .none] }, toks := k })
    (hs : subscripted slice false (.bytes l.toArray t) (.ref s.heap.objs.size) = operate [.ref s.heap.objs.size, .bytes l.toArray t] (getItem (.bytes l.toArray t) (.ref s.heap.objs.size)) := by with_unfolding_all rfl)
    (ht : ∀ r, letTemporaryGo value (.bytes l.toArray t) r = pure () := by intro _; with_unfolding_all rfl) :
    wpAny (model prog w) A (subscriptTail value slice (.bytes l.toArray t) (.ref s.heap.objs.size)) Q E { s with heap := s.heap.push { cls := .type "slice", data := .fields #[lv, uv, .none] } } :=
  tail_of_ItemOn ⟨"bytes", _, FB.slot_bytes_getitem.lookup, typeIs_bytes _ _ _, getItem_meets (typeIs_bytes _ _ _) (by decide) FB.slot_bytes_getitem FB.entry_bytes_getitem (FB.args_bytes_getitem_2 _ _) (KBc.meets_slice2 l.toArray t _ hl hu)
    ⟨Heap.IsSliceOf.new _ _ _ _, by rw [picked_cut, sizeLine_eq, List.size_toArray]; exact Nat.le_trans (cut_le l lo hi) hz, fun t' k => by rw [picked_cut]; exact h _ _⟩⟩ hs ht

local macro_rules | `(tactic| walk_at "subscriptTail") => `(tactic| (k_here; (with_reducible show wpAny _ _ (subscriptTail _ (Expr.Slice _ _ none _) (Value.bytes (List.toArray _) _) (Value.ref _)) _ _ _); first
  | ((with_reducible rename Fr _ _ _ _ => F'); (with_reducible rename News _ _ _ _ => N'); (refine slice_b (s := ⟨_, _, _, _, _⟩) F' N' (by constructor) (by constructor) (by walk_at "mine:size") ?_); intro _ _ _ F' N'; (try k_sweep))
  | ((refine slice_p (s := ⟨_, _, _, _, _⟩) (by constructor) (by constructor) (by walk_at "mine:size") ?_); intro _ _)))

local macro_rules | `(tactic| walk_at "binaryOp Add ref ref") => `(tactic| (k_here; (with_reducible show wpAny _ _ (binaryOp _ (Value.ref _) (Value.ref _)) _ _ _); k_dflt (refine' kmk_add_ints ?F ?N ?a ?b ?i ?j ?_ ?z; (case F => k_asm); (case N => k_asm); (case a => kmk_list); (case b => kmk_list); (case i => l_ints); (case j => l_ints); (case z => ((simp only [sizeLine_eq, List.length_cons, List.length_nil, List.length_append]); omega))); intro D' ws' h' F' N' l1 hI'; (try k_lt l1); (try k_sweep)))

theorem cut_head (p : List UInt8) : (cut p none (some 1) == [47]) = (p.head? == some 47) := by
  have h := cut_01 p
  have h2 : (cut p none (some 1) == [47]) = !(cut p none (some 1) != [47]) := by simp [bne]
  rw [h2, h, Bool.not_not]
def RootElt (v y : Value) : Prop := ∃ j t1 t2, v = .int j t1 ∧ y = .int j t2
def isRootP (ps : List (List UInt8)) (v : Value) : Bool := match v with | .int j _ => (ps.getD j.toNat []).head? == some 47 | _ => false
theorem roots_ints {ps : List (List UInt8)} : ∀ {vs ys : List Value}, (∀ v ∈ vs, ∃ j : Nat, ∃ t, v = .int (j : Int) t ∧ j < ps.length) → Paired RootElt (vs.filter (isRootP ps)) ys →
    ∃ ns, IntsAre ys ns ∧ ns.length ≤ vs.length ∧ ∀ n : Int, n ∈ ns ↔ ∃ j : Nat, n = j ∧ (∃ t, .int (j : Int) t ∈ vs) ∧ (ps.getD j []).head? = some 47
  | [], ys, _, h => by
    cases h
    exact ⟨[], .nil, Nat.le_refl _, fun n => ⟨(fun h => nomatch h), (fun ⟨_, _, ⟨_, h⟩, _⟩ => nomatch h)⟩⟩
  | v :: vs, ys, hv, h => by
    obtain ⟨j, t, rfl, hj⟩ := hv _ (.head _)
    have hv' : ∀ v ∈ vs, ∃ j : Nat, ∃ t, v = .int (j : Int) t ∧ j < ps.length := fun v hm => hv v (.tail _ hm)
    rw [List.filter_cons] at h
    by_cases hr : isRootP ps (.int (j : Int) t) = true
    · rw [if_pos hr] at h
      cases h with
      | cons h1 h2 =>
        obtain ⟨j', t1, t2, e, rfl⟩ := h1
        cases e
        obtain ⟨ns, hi, hl, hn⟩ := roots_ints hv' h2
        have hh : (ps.getD j []).head? = some 47 := by simpa [isRootP] using hr
        refine ⟨(j : Int) :: ns, .cons _ _ hi, by simp only [List.length_cons]; omega, fun n => ?_⟩
        constructor
        · intro hm
          rcases List.mem_cons.mp hm with rfl | hm
          · exact ⟨j, rfl, ⟨t, .head _⟩, hh⟩
          · obtain ⟨i, e, ⟨ti, hi⟩, hx⟩ := (hn n).mp hm
            exact ⟨i, e, ⟨ti, .tail _ hi⟩, hx⟩
        · rintro ⟨i, rfl, ⟨ti, hi⟩, hx⟩
          rcases List.mem_cons.mp hi with e | hi
          · injection e with e _
            have : i = j := by omega
            subst this; exact .head _
          · exact .tail _ ((hn _).mpr ⟨i, rfl, ⟨ti, hi⟩, hx⟩)
    · rw [if_neg hr] at h
      obtain ⟨ns, hi, hl, hn⟩ := roots_ints hv' h
      refine ⟨ns, hi, by simp only [List.length_cons]; omega, fun n => ?_⟩
      constructor
      · intro hm
        obtain ⟨i, e, ⟨ti, hi⟩, hx⟩ := (hn n).mp hm
        exact ⟨i, e, ⟨ti, .tail _ hi⟩, hx⟩
      · rintro ⟨i, rfl, ⟨ti, hi⟩, hx⟩
        rcases List.mem_cons.mp hi with e | hi
        · injection e with e _
          have : i = j := by omega
          subst this
          exact absurd (by simpa [isRootP] using hx) hr
        · exact (hn _).mpr ⟨i, rfl, ⟨ti, hi⟩, hx⟩
theorem begin_max {ps : List (List UInt8)} {ns : List Int} {vs : List Value} {M : Int} (h1 : 1 ≤ ps.length) (hlen : vs.length = ps.length) (hv : ∀ (j : Nat) (v : Value), vs[j]? = some v → ∃ t : Tok, v = Value.int (j : Int) t)
    (hn : ∀ n : Int, n ∈ ns ↔ ∃ j : Nat, n = j ∧ (∃ t, .int (j : Int) t ∈ vs) ∧ (ps.getD j []).head? = some 47) (hm : M ∈ [(0 : Int)] ++ ns) (hx : ∀ a, a ∈ [(0 : Int)] ++ ns → a ≤ M) : ∃ b : Nat, M = b ∧ IsBegin ps b := by
  have hin : ∀ j : Nat, (∃ t, Value.int (j : Int) t ∈ vs) → j < ps.length := by
    rintro j ⟨t, ht⟩
    obtain ⟨i, hi⟩ := List.mem_iff_getElem?.mp ht
    obtain ⟨t', e⟩ := hv i _ hi
    injection e with e _
    have : i < vs.length := by
      rcases Nat.lt_or_ge i vs.length with h | h
      · exact h
      · rw [List.getElem?_eq_none h] at hi; cases hi
    omega
  have hout : ∀ j : Nat, j < ps.length → ∃ t, Value.int (j : Int) t ∈ vs := by
    intro j hj
    obtain ⟨t, e⟩ := hv j vs[j] (by simp [hlen, hj])
    exact ⟨t, e ▸ List.getElem_mem _⟩
  have h0 := hx 0 (by simp)
  have hmax : ∀ k : Nat, M < k → k < ps.length → (ps.getD k []).head? ≠ some 47 := by
    intro k hk hkl hh
    have := hx k (List.mem_append.mpr (.inr ((hn k).mpr ⟨k, rfl, hout k hkl, hh⟩)))
    omega
  rcases List.mem_append.mp hm with hm | hm
  · have e : M = 0 := List.mem_singleton.mp hm
    subst e
    exact ⟨0, rfl, by omega, .inl rfl, fun k hk => hmax k (by omega)⟩
  · obtain ⟨j, e, ht, hh⟩ := (hn M).mp hm
    subst e
    exact ⟨j, rfl, hin j ht, .inr hh, fun k hk => hmax k (by omega)⟩
theorem cut_last (p : List UInt8) : (cut p (some (-1)) none != [47]) = !(p.getLast? == some 47) := by
  rcases List.eq_nil_or_concat p with rfl | ⟨q, x, rfl⟩
  · rfl
  · rw [List.concat_eq_append]
    have h : cut (q ++ [x]) (some (-1)) none = [x] := by
      unfold cut
      simp only [Option.elim]
      have e : clipAt (q ++ [x]).length (-1) = q.length := by
        unfold clipAt
        simp only [List.length_append, List.length_cons, List.length_nil]
        split <;> omega
      rw [e, List.drop_left]
      exact List.take_of_length_le (by simp)
    rw [h, List.getLast?_append]
    by_cases hx : x = 47
    · subst hx; rfl
    · simp [bne, hx]
theorem wayAt_len {ps : List (List UInt8)} {b : Nat} (h : ∀ k, (ps.getD k []).length ≤ 10) : ∀ i, (wayAt ps b i).length ≤ 11 * i
  | 0 => by simp [wayAt]
  | i + 1 => by
    have ih := wayAt_len (b := b) h i
    have h1 := h (b + i)
    have h2 : (sepB (ps.getD (b + i) []) (b + i + 1 < ps.length)).length ≤ 1 := by
      unfold sepB
      split <;> simp
    simp only [wayAt, List.length_append]
    omega
section
variable {ps : List (List UInt8)} {b i : Nat}
theorem news_tail {h₀ h : Heap} {L : Addr} {x : Addr × Obj} {ow : List (Addr × Obj)} (N : News h₀ L h (x :: ow)) : News h₀ L h ([] ++ ow) := fun p hp => N p (.tail _ hp)
theorem way_no (h : ¬ (ps.getD ((b : Int) + (i : Int)).toNat [] ≠ [] ∧ (ps.getD ((b : Int) + (i : Int)).toNat []).getLast? ≠ some 47 ∧ b + i + 1 < ps.length)) : wayAt ps b i ++ ps.getD ((b : Int) + (i : Int)).toNat [] = wayAt ps b (i + 1) := by
  have e : ((b : Int) + (i : Int)).toNat = b + i := by omega
  rw [e] at h ⊢
  simp only [wayAt]
  unfold sepB
  rw [if_neg h, List.append_nil]
theorem way_sep (h1 : (ps.getD ((b : Int) + (i : Int)).toNat [] != []) = true) (h2 : (cut (ps.getD ((b : Int) + (i : Int)).toNat []) (some (-1)) none != [47]) = true) (h3 : (b : Int) + (i : Int) + 1 < (ps.length : Int)) :
    wayAt ps b i ++ ps.getD ((b : Int) + (i : Int)).toNat [] ++ [47] = wayAt ps b (i + 1) := by
  have e : ((b : Int) + (i : Int)).toNat = b + i := by omega
  rw [cut_last] at h2
  rw [e] at h1 h2 ⊢
  simp only [wayAt]
  unfold sepB
  rw [if_pos ⟨by simpa using h1, by simpa using h2, by omega⟩]
theorem way_a (h1 : (ps.getD ((b : Int) + (i : Int)).toNat [] != []) = false) : wayAt ps b i ++ ps.getD ((b : Int) + (i : Int)).toNat [] = wayAt ps b (i + 1) :=
  way_no fun h => h.1 (by simpa using h1)
theorem way_b (h2 : (cut (ps.getD ((b : Int) + (i : Int)).toNat []) (some (-1)) none != [47]) = false) : wayAt ps b i ++ ps.getD ((b : Int) + (i : Int)).toNat [] = wayAt ps b (i + 1) := by
  rw [cut_last] at h2
  exact way_no fun h => h.2.1 (by simpa using h2)
theorem way_c (h3 : ¬ (b : Int) + (i : Int) + 1 < (ps.length : Int)) : wayAt ps b i ++ ps.getD ((b : Int) + (i : Int)).toNat [] = wayAt ps b (i + 1) :=
  way_no fun h => h3 (by have := h.2.2; omega)
end
theorem joined_ok (w : World) (l : Addr) (vs : List Value) (ps : List (List UInt8)) (hb : BytesAre vs ps) (h1 : 1 ≤ ps.length) (hz : ps.length ≤ 20) (hp : ∀ p ∈ ps, p.length ≤ 10) :
    Sp w 197 [.ref l] 2 24 (fun h => h.IsList l vs.toArray) (fun r tl => ∃ b, IsBegin ps b ∧ (∃ t, r = .bytes (wayAt ps b (ps.length - b)).toArray t) ∧ tl = []) := by
  have hget : ∀ k, (ps.getD k []).length ≤ 10 := by
    intro k
    by_cases hk : k < ps.length
    · rw [List.getD_eq_getElem?_getD, List.getElem?_eq_getElem hk]; exact hp _ (List.getElem_mem hk)
    · rw [List.getD_eq_getElem?_getD, List.getElem?_eq_none (by omega)]; simp
  intro loose mean mg mb dp un fr gd R s X; revert X; w_top off; k_fill; intro X T pre hd1 hu1 hret; k_dflt walk_at "mine:enterC"
  k_steps
  unfold Stopped
  refine' listcomp (isRootP ps) RootElt ?c1 ?c2 ?c3 ?c4 ?c5 ?_
  case c1 => exact rfl
  case c2 => decide
  case c3 => exact rfl
  case c4 => decide
  case c5 => exact rfl
  k_steps
  have hc := News.get (by k_asm : News s.heap _ _ _) (.tail _ (.head _))
  refine' comp_range _ _ ?hh ?r ?z ?F ?N ?tests ?elt ?h
  case F => k_asm
  case N => k_asm
  case r => assumption
  case hh => exact rfl
  case z => omega
  case tests =>
    intro C i t s₃ m₃ hi F hm
    refine forIn_one ?_
    have pre' := Fr.lst (by k_asm : Fr s.heap _ _ _) pre
    have hgi := hget (i : Int).toNat
    k_steps
    all_goals first
      | exact ⟨_, _, rfl, fun _ _ e => Heap.get?_push_of_some _ e⟩
      | exact cut_head _
      | trace_state
  case elt =>
    intro C i t s₃ m₃ hi hp F hm
    k_steps
    all_goals first
      | exact ⟨_, _, rfl, fun _ _ e => e⟩
      | exact ⟨_, _, _, rfl, rfl⟩
  case h =>
    intro D h' tk ys us k' hlen hv hP F N hn
    obtain ⟨ns, hys, hnl, hns⟩ := roots_ints (fun v hm => by
      obtain ⟨i, hi⟩ := List.mem_iff_getElem?.mp hm
      obtain ⟨t, e⟩ := hv i v hi
      refine ⟨i, t, e, ?_⟩
      rcases Nat.lt_or_ge i us.length with h | h
      · omega
      · rw [List.getElem?_eq_none h] at hi; cases hi) hP
    k_steps
    unfold Stopped
    obtain ⟨b, e, hB⟩ := begin_max h1 hlen hv hns (by assumption) (by assumption)
    subst e
    have hbl := hB.1
    refine' iter_rangeG [] _ (fun i m₁ mu₁ => mu₁ = [] ∧ ∃ t', m₁ "way" = some (.bytes (wayAt ps b i).toArray t')) (n := ps.length - b) rfl ?hr ?sm ?hn ?mf ?F ?N ?j rfl ?turn ?done
    case N => k_asm
    case F => k_asm
    case hr => assumption
    case sm => exact small_ab (by omega) (by omega) (by omega) (by omega)
    case hn => rw [rangeSize_nat]; omega
    case mf => exact fun _ hp => nomatch hp
    case j => exact ⟨rfl, _, rfl⟩
    case turn =>
      rintro i t m₁ mu₁ h tk ow hi ⟨rfl, t1, e1⟩ hfx hoff F N
      have hc1 := hfx _ (.tail _ (.tail _ (.tail _ (.head _))))
      have N2 : News s.heap _ h (_ :: ow) := fun p hp => by
        rcases List.mem_cons.mp hp with e | hp
        · rw [e]; exact N _ hc1
        · exact N p hp
      clear N
      have hwl := wayAt_len (b := b) hget i
      have hgi := hget ((b : Int) + (i : Int)).toNat
      replace F := see F (k := "way") e1
      try k_fold
      k_steps
      all_goals first
        | exact ⟨_, _, _, [], rfl, by k_asm, news_tail (by k_asm), (fun _ hp => nomatch hp), rfl, _, congrArg (fun x => some (Value.bytes (List.toArray x) _)) (way_sep (by assumption) (by assumption) (by assumption))⟩
        | exact ⟨_, _, _, [], rfl, by k_asm, news_tail (by k_asm), (fun _ hp => nomatch hp), rfl, _, congrArg (fun x => some (Value.bytes (List.toArray x) _)) (way_a (by assumption))⟩
        | exact ⟨_, _, _, [], rfl, by k_asm, news_tail (by k_asm), (fun _ hp => nomatch hp), rfl, _, congrArg (fun x => some (Value.bytes (List.toArray x) _)) (way_b (by assumption))⟩
        | exact ⟨_, _, _, [], rfl, by k_asm, news_tail (by k_asm), (fun _ hp => nomatch hp), rfl, _, congrArg (fun x => some (Value.bytes (List.toArray x) _)) (way_c (by assumption))⟩
        | trace_state
    case done =>
      rintro m₁ mu₁ h tk ⟨rfl, t1, e1⟩ _ F N
      dsimp only [List.nil_append] at N
      replace F := see F e1
      k_steps
      refine hret _ [] _ _ ?_ (Fr.keep (by k_asm)) (fun _ hp => nomatch hp)
      exact ⟨b, hB, ⟨_, rfl⟩, rfl⟩

theorem ints_snoc {p : List Int} {x : Int} : ∀ {vs : List Value}, IntsAre vs (p ++ [x]) → ∃ us t, vs = us ++ [.int x t] := by
  induction p with
  | nil =>
    intro vs h
    cases h with
    | cons a b r => cases r; exact ⟨[], _, rfl⟩
  | cons y p ih =>
    intro vs h
    cases h with
    | cons a b r =>
      obtain ⟨us, t, e⟩ := ih r
      exact ⟨_ :: us, t, by rw [e]; rfl⟩
theorem last_num {prog : Program} {w : World} {A : Around} {E : Value → Shared → Prop} {s : Shared} {D : Addr} {vs : List Value} {ns : List Int} {value slice : PySem.Expr} {u : Tok} {Q : Value → Shared → Prop}
    (hl : s.heap.IsList D vs.toArray) (hb : IntsAre vs ns) (hne : decide (ns = []) = false) (hz : ns.length ≤ 1000000) (h : ∀ t, Q (.int (ns.getLast?.getD 0) t) s)
    (hs : subscripted slice false (.ref D) (.int (-1) u) = operate [.ref D, .int (-1) u] (getItem (.ref D) (.int (-1) u)) := by with_unfolding_all rfl) :
    wpAny (model prog w) A (subscriptTail value slice (.ref D) (.int (-1) u)) Q E s := by
  have hlen := hb.length
  rcases List.eq_nil_or_concat ns with e | ⟨p, x, e⟩
  · subst e; cases hne
  · rw [List.concat_eq_append] at e
    subst e
    obtain ⟨us, t, rfl⟩ := ints_snoc hb
    have h' := h t
    rw [List.getLast?_append] at h'
    refine tail_any hl.typeIs slot_list_getitem.lookup (wpAny_getItem_list_neg (x := .int x t) hl (by omega) (by simp; omega) (by omega) ?_ h') hs
    have e : ((-1 : Int) + ((us ++ [Value.int x t]).toArray.size : Int)).toNat = us.length := by simp; omega
    rw [e]
    simp

local macro_rules | `(tactic| walk_at "subscriptTail Name UnaryOp ref int") => `(tactic| (k_here; (with_reducible show wpAny _ _ (subscriptTail _ _ (Value.ref _) (Value.int (-1) _)) _ _ _); k_dflt (refine' last_num ?l ?b ?e ?z ?_; (case l => kmk_list); (case b => with_reducible assumption); (case e => with_reducible assumption); (case z => omega)); intro t9))

local macro_rules | `(tactic| walk_at "mine:ints") => `(tactic| first | exact IntsAre.nil | with_reducible assumption | exact IntsAre.cons _ _ IntsAre.nil)

local macro_rules | `(tactic| walk_at "compareOp NotEq ref ref") => `(tactic| (k_here; (with_reducible show wpAny _ _ (compareOp CmpOp.NotEq (Value.ref _) (Value.ref _)) _ _ _); k_dflt (refine' ne_intsK (vs := _) (us := []) ?k1 ?k2 ?k3 ?k4 ?k5 ?_; (case k1 => kmk_list); (case k2 => walk_at "mine:ints"); (case k3 => kmk_list); (case k4 => exact IntsAre.nil); (case k5 => ktr_units))))

local macro_rules | `(tactic| walk_at "exec For Name Subscript cons nil") => `(tactic| (k_here; (rename Fr _ _ _ _ => lF'); (with_unfolding_all refine' For_invVF lF' ?k1 ?k2 ?_; (case k1 => exact rfl); (case k2 => exact rfl); k_whole)))

def stAt (c0 : Int) (cs : List Int) (i : Nat) : Bool × List Int := (cs.take i).foldl foldStep (c0.fmod 2 == 1, [])
theorem st_succ {c0 c : Int} {cs : List Int} {i : Nat} (h : cs[i]? = some c) : stAt c0 cs (i + 1) = foldStep (stAt c0 cs i) c := by
  unfold stAt
  rw [List.take_add_one, h, List.foldl_append]
  rfl
theorem step_len (st : Bool × List Int) (c : Int) : (foldStep st c).2.length ≤ st.2.length + 1 := by
  unfold foldStep
  dsimp only
  have h1 : (if c.fmod 8 = 3 ∨ (c.fmod 8 = 4 ∧ (c.fdiv 8).fmod 4096 = 0) then ((true, []) : Bool × List Int) else st).2.length ≤ st.2.length := by split <;> simp
  generalize (if c.fmod 8 = 3 ∨ (c.fmod 8 = 4 ∧ (c.fdiv 8).fmod 4096 = 0) then ((true, []) : Bool × List Int) else st) = s1 at *
  by_cases h2 : c.fmod 8 < 2
  · have h3 : ¬ (2 < c.fmod 8 ∧ (c.fdiv 8).fmod 4096 ≠ 0) := by omega
    rw [if_neg h3, if_pos h2]
    split
    · simp; omega
    · split
      · simp; omega
      · omega
  · rw [if_neg h2]
    split
    · simp; omega
    · omega
theorem st_len (c0 : Int) (cs : List Int) : ∀ i, (stAt c0 cs i).2.length ≤ i
  | 0 => by simp [stAt]
  | i + 1 => by
    have ih := st_len c0 cs i
    cases h : cs[i]? with
    | none =>
      have hl : cs.length ≤ i := List.getElem?_eq_none_iff.mp h
      have e : stAt c0 cs (i + 1) = stAt c0 cs i := by
        unfold stAt
        rw [List.take_of_length_le (by omega), List.take_of_length_le hl]
      rw [e]; omega
    | some c =>
      rw [st_succ h]
      have := step_len (stAt c0 cs i) c
      omega
section
variable {c : Int} {r : Bool} {fs : List Int}
theorem fe1 (h : c.fmod 8 = 3) (h2 : (c.fdiv 8).fmod 4096 ≠ 0) : foldStep (r, fs) c = (true, [] ++ [(c.fdiv 8).fmod 4096]) := by simp [foldStep, h, h2]
theorem fe2 (h : c.fmod 8 = 3) (h2 : (c.fdiv 8).fmod 4096 = 0) : foldStep (r, fs) c = (true, []) := by simp [foldStep, h, h2]
theorem fe4 (h : c.fmod 8 = 4) (h2 : (c.fdiv 8).fmod 4096 = 0) : foldStep (r, fs) c = (true, []) := by simp [foldStep, h, h2]
theorem fe5 (h : c.fmod 8 = 4) (h2 : (c.fdiv 8).fmod 4096 ≠ 0) : foldStep (r, fs) c = (r, fs ++ [(c.fdiv 8).fmod 4096]) := by simp [foldStep, h, h2]
theorem fe_up (h : c.fmod 8 < 2) : foldStep (r, fs) c = if fs ≠ [] ∧ fs.getLast? ≠ some (-1) then (r, fs.dropLast) else if r = false then (r, fs ++ [-1]) else (r, fs) := by
  have h3 : ¬ (c.fmod 8 = 3 ∨ (c.fmod 8 = 4 ∧ (c.fdiv 8).fmod 4096 = 0)) := by omega
  have h4 : ¬ (2 < c.fmod 8 ∧ (c.fdiv 8).fmod 4096 ≠ 0) := by omega
  unfold foldStep
  dsimp only
  rw [if_neg h3, if_pos h, if_neg h4]
theorem fe7 (h : c.fmod 8 < 2) (h1 : decide (fs = []) = true) (h2 : r = true) : foldStep (r, fs) c = (r, fs) := by
  have h1 : fs = [] := by simpa using h1
  subst h1 h2
  rw [fe_up h]; rfl
theorem fe8 (h : c.fmod 8 < 2) (h1 : decide (fs = []) = true) (h2 : r = false) : foldStep (r, fs) c = (r, fs ++ [-1]) := by
  have h1 : fs = [] := by simpa using h1
  subst h1 h2
  rw [fe_up h]; rfl
theorem last_ne {fs : List Int} (h1 : decide (fs = []) = false) (h2 : fs.getLast?.getD 0 ≠ -1) : fs ≠ [] ∧ fs.getLast? ≠ some (-1) := ⟨by simpa using h1, fun e => h2 (by rw [e]; rfl)⟩
theorem last_is {fs : List Int} (h2 : fs.getLast?.getD 0 = -1) : fs.getLast? = some (-1) := by
  cases h : fs.getLast? with
  | none => rw [h] at h2; cases h2
  | some x => rw [h] at h2; exact congrArg some h2
theorem fe9 (h : c.fmod 8 < 2) (h1 : decide (fs = []) = false) (h2 : fs.getLast?.getD 0 ≠ -1) : foldStep (r, fs) c = (r, fs.take (fs.length - 1)) := by
  rw [fe_up h, if_pos (last_ne h1 h2), List.dropLast_eq_take]
theorem fe10 (h : c.fmod 8 < 2) (h1 : decide (fs = []) = false) (h2 : fs.getLast?.getD 0 = -1) (h3 : r = true) : foldStep (r, fs) c = (r, fs) := by
  rw [fe_up h, if_neg (fun e => e.2 (last_is h2)), if_neg (by rw [h3]; decide)]
theorem fe11 (h : c.fmod 8 < 2) (h1 : decide (fs = []) = false) (h2 : fs.getLast?.getD 0 = -1) (h3 : r = false) : foldStep (r, fs) c = (r, fs ++ [-1]) := by
  rw [fe_up h, if_neg (fun e => e.2 (last_is h2)), if_pos h3]
theorem fe12 (h3 : c.fmod 8 ≠ 3) (h4 : c.fmod 8 ≠ 4) (h : 2 < c.fmod 8) (h2 : (c.fdiv 8).fmod 4096 ≠ 0) : foldStep (r, fs) c = (r, fs ++ [(c.fdiv 8).fmod 4096]) := by
  have h5 : ¬ c.fmod 8 < 2 := by omega
  simp [foldStep, h, h2, h3, h4, h5]
theorem fe13 (h3 : c.fmod 8 ≠ 3) (h4 : c.fmod 8 ≠ 4) (h : 2 < c.fmod 8) (h2 : (c.fdiv 8).fmod 4096 = 0) : foldStep (r, fs) c = (r, fs) := by
  have h5 : ¬ c.fmod 8 < 2 := by omega
  simp [foldStep, h2, h3, h4, h5]
theorem fe14 (h5 : ¬ c.fmod 8 < 2) (h : ¬ 2 < c.fmod 8) : foldStep (r, fs) c = (r, fs) := by
  have h3 : c.fmod 8 = 2 := by omega
  simp [foldStep, h3]
end
section
variable {P1 P2 P3 : Prop} {x : Addr} {ow : List (Addr × Obj)}
theorem nl2 (h : P1 ∧ AllLt x ow) : ∀ q ∈ ow, q.1 ≠ x := ne_of_allLt h.2
theorem nl3 (h : P1 ∧ P2 ∧ AllLt x ow) : ∀ q ∈ ow, q.1 ≠ x := ne_of_allLt h.2.2
theorem nl4 (h : P1 ∧ P2 ∧ P3 ∧ AllLt x ow) : ∀ q ∈ ow, q.1 ≠ x := ne_of_allLt h.2.2.2
end
theorem fold_end {h₀ h' : Heap} {L x : Addr} {m' : Str → Option Value} {l ow : List (Addr × Obj)} {us : List Value} {n tk : Nat} {c0 c : Int} {cs fs gs : List Int} {r rt : Bool} {i : Nat} {Q : Flow → Shared → Prop} {s : Shared}
    (F : Fr h₀ L h' m') (N : News h₀ L h' l) (hm : (x, W.listOf us.toArray n) ∈ l) (hs : ∀ q ∈ ow, q ∈ l) (ha : ∀ q ∈ ow, q.1 ≠ x) (hi : IntsAre us gs) (hr : m' "rooted" = some (.bool rt)) (hf : m' "folders" = some (.ref x))
    (hJ : stAt c0 cs (i + 1) = foldStep (r, fs) c) (he : foldStep (r, fs) c = (rt, gs)) :
    TurnEndG h₀ L ow ((fun i m₁ mu₁ => ∃ (a : Addr) (us : List Value) (n : Nat) (t : Nat), mu₁ = [(a, W.listOf (List.toArray us) n)] ∧ NumsAre us (stAt c0 cs i).2 ∧ m₁ "rooted" = some (.bool (stAt c0 cs i).1) ∧ m₁ "folders" = some (.ref a)) (i + 1)) Q s .next { s with heap := h', toks := tk } := by
  refine ⟨h', tk, m', [(x, W.listOf us.toArray n)], rfl, F, fun p hp => ?_, sep1 ha, x, us, n, 0, rfl, ?_, ?_, hf⟩
  · rcases List.mem_cons.mp hp with e | hp
    · rw [e]; exact N _ hm
    · exact N _ (hs p hp)
  · rw [hJ, he]; exact ⟨hi⟩
  · rw [hJ, he]; exact hr
theorem folders_ok (w : World) (l : Addr) (vs : List Value) (c0 : Int) (cs : List Int) (hi : NumsAre vs (c0 :: cs)) (hz : cs.length ≤ 20) :
    Sp w 204 [.ref l] 2 100 (fun h => h.IsList l vs.toArray) (fun r tl => ∃ a b us n, r = .ref a ∧ tl = [(a, tupOf [.bool (cs.foldl foldStep (c0.fmod 2 == 1, [])).1, .ref b]), (b, W.listOf (List.toArray us) n)] ∧ NumsAre us (cs.foldl foldStep (c0.fmod 2 == 1, [])).2) := by
  have hi' : IntsAre vs (c0 :: cs) := hi.out
  intro loose mean mg mb dp un fr gd R s X; revert X; w_top off; k_fill; intro X T pre hd1 hu1 hret; k_dflt walk_at "mine:enter"
  k_steps
  unfold Stopped
  have hwl : _ = cs.length := IntsAre.length (by assumption : IntsAre _ (List.drop 1 (c0 :: cs)))
  refine' iter_listG [_] [_] (fun i m₁ mu₁ => ∃ (a : Addr) (us : List Value) (n : Nat) (t : Nat), mu₁ = [(a, W.listOf (List.toArray us) n)] ∧ NumsAre us (stAt c0 cs i).2 ∧ m₁ "rooted" = some (.bool (stAt c0 cs i).1) ∧ m₁ "folders" = some (.ref a)) rfl ?hl ?st ?mf ?F ?N ?j rfl ?turn ?done
  case N => exact news_swap (by k_asm)
  case F => k_asm
  case hl => exact led_list (by k_asm) (.head _)
  case st => exact .inr ⟨_, .head _⟩
  case mf =>
    intro p hp q hq
    rw [List.mem_singleton.mp hp, List.mem_singleton.mp hq]
    exact Nat.ne_of_lt (by assumption)
  case j => exact ⟨_, [], _, 0, rfl, ⟨.nil⟩, rfl, rfl⟩
  case turn =>
    rintro i v m₁ mu₁ h tk ow hv ⟨a, us, n, t1, rfl, hB, e1, e2⟩ hfx hoff F N
    obtain ⟨c, tc, hc, rfl⟩ := NumsAre.get' (ns := cs) i ⟨by assumption⟩ hv
    have hnc : ∀ q ∈ ow, q.1 ≠ a := fun q hq => hoff _ (.head _) q hq
    have hJ := st_succ (c0 := c0) hc
    have hln := st_len c0 cs i
    have hil : i < cs.length := by
      rcases Nat.lt_or_ge i cs.length with h | h
      · exact h
      · rw [List.getElem?_eq_none h] at hc; cases hc
    generalize stAt c0 cs i = st at *
    obtain ⟨r, fs⟩ := st
    have hIs : IntsAre us fs := hB.out
    dsimp only at *
    dsimp only [List.nil_append, List.cons_append] at N
    replace F := see (see F (k := "rooted") e1) (k := "folders") e2
    try k_fold
    k_steps
    all_goals first
      | exact absurd (by assumption) (by assumption : (c.fdiv 8).fmod 4096 ≠ 0)
      | (refine' fold_end ?F ?N ?m ?s ?a ?i ?r ?f hJ ?e
         case F => k_asm
         case f => exact rfl
         case N => k_asm
         case m => k_mem
         case s => first | exact fun _ h => .tail _ h | exact fun _ h => .tail _ (.tail _ h) | exact fun _ h => .tail _ (.tail _ (.tail _ h)) | exact fun _ h => .tail _ (.tail _ (.tail _ (.tail _ h)))
         case a => first
           | assumption
           | exact nl4 (by assumption)
           | exact nl3 (by assumption)
           | exact nl2 (by assumption)
         case r => exact rfl
         case i => first | exact IntsAre.nil | assumption
         case e => first
           | exact fe1 (by assumption) (by assumption)
           | exact fe2 (by assumption) (by assumption)
           | exact fe4 (by assumption) (by assumption)
           | exact fe5 (by assumption) (by assumption)
           | exact fe7 (by assumption) (by assumption) (by assumption)
           | exact fe8 (by assumption) (by assumption) (by assumption)
           | exact fe9 (by assumption) (by assumption) (by assumption)
           | exact fe10 (by assumption) (by assumption) (by assumption) (by assumption)
           | exact fe11 (by assumption) (by assumption) (by assumption) (by assumption)
           | exact fe12 (by assumption) (by assumption) (by assumption) (by assumption)
           | exact fe13 (by assumption) (by assumption) (by assumption) (by assumption)
           | exact fe14 (by assumption) (by assumption))
      | trace_state
  case done =>
    rintro m₁ mu₁ h tk ⟨a, us, n, t1, rfl, hB, e1, e2⟩ _ F N
    have e3 : stAt c0 cs cs.length = cs.foldl foldStep (c0.fmod 2 == 1, []) := by
      unfold stAt
      rw [List.take_length]
    rw [hwl, e3] at hB e1
    dsimp only [List.nil_append, List.cons_append] at N
    replace F := see (see F (k := "rooted") e1) (k := "folders") e2
    try k_fold
    k_steps
    refine' hret _ _ _ _ ?_ (Fr.keep (by k_asm)) (ret2 (by k_asm))
    exact ⟨_, _, _, _, rfl, rfl, hB⟩

section
variable {prog : Program} {w : World} {A : Around} {E : Value → Shared → Prop} {s : Shared} {h₀ : Heap} {L l : Addr} {m : Str → Option Value} {news : List (Addr × Obj)} {vs : List Value}
abbrev liObj (l : Addr) : Obj := { cls := .type "list_iterator", data := .fields #[.ref l, .int 0 0] }
abbrev biObj (b : Array UInt8) (t : Tok) : Obj := { cls := .type "bytes_iterator", data := .fields #[.bytes b t, .int 0 0] }
theorem iter_l {Q : Value → Shared → Prop} (F : Fr h₀ L s.heap m) (N : News h₀ L s.heap news) (hl : s.heap.IsList l vs.toArray)
    (h : ∀ (I : Addr) (h' : Heap), Fr h₀ L h' m → News h₀ L h' ((I, liObj l) :: news) → (∀ p ∈ news, p.1 < I) → Q (.ref I) { s with heap := h' }) :
    wpAny (model prog w) A (call (.builtin "iter") [.ref l]) Q E s := by
  refine Calls.call_function_entry (by decide +kernel) (by decide +kernel) kdk_entry_iter (kdk_args_iter _) ?_
  unfold Builtin.«iter»
  refine wpAny_bind (m := someArgs "iter" 1 2 _) (wpAny_of_eq (a := [Value.ref l]) (by first | rfl | kernel_rfl!) ?_)
  show wpAny _ _ (pyIter (.ref l) >>= _) _ _ _
  refine wpAny_bind (wpAny_pyIter_list hl ?_)
  exact wpAny_pure ⟨_, rfl, h _ _ (F.push _) (News.push F N _ rfl) (fun q hq => Heap.lt_size (N q hq).1)⟩
theorem iter_b {b : Array UInt8} {t : Tok} {Q : Value → Shared → Prop} (F : Fr h₀ L s.heap m) (N : News h₀ L s.heap news)
    (h : ∀ (I : Addr) (h' : Heap), Fr h₀ L h' m → News h₀ L h' ((I, biObj b t) :: news) → (∀ p ∈ news, p.1 < I) → Q (.ref I) { s with heap := h' }) :
    wpAny (model prog w) A (call (.builtin "iter") [.bytes b t]) Q E s := by
  refine Calls.call_function_entry (by decide +kernel) (by decide +kernel) kdk_entry_iter (kdk_args_iter _) ?_
  unfold Builtin.«iter»
  refine wpAny_bind (m := someArgs "iter" 1 2 _) (wpAny_of_eq (a := [Value.bytes b t]) (by first | rfl | kernel_rfl!) ?_)
  show wpAny _ _ (pyIter (.bytes b t) >>= _) _ _ _
  refine wpAny_bind (KBw.pyIter_bytes ?_)
  exact wpAny_pure ⟨_, rfl, h _ _ (F.push _) (News.push F N _ rfl) (fun q hq => Heap.lt_size (N q hq).1)⟩
end

section
variable {prog : Program} {w : World} {A : Around} {E : Value → Shared → Prop} {s : Shared} {env : Env} {h₀ : Heap} {x : Str} {body : List Stmt} {Q : Flow → Shared → Prop}
/-- a loop over an iterator that stands already -/
theorem iter_self {I : Addr} {fp : List Addr} {n : Nat} {P : Nat → Value → Prop} {St : Nat → Heap → Prop} {m₀ : Str → Option Value} {L : Addr} {fx : List (Addr × Obj)} (J : Nat → (Str → Option Value) → Prop)
    (W : Walks prog w A I fp [I] n P St) (hst : St 0 s.heap) (hLf : L ∉ fp) (hI : h₀.get? I = none) (hfx : ∀ p ∈ fx, p.1 ≠ I)
    (F : Fr h₀ L s.heap m₀) (N : News h₀ L s.heap fx) (hj : J 0 m₀) (hL : env.locals = L)
    (turn : ∀ i v m₁ h tk ow, i < n → P i v → J i m₁ → (∀ p ∈ fx, p ∈ ow) →
      Fr h₀ L h (fun y => if y = x then some v else m₁ y) → News h₀ L h ow →
      wpAny (model prog w) A (execs body env) (TurnEnd h₀ L [] ow (fun m' mu' => mu' = [] ∧ J (i + 1) m') Q { s with heap := h, toks := tk }) E { s with heap := h, toks := tk })
    (done : ∀ m₁ h tk, J n m₁ → Fr h₀ L h m₁ → News h₀ L h fx → Q .next { s with heap := h, toks := tk }) :
    wpAny (model prog w) A (pyIter (.ref I)) (fun it s₂ => LoopAtV prog w A h₀ env x body Q E it s₂) E s := by
  refine W.self 0 _ _ _ hst ?_
  refine iter_walk (mu := []) (fx := fx) (fun i m' mu' => mu' = [] ∧ J i m') W hst hLf ?_ (fun p hp hm => hfx p hp (List.mem_singleton.mp hm)) (fun _ hp => nomatch hp) (fun _ hp => nomatch hp) F N ⟨rfl, hj⟩ hL ?_ ?_
  · intro b hb
    rw [List.mem_singleton.mp hb]; exact hI
  · rintro i v m₁ mu₁ h tk ow hi hP ⟨rfl, hJ⟩ _ h1 _ F₁ N₁
    exact turn i v m₁ h tk ow hi hP hJ h1 F₁ N₁
  · rintro m₁ mu₁ h tk ⟨rfl, hJ⟩ _ F₁ N₁
    exact done m₁ h tk hJ F₁ N₁
end

local macro_rules | `(tactic| walk_at "call builtin:iter") => `(tactic| (k_here; k_dflt (refine' iter_b ?F ?N ?_; (case F => k_asm); (case N => k_asm)); intro D' h' F' N' l1; (try k_lt l1)))

local macro_rules | `(tactic| walk_at "call builtin:iter") => `(tactic| (k_here; k_dflt (refine' iter_l ?F ?N ?l ?_; (case F => k_asm); (case N => k_asm); (case l => walk_at "mine:list")); intro D' h' F' N' l1; (try k_lt l1)))

local macro_rules | `(tactic| walk_at "mine:enterD") => `(tactic| (
  (refine' enter ?k1 ?k2 ?k6 ?k7 ?k8 ?k9 ?kB ?_ ?c2 ?c3 ?c4 ?c5; (case k1 => k_asm); (case k2 => k_asm); (case k6 => k_is); (case k7 => k_is); (case k8 => ktr_room); (case k9 => exact binds_K (by k_asm) rfl (by k_is) rfl rfl rfl); (case c5 => decide); (case kB => exact locs rfl); (case c2 => exact rfl); (case c3 => exact rfl); (case c4 => exact rfl); k_whole; intro L' h' F' N'; (simp only [List.map_cons, List.map_nil, List.zip_cons_cons, List.zip_nil_left, List.reverse_cons, List.reverse_nil, List.nil_append, List.cons_append] at F'); (try dsimp only); (try k_fold))))

local macro_rules | `(tactic| walk_at "compareOp Is") => `(tactic| (k_here; (first | (with_reducible show wpAny _ _ (compareOp CmpOp.Is (Value.bytes _ _) (Value.ref _)) _ _ _) | (with_reducible show wpAny _ _ (compareOp CmpOp.Is (Value.int _ _) (Value.ref _)) _ _ _)); refine wpAny_is_other (by rfl) (by intro x; cases x) ?_))

/-- what a heap says and every later heap too -/
structure Stable (PF : Heap → Prop) : Prop where
  go : ∀ h h' : Heap, (∀ b o, h.get? b = some o → h'.get? b = some o) → PF h → PF h'

local macro_rules | `(tactic| walk_at "call ref") => `(tactic| (k_here; k_dflt (refine' Sp.use ?C ?F ?X ?N ?T ?p ?d ?u ?_; (case C => assumption); (walk_at "mine:use"); (case p => exact Stable.go (by assumption) _ _ (Fr.keep (by k_asm)) (by assumption)); (intro r9 tl9 h' tk' hr9 F' N' hn9 hk9; obtain ⟨⟨t9, e1⟩, e2⟩ := hr9; subst e1; subst e2; (try simp only [List.nil_append] at N'); (try k_sweep)))))

theorem reduceB_ok (w : World) (f l : Addr) (vs : List Value) (ps : List (List UInt8)) (hb : BytesAre vs ps) (a : List UInt8) (t : Tok) (hz : a.length + (ps.map List.length).sum + ps.length ≤ 490)
    (PF : Heap → Prop) (hPF : Stable PF) (hFn : ∀ h, PF h → FnAt f h)
    (lam : ∀ (x p : List UInt8) (tx tp : Tok), x.length ≤ 500 → p.length ≤ 490 → Sp w f [.bytes x.toArray tx, .bytes p.toArray tp] 4 32 PF (fun r tl => (∃ t', r = .bytes (joinB x p).toArray t') ∧ tl = [])) :
    Sp w 166 [.ref f, .ref l, .bytes a.toArray t] 5 40 (fun h => h.IsList l vs.toArray ∧ PF h) (fun r tl => (∃ t', r = .bytes (ps.foldl joinB a).toArray t') ∧ tl = []) := by
  intro loose mean mg mb dp un fr gd R s X; revert X; w_top off; k_fill; intro X T pre hd1 hu1 hret; k_dflt walk_at "mine:enterD"
  obtain ⟨pre, hpf⟩ := pre
  have hfn := hFn _ hpf
  k_steps
  unfold Stopped
  have hmI := (by k_asm : News s.heap _ _ _) _ (.head _)
  have hLl : _ ≠ l := (Stands.ne (fx := []) (mu := []) (by obtain ⟨o, ho, _⟩ := pre; exact .inl ⟨o, ho⟩) (by k_asm : Fr s.heap _ _ _) News.nil)
  have hne : ∀ D : Addr, s.heap.get? D = none → l ≠ D := fun D hD e => by
    obtain ⟨o, ho, _⟩ := pre
    rw [← e, ho] at hD; cases hD
  have hlI := hne _ hmI.2.2
  refine' iter_self (fx := []) (fun i m₁ => (∃ t', m₁ "value" = some (.bytes ((ps.take i).foldl joinB a).toArray t')) ∧ m₁ "function" = some (.ref f)) (Walks.list rfl _ l hlI vs.toArray) ⟨⟨_, hmI.1, rfl, rfl⟩, ?isl⟩ ?lf hmI.2.2 (fun _ hp => nomatch hp) ?F News.nil ?j rfl ?turn ?done
  case F => k_asm
  case j => exact ⟨⟨_, rfl⟩, rfl⟩
  case isl => exact Fr.lst (by k_asm) pre
  case lf =>
    intro hm
    rcases List.mem_cons.mp hm with e | hm
    · exact hmI.2.1 e.symm
    · exact hLl (List.mem_singleton.mp hm)
  case turn =>
    rintro i v m₁ h tk ow hi hv ⟨⟨t1, e1⟩, e2⟩ hfx F N
    obtain ⟨p, tp, hp, rfl⟩ := hb.get' i (by simpa using hv)
    have hpl := mem_len (List.mem_of_getElem? hp)
    have hfl := fold_take ps a i
    have hJ := fold_succ (a := a) hp
    generalize (ps.take i).foldl joinB a = acc at *
    have hlam := lam acc p t1 tp (by omega) (by omega)
    replace F := see (see F (k := "value") (v := some (.bytes acc.toArray t1)) e1) (k := "function") (v := some (.ref f)) e2
    try k_fold
    k_steps
    exact ⟨_, _, _, [], rfl, by k_asm, by k_asm, rfl, rfl, ⟨_, congrArg (fun x => some (Value.bytes (List.toArray x) _)) hJ.symm⟩, rfl⟩
  case done =>
    rintro m₁ h tk ⟨⟨t1, e1⟩, _⟩ F N
    have hn : vs.toArray.size = ps.length := by rw [List.size_toArray, hb.length]
    rw [hn, List.take_length] at e1
    replace F := see F e1
    k_steps
    refine hret _ [] _ _ ?_ (Fr.keep (by k_asm)) (fun _ hp => nomatch hp)
    exact ⟨⟨_, rfl⟩, rfl⟩

def lamN (k o : Int) : Int := 16 * k + o - 65
theorem lamN_size {k o : Int} {n : Nat} (h : k.natAbs ≤ 256 ^ n) (h0 : 0 ≤ o) (h1 : o < 256) : (lamN k o).natAbs ≤ 256 ^ (n + 1) := by
  have h2 : (1 : Nat) ≤ 256 ^ n := Nat.one_le_pow _ _ (by omega)
  rw [Nat.pow_succ]
  unfold lamN
  omega
def bytesN (b : List UInt8) : Int := b.foldl (fun (k : Int) (o : UInt8) => lamN k (o.toNat : Int)) 0
theorem bytesN_size : ∀ (b : List UInt8) (k : Int) (n : Nat), k.natAbs ≤ 256 ^ n → (b.foldl (fun (k : Int) (o : UInt8) => lamN k (o.toNat : Int)) k).natAbs ≤ 256 ^ (n + b.length)
  | [], k, n, h => h
  | o :: b, k, n, h => by
    have h1 := lamN_size h (Int.natCast_nonneg o.toNat) (by have := o.toNat_lt; omega)
    have := bytesN_size b _ _ h1
    rw [List.foldl_cons, List.length_cons]
    rw [show n + (b.length + 1) = n + 1 + b.length by omega]
    exact this
theorem reduceN_ok (w : World) (f : Addr) (b : List UInt8) (tb t : Tok) (hz : b.length ≤ 3)
    (PF : Heap → Prop) (hPF : Stable PF) (hFn : ∀ h, PF h → FnAt f h)
    (lam : ∀ (k o : Int) (tk to : Tok), k.natAbs ≤ 256 ^ 3 → 0 ≤ o → o < 256 → Sp w f [.int k tk, .int o to] 4 32 PF (fun r tl => (∃ t', r = .int (lamN k o) t') ∧ tl = [])) :
    Sp w 166 [.ref f, .bytes b.toArray tb, .int 0 t] 5 40 PF (fun r tl => (∃ t', r = .int (bytesN b) t') ∧ tl = []) := by
  intro loose mean mg mb dp un fr gd R s X; revert X; w_top off; k_fill; intro X T pre hd1 hu1 hret; k_dflt walk_at "mine:enterD"
  have hfn := hFn _ pre
  k_steps
  unfold Stopped
  have hmI := (by k_asm : News s.heap _ _ _) _ (.head _)
  refine' iter_self (fx := []) (fun i m₁ => (∃ t', m₁ "value" = some (.int (bytesN (b.take i)) t')) ∧ m₁ "function" = some (.ref f)) (KBw.walks rfl _ b.toArray tb) ⟨_, hmI.1, rfl, rfl⟩ ?lf hmI.2.2 (fun _ hp => nomatch hp) ?F News.nil ?j rfl ?turn ?done
  case F => k_asm
  case j => exact ⟨⟨_, rfl⟩, rfl⟩
  case lf =>
    intro hm
    exact hmI.2.1 (List.mem_singleton.mp hm).symm
  case turn =>
    rintro i v m₁ h tk ow hi ⟨c, u, hc, rfl⟩ ⟨⟨t1, e1⟩, e2⟩ hfx F N
    have hc : b[i]? = some c := by simpa using hc
    have hJ : bytesN (b.take (i + 1)) = lamN (bytesN (b.take i)) (c.toNat : Int) := by
      unfold bytesN
      rw [List.take_add_one, hc, List.foldl_append]
      rfl
    have hsz : (bytesN (b.take i)).natAbs ≤ 256 ^ 3 := by
      have h1 := bytesN_size (b.take i) 0 0 (by simp)
      rw [Nat.zero_add] at h1
      refine Nat.le_trans h1 (Nat.pow_le_pow_right (by omega) ?_)
      rw [List.length_take]; omega
    generalize bytesN (b.take i) = acc at *
    have hlam := lam acc (c.toNat : Int) t1 u hsz (by omega) (by have := c.toNat_lt; omega)
    replace F := see (see F (k := "value") (v := some (.int acc t1)) e1) (k := "function") (v := some (.ref f)) e2
    try k_fold
    k_steps
    exact ⟨_, _, _, [], rfl, by k_asm, by k_asm, rfl, rfl, ⟨_, congrArg (fun x => some (Value.int x _)) hJ.symm⟩, rfl⟩
  case done =>
    rintro m₁ h tk ⟨⟨t1, e1⟩, _⟩ F N
    have hn : b.toArray.size = b.length := by simp
    rw [hn, List.take_length] at e1
    replace F := see F e1
    k_steps
    refine hret _ [] _ _ ?_ (Fr.keep (by k_asm)) (fun _ hp => nomatch hp)
    exact ⟨⟨_, rfl⟩, rfl⟩

section
variable {prog : Program} {w : World} {K : Frag} {A : Around} {s : Shared} {R : Result → Shared → Prop} {name qual : Str} {params : Arguments} {body : Expr} {scope : Scope} {pm ctv : Value} {c' f : Addr} {vs : List Value}
  {p : Program} {loose : List Str} {mean : ExcName → Option Value} {mg mb : Str → Option Value}
/-- entering a lambda made earlier -/
theorem enter_lam (T : Top p loose mean mg mb s.heap) (ho : s.heap.get? f = some (kla_obj name qual params body scope [] pm c' ctv)) (hcd : s.heap.CodeRec (.ref c') qual) (hroom : A.depth < recursionLimit)
    (hbind : bindArgs (kla_fn name qual params body scope [] pm (.ref c') ctv) ⟨vs, []⟩ = pure ((params.args.map (·.arg)).zip vs)) (hloc : ∀ y ∈ (params.args.map (·.arg)).zip vs, scope.names.lookup y.1 = some .local)
    (h : ∀ L' h₁, Fr s.heap L' h₁ (fun y => ((params.args.map (·.arg)).zip vs).reverse.lookup y) → News s.heap L' h₁ [] →
      wpAny (model prog w) (A.deeper (envX qual scope L' f (.ref c') [])) (eval body (envX qual scope L' f (.ref c') []))
        (fun v s' => R (.ok (.ret v)) s') (fun _ _ => False) { s with heap := h₁, toks := s.toks + ((params.args.map (·.arg)).zip vs).length })
    (hco : scope.isCoroutine = false) (hgen : scope.isGenerator = false) (hk : scope.kind = .function)
    (hcell : ∀ x ∈ scope.names, x.2 ≠ .cell) : codeAny (model prog w) A (.call (.ref f) ⟨vs, []⟩) R s := by
  refine kla_callFunE hroom ho rfl hco hgen rfl hcd ?_
  rw [hbind]
  refine wpAny_pure (wpAny_newFunctionEnv hcell hloc (fun h₁ hns hsb => ⟨T.nolimit.fresh _ hsb, ?_⟩) hk)
  show codeAny _ _ (.expr body (envX qual scope s.heap.objs.size f (.ref c') [])) _ _
  have hk₁ : ∀ b o, s.heap.get? b = some o → h₁.get? b = some o := fun b o e => hsb.extBut b o (Nat.ne_of_lt (Heap.lt_size e)) (Heap.get?_push_of_some _ e)
  exact kla_codeExpr (wpAny_mono (h s.heap.objs.size h₁ ⟨hns, hk₁, Nat.le_refl _⟩ News.nil) (fun _ _ x => x) (fun _ _ x => x.elim))
end

local macro_rules | `(tactic| walk_at "mine:enterL") => `(tactic| (
  (refine' enter_lam ?k2 ?k6 ?k7 ?k8 ?k9 ?kB ?_ ?c2 ?c3 ?c4 ?c5; (case k2 => k_asm); (case k6 => exact And.left (by assumption)); (case k7 => exact And.right (by assumption)); (case k8 => ktr_room); (case k9 => exact rfl); (case c5 => decide); (case kB => exact locs rfl); (case c2 => exact rfl); (case c3 => exact rfl); (case c4 => exact rfl); k_whole; intro L' h' F' N'; (simp only [List.map_cons, List.map_nil, List.zip_cons_cons, List.zip_nil_left, List.reverse_cons, List.reverse_nil, List.nil_append, List.cons_append] at F'); (try dsimp only); (try k_fold))))

/-- a lambda stands in the heap -/
abbrev LamAt (f : Addr) (o : Obj) (c' : Addr) (qual : Str) (h : Heap) : Prop := h.get? f = some o ∧ h.CodeRec (.ref c') qual
theorem lamAt_stable {f c' : Addr} {o : Obj} {qual : Str} : Stable (LamAt f o c' qual) := ⟨fun _ _ hk X => ⟨hk _ _ X.1, by
  obtain ⟨c, oc, vs, t, e, h1, h2⟩ := X.2
  exact ⟨c, oc, vs, t, e, hk _ _ h1, h2⟩⟩⟩

section
variable {w : World} {loose : List Str} {mean : ExcName → Option Value} {mg mb : Str → Option Value} {dp un : Nat} {fr : Option (List Env)} {gd : Option (List Code)} {h₀ : Heap} {L : Addr} {m : Str → Option Value} {news : List (Addr × Obj)} {s : Shared} {Q E : Value → Shared → Prop}
  {name qual : Str} {params : Arguments} {body : Expr} {scope : Scope} {pm ctv : Value} {c' f : Addr}
theorem reduceN_use {b : List UInt8} {tb t : Tok} (F : Fr h₀ L s.heap m) (X : (hd.heap_39 w.params).In h₀) (N : News h₀ L s.heap news) (T : Top topProg loose mean mg mb h₀) (hm : (f, kla_obj name qual params body scope [] pm c' ctv) ∈ news) (hcr : s.heap.CodeRec (.ref c') qual) (hz : b.length ≤ 3)
    (lam : ∀ (k o : Int) (tk to : Tok), k.natAbs ≤ 256 ^ 3 → 0 ≤ o → o < 256 → Sp w f [.int k tk, .int o to] 4 32 (LamAt f (kla_obj name qual params body scope [] pm c' ctv) c' qual) (fun r tl => (∃ t', r = .int (lamN k o) t') ∧ tl = []))
    (hd1 : dp + 5 < recursionLimit) (hu1 : un + 40 < cLine)
    (h : ∀ t' h' tk', Fr h₀ L h' m → News h₀ L h' news → Q (.int (bytesN b) t') { s with heap := h', toks := tk' }) :
    wpAny (model Challenge.rw_pd0145_01.row.prog w) (AA dp un fr gd) (call (.ref 166) [.ref f, .bytes b.toArray tb, .int 0 t]) Q E s := by
  refine Sp.use (reduceN_ok w f b tb t hz _ lamAt_stable (fun h X => ⟨_, _, _, _, X.1⟩) lam) F X N T ⟨(N _ hm).1, hcr⟩ hd1 hu1 ?_
  rintro r tl h' tk' ⟨⟨t', rfl⟩, rfl⟩ F' N' _ _
  exact h t' h' tk' F' N'
theorem reduceB_use {l : Addr} {vs : List Value} {ps : List (List UInt8)} {a : List UInt8} {t : Tok} (F : Fr h₀ L s.heap m) (X : (hd.heap_39 w.params).In h₀) (N : News h₀ L s.heap news) (T : Top topProg loose mean mg mb h₀) (hm : (f, kla_obj name qual params body scope [] pm c' ctv) ∈ news) (hcr : s.heap.CodeRec (.ref c') qual)
    (hl : s.heap.IsList l vs.toArray) (hb : BytesAre vs ps) (hz : a.length + (ps.map List.length).sum + ps.length ≤ 490)
    (lam : ∀ (x p : List UInt8) (tx tp : Tok), x.length ≤ 500 → p.length ≤ 490 → Sp w f [.bytes x.toArray tx, .bytes p.toArray tp] 4 32 (LamAt f (kla_obj name qual params body scope [] pm c' ctv) c' qual) (fun r tl => (∃ t', r = .bytes (joinB x p).toArray t') ∧ tl = []))
    (hd1 : dp + 5 < recursionLimit) (hu1 : un + 40 < cLine)
    (h : ∀ t' h' tk', Fr h₀ L h' m → News h₀ L h' news → Q (.bytes (ps.foldl joinB a).toArray t') { s with heap := h', toks := tk' }) :
    wpAny (model Challenge.rw_pd0145_01.row.prog w) (AA dp un fr gd) (call (.ref 166) [.ref f, .ref l, .bytes a.toArray t]) Q E s := by
  refine Sp.use (reduceB_ok w f l vs ps hb a t hz _ lamAt_stable (fun h X => ⟨_, _, _, _, X.1⟩) lam) F X N T ⟨hl, (N _ hm).1, hcr⟩ hd1 hu1 ?_
  rintro r tl h' tk' ⟨⟨t', rfl⟩, rfl⟩ F' N' _ _
  exact h t' h' tk' F' N'
end

/-! a def that makes a lambda: its code's table (206) is written at the first call, so it is laid aside -/
/-- the table's part of the ledger: nothing made yet, or the lambda's code -/
def Tab (q : Str) (ln col : Int) (l : List (Addr × Obj)) : Prop :=
  l = [(206, tabObj #[])] ∨ ∃ c' oc vs t, l = [(206, tabObj #[rawInt ln, rawInt col, .ref c']), (c', oc)] ∧ oc.data = .fields vs ∧ vs[1]? = some (.str q t)
/-- every entry of the ledger's part stands -/
def Held (b h : Heap) (l : List (Addr × Obj)) : Prop := ∀ p ∈ l, h.get? p.1 = some p.2 ∧ b.get? p.1 = none
theorem hidden_keeps {b h : Heap} {l : List (Addr × Obj)} (hk : ∀ a o, b.get? a = some o → h.get? a = some o) (H : Held b h l) : ∀ a o, b.get? a = some o → (hideAll h (l.map (·.1))).get? a = some o := fun a o e =>
  hideAll_get _ (hk a o e) fun q => by
    obtain ⟨p, hp, e2⟩ := List.mem_map.mp q
    have := (H p hp).2
    rw [e2, e] at this; cases this

/-- what a call of a def gives that leans on _law_number's table -/
abbrev SpT (w : World) (f : Addr) (vs : List Value) (dd uu : Nat) (Pre : Heap → Prop) (Ret : Value → List (Addr × Obj) → Prop) (q : Str) (ln col : Int) : Prop :=
  ∀ (loose : List Str) (mean : ExcName → Option Value) (mg mb : Str → Option Value) (dp un : Nat) (fr : Option (List Env)) (gd : Option (List Code)) (R : Result → Shared → Prop) (s : Shared) (b : Heap) (l : List (Addr × Obj)),
    (hd.heap_39 w.params).In b → Top topProg loose mean mg mb b → CodeHd b 210 206 → (∀ a o, b.get? a = some o → s.heap.get? a = some o) → Held b s.heap l → Tab q ln col l → Pre s.heap → dp + dd < recursionLimit → un + uu < cLine →
    (∀ r tl h' tk' l', Ret r tl → Tab q ln col l' → Held b h' l' → (∀ a o, a ∉ l.map (·.1) → s.heap.get? a = some o → h'.get? a = some o) → (∀ p ∈ tl, h'.get? p.1 = some p.2 ∧ s.heap.get? p.1 = none) →
      (∀ p ∈ l', p.1 ∈ l.map (·.1) ∨ s.heap.get? p.1 = none) → (∀ p ∈ tl, ∀ q ∈ l', p.1 ≠ q.1) → (∀ p ∈ l, p.1 ∈ l'.map (·.1)) → R (.ok (.ret r)) { s with heap := h', toks := tk' }) →
    codeAny (model Challenge.rw_pd0145_01.row.prog w) (AA dp un fr gd) (.call (.ref f) ⟨vs, []⟩) R s

section
variable {prog : Program} {w : World} {K : Frag} {A : Around} {s : Shared} {R : Result → Shared → Prop} {name qual : Str} {params : Arguments} {body : List Stmt} {scope : Scope} {dV kV doc pm cdv ct oc : Value}
  {an od : Option Addr} {osl : Array (Option Value)} {f : Addr} {vs : List Value} {p : Program} {loose : List Str} {mean : ExcName → Option Value} {mg mb : Str → Option Value} {b : Heap} {l : List (Addr × Obj)}
theorem enter_tab (X : K.In b) (T : Top p loose mean mg mb b) (C : CodeHd b 210 206) (hkb : ∀ a o, b.get? a = some o → s.heap.get? a = some o) (H : Held b s.heap l)
    (ho : K.lookup f = some ⟨oc, od, .func (fnOf name qual params body scope dV kV doc pm an cdv ct), osl⟩) (hcd : codeIn K cdv qual = true) (hroom : A.depth < recursionLimit)
    (hbind : bindArgs (fnOf name qual params body scope dV kV doc pm an cdv ct) ⟨vs, []⟩ = pure ((params.args.map (·.arg)).zip vs)) (hloc : ∀ y ∈ (params.args.map (·.arg)).zip vs, scope.names.lookup y.1 = some .local)
    (h : ∀ g L' h₁, g = hideAll s.heap (l.map (·.1)) → Fr g L' h₁ (fun y => ((params.args.map (·.arg)).zip vs).reverse.lookup y) → News g L' h₁ l → K.In g → Top p loose mean mg mb g → CodeHd g 210 206 → (∀ a o, b.get? a = some o → g.get? a = some o) →
      wpAny (model prog w) (A.deeper (envOf qual scope L' f cdv)) (execs body (envOf qual scope L' f cdv))
        (fun fl s' => R (.ok (.ret (match fl with | .ret v => v | _ => .none))) s') (fun _ _ => False) { s with heap := h₁, toks := s.toks + ((params.args.map (·.arg)).zip vs).length })
    (hco : scope.isCoroutine = false) (hgen : scope.isGenerator = false) (hk : scope.kind = .function)
    (hcell : ∀ x ∈ scope.names, x.2 ≠ .cell) : codeAny (model prog w) A (.call (.ref f) ⟨vs, []⟩) R s := by
  refine codeAny_call_def (fd := fnOf name qual params body scope dV kV doc pm an cdv ct) (body := body) (binds := (params.args.map (·.arg)).zip vs) hroom (hkb _ _ (X _ _ ho)) rfl (T.nolimit.keeps hkb) (codeRec_of (X.keeps hkb) hcd) rfl (BindsTo.of_eq hbind) hcell hloc (fun h₁ hns hk₁ => ?_) hco hgen hk
  have hg := hidden_keeps hkb H
  refine wpAny_mono (h _ s.heap.objs.size h₁ rfl ⟨hns, fun a o e => hk₁ a o (of_hideAll _ e), Nat.le_of_eq (hideAll_size _ _)⟩ (fun p hp => ?_) (X.keeps hg) (T.keeps hg) (C.keeps hg) hg) (fun _ _ x => x) (fun _ _ x => x.elim)
  exact ⟨hk₁ _ _ (H p hp).1, Nat.ne_of_lt (Heap.lt_size (H p hp).1), hideAll_none _ (List.mem_map_of_mem hp)⟩
end

theorem tab_done {b g h' : Heap} {L : Addr} {m : Str → Option Value} {news l l' : List (Addr × Obj)} {s : Shared} (hg : g = hideAll s.heap (l.map (·.1))) (hbg : ∀ a o, b.get? a = some o → g.get? a = some o)
    (F : Fr g L h' m) (N : News g L h' news) (hl : ∀ p ∈ l', p ∈ news) :
    Held b h' l' ∧ (∀ a o, a ∉ l.map (·.1) → s.heap.get? a = some o → h'.get? a = some o) ∧ (∀ p ∈ l', p.1 ∈ l.map (·.1) ∨ s.heap.get? p.1 = none) := by
  subst hg
  refine ⟨fun p hp => ⟨(N p (hl p hp)).1, ?_⟩, fun a o ha e => F.keep a o (hideAll_get _ e ha), fun p hp => ?_⟩
  · cases q : b.get? p.1 with
    | none => rfl
    | some o =>
      have := (N p (hl p hp)).2.2
      rw [hbg _ _ q] at this; cases this
  · by_cases hm : p.1 ∈ l.map (·.1)
    · exact .inl hm
    · refine .inr ?_
      cases q : s.heap.get? p.1 with
      | none => rfl
      | some o =>
        have := (N p (hl p hp)).2.2
        rw [hideAll_get _ q hm] at this; cases this

local macro_rules | `(tactic| walk_at "mine:enterT") => `(tactic| (
  (refine' enter_tab ?k1 ?k2 ?kc ?kk ?kh ?k6 ?k7 ?k8 ?k9 ?kB ?_ ?c2 ?c3 ?c4 ?c5; (case k1 => assumption); (case k2 => assumption); (case kc => assumption); (case kk => assumption); (case kh => assumption); (case k6 => k_is); (case k7 => k_is); (case k8 => ktr_room); (case k9 => exact rfl); (case c5 => decide); (case kB => exact locs rfl); (case c2 => exact rfl); (case c3 => exact rfl); (case c4 => exact rfl); k_whole)))

theorem nb1 {b : List UInt8} (h : (b == [46, 46]) = true) : numberB b = -1 := if_pos (by simpa using h)
theorem nb2 {b : List UInt8} (h : (b == [46, 46]) = false) (h2 : (b == [46]) = true) : numberB b = 0 := by
  unfold numberB
  rw [if_neg (by simpa using h), if_pos (by simpa using h2)]
theorem nb3 {b : List UInt8} (h : (b == [46, 46]) = false) (h2 : (b == [46]) = false) : numberB b = bytesN b := by
  unfold numberB
  rw [if_neg (by simpa using h), if_neg (by simpa using h2)]
  rfl
theorem lamN_eq (k o : Int) : 16 * k + o - 65 = lamN k o := rfl
abbrev qN : Str := (Str.ofString "_law_number" ++ Str.ofString ".<locals>.") ++ Str.ofString "<lambda>"

theorem tab_new {b g h' : Heap} {L c' : Addr} {m : Str → Option Value} {r l : List (Addr × Obj)} {x : Addr × Obj} {s : Shared} {oc : Obj} {vs : Array Value} {q : Str} {t : Tok} {ln col : Int} (hg : g = hideAll s.heap (l.map (·.1))) (hbg : ∀ a o, b.get? a = some o → g.get? a = some o)
    (F : Fr g L h' m) (N : News g L h' (x :: (c', oc) :: (206, tabObj (#[] ++ #[rawInt ln, rawInt col, .ref c'])) :: r)) (d1 : oc.data = .fields vs) (d2 : vs[1]? = some (.str q t)) :
    ∃ l', Tab q ln col l' ∧ 206 ∈ l'.map (·.1) ∧ Held b h' l' ∧ (∀ a o, a ∉ l.map (·.1) → s.heap.get? a = some o → h'.get? a = some o) ∧ (∀ p ∈ l', p.1 ∈ l.map (·.1) ∨ s.heap.get? p.1 = none) := by
  rw [Array.empty_append] at N
  refine ⟨[(206, tabObj #[rawInt ln, rawInt col, .ref c']), (c', oc)], .inr ⟨c', oc, vs, t, rfl, d1, d2⟩, .head _, tab_done hg hbg F N fun p hp => ?_⟩
  rcases List.mem_cons.mp hp with e | hp
  · rw [e]; exact .tail _ (.tail _ (.head _))
  · rw [List.mem_singleton.mp hp]; exact .tail _ (.head _)

theorem number_ok (w : World) (b : List UInt8) (t : Tok) (hz : b.length ≤ 3) :
    SpT w 211 [.bytes b.toArray t] 6 60 (fun _ => True) (fun r tl => (∃ t', r = .int (numberB b) t') ∧ tl = []) qN 230 18 := by
  intro loose mean mg mb dp un fr gd R s bs l X; revert X; w_top off; k_fill; intro X T C hkb H htab pre hd1 hu1 hret; k_dflt walk_at "mine:enterT"
  intro g L' h₁ hg F N X' T' C' hbg
  clear X T C
  (simp only [List.map_cons, List.map_nil, List.zip_cons_cons, List.zip_nil_left, List.reverse_cons, List.reverse_nil, List.nil_append] at F)
  try dsimp only
  try k_fold
  rcases id htab with e | ⟨c', oc, vs, t', e, d1, d2⟩
  · rw [e] at N
    k_steps
    · obtain ⟨h1, h2, h3⟩ := tab_done (l' := l) hg hbg (by k_asm) (by k_asm) (fun p hp => e ▸ hp)
      exact hret _ [] _ _ l ⟨⟨_, congrArg (fun x => Value.int x _) (nb1 (by assumption)).symm⟩, rfl⟩ htab h1 h2 (fun _ hp => nomatch hp) h3 (fun _ hp => nomatch hp) (fun p hp => List.mem_map_of_mem hp)
    · obtain ⟨h1, h2, h3⟩ := tab_done (l' := l) hg hbg (by k_asm) (by k_asm) (fun p hp => e ▸ hp)
      exact hret _ [] _ _ l ⟨⟨_, congrArg (fun x => Value.int x _) (nb2 (by assumption) (by assumption)).symm⟩, rfl⟩ htab h1 h2 (fun _ hp => nomatch hp) h3 (fun _ hp => nomatch hp) (fun p hp => List.mem_map_of_mem hp)
    · refine' reduceN_use ?F ?X ?N ?T ?m ?c hz ?lam ?d ?u ?_
      case F => k_asm
      case X => k_asm
      case N => k_asm
      case T => k_asm
      case m => exact .head _
      case c => exact codeRec_news (by k_asm) (by k_mem) (by assumption) (by assumption)
      case d => ktr_room
      case u => ktr_units
      case lam =>
        intro k o tk to hk h0 h1
        intro loose mean mg mb dp un fr gd R s X; revert X; w_top off; k_fill; intro X T pre hd1 hu1 hret; k_dflt walk_at "mine:enterL"
        k_steps
        refine hret _ [] _ _ ?_ (Fr.keep (by k_asm)) (fun _ hp => nomatch hp)
        exact ⟨⟨_, rfl⟩, rfl⟩
      · intro t9 h9 tk9 F9 N9
        obtain ⟨l', h0, h4, h1, h2, h3⟩ := tab_new (q := qN) (ln := 230) (col := 18) hg hbg F9 N9 (by assumption) (by assumption)
        exact hret _ [] _ _ l' ⟨⟨_, congrArg (fun x => Value.int x _) (nb3 (by assumption) (by assumption)).symm⟩, rfl⟩ h0 h1 h2 (fun _ hp => nomatch hp) h3 (fun _ hp => nomatch hp) (fun p hp => by rw [e] at hp; rw [List.mem_singleton.mp hp]; exact h4)
  · rw [e] at N
    k_steps
    · obtain ⟨h1, h2, h3⟩ := tab_done (l' := l) hg hbg (by k_asm) (by k_asm) (fun p hp => e ▸ hp)
      exact hret _ [] _ _ l ⟨⟨_, congrArg (fun x => Value.int x _) (nb1 (by assumption)).symm⟩, rfl⟩ htab h1 h2 (fun _ hp => nomatch hp) h3 (fun _ hp => nomatch hp) (fun p hp => List.mem_map_of_mem hp)
    · obtain ⟨h1, h2, h3⟩ := tab_done (l' := l) hg hbg (by k_asm) (by k_asm) (fun p hp => e ▸ hp)
      exact hret _ [] _ _ l ⟨⟨_, congrArg (fun x => Value.int x _) (nb2 (by assumption) (by assumption)).symm⟩, rfl⟩ htab h1 h2 (fun _ hp => nomatch hp) h3 (fun _ hp => nomatch hp) (fun p hp => List.mem_map_of_mem hp)
    · refine' reduceN_use ?F ?X ?N ?T ?m ?c hz ?lam ?d ?u ?_
      case F => k_asm
      case X => k_asm
      case N => k_asm
      case T => k_asm
      case m => exact .head _
      case c => exact codeRec_news (by k_asm) (by k_mem) (by assumption) (by assumption)
      case d => ktr_room
      case u => ktr_units
      case lam =>
        intro k o tk to hk h0 h1
        intro loose mean mg mb dp un fr gd R s X; revert X; w_top off; k_fill; intro X T pre hd1 hu1 hret; k_dflt walk_at "mine:enterL"
        k_steps
        refine hret _ [] _ _ ?_ (Fr.keep (by k_asm)) (fun _ hp => nomatch hp)
        exact ⟨⟨_, rfl⟩, rfl⟩
      · intro t9 h9 tk9 F9 N9
        obtain ⟨h1, h2, h3⟩ := tab_done (l' := l) hg hbg F9 N9 (fun p hp => .tail _ (e ▸ hp))
        exact hret _ [] _ _ l ⟨⟨_, congrArg (fun x => Value.int x _) (nb3 (by assumption) (by assumption)).symm⟩, rfl⟩ htab h1 h2 (fun _ hp => nomatch hp) h3 (fun _ hp => nomatch hp) (fun p hp => List.mem_map_of_mem hp)

local macro_rules | `(tactic| walk_at "call ref") => `(tactic| (k_here; k_dflt (refine' Sp.use (basename_ok _ _ _ ?z) ?F ?X ?N ?T ?p ?d ?u ?_; (walk_at "mine:use"); (case p => trivial); (case z => omega); (intro r9 tl9 h' tk' hr9 F' N' hn9 hk9; obtain ⟨⟨t9, e1⟩, e2⟩ := hr9; subst e1; subst e2; (try simp only [List.nil_append] at N'); (try k_sweep)))))

local macro_rules | `(tactic| walk_at "call ref") => `(tactic| (k_here; k_dflt (refine' Sp.use (dirname_ok _ _ _ ?z) ?F ?X ?N ?T ?p ?d ?u ?_; (walk_at "mine:use"); (case p => trivial); (case z => omega); (intro r9 tl9 h' tk' hr9 F' N' hn9 hk9; obtain ⟨⟨t9, e1⟩, e2⟩ := hr9; subst e1; subst e2; (try simp only [List.nil_append] at N'); (try k_sweep)))))

local macro_rules | `(tactic| walk_at "call ref") => `(tactic| (k_here; k_dflt (refine' Sp.use (split_ok _ _ _ ?z) ?F ?X ?N ?T ?p ?d ?u ?_; (walk_at "mine:use"); (case p => trivial); (case z => omega); (intro r9 tl9 h' tk' hr9 F' N' hn9 hk9; obtain ⟨a9, t1, t2, e1, e2⟩ := hr9; subst e1; subst e2; (try simp only [List.nil_append, List.cons_append] at N'); (try k_sweep)))))

theorem ne_b_self {prog : Program} {w : World} {A : Around} {E : Value → Shared → Prop} {s : Shared} {a : List UInt8} {t u : Tok} {Q : Value → Shared → Prop} (h : Q (.bool false) s) : wpAny (model prog w) A (compareOp .NotEq (.bytes a.toArray t) (.bytes a.toArray u)) Q E s := by
  refine ne_b ?_
  rw [show (a != a) = false by simp]
  exact h

local macro_rules | `(tactic| walk_at "compareOp NotEq bytes bytes") => `(tactic| (k_here; (with_reducible refine ne_b_self ?_)))

theorem SpT.use {w : World} {f : Addr} {vs : List Value} {dd uu : Nat} {Pre : Heap → Prop} {Ret : Value → List (Addr × Obj) → Prop} {q : Str} {ln col : Int} (C : SpT w f vs dd uu Pre Ret q ln col)
    {loose : List Str} {mean : ExcName → Option Value} {mg mb : Str → Option Value} {dp un : Nat} {fr : Option (List Env)} {gd : Option (List Code)} {h₀ : Heap} {L : Addr} {m : Str → Option Value} {news : List (Addr × Obj)} {s : Shared} {Q E : Value → Shared → Prop}
    (l ow : List (Addr × Obj)) (F : Fr h₀ L s.heap m) (X : (hd.heap_39 w.params).In h₀) (N : News h₀ L s.heap news) (T : Top topProg loose mean mg mb h₀) (CH : CodeHd h₀ 210 206) (hl : ∀ p ∈ l, p ∈ news) (how : ∀ p ∈ ow, p ∈ news) (tab : Tab q ln col l) (pre : Pre s.heap)
    (hsep : ∀ p ∈ l, ∀ z ∈ ow, z.1 ≠ p.1) (hd1 : dp + dd < recursionLimit) (hu1 : un + uu < cLine)
    (h : ∀ r tl h' tk' l', Ret r tl → Tab q ln col l' → Fr h₀ L h' m → News h₀ L h' (tl ++ (ow ++ l')) → (∀ p ∈ l', ∀ z ∈ ow, z.1 ≠ p.1) → (∀ p ∈ tl, ∀ z ∈ ow, z.1 ≠ p.1) → (∀ p ∈ l, p.1 ∈ l'.map (·.1)) → Q r { s with heap := h', toks := tk' }) :
    wpAny (model Challenge.rw_pd0145_01.row.prog w) (AA dp un fr gd) (call (.ref f) vs) Q E s := by
  have H : Held h₀ s.heap l := fun p hp => ⟨(N p (hl p hp)).1, (N p (hl p hp)).2.2⟩
  refine wpAny_call (C loose mean mg mb dp un fr gd _ s h₀ l X T CH F.keep H tab pre hd1 hu1 fun r tl h' tk' l' hr ht' H' hk htl hfresh htl2 hll => ?_)
  have hnl : ∀ a, (∀ p ∈ l, p.1 ≠ a) → a ∉ l.map (·.1) := fun a ha hm => by
    obtain ⟨p, hp, e⟩ := List.mem_map.mp hm
    exact ha p hp e
  have hL : L ∉ l.map (·.1) := hnl L fun p hp => (N p (hl p hp)).2.1
  obtain ⟨oL, es, ep, hLg, hLr⟩ := id F.ns
  have F' : Fr h₀ L h' m := ⟨⟨oL, es, ep, hk _ _ hL hLg, hLr⟩, fun a o e => hk a o (hnl a fun p hp e2 => by
    have := (H p hp).2
    rw [e2, e] at this; cases this) (F.keep a o e), F.above⟩
  have hfl : ∀ p ∈ l', ∀ z, s.heap.get? z ≠ none → (∀ p ∈ l, p.1 ≠ z) → z ≠ p.1 := fun p hp z hz hzl e => by
    rcases hfresh p hp with hm | hn
    · obtain ⟨p2, hp2, e2⟩ := List.mem_map.mp hm
      exact hzl p2 hp2 (e2.trans e.symm)
    · rw [← e] at hn; exact hz hn
  have how' : ∀ z ∈ ow, s.heap.get? z.1 ≠ none := fun z hz e => by
    have := (N z (how z hz)).1
    rw [e] at this; cases this
  refine h r tl h' tk' l' hr ht' F' (fun p hp => ?_) (fun p hp z hz => hfl p hp z.1 (how' z hz) fun p2 hp2 e => hsep p2 hp2 z hz e.symm) (fun p hp z hz e => how' z hz (by rw [e]; exact (htl p hp).2)) hll
  rcases List.mem_append.mp hp with hp | hp
  · obtain ⟨h1, h2⟩ := htl p hp
    refine ⟨h1, (fun e => by rw [e, hLg] at h2; cases h2), ?_⟩
    cases e : h₀.get? p.1 with
    | none => rfl
    | some o => rw [F.keep _ _ e] at h2; cases h2
  · rcases List.mem_append.mp hp with hp | hp
    · exact ⟨hk _ _ (hnl _ fun p2 hp2 e => hsep p2 hp2 p hp e.symm) (N p (how p hp)).1, (N p (how p hp)).2⟩
    · refine ⟨(H' p hp).1, fun e => hfl p hp L (by rw [hLg]; simp) (fun p2 hp2 => (N p2 (hl p2 hp2)).2.1) e.symm, (H' p hp).2⟩

theorem climb_ret {g h' : Heap} {L D lst : Addr} {oD ol : Obj} {x : Addr × Obj} {s : Shared} {l₀ l2 ow : List (Addr × Obj)} {P1 P2 : Prop} (hg : g = hideAll s.heap (l₀.map (·.1))) (N : News g L h' ((D, oD) :: x :: (lst, ol) :: (l2 ++ ow))) (hl0 : ∀ p ∈ l₀, p.1 ∈ l2.map (·.1)) (hll : ∀ p ∈ l2, p.1 ≠ lst)
    (hD : P1 ∧ P2 ∧ AllLt D (l2 ++ ow)) : (∀ p ∈ [(D, oD), (lst, ol)], h'.get? p.1 = some p.2 ∧ s.heap.get? p.1 = none) ∧ (∀ p ∈ [(D, oD), (lst, ol)], ∀ q ∈ l2, p.1 ≠ q.1) := by
  have hsep : ∀ p ∈ [(D, oD), (lst, ol)], ∀ q ∈ l2, p.1 ≠ q.1 := by
    intro p hp q hq e
    rcases List.mem_cons.mp hp with h | hp
    · rw [h] at e
      exact ne_of_allLt hD.2.2 q (List.mem_append.mpr (.inl hq)) e.symm
    · rw [List.mem_singleton.mp hp] at e
      exact hll q hq e.symm
  refine ⟨fun p hp => ?_, hsep⟩
  have hm : p ∈ (D, oD) :: x :: (lst, ol) :: (l2 ++ ow) := by
    rcases List.mem_cons.mp hp with h | hp
    · rw [h]; exact .head _
    · rw [List.mem_singleton.mp hp]; exact .tail _ (.tail _ (.head _))
  refine ⟨(N p hm).1, ?_⟩
  cases q : s.heap.get? p.1 with
  | none => rfl
  | some o =>
    have h1 := (N p hm).2.2
    rw [hg, hideAll_get _ q fun hq => ?_] at h1
    · cases h1
    · obtain ⟨z, hz, e⟩ := List.mem_map.mp hq
      obtain ⟨z2, hz2, e2⟩ := List.mem_map.mp (hl0 z hz)
      exact hsep p hp z2 hz2 (e.symm.trans e2.symm)
theorem headB_len (l : List UInt8) : (headB l).length ≤ l.length := by
  have h := dir_len l
  unfold headB
  split
  · have := rstrip_le (dirB l); omega
  · omega
theorem climb_turn {g h' : Heap} {L D l9 lst : Addr} {oD o9 ol : Obj} {ow l3 : List (Addr × Obj)} {P1 P2 : Prop} (N : News g L h' ((D, oD) :: (l9, o9) :: (lst, ol) :: (ow ++ l3))) (hD : P1 ∧ P2 ∧ AllLt D (ow ++ l3)) (hs : ∀ p ∈ l3, ∀ z ∈ (lst, ol) :: ow, z.1 ≠ p.1) :
    News g L h' (((D, oD) :: l3) ++ ow) ∧ (∀ p ∈ (D, oD) :: l3, ∀ q ∈ ow, q.1 ≠ p.1) ∧ (∀ p ∈ l3, p.1 ≠ D) := by
  have hA := ne_of_allLt hD.2.2
  refine ⟨fun p hp => N p ?_, fun p hp q hq => ?_, fun p hp => hA p (List.mem_append.mpr (.inr hp))⟩
  · rcases List.mem_append.mp hp with hp | hp
    · rcases List.mem_cons.mp hp with h | hp
      · rw [h]; exact .head _
      · exact .tail _ (.tail _ (.tail _ (List.mem_append.mpr (.inr hp))))
    · exact .tail _ (.tail _ (.tail _ (List.mem_append.mpr (.inl hp))))
  · rcases List.mem_cons.mp hp with h | hp
    · rw [h]; exact hA q (List.mem_append.mpr (.inl hq))
    · exact hs p hp q (.tail _ hq)

theorem climbed_ok (w : World) (way w' : List UInt8) (t : Tok) (ns' : List Int) (hc : climbB 11 way [] = some (w', ns')) (hz : way.length ≤ 500) :
    SpT w 218 [.bytes way.toArray t] 9 100 (fun _ => True) (fun r tl => ∃ a b us n t', r = .ref a ∧ tl = [(a, tupOf [.bytes w'.toArray t', .ref b]), (b, W.listOf (List.toArray us) n)] ∧ NumsAre us ns') qN 230 18 := by
  intro loose mean mg mb dp un fr gd R s bs l₀ X; revert X; w_top off; k_fill; intro X T C hkb H htab pre hd1 hu1 hret; k_dflt walk_at "mine:enterT"
  intro g L' h₁ hg F N X' T' C' hbg
  clear X T C
  (simp only [List.map_cons, List.map_nil, List.zip_cons_cons, List.zip_nil_left, List.reverse_cons, List.reverse_nil, List.nil_append] at F)
  try dsimp only
  try k_fold
  k_steps
  unfold Stopped
  refine' iter_rangeG (_ :: l₀) [] (n := 11) (fun i m₁ mu₁ => ∃ (lst : Addr) (us : List Value) (n : Nat) (l : List (Addr × Obj)) (way : List UInt8) (nums : List Int) (t : Tok), mu₁ = (lst, W.listOf (List.toArray us) n) :: l ∧ Tab qN 230 18 l ∧ NumsAre us nums ∧ climbB (11 - i) way nums = some (w', ns') ∧ nums.length ≤ i ∧ way.length ≤ 500 ∧ (∀ p ∈ l, p.1 ≠ lst) ∧ (∀ p ∈ l₀, p.1 ∈ l.map (·.1)) ∧ m₁ "way" = some (.bytes way.toArray t) ∧ m₁ "numbers" = some (.ref lst)) rfl ?hr ?sm ?hn (fun _ _ _ hq => nomatch hq) ?F ?N ?j rfl ?turn ?done
  case N => rw [List.append_nil]; k_asm
  case F => k_asm
  case hr => assumption
  case sm => rfl
  case hn => rfl
  case j => exact ⟨_, [], _, l₀, way, [], t, rfl, htab, ⟨.nil⟩, hc, Nat.le_refl _, hz, (fun p hp => Nat.ne_of_lt ((by assumption : ∀ p ∈ l₀, p.1 < _) p hp)), (fun p hp => List.mem_map_of_mem hp), rfl, rfl⟩
  case turn =>
    rintro i ti m₁ mu₁ h tk ow hi ⟨lst, us, n, l2, wy, nums, t2, rfl, htab2, hB, hcl, hnl, hwz, hll, hl0, e1, e2⟩ hfx hoff F N
    have hIs : IntsAre us nums := hB.out
    have hnl2 : nums.length ≤ 11 := by omega
    obtain ⟨f, hf⟩ : ∃ f, 11 - i = f + 1 := ⟨10 - i, by omega⟩
    have hf2 : 11 - (i + 1) = f := by omega
    rw [hf] at hcl
    simp only [climbB] at hcl
    rw [List.cons_append] at N
    replace F := see (see F (k := "way") e1) (k := "numbers") e2
    try k_fold
    k_steps
    · have hb : baseB wy = [] := by simpa using (by assumption : (baseB wy == []) = true)
      rw [if_pos hb] at hcl
      obtain ⟨rfl, rfl⟩ := Prod.mk.inj (Option.some.inj hcl)
      obtain ⟨h1, h2, h3⟩ := tab_done (l' := l2) hg hbg (by k_asm) (by k_asm) (fun p hp => .tail _ (.tail _ (.tail _ (List.mem_append.mpr (.inl hp)))))
      obtain ⟨h4, h5⟩ := climb_ret hg (by k_asm) hl0 hll (by assumption)
      exact hret _ _ _ _ l2 ⟨_, _, _, _, _, rfl, rfl, hB⟩ htab2 h1 h2 h4 h3 h5 hl0
    · have hb : baseB wy ≠ [] := by simpa using (by assumption : (baseB wy == []) = false)
      rw [if_neg hb] at hcl
      by_cases hq : (baseB wy).length ≤ 3 ∧ wy.length ≤ 500
      · rw [if_pos hq] at hcl
        refine' SpT.use (number_ok w (baseB wy) _ hq.1) l2 ((lst, W.listOf (List.toArray us) n) :: ow) ?F ?X ?N ?T ?C ?hl ?how htab2 trivial ?sep ?d ?u ?_
        case F => k_asm
        case X => k_asm
        case N => k_asm
        case T => k_asm
        case C => assumption
        case d => ktr_room
        case u => ktr_units
        case hl => exact fun p hp => .tail _ (.tail _ (List.mem_append.mpr (.inl hp)))
        case how =>
          intro p hp
          rcases List.mem_cons.mp hp with h | hp
          · rw [h]; exact .tail _ (.head _)
          · exact .tail _ (.tail _ (List.mem_append.mpr (.inr hp)))
        case sep =>
          intro p hp z hz
          rcases List.mem_cons.mp hz with h | hz
          · rw [h]; exact (hll p hp).symm
          · exact hoff p (.tail _ hp) z hz
        rintro r tl h5 tk5 l3 ⟨⟨t5, rfl⟩, rfl⟩ ht3 F5 N5 hs3 _ hl3
        simp only [List.nil_append, List.cons_append] at N5
        k_steps
        obtain ⟨n1, n2, n3⟩ := climb_turn (by k_asm) (by assumption) hs3
        exact ⟨_, _, _, _, rfl, by k_asm, n1, n2, _, _, _, l3, headB wy, numberB (baseB wy) :: nums, _, rfl, ht3, ⟨by assumption⟩, by rw [hf2]; exact hcl, by simp only [List.length_cons]; omega, Nat.le_trans (headB_len wy) hwz, n3, (fun p hp => by
          obtain ⟨z, hz, e⟩ := List.mem_map.mp (hl0 p hp)
          rw [← e]; exact hl3 z hz), rfl, rfl⟩
      · rw [if_neg hq] at hcl
        cases hcl
  case done =>
    rintro m₁ mu₁ h tk ⟨lst, us, n, l2, wy, nums, t2, rfl, htab2, hB, hcl, hnl, hwz, hll, hl0, e1, e2⟩ _ F N
    simp only [climbB, Nat.sub_self] at hcl
    cases hcl

local macro_rules | `(tactic| walk_at "mine:use") => `(tactic| ((case F => k_asm); (case X => k_asm); (case N => k_asm); (case T => k_asm); (case d => first | ktr_room | k_room | decide); (case u => first | ktr_units | units_room | decide)))

def AllNe (a : Addr) : List (Addr × Obj) → Prop
  | [] => True
  | p :: r => @Ne Nat p.1 a ∧ AllNe a r
theorem allNe_of {a : Addr} : ∀ {l : List (Addr × Obj)}, (∀ q ∈ l, q.1 ≠ a) → AllNe a l
  | [], _ => trivial
  | p :: _, h => ⟨h p (.head _), allNe_of fun q hq => h q (.tail _ hq)⟩

theorem cells_split {cs : List Int} (h : cs.length = 10) : ∃ c cr, cs = c :: cr ∧ cr.length = 9 := by
  cases cs with
  | nil => cases h
  | cons c cr => exact ⟨c, cr, rfl, by simpa using h⟩

local macro_rules | `(tactic| walk_at "call ref") => `(tactic| (k_here; k_dflt (refine' Sp.use (cells_ok _ _ _ _ ?i ?z) ?F ?X ?N ?T ?p ?d ?u ?_; (case p => exact Fr.lst (by k_asm) (by assumption)); (case i => with_reducible assumption); (case z => omega); (walk_at "mine:use"); (intro r9 tl9 h' tk' hr9 F' N' hn9 hk9; obtain ⟨a9, us9, n9, cs9, e1, e2, hc9, hl9⟩ := hr9; subst e1; subst e2; obtain ⟨c9, cr9, e3, hl9⟩ := cells_split hl9; subst e3; have hi9 := NumsAre.out hc9; have l9 := allNe_of (hn9 _ (.head _)); (simp only [AllNe, and_true] at l9); (try simp only [List.nil_append, List.cons_append] at N'); (try k_sweep)))))

theorem parts2_ok (w : World) (l g : Addr) (vs : List Value) (n : Int) (ns : List Int) (hg : g = 173 ∨ g = 185) (hi : IntsAre vs (List.drop 1 (n :: ns))) (hz : ns.length ≤ 20) :
    Sp w 192 [.ref l, .ref g] 4 32 (fun h => h.IsList l vs.toArray) (fun r tl => ∃ a, ∃ us : List Value, ∃ n, r = .ref a ∧ tl = [(a, W.listOf us.toArray n)] ∧ BytesAre us (ns.map partB)) := by
  rcases hg with rfl | rfl
  · exact parts_ok w l 173 vs ns ⟨hi⟩ hz (int2ap_ok w) fun h X => ⟨_, _, _, _, X _ _ (by k_is)⟩
  · exact parts_ok w l 185 vs ns ⟨hi⟩ hz (word_ok w) fun h X => ⟨_, _, _, _, X _ _ (by k_is)⟩

local macro_rules | `(tactic| walk_at "call ref") => `(tactic| (k_here; k_dflt (refine' Sp.use (parts2_ok _ _ _ _ _ _ ?g ?i ?z) ?F ?X ?N ?T ?p ?d ?u ?_; (case p => kmk_list); (case i => with_reducible assumption); (case z => omega); (case g => first | exact .inl rfl | exact .inr rfl); (walk_at "mine:use"); (intro r9 tl9 h' tk' hr9 F' N' hn9 hk9; obtain ⟨a9, us9, n9, e1, e2, hb9⟩ := hr9; subst e1; subst e2; have l9 := allNe_of (hn9 _ (.head _)); (simp only [AllNe, and_true] at l9); (try simp only [List.nil_append, List.cons_append] at N'); (try k_sweep)))))

theorem part_len (c : Int) : (partB c).length ≤ 4 := by
  have h : (wordB ((c.fdiv 8).fmod 4096).natAbs).length ≤ 3 := wordF_len 3 _
  unfold partB
  split
  · simp
  · split
    · simp
    · split
      · simp only [List.length_append, List.length_cons, List.length_nil]; omega
      · split
        · simp only [List.length_append, List.length_cons, List.length_nil]; omega
        · omega
theorem parts_sum (cs : List Int) : ((cs.map partB).map List.length).sum ≤ 4 * cs.length := by
  induction cs with
  | nil => simp
  | cons c cs ih =>
    have := part_len c
    simp only [List.map_cons, List.sum_cons, List.length_cons]
    omega
theorem joined2_ok (w : World) (l : Addr) (vs : List Value) (a : List UInt8) (ps : List (List UInt8)) (hb : BytesAre vs (a :: ps)) (hz : ps.length ≤ 19) (hp : ∀ p ∈ a :: ps, p.length ≤ 10) :
    Sp w 197 [.ref l] 2 24 (fun h => h.IsList l vs.toArray) (fun r tl => (∃ t, r = .bytes (ps.foldl joinB a).toArray t) ∧ tl = []) := by
  intro loose mean mg mb dp un fr gd R s X T pre hd1 hu1 hret
  refine joined_ok w l vs (a :: ps) hb (by simp) (by simp only [List.length_cons]; omega) hp loose mean mg mb dp un fr gd R s X T pre hd1 hu1 ?_
  rintro r tl h' tk' ⟨b, hB, ⟨t, rfl⟩, rfl⟩
  rw [way_joined hB]
  exact hret _ [] h' tk' ⟨⟨t, rfl⟩, rfl⟩

section
variable {prog : Program} {w : World} {A : Around} {E : Value → Shared → Prop} {s : Shared} {h₀ : Heap} {L : Addr} {m : Str → Option Value} {news : List (Addr × Obj)}
theorem add_lbs {a b : Addr} {v : Value} {ws : List Value} {p : List UInt8} {qs : List (List UInt8)} {Q : Value → Shared → Prop} (F : Fr h₀ L s.heap m) (N : News h₀ L s.heap news) (ha : s.heap.IsList a [v].toArray) (hb : s.heap.IsList b ws.toArray) (h1 : BytesAre [v] [p]) (h2 : BytesAre ws qs) (hz : qs.length ≤ 1000)
    (h : ∀ (D : Addr) (us : List Value) (h' : Heap), Fr h₀ L h' m → News h₀ L h' ((D, W.listOf (List.toArray us) 0) :: news) → (∀ p ∈ news, p.1 < D) → BytesAre us (p :: qs) → Q (.ref D) { s with heap := h' }) :
    wpAny (model prog w) A (binaryOp .Add (.ref a) (.ref b)) Q E s := by
  have e1 := h1.length
  have e2 := h2.length
  exact add_lists F N ha hb (fun h' F' N' => h _ _ h' F' N' (fun p hp => Heap.lt_size (N p hp).1) (h1.append h2)) (by rw [sizeLine_eq]; simp only [List.length_cons, List.length_nil]; omega)
theorem bytes_one {b : Array UInt8} {p : List UInt8} {t : Tok} (e : b = p.toArray) : BytesAre [.bytes b t] [p] := by subst e; exact BytesAre.one
end

local macro_rules | `(tactic| walk_at "binaryOp Add ref ref") => `(tactic| (k_here; (with_reducible show wpAny _ _ (binaryOp _ (Value.ref _) (Value.ref _)) _ _ _); k_dflt (refine' add_lbs ?F ?N ?a ?b ?h1 ?h2 ?z ?_; (case F => k_asm); (case N => k_asm); (case a => kmk_list); (case b => kmk_list); (case h1 => exact bytes_one rfl); (case h2 => with_reducible assumption); (case z => ((simp only [List.length_map]); omega))); intro D' ws' h' F' N' l1 hB'; (try k_lt l1); (try k_sweep)))





theorem normpath2_ok (w : World) (l st : List UInt8) (t : Tok) (hs : normB l = st) (hz : l.length ≤ 500) (h2 : l.head? = some 47 → l[1]? ≠ some 47) :
    Sp w 157 [.bytes l.toArray t] 3 24 (fun _ => True) (fun r tl => (∃ t', r = .bytes st.toArray t') ∧ tl = []) := by
  subst hs
  exact normpath_ok w l t hz h2
theorem isabs2_ok (w : World) (l : List UInt8) (t : Tok) (b : Bool) (h : (l.head? == some 47) = b) : Sp w 115 [.bytes l.toArray t] 2 16 (fun _ => True) (fun r tl => r = .bool b ∧ tl = []) := by
  subst h
  exact isabs_ok w l t

local macro_rules | `(tactic| walk_at "call ref") => `(tactic| (k_here; k_dflt (refine' Sp.use (normpath2_ok _ _ _ _ ?s ?z ?h) ?F ?X ?N ?T ?p ?d ?u ?_; (case s => with_reducible assumption); (case z => with_reducible assumption); (case h => with_reducible assumption); (walk_at "mine:use"); (case p => trivial); (intro r9 tl9 h' tk' hr9 F' N' hn9 hk9; obtain ⟨⟨t9, e1⟩, e2⟩ := hr9; subst e1; subst e2; (try simp only [List.nil_append] at N'); (try k_sweep)))))

local macro_rules | `(tactic| walk_at "call ref") => `(tactic| (k_here; k_dflt (refine' Sp.use (isabs2_ok _ _ _ _ ?h) ?F ?X ?N ?T ?p ?d ?u ?_; (case h => with_reducible assumption); (walk_at "mine:use"); (case p => trivial); (intro r9 tl9 h' tk' hr9 F' N' hn9 hk9; obtain ⟨e1, e2⟩ := hr9; subst e1; subst e2; (try simp only [List.nil_append] at N'); (try k_sweep)))))

theorem ne_bool_self {prog : Program} {w : World} {A : Around} {E : Value → Shared → Prop} {s : Shared} {b : Bool} {Q : Value → Shared → Prop} (h : Q (.bool false) s) : wpAny (model prog w) A (compareOp .NotEq (.bool b) (.bool b)) Q E s := by
  refine ne_bool ?_
  rw [show (b != b) = false by simp]
  exact h

local macro_rules | `(tactic| walk_at "compareOp NotEq bool bool") => `(tactic| (k_here; (with_reducible refine ne_bool_self ?_)))

section
variable {A : Around} {s : Shared} {T1 T2 l1 l2 : Addr} {a : Array UInt8} {t u : Tok} {us vs : List Value} {ns : List Int}
theorem eqAt_bytes : SeqAt.EqAt A s (.bytes a t) (.bytes a u) true := fun prog w E Q hq => by
  unfold eqBool
  refine wpAny_holding ?_
  refine wpAny_ite_split (fun _ => wpAny_bind (wpAny_rule (wpAny_pure hq))) (fun _ => ?_)
  refine wpAny_bind ?_
  refine eq_bytes (prog := prog) (w := w) ?_
  rw [show (a.toList == a.toList) = true by simp]
  exact wpAny_truthy_bool hq
theorem eqAt_lists (h1 : s.heap.IsList l1 vs.toArray) (h2 : s.heap.IsList l2 us.toArray) (i1 : IntsAre vs ns) (i2 : IntsAre us ns) (hu : A.units + 64 < cLine) : SeqAt.EqAt A s (.ref l1) (.ref l2) true := by
  by_cases e : l1 = l2
  · subst e; exact SeqAt.EqAt.same _
  · exact SeqAt.EqAt.of_refs e fun prog w E Q h => eq_intsK (prog := prog) (w := w) h1 i1 h2 i2 hu (by rw [decide_eq_true rfl]; exact h)
theorem eq_pair {prog : Program} {w : World} {E : Value → Shared → Prop} {Q : Value → Shared → Prop} (g1 : s.heap.IsTuple T1 #[.bytes a t, .ref l1]) (g2 : s.heap.IsTuple T2 #[.bytes a u, .ref l2])
    (h1 : s.heap.IsList l1 vs.toArray) (h2 : s.heap.IsList l2 us.toArray) (i1 : IntsAre vs ns) (i2 : IntsAre us ns) (hu : A.units + 80 < cLine) (h : Q (.bool true) s) :
    wpAny (model prog w) A (compareOp .Eq (.ref T1) (.ref T2)) Q E s := by
  refine SeqAt.eq_tupleAt (e := fun _ => true) g1 g2 (by omega) (fun j hj1 hj2 => ?_) h
  match j, hj1, hj2 with
  | 0, _, _ => exact eqAt_bytes
  | 1, _, _ => exact eqAt_lists h1 h2 i1 i2 (by show A.units + 1 + 64 < cLine; omega)
end

local macro_rules | `(tactic| walk_at "call ref") => `(tactic| (k_here; (with_reducible show wpAny _ _ (call (Value.ref 166) _) _ _ _); refine stopped ?_))

local macro_rules | `(tactic| walk_at "call ref") => `(tactic| (k_here; (with_reducible show wpAny _ _ (call (Value.ref 218) _) _ _ _); refine stopped ?_))

theorem join1_ok (w : World) (a p : List UInt8) (t tp : Tok) (ha : a.length ≤ 500) (hp : p.length ≤ 490) :
    Sp w 122 [.bytes a.toArray t, .bytes p.toArray tp] 3 24 (fun _ => True) (fun r tl => (∃ t', r = .bytes (joinB a p).toArray t') ∧ tl = []) :=
  join_ok w a t [.bytes p.toArray tp] [p] BytesAre.one (by simp only [List.map_cons, List.map_nil, List.sum_cons, List.sum_nil, List.length_cons, List.length_nil]; omega)

local macro_rules | `(tactic| walk_at "call ref") => `(tactic| (k_here; k_dflt (refine' Sp.use (join1_ok _ _ _ _ _ ?y ?z) ?F ?X ?N ?T ?p ?d ?u ?_; (walk_at "mine:use"); (case y => omega); (case z => omega); (case p => trivial); (intro r9 tl9 h' tk' hr9 F' N' hn9 hk9; obtain ⟨⟨t9, e1⟩, e2⟩ := hr9; subst e1; subst e2; (try simp only [List.nil_append] at N'); (try k_sweep)))))

theorem star_lb {prog : Program} {w : World} {A : Around} {E : Value → Shared → Prop} {s : Shared} {h₀ : Heap} {L a : Addr} {m : Str → Option Value} {news : List (Addr × Obj)} {us : List Value} {n : Nat} {ps : List (List UInt8)} {Q : List Value → Shared → Prop} (F : Fr h₀ L s.heap m) (N : News h₀ L s.heap news) (ha : (a, W.listOf us.toArray n) ∈ news)
    (hb : BytesAre us ps) (hz : ps.length ≤ 1000) (h : ∀ h', Fr h₀ L h' m → News h₀ L h' news → Q us { s with heap := h' }) : StarOf (model prog w) A E (.ref a) Q s :=
  star_seq F N ha rfl rfl (.inl rfl) rfl (by rw [List.size_toArray, hb.length, sizeLine_eq]; omega) h

local macro_rules | `(tactic| walk_at "StarOf") => `(tactic| (k_dflt (refine' star_lb ?F ?N ?a ?b ?z ?_; (case F => k_asm); (case N => k_asm); (case a => k_mem); (case b => with_reducible assumption); (case z => ((simp only [List.length_map]); omega))); intro h' F' N'; (try simp only [List.append_nil, List.nil_append, List.cons_append])))

theorem join2_ok (w : World) (a : List UInt8) (t : Tok) (vs : List Value) (cr : List Int) (hb : BytesAre vs (cr.map partB)) (h9 : cr.length = 9) (ha : a.length ≤ 1) (way : List UInt8) (hw : (cr.map partB).foldl joinB a = way) :
    Sp w 122 (.bytes a.toArray t :: (vs ++ [])) 3 24 (fun _ => True) (fun r tl => (∃ t', r = .bytes way.toArray t') ∧ tl = []) := by
  subst hw
  rw [List.append_nil]
  have := parts_sum cr
  exact join_ok w a t vs _ hb (by rw [List.length_map]; omega)

local macro_rules | `(tactic| walk_at "call ref") => `(tactic| (k_here; k_dflt (refine' Sp.use (join2_ok _ _ _ _ _ ?b ?y ?z _ ?w) ?F ?X ?N ?T ?p ?d ?u ?_; (walk_at "mine:use"); (case b => with_reducible assumption); (case y => assumption); (case z => assumption); (case w => assumption); (case p => trivial); (intro r9 tl9 h' tk' hr9 F' N' hn9 hk9; obtain ⟨⟨t9, e1⟩, e2⟩ := hr9; subst e1; subst e2; (try simp only [List.nil_append] at N'); (try k_sweep)))))

theorem joined3_ok (w : World) (l : Addr) (vs : List Value) (a : List UInt8) (cr : List Int) (hb : BytesAre vs (a :: cr.map partB)) (h9 : cr.length = 9) (ha : a.length ≤ 1) (way : List UInt8) (hw : (cr.map partB).foldl joinB a = way) :
    Sp w 197 [.ref l] 2 24 (fun h => h.IsList l vs.toArray) (fun r tl => (∃ t, r = .bytes way.toArray t) ∧ tl = []) := by
  subst hw
  refine joined2_ok w l vs a _ hb (by rw [List.length_map]; omega) (fun p hp => ?_)
  rcases List.mem_cons.mp hp with rfl | hp
  · omega
  · obtain ⟨c, _, rfl⟩ := List.mem_map.mp hp
    have := part_len c
    omega

local macro_rules | `(tactic| walk_at "call ref") => `(tactic| (k_here; k_dflt (refine' Sp.use (joined3_ok _ _ _ _ _ ?b ?y ?z _ ?w) ?F ?X ?N ?T ?p ?d ?u ?_; (case p => kmk_list); (case b => with_reducible assumption); (case y => assumption); (case z => assumption); (case w => assumption); (walk_at "mine:use"); (intro r9 tl9 h' tk' hr9 F' N' hn9 hk9; obtain ⟨⟨t9, e1⟩, e2⟩ := hr9; subst e1; subst e2; (try simp only [List.nil_append] at N'); (try k_sweep)))))

theorem folders2_ok (w : World) (l : Addr) (vs : List Value) (c0 : Int) (cs : List Int) (hi : IntsAre vs (c0 :: cs)) (hz : cs.length = 9) (st : Bool × List Int) (hs : cs.foldl foldStep (c0.fmod 2 == 1, []) = st) :
    Sp w 204 [.ref l] 2 100 (fun h => h.IsList l vs.toArray) (fun r tl => ∃ a b us n, r = .ref a ∧ tl = [(a, tupOf [.bool st.1, .ref b]), (b, W.listOf (List.toArray us) n)] ∧ NumsAre us st.2) := by
  subst hs
  exact folders_ok w l vs c0 cs ⟨hi⟩ (by omega)

local macro_rules | `(tactic| walk_at "call ref") => `(tactic| (k_here; k_dflt (refine' Sp.use (folders2_ok _ _ _ _ _ ?i ?z _ ?s) ?F ?X ?N ?T ?p ?d ?u ?_; (case p => kmk_list); (case i => with_reducible assumption); (case z => assumption); (case s => assumption); (walk_at "mine:use"); (intro r9 tl9 h' tk' hr9 F' N' hn9 hk9; obtain ⟨a9, b9, us9, n9, e1, e2, hf9⟩ := hr9; subst e1; subst e2; have hi9 := NumsAre.out hf9; have l9 := allNe_of (hn9 _ (.head _)); have l8 := allNe_of (hn9 _ (.tail _ (.head _))); (simp only [AllNe, and_true] at l9 l8); (try simp only [List.nil_append, List.cons_append] at N'); (try k_sweep)))))

/-- a comprehension whose value a name takes at once stands before its iterator -/
def CompAtA (prog : Program) (w : World) (A : Around) (env : Env) (scope : Scope) (cl : List (Str × Addr)) (x y : Str) (ifs : List Expr) (elt : Expr) (p : Value → Bool) (Fy : Value → Value → Prop) (Q : Flow → Shared → Prop) (E : Value → Shared → Prop) (xv : Value) (s : Shared) : Prop :=
  wpAny (model prog w) A (pyIter xv) (fun it s₂ => ∃ I fp wr n P St m, it = .ref I ∧ Walks prog w A I fp wr n P St ∧ n ≤ sizeLine ∧ St 0 s₂.heap ∧ (∀ b ∈ fp, b < s₂.heap.objs.size) ∧
      env.locals ∉ wr ∧ s₂.heap.Ns env.locals m ∧ QuietOnC prog w A env scope cl x ifs elt wr P p Fy s₂ ∧
      (∀ D h' tk ys (vs : List Value), s₂.heap.get? D = none → h'.IsList D ys → h'.PlainList D ys → vs.length = n → (∀ j v, vs[j]? = some v → P j v) → Paired Fy (vs.filter p) ys.toList →
        h'.Ns env.locals (fun z => if z = y then some (.ref D) else m z) → (∀ b o, b ≠ env.locals → b ∉ wr → s₂.heap.get? b = some o → h'.get? b = some o) → Q .next { s₂ with heap := h', toks := tk })) E s
section
variable {prog : Program} {w : World} {A : Around} {E : Value → Shared → Prop} {s : Shared} {env : Env} {h₀ : Heap} {L : Addr} {m : Str → Option Value} {news : List (Addr × Obj)}
theorem assign_comp {elt iter : Expr} {x y : Str} {px py : Pos} {ifs : List Expr} {scope : Scope} {cl : List (Str × Addr)} {pos spos : Pos} {Q : Flow → Shared → Prop} (p : Value → Bool) (Fy : Value → Value → Prop)
    (hsw : swapsWith (.ListComp elt [⟨.Name x px, iter, ifs, 0⟩] scope pos) (some (.Name y py)) spos.line env = pure true)
    (hclos : closureFor scope env = pure cl) (hcell : ∀ z ∈ scope.names, z.2 ≠ .cell) (hkind : scope.kind = .function)
    (hnames : ∀ z ∈ scope.names, z.2 = .local → scope.names.lookup z.1 = some .local) (hx : scope.names.lookup x = some .local)
    (hy : env.kindOf y = some .local) (hp : (env.scope.kind == .class || (env.scope.kind == .module && env.locals != env.globals)) = false)
    (h : wpAny (model prog w) A (eval iter env) (fun xv s₁ => CompAtA prog w A env scope cl x y ifs elt p Fy Q E xv s₁) E s)
    (hs : ∀ x, foldedSetIterable iter env x = pure x := by intro _; rfl) :
    wpAny (model prog w) A (exec (.Assign [.Name y py] (.ListComp elt [⟨.Name x px, iter, ifs, 0⟩] scope pos) spos) env) Q E s :=
  wpAny_Assign_ListComp_free p Fy hsw hclos hcell hkind hnames hx hy hp h hs
theorem compA_list {l : Addr} {vs : List Value} {scope : Scope} {cl : List (Str × Addr)} {x y : Str} {ifs : List Expr} {elt : Expr} {Q : Flow → Shared → Prop}
    (p : Value → Bool) (Fy : Value → Value → Prop) (hh : A.handled = none) (hl : s.heap.IsList l vs.toArray) (hz : vs.length ≤ 1000000) (F : Fr h₀ L s.heap m) (N : News h₀ L s.heap news) (hL : env.locals = L)
    (tests : ∀ (C : Addr) (i : Nat) (v : Value) (s₃ : Shared) (m₃ : Str → Option Value), vs[i]? = some v → Fr s.heap C s₃.heap m₃ → m₃ x = some v →
      wpAny (model prog w) A (forIn ifs true fun c r => if r = true then do let ok ← isTrue c (compEnvC scope cl C env) (eval c (compEnvC scope cl C env)); pure (ForInStep.yield ok) else pure (ForInStep.yield r))
        (fun ok s₄ => ok = p v ∧ Keeps s₃ s₄) (fun _ _ => False) s₃)
    (helt : ∀ (C : Addr) (i : Nat) (v : Value) (s₃ : Shared) (m₃ : Str → Option Value), vs[i]? = some v → p v = true → Fr s.heap C s₃.heap m₃ → m₃ x = some v →
      wpAny (model prog w) A (eval elt (compEnvC scope cl C env)) (fun y s₄ => Fy v y ∧ Keeps s₃ s₄) (fun _ _ => False) s₃)
    (h : ∀ (D : Addr) (h' : Heap) (tk : Nat) (ys : List Value) (k : Nat), Paired Fy (vs.filter p) ys → Fr h₀ L h' (fun z => if z = y then some (.ref D) else m z) → News h₀ L h' ((D, PySem.W.listOf ys.toArray k) :: news) → (∀ q ∈ news, q.1 ≠ D) → Q .next { s with heap := h', toks := tk }) :
    CompAtA prog w A env scope cl x y ifs elt p Fy Q E (.ref l) s := by
  subst hL
  obtain ⟨ol, hol, _⟩ := id hl
  have hlt : l < s.heap.objs.size := Heap.lt_size hol
  have hLs : env.locals < s.heap.objs.size := F.ns.lt
  unfold CompAtA
  refine wpAny_pyIter_list hl ?_
  have W := Walks.list (prog := prog) (w := w) hh s.heap.objs.size l (Nat.ne_of_lt hlt) vs.toArray
  have old : ∀ h' : Heap, (∀ b o, b ∉ [s.heap.objs.size] → (s.heap.push { cls := .type "list_iterator", data := .fields #[.ref l, .int 0 0] }).get? b = some o → h'.get? b = some o) → ∀ b o, s.heap.get? b = some o → h'.get? b = some o := fun h' hk' b o e =>
    hk' b o (fun hb => by rw [List.mem_singleton.mp hb, Heap.get?_none_of_le (Nat.le_refl _)] at e; cases e) (Heap.get?_push_of_some _ e)
  refine ⟨s.heap.objs.size, _, _, _, _, _, m, rfl, W, by rw [sizeLine_eq, List.size_toArray]; omega, ⟨⟨_, Heap.get?_push_size _ rfl, rfl, rfl⟩, hl.at fun o e => Heap.get?_push_of_some _ e⟩, ?_, ?_, (F.push _).ns, ⟨fun C i v s₃ m₃ E' hC hP hn hm hk' _ => ?_, fun C i v s₃ m₃ E' hC hP hp hn hm hk' _ => ?_⟩, ?_⟩
  · intro b hb
    rw [Heap.size_push]
    rcases List.mem_cons.mp hb with e | hb
    · rw [e]; exact Nat.lt_succ_self _
    · rw [List.mem_singleton.mp hb]; exact Nat.lt_succ_of_lt hlt
  · intro hb
    exact absurd hLs ((List.mem_singleton.mp hb) ▸ Nat.lt_irrefl _)
  · exact wpAny_noRaise (tests C i v s₃ m₃ (by simpa using hP) ⟨hn, old _ hk', Nat.le_trans (by rw [Heap.size_push]; omega) hC⟩ hm)
  · exact wpAny_noRaise (helt C i v s₃ m₃ (by simpa using hP) hp ⟨hn, old _ hk', Nat.le_trans (by rw [Heap.size_push]; omega) hC⟩ hm)
  · intro D h' tk ys us hD _ hpl hlen hP hF hns hk'
    obtain ⟨k, hg⟩ := hpl
    obtain ⟨ys⟩ := ys
    have e : us = vs := by
      apply List.ext_getElem?
      intro j
      by_cases hj : j < us.length
      · have := hP j us[j] (by simp [hj])
        rw [List.getElem?_eq_getElem hj]
        exact (by simpa using this : vs[j]? = some us[j]).symm
      · rw [List.getElem?_eq_none (by omega), List.getElem?_eq_none (by rw [List.size_toArray] at hlen; omega)]
    subst e
    have old' : ∀ b o, b ≠ env.locals → s.heap.get? b = some o → h'.get? b = some o := fun b o hb e =>
      hk' b o hb (fun hb => by rw [List.mem_singleton.mp hb, Heap.get?_none_of_le (Nat.le_refl _)] at e; cases e) (Heap.get?_push_of_some _ e)
    have hD1 : s.heap.get? D = none := by
      cases e : s.heap.get? D with
      | none => rfl
      | some o => have := Heap.get?_push_of_some ({ cls := .type "list_iterator", data := .fields #[.ref l, .int 0 0] } : Obj) e; rw [this] at hD; cases hD
    have h0L : ∀ b o, h₀.get? b = some o → b ≠ env.locals := fun b o e q => by
      have h1 := Nat.lt_of_lt_of_le (Heap.lt_size e) F.above
      rw [q] at h1
      exact Nat.lt_irrefl _ h1
    refine h D h' tk ys k hF ⟨hns, fun b o e => old' b o (h0L b o e) (F.keep b o e), F.above⟩ (fun q hq => ?_) (fun q hq e => ?_)
    · rcases List.mem_cons.mp hq with e | hq
      · subst e
        refine ⟨hg, fun e => ?_, ?_⟩
        · obtain ⟨oL, _, _, hL, _⟩ := F.ns
          rw [← e, hD1] at hL; cases hL
        · cases e : h₀.get? D with
          | none => rfl
          | some o => rw [F.keep _ _ e] at hD1; cases hD1
      · exact ⟨old' _ _ (N q hq).2.1 (N q hq).1, (N q hq).2⟩
    · have := (N q hq).1
      rw [e, hD1] at this; cases this
end

local macro_rules | `(tactic| walk_at "exec Assign cons ListComp") => `(tactic| (k_here; refine stopped ?_))

theorem straight_len {r : Bool} {ns : List Int} (h : ns.length ≤ 10) : (straightB r ns).length ≤ 500 := by
  have hlen : ∀ p ∈ ns.map nameB, p.length ≤ 3 := by
    intro p hp
    obtain ⟨x, _, rfl⟩ := List.mem_map.mp hp
    exact name_len x
  have hsz := joinL_len (ns.map nameB)
  have hsum := sum_le hlen
  simp only [List.length_map] at hsz hsum
  have hroot : ((if r = true then [47] else []) : List UInt8).length ≤ 1 := by cases r <;> simp
  unfold straightB
  generalize ((if r = true then [47] else []) : List UInt8) = rt at hroot ⊢
  split
  · simp
  · rw [List.length_append]; omega
section
variable {r : Bool} {ns : List Int} {sw : List UInt8}
theorem st_e1 (hs : straightB r ns = sw) (h2 : ((if r = true then [47] else []) ++ joinL (ns.map nameB)).isEmpty = false) : sw = (if r = true then [47] else []) ++ joinL (ns.map nameB) := by
  subst hs
  unfold straightB
  rw [if_neg (fun e => by rw [e] at h2; cases h2)]
theorem st_e2 (hs : straightB r ns = sw) (h2 : ((if r = true then [47] else []) ++ joinL (ns.map nameB)).isEmpty = true) : sw = [46] := by
  subst hs
  unfold straightB
  rw [if_pos (List.isEmpty_iff.mp h2)]
end
theorem ifexp_b {M : Model} {A : Around} {E : Value → Shared → Prop} {s : Shared} {env : Env} {test : Expr} {l1 l2 : List UInt8} {p1 p2 pos : Pos} {k1 k2} {Q : Value → Shared → Prop}
    (h : wpAny M A (isTrue test env (eval test env)) (fun b s₂ => wpAny M A (eval (.Constant (.bytes (if b = true then l1 else l2)) k1 p1) env) Q E s₂) E s) :
    wpAny M A (eval (.IfExp test (.Constant (.bytes l1) k1 p1) (.Constant (.bytes l2) k2 p2) pos) env) Q E s := by
  refine wpAny_IfExp (wpAny_mono h (fun b s₁ h₁ => ?_) fun _ _ e => e)
  cases b
  · exact h₁
  · exact h₁

local macro_rules | `(tactic| walk_at "eval IfExp") => `(tactic| (k_here; (with_reducible refine ifexp_b ?_)))

theorem ne_b_eq {prog : Program} {w : World} {A : Around} {E : Value → Shared → Prop} {s : Shared} {a b : List UInt8} {t u : Tok} {Q : Value → Shared → Prop} (e : a = b) (h : Q (.bool false) s) : wpAny (model prog w) A (compareOp .NotEq (.bytes a.toArray t) (.bytes b.toArray u)) Q E s := by
  subst e
  exact ne_b_self h

local macro_rules | `(tactic| walk_at "mine:eqs") => `(tactic| first | exact st_e1 (by assumption) (by assumption) | exact st_e2 (by assumption) (by assumption))

local macro_rules | `(tactic| walk_at "compareOp NotEq bytes bytes") => `(tactic| (k_here; first | (with_reducible refine ne_b_self ?_) | k_dflt (refine' ne_b_eq ?e ?_; (case e => walk_at "mine:eqs"))))

theorem news_of {h₀ h : Heap} {L : Addr} {m : Str → Option Value} (_ : Fr h₀ L h m) : News h₀ L h [] := News.nil
theorem names_size {ns : List Int} (h : ns.length ≤ 10) : (ns.map nameB).length + ((ns.map nameB).map List.length).sum ≤ 1000000 ∧ (joinL (ns.map nameB)).length ≤ 1000000 := by
  have hlen : ∀ p ∈ ns.map nameB, p.length ≤ 3 := by
    intro p hp
    obtain ⟨x, _, rfl⟩ := List.mem_map.mp hp
    exact name_len x
  have hsz := joinL_len (ns.map nameB)
  have hsum := sum_le hlen
  rw [List.length_map] at *
  omega

def NameElt (v y : Value) : Prop := ∃ n t t', v = .int n t ∧ y = .bytes (nameB n).toArray t'
theorem names_bytes : ∀ {vs ys : List Value} {ns : List Int}, IntsAre vs ns → Paired NameElt vs ys → BytesAre ys (ns.map nameB)
  | _, _, _, .nil, h => by cases h; trivial
  | _, _, _, .cons n t r, h => by
    cases h with
    | cons h1 h2 =>
      obtain ⟨n', t1, t2, e, rfl⟩ := h1
      cases e
      exact ⟨⟨t2, rfl⟩, names_bytes r h2⟩
theorem name_m1 {n : Int} (h : n = -1) : ([46, 46] : List UInt8) = nameB n := by subst h; rfl
theorem name_w {n : Int} (h : n ≠ -1) : wordB n.natAbs = nameB n := by unfold nameB; rw [if_neg h]
theorem tab_mem {q : Str} {ln col : Int} {l : List (Addr × Obj)} (h : Tab q ln col l) : ∃ ps, (206, tabObj ps) ∈ l := by
  rcases h with rfl | ⟨c', oc, vs, t, rfl, _⟩
  · exact ⟨_, .head _⟩
  · exact ⟨_, .head _⟩
theorem climbed_use {w : World} {loose : List Str} {mean : ExcName → Option Value} {mg mb : Str → Option Value} {dp un : Nat} {fr : Option (List Env)} {gd : Option (List Code)} {h₀ : Heap} {L : Addr} {m : Str → Option Value} {news : List (Addr × Obj)} {s : Shared} {Q E : Value → Shared → Prop}
    {sw w' : List UInt8} {t : Tok} {ns' : List Int} (hc : climbB 11 sw [] = some (w', ns')) (hz : sw.length ≤ 500) {b : Addr} {us : List Value} {n : Nat} {ps : Array Value}
    (F : Fr h₀ L s.heap m) (X : (hd.heap_39 w.params).In h₀) (N : News h₀ L s.heap news) (T : Top topProg loose mean mg mb h₀) (CH : CodeHd h₀ 210 206) (hm : (206, tabObj #[]) ∈ news) (hb : (b, W.listOf us.toArray n) ∈ news) (h2 : (220, tabObj ps) ∈ news) (hne : @Ne Nat 206 b)
    (hd1 : dp + 9 < recursionLimit) (hu1 : un + 100 < cLine)
    (h : ∀ (a bq : Addr) (usq : List Value) (nq : Nat) (tq : Tok) (h' : Heap) (tk' : Nat) (ps' : Array Value), NumsAre usq ns' → Fr h₀ L h' m →
      News h₀ L h' [(a, tupOf [.bytes w'.toArray tq, .ref bq]), (bq, W.listOf (List.toArray usq) nq), (b, W.listOf us.toArray n), (206, tabObj ps'), (220, tabObj ps)] → Q (.ref a) { s with heap := h', toks := tk' }) :
    wpAny (model Challenge.rw_pd0145_01.row.prog w) (AA dp un fr gd) (call (.ref 218) [.bytes sw.toArray t]) Q E s := by
  refine SpT.use (climbed_ok w sw w' t ns' hc hz) [(206, tabObj #[])] [(b, W.listOf us.toArray n), (220, tabObj ps)] F X N T CH ?_ ?_ (.inl rfl) trivial ?_ hd1 hu1 ?_
  · intro p hp
    rw [List.mem_singleton.mp hp]; exact hm
  · intro p hp
    rcases List.mem_cons.mp hp with e | hp
    · rw [e]; exact hb
    · rw [List.mem_singleton.mp hp]; exact h2
  · intro p hp z hz
    rw [List.mem_singleton.mp hp]
    rcases List.mem_cons.mp hz with e | hz
    · rw [e]; exact fun e => hne e.symm
    · rw [List.mem_singleton.mp hz]; exact (by decide : (220 : Nat) ≠ 206)
  · rintro r tl h' tk' l' ⟨a, bq, usq, nq, tq, rfl, rfl, hq⟩ ht F' N' _ _ _
    obtain ⟨ps', hp'⟩ := tab_mem ht
    refine h a bq usq nq tq h' tk' ps' hq F' fun p hp => N' p ?_
    simp only [List.mem_cons, List.not_mem_nil, or_false] at hp
    rcases hp with e | e | e | e | e
    · rw [e]; exact .head _
    · rw [e]; exact .tail _ (.head _)
    · rw [e]; exact .tail _ (.tail _ (.head _))
    · rw [e]; exact .tail _ (.tail _ (.tail _ (.tail _ hp')))
    · rw [e]; exact .tail _ (.tail _ (.tail _ (.head _)))

theorem eq_pair2 {prog : Program} {w : World} {A : Around} {E : Value → Shared → Prop} {s : Shared} {T1 T2 l1 l2 : Addr} {a b : Array UInt8} {t u : Tok} {us vs : List Value} {ns ms : List Int} {Q : Value → Shared → Prop} (g1 : s.heap.IsTuple T1 [.bytes a t, .ref l1].toArray) (g2 : s.heap.IsTuple T2 [.bytes b u, .ref l2].toArray)
    (h1 : s.heap.IsList l1 vs.toArray) (h2 : s.heap.IsList l2 us.toArray) (i1 : IntsAre vs ns) (i2 : IntsAre us ms) (e : a = b) (en : ns = ms) (hu : A.units + 80 < cLine) (h : Q (.bool true) s) :
    wpAny (model prog w) A (compareOp .Eq (.ref T1) (.ref T2)) Q E s := by
  subst e en
  exact eq_pair g1 g2 h1 h2 i1 i2 hu h
section
variable {r : Bool} {ns : List Int}
theorem num_a (h : decide (ns = []) = false) : (if ns ≠ [] ∨ r = true then ns else [0]) = ns := if_pos (.inl (by simpa using h))
theorem num_b (h : r = true) : (if ns ≠ [] ∨ r = true then ns else [0]) = ns := if_pos (.inr h)
theorem num_c (h : decide (ns = []) = true) (h2 : r = false) : (if ns ≠ [] ∨ r = true then ns else [0]) = [0] := if_neg (fun q => q.elim (fun x => x (by simpa using h)) (fun x => by rw [h2] at x; cases x))
end

local macro_rules | `(tactic| walk_at "mine:nums") => `(tactic| first | exact num_a (by assumption) | exact num_b (by assumption) | exact num_c (by assumption) (by assumption))

local macro_rules | `(tactic| walk_at "compareOp Eq ref ref") => `(tactic| (k_here; (with_reducible show wpAny _ _ (compareOp CmpOp.Eq (Value.ref _) (Value.ref _)) _ _ _); k_dflt (refine' eq_pair2 ?g1 ?g2 ?h1 ?h2 ?i1 ?i2 ?e ?n ?u ?_; (case g1 => (refine' led_tup ?N ?m; (case N => k_asm); (case m => k_mem))); (case g2 => (refine' led_tup ?N ?m; (case N => k_asm); (case m => k_mem))); (case h1 => kmk_list); (case h2 => kmk_list); (case i1 => exact NumsAre.out (by assumption)); (case i2 => first | with_reducible assumption | exact IntsAre.cons _ _ IntsAre.nil); (case e => rfl); (case n => walk_at "mine:nums"); (case u => first | ktr_units | units_room | decide))))

theorem inv_law {c : Int} {cr : List Int} {a : List UInt8} (h : a = if (c.fmod 2 == 1) = true then [47] else []) : Inv ((cr.map partB).foldl joinB a) (cr.foldl foldStep (c.fmod 2 == 1, [])) := by
  subst h
  exact inv_fold cr (inv_begin _)
theorem law_len {cr : List Int} {a : List UInt8} (h : cr.length = 9) (ha : a.length ≤ 1) : ((cr.map partB).foldl joinB a).length ≤ 500 := by
  have h1 := fold_len (cr.map partB) a
  have h2 := parts_sum cr
  rw [List.length_map] at h1
  omega
theorem inv_head {way : List UInt8} {st : Bool × List Int} (I : Inv way st) : (way.head? == some 47) = st.1 := by
  have := I.root
  cases h : st.1 with
  | true => simp [I.root.mpr h]
  | false =>
    have : way.head? ≠ some 47 := fun e => by have := I.root.mp e; rw [h] at this; cases this
    simpa using this
theorem folders_len (c0 : Int) (cs : List Int) : (cs.foldl foldStep (c0.fmod 2 == 1, [])).2.length ≤ cs.length := by
  have := st_len c0 cs cs.length
  unfold stAt at this
  rwa [List.take_length] at this

theorem law_walk : PySem.Challenge.rw_pd0145_01.Holds := hd (by
  k_go0
  all_goals try k_fold
  k_steps
  unfold Stopped
  rename List Int => cr
  rename Int => c
  rename cr.length = 9 => hcr
  have hps := parts_sum cr
  have haL : (if (((c :: cr).getD (Int.toNat 0) 0).fmod 2 == 1) = true then ([47] : List UInt8) else []).length ≤ 1 := by split <;> simp
  refine' reduceB_use (ps := List.map partB cr) ?rF ?rX ?rN ?rT ?rm ?rc ?rl ?rb ?rz ?rlam ?rd ?ru ?_
  case rF => k_asm
  case rX => k_asm
  case rN => k_asm
  case rT => k_asm
  case rm => exact .head _
  case rc => exact codeRec_news (by k_asm) (by k_mem) (by assumption) (by assumption)
  case rl => kmk_list
  case rb => with_reducible assumption
  case rz => simp only [List.length_map]; omega
  case rd => first | ktr_room | k_room | decide
  case ru => first | ktr_units | units_room | decide
  case rlam =>
    intro x p tx tp hx hp
    intro loose mean mg mb dp un fr gd R s X; revert X; k_fill; intro X T pre hd1 hu1 hret; k_dflt walk_at "mine:enterL"
    k_steps
    refine hret _ [] _ _ ?_ (Fr.keep (by k_asm)) (fun _ hp => nomatch hp)
    exact ⟨⟨_, rfl⟩, rfl⟩
  · intro rt rh rtk F N
    clear hps
    have hI := inv_law (c := c) (cr := cr) (a := if (((c :: cr).getD (Int.toNat 0) 0).fmod 2 == 1) = true then [47] else []) rfl
    have hz := law_len (cr := cr) (a := if (((c :: cr).getD (Int.toNat 0) 0).fmod 2 == 1) = true then [47] else []) hcr haL
    have hfl := folders_len c cr
    have h2 := hI.two
    have hok := hI.ok
    have hN := inv_straight hI
    have ha1 := inv_head hI
    have ha2 := straight_head (r := (cr.foldl foldStep (c.fmod 2 == 1, [])).1) hI.ok
    have hcl := climb_straight (r := (cr.foldl foldStep (c.fmod 2 == 1, [])).1) hI.ok (by omega)
    have hsl := straight_len (r := (cr.foldl foldStep (c.fmod 2 == 1, [])).1) (ns := (cr.foldl foldStep (c.fmod 2 == 1, [])).2) (by omega)
    generalize hway : (List.map partB cr).foldl joinB (if (((c :: cr).getD (Int.toNat 0) 0).fmod 2 == 1) = true then [47] else []) = way at *
    generalize hst : cr.foldl foldStep (c.fmod 2 == 1, []) = st at *
    generalize hsw : straightB st.1 st.2 = sw at *
    clear hI
    k_steps
    unfold Stopped
    rename NumsAre _ st.2 => hfn
    rename List Value => usF
    rename Fr _ _ _ _ => F0
    have X2 := Frag.In.keeps (by k_asm) F0.keep
    have T2 := Top.keeps (by assumption) F0.keep
    refine' assign_comp (fun _ => true) NameElt ?n0 ?n1 ?n2 ?n3 ?n4 ?n5 ?n6 ?n7 ?_
    case n0 => with_unfolding_all rfl
    case n1 => exact rfl
    case n2 => decide
    case n3 => exact rfl
    case n4 => decide
    case n5 => exact rfl
    case n6 => exact rfl
    case n7 => exact rfl
    k_steps
    refine' compA_list _ _ ?nh ?nl ?nz ?nF ?nN rfl ?nt ?ne ?nq
    case nF => k_asm
    case nN => k_asm
    case nl => kmk_list
    case nh => exact rfl
    case nz => have := hfn.length; omega
    case nt =>
      intro C i v s₃ m₃ hv F hm
      rw [List.forIn_nil]
      exact wpAny_pure ⟨rfl, _, _, rfl, fun _ _ e => e⟩
    case ne =>
      intro C i v s₃ m₃ hv hp F hm
      obtain ⟨n, t, hn, rfl⟩ := hfn.get' i hv
      have hno : n = -1 ∨ (0 < n ∧ n < 4096) := hok n (List.mem_of_getElem? hn)
      have hna : n.natAbs < 4096 := by omega
      have N := news_of F
      k_steps
      all_goals first
        | exact ⟨n, t, _, rfl, congrArg (fun x => Value.bytes (List.toArray x) _) (name_m1 (by assumption))⟩
        | exact ⟨n, t, _, rfl, congrArg (fun x => Value.bytes (List.toArray x) _) (name_w (by assumption))⟩
        | exact ⟨_, _, rfl, fun _ _ e => e⟩
        | exact ⟨_, _, rfl, by assumption⟩
        | trace_state
    case nq =>
      intro D h' tk ys k hP F N hn
      obtain ⟨hjz, hjl⟩ := names_size (ns := st.2) (by omega)
      have hrl : (if st.1 = true then ([47] : List UInt8) else []).length ≤ 1 := by split <;> simp
      have hny := names_bytes hfn.out (by rw [List.filter_eq_self.mpr (fun _ _ => rfl)] at hP; exact hP)
      k_steps
      all_goals (
        unfold Stopped
        refine' climbed_use hcl hsl (us := usF) ?kF ?kX ?kN ?kT ?kC ?km ?kb ?k2 ?kn ?kd ?ku ?_
        case kF => k_asm
        case kX => k_asm
        case kN => k_asm
        case kT => k_asm
        case kC => assumption
        case km => k_mem
        case kb => k_mem
        case k2 => k_mem
        case kn => omega
        case kd => first | ktr_room | k_room | decide
        case ku => first | ktr_units | units_room | decide
        intro a bq usq nq tq h' tk' ps' hq F N
        k_steps))

end Mine

theorem PySem.Challenge.cw_pd0145_01_holds : PySem.Challenge.rw_pd0145_01.Holds := by
  exact Mine.law_walk

