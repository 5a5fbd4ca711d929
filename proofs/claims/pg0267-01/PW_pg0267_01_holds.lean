import PyProof.Rows.All
import Wide.All
import OpenK.AllK
import Wide.FinOn
import PyProof.FactsAll.range_iterator
import PyProof.ListStr
import PySem.Challenge.RW_pg0267_01
open PySem PySem.W PyProof.Rows
set_option Elab.async false
set_option compiler.extract_closed false
set_option linter.all false
set_option rowWalk.seconds 0
set_option maxRecDepth 100000
set_option maxHeartbeats 8000000
namespace Mine
theorem with_three {A B C R : Prop} (_ : A) (_ : B) (_ : C) (h : R) : R := h
theorem saidL : PySem.Challenge.rw_pg0267_01.wellSaid = true := by
  first
  | exact (congrFun Fast.te9446332074065402090 _).trans (by kernel_rfl)
  | kernel_rfl
theorem left_of {TR : type_of% @topRun} {OS : type_of% @openSeen} {TB : type_of% @treeTable} (e1 : @topRun = TR) (e2 : @openSeen = OS) (e3 : @treeTable = TB)
    {p q : Program} {loose : List Str} {Xt : Shared → Bool} {α : Type} {Yf : Shared → α} {Ya : World → α} {N : Nat} {g0 : Bool}
    (e : opening p = plainProg p.main.scope.names) (hN : Nat.ble 600 N = true) (f : ∀ s, fenceModules? p s = some s)
    (h0 : ∀ w : World, ((boot_heap w.params).isNs mainGlobals && (#[] : Array GenState).size == 0) = true)
    (h : ∀ (w : World), (fun os => ((TR TB p w (boot_heap w.params).objs.size ((boot_heap w.params).nsMap mainGlobals "__annotations__") N ⟨boot_heap w.params, Array.mk [], boot_drawn, boot_toks, os⟩ (topStub p)).bind fun s₁ => match staticsOk (importedModules p.main.body) (boot_heap w.params) s₁.heap && namesBound p s₁.heap && gensDone s₁ && laidKept (boot_heap w.params) s₁.heap with
      | true => some s₁
      | false => none).map (fun s => (OS q loose (importedModules p.main.body) Xt g0 s, Yf s))) = fun _ => some (openGood q loose, Ya w)) :
    LeftO p q loose Xt Yf Ya N g0 := fun w => by
  subst e1 e2 e3
  obtain ⟨⟨hh, gs, d, k, os⟩, e4, e5⟩ := Option.map_eq_some_iff.mp (boot_open e hN f w)
  obtain ⟨rfl, rfl, rfl, rfl⟩ : hh = boot_heap w.params ∧ gs = Array.mk [] ∧ d = boot_drawn ∧ k = boot_toks := by simpa using e5
  have h := congrFun (h w) os
  unfold openEnds
  rw [e4]
  show (topFrom treeTable p w N _).map _ = _
  unfold topFrom
  rw [show ((Shared.mk (boot_heap w.params) (Array.mk []) boot_drawn boot_toks os).heap.isNs mainGlobals && (Shared.mk (boot_heap w.params) (Array.mk []) boot_drawn boot_toks os).gens.size == 0) = true from h0 w]
  exact h
noncomputable def hd : Σ' T : Prop, (T → PySem.Challenge.rw_pg0267_01.Holds) := by
  refine' ⟨_, fun walk => ?m⟩
  case m =>
    w_on
    refine holds_law saidL fun said => ?_
    refine' with_three ?hl ?hw ?hc ?m2
    case m2 => k_head
    case hw => w_witness2
    case hc => exact walk
    case hl =>
      first
      | exact left_of Fast.te14082659384304107361 Fast.te4187177175401517315 Fast.te14364793385576792824 (by kernel_rfl) (by decide +kernel) (fun s => by kernel_rfl) (fun w => by kernel_rfl) (fun w => by kernel_rfl)
      | exact left_of rfl rfl rfl (by kernel_rfl) (by decide +kernel) (fun s => by kernel_rfl) (fun w => by kernel_rfl) (fun w => by kernel_rfl)
theorem ne_s21 {n : Nat} : n + 1 + 1 ≠ n + 1 := by omega
theorem ne_s12 {n : Nat} : n + 1 ≠ n + 1 + 1 := by omega
theorem ne_s31 {n : Nat} : n + 1 + 1 + 1 ≠ n + 1 := by omega
theorem ne_s13 {n : Nat} : n + 1 ≠ n + 1 + 1 + 1 := by omega
theorem ne_s32 {n : Nat} : n + 1 + 1 + 1 ≠ n + 1 + 1 := by omega
theorem ne_s23 {n : Nat} : n + 1 + 1 ≠ n + 1 + 1 + 1 := by omega
theorem ne_s41 {n : Nat} : n + 1 + 1 + 1 + 1 ≠ n + 1 := by omega
theorem ne_s14 {n : Nat} : n + 1 ≠ n + 1 + 1 + 1 + 1 := by omega
theorem ne_s42 {n : Nat} : n + 1 + 1 + 1 + 1 ≠ n + 1 + 1 := by omega
theorem ne_s24 {n : Nat} : n + 1 + 1 ≠ n + 1 + 1 + 1 + 1 := by omega
theorem ne_s43 {n : Nat} : n + 1 + 1 + 1 + 1 ≠ n + 1 + 1 + 1 := by omega
theorem ne_s34 {n : Nat} : n + 1 + 1 + 1 ≠ n + 1 + 1 + 1 + 1 := by omega
theorem ne_low {n b : Nat} (h : n + 1 + 1 < b) : n + 1 ≠ b := by omega
theorem ne_low' {n b : Nat} (h : n + 1 + 1 < b) : b ≠ n + 1 := by omega
theorem ne_low2 {n b : Nat} (h : n + 1 + 1 + 1 < b) : n + 1 + 1 ≠ b := by omega
theorem ne_low2' {n b : Nat} (h : n + 1 + 1 + 1 < b) : b ≠ n + 1 + 1 := by omega
theorem ne_low1 {n b : Nat} (h : n + 1 + 1 + 1 < b) : n + 1 ≠ b := by omega
theorem ne_low1' {n b : Nat} (h : n + 1 + 1 + 1 < b) : b ≠ n + 1 := by omega
theorem ne_k1 {k v : Nat} (h : 80 < v) (hk : k ≤ 80) : k ≠ v + 1 := by omega
theorem ne_k2 {k v : Nat} (h : 80 < v) (hk : k ≤ 80) : k ≠ v + 1 + 1 := by omega
theorem ne_k3 {k v : Nat} (h : 80 < v) (hk : k ≤ 80) : k ≠ v + 1 + 1 + 1 := by omega
theorem ne_k4 {k v : Nat} (h : 80 < v) (hk : k ≤ 80) : k ≠ v + 1 + 1 + 1 + 1 := by omega
theorem ne_k1' {k v : Nat} (h : 80 < v) (hk : k ≤ 80) : v + 1 ≠ k := by omega
theorem ne_k2' {k v : Nat} (h : 80 < v) (hk : k ≤ 80) : v + 1 + 1 ≠ k := by omega
theorem ne_k3' {k v : Nat} (h : 80 < v) (hk : k ≤ 80) : v + 1 + 1 + 1 ≠ k := by omega
theorem ne_k4' {k v : Nat} (h : 80 < v) (hk : k ≤ 80) : v + 1 + 1 + 1 + 1 ≠ k := by omega
theorem rm0 {d a R : Nat} (h : d + a < R) : d < R := by omega
theorem rm1 {d a b R : Nat} (h : d + a < R) (e : b ≤ a) : d + b < R := by omega
theorem rm2 {d a b c R : Nat} (h : d + a < R) (e : b + c ≤ a) : d + b + c < R := by omega
theorem rm3 {d a b c f R : Nat} (h : d + a < R) (e : b + c + f ≤ a) : d + b + c + f < R := by omega
theorem ne_b {b k v : Nat} (h : b < v) (hk : k ≤ b) : v ≠ k := Nat.ne_of_gt (Nat.lt_of_le_of_lt hk h)
theorem ne_b' {b k v : Nat} (h : b < v) (hk : k ≤ b) : k ≠ v := Nat.ne_of_lt (Nat.lt_of_le_of_lt hk h)
theorem le_of_tr {a b c : Nat} (h : a ≤ b) (h' : b ≤ c) : a ≤ c := Nat.le_trans h h'
theorem q_un1 {lo mid hi : Int} {d un R : Nat} (h : hi = lo + (d : Int)) (a : un + 8 * d + 50 < R) (l : lo < mid) (u : mid < hi) : un + 3 + 8 * (mid - lo).toNat + 50 < R := by omega
theorem q_un2 {lo mid hi : Int} {d un R : Nat} (h : hi = lo + (d : Int)) (a : un + 8 * d + 50 < R) (l : lo < mid) (u : mid < hi) : un + 3 + 8 * (hi - mid).toNat + 50 < R := by omega
theorem q_dp1 {lo mid hi : Int} {d dp R : Nat} (h : hi = lo + (d : Int)) (a : dp + d + 5 < R) (l : lo < mid) (u : mid < hi) : dp + 1 + (mid - lo).toNat + 5 < R := by omega
theorem q_dp2 {lo mid hi : Int} {d dp R : Nat} (h : hi = lo + (d : Int)) (a : dp + d + 5 < R) (l : lo < mid) (u : mid < hi) : dp + 1 + (hi - mid).toNat + 5 < R := by omega
theorem q_lt1 {lo mid hi : Int} {d : Nat} (h : hi = lo + (d : Int)) (l : lo < mid) (u : mid < hi) : (mid - lo).toNat < d := by omega
theorem q_lt2 {lo mid hi : Int} {d : Nat} (h : hi = lo + (d : Int)) (l : lo < mid) (u : mid < hi) : (hi - mid).toNat < d := by omega
theorem q_pos {lo mid : Int} (l : lo < mid) : 0 < (mid - lo).toNat := by omega
theorem q_le0 {lo mid : Int} (h : 0 ≤ lo) (l : lo < mid) : 0 ≤ mid := by omega
theorem q_ge {lo mid : Int} (l : lo < mid) : 0 ≤ mid - lo := by omega
theorem q_tr {mid hi n : Int} (h : hi ≤ n) (l : mid < hi) : mid ≤ n := by omega
theorem q_l2 {α : Type} {a b : List α} {hi : Int} (e : a.length = b.length) (h : hi ≤ (b.length : Int)) : hi ≤ (a.length : Int) := by rw [e]; exact h
theorem q_l3 {α : Type} {a b : List α} {n : Nat} (e : a.length = b.length) (h : b.length ≤ n) : a.length ≤ n := by rw [e]; exact h
theorem q_len {ds ds' new : List Int} {lo hi : Int} {d : Nat} (e : ds' = ds.take lo.toNat ++ new ++ ds.drop hi.toNat) (l : new.length = d) (h0 : 0 ≤ lo) (hh : hi = lo + (d : Int)) (hle : hi ≤ (ds.length : Int)) : ds'.length = ds.length := by
  rw [e, List.length_append, List.length_append, List.length_take, List.length_drop]; omega
theorem q_new {a b : List Int} {lo mid hi : Int} {d : Nat} (h : hi = lo + (d : Int)) (l : lo < mid) (u : mid < hi) (ha : a.length = (mid - lo).toNat) (hb : b.length = (hi - mid).toNat) : (a ++ b).length = d := by
  rw [List.length_append]; omega
/-! Txt1 -/
section

open Builtin Builtin.Str StrLaws

theorem at_one {x : Str} {c hi i : Nat} (hh : hi ≤ x.length) : At x ⟨#[c]⟩ hi i ↔ i < hi ∧ x.cps.toList[i]? = some c := by
  unfold At subAt
  have hl : (⟨#[c]⟩ : Str).length = 1 := rfl
  rw [hl]
  constructor
  · rintro ⟨h1, h2⟩
    have hi' : i < hi := by omega
    refine ⟨hi', ?_⟩
    have h3 : x.cps.extract i (i + 1) = #[c] := beq_iff_eq.mp h2
    have h4 := congrArg (fun a : Array Nat => a[0]?) h3
    simp only [Array.getElem?_extract] at h4
    have hs : i < x.cps.size := Nat.lt_of_lt_of_le hi' hh
    have h5 : (0 : Nat) < min (i + 1) x.cps.size - i := by omega
    rw [if_pos h5] at h4
    simpa using h4
  · rintro ⟨h1, h2⟩
    refine ⟨by omega, ?_⟩
    apply beq_iff_eq.mpr
    apply Array.ext'
    have hs : i < x.cps.toList.length := by rw [Array.length_toList]; exact Nat.lt_of_lt_of_le h1 hh
    rw [Array.toList_extract]
    rw [List.getElem?_eq_getElem hs] at h2
    have h3 := Option.some.inj h2
    show List.take (i + 1 - i) (List.drop i x.cps.toList) = [c]
    have : i + 1 - i = 1 := by omega
    rw [this, List.drop_eq_getElem_cons hs, h3]
    rfl

noncomputable def fnd (x y : Str) (hi : Nat) : Int := match occurrences x y 0 hi 1 with | i :: _ => (i : Int) | [] => -1
noncomputable def rfnd (x y : Str) (hi : Nat) : Int := match lastOccurrence x y 0 hi with | some i => (i : Int) | none => -1

theorem fnd_spec (x : Str) (c hi : Nat) (hh : hi ≤ x.length) :
    (fnd x ⟨#[c]⟩ hi = -1 ∧ ∀ k, k < hi → x.cps.toList[k]? ≠ some c) ∨ (∃ k, k < hi ∧ fnd x ⟨#[c]⟩ hi = (k : Int) ∧ x.cps.toList[k]? = some c ∧ ∀ j, j < k → x.cps.toList[j]? ≠ some c) := by
  unfold fnd
  rw [occ_eq]
  rcases occ_first x ⟨#[c]⟩ hi 1 (Nat.le_refl _) (List.range' 0 (hi + 1 - 0)) 0 (fun _ _ => Nat.zero_le _) with ⟨h0, hn⟩ | ⟨pre, a, post, e, h0, ha, hn⟩
  · refine .inl ⟨by rw [h0], fun k hk hc => ?_⟩
    exact hn k (by rw [List.mem_range'_1]; omega) ((at_one hh).mpr ⟨hk, hc⟩)
  · obtain ⟨a1, a2⟩ := (at_one hh).mp ha
    refine .inr ⟨a, a1, ?_, a2, fun j hj hc => hn j (range'_split e j hj) ((at_one hh).mpr ⟨by omega, hc⟩)⟩
    generalize (forIn (List.range' 0 (hi + 1 - 0)) ((#[] : Array Nat), 0) (occBody x ⟨#[c]⟩ hi 1)).run.fst = arr at h0
    have h1 : arr.toList[0]? = some a := by simpa using h0
    cases hL : arr.toList with
    | nil => rw [hL] at h1; cases h1
    | cons b t => rw [hL] at h1; simp at h1; rw [h1]

theorem rfnd_spec (x : Str) (c hi : Nat) (hh : hi ≤ x.length) :
    (rfnd x ⟨#[c]⟩ hi = -1 ∧ ∀ k, k < hi → x.cps.toList[k]? ≠ some c) ∨ (∃ k, k < hi ∧ rfnd x ⟨#[c]⟩ hi = (k : Int) ∧ x.cps.toList[k]? = some c ∧ ∀ j, k < j → j < hi → x.cps.toList[j]? ≠ some c) := by
  unfold rfnd
  rw [last_eq]
  have key := last_run x ⟨#[c]⟩ hi (List.range' 0 (hi + 1 - 0)) [] none (fun _ h => nomatch h) (fun _ h => nomatch h) (by simpa using List.pairwise_lt_range' (s := 0) (n := hi + 1 - 0))
  have mem : ∀ i, i < hi → i ∈ [] ++ List.range' 0 (hi + 1 - 0) := fun i hi => by rw [List.nil_append, List.mem_range'_1]; omega
  cases hr : (forIn (List.range' 0 (hi + 1 - 0)) none (lastBody x ⟨#[c]⟩ hi)).run with
  | none => rw [hr] at key; exact .inl ⟨rfl, fun k hk hc => key k (mem k hk) ((at_one hh).mpr ⟨hk, hc⟩)⟩
  | some a =>
    rw [hr] at key
    obtain ⟨a1, a2⟩ := (at_one hh).mp key.1
    exact .inr ⟨a, a1, rfl, a2, fun k hk hk2 hc => key.2 k (mem k hk2) hk ((at_one hh).mpr ⟨hk2, hc⟩)⟩

section
variable {prog : Program} {w : World} {A : Around} {E : Value → Shared → Prop} {s : Shared} {x y : Str} {t u v v2 : Tok} {i j : Int} {Q : Value → Shared → Prop}
theorem gives_find4 (x y : Str) (i j : Int) (t u v v2 : Tok) : Gives («str.find» ⟨[.str x t, .str y u, .int i v, .int j v2], []⟩) (.int (match occurrences x y (fromIndex x.length i) (min (fromIndex x.length j) x.length) 1 with | k :: _ => (k : Int) | [] => -1)) := by
  show Gives (match occurrences x y (fromIndex x.length i) (min (fromIndex x.length j) x.length) 1 with | k :: _ => retInt k | [] => (do rule "str.find.not-found"; retInt (-1))) _
  cases occurrences x y (fromIndex x.length i) (min (fromIndex x.length j) x.length) 1 with
  | nil => exact .rule (.of_eq rfl)
  | cons k _ => exact .of_eq rfl
theorem gives_rfind4 (x y : Str) (i j : Int) (t u v v2 : Tok) : Gives («str.rfind» ⟨[.str x t, .str y u, .int i v, .int j v2], []⟩) (.int (match lastOccurrence x y (fromIndex x.length i) (min (fromIndex x.length j) x.length) with | some k => (k : Int) | none => -1)) := by
  show Gives (match lastOccurrence x y (fromIndex x.length i) (min (fromIndex x.length j) x.length) with | some k => retInt k | none => (do rule "str.rfind.not-found"; retInt (-1))) _
  cases lastOccurrence x y (fromIndex x.length i) (min (fromIndex x.length j) x.length) with
  | none => exact .rule (.of_eq rfl)
  | some k => exact .of_eq rfl
theorem fromIndex_in {n : Nat} {j : Int} (h0 : 0 ≤ j) : fromIndex n j = j.toNat := by
  unfold fromIndex
  rw [if_neg (by omega)]
  omega
theorem find4 (h0 : 0 ≤ j) (h1 : j ≤ (x.length : Int)) (hq : Q (.int (fnd x y j.toNat) s.toks) { s with toks := s.toks + 1 }) : wpAny (model prog w) A (call (.builtin "str.find") [.str x t, .str y u, .int 0 v, .int j v2]) Q E s := by
  refine call_gives F.slot_str_find (typeIs_str _ _ _) F.entry_str_find (F.args_str_find_4 _ _ _ _) (gives_find4 x y 0 j t u v v2) ?_
  rw [fromIndex_in h0, fromIndex_in (by omega), show min j.toNat x.length = j.toNat by omega]
  exact hq
theorem rfind4 (h0 : 0 ≤ j) (h1 : j ≤ (x.length : Int)) (hq : Q (.int (rfnd x y j.toNat) s.toks) { s with toks := s.toks + 1 }) : wpAny (model prog w) A (call (.builtin "str.rfind") [.str x t, .str y u, .int 0 v, .int j v2]) Q E s := by
  refine call_gives F.slot_str_rfind (typeIs_str _ _ _) F.entry_str_rfind (F.args_str_rfind_4 _ _ _ _) (gives_rfind4 x y 0 j t u v v2) ?_
  rw [fromIndex_in h0, fromIndex_in (by omega), show min j.toNat x.length = j.toNat by omega]
  exact hq
end
theorem find_is (x y : Str) : Txt.find x y = fnd x y x.length := rfl
end
/-! Txt2 -/
section

abbrev tx (l : List Nat) : Str := ⟨l.toArray⟩
theorem tx_list (l : List Nat) : (tx l).cps.toList = l := rfl
theorem tx_len (l : List Nat) : (tx l).length = l.length := by simp [Str.length]

/-- what may stand behind the name -/
noncomputable def TailOk (t : List Nat) : Prop := t = [] ∨ ∃ c r, t = c :: r ∧ (c = 58 ∨ c = 10)

theorem strip_eq {a d t : List Nat} (ha : a = [] ∨ ∃ b, a = b ++ [46]) (hA : ∀ c ∈ a, c ≠ 58 ∧ c ≠ 10) (hD : ∀ c ∈ d, c ≠ 58 ∧ c ≠ 10 ∧ c ≠ 46) (ht : TailOk t)
    {k1 r k2 e k3 st : Int} (h1 : k1 = fnd (tx (a ++ d ++ t)) ⟨#[10]⟩ (tx (a ++ d ++ t)).length) (hr : 0 ≤ k1 ∧ r = k1 ∨ ¬ 0 ≤ k1 ∧ r = ((tx (a ++ d ++ t)).length : Int))
    (h2 : k2 = fnd (tx (a ++ d ++ t)) ⟨#[58]⟩ r.toNat) (he : 0 ≤ k2 ∧ e = k2 ∨ ¬ 0 ≤ k2 ∧ e = r) (h3 : k3 = rfnd (tx (a ++ d ++ t)) ⟨#[46]⟩ e.toNat) (hs : 0 ≤ k3 ∧ st = k3 + 1 ∨ ¬ 0 ≤ k3 ∧ st = 0) :
    Txt.slice (tx (a ++ d ++ t)) (some st) (some e) = tx d := by
  have hlen := tx_len (a ++ d ++ t)
  have hL := tx_list (a ++ d ++ t)
  have hll : (a ++ d ++ t).length = a.length + d.length + t.length := by simp only [List.length_append]
  -- signs of the name
  have name : ∀ i, i < a.length + d.length → (a ++ d ++ t)[i]? ≠ some 58 ∧ (a ++ d ++ t)[i]? ≠ some 10 := by
    intro i hi
    rw [List.getElem?_append_left (by simpa using hi)]
    have hm : ∀ c, (a ++ d)[i]? = some c → c ≠ 58 ∧ c ≠ 10 := fun c hc => by
      rcases List.mem_append.mp (List.mem_of_getElem? hc) with h | h
      · exact hA c h
      · exact ⟨(hD c h).1, (hD c h).2.1⟩
    exact ⟨fun q => (hm _ q).1 rfl, fun q => (hm _ q).2 rfl⟩
  -- the end
  have hr' : (a.length + d.length : Int) ≤ r ∧ r ≤ (a ++ d ++ t).length ∧ (r = (a.length + d.length : Int) ∨ (a ++ d ++ t)[a.length + d.length]? = some 58 ∧ (a.length + d.length : Int) < r) := by
    rcases fnd_spec (tx (a ++ d ++ t)) 10 (tx (a ++ d ++ t)).length (Nat.le_refl _) with ⟨q, qn⟩ | ⟨k, q1, q2, q3, q4⟩
    · rw [q] at h1
      have : r = ((a ++ d ++ t).length : Int) := by rcases hr with hr | hr <;> omega
      refine ⟨by omega, by omega, ?_⟩
      rcases ht with rfl | ⟨c, u, rfl, hc⟩
      · left; simp only [List.length_nil] at hll; omega
      · right
        rw [List.getElem?_append_right (by simp), List.length_append, Nat.sub_self]
        rcases hc with rfl | rfl
        · simp only [List.length_cons] at hll
          exact ⟨rfl, by omega⟩
        · exfalso
          refine qn (a.length + d.length) (by rw [hlen, hll]; simp only [List.length_cons]; omega) ?_
          rw [hL, List.getElem?_append_right (by simp), List.length_append, Nat.sub_self]; rfl
    · rw [q2] at h1
      rw [hL] at q3
      rw [hlen] at q1
      have hr2 : r = (k : Int) := by rcases hr with hr | hr <;> omega
      have hk : a.length + d.length ≤ k := by
        rcases Nat.lt_or_ge k (a.length + d.length) with h | h
        · exact absurd q3 (name k h).2
        · exact h
      refine ⟨by omega, by omega, ?_⟩
      rcases ht with rfl | ⟨c, u, rfl, hc⟩
      · simp only [List.length_nil] at hll; omega
      · have h0 : (a ++ d ++ c :: u)[a.length + d.length]? = some c := by
          rw [List.getElem?_append_right (by simp), List.length_append, Nat.sub_self]; rfl
        rcases hc with rfl | rfl
        · right
          refine ⟨h0, ?_⟩
          rcases Nat.lt_or_ge (a.length + d.length) k with h | h
          · omega
          · have : k = a.length + d.length := by omega
            rw [this, h0] at q3; cases q3
        · left
          rcases Nat.lt_or_ge (a.length + d.length) k with h | h
          · exact absurd (by rw [hL]; exact h0) (q4 _ h)
          · omega
  have hE : e = (a.length + d.length : Int) := by
    rcases fnd_spec (tx (a ++ d ++ t)) 58 r.toNat (by rw [hlen]; omega) with ⟨q, qn⟩ | ⟨k, q1, q2, q3, q4⟩
    · rw [q] at h2
      rcases hr'.2.2 with h | ⟨h, hlt⟩
      · rcases he with he | he <;> omega
      · exact absurd (by rw [hL]; exact h) (qn (a.length + d.length) (by omega))
    · rw [q2] at h2
      rw [hL] at q3
      have hk : a.length + d.length ≤ k := by
        rcases Nat.lt_or_ge k (a.length + d.length) with h | h
        · exact absurd q3 (name k h).1
        · exact h
      rcases hr'.2.2 with h | ⟨h, hlt⟩
      · omega
      · rcases Nat.lt_or_ge (a.length + d.length) k with h' | h'
        · exact absurd (by rw [hL]; exact h) (q4 _ h')
        · rcases he with he | he <;> omega
  have hS : st = (a.length : Int) := by
    subst hE
    rcases rfnd_spec (tx (a ++ d ++ t)) 46 ((a.length + d.length : Int)).toNat (by rw [hlen]; omega) with ⟨q, qn⟩ | ⟨k, q1, q2, q3, q4⟩
    · rw [q] at h3
      rcases ha with rfl | ⟨b, rfl⟩
      · simp; rcases hs with hs | hs <;> omega
      · exfalso
        refine qn b.length (by simp; omega) ?_
        rw [hL]; simp
    · rw [q2] at h3
      rw [hL] at q3
      rcases ha with rfl | ⟨b, rfl⟩
      · exfalso
        rw [List.nil_append, List.getElem?_append_left (by simp at q1; omega)] at q3
        exact (hD _ (List.mem_of_getElem? q3)).2.2 rfl
      · have : k = b.length := by
          rcases Nat.lt_trichotomy k b.length with h | h | h
          · exfalso
            refine q4 b.length h (by simp; omega) ?_
            rw [hL]; simp
          · exact h
          · exfalso
            have h' : (b ++ [46]).length ≤ k := by simp; omega
            rw [List.append_assoc, List.getElem?_append_right h', List.getElem?_append_left (by simp at q1 ⊢; omega)] at q3
            exact (hD _ (List.mem_of_getElem? q3)).2.2 rfl
        rcases hs with hs | hs <;> simp <;> omega
  have := eq_of_beq (slice_closesL (x := tx (a ++ d ++ t)) (i := st) (j := e) (by omega) (by omega) (by rw [hlen]; omega))
  rw [this, hL, hS, hE]
  have e1 : ((a.length : Int)).toNat = a.length := by omega
  have e2 : ((a.length + d.length : Int) - (a.length : Int)).toNat = d.length := by omega
  rw [e1, e2, List.append_assoc, List.drop_left, List.take_left]
end
/-! SetR -/
section
open PySem.Calls
theorem noBool_set : typeLookup (.type "set") "__bool__" = pure none := by rw [typeLookup_type, builtinLookup_eq_fast]; kernel_rfl
section
variable {prog : Program} {w : World} {A : Around} {E : Value → Shared → Prop} {s : Shared} {h₀ : Heap} {L sa : Addr} {m : Str → Option Value} {news : List (Addr × Obj)} {g : Obj → List (Addr × Obj)} {so : Obj}
  {K : Type} [DecidableEq K] {knd : KeyKind prog w K} {S : K → Bool} {n : Nat}
theorem set_truthy {Q : Bool → Shared → Prop} (N : News h₀ L s.heap news) (hm : (sa, so) ∈ news) (hso : so.SetObjOf knd S n) (hfit : (n : Int) < 2 ^ 63)
    (h : Q (decide (n ≠ 0)) { s with toks := s.toks + 1 + 1 }) : wpAny (model prog w) A (truthy (.ref sa)) Q E s := by
  obtain ⟨hex, es, ep, t, hd, _, _, hn, hf⟩ := hso
  subst hn
  have ho := (N _ hm).1
  have hT : s.TypeIs (.ref sa) "set" := ⟨so, ho, hex.1⟩
  have hne : ((es.size : Int) != 0) = decide (es.size ≠ 0) := by
    by_cases h0 : es.size = 0 <;> simp [h0]
  have key : wpAny (model prog w) A (runValue (.builtin "len" ⟨[.ref sa], []⟩)) (fun r s' => r = .int es.size (s.toks + 1) ∧ Q (decide (es.size ≠ 0)) s') E s := by
    refine wpAny_runValue (codeAny_builtin entry_len ?_)
    rw [Around.under_plainId plain_len _]
    exact wpAny_mono (wpAny_len_body_set (Q := fun r s' => r = .int es.size (s.toks + 1) ∧ Q (decide (es.size ≠ 0)) s') ho hex hd hf hfit ⟨rfl, h⟩)
      (fun fin s' h' => by obtain ⟨r, rfl, hq⟩ := h'; exact hq) fun _ _ e => e
  unfold truthy
  first
    | refine wpAny_bind (wpAny_callSpecial?_none (name := Str.ofString "__bool__") hT noBool_set ?_)
    | refine wpAny_bind (wpAny_pure (wpAny_bind (wpAny_callSpecial?_none (name := Str.ofString "__bool__") hT noBool_set ?_)))
  first
    | refine wpAny_bind (wpAny_specialOf (name := Str.ofString "__len__") hT F.slot_set_len.lookup ?_)
    | refine wpAny_bind (wpAny_pure (wpAny_bind (wpAny_specialOf (name := Str.ofString "__len__") hT F.slot_set_len.lookup ?_)))
  first
    | exact wpAny_bind (wpAny_mono key (fun r s' h' => by obtain ⟨rfl, hq⟩ := h'; exact wpAny_pure (hne ▸ hq)) fun _ _ e => e)
    | exact wpAny_bind (wpAny_pure (wpAny_bind (wpAny_mono key (fun r s' h' => by obtain ⟨rfl, hq⟩ := h'; exact wpAny_pure (hne ▸ hq)) fun _ _ e => e)))
theorem set_getPop {pl : Sem Bool} {Q : Value × List Value → Shared → Prop} (N : News h₀ L s.heap news) (hm : (sa, so) ∈ news) (hso : so.SetObjOf knd S n) (h : Q (.builtin "set.pop", [.ref sa]) s) :
    wpAny (model prog w) A (getMethod (.ref sa) "pop" pl) Q E s := by
  obtain ⟨hex, es, ep, t, hd, _, _, hn, hf⟩ := hso
  have ho := (N _ hm).1
  have hT : s.TypeIs (.ref sa) "set" := ⟨so, ho, hex.1⟩
  exact getMethod_builtin hT F.plainAttrs_set F.slot_set_pop F.type_set_pop (fun b e => by injection e with e; subst e; exact ⟨so, ho, hex.2.1⟩) h
end
theorem wpAny_choose1 {M : Model} {A : Around} {E : Value → Shared → Prop} {s : Shared} {src : Source} {Q : Nat → Shared → Prop} (h : ∀ dr, Q 0 { s with drawn := dr }) : wpAny M A (choose src 1) Q E s := by
  intro Γ p hΓ
  unfold choose
  rw [Sem.wp_choose]
  refine ⟨by decide, ?_⟩
  rw [Nat.mod_one]
  have := h (s.drawn.bump src)
  exact wpAny_pure (M := M) (A := A) (E := E) (Q := Q) this Γ p hΓ
theorem popPlace_one {t : SetTable} (h : t.place.size = 1) : t.popPlace = some 0 := by
  unfold SetTable.popPlace
  have h1 : t.place.isEmpty = false := by
    cases hh : t.place.isEmpty with
    | false => rfl
    | true => rw [Array.isEmpty_iff_size_eq_zero] at hh; omega
  rw [h1]
  simp only [Bool.false_eq_true, if_false]
  split
  · rename_i hlt; congr 1; omega
  · rfl
theorem eraseAt_one {α : Type} {xs : Array α} (h : xs.size = 1) : SetTable.eraseAt xs 0 = #[] := by
  obtain ⟨l⟩ := xs
  match l, h with
  | [a], _ => rfl
theorem insertAt_size {α : Type} {xs : Array α} {p : Nat} {x : α} : (SetTable.insertAt xs p x).size = xs.size + 1 := by
  unfold SetTable.insertAt
  simp only [Array.size_append, Array.size_push, Array.size_extract]
  omega
theorem fits_iff {t : SetTable} {n : Nat} : t.fits n = true ↔ t.place.size = n ∧ t.place.size + t.dummies.size ≤ t.mask := by
  unfold SetTable.fits SetTable.fill
  rw [Bool.and_eq_true, beq_iff_eq]
  exact ⟨fun h => ⟨h.1, of_decide_eq_true h.2⟩, fun h => ⟨h.1, decide_eq_true h.2⟩⟩
theorem popped_fits {t : SetTable} (h : t.fits 1 = true) : (t.popped 0).fits 0 = true := by
  rw [fits_iff] at h ⊢
  obtain ⟨h1, h2⟩ := h
  have h3 : t.place[0]? = some t.place[0] := by simp
  have e : t.drop 0 = { t with place := SetTable.eraseAt t.place 0, dummies := SetTable.insertAt t.dummies (SetTable.below t.dummies t.place[0]) t.place[0] } := by
    unfold SetTable.drop
    rw [h3]
  have e1 : (t.popped 0).place = #[] := by
    show (t.drop 0).place = #[]
    rw [e]; exact eraseAt_one h1
  have e2 : (t.popped 0).dummies.size = t.dummies.size + 1 := by
    show (t.drop 0).dummies.size = _
    rw [e]; exact insertAt_size
  have e3 : (t.popped 0).mask = t.mask := by
    show (t.drop 0).mask = _
    rw [e]
  rw [e1, e2, e3]
  refine ⟨rfl, ?_⟩
  show 0 + (t.dummies.size + 1) ≤ t.mask
  omega
section
variable {prog : Program} {w : World} {A : Around} {E : Value → Shared → Prop} {s : Shared} {h₀ : Heap} {L sa : Addr} {m : Str → Option Value} {news : List (Addr × Obj)} {g : Obj → List (Addr × Obj)} {so : Obj} {S : Int → Bool} {x : Int}
theorem set_pop1 {Q : Value → Shared → Prop} (F0 : Fr h₀ L s.heap m) (N : News h₀ L s.heap news) (U : UpdF sa so news g) (hso : so.SetObjOf (intKind prog w) S 1) (hS : S x = true)
    (h : ∀ t h' dr so', Fr h₀ L h' m → News h₀ L h' (g so') → so'.SetObjOf (intKind prog w) (fun _ => false) 0 → Q (.int x t) { s with heap := h', drawn := dr }) :
    wpAny (model prog w) A (call (.builtin "set.pop") [.ref sa]) Q E s := by
  obtain ⟨pre, post, rfl, hg, hp1, hp2⟩ := U.split
  have hm := N (sa, so) (List.mem_append_right _ (.head _))
  obtain ⟨hex, es, ep, t, hd, hel, hmem, hn, hf⟩ := hso
  have ho := hm.1
  have hT : s.TypeIs (.ref sa) "set" := ⟨so, ho, hex.1⟩
  obtain ⟨⟨es⟩, rfl⟩ : ∃ e : Array (Int × Value), e = es := ⟨es, rfl⟩
  match es, hn with
  | [e], _ =>
    obtain ⟨e', he', hk⟩ := (hmem x).mp hS
    have : e' = e := by simpa using he'
    subst this
    obtain ⟨tk, htk⟩ := Value.isInt_shape hk
    refine wpAny_call_entry PySem.F.slot_set_pop hT PySem.F.entry_set_pop ?_ (PySem.F.args_set_pop_1 _)
    unfold Builtin.«set.pop» Builtin.Frozenset.noArgs
    simp only [List.isEmpty_nil, bind_assoc]
    unfold Builtin.Frozenset.addrOf setPop
    refine wpAny_bind (wpAny_pure ?_)
    try dsimp only
    refine wpAny_bind (wpAny_bind (wpAny_setState_of ho hd hf ?_))
    have hf1 : t.fits 1 = true := hf
    have hps : t.place.size = 1 := by
      exact (fits_iff.mp hf1).1
    dsimp only
    rw [popPlace_one hps]
    dsimp only
    have fin : ∀ dr, wpAny (model prog w) A.in1 (do
        match [e'].toArray[0]? with
        | some (_, x) => (do storeSet sa (SetTable.eraseAt [e'].toArray 0) (t.popped 0); pure (some x))
        | none => unsupported "internal:set.pop") (fun r s' => r = some (.int x tk) ∧ Q (.int x tk) s') E { s with drawn := dr } := by
      intro dr
      obtain ⟨e1, e2⟩ := e'
      dsimp only at htk hk
      subst htk
      show wpAny _ _ (storeSet sa (SetTable.eraseAt [(e1, Value.int x tk)].toArray 0) (t.popped 0) >>= fun _ => pure (some (Value.int x tk))) _ _ _
      rw [eraseAt_one rfl]
      refine wpAny_bind (wpAny_storeSet_of (s := { s with drawn := dr }) ho hd (wpAny_pure ⟨rfl, ?_⟩) (by decide))
      obtain ⟨_, hS'⟩ := SetOf_store (knd := intKind prog w) (S' := fun _ => false) hm.1 hex hd (es' := #[]) (t' := t.popped 0) (fun e he => by simp at he) (fun k => by simp) (by decide) (popped_fits hf1)
      obtain ⟨so', ho', hso'⟩ := hS'.objOf
      have hsb := Heap.SameBut.update s.heap sa (Obj.putSet #[] (t.popped 0))
      exact h tk _ dr so' (F0.change hsb hm.2.1 hm.2.2) (hg so' ▸ N.setIn hp1 hp2 hsb ho') hso'
    refine wpAny_bind (wpAny_bind (wpAny_askSetting (wpAny_pure ?_)))
    generalize (Setting.params _).followText "set-order" = b
    cases b with
    | true =>
      rw [Bool.true_or, if_pos rfl]
      refine wpAny_bind (wpAny_choose1 fun dr => ?_)
      exact wpAny_mono (fin dr) (fun r s' hr => by obtain ⟨rfl, hq⟩ := hr; exact wpAny_pure ⟨_, rfl, hq⟩) fun _ _ e => e
    | false =>
      rw [if_neg (by show ¬ (false || (!t.plain && decide ((1 : Nat) > 1))) = true; simp)]
      refine wpAny_bind (?_ : wpAny _ _ (if (!t.led && decide ((1 : Nat) > 1)) = true then unsupported "set:maker-not-led" else pure ()) _ _ _)
      rw [if_neg (by simp)]
      refine wpAny_pure (wpAny_bind (wpAny_pure ?_))
      exact wpAny_mono (fin s.drawn) (fun r s' hr => by obtain ⟨rfl, hq⟩ := hr; exact wpAny_pure ⟨_, rfl, hq⟩) fun _ _ e => e
end
end
/-! Tab -/
section
open PySem.Calls
/-- a code table: untouched, or with the one code object of its inner def -/
noncomputable def TabAtt (P line col : Nat) (qual : Str) (T : List (Addr × Obj)) : Prop :=
  T = [(P, tabObj #[])] ∨ ∃ c oc vs t, T = [(c, oc), (P, tabObj #[rawInt line, rawInt col, .ref c])] ∧ oc.data = .fields vs ∧ vs[1]? = some (.str qual t) ∧ 80 < c
abbrev Off (P : Addr) (l : List (Addr × Obj)) : Prop := ∀ p ∈ l, p.1 ≠ P
theorem Off.nil {P : Addr} : Off P [] := fun _ h => nomatch h
theorem Off.cons {P a : Addr} {o : Obj} {l : List (Addr × Obj)} (h : a ≠ P) (hl : Off P l) : Off P ((a, o) :: l) := fun p hp => by
  rcases List.mem_cons.mp hp with rfl | hp
  · exact h
  · exact hl p hp
theorem Off.app {P : Addr} {l l' : List (Addr × Obj)} (h : Off P l) (h' : Off P l') : Off P (l ++ l') := fun p hp => by
  rcases List.mem_append.mp hp with hp | hp
  · exact h p hp
  · exact h' p hp
theorem Off.tab {P R line col : Nat} {qual : Str} {T : List (Addr × Obj)} (h : TabAtt R line col qual T) (hne : R ≠ P) (hP : P ≤ 80) : Off P T := by
  rcases h with rfl | ⟨c, oc, vs, t, rfl, _, _, hc⟩
  · exact Off.cons hne Off.nil
  · exact Off.cons (Nat.ne_of_gt (Nat.lt_of_le_of_lt hP hc)) (Off.cons hne Off.nil)
theorem Off.left {P : Addr} {l l' : List (Addr × Obj)} (h : Off P (l ++ l')) : Off P l := fun p hp => h p (List.mem_append_left _ hp)
theorem Off.right {P : Addr} {l l' : List (Addr × Obj)} (h : Off P (l ++ l')) : Off P l' := fun p hp => h p (List.mem_append_right _ hp)
theorem lt_frames {h₀ g h : Heap} {L L' : Addr} {m m' : Str → Option Value} (FG : Fr h₀ L g m) (F : Fr g L' h m') {n : Nat} (hL : n < L) : n < L' :=
  Nat.lt_trans hL (Nat.lt_of_lt_of_le FG.ns.lt F.above)
theorem lt_frm {h₀ g h : Heap} {L L' : Addr} {m m' : Str → Option Value} {n : Nat} (F : Fr g L' h m') (FG : Fr h₀ L g m) (hL : n < L) : n < L' := lt_frames FG F hL
theorem allLt_app {d : Addr} : ∀ {l l' : List (Addr × Obj)}, AllLt d (l ++ l') → AllLt d l ∧ AllLt d l'
  | [], _, h => ⟨trivial, h⟩
  | _ :: _, _, h => ⟨⟨h.1, (allLt_app h.2).1⟩, (allLt_app h.2).2⟩
theorem allLt_mem {d : Addr} : ∀ {l : List (Addr × Obj)}, AllLt d l → ∀ p ∈ l, p.1 < d
  | [], _, _, h => nomatch h
  | _ :: _, h, _, .head _ => h.1
  | _ :: _, h, q, .tail _ m => allLt_mem h.2 q m
theorem ne_of_allLt {d : Addr} : ∀ {l : List (Addr × Obj)}, AllLt d l → ∀ p ∈ l, p.1 ≠ d
  | [], _, _, h => nomatch h
  | _ :: _, h, _, .head _ => Nat.ne_of_lt h.1
  | _ :: _, h, q, .tail _ m => ne_of_allLt h.2 q m
theorem ne_up {d e : Addr} {l : List (Addr × Obj)} (h : AllLt d l) (hd : d ≤ e) : ∀ p ∈ l, p.1 ≠ e := fun p hp => by
  have := allLt_mem h p hp
  exact Nat.ne_of_lt (Nat.lt_of_lt_of_le this hd)
theorem ne_c1 {d : Addr} {l : List (Addr × Obj)} (h : AllLt d l) : ∀ p ∈ l, p.1 ≠ d + 1 := ne_up h (Nat.le_add_right _ _)
theorem ne_c2 {d : Addr} {l : List (Addr × Obj)} (h : AllLt d l) : ∀ p ∈ l, p.1 ≠ d + 1 + 1 := ne_up h (Nat.le_trans (Nat.le_add_right _ 1) (Nat.le_add_right _ 1))
theorem ne_c3 {d : Addr} {l : List (Addr × Obj)} (h : AllLt d l) : ∀ p ∈ l, p.1 ≠ d + 1 + 1 + 1 := ne_up h (Nat.le_add_right d 3)
theorem ne_c4 {d : Addr} {l : List (Addr × Obj)} (h : AllLt d l) : ∀ p ∈ l, p.1 ≠ d + 1 + 1 + 1 + 1 := ne_up h (Nat.le_add_right d 4)
theorem news_sub {h₀ h : Heap} {L : Addr} {n n' : List (Addr × Obj)} (N : News h₀ L h n) (hs : ∀ p ∈ n', p ∈ n) : News h₀ L h n' := fun p hp => N p (hs p hp)
end
/-! Bits -/
section
open PySem.Calls
open Builtin.Int (intBits)
/-- a number of bounded size, nought or more -/
noncomputable def Bnd (m : Nat) (x : Int) : Prop := 0 ≤ x ∧ intBits x ≤ m
theorem Bnd.mono {m n : Nat} {x : Int} (h : Bnd m x) (hmn : m ≤ n) : Bnd n x := ⟨h.1, Nat.le_trans h.2 hmn⟩
theorem Bnd.le {m : Nat} {x y : Int} (h : Bnd m y) (h0 : 0 ≤ x) (hxy : x ≤ y) : Bnd m x := ⟨h0, intBits_le_of_natAbs (by omega) h.2⟩
theorem pow2_pos (k : Nat) : (0 : Int) < 2 ^ k := PySem.W.kbt_pos k
theorem xor_cut {x : Int} (hx : 0 ≤ x) (k : Nat) : Builtin.bitXor x (x.fdiv (2 ^ k) * 2 ^ k) = x.fmod (2 ^ k) := by
  rw [bitXor_and]
  have hw := PySem.W.kbt_whole x k
  have hp := pow2_pos k
  obtain ⟨n, rfl⟩ := Int.eq_ofNat_of_zero_le hx
  have hq : ((n : Nat) : Int).fdiv (2 ^ k) = ((n / 2 ^ k : Nat) : Int) := by
    rw [Int.fdiv_eq_ediv_of_nonneg _ (by omega), ← PySem.W.kbt_cast]; rfl
  have hA : Builtin.bitAnd ((n : Nat) : Int) (((n : Nat) : Int).fdiv (2 ^ k) * 2 ^ k) = ((n : Nat) : Int).fdiv (2 ^ k) * 2 ^ k := by
    rw [hq, ← PySem.W.kbt_cast, ← Int.natCast_mul]
    unfold Builtin.bitAnd
    rw [decide_eq_true (by omega), decide_eq_true (by omega)]
    dsimp only
    rw [Int.toNat_natCast, Int.toNat_natCast]
    congr 1
    have e : n / 2 ^ k * 2 ^ k = (n >>> k) <<< k := by rw [Nat.shiftLeft_eq, Nat.shiftRight_eq_div_pow]
    rw [e]
    apply Nat.eq_of_testBit_eq
    intro i
    rw [Nat.testBit_and, Nat.testBit_shiftLeft, Nat.testBit_shiftRight]
    by_cases hik : k ≤ i
    · rw [decide_eq_true (show i ≥ k from hik), Bool.true_and, show k + (i - k) = i by omega, Bool.and_self]
    · rw [decide_eq_false (show ¬ i ≥ k from hik), Bool.false_and, Bool.and_false]
  rw [hA]
  omega
theorem bits_shl {u : Int} {m k : Nat} (hu : Bnd m u) : Bnd (m + k) (u * 2 ^ k) := by
  refine ⟨Int.mul_nonneg hu.1 (Int.le_of_lt (pow2_pos k)), ?_⟩
  rw [intBits_le_iff, Int.natAbs_mul, Nat.pow_add]
  have h1 := intBits_le_iff.mp hu.2
  have h2 : ((2 : Int) ^ k).natAbs = 2 ^ k := by rw [← PySem.W.kbt_cast]; rfl
  rw [h2]
  exact Nat.mul_lt_mul_of_pos_right h1 (Nat.two_pow_pos k)
theorem bits_add {a b : Int} {m n : Nat} (ha : Bnd m a) (hb : Bnd n b) : Bnd (max m n + 1) (a + b) := ⟨by have := ha.1; have := hb.1; omega, intBits_add_le ha.2 hb.2⟩
theorem bits_mul {a b : Int} {m n : Nat} (ha : Bnd m a) (hb : Bnd n b) : Bnd (m + n) (a * b) := ⟨Int.mul_nonneg ha.1 hb.1, intBits_mul_le ha.2 hb.2⟩
theorem bits_shr {a : Int} {m : Nat} (ha : Bnd m a) (k : Nat) : Bnd m (a.fdiv (2 ^ k)) := ha.le (by
    rw [Int.fdiv_eq_ediv_of_nonneg _ (Int.le_of_lt (pow2_pos k))]; exact Int.ediv_nonneg ha.1 (Int.le_of_lt (pow2_pos k))) (by
    rcases PySem.W.kbt_quot a k with h | h
    · have := ha.1; omega
    · exact h.2)
theorem bits_low {a : Int} {m : Nat} (ha : Bnd m a) (k : Nat) : Bnd m (a.fmod (2 ^ k)) := by
  have h1 := PySem.W.kbt_rest a k
  have h2 := PySem.W.kbt_whole a k
  have h3 := (bits_shr ha k).1
  have h4 : 0 ≤ a.fdiv (2 ^ k) * 2 ^ k := Int.mul_nonneg h3 (Int.le_of_lt (pow2_pos k))
  exact ha.le h1.1 (by omega)
theorem bits_pos {x : Int} (hx : 0 < x) : 1 ≤ intBits x := by
  rcases Nat.eq_zero_or_pos (intBits x) with h | h
  · have := intBits_le_iff.mp (Nat.le_of_eq h)
    simp at this; omega
  · exact h
theorem lt_pow_bits {x : Int} (hx : 0 ≤ x) : x < 2 ^ intBits x := by
  have := intBits_le_iff.mp (Nat.le_refl (intBits x))
  rw [← PySem.W.kbt_cast]; omega
/-- the number of digits -/
theorem digits_count {x n : Int} {m : Nat} (hx : Bnd m x) (hn : 0 < n) : 0 ≤ ((intBits x : Int) + n - 1).fdiv n ∧ ((intBits x : Int) + n - 1).fdiv n ≤ m ∧ (0 < x → 1 ≤ ((intBits x : Int) + n - 1).fdiv n) := by
  have hb := hx.2
  have e : ((intBits x : Int) + n - 1).fdiv n = ((intBits x : Int) + n - 1) / n := Int.fdiv_eq_ediv_of_nonneg _ (by omega)
  rw [e]
  refine ⟨Int.ediv_nonneg (by omega) (by omega), ?_, fun h => ?_⟩
  · have : ((intBits x : Int) + n - 1) / n < (m : Int) + 1 := by
      apply Int.ediv_lt_of_lt_mul hn
      have h1 : ((m : Int) + 1) * n = m * n + n := by rw [Int.add_mul, Int.one_mul]
      rw [h1]
      have h2 : (m : Int) ≤ m * n := by
        have := Int.mul_le_mul_of_nonneg_left (show (1 : Int) ≤ n by omega) (show (0 : Int) ≤ m by omega)
        omega
      omega
    omega
  · have hp := bits_pos h
    exact (Int.le_ediv_iff_mul_le hn).mpr (by omega)

/-- the worth of digits, the least first -/
noncomputable def dsum (B : Int) : List Int → Int
  | [] => 0
  | d :: r => d + B * dsum B r
theorem dsum_append (B : Int) : ∀ (a b : List Int), dsum B (a ++ b) = dsum B a + B ^ a.length * dsum B b
  | [], b => by simp [dsum]
  | d :: a, b => by
    simp only [List.cons_append, dsum, List.length_cons]
    rw [dsum_append B a b, Int.mul_add, Int.pow_succ, Int.add_assoc]
    congr 2
    rw [← Int.mul_assoc, Int.mul_comm B]
section
variable {prog : Program} {w : World} {A : Around} {E : Value → Shared → Prop} {s : Shared} {a b n : Int} {t u : Tok} {m : Nat} {Q : Value → Shared → Prop}
theorem shr_mid (h0 : 0 ≤ a) (h1 : a + 1 < b) (hq : ∀ c : Int, a < c → c < b → Q (.int c s.toks) { s with toks := s.toks + 1 }) : wpAny (model prog w) A (binaryOp .RShift (.int (a + b) t) (.int 1 u)) Q E s := by
  refine rshift_int (by decide) ?_
  have e : (a + b).fdiv (2 ^ (1 : Int).toNat) = (a + b) / 2 := Int.fdiv_eq_ediv_of_nonneg _ (by decide)
  rw [e]
  exact hq _ (by omega) (by omega)
theorem shr_by (hx : Bnd m a) (hn : 0 ≤ n) (hq : ∀ c : Int, c = a.fdiv (2 ^ n.toNat) → Bnd m c → Q (.int c s.toks) { s with toks := s.toks + 1 }) : wpAny (model prog w) A (binaryOp .RShift (.int a t) (.int n u)) Q E s :=
  rshift_int hn (hq _ rfl (bits_shr hx _))
theorem shl_by (hx : Bnd m a) (hn : 0 ≤ n) (hn2 : n ≤ 1000000) (hm : m ≤ 1000000) (hq : ∀ c : Int, c = a * 2 ^ n.toNat → Bnd (m + n.toNat) c → Q (.int c s.toks) { s with toks := s.toks + 1 }) : wpAny (model prog w) A (binaryOp .LShift (.int a t) (.int n u)) Q E s :=
  lshift_int hn (by have := hx.2; have e : (2 : Int) ^ 27 = 134217728 := by decide
                    rw [e]; omega) (hq _ rfl (bits_shl hx))
theorem xor_by (hx : Bnd m a) (k : Nat) (hb : b = a.fdiv (2 ^ k) * 2 ^ k) (hq : ∀ c : Int, c = a.fmod (2 ^ k) → Bnd m c → Q (.int c s.toks) { s with toks := s.toks + 1 }) : wpAny (model prog w) A (binaryOp .BitXor (.int a t) (.int b u)) Q E s := by
  refine xor_int ?_
  subst hb
  rw [xor_cut hx.1]
  exact hq _ rfl (bits_low hx k)
theorem mul_small (ha : 0 ≤ a) (ha2 : a ≤ 400) (hb : 0 ≤ b) (hb2 : b ≤ 400) (hq : ∀ c : Int, c = a * b → 0 ≤ c → c ≤ 160000 → Q (.int c s.toks) { s with toks := s.toks + 1 }) : wpAny (model prog w) A (binaryOp .Mult (.int a t) (.int b u)) Q E s := by
  refine AutoIntOps.mul_0 ?_ (PySem.IntMulOk.of_left (PySem.intBits_le_64 (by omega) (by omega)))
  refine hq _ rfl (Int.mul_nonneg ha hb) ?_
  have h1 := Int.mul_le_mul_of_nonneg_right ha2 hb
  have h2 := Int.mul_le_mul_of_nonneg_left hb2 (show (0 : Int) ≤ 400 by decide)
  omega
end
end
/-! Loop -/
section
open PySem.Calls PySem.Spec
/-- how the list lies: in the base or in every ledger -/
noncomputable def Lies (h₀ : Heap) (l : Addr) (vs : List Value) {σ : Type} (nw : σ → List (Addr × Obj)) : Prop :=
  h₀.IsList l vs.toArray ∨ ∃ ep, ∀ a, (l, listOf vs.toArray ep) ∈ nw a
theorem Lies.list {h₀ h : Heap} {l L : Addr} {vs : List Value} {σ : Type} {nw : σ → List (Addr × Obj)} {m : Str → Option Value} {a : σ} (x : Lies h₀ l vs nw) (F : Fr h₀ L h m) (N : News h₀ L h (nw a)) : h.IsList l vs.toArray := by
  rcases x with x | ⟨ep, x⟩
  · exact x.at fun o e => F.keep l o e
  · exact PySem.IsL.isList (n := ep) (N _ (x a)).1
section
variable {prog : Program} {w : World} {A : Around} {E : Value → Shared → Prop} {s : Shared} {env : Env} {h₀ : Heap} {x : Str} {px : Pos} {body : List Stmt} {Q : Flow → Shared → Prop}

/-- what a turn must leave -/
noncomputable def Turned {σ : Type} (h₀ : Heap) (L : Addr) (x : Str) (mp : σ → Str → Option Value) (nw : σ → List (Addr × Obj)) (own : List (Addr × Obj)) (J : σ → Prop) (s s₂ : Shared) : Prop :=
  ∃ a h' tk' dr u, s₂ = { s with heap := h', toks := tk', drawn := dr } ∧ Fr h₀ L h' u ∧ (∀ z, z ≠ x → u z = mp a z) ∧ News h₀ L h' (own ++ nw a) ∧ J a
noncomputable def TurnEnd {σ : Type} (h₀ : Heap) (L : Addr) (x : Str) (mp : σ → Str → Option Value) (nw : σ → List (Addr × Obj)) (own : List (Addr × Obj)) (J : σ → Prop) (s : Shared) (Q : Flow → Shared → Prop) (f : Flow) (s₂ : Shared) : Prop :=
  match f with
  | .ret v => Q (.ret v) s₂
  | .brk => Q .next s₂
  | _ => Turned h₀ L x mp nw own J s s₂
theorem fr_pick {h₀ h : Heap} {L : Addr} {u m : Str → Option Value} {x : Str} (F : Fr h₀ L h u) (hm : ∀ z, z ≠ x → u z = m z) : Fr h₀ L h (fun z => if z = x then u x else m z) := by
  have : u = fun z => if z = x then u x else m z := by
    funext z
    by_cases hz : z = x
    · simp [hz]
    · simp [hz, hm z hz]
  rw [← this]; exact F
theorem fr_over {h₀ h : Heap} {L : Addr} {m : Str → Option Value} {x : Str} {u : Option Value} {v : Value} (F : Fr h₀ L h (fun y => if y = x then some v else (fun z => if z = x then u else m z) y)) : Fr h₀ L h (fun z => if z = x then some v else m z) := by
  have : (fun y => if y = x then some v else (fun z => if z = x then u else m z) y) = fun z => if z = x then some v else m z := by
    funext z
    by_cases hz : z = x <;> simp [hz]
  rw [← this]; exact F

noncomputable def NotIt (o : Obj) : Prop := ∀ l i, o.data ≠ .fields #[.ref l, .int i 0]
theorem iter_list {σ : Type} {l : Addr} {vs : List Value} (mp : σ → Str → Option Value) (nw : σ → List (Addr × Obj)) (J : Nat → σ → Prop) (a₀ : σ)
    (hh : A.handled = none) (hx : env.kindOf x = some .local) (hp : (env.scope.kind == .class || (env.scope.kind == .module && env.locals != env.globals)) = false)
    (hE : PassesOwn (model prog w) A env E)
    (hoff : ∀ i a I, J i a → (∀ p ∈ nw a₀, p.1 < I) → ∀ p ∈ nw a, p.1 ≠ I ∨ NotIt p.2)
    (hl : Lies h₀ l vs nw) (F : Fr h₀ env.locals s.heap (mp a₀)) (N : News h₀ env.locals s.heap (nw a₀)) (hj : J 0 a₀)
    (turn : ∀ i v a I o h tk dr, vs[i]? = some v → J i a → (∀ p ∈ nw a₀, p.1 < I) → Fr h₀ env.locals h (fun z => if z = x then some v else mp a z) → News h₀ env.locals h ([(I, o)] ++ nw a) →
      wpAny (model prog w) A (execs body env) (TurnEnd h₀ env.locals x mp nw [(I, o)] (J (i + 1)) s Q) E { s with heap := h, toks := tk, drawn := dr })
    (done : ∀ a h tk dr u, J vs.length a → Fr h₀ env.locals h (fun z => if z = x then u else mp a z) → News h₀ env.locals h (nw a) → Q .next { s with heap := h, toks := tk, drawn := dr }) :
    wpAny (model prog w) A (pyIter (.ref l)) (fun it s₂ => codeAny (model prog w) A (.forLoop (.Name x px) it body [] env) (fun r s' => match r with | .ok f => Q f s' | .error e => cameBackBy (model prog w) A env E e s') s₂) E s := by
  refine wpAny_pyIter_list (hl.list F N) ?_
  have nwlt : ∀ p ∈ nw a₀, p.1 < s.heap.objs.size := fun p hp => Heap.lt_size (N p hp).1
  refine codeAny_forLoop (fun n s' => ∃ i a h tk dr u o, s' = { s with heap := h, toks := tk, drawn := dr } ∧ i ≤ vs.length ∧ n = vs.length + 1 - i ∧ J i a ∧ h.IsListIter s.heap.objs.size l i ∧
      Fr h₀ env.locals h u ∧ (∀ z, z ≠ x → u z = mp a z) ∧ News h₀ env.locals h ([(s.heap.objs.size, o)] ++ nw a)) ?_ (vs.length + 1) ?_
  · rintro n s' ⟨i, a, h, tk, dr, u, o, rfl, hi, rfl, hJ, hit, F', hu, N'⟩
    have Nn : News h₀ env.locals h (nw a) := fun p hp => N' p (List.mem_append_right _ hp)
    have hI := N' (s.heap.objs.size, o) (by simp)
    have hlist := hl.list F' Nn
    have off : ∀ p ∈ nw a, p.1 ≠ s.heap.objs.size := fun p hp q => by
      rcases hoff i a _ hJ nwlt p hp with h1 | h1
      · exact h1 q
      · obtain ⟨ob, e1, _, e3⟩ := id hit
        have e4 := (Nn p hp).1
        rw [q, e1] at e4
        exact h1 l i (Option.some.inj e4 ▸ e3)
    cases hv : vs[i]? with
    | none =>
      have hsz : i = vs.length := Nat.le_antisymm hi (by simpa using hv)
      refine wpAny_pyNext_list_end (s := { s with heap := h, toks := tk, drawn := dr }) hh hit hlist (by simpa using hv) fun h₁ he₁ => wpAny_execs_nil ?_
      have keep : ∀ b ob, b ≠ s.heap.objs.size → h.get? b = some ob → h₁.get? b = some ob := fun b ob hb e => he₁ b ob hb e
      have F₁ : Fr h₀ env.locals h₁ u := ⟨F'.ns.extBut he₁ (Ne.symm hI.2.1), fun b ob e => keep b ob (fun q => by rw [q] at e; rw [hI.2.2] at e; cases e) (F'.keep b ob e), F'.above⟩
      exact done a h₁ tk dr (u x) (hsz ▸ hJ) (fr_pick F₁ hu) fun p hp => ⟨keep _ _ (off p hp) (Nn p hp).1, (Nn p hp).2⟩
    | some v =>
      have hlt : i < vs.length := (List.getElem?_eq_some_iff.mp hv).1
      refine wpAny_pyNext_list_item (s := { s with heap := h, toks := tk, drawn := dr }) hit hlist (by simpa using hv) fun h₁ hit₁ hs₁ => ?_
      obtain ⟨o₁, g₁, _, _⟩ := id hit₁
      have keep : ∀ b ob, b ≠ s.heap.objs.size → h.get? b = some ob → h₁.get? b = some ob := fun b ob hb e => hs₁.extBut b ob hb e
      have F₁ : Fr h₀ env.locals h₁ u := ⟨F'.ns.sameBut hs₁ (Ne.symm hI.2.1), fun b ob e => keep b ob (fun q => by rw [q] at e; rw [hI.2.2] at e; cases e) (F'.keep b ob e), F'.above⟩
      have N₁ : News h₀ env.locals h₁ ([(s.heap.objs.size, o₁)] ++ nw a) := fun p hp => by
        rcases List.mem_append.mp hp with hp | hp
        · rw [List.mem_singleton.mp hp]; exact ⟨g₁, hI.2.1, hI.2.2⟩
        · exact ⟨keep _ _ (off p hp) (Nn p hp).1, (Nn p hp).2⟩
      refine wpAny_assign_Name (wpAny_storeName_local hx (fr_pick F₁ hu).ns (fun h₂ hn₂ hs₂ => ?_) hp)
      have F₂ := fr_over ((fr_pick F₁ hu).set hn₂ hs₂)
      have N₂ := N₁.set hs₂
      refine wpAny_mono (wpAny_passesOwn hE (turn i v a _ o₁ h₂ (tk + 1) dr hv hJ nwlt F₂ N₂)) (fun f s₂ ht => ?_) fun _ _ e => e
      have fin : Turned h₀ env.locals x mp nw [(s.heap.objs.size, o₁)] (J (i + 1)) s s₂ → ∃ m, m < vs.length + 1 - i ∧ ∃ i' a' h' tk' dr' u' o', s₂ = { s with heap := h', toks := tk', drawn := dr' } ∧ i' ≤ vs.length ∧ m = vs.length + 1 - i' ∧ J i' a' ∧ h'.IsListIter s.heap.objs.size l i' ∧
          Fr h₀ env.locals h' u' ∧ (∀ z, z ≠ x → u' z = mp a' z) ∧ News h₀ env.locals h' ([(s.heap.objs.size, o')] ++ nw a') := by
        rintro ⟨a', h', tk', dr', u', rfl, F₃, hu₃, N₃, hJ₃⟩
        refine ⟨vs.length + 1 - (i + 1), by omega, i + 1, a', h', tk', dr', u', o₁, rfl, hlt, rfl, hJ₃, ?_, F₃, hu₃, N₃⟩
        obtain ⟨ob, e1, e2, e3⟩ := id hit₁
        rw [g₁] at e1
        cases e1
        exact ⟨_, (N₃ (s.heap.objs.size, o₁) (by simp)).1, e2, e3⟩
      cases f with
      | next => exact fin ht
      | cont => exact fin ht
      | brk => exact ht
      | ret v => exact ht
  · refine ⟨0, a₀, _, s.toks, s.drawn, mp a₀, ({ cls := .type "list_iterator", data := .fields #[.ref l, .int 0 0] } : Obj), rfl, Nat.zero_le _, rfl, hj, ⟨_, Heap.get?_push_size _ rfl, rfl, rfl⟩, F.push _, fun _ _ => rfl, ?_⟩
    intro p hp
    rcases List.mem_append.mp hp with hp | hp
    · rw [List.mem_singleton.mp hp]
      exact News.push F N _ rfl _ (.head _)
    · exact News.push F N _ rfl _ (.tail _ hp)

noncomputable def NotRev (o : Obj) : Prop := ∀ l i, o.data ≠ .fields #[.ref l, rawInt i]
theorem iter_rev {σ : Type} {l D : Addr} {vs : List Value} (mp : σ → Str → Option Value) (nw : σ → List (Addr × Obj)) (J : Nat → σ → Prop) (a₀ : σ)
    (hh : A.handled = none) (hx : env.kindOf x = some .local) (hp : (env.scope.kind == .class || (env.scope.kind == .module && env.locals != env.globals)) = false)
    (hE : PassesOwn (model prog w) A env E)
    (hoff : ∀ a, ∀ p ∈ nw a, p.1 ≠ D)
    (hl : Lies h₀ l vs nw) (F : Fr h₀ env.locals s.heap (mp a₀)) (N : News h₀ env.locals s.heap ((D, revObj l ((vs.length : Int) - 1)) :: nw a₀)) (hj : J 0 a₀)
    (turn : ∀ i v a o h tk dr, vs.reverse[i]? = some v → J i a → Fr h₀ env.locals h (fun z => if z = x then some v else mp a z) → News h₀ env.locals h ([(D, o)] ++ nw a) →
      wpAny (model prog w) A (execs body env) (TurnEnd h₀ env.locals x mp nw [(D, o)] (J (i + 1)) s Q) E { s with heap := h, toks := tk, drawn := dr })
    (done : ∀ a h tk dr u, J vs.length a → Fr h₀ env.locals h (fun z => if z = x then u else mp a z) → News h₀ env.locals h (nw a) → Q .next { s with heap := h, toks := tk, drawn := dr }) :
    wpAny (model prog w) A (pyIter (.ref D)) (fun it s₂ => codeAny (model prog w) A (.forLoop (.Name x px) it body [] env) (fun r s' => match r with | .ok f => Q f s' | .error e => cameBackBy (model prog w) A env E e s') s₂) E s := by
  have hD0 := N (D, revObj l ((vs.length : Int) - 1)) (.head _)
  refine wpAny_pyIter_revIter (l := l) (i := (vs.length : Int) - 1) ⟨_, hD0.1, rfl, rfl⟩ ?_
  refine codeAny_forLoop (fun n s' => ∃ i a h tk dr u o, s' = { s with heap := h, toks := tk, drawn := dr } ∧ i ≤ vs.length ∧ n = vs.length + 1 - i ∧ J i a ∧ h.IsRevIter D l ((vs.length : Int) - 1 - i) ∧
      Fr h₀ env.locals h u ∧ (∀ z, z ≠ x → u z = mp a z) ∧ News h₀ env.locals h ([(D, o)] ++ nw a)) ?_ (vs.length + 1) ?_
  · rintro n s' ⟨i, a, h, tk, dr, u, o, rfl, hi, rfl, hJ, hit, F', hu, N'⟩
    have Nn : News h₀ env.locals h (nw a) := fun p hp => N' p (List.mem_append_right _ hp)
    have hI := N' (D, o) (by simp)
    have hlist := hl.list F' Nn
    have off := hoff a
    by_cases hlt : i < vs.length
    · have e : (vs.length : Int) - 1 - (i : Int) = ((vs.length - 1 - i : Nat) : Int) := by omega
      rw [e] at hit
      have hx' : vs.toArray[vs.length - 1 - i]? = some (vs[vs.length - 1 - i]'(by omega)) := by simp
      refine wpAny_pyNext_rev_item (s := { s with heap := h, toks := tk, drawn := dr }) hit hlist hx' fun h₁ hit₁ hs₁ => ?_
      obtain ⟨o₁, g₁, _, _⟩ := id hit₁
      have keep : ∀ b ob, b ≠ D → h.get? b = some ob → h₁.get? b = some ob := fun b ob hb e => hs₁.extBut b ob hb e
      have F₁ : Fr h₀ env.locals h₁ u := ⟨F'.ns.sameBut hs₁ (Ne.symm hI.2.1), fun b ob e => keep b ob (fun q => by rw [q] at e; rw [hI.2.2] at e; cases e) (F'.keep b ob e), F'.above⟩
      have N₁ : News h₀ env.locals h₁ ([(D, o₁)] ++ nw a) := fun p hp => by
        rcases List.mem_append.mp hp with hp | hp
        · rw [List.mem_singleton.mp hp]; exact ⟨g₁, hI.2.1, hI.2.2⟩
        · exact ⟨keep _ _ (off p hp) (Nn p hp).1, (Nn p hp).2⟩
      have hv : vs.reverse[i]? = some (vs[vs.length - 1 - i]'(by omega)) := by
        rw [List.getElem?_reverse hlt]; simp
      refine wpAny_assign_Name (wpAny_storeName_local hx (fr_pick F₁ hu).ns (fun h₂ hn₂ hs₂ => ?_) hp)
      have F₂ := fr_over ((fr_pick F₁ hu).set hn₂ hs₂)
      have N₂ := N₁.set hs₂
      refine wpAny_mono (wpAny_passesOwn hE (turn i _ a o₁ h₂ (tk + 1) dr hv hJ F₂ N₂)) (fun f s₂ ht => ?_) fun _ _ e => e
      have fin : Turned h₀ env.locals x mp nw [(D, o₁)] (J (i + 1)) s s₂ → ∃ m, m < vs.length + 1 - i ∧ ∃ i' a' h' tk' dr' u' o', s₂ = { s with heap := h', toks := tk', drawn := dr' } ∧ i' ≤ vs.length ∧ m = vs.length + 1 - i' ∧ J i' a' ∧ h'.IsRevIter D l ((vs.length : Int) - 1 - i') ∧
          Fr h₀ env.locals h' u' ∧ (∀ z, z ≠ x → u' z = mp a' z) ∧ News h₀ env.locals h' ([(D, o')] ++ nw a') := by
        rintro ⟨a', h', tk', dr', u', rfl, F₃, hu₃, N₃, hJ₃⟩
        refine ⟨vs.length + 1 - (i + 1), by omega, i + 1, a', h', tk', dr', u', o₁, rfl, hlt, rfl, hJ₃, ?_, F₃, hu₃, N₃⟩
        obtain ⟨ob, e1, e2, e3⟩ := id hit₁
        rw [g₁] at e1
        cases e1
        have e4 : ((vs.length - 1 - i : Nat) : Int) - 1 = (vs.length : Int) - 1 - ((i + 1 : Nat) : Int) := by omega
        rw [e4] at e3
        exact ⟨_, (N₃ (D, o₁) (by simp)).1, e2, e3⟩
      cases f with
      | next => exact fin ht
      | cont => exact fin ht
      | brk => exact ht
      | ret v => exact ht
    · have hsz : i = vs.length := by omega
      have e : (vs.length : Int) - 1 - (i : Int) = -1 := by omega
      rw [e] at hit
      refine wpAny_pyNext_rev_end (s := { s with heap := h, toks := tk, drawn := dr }) hh hit fun h₁ he₁ => wpAny_execs_nil ?_
      have keep : ∀ b ob, b ≠ D → h.get? b = some ob → h₁.get? b = some ob := fun b ob hb e => he₁ b ob hb e
      have F₁ : Fr h₀ env.locals h₁ u := ⟨F'.ns.extBut he₁ (Ne.symm hI.2.1), fun b ob e => keep b ob (fun q => by rw [q] at e; rw [hI.2.2] at e; cases e) (F'.keep b ob e), F'.above⟩
      exact done a h₁ tk dr (u x) (hsz ▸ hJ) (fr_pick F₁ hu) fun p hp => ⟨keep _ _ (off p hp) (Nn p hp).1, (Nn p hp).2⟩
  · exact ⟨0, a₀, _, s.toks, s.drawn, mp a₀, revObj l ((vs.length : Int) - 1), rfl, Nat.zero_le _, rfl, hj, ⟨_, hD0.1, rfl, by simp [revObj]⟩, F, fun _ _ => rfl, N⟩

noncomputable def over : List (Str × Option Value) → (Str → Option Value) → Str → Option Value
  | [], m => m
  | (k, v) :: r, m => fun z => if z = k then v else over r m z
theorem over_same : ∀ {ks : List (Str × Option Value)} {m : Str → Option Value}, (∀ p ∈ ks, m p.1 = p.2) → over ks m = m
  | [], _, _ => rfl
  | (k, v) :: r, m, h => by
    funext z
    have ih := over_same (ks := r) (m := m) fun p hp => h p (.tail _ hp)
    show (if z = k then v else over r m z) = m z
    rw [ih]
    by_cases hz : z = k
    · rw [if_pos hz, hz]; exact (h (k, v) (.head _)).symm
    · rw [if_neg hz]
theorem iter_list_over {σ : Type} {l : Addr} {vs : List Value} {m₀ : Str → Option Value} (ks : σ → List (Str × Option Value)) (nw : σ → List (Addr × Obj)) (J : Nat → σ → Prop) (a₀ : σ)
    (hh : A.handled = none) (hx : env.kindOf x = some .local) (hp : (env.scope.kind == .class || (env.scope.kind == .module && env.locals != env.globals)) = false)
    (hE : PassesOwn (model prog w) A env E) (hoff : ∀ i a I, J i a → (∀ p ∈ nw a₀, p.1 < I) → ∀ p ∈ nw a, p.1 ≠ I ∨ NotIt p.2)
    (hl : Lies h₀ l vs nw) (F : Fr h₀ env.locals s.heap m₀) (h0 : ∀ p ∈ ks a₀, m₀ p.1 = p.2) (N : News h₀ env.locals s.heap (nw a₀)) (hj : J 0 a₀)
    (turn : ∀ i v a I o h tk dr, vs[i]? = some v → J i a → (∀ p ∈ nw a₀, p.1 < I) → Fr h₀ env.locals h (fun z => if z = x then some v else over (ks a) m₀ z) → News h₀ env.locals h ([(I, o)] ++ nw a) →
      wpAny (model prog w) A (execs body env) (TurnEnd h₀ env.locals x (fun a => over (ks a) m₀) nw [(I, o)] (J (i + 1)) s Q) E { s with heap := h, toks := tk, drawn := dr })
    (done : ∀ a h tk dr u, J vs.length a → Fr h₀ env.locals h (fun z => if z = x then u else over (ks a) m₀ z) → News h₀ env.locals h (nw a) → Q .next { s with heap := h, toks := tk, drawn := dr }) :
    wpAny (model prog w) A (pyIter (.ref l)) (fun it s₂ => codeAny (model prog w) A (.forLoop (.Name x px) it body [] env) (fun r s' => match r with | .ok f => Q f s' | .error e => cameBackBy (model prog w) A env E e s') s₂) E s :=
  iter_list (fun a => over (ks a) m₀) nw J a₀ hh hx hp hE hoff hl (by rw [over_same h0]; exact F) N hj turn done
theorem iter_rev_over {σ : Type} {l D : Addr} {vs : List Value} {m₀ : Str → Option Value} (ks : σ → List (Str × Option Value)) (nw : σ → List (Addr × Obj)) (J : Nat → σ → Prop) (a₀ : σ)
    (hh : A.handled = none) (hx : env.kindOf x = some .local) (hp : (env.scope.kind == .class || (env.scope.kind == .module && env.locals != env.globals)) = false)
    (hE : PassesOwn (model prog w) A env E) (hoff : ∀ a, ∀ p ∈ nw a, p.1 ≠ D)
    (hl : Lies h₀ l vs nw) (F : Fr h₀ env.locals s.heap m₀) (h0 : ∀ p ∈ ks a₀, m₀ p.1 = p.2) (N : News h₀ env.locals s.heap ((D, revObj l ((vs.length : Int) - 1)) :: nw a₀)) (hj : J 0 a₀)
    (turn : ∀ i v a o h tk dr, vs.reverse[i]? = some v → J i a → Fr h₀ env.locals h (fun z => if z = x then some v else over (ks a) m₀ z) → News h₀ env.locals h ([(D, o)] ++ nw a) →
      wpAny (model prog w) A (execs body env) (TurnEnd h₀ env.locals x (fun a => over (ks a) m₀) nw [(D, o)] (J (i + 1)) s Q) E { s with heap := h, toks := tk, drawn := dr })
    (done : ∀ a h tk dr u, J vs.length a → Fr h₀ env.locals h (fun z => if z = x then u else over (ks a) m₀ z) → News h₀ env.locals h (nw a) → Q .next { s with heap := h, toks := tk, drawn := dr }) :
    wpAny (model prog w) A (pyIter (.ref D)) (fun it s₂ => codeAny (model prog w) A (.forLoop (.Name x px) it body [] env) (fun r s' => match r with | .ok f => Q f s' | .error e => cameBackBy (model prog w) A env E e s') s₂) E s :=
  iter_rev (fun a => over (ks a) m₀) nw J a₀ hh hx hp hE hoff hl (by rw [over_same h0]; exact F) N hj turn done
theorem turnEnd_next {σ : Type} {h₀ h' : Heap} {L : Addr} {x : Str} {mp : σ → Str → Option Value} {nw : σ → List (Addr × Obj)} {own : List (Addr × Obj)} {J : σ → Prop} {s : Shared} {Q : Flow → Shared → Prop} {tk' : Nat} {dr : Drawn} {u : Str → Option Value} (a : σ)
    (F : Fr h₀ L h' u) (hu : ∀ z, z ≠ x → u z = mp a z) (N : News h₀ L h' (own ++ nw a)) (hj : J a) : TurnEnd h₀ L x mp nw own J s Q .next { s with heap := h', toks := tk', drawn := dr } :=
  ⟨a, h', tk', dr, u, rfl, F, hu, N, hj⟩
end
end
/-! Tab2 -/
section
open PySem.Calls
theorem TabAtt.tab {P line col : Nat} {qual : Str} {T : List (Addr × Obj)} (hT : TabAtt P line col qual T) : ∃ xs, (P, tabObj xs) ∈ T := by
  rcases hT with rfl | ⟨c, oc, vs, t, rfl, _⟩
  · exact ⟨_, .head _⟩
  · exact ⟨_, .tail _ (.head _)⟩
theorem off_list {h₀ h : Heap} {L : Addr} {n T : List (Addr × Obj)} {P line col : Nat} {qual : Str} {l : Addr} {its : Array Value} {e : Nat} (N : News h₀ L h n) (hT : TabAtt P line col qual T) (hs : ∀ p ∈ T, p ∈ n) (hl : (l, W.listOf its e) ∈ n) : l ≠ P := by
  intro q
  obtain ⟨xs, hP⟩ := hT.tab
  have h1 := (N _ (hs _ hP)).1
  have h2 := (N _ hl).1
  rw [q] at h2
  have h3 := Option.some.inj (h1.symm.trans h2)
  have h4 := congrArg Obj.cls h3
  cases h4
theorem off_front {h₀ h : Heap} {L : Addr} {a b : Addr} {i1 i2 : Array Value} {e1 e2 : Nat} {T U R : List (Addr × Obj)} {P line col : Nat} {qual : Str} (N : News h₀ L h ((a, W.listOf i1 e1) :: (b, W.listOf i2 e2) :: (T ++ (U ++ R)))) (hU : TabAtt P line col qual U) (hT : Off P T) (hR : Off P R) : Off P ((a, W.listOf i1 e1) :: (b, W.listOf i2 e2) :: (T ++ R)) := by
  have hs : ∀ p ∈ U, p ∈ ((a, W.listOf i1 e1) :: (b, W.listOf i2 e2) :: (T ++ (U ++ R))) := fun p hp => by simp [hp]
  exact Off.cons (off_list N hU hs (.head _)) (Off.cons (off_list N hU hs (.tail _ (.head _))) (Off.app hT hR))
theorem news_front {h₀ h : Heap} {L : Addr} {X Y : Addr × Obj} {T U R : List (Addr × Obj)} (N : News h₀ L h (X :: Y :: (T ++ (U ++ R)))) : News h₀ L h (U ++ (X :: Y :: (T ++ R))) := news_sub N fun p hp => by
  simp only [List.mem_append, List.mem_cons] at hp ⊢
  rcases hp with h | h | h | h | h <;> simp [h]
theorem news_tail {h₀ h : Heap} {L : Addr} {X : Addr × Obj} {R : List (Addr × Obj)} (N : News h₀ L h (X :: R)) : News h₀ L h R := fun p hp => N p (.tail _ hp)
theorem news_cut {h₀ h : Heap} {L : Addr} {Z X Y : Addr × Obj} {T U R : List (Addr × Obj)} (N : News h₀ L h (Z :: (U ++ (X :: Y :: (T ++ R))))) : News h₀ L h (Z :: (T ++ (U ++ R))) := news_sub N fun p hp => by
  simp only [List.mem_append, List.mem_cons] at hp ⊢
  rcases hp with h | h | h | h <;> simp [h]
theorem allLt_cut {d : Addr} {T U R : List (Addr × Obj)} {X Y : Addr × Obj} (h : AllLt d (U ++ (X :: Y :: (T ++ R)))) : ∀ p ∈ R, p.1 < d := fun p hp => allLt_mem h p (by simp [hp])
theorem two_back {x a b : Str} {v1 v2 v v3 v4 : Option Value} {m₀ : Str → Option Value} : ∀ z, z ≠ x → (if z = a then v1 else if z = b then v2 else if z = x then v else if z = a then v3 else if z = b then v4 else m₀ z) = if z = a then v1 else if z = b then v2 else m₀ z := by
  intro z hz
  by_cases h1 : z = a
  · simp [h1]
  · by_cases h2 : z = b
    · simp [h2]
    · simp [h1, h2, hz]
end
example : PySem.Challenge.rw_pg0267_01 = PySem.Challenge.rw_pg0267_01 ∧ hd.heap_1 = hd.heap_1 := by
  k_fill
  exact ⟨rfl, rfl⟩
local macro_rules | `(tactic| omega) => `(tactic| first
  | with_reducible assumption
  | exact Ne.symm (by with_reducible assumption)
  | decide
  | exact ne_b (b := 148) (by with_reducible assumption) (by decide)
  | exact ne_b' (b := 148) (by with_reducible assumption) (by decide)
  | exact Nat.ne_of_lt (by with_reducible assumption)
  | exact Nat.ne_of_gt (by with_reducible assumption)
  | exact rm1 (by with_reducible assumption) (by decide)
  | exact rm2 (by with_reducible assumption) (by decide)
  | exact rm3 (by with_reducible assumption) (by decide)
  | exact rm0 (by with_reducible assumption)
  | exact Nat.le_of_lt (by with_reducible assumption)
  | exact Int.le_of_lt (by with_reducible assumption)
  | exact ne_low (by with_reducible assumption)
  | exact ne_low' (by with_reducible assumption)
  | exact ne_low2 (by with_reducible assumption)
  | exact ne_low2' (by with_reducible assumption)
  | exact ne_low1 (by with_reducible assumption)
  | exact ne_low1' (by with_reducible assumption)
  | exact ne_s12
  | exact ne_s21
  | exact ne_s13
  | exact ne_s31
  | exact ne_s23
  | exact ne_s32
  | exact ne_s14
  | exact ne_s41
  | exact ne_s24
  | exact ne_s42
  | exact ne_s34
  | exact ne_s43
  | exact ne_k1 (by with_reducible assumption) (by decide)
  | exact ne_k2 (by with_reducible assumption) (by decide)
  | exact ne_k3 (by with_reducible assumption) (by decide)
  | exact ne_k4 (by with_reducible assumption) (by decide)
  | exact ne_k1' (by with_reducible assumption) (by decide)
  | exact ne_k2' (by with_reducible assumption) (by decide)
  | exact ne_k3' (by with_reducible assumption) (by decide)
  | exact ne_k4' (by with_reducible assumption) (by decide))
local macro_rules | `(tactic| k_room) => `(tactic| ktr_room)
local macro_rules | `(tactic| k_all) => `(tactic| first | with_reducible assumption | exact ne_of_allLt (by with_reducible assumption) | exact ne_c1 (by with_reducible assumption) | exact ne_c2 (by with_reducible assumption) | exact ne_c3 (by with_reducible assumption) | exact ne_c4 (by with_reducible assumption))
local macro_rules | `(tactic| k_lt $h) => `(tactic| (replace $h := allLt_of $h; (try simp only [AllLt, and_true] at $h:ident); repeat (have lt9 := And.left $h; replace $h := And.right $h)))
local macro_rules | `(tactic| k_enter) => `(tactic| first
  | (refine' code_def ?k1 ?k2 ?k3 ?k4 ?k5 ?kA ?kF ?kK ?k6 ?k7 ?k8 ?k9 ?kB ?_ ?c2 ?c3 ?c4 ?c5; (case kA => exact rfl); (case kF => exact rfl); (case kK => first | exact rfl | assumption); (case k1 => k_asm); (case k2 => k_asm); (case k3 => k_asm); (case k4 => k_asm); (case k5 => k_asm); (case k6 => k_is); (case k7 => k_is); (case k8 => k_room); (case k9 => first | exact BindsTo.of_eq rfl | exact binds_K (by k_in) rfl (by k_is) rfl rfl rfl | fail "k_enter: no rule for these arguments"); (case c5 => decide); (case kB => exact locs rfl); (case c2 => exact rfl); (case c3 => exact rfl); (case c4 => exact rfl); k_whole; intro g' L' h' FG' F' N' B' X' T'; (try dsimp only); (try k_lift B'); (try k_fold))
  | (refine' code_defC ?k1 ?k2 ?k3 ?k4 ?k5 ?kA ?kF ?kK ?k6 ?k7 ?k8 ?k9 ?kB ?kD ?_ ?c2 ?c3 ?c4; (case kA => exact rfl); (case kF => exact rfl); (case kK => first | exact rfl | assumption); (case k1 => k_asm); (case k2 => k_asm); (case k3 => k_asm); (case k4 => k_asm); (case k5 => k_asm); (case k6 => k_is); (case k7 => k_is); (case k8 => k_room); (case k9 => first | exact BindsTo.of_eq rfl | exact binds_K (by k_in) rfl (by k_is) rfl rfl rfl | fail "k_enter: no rule for these arguments"); (case kB => exact rfl); (case kD => decide +kernel); (case c2 => exact rfl); (case c3 => exact rfl); (case c4 => exact rfl); k_whole; intro g' L' h' tk' cells' FG' F' N' Y' B' X' T' l1; (try k_lt l1); k_cells Y'; (try simp only [List.cons_append, List.nil_append] at N'); (try dsimp only); (try k_lift B'); (try k_fold)))
/-! NestE -/
section

theorem updF_app {P : Addr} {o : Obj} {rest : List (Addr × Obj)} (hO : Off P rest) : ∀ {pre : List (Addr × Obj)}, (∀ p ∈ pre, p.1 ≠ P) → UpdF P o (pre ++ (P, o) :: rest) (fun o' => pre ++ (P, o') :: rest)
  | [], _ => .head hO
  | _ :: _, h => .tail (h _ (.head _)) (updF_app hO fun p hp => h p (.tail _ hp))
section
variable {M : Model} {A : Around} {E : Value → Shared → Prop} {s : Shared} {h₀ : Heap} {L a c P : Addr} {m mg mb : Str → Option Value} {cn : Str} {cs : Scope} {ccd : Value} {cl : List (Str × Addr)} {p : Program} {loose : List Str} {mean : ExcName → Option Value} {name qual : Str} {params : Arguments} {body : List Stmt} {scope : Scope} {pos : Pos} {firstLine : Nat} {clos : List (Str × Addr)}
/-- an inner def whose table is untouched or holds its code: the same walk for either -/
theorem nest_E {Q : Value → Shared → Prop} {pre T rest : List (Addr × Obj)} {line col : Nat} {q : Str} {B : Addr} (F : Fr h₀ L s.heap m) (hT : TabAtt P line col q T) (N : News h₀ L s.heap (pre ++ (T ++ rest))) (Tp : Top p loose mean mg mb h₀) (C : CodeHd h₀ c P) (hcd : ccd = .ref c)
    (hl : pos.line = line) (hc : pos.col = col) (hq : qual = q) (hcl : closureFor scope (envX cn cs L a ccd cl) = pure clos) (hO : Off P rest) (hB : ∀ p ∈ T ++ rest, p.1 < B) (hpre : ∀ p ∈ pre, B < p.1) (h80 : 80 < B)
    (hP : P < B) (hne : pre ≠ []) (h : ∀ f c' oc vs t ctv doc h' tk, Fr h₀ L h' m →
      News h₀ L h' ((f, fnMade name qual params body scope clos doc ((mg "__name__").getD .none) c' ctv) :: (c', oc) :: (pre ++ (P, tabObj #[rawInt line, rawInt col, .ref c']) :: rest)) →
      oc.data = .fields vs → vs[1]? = some (.str q t) → 80 < c' → (∀ p ∈ pre, p.1 ≠ c') → (∀ p ∈ pre ++ rest, p.1 < f) → c' < f → Q (.ref f) { s with heap := h', toks := tk }) :
    wpAny M A (makeFunction name qual params (.stmts body) scope (envX cn cs L a ccd cl) [] [] [] pos firstLine) Q E s := by
  subst hq
  rcases hT with rfl | ⟨c9, oc9, vs9, t9, rfl, hd, hv, h9⟩
  · have U : UpdF P (tabObj #[]) (pre ++ ([(P, tabObj #[])] ++ rest)) (fun o' => pre ++ (P, o') :: rest) := updF_app hO fun p hp => Nat.ne_of_gt (Nat.lt_trans hP (hpre p hp))
    refine nest_K F N Tp C hcd U True.intro rfl hcl fun f c' oc vs t ctv doc h' tk F' N' d v l1 l2 => ?_
    have hin : ∀ p ∈ pre ++ rest, p.1 < c' := fun p hp => l1 p (by
      rcases List.mem_append.mp hp with hp | hp
      · exact List.mem_append_left _ hp
      · exact List.mem_append_right _ (List.mem_append_right _ hp))
    have hBc : B ≤ c' := by
      cases pre with
      | nil => exact absurd rfl hne
      | cons x r => exact Nat.le_of_lt (Nat.lt_trans (hpre x (.head _)) (hin x (.head _)))
    subst hl hc
    exact h f c' oc vs t ctv doc h' tk F' N' d v (Nat.lt_of_lt_of_le h80 hBc) (fun p hp => Nat.ne_of_lt (hin p (List.mem_append_left _ hp))) (fun p hp => Nat.lt_trans (hin p hp) l2) l2
  · refine nestHit_K (ps := #[rawInt line, rawInt col, .ref c9]) (c' := c9) F N Tp C hcd (List.mem_append_right _ (List.mem_append_left _ (.tail _ (.head _)))) (by simp [TriplesOk, rawInt]) (by subst hl hc; simp [codeAmong, rawInt]) hcl fun f ctv doc h' tk F' N' l1 => ?_
    have l9 : c9 < f := l1 (c9, oc9) (List.mem_append_right _ (.head _))
    have lB : c9 < B := hB (c9, oc9) (.head _)
    refine h f c9 oc9 vs9 t9 ctv doc h' tk F' (news_sub N' fun p hp => ?_) hd hv h9 (fun p hp => Nat.ne_of_gt (Nat.lt_trans lB (hpre p hp))) (fun p hp => l1 p ?_) l9
    · simp only [List.mem_cons, List.mem_append] at hp ⊢
      rcases hp with hp | hp | hp | hp | hp <;> simp [hp]
    · simp only [List.mem_cons, List.mem_append] at hp ⊢
      rcases hp with hp | hp <;> simp [hp]
theorem pre_lt3 {B : Nat} {o1 o2 o3 : Obj} : ∀ p ∈ ([(B + 1 + 1 + 1, o1), (B + 1 + 1, o2), (B + 1, o3)] : List (Addr × Obj)), B < p.1 := by
  intro p hp
  simp only [List.mem_cons, List.not_mem_nil, or_false] at hp
  rcases hp with rfl | rfl | rfl <;> (show B < _; omega)
theorem pre_lt4 {B : Nat} {o1 o2 o3 o4 : Obj} : ∀ p ∈ ([(B + 1 + 1 + 1 + 1, o1), (B + 1 + 1 + 1, o2), (B + 1 + 1, o3), (B + 1, o4)] : List (Addr × Obj)), B < p.1 := by
  intro p hp
  simp only [List.mem_cons, List.not_mem_nil, or_false] at hp
  rcases hp with rfl | rfl | rfl | rfl <;> (show B < _; omega)
theorem nest_E3 {Q : Value → Shared → Prop} {T rest : List (Addr × Obj)} {line col : Nat} {q : Str} {B : Nat} {o1 o2 o3 : Obj} (F : Fr h₀ L s.heap m) (hT : TabAtt P line col q T) (N : News h₀ L s.heap ((B + 1 + 1 + 1, o1) :: (B + 1 + 1, o2) :: (B + 1, o3) :: (T ++ rest))) (Tp : Top p loose mean mg mb h₀) (C : CodeHd h₀ c P) (hcd : ccd = .ref c)
    (hl : pos.line = line) (hc : pos.col = col) (hq : qual = q) (hcl : closureFor scope (envX cn cs L a ccd cl) = pure clos) (hO : Off P rest) (hB : AllLt B (T ++ rest)) (h80 : 80 < B) (hP : P ≤ 80)
    (h : ∀ f c' oc vs t ctv doc h' tk, Fr h₀ L h' m →
      News h₀ L h' ((f, fnMade name qual params body scope clos doc ((mg "__name__").getD .none) c' ctv) :: (c', oc) :: (B + 1 + 1 + 1, o1) :: (B + 1 + 1, o2) :: (B + 1, o3) :: (P, tabObj #[rawInt line, rawInt col, .ref c']) :: rest) →
      oc.data = .fields vs → vs[1]? = some (.str q t) → @LT.lt Nat _ 80 c' → @Ne Nat (B + 1 + 1 + 1) c' → @Ne Nat (B + 1 + 1) c' → @Ne Nat (B + 1) c' → @LT.lt Nat _ (B + 1 + 1 + 1) f → @LT.lt Nat _ (B + 1 + 1) f → @LT.lt Nat _ (B + 1) f → AllLt f rest → @LT.lt Nat _ c' f → AllLt B rest → @LT.lt Nat _ P B → @LT.lt Nat _ P f → Q (.ref f) { s with heap := h', toks := tk }) :
    wpAny M A (makeFunction name qual params (.stmts body) scope (envX cn cs L a ccd cl) [] [] [] pos firstLine) Q E s :=
  nest_E (pre := [(B + 1 + 1 + 1, o1), (B + 1 + 1, o2), (B + 1, o3)]) (B := B) F hT N Tp C hcd hl hc hq hcl hO (allLt_mem hB) (pre_lt3) h80 (Nat.lt_of_le_of_lt hP h80) (List.cons_ne_nil _ _)
    fun f c' oc vs t ctv doc h' tk F' N' d v g n l l2 => h f c' oc vs t ctv doc h' tk F' N' d v g (n _ (.head _)) (n _ (.tail _ (.head _))) (n _ (.tail _ (.tail _ (.head _)))) (l _ (.head _)) (l _ (.tail _ (.head _))) (l _ (.tail _ (.tail _ (.head _)))) (allLt_of fun p hp => l p (List.mem_append_right _ hp)) l2 (allLt_of fun p hp => allLt_mem hB p (List.mem_append_right _ hp)) (Nat.lt_of_le_of_lt hP h80) (Nat.lt_trans (Nat.lt_of_le_of_lt hP h80) (Nat.lt_trans (show B < B + 1 + 1 + 1 by omega) (l _ (.head _))))
theorem nest_E4 {Q : Value → Shared → Prop} {T rest : List (Addr × Obj)} {line col : Nat} {q : Str} {B : Nat} {o1 o2 o3 o4 : Obj} (F : Fr h₀ L s.heap m) (hT : TabAtt P line col q T) (N : News h₀ L s.heap ((B + 1 + 1 + 1 + 1, o1) :: (B + 1 + 1 + 1, o2) :: (B + 1 + 1, o3) :: (B + 1, o4) :: (T ++ rest))) (Tp : Top p loose mean mg mb h₀) (C : CodeHd h₀ c P) (hcd : ccd = .ref c)
    (hl : pos.line = line) (hc : pos.col = col) (hq : qual = q) (hcl : closureFor scope (envX cn cs L a ccd cl) = pure clos) (hO : Off P rest) (hB : AllLt B (T ++ rest)) (h80 : 80 < B) (hP : P ≤ 80)
    (h : ∀ f c' oc vs t ctv doc h' tk, Fr h₀ L h' m →
      News h₀ L h' ((f, fnMade name qual params body scope clos doc ((mg "__name__").getD .none) c' ctv) :: (c', oc) :: (B + 1 + 1 + 1 + 1, o1) :: (B + 1 + 1 + 1, o2) :: (B + 1 + 1, o3) :: (B + 1, o4) :: (P, tabObj #[rawInt line, rawInt col, .ref c']) :: rest) →
      oc.data = .fields vs → vs[1]? = some (.str q t) → @LT.lt Nat _ 80 c' → @Ne Nat (B + 1 + 1 + 1 + 1) c' → @Ne Nat (B + 1 + 1 + 1) c' → @Ne Nat (B + 1 + 1) c' → @Ne Nat (B + 1) c' → @LT.lt Nat _ (B + 1 + 1 + 1 + 1) f → @LT.lt Nat _ (B + 1 + 1 + 1) f → @LT.lt Nat _ (B + 1 + 1) f → @LT.lt Nat _ (B + 1) f → AllLt f rest → @LT.lt Nat _ c' f → AllLt B rest → @LT.lt Nat _ P B → @LT.lt Nat _ P f → Q (.ref f) { s with heap := h', toks := tk }) :
    wpAny M A (makeFunction name qual params (.stmts body) scope (envX cn cs L a ccd cl) [] [] [] pos firstLine) Q E s :=
  nest_E (pre := [(B + 1 + 1 + 1 + 1, o1), (B + 1 + 1 + 1, o2), (B + 1 + 1, o3), (B + 1, o4)]) (B := B) F hT N Tp C hcd hl hc hq hcl hO (allLt_mem hB) (pre_lt4) h80 (Nat.lt_of_le_of_lt hP h80) (List.cons_ne_nil _ _)
    fun f c' oc vs t ctv doc h' tk F' N' d v g n l l2 => h f c' oc vs t ctv doc h' tk F' N' d v g (n _ (.head _)) (n _ (.tail _ (.head _))) (n _ (.tail _ (.tail _ (.head _)))) (n _ (.tail _ (.tail _ (.tail _ (.head _))))) (l _ (.head _)) (l _ (.tail _ (.head _))) (l _ (.tail _ (.tail _ (.head _)))) (l _ (.tail _ (.tail _ (.tail _ (.head _))))) (allLt_of fun p hp => l p (List.mem_append_right _ hp)) l2 (allLt_of fun p hp => allLt_mem hB p (List.mem_append_right _ hp)) (Nat.lt_of_le_of_lt hP h80) (Nat.lt_trans (Nat.lt_of_le_of_lt hP h80) (Nat.lt_trans (show B < B + 1 + 1 + 1 + 1 by omega) (l _ (.head _))))
theorem pre_lt3D {B D G : Nat} {oD oG o1 o2 o3 : Obj} (hD : B + 1 < D) (hG : B + 1 < G) : ∀ p ∈ ([(D, oD), (G, oG), (B + 1 + 1 + 1, o1), (B + 1 + 1, o2), (B + 1, o3)] : List (Addr × Obj)), B < p.1 := by
  intro p hp
  simp only [List.mem_cons, List.not_mem_nil, or_false] at hp
  rcases hp with rfl | rfl | rfl | rfl | rfl <;> (show B < _; omega)
theorem nest_E3D {Q : Value → Shared → Prop} {T rest : List (Addr × Obj)} {line col : Nat} {q : Str} {B D G : Nat} {oD oG o1 o2 o3 : Obj} (F : Fr h₀ L s.heap m) (hT : TabAtt P line col q T) (N : News h₀ L s.heap ((D, oD) :: (G, oG) :: (B + 1 + 1 + 1, o1) :: (B + 1 + 1, o2) :: (B + 1, o3) :: (T ++ rest))) (Tp : Top p loose mean mg mb h₀) (C : CodeHd h₀ c P) (hcd : ccd = .ref c)
    (hl : pos.line = line) (hc : pos.col = col) (hq : qual = q) (hcl : closureFor scope (envX cn cs L a ccd cl) = pure clos) (hO : Off P rest) (hB : AllLt B (T ++ rest)) (h80 : 80 < B) (hD : B + 1 < D) (hG : B + 1 < G) (hDl : AllLt D (T ++ rest)) (hP : P ≤ 80)
    (h : ∀ f c' oc vs t ctv doc h' tk, Fr h₀ L h' m →
      News h₀ L h' ((f, fnMade name qual params body scope clos doc ((mg "__name__").getD .none) c' ctv) :: (c', oc) :: (D, oD) :: (G, oG) :: (B + 1 + 1 + 1, o1) :: (B + 1 + 1, o2) :: (B + 1, o3) :: (P, tabObj #[rawInt line, rawInt col, .ref c']) :: rest) →
      oc.data = .fields vs → vs[1]? = some (.str q t) → @LT.lt Nat _ 80 c' → @Ne Nat (D) c' → @Ne Nat (G) c' → @Ne Nat (B + 1 + 1 + 1) c' → @Ne Nat (B + 1 + 1) c' → @Ne Nat (B + 1) c' → @LT.lt Nat _ (D) f → @LT.lt Nat _ (G) f → @LT.lt Nat _ (B + 1 + 1 + 1) f → @LT.lt Nat _ (B + 1 + 1) f → @LT.lt Nat _ (B + 1) f → AllLt f rest → @LT.lt Nat _ c' f → AllLt B rest → @LT.lt Nat _ P B → @LT.lt Nat _ P f → AllLt D rest → @LT.lt Nat _ P D → Q (.ref f) { s with heap := h', toks := tk }) :
    wpAny M A (makeFunction name qual params (.stmts body) scope (envX cn cs L a ccd cl) [] [] [] pos firstLine) Q E s :=
  nest_E (pre := [(D, oD), (G, oG), (B + 1 + 1 + 1, o1), (B + 1 + 1, o2), (B + 1, o3)]) (B := B) F hT N Tp C hcd hl hc hq hcl hO (allLt_mem hB) (pre_lt3D hD hG) h80 (Nat.lt_of_le_of_lt hP h80) (List.cons_ne_nil _ _)
    fun f c' oc vs t ctv doc h' tk F' N' d v g n l l2 => h f c' oc vs t ctv doc h' tk F' N' d v g (n _ (.head _)) (n _ (.tail _ (.head _))) (n _ (.tail _ (.tail _ (.head _)))) (n _ (.tail _ (.tail _ (.tail _ (.head _))))) (n _ (.tail _ (.tail _ (.tail _ (.tail _ (.head _)))))) (l _ (.head _)) (l _ (.tail _ (.head _))) (l _ (.tail _ (.tail _ (.head _)))) (l _ (.tail _ (.tail _ (.tail _ (.head _))))) (l _ (.tail _ (.tail _ (.tail _ (.tail _ (.head _)))))) (allLt_of fun p hp => l p (List.mem_append_right _ hp)) l2 (allLt_of fun p hp => allLt_mem hB p (List.mem_append_right _ hp)) (Nat.lt_of_le_of_lt hP h80) (Nat.lt_trans (Nat.lt_of_le_of_lt hP h80) (Nat.lt_trans (show B < B + 1 + 1 + 1 by omega) (l _ (.tail _ (.tail _ (.head _)))))) (allLt_of fun p hp => allLt_mem hDl p (List.mem_append_right _ hp)) (Nat.lt_trans (Nat.lt_of_le_of_lt hP h80) (Nat.lt_trans (Nat.lt_succ_self B) hD))
end
end
/-! C_strip -/
section

theorem fill0 : PySem.Challenge.rw_pg0267_01 = PySem.Challenge.rw_pg0267_01 ∧ hd.heap_1 = hd.heap_1 := by
  k_fill
  exact ⟨rfl, rfl⟩
local macro_rules | `(tactic| k_all) => `(tactic| with_reducible assumption)
theorem nl_is : Str.ofString "\n" = ⟨#[10]⟩ := by decide +kernel
theorem colon_is : Str.ofString ":" = ⟨#[58]⟩ := by decide +kernel
theorem dot_is : Str.ofString "." = ⟨#[46]⟩ := by decide +kernel
theorem fnd_lo (x : Str) (c hi : Nat) (hh : hi ≤ x.length) : -1 ≤ fnd x ⟨#[c]⟩ hi ∧ fnd x ⟨#[c]⟩ hi ≤ hi := by
  rcases fnd_spec x c hi hh with h | ⟨k, h1, h2, _⟩ <;> omega
theorem rfnd_lo (x : Str) (c hi : Nat) (hh : hi ≤ x.length) : -1 ≤ rfnd x ⟨#[c]⟩ hi ∧ rfnd x ⟨#[c]⟩ hi ≤ hi := by
  rcases rfnd_spec x c hi hh with h | ⟨k, h1, h2, _⟩ <;> omega
section
variable {prog : Program} {w : World} {A : Around} {E : Value → Shared → Prop} {s : Shared} {x y : Str} {t u v v2 : Tok} {i j : Int} {Q : Value → Shared → Prop}
theorem find2N (h : ∀ k : Int, -1 ≤ k → k ≤ x.length → k = fnd x ⟨#[10]⟩ x.length → Q (.int k s.toks) { s with toks := s.toks + 1 }) : wpAny (model prog w) A (call (.builtin "str.find") [.str x t, .str (Str.ofString "\n") u]) Q E s := by
  refine SC.find ?_
  rw [find_is, nl_is]
  have := fnd_lo x 10 x.length (Nat.le_refl _)
  exact h _ this.1 this.2 rfl
theorem find4C (h0 : 0 ≤ j) (h1 : j ≤ (x.length : Int)) (h : ∀ k : Int, -1 ≤ k → k ≤ j → k = fnd x ⟨#[58]⟩ j.toNat → Q (.int k s.toks) { s with toks := s.toks + 1 }) : wpAny (model prog w) A (call (.builtin "str.find") [.str x t, .str (Str.ofString ":") u, .int 0 v, .int j v2]) Q E s := by
  refine find4 h0 h1 ?_
  rw [colon_is]
  have := fnd_lo x 58 j.toNat (by omega)
  exact h _ this.1 (by omega) rfl
theorem rfind4D (h0 : 0 ≤ j) (h1 : j ≤ (x.length : Int)) (h : ∀ k : Int, -1 ≤ k → k ≤ j → k = rfnd x ⟨#[46]⟩ j.toNat → Q (.int k s.toks) { s with toks := s.toks + 1 }) : wpAny (model prog w) A (call (.builtin "str.rfind") [.str x t, .str (Str.ofString ".") u, .int 0 v, .int j v2]) Q E s := by
  refine rfind4 h0 h1 ?_
  rw [dot_is]
  have := rfnd_lo x 46 j.toNat (by omega)
  exact h _ this.1 (by omega) rfl
end
theorem strip_c {prog : Program} {p : Program} {loose : List Str} {mean : ExcName → Option Value} {mg mb : Str → Option Value} (w : World) : ∀ (a9 d9 t9 : List Nat) (xt : Tok) (rest : List (Addr × Obj)) (dp un : Nat) (gd : Option (List Code)) (cn : Str) (cs : Scope) (a : Addr) (ccd : Value) (cl : List (Str × Addr)) (outer : List Env) (A₀ : Around) (base h₀ : Heap) (L : Addr) (m : Str → Option Value) (s : Shared) (Q E : Value → Shared → Prop),
    Below A₀ base outer h₀ → Fr h₀ L s.heap m → (hd.heap_1 w.params).In h₀ → News h₀ L s.heap rest → Top p loose mean mg mb h₀ → cs.kind = .function →
    dp + 20 < recursionLimit → un + 200 < cLine → (tx (a9 ++ d9 ++ t9)).length ≤ 1000 → (a9 = [] ∨ ∃ b, a9 = b ++ [46]) → (∀ c ∈ a9, c ≠ 58 ∧ c ≠ 10) → (∀ c ∈ d9, c ≠ 58 ∧ c ≠ 10 ∧ c ≠ 46) → TailOk t9 →
    (∀ (t : Tok) (h' : Heap) (tk' : Nat), Fr h₀ L h' m → News h₀ L h' rest → Q (.str (tx d9) t) { s with heap := h', toks := tk' }) →
      wpAny (model prog w) (ktrTop dp un gd cn cs L a ccd cl outer) (call (.ref 28) [.str (tx (a9 ++ d9 ++ t9)) xt]) Q E s := by
  w_top off
  intro a9 d9 t9 xt rest dp un gd cn cs a ccd cl outer A₀ base h₀ L m s Q E B F X N T hk hd hu hx ha hA hD hT hret
  have key := @strip_eq a9 d9 t9 ha hA hD hT
  clear ha hA hD hT
  generalize hxx : tx (a9 ++ d9 ++ t9) = x at hx key
  refine wpAny_call ?_
  k_dflt cell_enter
  repeat' (first | (k_unfold; (try dsimp only)) | ((with_reducible show wpAny _ _ (call (Value.builtin "str.rfind") _ _) _ _ _); refine rfind4D (by omega) (by omega) ?_; intro k9 ka9 kb9 kc9) | ((with_reducible show wpAny _ _ (call (Value.builtin "str.find") _ _) _ _ _); first | (refine find2N ?_; intro k9 ka9 kb9 kc9) | (refine find4C (by omega) (by omega) ?_; intro k9 ka9 kb9 kc9)) | (k_end; kc_close) | walk1 | (dsimp only; (first | ((with_reducible show wpAny _ _ (call (Value.builtin "str.rfind") _ _) _ _ _); refine rfind4D (by omega) (by omega) ?_; intro k9 ka9 kb9 kc9) | ((with_reducible show wpAny _ _ (call (Value.builtin "str.find") _ _) _ _ _); first | (refine find2N ?_; intro k9 ka9 kb9 kc9) | (refine find4C (by omega) (by omega) ?_; intro k9 ka9 kb9 kc9)) | walk1)) | (leave1; (try dsimp only)) | fail "no step")
  all_goals (
    (with_reducible rename (_ = fnd _ _ _) => e2)
    (refine' cb_retS hret ?e1 ?e2 ?e3)
    (case e2 => k_asm)
    (case e3 => refine' cb_drop ?cbN ?cbS; (case cbN => assumption); (case cbS => exact fun _ h => List.mem_cons_of_mem _ h))
    (case e1 => first
      | exact key (by assumption) (by assumption) (by assumption) (.inl ⟨by assumption, rfl⟩) (by assumption) (.inl ⟨by assumption, rfl⟩)
      | exact key (by assumption) (by assumption) (by assumption) (.inl ⟨by assumption, rfl⟩) (by assumption) (.inr ⟨by assumption, rfl⟩)
      | exact key (by assumption) (by assumption) (by assumption) (.inr ⟨by assumption, rfl⟩) (by assumption) (.inl ⟨by assumption, rfl⟩)
      | exact key (by assumption) (by assumption) (by assumption) (.inr ⟨by assumption, rfl⟩) (by assumption) (.inr ⟨by assumption, rfl⟩)))
end
/-! C_written -/
section

/-- what _law_written gives -/
noncomputable def wr (x y : Int) : Str :=
  if y = 0 then Str.ofString (toString x)
  else if y = 1 then Str.ofString "0" ++ Str.ofString (toString x)
  else if y = 2 then Txt.slice (Str.ofString (toString x)) none (some 1) ++ Str.ofString "_" ++ Txt.slice (Str.ofString (toString x)) (some 1) none
  else Str.ofString (toString x) ++ Str.ofString " "
theorem wr0 {x y : Int} (h : y = 0) : Str.ofString (toString x) = wr x y := by unfold wr; rw [if_pos h]
theorem wr1 {x y : Int} (h : y = 1) : Str.ofString "0" ++ Str.ofString (toString x) = wr x y := by unfold wr; rw [if_neg (by omega), if_pos h]
theorem wr2 {x y : Int} (h : y = 2) : Txt.slice (Str.ofString (toString x)) none (some 1) ++ Str.ofString "_" ++ Txt.slice (Str.ofString (toString x)) (some 1) none = wr x y := by unfold wr; rw [if_neg (by omega), if_neg (by omega), if_pos h]
theorem wr3 {x y : Int} (h0 : y ≠ 0) (h1 : y ≠ 1) (h2 : y ≠ 2) : Str.ofString (toString x) ++ Str.ofString " " = wr x y := by unfold wr; rw [if_neg h0, if_neg h1, if_neg h2]
theorem written_c {prog : Program} {p : Program} {loose : List Str} {mean : ExcName → Option Value} {mg mb : Str → Option Value} (w : World) : ∀ (x y : Int) (xt yt : Tok) (rest : List (Addr × Obj)) (dp un : Nat) (gd : Option (List Code)) (cn : Str) (cs : Scope) (a : Addr) (ccd : Value) (cl : List (Str × Addr)) (outer : List Env) (A₀ : Around) (base h₀ : Heap) (L : Addr) (m : Str → Option Value) (s : Shared) (Q E : Value → Shared → Prop),
    Below A₀ base outer h₀ → Fr h₀ L s.heap m → (hd.heap_1 w.params).In h₀ → News h₀ L s.heap rest → Top p loose mean mg mb h₀ → cs.kind = .function →
    dp + 20 < recursionLimit → un + 200 < cLine → 0 ≤ x → x ≤ 1001 →
    (∀ (t : Tok) (h' : Heap) (tk' : Nat), Fr h₀ L h' m → News h₀ L h' rest → Q (.str (wr x y) t) { s with heap := h', toks := tk' }) →
      wpAny (model prog w) (ktrTop dp un gd cn cs L a ccd cl outer) (call (.ref 146) [.int x xt, .int y yt]) Q E s := by
  w_top off
  intro x y xt yt rest dp un gd cn cs a ccd cl outer A₀ base h₀ L m s Q E B F X N T hk hd hu hx hx2 hret
  refine wpAny_call ?_
  k_dflt k_enter
  k_steps
  all_goals (
    (refine' cb_retS hret ?e1 ?e2 ?e3)
    (case e2 => k_asm)
    (case e3 => k_asm)
    (case e1 => with_reducible first | exact wr0 rfl | exact wr1 rfl | exact wr2 rfl | exact wr0 (by assumption) | exact wr1 (by assumption) | exact wr2 (by assumption) | exact wr3 (by assumption) (by assumption) (by assumption)))
end
/-! C_cp -/
section

theorem cp_c {prog : Program} {p : Program} {loose : List Str} {mean : ExcName → Option Value} {mg mb : Str → Option Value} (w : World) : ∀ (x : Int) (xt bt mt : Tok) (rest : List (Addr × Obj)) (dp un : Nat) (gd : Option (List Code)) (cn : Str) (cs : Scope) (a : Addr) (ccd : Value) (cl : List (Str × Addr)) (outer : List Env) (A₀ : Around) (base h₀ : Heap) (L : Addr) (m : Str → Option Value) (s : Shared) (Q E : Value → Shared → Prop),
    Below A₀ base outer h₀ → Fr h₀ L s.heap m → (hd.heap_1 w.params).In h₀ → News h₀ L s.heap (rest) → Top p loose mean mg mb h₀ → cs.kind = .function → 80 < L →
    dp + 20 < recursionLimit → un + 200 < cLine → 0 ≤ x → x ≤ 2048 → 
    (∀ (d : Addr) (h' : Heap) (tk' : Nat) (dr : Drawn), Fr h₀ L h' m → News h₀ L h' rest → Q (.ref d) { s with heap := h', toks := tk', drawn := dr }) →
      wpAny (model prog w) (ktrTop dp un gd cn cs L a ccd cl outer) (call (.ref 36) [.int x xt, .int 5 bt, .int 2048 mt]) Q E s := by
  w_top off
  intro x xt bt mt rest dp un gd cn cs a ccd cl outer A₀ base h₀ L m s Q E B F X N T hk hL hd hu hx0 hx hret
  refine wpAny_call ?_
  k_dflt k_enter
  repeat' (first | (k_unfold; (try dsimp only)) | ((with_reducible show wpAny _ _ (call (Value.builtin "set.pop") _ _) _ _ _); k_here; k_dflt (refine' set_pop1 (by k_asm) (by k_asm) (by k_updF) (by k_asm) (by exact decide_eq_true rfl) ?_); intro t9 h9 dr9 so9 F9 N9 hs9; (try dsimp only at N9); (try k_fold)) | ((with_reducible show wpAny _ _ (getMethod (Value.ref _) (Str.ofString "pop") _) _ _ _); k_here; k_dflt (refine' set_getPop (knd := PySem.intKind _ _) (by k_asm) (by k_mem) (by k_asm) ?_)) | ((with_reducible show wpAny _ _ (truthy (Value.ref _)) _ _ _); k_here; k_dflt (refine' set_truthy (knd := PySem.intKind _ _) (by k_asm) (by k_mem) (by k_asm) (by decide) ?_); (try dsimp only)) | (k_end; kc_close) | walk1 | (dsimp only; (first | ((with_reducible show wpAny _ _ (call (Value.builtin "set.pop") _ _) _ _ _); k_here; k_dflt (refine' set_pop1 (by k_asm) (by k_asm) (by k_updF) (by k_asm) (by exact decide_eq_true rfl) ?_); intro t9 h9 dr9 so9 F9 N9 hs9; (try dsimp only at N9); (try k_fold)) | ((with_reducible show wpAny _ _ (getMethod (Value.ref _) (Str.ofString "pop") _) _ _ _); k_here; k_dflt (refine' set_getPop (knd := PySem.intKind _ _) (by k_asm) (by k_mem) (by k_asm) ?_)) | ((with_reducible show wpAny _ _ (truthy (Value.ref _)) _ _ _); k_here; k_dflt (refine' set_truthy (knd := PySem.intKind _ _) (by k_asm) (by k_mem) (by k_asm) (by decide) ?_); (try dsimp only)) | walk1)) | (leave1; (try dsimp only)) | fail "no step")
  all_goals (
    refine hret _ _ _ _ ?f9 ?n9
    (case f9 => k_asm)
    (case n9 => refine' cb_drop ?a9 ?b9; (case a9 => assumption); (case b9 => intro p9 hp9; repeat (first | exact hp9 | apply List.mem_cons_of_mem))))
end
/-! C_sti -/
section

theorem slice_all {x : Str} {j : Int} (hj : j = x.length) : Txt.slice x (some 0) (some j) = x := by
  have h := eq_of_beq (slice_closesL (x := x) (i := 0) (j := j) (by omega) (by omega) (by omega))
  rw [h, hj]
  have e : ((x.length : Int) - 0).toNat = x.cps.toList.length := by rw [Array.length_toList]; show ((x.cps.size : Int) - 0).toNat = _; omega
  show (⟨((x.cps.toList.drop 0).take ((x.length : Int) - 0).toNat).toArray⟩ : Str) = x
  rw [e, List.drop_zero, List.take_length]
theorem sti_c {prog : Program} {p : Program} {loose : List Str} {mean : ExcName → Option Value} {mg mb : Str → Option Value} (w : World) : ∀ (x : Str) (xt : Tok) (n : Int) (T38 : List (Addr × Obj)) (rest : List (Addr × Obj)) (dp un : Nat) (gd : Option (List Code)) (cn : Str) (cs : Scope) (a : Addr) (ccd : Value) (cl : List (Str × Addr)) (outer : List Env) (A₀ : Around) (base h₀ : Heap) (L : Addr) (m : Str → Option Value) (s : Shared) (Q E : Value → Shared → Prop),
    Below A₀ base outer h₀ → Fr h₀ L s.heap m → (hd.heap_1 w.params).In h₀ → News h₀ L s.heap (T38 ++ rest) → Top p loose mean mg mb h₀ → cs.kind = .function → 80 < L →
    dp + 30 < recursionLimit → un + 400 < cLine → CodeHd base 42 38 → TabAtt 38 62 4 (Str.ofString "_str_to_int_inner.<locals>.inner") T38 → Off 38 rest → PySem.intText? x = some n → x.length ≤ 100 → 
    (∀ (t : Tok) (h' : Heap) (tk' : Nat) (dr : Drawn) (T' : List (Addr × Obj)), Fr h₀ L h' m → TabAtt 38 62 4 (Str.ofString "_str_to_int_inner.<locals>.inner") T' → News h₀ L h' (T' ++ rest) → Q (.int n t) { s with heap := h', toks := tk', drawn := dr }) →
      wpAny (model prog w) (ktrTop dp un gd cn cs L a ccd cl outer) (call (.ref 43) [.str x xt]) Q E s := by
  w_top off
  intro x xt n T38 rest dp un gd cn cs a ccd cl outer A₀ base h₀ L m s Q E B F X N T hk hL hd hu hC hT hO hn hx hret
  refine wpAny_call ?_
  k_dflt k_enter
  (with_reducible rename Fr h₀ L _ _ => FG9); (with_reducible rename Fr _ _ _ _ => F9)
  have hL9 := lt_frames FG9 F9 hL
  repeat' (first | (k_unfold; (try dsimp only)) | ((with_reducible show wpAny _ _ (exec (Stmt.FunctionDef _ _ _ _ _ _ _ _ _ _) _) _ _ _); k_here; k_dflt (refine' nestDef_K (by exact rfl) (by exact rfl) (by exact rfl) ?_); k_dflt (refine' nest_E4 ?z0F ?z0hT ?z0N ?z0T ?z0C ?z0cd ?z0l ?z0c ?z0q ?z0cl ?z0O ?z0B ?z0e8 ?z0P ?_; (case z0F => k_asm); (case z0hT => with_reducible assumption); (case z0N => k_asm); (case z0T => k_asm); (case z0C => first | with_reducible assumption | exact CodeHd.keeps (by assumption) (Below.stays (by assumption))); (case z0cd => exact rfl); (case z0l => exact rfl); (case z0c => exact rfl); (case z0q => first | exact rfl | decide +kernel); (case z0cl => exact rfl); (case z0O => with_reducible assumption); (case z0B => with_reducible assumption); (case z0P => decide); (case z0e8 => with_reducible assumption)); intro f' c' oc' vs' t' ct' dc' h' tk' F' N' d1' d2' g8' n1' n2' n3' n4' m1' m2' m3' m4' l1' l2' l3' p1' p2'; (try dsimp only at N'); (try (simp only [AllLt, and_true] at l1')); (try (simp only [AllLt, and_true] at l3')); (try k_fold)) | ((with_reducible show wpAny _ _ (call (Value.type "int") [Value.str _ _]) _ _ _); k_here; (try rw [slice_all rfl]); refine' KIN.call_text (by with_reducible assumption) (by omega) ?_) | ((with_reducible show wpAny _ _ (call (Value.ref 36) _ _) _ _ _); k_here; k_dflt (refine' cp_c _ _ _ _ _ _ _ _ _ _ _ _ _ _ _ _ _ _ _ _ _ _ _ (by k_asm) (by k_asm) (by k_asm) (by k_asm) (by k_asm) (by first | exact rfl | assumption) (by first | with_reducible assumption | exact lt_frm (by k_asm) (by k_asm) (by with_reducible assumption) | exact lt_frm (by k_asm) (by k_asm) (lt_frm (by k_asm) (by k_asm) (by with_reducible assumption))) (by ktr_room) (by ktr_units) (by omega) (by omega) ?_; intro d9 h9 tk9 dr9 F9 N9; (try dsimp only); (try k_fold))) | (k_end; kc_close) | walk1 | (dsimp only; (first | ((with_reducible show wpAny _ _ (exec (Stmt.FunctionDef _ _ _ _ _ _ _ _ _ _) _) _ _ _); k_here; k_dflt (refine' nestDef_K (by exact rfl) (by exact rfl) (by exact rfl) ?_); k_dflt (refine' nest_E4 ?z0F ?z0hT ?z0N ?z0T ?z0C ?z0cd ?z0l ?z0c ?z0q ?z0cl ?z0O ?z0B ?z0e8 ?z0P ?_; (case z0F => k_asm); (case z0hT => with_reducible assumption); (case z0N => k_asm); (case z0T => k_asm); (case z0C => first | with_reducible assumption | exact CodeHd.keeps (by assumption) (Below.stays (by assumption))); (case z0cd => exact rfl); (case z0l => exact rfl); (case z0c => exact rfl); (case z0q => first | exact rfl | decide +kernel); (case z0cl => exact rfl); (case z0O => with_reducible assumption); (case z0B => with_reducible assumption); (case z0P => decide); (case z0e8 => with_reducible assumption)); intro f' c' oc' vs' t' ct' dc' h' tk' F' N' d1' d2' g8' n1' n2' n3' n4' m1' m2' m3' m4' l1' l2' l3' p1' p2'; (try dsimp only at N'); (try (simp only [AllLt, and_true] at l1')); (try (simp only [AllLt, and_true] at l3')); (try k_fold)) | ((with_reducible show wpAny _ _ (call (Value.type "int") [Value.str _ _]) _ _ _); k_here; (try rw [slice_all rfl]); refine' KIN.call_text (by with_reducible assumption) (by omega) ?_) | ((with_reducible show wpAny _ _ (call (Value.ref 36) _ _) _ _ _); k_here; k_dflt (refine' cp_c _ _ _ _ _ _ _ _ _ _ _ _ _ _ _ _ _ _ _ _ _ _ _ (by k_asm) (by k_asm) (by k_asm) (by k_asm) (by k_asm) (by first | exact rfl | assumption) (by first | with_reducible assumption | exact lt_frm (by k_asm) (by k_asm) (by with_reducible assumption) | exact lt_frm (by k_asm) (by k_asm) (lt_frm (by k_asm) (by k_asm) (by with_reducible assumption))) (by ktr_room) (by ktr_units) (by omega) (by omega) ?_; intro d9 h9 tk9 dr9 F9 N9; (try dsimp only); (try k_fold))) | walk1)) | (leave1; (try dsimp only)) | fail "no step")
  all_goals (
    refine hret _ _ _ _ _ ?f9 (.inr ⟨?c, ?oc, ?vs, ?t, rfl, ?d, ?v, ?lt⟩) ?n9
    (case f9 => k_asm)
    (case d => assumption)
    (case v => assumption)
    (case n9 => refine news_sub (by assumption) ?_; refine List.forall_mem_cons.mpr ⟨?m1, List.forall_mem_cons.mpr ⟨?m2, ?m3⟩⟩; (case m2 => k_mem); (case m1 => k_mem); (case m3 => intro p9 hp9; repeat (first | exact hp9 | apply List.mem_cons_of_mem)))
    (case lt => omega))
end
/-! C_ifs -/
section

theorem post_made2 {s : Shared} {c : Prop} [Decidable c] {y z : Str} {t : Tok} {Q : Value → Shared → Prop} (hz : ¬ c → z.length ≤ sizeLine)
    (h : ∀ t' k, s.toks ≤ k → Q (.str (if c then y else z) t') { s with toks := k }) : (if c then Made.val (.str y t) else Made.str z).post Q s := by
  by_cases hc : c
  · rw [if_pos hc]; have h' := h t s.toks (Nat.le_refl _); rw [if_pos hc] at h'; exact h'
  · rw [if_neg hc]; have h' := h s.toks (s.toks + 1) (Nat.le_succ _); rw [if_neg hc] at h'; exact ⟨hz hc, h'⟩
section
variable {prog : Program} {w : World} {A : Around} {E : Value → Shared → Prop} {s : Shared} {x : Str} {t u v : Tok} {Q : Value → Shared → Prop}
theorem rstripK (hsz : x.length ≤ 1000) (h : ∀ t' k, s.toks ≤ k → Q (.str (Txt.rstrip x) t') { s with toks := k }) : wpAny (model prog w) A (call (.builtin "str.rstrip") [.str x t]) Q E s :=
  call_gives PySem.F.slot_str_rstrip (typeIs_str _ _ _) PySem.F.entry_str_rstrip (PySem.F.args_str_rstrip_1 _) (gives_str_rstrip x t)
    (post_made2 (fun _ => fits_stripped _ _ _ (by rw [sizeLine_eq]; omega)) h)
theorem replaceU (hu : 1 ≤ u) (huv : v = u + 1) (hx : x.length ≤ 1000) (hq : ∀ t' k, Q (.str (Txt.replace x (Str.ofString "_") (Str.ofString "")) t') { s with toks := k }) :
    wpAny (model prog w) A (call (.builtin "str.replace") [.str x t, .str (Str.ofString "_") u, .str (Str.ofString "") v]) Q E s :=
  SC.replaceW (Nat.ne_of_gt hu) (by subst huv; exact Nat.succ_ne_zero _) (by subst huv; exact Nat.ne_of_lt (Nat.lt_succ_self _)) (by decide +kernel) (by omega) (by decide +kernel) hq
end
theorem ifs_c {prog : Program} {p : Program} {loose : List Str} {mean : ExcName → Option Value} {mg mb : Str → Option Value} (w : World) : ∀ (x : Str) (xt : Tok) (n : Int) (T38 : List (Addr × Obj)) (rest : List (Addr × Obj)) (dp un : Nat) (gd : Option (List Code)) (cn : Str) (cs : Scope) (a : Addr) (ccd : Value) (cl : List (Str × Addr)) (outer : List Env) (A₀ : Around) (base h₀ : Heap) (L : Addr) (m : Str → Option Value) (s : Shared) (Q E : Value → Shared → Prop),
    Below A₀ base outer h₀ → Fr h₀ L s.heap m → (hd.heap_1 w.params).In h₀ → News h₀ L s.heap (T38 ++ rest) → Top p loose mean mg mb h₀ → cs.kind = .function → 80 < L →
    dp + 40 < recursionLimit → un + 600 < cLine → CodeHd base 42 38 → TabAtt 38 62 4 (Str.ofString "_str_to_int_inner.<locals>.inner") T38 → Off 38 rest → PySem.intText? (Txt.replace (Txt.rstrip x) (Str.ofString "_") (Str.ofString "")) = some n → (Txt.replace (Txt.rstrip x) (Str.ofString "_") (Str.ofString "")).length ≤ 100 → x.length ≤ 100 → 
    (∀ (t : Tok) (h' : Heap) (tk' : Nat) (dr : Drawn) (T' : List (Addr × Obj)), Fr h₀ L h' m → TabAtt 38 62 4 (Str.ofString "_str_to_int_inner.<locals>.inner") T' → News h₀ L h' (T' ++ rest) → Q (.int n t) { s with heap := h', toks := tk', drawn := dr }) →
      wpAny (model prog w) (ktrTop dp un gd cn cs L a ccd cl outer) (call (.ref 50) [.str x xt]) Q E s := by
  w_top off
  intro x xt n T38 rest dp un gd cn cs a ccd cl outer A₀ base h₀ L m s Q E B F X N T hk hL hd hu hC hT hO hn hy hx hret
  refine wpAny_call ?_
  k_dflt k_enter
  repeat' (first | (k_unfold; (try dsimp only)) | ((with_reducible show wpAny _ _ (call (Value.ref 43) _ _) _ _ _); k_here; k_dflt (refine' sti_c _ _ _ _ _ _ _ _ _ _ _ _ _ _ _ _ _ _ _ _ _ _ _ (by k_asm) (by k_asm) (by k_asm) (by k_asm) (by k_asm) (by first | exact rfl | assumption) (by first | with_reducible assumption | exact lt_frm (by k_asm) (by k_asm) (by with_reducible assumption) | exact lt_frm (by k_asm) (by k_asm) (lt_frm (by k_asm) (by k_asm) (by with_reducible assumption))) (by ktr_room) (by ktr_units) (by first | with_reducible assumption | exact CodeHd.keeps (by assumption) (Below.stays (by assumption))) (by with_reducible assumption) (by with_reducible assumption) (by with_reducible assumption) (by assumption) ?_; intro t9 h9 tk9 dr9 T9 F9 hT9 N9; (try dsimp only); (try k_fold))) | ((with_reducible show wpAny _ _ (call (Value.builtin "str.replace") _ _) _ _ _); k_here; refine' replaceU (by k_dflt exact Nat.le_trans (Nat.le_add_left 1 _) (by assumption)) (by rfl) (by exact Nat.le_trans (PyProof.Rows.len_rstrip _) (by omega)) ?_; intro t9 k9) | ((with_reducible show wpAny _ _ (call (Value.builtin "str.rstrip") _ _) _ _ _); k_here; refine' rstripK (by omega) ?_; intro t9 k9 hk9) | ((with_reducible show wpAny _ _ (execs (_ :: _) _) _ _ _); (with_reducible refine wpAny_execs_cons ?_); try dsimp only) | (k_end; kc_close) | walk1 | (dsimp only; (first | ((with_reducible show wpAny _ _ (call (Value.ref 43) _ _) _ _ _); k_here; k_dflt (refine' sti_c _ _ _ _ _ _ _ _ _ _ _ _ _ _ _ _ _ _ _ _ _ _ _ (by k_asm) (by k_asm) (by k_asm) (by k_asm) (by k_asm) (by first | exact rfl | assumption) (by first | with_reducible assumption | exact lt_frm (by k_asm) (by k_asm) (by with_reducible assumption) | exact lt_frm (by k_asm) (by k_asm) (lt_frm (by k_asm) (by k_asm) (by with_reducible assumption))) (by ktr_room) (by ktr_units) (by first | with_reducible assumption | exact CodeHd.keeps (by assumption) (Below.stays (by assumption))) (by with_reducible assumption) (by with_reducible assumption) (by with_reducible assumption) (by assumption) ?_; intro t9 h9 tk9 dr9 T9 F9 hT9 N9; (try dsimp only); (try k_fold))) | ((with_reducible show wpAny _ _ (call (Value.builtin "str.replace") _ _) _ _ _); k_here; refine' replaceU (by k_dflt exact Nat.le_trans (Nat.le_add_left 1 _) (by assumption)) (by rfl) (by exact Nat.le_trans (PyProof.Rows.len_rstrip _) (by omega)) ?_; intro t9 k9) | ((with_reducible show wpAny _ _ (call (Value.builtin "str.rstrip") _ _) _ _ _); k_here; refine' rstripK (by omega) ?_; intro t9 k9 hk9) | ((with_reducible show wpAny _ _ (execs (_ :: _) _) _ _ _); (with_reducible refine wpAny_execs_cons ?_); try dsimp only) | walk1)) | (leave1; (try dsimp only)) | fail "no step")
  all_goals (
    refine hret _ _ _ _ ?T9 ?f9 ?t9 ?n9
    (case f9 => k_asm)
    (case n9 => assumption)
    (case t9 => with_reducible assumption))
end
/-! I2dS -/
section

noncomputable def I2d (prog : Program) (w : World) (p : Program) (loose : List Str) (mean : ExcName → Option Value) (mg mb : Str → Option Value) (f : Addr) (fo : Obj) (c : Addr) (oc : Obj) (ca ci cn al : Addr) (oa oi on : Obj) (n : Int) (nt : Tok) (cvs : Array Value) (ct : Tok) (d : Nat) : Prop :=
  ∀ (x lo hi' : Int) (xt lt ht : Tok) (vs : List Value) (ds : List Int) (ep : Nat) (rest : List (Addr × Obj)) (dp un : Nat) (gd : Option (List Code)) (cn' : Str) (cs : Scope) (a : Addr) (ccd : Value) (cl : List (Str × Addr)) (outer : List Env) (A₀ : Around) (base h₀ : Heap) (L : Addr) (m : Str → Option Value) (s : Shared) (Q E : Value → Shared → Prop),
    Below A₀ base outer h₀ → Fr h₀ L s.heap m → (hd.heap_1 w.params).In h₀ → News h₀ L s.heap ((al, listOf vs.toArray ep) :: rest) → Top p loose mean mg mb h₀ → cs.kind = .function → CodeHd base 70 66 → (f, fo) ∈ rest → (c, oc) ∈ rest → (ca, oa) ∈ rest → (ci, oi) ∈ rest → (cn, on) ∈ rest → Off al rest → oa.data = .cell (some (.ref al)) → oi.data = .cell (some (.ref f)) → on.data = .cell (some (.int n nt)) → oc.data = .fields cvs → cvs[1]? = some (.str (Str.ofString "_int2digits.<locals>.inner") ct) → IntsAre vs ds → 0 ≤ lo → 0 < d → hi' = lo + d → hi' ≤ ds.length → ds.length ≤ 400 → Bnd 3000 x → 0 < n → n ≤ 400 → dp + d + 5 < recursionLimit → un + 8 * d + 50 < cLine → (∀ h' tk' vs' ds' ep' new, Fr h₀ L h' m → News h₀ L h' ((al, listOf vs'.toArray ep') :: rest) → IntsAre vs' ds' → ds' = ds.take lo.toNat ++ new ++ ds.drop hi'.toNat → new.length = d → dsum (2 ^ n.toNat) new = x → (∀ y ∈ new, Bnd 3000 y) → Q .none { s with heap := h', toks := tk' }) →
    wpAny (model prog w) (ktrTop dp un gd cn' cs L a ccd cl outer) (call (.ref f) [.int x xt, .int lo lt, .int hi' ht]) Q E s
noncomputable def Less (P : Nat → Prop) (d : Nat) : Prop := ∀ d', d' < d → P d'
theorem less_all {P : Nat → Prop} (step : ∀ d, Less P d → P d) : ∀ d, P d := by
  have all : ∀ n, ∀ d, d < n → P d := by
    intro n
    induction n with
    | zero => intro d h; exact absurd h (Nat.not_lt_zero _)
    | succ n ih => exact fun d h => step d fun d' h' => ih d' (Nat.lt_of_lt_of_le h' (Nat.le_of_lt_succ h))
  exact fun d => all _ d (Nat.lt_succ_self _)
theorem i2d_use {prog : Program} {w : World} {p : Program} {loose : List Str} {mean : ExcName → Option Value} {mg mb : Str → Option Value} {f : Addr} {fo : Obj} {c : Addr} {oc : Obj} {ca ci cn al : Addr} {oa oi on : Obj} {n : Int} {nt : Tok} {cvs : Array Value} {ct : Tok} {d : Nat} {d₀ : Nat} {x lo hi' : Int} {xt lt ht : Tok} {vs : List Value} {ds : List Int} {ep : Nat} {rest : List (Addr × Obj)} {dp un : Nat} {gd : Option (List Code)} {cn' : Str} {cs : Scope} {a : Addr} {ccd : Value} {cl : List (Str × Addr)} {outer : List Env} {A₀ : Around} {base h₀ : Heap} {L : Addr} {m : Str → Option Value} {s : Shared} {Q E : Value → Shared → Prop} (IH : Less (I2d prog w p loose mean mg mb f fo c oc ca ci cn al oa oi on n nt cvs ct) d₀) (hlt : d < d₀) (B : Below A₀ base outer h₀) (F : Fr h₀ L s.heap m) (X : (hd.heap_1 w.params).In h₀) (N : News h₀ L s.heap ((al, listOf vs.toArray ep) :: rest)) (T : Top p loose mean mg mb h₀) (hk : cs.kind = .function) (hC : CodeHd base 70 66) (mf : (f, fo) ∈ rest) (mc : (c, oc) ∈ rest) (ma : (ca, oa) ∈ rest) (mi : (ci, oi) ∈ rest) (mn : (cn, on) ∈ rest) (hO : Off al rest) (da : oa.data = .cell (some (.ref al))) (di : oi.data = .cell (some (.ref f))) (dn : on.data = .cell (some (.int n nt))) (hcd : oc.data = .fields cvs) (hcv : cvs[1]? = some (.str (Str.ofString "_int2digits.<locals>.inner") ct)) (hi : IntsAre vs ds) (hlo : 0 ≤ lo) (hd0 : 0 < d) (hhi : hi' = lo + d) (hle : hi' ≤ ds.length) (hds : ds.length ≤ 400) (hx : Bnd 3000 x) (hn0 : 0 < n) (hn4 : n ≤ 400) (hdp : dp + d + 5 < recursionLimit) (hun : un + 8 * d + 50 < cLine) (hret : ∀ h' tk' vs' ds' ep' new, Fr h₀ L h' m → News h₀ L h' ((al, listOf vs'.toArray ep') :: rest) → IntsAre vs' ds' → ds' = ds.take lo.toNat ++ new ++ ds.drop hi'.toNat → new.length = d → dsum (2 ^ n.toNat) new = x → (∀ y ∈ new, Bnd 3000 y) → Q .none { s with heap := h', toks := tk' }) :
    wpAny (model prog w) (ktrTop dp un gd cn' cs L a ccd cl outer) (call (.ref f) [.int x xt, .int lo lt, .int hi' ht]) Q E s := IH d hlt _ _ _ _ _ _ _ _ _ _ _ _ _ _ _ _ _ _ _ _ _ _ _ _ _ _ _ B F X N T hk hC mf mc ma mi mn hO da di dn hcd hcv hi hlo hd0 hhi hle hds hx hn0 hn4 hdp hun hret

theorem take_set {ds : List Int} {i : Nat} {x : Int} (h : i < ds.length) : ds.set i x = ds.take i ++ [x] ++ ds.drop (i + 1) := by
  rw [List.set_eq_take_append_cons_drop, if_pos h]; simp
/-- the joining of the two halves -/
theorem i2d_join {n x : Int} {ds ds1 ds2 new1 new2 : List Int} {lo mid hi sh : Int} (hn : 0 < n) (h0 : 0 ≤ lo) (h1 : lo < mid) (h2 : mid < hi) (hle : hi ≤ ds.length)
    (e1 : ds1 = ds.take lo.toNat ++ new1 ++ ds.drop mid.toNat) (l1 : (new1.length : Int) = mid - lo) (e2 : ds2 = ds1.take mid.toNat ++ new2 ++ ds1.drop hi.toNat)
    (hsh : sh = (mid - lo) * n) (v1 : dsum (2 ^ n.toNat) new1 = x.fmod (2 ^ sh.toNat)) (v2 : dsum (2 ^ n.toNat) new2 = x.fdiv (2 ^ sh.toNat)) :
    ds2 = ds.take lo.toNat ++ (new1 ++ new2) ++ ds.drop hi.toNat ∧ dsum (2 ^ n.toNat) (new1 ++ new2) = x := by
  have hl1 : (ds.take lo.toNat ++ new1).length = mid.toNat := by
    rw [List.length_append, List.length_take]; omega
  constructor
  · rw [e2, e1, List.take_left' hl1, List.drop_append, hl1]
    have : (ds.take lo.toNat ++ new1).drop hi.toNat = [] := List.drop_eq_nil_of_le (by omega)
    rw [this, List.nil_append, List.drop_drop]
    have : mid.toNat + (hi.toNat - mid.toNat) = hi.toNat := by omega
    rw [this]
    simp
  · rw [dsum_append, v1, v2]
    have hpow : ((2 : Int) ^ n.toNat) ^ new1.length = 2 ^ sh.toNat := by
      rw [← Int.pow_mul]
      congr 1
      have : (((n.toNat * new1.length : Nat)) : Int) = sh := by
        rw [Int.natCast_mul, l1, Int.toNat_of_nonneg (by omega), hsh, Int.mul_comm]
      omega
    rw [hpow]
    have := PySem.W.kbt_whole x sh.toNat
    rw [Int.mul_comm] at this
    omega


theorem mem_rest {al b : Addr} {o ob : Obj} {pre post : List (Addr × Obj)} (h : (b, ob) ∈ pre ++ (al, o) :: post) (hne : b ≠ al) : (b, ob) ∈ pre ++ post := by
  rcases List.mem_append.mp h with h | h
  · exact List.mem_append_left _ h
  · rcases List.mem_cons.mp h with h | h
    · exact absurd (congrArg Prod.fst h) hne
    · exact List.mem_append_right _ h
theorem i2d_start {prog : Program} {w : World} {p : Program} {loose : List Str} {mean : ExcName → Option Value} {mg mb : Str → Option Value} {f : Addr} {fo : Obj} {c : Addr} {oc : Obj} {ca ci cn al : Addr} {oa oi on : Obj} {n : Int} {nt : Tok} {cvs : Array Value} {ct : Tok} {d : Nat} {x lo hi' : Int} {xt lt ht : Tok} {vs : List Value} {ds : List Int} {ep : Nat} {news : List (Addr × Obj)} {g : Obj → List (Addr × Obj)} {dp un : Nat} {gd : Option (List Code)} {cn' : Str} {cs : Scope} {a : Addr} {ccd : Value} {cl : List (Str × Addr)} {outer : List Env} {A₀ : Around} {base h₀ : Heap} {L : Addr} {m : Str → Option Value} {s : Shared} {Q E : Value → Shared → Prop} (B : Below A₀ base outer h₀) (F : Fr h₀ L s.heap m) (X : (hd.heap_1 w.params).In h₀) (N : News h₀ L s.heap news) (T : Top p loose mean mg mb h₀) (hk : cs.kind = .function) (hC : CodeHd base 70 66) (mal : (al, listOf vs.toArray ep) ∈ news) (U : UpdF al (listOf vs.toArray ep) news g) (mf : (f, fo) ∈ news) (mc : (c, oc) ∈ news) (ma : (ca, oa) ∈ news) (mi : (ci, oi) ∈ news) (mn : (cn, on) ∈ news) (hne : f ≠ al ∧ c ≠ al ∧ ca ≠ al ∧ ci ≠ al ∧ cn ≠ al) (da : oa.data = .cell (some (.ref al))) (di : oi.data = .cell (some (.ref f))) (dn : on.data = .cell (some (.int n nt))) (hcd : oc.data = .fields cvs) (hcv : cvs[1]? = some (.str (Str.ofString "_int2digits.<locals>.inner") ct)) (hi : IntsAre vs ds) (hlo : 0 ≤ lo) (hd0 : 0 < d) (hhi : hi' = lo + d) (hle : hi' ≤ ds.length) (hds : ds.length ≤ 400) (hx : Bnd 3000 x) (hn0 : 0 < n) (hn4 : n ≤ 400) (hdp : dp + d + 5 < recursionLimit) (hun : un + 8 * d + 50 < cLine) (step : ∀ d, Less (I2d prog w p loose mean mg mb f fo c oc ca ci cn al oa oi on n nt cvs ct) d → I2d prog w p loose mean mg mb f fo c oc ca ci cn al oa oi on n nt cvs ct d) (hret : ∀ h' tk' vs' ds' ep' new, Fr h₀ L h' m → News h₀ L h' (g (listOf vs'.toArray ep')) → IntsAre vs' ds' → ds' = ds.take lo.toNat ++ new ++ ds.drop hi'.toNat → new.length = d → dsum (2 ^ n.toNat) new = x → (∀ y ∈ new, Bnd 3000 y) → Q .none { s with heap := h', toks := tk' }) :
    wpAny (model prog w) (ktrTop dp un gd cn' cs L a ccd cl outer) (call (.ref f) [.int x xt, .int lo lt, .int hi' ht]) Q E s := by
  obtain ⟨pre, post, rfl, hg, h1, h2⟩ := U.split
  refine less_all step d _ _ _ _ _ _ _ _ ep (pre ++ post) _ _ _ _ _ _ _ _ _ _ _ _ _ _ _ _ _ B F X ?_ T hk hC (mem_rest mf hne.1) (mem_rest mc hne.2.1) (mem_rest ma hne.2.2.1) (mem_rest mi hne.2.2.2.1) (mem_rest mn hne.2.2.2.2) ?_ da di dn hcd hcv hi hlo hd0 hhi hle hds hx hn0 hn4 hdp hun ?_
  · intro p hp
    rcases List.mem_cons.mp hp with rfl | hp
    · exact N _ (by simp)
    · exact N p (by rcases List.mem_append.mp hp with hp | hp <;> simp [hp])
  · intro p hp
    rcases List.mem_append.mp hp with hp | hp
    · exact h1 p hp
    · exact h2 p hp
  · intro h' tk' vs' ds' ep' new F' N' a1 a2 a3 a4 a5
    refine hret h' tk' vs' ds' ep' new F' (fun p hp => ?_) a1 a2 a3 a4 a5
    rw [hg] at hp
    rcases List.mem_append.mp hp with hp | hp
    · exact N' p (by simp [hp])
    · rcases List.mem_cons.mp hp with rfl | hp
      · exact N' _ (by simp)
      · exact N' p (by simp [hp])
theorem i2d_use2 {prog : Program} {w : World} {p : Program} {loose : List Str} {mean : ExcName → Option Value} {mg mb : Str → Option Value} {f : Addr} {fo : Obj} {c : Addr} {oc : Obj} {ca ci cn al : Addr} {oa oi on : Obj} {n : Int} {nt : Tok} {cvs : Array Value} {ct : Tok} {d : Nat} {d₀ : Nat} {x lo hi' : Int} {xt lt ht : Tok} {vs : List Value} {ds : List Int} {ep : Nat} {rest : List (Addr × Obj)} {dp un : Nat} {gd : Option (List Code)} {cn' : Str} {cs : Scope} {a : Addr} {ccd : Value} {cl : List (Str × Addr)} {outer : List Env} {A₀ : Around} {base h₀ : Heap} {L : Addr} {m : Str → Option Value} {s : Shared} {Q E : Value → Shared → Prop} (IH : Less (I2d prog w p loose mean mg mb f fo c oc ca ci cn al oa oi on n nt cvs ct) d₀) (B : Below A₀ base outer h₀) (F : Fr h₀ L s.heap m) (X : (hd.heap_1 w.params).In h₀) (N : News h₀ L s.heap ((al, listOf vs.toArray ep) :: rest)) (T : Top p loose mean mg mb h₀) (hk : cs.kind = .function) (hC : CodeHd base 70 66) (mf : (f, fo) ∈ rest) (mc : (c, oc) ∈ rest) (ma : (ca, oa) ∈ rest) (mi : (ci, oi) ∈ rest) (mn : (cn, on) ∈ rest) (hO : Off al rest) (da : oa.data = .cell (some (.ref al))) (di : oi.data = .cell (some (.ref f))) (dn : on.data = .cell (some (.int n nt))) (hcd : oc.data = .fields cvs) (hcv : cvs[1]? = some (.str (Str.ofString "_int2digits.<locals>.inner") ct)) (hi : IntsAre vs ds) (hhi : hi' = lo + d) (hlo : 0 ≤ lo) (hd0 : 0 < d) (hle : hi' ≤ ds.length) (hds : ds.length ≤ 400) (hx : Bnd 3000 x) (hn0 : 0 < n) (hn4 : n ≤ 400) (hdp : dp + d + 5 < recursionLimit) (hun : un + 8 * d + 50 < cLine) (hlt : d < d₀) (hret : ∀ h' tk' vs' ds' ep' new, Fr h₀ L h' m → News h₀ L h' ((al, listOf vs'.toArray ep') :: rest) → IntsAre vs' ds' → ds' = ds.take lo.toNat ++ new ++ ds.drop hi'.toNat → new.length = d → dsum (2 ^ n.toNat) new = x → (∀ y ∈ new, Bnd 3000 y) → Q .none { s with heap := h', toks := tk' }) :
    wpAny (model prog w) (ktrTop dp un gd cn' cs L a ccd cl outer) (call (.ref f) [.int x xt, .int lo lt, .int hi' ht]) Q E s := i2d_use IH hlt B F X N T hk hC mf mc ma mi mn hO da di dn hcd hcv hi hlo hd0 hhi hle hds hx hn0 hn4 hdp hun hret
theorem i2d_start2 {prog : Program} {w : World} {p : Program} {loose : List Str} {mean : ExcName → Option Value} {mg mb : Str → Option Value} {f : Addr} {fo : Obj} {c : Addr} {oc : Obj} {ca ci cn al : Addr} {oa oi on : Obj} {n : Int} {nt : Tok} {cvs : Array Value} {ct : Tok} {d : Nat} {x lo hi' : Int} {xt lt ht : Tok} {vs : List Value} {ds : List Int} {ep : Nat} {news : List (Addr × Obj)} {g : Obj → List (Addr × Obj)} {dp un : Nat} {gd : Option (List Code)} {cn' : Str} {cs : Scope} {a : Addr} {ccd : Value} {cl : List (Str × Addr)} {outer : List Env} {A₀ : Around} {base h₀ : Heap} {L : Addr} {m : Str → Option Value} {s : Shared} {Q E : Value → Shared → Prop} (B : Below A₀ base outer h₀) (F : Fr h₀ L s.heap m) (X : (hd.heap_1 w.params).In h₀) (N : News h₀ L s.heap news) (T : Top p loose mean mg mb h₀) (hk : cs.kind = .function) (hC : CodeHd base 70 66) (hi : IntsAre vs ds) (mal : (al, listOf vs.toArray ep) ∈ news) (U : UpdF al (listOf vs.toArray ep) news g) (mf : (f, fo) ∈ news) (di : oi.data = .cell (some (.ref f))) (da : oa.data = .cell (some (.ref al))) (dn : on.data = .cell (some (.int n nt))) (hcd : oc.data = .fields cvs) (hcv : cvs[1]? = some (.str (Str.ofString "_int2digits.<locals>.inner") ct)) (mc : (c, oc) ∈ news) (ma : (ca, oa) ∈ news) (mi : (ci, oi) ∈ news) (mn : (cn, on) ∈ news) (hne : f ≠ al ∧ c ≠ al ∧ ca ≠ al ∧ ci ≠ al ∧ cn ≠ al) (hhi : hi' = lo + d) (hlo : 0 ≤ lo) (hd0 : 0 < d) (hle : hi' ≤ ds.length) (hds : ds.length ≤ 400) (hx : Bnd 3000 x) (hn0 : 0 < n) (hn4 : n ≤ 400) (hdp : dp + d + 5 < recursionLimit) (hun : un + 8 * d + 50 < cLine) (step : ∀ d, Less (I2d prog w p loose mean mg mb f fo c oc ca ci cn al oa oi on n nt cvs ct) d → I2d prog w p loose mean mg mb f fo c oc ca ci cn al oa oi on n nt cvs ct d) (hret : ∀ h' tk' vs' ds' ep' new, Fr h₀ L h' m → News h₀ L h' (g (listOf vs'.toArray ep')) → IntsAre vs' ds' → ds' = ds.take lo.toNat ++ new ++ ds.drop hi'.toNat → new.length = d → dsum (2 ^ n.toNat) new = x → (∀ y ∈ new, Bnd 3000 y) → Q .none { s with heap := h', toks := tk' }) :
    wpAny (model prog w) (ktrTop dp un gd cn' cs L a ccd cl outer) (call (.ref f) [.int x xt, .int lo lt, .int hi' ht]) Q E s := i2d_start B F X N T hk hC mal U mf mc ma mi mn hne da di dn hcd hcv hi hlo hd0 hhi hle hds hx hn0 hn4 hdp hun step hret
end
/-! C_i2d -/
section

open Builtin.Int (intBits)
theorem ends_new {k : Nat} {ds new : List Int} (h : ds = List.take (Int.toNat 0) (List.replicate k 0) ++ new ++ List.drop ((k : Nat) : Int).toNat (List.replicate k 0)) : ds = new := by
  rw [h]
  have e1 : (Int.toNat 0) = 0 := rfl
  have e2 : ((k : Nat) : Int).toNat = k := by omega
  rw [e1, e2, List.take_zero, List.nil_append, List.drop_eq_nil_of_le (by simp), List.append_nil]
theorem dsum_zeros (B : Int) (k : Nat) : dsum B (List.replicate k 0) = 0 := by
  induction k with
  | zero => rfl
  | succ k ih => rw [List.replicate_succ]; simp only [dsum, ih]; omega
theorem bnd_zero : Bnd 3000 0 := ⟨by decide, by decide⟩
theorem bnd_zeros (k : Nat) : ∀ y ∈ List.replicate k (0 : Int), Bnd 3000 y := fun y hy => by rw [(List.mem_replicate.mp hy).2]; exact bnd_zero
theorem bnd_app {a b : List Int} (h1 : ∀ y ∈ a, Bnd 3000 y) (h2 : ∀ y ∈ b, Bnd 3000 y) : ∀ y ∈ a ++ b, Bnd 3000 y := fun y hy => (List.mem_append.mp hy).elim (h1 y) (h2 y)
theorem zfill (k : Nat) : ((k : Nat) : Int) = 0 + (k : Nat) := by omega
theorem toNat_fill {a b : Int} (h : a ≤ b) : b = a + ((b - a).toNat : Nat) := by omega

theorem xor_by2 {prog : Program} {w : World} {A : Around} {E : Value → Shared → Prop} {s : Shared} {a b q : Int} {t u : Tok} {m k : Nat} {Q : Value → Shared → Prop} (hq0 : q = a.fdiv (2 ^ k)) (hb : b = q * 2 ^ k) (hx : Bnd m a) (hq : ∀ c : Int, c = a.fmod (2 ^ k) → Bnd m c → Q (.int c s.toks) { s with toks := s.toks + 1 }) : wpAny (model prog w) A (binaryOp .BitXor (.int a t) (.int b u)) Q E s :=
  xor_by hx k (by rw [hb, hq0]) hq
local macro_rules | `(tactic| k_mem) => `(tactic| first | (refine List.mem_cons_of_mem _ ?_; with_reducible assumption) | with_reducible assumption)
local macro_rules | `(tactic| kn_enter) => `(tactic| (refine' code_nest ?k1 ?k2 ?k3 ?k4 ?k5 ?kA ?kF ?kK ?k6 ?k7 ?k8 ?k9 ?kB ?_ ?c2 ?c3 ?c4 ?c5; (case kA => exact rfl); (case kF => exact rfl); (case kK => first | exact rfl | assumption); (case k1 => k_asm); (case k2 => k_asm); (case k3 => k_asm); (case k4 => k_asm); (case k5 => k_asm); (case k6 => k_mem); (case k7 => exact codeRec_news (by k_asm) (by k_mem) (by assumption) (by assumption)); (case k8 => k_room); (case k9 => exact BindsTo.of_eq rfl); (case c5 => decide); (case kB => exact locs rfl); (case c2 => exact rfl); (case c3 => exact rfl); (case c4 => exact rfl); k_whole; intro g' L' h' FG' F' N' B' X' T'; (try dsimp only); (try k_lift B'); (try k_fold)))

section
variable {prog : Program} {w : World} {A : Around} {E : Value → Shared → Prop} {s : Shared} {h₀ : Heap} {L : Addr} {m : Str → Option Value} {news : List (Addr × Obj)} {l : Addr} {k : Nat} {v : Value} {x : Int} {u : Tok} {Q : Value → Shared → Prop}
theorem zeros {t : Tok} (Fm : Fr h₀ L s.heap m) (N : News h₀ L s.heap news) (hl : (l, listOf #[.int 0 t] k) ∈ news) (hlo : 0 ≤ x) (hhi : x ≤ 400)
    (h : ∀ D h' (ws : List Value), Fr h₀ L h' m → News h₀ L h' ((D, listOf ws.toArray 0) :: news) → (∀ p ∈ news, p.1 < D) → IntsAre ws (List.replicate x.toNat 0) → Q (.ref D) { s with heap := h' }) : wpAny (model prog w) A (binaryOp .Mult (.ref l) (.int x u)) Q E s := by
  refine KM.mul Fm N (vs := [.int 0 t]) (ns := [0]) (PySem.IsL.isList (n := k) (N _ hl).1) (.cons 0 t .nil) (by omega) (by omega) (by simp; omega) fun D h' F' N' hlt hi' _ _ _ _ _ => ?_
  refine h D h' _ F' N' hlt ?_
  have e : ∀ n : Nat, (List.replicate n ([0] : List Int)).flatten = List.replicate n 0 := by
    intro n; induction n with
    | zero => rfl
    | succ n ih => rw [List.replicate_succ, List.flatten_cons, ih, List.replicate_succ]; rfl
  rw [e] at hi'
  exact hi'
end
theorem i2d_c {prog : Program} {p : Program} {loose : List Str} {mean : ExcName → Option Value} {mg mb : Str → Option Value} (w : World) : ∀ (x n : Int) (xt nt : Tok) (T66 : List (Addr × Obj)) (rest : List (Addr × Obj)) (dp un : Nat) (gd : Option (List Code)) (cn : Str) (cs : Scope) (a : Addr) (ccd : Value) (cl : List (Str × Addr)) (outer : List Env) (A₀ : Around) (base h₀ : Heap) (L : Addr) (m : Str → Option Value) (s : Shared) (Q E : Value → Shared → Prop),
    Below A₀ base outer h₀ → Fr h₀ L s.heap m → (hd.heap_1 w.params).In h₀ → News h₀ L s.heap (T66 ++ rest) → Top p loose mean mg mb h₀ → cs.kind = .function → 80 < L →
    dp + 450 < recursionLimit → un + 4000 < cLine → CodeHd base 70 66 → TabAtt 66 102 4 (Str.ofString "_int2digits.<locals>.inner") T66 → Off 66 rest → Bnd 390 x → 0 < n → n ≤ 400 → 
    (∀ (l : Addr) (h' : Heap) (tk' : Nat) (T' : List (Addr × Obj)) (vs' : List Value) (ds' : List Int) (ep' : Nat), Fr h₀ L h' m → TabAtt 66 102 4 (Str.ofString "_int2digits.<locals>.inner") T' → News h₀ L h' ((l, listOf vs'.toArray ep') :: (T' ++ rest)) → IntsAre vs' ds' → dsum (2 ^ n.toNat) ds' = x → (∀ y ∈ ds', Bnd 3000 y) → ds'.length ≤ 390 → Q (.ref l) { s with heap := h', toks := tk' }) →
      wpAny (model prog w) (ktrTop dp un gd cn cs L a ccd cl outer) (call (.ref 71) [.int x xt, .int n nt]) Q E s := by
  w_top off
  intro x n xt nt T66 rest dp un gd cn cs a ccd cl outer A₀ base h₀ L m s Q E B F X N T hk hL hd hu hC hT hO hx hn hn2 hret
  have hx0 := hx.1
  obtain ⟨hD0, hD1, hD2⟩ := digits_count hx hn
  obtain ⟨D, hD⟩ : ∃ D, ((intBits x : Int) + n - 1).fdiv n = D := ⟨_, rfl⟩
  rw [hD] at hD0 hD1 hD2
  refine wpAny_call ?_
  k_dflt k_enter
  (with_reducible rename Fr h₀ L _ _ => FG9); (with_reducible rename Fr _ _ _ _ => F9)
  have hL9 := lt_frames FG9 F9 hL
  repeat' (first | (k_unfold; (try dsimp only)) | ((with_reducible show wpAny _ _ (exec (Stmt.FunctionDef _ _ _ _ _ _ _ _ _ _) _) _ _ _); k_here; k_dflt (refine' nestDef_K (by exact rfl) (by exact rfl) (by exact rfl) ?_); k_dflt (refine' nest_E3D (by k_asm) (by with_reducible assumption) (by k_asm) (by k_asm) (by first | with_reducible assumption | exact CodeHd.keeps (by assumption) (Below.stays (by assumption))) (by exact rfl) (by exact rfl) (by exact rfl) (by first | exact rfl | decide +kernel) (by exact rfl) (by with_reducible assumption) (by with_reducible assumption) (by with_reducible assumption) (by with_reducible assumption) (by with_reducible assumption) (by with_reducible assumption) (by decide) ?_); intro f' c' oc' vs' t' ct' dc' h' tk' F' N' d1' d2' g8' n0' n4' n1' n2' n3' m0' m4' m1' m2' m3' l1' l2' l3' p1' p2' l4' p3'; (try dsimp only at N'); (try (simp only [AllLt, and_true] at l1')); (try (simp only [AllLt, and_true] at l3')); (try (simp only [AllLt, and_true] at l4')); (try k_fold)) | ((with_reducible show wpAny _ _ (call (Value.builtin _) [Value.ref _]) _ _ _); k_here; k_dflt (refine' len_ints_fit (by ((exact PySem.IsL.isList (News.get (by k_asm) (by k_mem))))) (by (with_reducible assumption)) (by (simp only [List.length_replicate]; omega)) ?_); (try simp only [List.length_replicate])) | ((with_reducible show wpAny _ _ (binaryOp .Mult (Value.ref _) (Value.int _ _)) _ _ _); (with_reducible rename (Int.fdiv _ _ = _) => e9); rw [e9]; k_dflt (refine' zeros (by k_asm) (by k_asm) (by k_mem) (by omega) (by omega) ?_; intro D9 h9 vs9 F9 N9 l9 hi9; (try k_lt l9))) | ((with_reducible show wpAny _ _ (call (Value.ref _) [Value.int _ _, Value.int _ _, Value.int _ _] _) _ _ _); k_here; k_dflt (first | (refine' i2d_use2 (by with_reducible assumption) (by (k_asm)) (by (k_asm)) (by (k_asm)) (by (k_asm)) (by (k_asm)) (by (first | exact rfl | assumption)) (by (first | with_reducible assumption | exact CodeHd.keeps (by assumption) (Below.stays (by assumption)))) (by (k_mem)) (by (k_mem)) (by (k_mem)) (by (k_mem)) (by (k_mem)) (by (with_reducible assumption)) (by (with_reducible assumption)) (by (with_reducible assumption)) (by (with_reducible assumption)) (by (with_reducible assumption)) (by (with_reducible assumption)) (by (with_reducible assumption)) (by (exact toNat_fill (Int.le_of_lt (by with_reducible assumption)))) (by first | with_reducible assumption | exact q_le0 (by with_reducible assumption) (by with_reducible assumption) | omega) (by first | exact q_pos (by with_reducible assumption) | omega) (by first | with_reducible assumption | exact q_tr (by with_reducible assumption) (by with_reducible assumption) | exact q_l2 (by with_reducible assumption) (by with_reducible assumption) | ((first | omega | (simp only [List.length_append, List.length_take, List.length_drop] at *; omega)))) (by first | with_reducible assumption | exact q_l3 (by with_reducible assumption) (by with_reducible assumption) | ((first | omega | (simp only [List.length_append, List.length_take, List.length_drop] at *; omega)))) (by (with_reducible assumption)) (by (omega)) (by (omega)) (by first | exact q_dp1 (by with_reducible assumption) (by with_reducible assumption) (by with_reducible assumption) (by with_reducible assumption) | exact q_dp2 (by with_reducible assumption) (by with_reducible assumption) (by with_reducible assumption) (by with_reducible assumption) | ktr_room) (by first | exact q_un1 (by with_reducible assumption) (by with_reducible assumption) (by with_reducible assumption) (by with_reducible assumption) | exact q_un2 (by with_reducible assumption) (by with_reducible assumption) (by with_reducible assumption) (by with_reducible assumption) | ktr_units) (by first | exact q_lt1 (by with_reducible assumption) (by with_reducible assumption) (by with_reducible assumption) | exact q_lt2 (by with_reducible assumption) (by with_reducible assumption) (by with_reducible assumption) | omega) ?_; intro h9 tk9 vs9 ds9 ep9 new9 F9 N9 hI9 hE9 hL9 hS9 hB9; (have hLn9 := q_len hE9 hL9 (by first | with_reducible assumption | exact q_le0 (by with_reducible assumption) (by with_reducible assumption) | omega) (toNat_fill (Int.le_of_lt (by with_reducible assumption))) (by first | with_reducible assumption | exact q_tr (by with_reducible assumption) (by with_reducible assumption) | exact q_l2 (by with_reducible assumption) (by with_reducible assumption) | omega)); (try dsimp only); (try k_fold)) | (refine' i2d_start2 (by k_asm) (by k_asm) (by k_asm) (by k_asm) (by k_asm) (by first | exact rfl | assumption) (by first | with_reducible assumption | exact CodeHd.keeps (by assumption) (Below.stays (by assumption))) (by assumption) (by k_mem) (by k_updF) (by k_mem) (by assumption) (by assumption) (by assumption) (by assumption) (by assumption) (by k_mem) (by k_mem) (by k_mem) (by k_mem) (by refine ⟨?_, ?_, ?_, ?_, ?_⟩ <;> k_ne) (by exact zfill _) (by decide) (by omega) (by simp only [List.length_replicate]; omega) (by simp only [List.length_replicate]; omega) (by exact Bnd.mono (by assumption) (by decide)) (by omega) (by omega) (by ktr_room) (by ktr_units) (by (intro d9 IH9; unfold I2d; intro x lo hi' xt lt ht vs ds ep rest dp un gd cn' cs a ccd cl outer A₀ base h₀ L m s Q E B F X N T hk hC mf mc ma mi mn hO da di dn hcd hcv hi hlo hd0 hhi hle hds hx hn0 hn4 hdp hun hret; refine wpAny_call ?_; k_dflt kn_enter; (repeat' (first | (k_unfold; (try dsimp only)) | ((with_reducible show wpAny _ _ (exec (Stmt.FunctionDef _ _ _ _ _ _ _ _ _ _) _) _ _ _); k_here; k_dflt (refine' nestDef_K (by exact rfl) (by exact rfl) (by exact rfl) ?_); k_dflt (refine' nest_E3D (by k_asm) (by with_reducible assumption) (by k_asm) (by k_asm) (by first | with_reducible assumption | exact CodeHd.keeps (by assumption) (Below.stays (by assumption))) (by exact rfl) (by exact rfl) (by exact rfl) (by first | exact rfl | decide +kernel) (by exact rfl) (by with_reducible assumption) (by with_reducible assumption) (by with_reducible assumption) (by with_reducible assumption) (by with_reducible assumption) (by with_reducible assumption) (by decide) ?_); intro f' c' oc' vs' t' ct' dc' h' tk' F' N' d1' d2' g8' n0' n4' n1' n2' n3' m0' m4' m1' m2' m3' l1' l2' l3' p1' p2' l4' p3'; (try dsimp only at N'); (try (simp only [AllLt, and_true] at l1')); (try (simp only [AllLt, and_true] at l3')); (try (simp only [AllLt, and_true] at l4')); (try k_fold)) | ((with_reducible show wpAny _ _ (call (Value.builtin _) [Value.ref _]) _ _ _); k_here; k_dflt (refine' len_ints_fit (by ((exact PySem.IsL.isList (News.get (by k_asm) (by k_mem))))) (by (with_reducible assumption)) (by (simp only [List.length_replicate]; omega)) ?_); (try simp only [List.length_replicate])) | ((with_reducible show wpAny _ _ (binaryOp .Mult (Value.ref _) (Value.int _ _)) _ _ _); (with_reducible rename (Int.fdiv _ _ = _) => e9); rw [e9]; k_dflt (refine' zeros (by k_asm) (by k_asm) (by k_mem) (by omega) (by omega) ?_; intro D9 h9 vs9 F9 N9 l9 hi9; (try k_lt l9))) | ((with_reducible show wpAny _ _ (call (Value.ref _) [Value.int _ _, Value.int _ _, Value.int _ _] _) _ _ _); k_here; k_dflt (first | (refine' i2d_use2 (by with_reducible assumption) (by (k_asm)) (by (k_asm)) (by (k_asm)) (by (k_asm)) (by (k_asm)) (by (first | exact rfl | assumption)) (by (first | with_reducible assumption | exact CodeHd.keeps (by assumption) (Below.stays (by assumption)))) (by (k_mem)) (by (k_mem)) (by (k_mem)) (by (k_mem)) (by (k_mem)) (by (with_reducible assumption)) (by (with_reducible assumption)) (by (with_reducible assumption)) (by (with_reducible assumption)) (by (with_reducible assumption)) (by (with_reducible assumption)) (by (with_reducible assumption)) (by (exact toNat_fill (Int.le_of_lt (by with_reducible assumption)))) (by first | with_reducible assumption | exact q_le0 (by with_reducible assumption) (by with_reducible assumption) | omega) (by first | exact q_pos (by with_reducible assumption) | omega) (by first | with_reducible assumption | exact q_tr (by with_reducible assumption) (by with_reducible assumption) | exact q_l2 (by with_reducible assumption) (by with_reducible assumption) | ((first | omega | (simp only [List.length_append, List.length_take, List.length_drop] at *; omega)))) (by first | with_reducible assumption | exact q_l3 (by with_reducible assumption) (by with_reducible assumption) | ((first | omega | (simp only [List.length_append, List.length_take, List.length_drop] at *; omega)))) (by (with_reducible assumption)) (by (omega)) (by (omega)) (by first | exact q_dp1 (by with_reducible assumption) (by with_reducible assumption) (by with_reducible assumption) (by with_reducible assumption) | exact q_dp2 (by with_reducible assumption) (by with_reducible assumption) (by with_reducible assumption) (by with_reducible assumption) | ktr_room) (by first | exact q_un1 (by with_reducible assumption) (by with_reducible assumption) (by with_reducible assumption) (by with_reducible assumption) | exact q_un2 (by with_reducible assumption) (by with_reducible assumption) (by with_reducible assumption) (by with_reducible assumption) | ktr_units) (by first | exact q_lt1 (by with_reducible assumption) (by with_reducible assumption) (by with_reducible assumption) | exact q_lt2 (by with_reducible assumption) (by with_reducible assumption) (by with_reducible assumption) | omega) ?_; intro h9 tk9 vs9 ds9 ep9 new9 F9 N9 hI9 hE9 hL9 hS9 hB9; (have hLn9 := q_len hE9 hL9 (by first | with_reducible assumption | exact q_le0 (by with_reducible assumption) (by with_reducible assumption) | omega) (toNat_fill (Int.le_of_lt (by with_reducible assumption))) (by first | with_reducible assumption | exact q_tr (by with_reducible assumption) (by with_reducible assumption) | exact q_l2 (by with_reducible assumption) (by with_reducible assumption) | omega)); (try dsimp only); (try k_fold)))) | ((with_reducible show wpAny _ _ (binaryOp .BitXor (Value.int _ _) (Value.int _ _)) _ _ _); refine' xor_by2 (by with_reducible assumption) (by with_reducible assumption) (by with_reducible assumption) ?_; intro xo9 hx19 hx29) | ((with_reducible show wpAny _ _ (binaryOp .Mult (Value.int _ _) (Value.int _ _)) _ _ _); refine' mul_small (by omega) (by omega) (by omega) (by omega) ?_; intro pr9 hp19 hp29 hp39) | ((with_reducible show wpAny _ _ (binaryOp .LShift (Value.int _ _) (Value.int _ _)) _ _ _); refine' shl_by (by with_reducible assumption) (by omega) (by omega) (by omega) ?_; intro sl9 hl19 hl29) | ((with_reducible show wpAny _ _ (binaryOp .RShift (Value.int _ _) (Value.int _ _)) _ _ _); first | ((with_reducible show wpAny _ _ (binaryOp .RShift (Value.int _ _) (Value.int 1 _)) _ _ _); refine' shr_mid (by omega) (by omega) ?_; intro mid9 hm19 hm29) | (refine' shr_by (by with_reducible assumption) (by omega) ?_; intro up9 hu19 hu29)) | (k_end; kc_close) | walk1 | (dsimp only; (first | ((with_reducible show wpAny _ _ (exec (Stmt.FunctionDef _ _ _ _ _ _ _ _ _ _) _) _ _ _); k_here; k_dflt (refine' nestDef_K (by exact rfl) (by exact rfl) (by exact rfl) ?_); k_dflt (refine' nest_E3D (by k_asm) (by with_reducible assumption) (by k_asm) (by k_asm) (by first | with_reducible assumption | exact CodeHd.keeps (by assumption) (Below.stays (by assumption))) (by exact rfl) (by exact rfl) (by exact rfl) (by first | exact rfl | decide +kernel) (by exact rfl) (by with_reducible assumption) (by with_reducible assumption) (by with_reducible assumption) (by with_reducible assumption) (by with_reducible assumption) (by with_reducible assumption) (by decide) ?_); intro f' c' oc' vs' t' ct' dc' h' tk' F' N' d1' d2' g8' n0' n4' n1' n2' n3' m0' m4' m1' m2' m3' l1' l2' l3' p1' p2' l4' p3'; (try dsimp only at N'); (try (simp only [AllLt, and_true] at l1')); (try (simp only [AllLt, and_true] at l3')); (try (simp only [AllLt, and_true] at l4')); (try k_fold)) | ((with_reducible show wpAny _ _ (call (Value.builtin _) [Value.ref _]) _ _ _); k_here; k_dflt (refine' len_ints_fit (by ((exact PySem.IsL.isList (News.get (by k_asm) (by k_mem))))) (by (with_reducible assumption)) (by (simp only [List.length_replicate]; omega)) ?_); (try simp only [List.length_replicate])) | ((with_reducible show wpAny _ _ (binaryOp .Mult (Value.ref _) (Value.int _ _)) _ _ _); (with_reducible rename (Int.fdiv _ _ = _) => e9); rw [e9]; k_dflt (refine' zeros (by k_asm) (by k_asm) (by k_mem) (by omega) (by omega) ?_; intro D9 h9 vs9 F9 N9 l9 hi9; (try k_lt l9))) | ((with_reducible show wpAny _ _ (call (Value.ref _) [Value.int _ _, Value.int _ _, Value.int _ _] _) _ _ _); k_here; k_dflt (first | (refine' i2d_use2 (by with_reducible assumption) (by (k_asm)) (by (k_asm)) (by (k_asm)) (by (k_asm)) (by (k_asm)) (by (first | exact rfl | assumption)) (by (first | with_reducible assumption | exact CodeHd.keeps (by assumption) (Below.stays (by assumption)))) (by (k_mem)) (by (k_mem)) (by (k_mem)) (by (k_mem)) (by (k_mem)) (by (with_reducible assumption)) (by (with_reducible assumption)) (by (with_reducible assumption)) (by (with_reducible assumption)) (by (with_reducible assumption)) (by (with_reducible assumption)) (by (with_reducible assumption)) (by (exact toNat_fill (Int.le_of_lt (by with_reducible assumption)))) (by first | with_reducible assumption | exact q_le0 (by with_reducible assumption) (by with_reducible assumption) | omega) (by first | exact q_pos (by with_reducible assumption) | omega) (by first | with_reducible assumption | exact q_tr (by with_reducible assumption) (by with_reducible assumption) | exact q_l2 (by with_reducible assumption) (by with_reducible assumption) | ((first | omega | (simp only [List.length_append, List.length_take, List.length_drop] at *; omega)))) (by first | with_reducible assumption | exact q_l3 (by with_reducible assumption) (by with_reducible assumption) | ((first | omega | (simp only [List.length_append, List.length_take, List.length_drop] at *; omega)))) (by (with_reducible assumption)) (by (omega)) (by (omega)) (by first | exact q_dp1 (by with_reducible assumption) (by with_reducible assumption) (by with_reducible assumption) (by with_reducible assumption) | exact q_dp2 (by with_reducible assumption) (by with_reducible assumption) (by with_reducible assumption) (by with_reducible assumption) | ktr_room) (by first | exact q_un1 (by with_reducible assumption) (by with_reducible assumption) (by with_reducible assumption) (by with_reducible assumption) | exact q_un2 (by with_reducible assumption) (by with_reducible assumption) (by with_reducible assumption) (by with_reducible assumption) | ktr_units) (by first | exact q_lt1 (by with_reducible assumption) (by with_reducible assumption) (by with_reducible assumption) | exact q_lt2 (by with_reducible assumption) (by with_reducible assumption) (by with_reducible assumption) | omega) ?_; intro h9 tk9 vs9 ds9 ep9 new9 F9 N9 hI9 hE9 hL9 hS9 hB9; (have hLn9 := q_len hE9 hL9 (by first | with_reducible assumption | exact q_le0 (by with_reducible assumption) (by with_reducible assumption) | omega) (toNat_fill (Int.le_of_lt (by with_reducible assumption))) (by first | with_reducible assumption | exact q_tr (by with_reducible assumption) (by with_reducible assumption) | exact q_l2 (by with_reducible assumption) (by with_reducible assumption) | omega)); (try dsimp only); (try k_fold)))) | ((with_reducible show wpAny _ _ (binaryOp .BitXor (Value.int _ _) (Value.int _ _)) _ _ _); refine' xor_by2 (by with_reducible assumption) (by with_reducible assumption) (by with_reducible assumption) ?_; intro xo9 hx19 hx29) | ((with_reducible show wpAny _ _ (binaryOp .Mult (Value.int _ _) (Value.int _ _)) _ _ _); refine' mul_small (by omega) (by omega) (by omega) (by omega) ?_; intro pr9 hp19 hp29 hp39) | ((with_reducible show wpAny _ _ (binaryOp .LShift (Value.int _ _) (Value.int _ _)) _ _ _); refine' shl_by (by with_reducible assumption) (by omega) (by omega) (by omega) ?_; intro sl9 hl19 hl29) | ((with_reducible show wpAny _ _ (binaryOp .RShift (Value.int _ _) (Value.int _ _)) _ _ _); first | ((with_reducible show wpAny _ _ (binaryOp .RShift (Value.int _ _) (Value.int 1 _)) _ _ _); refine' shr_mid (by omega) (by omega) ?_; intro mid9 hm19 hm29) | (refine' shr_by (by with_reducible assumption) (by omega) ?_; intro up9 hu19 hu29)) | walk1)) | (leave1; (try dsimp only)) | fail "no step")); all_goals first  | ((refine' hret _ _ _ _ _ [x] ?z3sf ?z3sn ?z3si ?z3se ?z3sl ?z3ss ?z3sb); (case z3sf => (k_asm)); (case z3sn => (assumption)); (case z3si => (with_reducible assumption)); (case z3se => ((rw [show hi'.toNat = lo.toNat + 1 by omega]; exact take_set (by omega)))); (case z3sl => ((simp only [List.length_cons, List.length_nil]; omega))); (case z3ss => (simp [dsum])); (case z3sb => (exact fun y hy => by rw [List.mem_singleton.mp hy]; exact hx)))  | (((with_reducible rename (_ = List.take _ ds ++ _ ++ List.drop _ ds) => e19)); (have hj := i2d_join hn0 hlo (by omega) (by omega) hle e19 (by omega) (by assumption) (by assumption) (Eq.trans (by assumption) (by assumption)) (Eq.trans (by assumption) (by assumption))); ((refine' hret _ _ _ _ _ _ ?z3uf ?z3un ?z3ui hj.1 ?z3ul hj.2 ?z3ub)); (case z3uf => (k_asm)); (case z3un => (assumption)); (case z3ui => (with_reducible assumption)); (case z3ul => first | exact q_new (by with_reducible assumption) (by with_reducible assumption) (by with_reducible assumption) (by with_reducible assumption) (by with_reducible assumption) | (simp only [List.length_append]; omega)); (case z3ub => exact bnd_app (by assumption) (by assumption)))  | fail "x")) ?_; intro h9 tk9 vs9 ds9 ep9 new9 F9 N9 hI9 hE9 hL9 hS9 hB9; (try dsimp only at N9); (try dsimp only); (try k_fold)) | fail "x")) | ((with_reducible show wpAny _ _ (binaryOp .BitXor (Value.int _ _) (Value.int _ _)) _ _ _); refine' xor_by2 (by with_reducible assumption) (by with_reducible assumption) (by with_reducible assumption) ?_; intro xo9 hx19 hx29) | ((with_reducible show wpAny _ _ (binaryOp .Mult (Value.int _ _) (Value.int _ _)) _ _ _); refine' mul_small (by omega) (by omega) (by omega) (by omega) ?_; intro pr9 hp19 hp29 hp39) | ((with_reducible show wpAny _ _ (binaryOp .LShift (Value.int _ _) (Value.int _ _)) _ _ _); refine' shl_by (by with_reducible assumption) (by omega) (by omega) (by omega) ?_; intro sl9 hl19 hl29) | ((with_reducible show wpAny _ _ (binaryOp .RShift (Value.int _ _) (Value.int _ _)) _ _ _); first | ((with_reducible show wpAny _ _ (binaryOp .RShift (Value.int _ _) (Value.int 1 _)) _ _ _); refine' shr_mid (by omega) (by omega) ?_; intro mid9 hm19 hm29) | (refine' shr_by (by with_reducible assumption) (by omega) ?_; intro up9 hu19 hu29)) | (k_end; kc_close) | walk1 | (dsimp only; (first | ((with_reducible show wpAny _ _ (exec (Stmt.FunctionDef _ _ _ _ _ _ _ _ _ _) _) _ _ _); k_here; k_dflt (refine' nestDef_K (by exact rfl) (by exact rfl) (by exact rfl) ?_); k_dflt (refine' nest_E3D (by k_asm) (by with_reducible assumption) (by k_asm) (by k_asm) (by first | with_reducible assumption | exact CodeHd.keeps (by assumption) (Below.stays (by assumption))) (by exact rfl) (by exact rfl) (by exact rfl) (by first | exact rfl | decide +kernel) (by exact rfl) (by with_reducible assumption) (by with_reducible assumption) (by with_reducible assumption) (by with_reducible assumption) (by with_reducible assumption) (by with_reducible assumption) (by decide) ?_); intro f' c' oc' vs' t' ct' dc' h' tk' F' N' d1' d2' g8' n0' n4' n1' n2' n3' m0' m4' m1' m2' m3' l1' l2' l3' p1' p2' l4' p3'; (try dsimp only at N'); (try (simp only [AllLt, and_true] at l1')); (try (simp only [AllLt, and_true] at l3')); (try (simp only [AllLt, and_true] at l4')); (try k_fold)) | ((with_reducible show wpAny _ _ (call (Value.builtin _) [Value.ref _]) _ _ _); k_here; k_dflt (refine' len_ints_fit (by ((exact PySem.IsL.isList (News.get (by k_asm) (by k_mem))))) (by (with_reducible assumption)) (by (simp only [List.length_replicate]; omega)) ?_); (try simp only [List.length_replicate])) | ((with_reducible show wpAny _ _ (binaryOp .Mult (Value.ref _) (Value.int _ _)) _ _ _); (with_reducible rename (Int.fdiv _ _ = _) => e9); rw [e9]; k_dflt (refine' zeros (by k_asm) (by k_asm) (by k_mem) (by omega) (by omega) ?_; intro D9 h9 vs9 F9 N9 l9 hi9; (try k_lt l9))) | ((with_reducible show wpAny _ _ (call (Value.ref _) [Value.int _ _, Value.int _ _, Value.int _ _] _) _ _ _); k_here; k_dflt (first | (refine' i2d_use2 (by with_reducible assumption) (by (k_asm)) (by (k_asm)) (by (k_asm)) (by (k_asm)) (by (k_asm)) (by (first | exact rfl | assumption)) (by (first | with_reducible assumption | exact CodeHd.keeps (by assumption) (Below.stays (by assumption)))) (by (k_mem)) (by (k_mem)) (by (k_mem)) (by (k_mem)) (by (k_mem)) (by (with_reducible assumption)) (by (with_reducible assumption)) (by (with_reducible assumption)) (by (with_reducible assumption)) (by (with_reducible assumption)) (by (with_reducible assumption)) (by (with_reducible assumption)) (by (exact toNat_fill (Int.le_of_lt (by with_reducible assumption)))) (by first | with_reducible assumption | exact q_le0 (by with_reducible assumption) (by with_reducible assumption) | omega) (by first | exact q_pos (by with_reducible assumption) | omega) (by first | with_reducible assumption | exact q_tr (by with_reducible assumption) (by with_reducible assumption) | exact q_l2 (by with_reducible assumption) (by with_reducible assumption) | ((first | omega | (simp only [List.length_append, List.length_take, List.length_drop] at *; omega)))) (by first | with_reducible assumption | exact q_l3 (by with_reducible assumption) (by with_reducible assumption) | ((first | omega | (simp only [List.length_append, List.length_take, List.length_drop] at *; omega)))) (by (with_reducible assumption)) (by (omega)) (by (omega)) (by first | exact q_dp1 (by with_reducible assumption) (by with_reducible assumption) (by with_reducible assumption) (by with_reducible assumption) | exact q_dp2 (by with_reducible assumption) (by with_reducible assumption) (by with_reducible assumption) (by with_reducible assumption) | ktr_room) (by first | exact q_un1 (by with_reducible assumption) (by with_reducible assumption) (by with_reducible assumption) (by with_reducible assumption) | exact q_un2 (by with_reducible assumption) (by with_reducible assumption) (by with_reducible assumption) (by with_reducible assumption) | ktr_units) (by first | exact q_lt1 (by with_reducible assumption) (by with_reducible assumption) (by with_reducible assumption) | exact q_lt2 (by with_reducible assumption) (by with_reducible assumption) (by with_reducible assumption) | omega) ?_; intro h9 tk9 vs9 ds9 ep9 new9 F9 N9 hI9 hE9 hL9 hS9 hB9; (have hLn9 := q_len hE9 hL9 (by first | with_reducible assumption | exact q_le0 (by with_reducible assumption) (by with_reducible assumption) | omega) (toNat_fill (Int.le_of_lt (by with_reducible assumption))) (by first | with_reducible assumption | exact q_tr (by with_reducible assumption) (by with_reducible assumption) | exact q_l2 (by with_reducible assumption) (by with_reducible assumption) | omega)); (try dsimp only); (try k_fold)) | (refine' i2d_start2 (by k_asm) (by k_asm) (by k_asm) (by k_asm) (by k_asm) (by first | exact rfl | assumption) (by first | with_reducible assumption | exact CodeHd.keeps (by assumption) (Below.stays (by assumption))) (by assumption) (by k_mem) (by k_updF) (by k_mem) (by assumption) (by assumption) (by assumption) (by assumption) (by assumption) (by k_mem) (by k_mem) (by k_mem) (by k_mem) (by refine ⟨?_, ?_, ?_, ?_, ?_⟩ <;> k_ne) (by exact zfill _) (by decide) (by omega) (by simp only [List.length_replicate]; omega) (by simp only [List.length_replicate]; omega) (by exact Bnd.mono (by assumption) (by decide)) (by omega) (by omega) (by ktr_room) (by ktr_units) (by (intro d9 IH9; unfold I2d; intro x lo hi' xt lt ht vs ds ep rest dp un gd cn' cs a ccd cl outer A₀ base h₀ L m s Q E B F X N T hk hC mf mc ma mi mn hO da di dn hcd hcv hi hlo hd0 hhi hle hds hx hn0 hn4 hdp hun hret; refine wpAny_call ?_; k_dflt kn_enter; (repeat' (first | (k_unfold; (try dsimp only)) | ((with_reducible show wpAny _ _ (exec (Stmt.FunctionDef _ _ _ _ _ _ _ _ _ _) _) _ _ _); k_here; k_dflt (refine' nestDef_K (by exact rfl) (by exact rfl) (by exact rfl) ?_); k_dflt (refine' nest_E3D (by k_asm) (by with_reducible assumption) (by k_asm) (by k_asm) (by first | with_reducible assumption | exact CodeHd.keeps (by assumption) (Below.stays (by assumption))) (by exact rfl) (by exact rfl) (by exact rfl) (by first | exact rfl | decide +kernel) (by exact rfl) (by with_reducible assumption) (by with_reducible assumption) (by with_reducible assumption) (by with_reducible assumption) (by with_reducible assumption) (by with_reducible assumption) (by decide) ?_); intro f' c' oc' vs' t' ct' dc' h' tk' F' N' d1' d2' g8' n0' n4' n1' n2' n3' m0' m4' m1' m2' m3' l1' l2' l3' p1' p2' l4' p3'; (try dsimp only at N'); (try (simp only [AllLt, and_true] at l1')); (try (simp only [AllLt, and_true] at l3')); (try (simp only [AllLt, and_true] at l4')); (try k_fold)) | ((with_reducible show wpAny _ _ (call (Value.builtin _) [Value.ref _]) _ _ _); k_here; k_dflt (refine' len_ints_fit (by ((exact PySem.IsL.isList (News.get (by k_asm) (by k_mem))))) (by (with_reducible assumption)) (by (simp only [List.length_replicate]; omega)) ?_); (try simp only [List.length_replicate])) | ((with_reducible show wpAny _ _ (binaryOp .Mult (Value.ref _) (Value.int _ _)) _ _ _); (with_reducible rename (Int.fdiv _ _ = _) => e9); rw [e9]; k_dflt (refine' zeros (by k_asm) (by k_asm) (by k_mem) (by omega) (by omega) ?_; intro D9 h9 vs9 F9 N9 l9 hi9; (try k_lt l9))) | ((with_reducible show wpAny _ _ (call (Value.ref _) [Value.int _ _, Value.int _ _, Value.int _ _] _) _ _ _); k_here; k_dflt (first | (refine' i2d_use2 (by with_reducible assumption) (by (k_asm)) (by (k_asm)) (by (k_asm)) (by (k_asm)) (by (k_asm)) (by (first | exact rfl | assumption)) (by (first | with_reducible assumption | exact CodeHd.keeps (by assumption) (Below.stays (by assumption)))) (by (k_mem)) (by (k_mem)) (by (k_mem)) (by (k_mem)) (by (k_mem)) (by (with_reducible assumption)) (by (with_reducible assumption)) (by (with_reducible assumption)) (by (with_reducible assumption)) (by (with_reducible assumption)) (by (with_reducible assumption)) (by (with_reducible assumption)) (by (exact toNat_fill (Int.le_of_lt (by with_reducible assumption)))) (by first | with_reducible assumption | exact q_le0 (by with_reducible assumption) (by with_reducible assumption) | omega) (by first | exact q_pos (by with_reducible assumption) | omega) (by first | with_reducible assumption | exact q_tr (by with_reducible assumption) (by with_reducible assumption) | exact q_l2 (by with_reducible assumption) (by with_reducible assumption) | ((first | omega | (simp only [List.length_append, List.length_take, List.length_drop] at *; omega)))) (by first | with_reducible assumption | exact q_l3 (by with_reducible assumption) (by with_reducible assumption) | ((first | omega | (simp only [List.length_append, List.length_take, List.length_drop] at *; omega)))) (by (with_reducible assumption)) (by (omega)) (by (omega)) (by first | exact q_dp1 (by with_reducible assumption) (by with_reducible assumption) (by with_reducible assumption) (by with_reducible assumption) | exact q_dp2 (by with_reducible assumption) (by with_reducible assumption) (by with_reducible assumption) (by with_reducible assumption) | ktr_room) (by first | exact q_un1 (by with_reducible assumption) (by with_reducible assumption) (by with_reducible assumption) (by with_reducible assumption) | exact q_un2 (by with_reducible assumption) (by with_reducible assumption) (by with_reducible assumption) (by with_reducible assumption) | ktr_units) (by first | exact q_lt1 (by with_reducible assumption) (by with_reducible assumption) (by with_reducible assumption) | exact q_lt2 (by with_reducible assumption) (by with_reducible assumption) (by with_reducible assumption) | omega) ?_; intro h9 tk9 vs9 ds9 ep9 new9 F9 N9 hI9 hE9 hL9 hS9 hB9; (have hLn9 := q_len hE9 hL9 (by first | with_reducible assumption | exact q_le0 (by with_reducible assumption) (by with_reducible assumption) | omega) (toNat_fill (Int.le_of_lt (by with_reducible assumption))) (by first | with_reducible assumption | exact q_tr (by with_reducible assumption) (by with_reducible assumption) | exact q_l2 (by with_reducible assumption) (by with_reducible assumption) | omega)); (try dsimp only); (try k_fold)))) | ((with_reducible show wpAny _ _ (binaryOp .BitXor (Value.int _ _) (Value.int _ _)) _ _ _); refine' xor_by2 (by with_reducible assumption) (by with_reducible assumption) (by with_reducible assumption) ?_; intro xo9 hx19 hx29) | ((with_reducible show wpAny _ _ (binaryOp .Mult (Value.int _ _) (Value.int _ _)) _ _ _); refine' mul_small (by omega) (by omega) (by omega) (by omega) ?_; intro pr9 hp19 hp29 hp39) | ((with_reducible show wpAny _ _ (binaryOp .LShift (Value.int _ _) (Value.int _ _)) _ _ _); refine' shl_by (by with_reducible assumption) (by omega) (by omega) (by omega) ?_; intro sl9 hl19 hl29) | ((with_reducible show wpAny _ _ (binaryOp .RShift (Value.int _ _) (Value.int _ _)) _ _ _); first | ((with_reducible show wpAny _ _ (binaryOp .RShift (Value.int _ _) (Value.int 1 _)) _ _ _); refine' shr_mid (by omega) (by omega) ?_; intro mid9 hm19 hm29) | (refine' shr_by (by with_reducible assumption) (by omega) ?_; intro up9 hu19 hu29)) | (k_end; kc_close) | walk1 | (dsimp only; (first | ((with_reducible show wpAny _ _ (exec (Stmt.FunctionDef _ _ _ _ _ _ _ _ _ _) _) _ _ _); k_here; k_dflt (refine' nestDef_K (by exact rfl) (by exact rfl) (by exact rfl) ?_); k_dflt (refine' nest_E3D (by k_asm) (by with_reducible assumption) (by k_asm) (by k_asm) (by first | with_reducible assumption | exact CodeHd.keeps (by assumption) (Below.stays (by assumption))) (by exact rfl) (by exact rfl) (by exact rfl) (by first | exact rfl | decide +kernel) (by exact rfl) (by with_reducible assumption) (by with_reducible assumption) (by with_reducible assumption) (by with_reducible assumption) (by with_reducible assumption) (by with_reducible assumption) (by decide) ?_); intro f' c' oc' vs' t' ct' dc' h' tk' F' N' d1' d2' g8' n0' n4' n1' n2' n3' m0' m4' m1' m2' m3' l1' l2' l3' p1' p2' l4' p3'; (try dsimp only at N'); (try (simp only [AllLt, and_true] at l1')); (try (simp only [AllLt, and_true] at l3')); (try (simp only [AllLt, and_true] at l4')); (try k_fold)) | ((with_reducible show wpAny _ _ (call (Value.builtin _) [Value.ref _]) _ _ _); k_here; k_dflt (refine' len_ints_fit (by ((exact PySem.IsL.isList (News.get (by k_asm) (by k_mem))))) (by (with_reducible assumption)) (by (simp only [List.length_replicate]; omega)) ?_); (try simp only [List.length_replicate])) | ((with_reducible show wpAny _ _ (binaryOp .Mult (Value.ref _) (Value.int _ _)) _ _ _); (with_reducible rename (Int.fdiv _ _ = _) => e9); rw [e9]; k_dflt (refine' zeros (by k_asm) (by k_asm) (by k_mem) (by omega) (by omega) ?_; intro D9 h9 vs9 F9 N9 l9 hi9; (try k_lt l9))) | ((with_reducible show wpAny _ _ (call (Value.ref _) [Value.int _ _, Value.int _ _, Value.int _ _] _) _ _ _); k_here; k_dflt (first | (refine' i2d_use2 (by with_reducible assumption) (by (k_asm)) (by (k_asm)) (by (k_asm)) (by (k_asm)) (by (k_asm)) (by (first | exact rfl | assumption)) (by (first | with_reducible assumption | exact CodeHd.keeps (by assumption) (Below.stays (by assumption)))) (by (k_mem)) (by (k_mem)) (by (k_mem)) (by (k_mem)) (by (k_mem)) (by (with_reducible assumption)) (by (with_reducible assumption)) (by (with_reducible assumption)) (by (with_reducible assumption)) (by (with_reducible assumption)) (by (with_reducible assumption)) (by (with_reducible assumption)) (by (exact toNat_fill (Int.le_of_lt (by with_reducible assumption)))) (by first | with_reducible assumption | exact q_le0 (by with_reducible assumption) (by with_reducible assumption) | omega) (by first | exact q_pos (by with_reducible assumption) | omega) (by first | with_reducible assumption | exact q_tr (by with_reducible assumption) (by with_reducible assumption) | exact q_l2 (by with_reducible assumption) (by with_reducible assumption) | ((first | omega | (simp only [List.length_append, List.length_take, List.length_drop] at *; omega)))) (by first | with_reducible assumption | exact q_l3 (by with_reducible assumption) (by with_reducible assumption) | ((first | omega | (simp only [List.length_append, List.length_take, List.length_drop] at *; omega)))) (by (with_reducible assumption)) (by (omega)) (by (omega)) (by first | exact q_dp1 (by with_reducible assumption) (by with_reducible assumption) (by with_reducible assumption) (by with_reducible assumption) | exact q_dp2 (by with_reducible assumption) (by with_reducible assumption) (by with_reducible assumption) (by with_reducible assumption) | ktr_room) (by first | exact q_un1 (by with_reducible assumption) (by with_reducible assumption) (by with_reducible assumption) (by with_reducible assumption) | exact q_un2 (by with_reducible assumption) (by with_reducible assumption) (by with_reducible assumption) (by with_reducible assumption) | ktr_units) (by first | exact q_lt1 (by with_reducible assumption) (by with_reducible assumption) (by with_reducible assumption) | exact q_lt2 (by with_reducible assumption) (by with_reducible assumption) (by with_reducible assumption) | omega) ?_; intro h9 tk9 vs9 ds9 ep9 new9 F9 N9 hI9 hE9 hL9 hS9 hB9; (have hLn9 := q_len hE9 hL9 (by first | with_reducible assumption | exact q_le0 (by with_reducible assumption) (by with_reducible assumption) | omega) (toNat_fill (Int.le_of_lt (by with_reducible assumption))) (by first | with_reducible assumption | exact q_tr (by with_reducible assumption) (by with_reducible assumption) | exact q_l2 (by with_reducible assumption) (by with_reducible assumption) | omega)); (try dsimp only); (try k_fold)))) | ((with_reducible show wpAny _ _ (binaryOp .BitXor (Value.int _ _) (Value.int _ _)) _ _ _); refine' xor_by2 (by with_reducible assumption) (by with_reducible assumption) (by with_reducible assumption) ?_; intro xo9 hx19 hx29) | ((with_reducible show wpAny _ _ (binaryOp .Mult (Value.int _ _) (Value.int _ _)) _ _ _); refine' mul_small (by omega) (by omega) (by omega) (by omega) ?_; intro pr9 hp19 hp29 hp39) | ((with_reducible show wpAny _ _ (binaryOp .LShift (Value.int _ _) (Value.int _ _)) _ _ _); refine' shl_by (by with_reducible assumption) (by omega) (by omega) (by omega) ?_; intro sl9 hl19 hl29) | ((with_reducible show wpAny _ _ (binaryOp .RShift (Value.int _ _) (Value.int _ _)) _ _ _); first | ((with_reducible show wpAny _ _ (binaryOp .RShift (Value.int _ _) (Value.int 1 _)) _ _ _); refine' shr_mid (by omega) (by omega) ?_; intro mid9 hm19 hm29) | (refine' shr_by (by with_reducible assumption) (by omega) ?_; intro up9 hu19 hu29)) | walk1)) | (leave1; (try dsimp only)) | fail "no step")); all_goals first  | ((refine' hret _ _ _ _ _ [x] ?z3sf ?z3sn ?z3si ?z3se ?z3sl ?z3ss ?z3sb); (case z3sf => (k_asm)); (case z3sn => (assumption)); (case z3si => (with_reducible assumption)); (case z3se => ((rw [show hi'.toNat = lo.toNat + 1 by omega]; exact take_set (by omega)))); (case z3sl => ((simp only [List.length_cons, List.length_nil]; omega))); (case z3ss => (simp [dsum])); (case z3sb => (exact fun y hy => by rw [List.mem_singleton.mp hy]; exact hx)))  | (((with_reducible rename (_ = List.take _ ds ++ _ ++ List.drop _ ds) => e19)); (have hj := i2d_join hn0 hlo (by omega) (by omega) hle e19 (by omega) (by assumption) (by assumption) (Eq.trans (by assumption) (by assumption)) (Eq.trans (by assumption) (by assumption))); ((refine' hret _ _ _ _ _ _ ?z3uf ?z3un ?z3ui hj.1 ?z3ul hj.2 ?z3ub)); (case z3uf => (k_asm)); (case z3un => (assumption)); (case z3ui => (with_reducible assumption)); (case z3ul => first | exact q_new (by with_reducible assumption) (by with_reducible assumption) (by with_reducible assumption) (by with_reducible assumption) (by with_reducible assumption) | (simp only [List.length_append]; omega)); (case z3ub => exact bnd_app (by assumption) (by assumption)))  | fail "x")) ?_; intro h9 tk9 vs9 ds9 ep9 new9 F9 N9 hI9 hE9 hL9 hS9 hB9; (try dsimp only at N9); (try dsimp only); (try k_fold)) | fail "x")) | ((with_reducible show wpAny _ _ (binaryOp .BitXor (Value.int _ _) (Value.int _ _)) _ _ _); refine' xor_by2 (by with_reducible assumption) (by with_reducible assumption) (by with_reducible assumption) ?_; intro xo9 hx19 hx29) | ((with_reducible show wpAny _ _ (binaryOp .Mult (Value.int _ _) (Value.int _ _)) _ _ _); refine' mul_small (by omega) (by omega) (by omega) (by omega) ?_; intro pr9 hp19 hp29 hp39) | ((with_reducible show wpAny _ _ (binaryOp .LShift (Value.int _ _) (Value.int _ _)) _ _ _); refine' shl_by (by with_reducible assumption) (by omega) (by omega) (by omega) ?_; intro sl9 hl19 hl29) | ((with_reducible show wpAny _ _ (binaryOp .RShift (Value.int _ _) (Value.int _ _)) _ _ _); first | ((with_reducible show wpAny _ _ (binaryOp .RShift (Value.int _ _) (Value.int 1 _)) _ _ _); refine' shr_mid (by omega) (by omega) ?_; intro mid9 hm19 hm29) | (refine' shr_by (by with_reducible assumption) (by omega) ?_; intro up9 hu19 hu29)) | walk1)) | (leave1; (try dsimp only)) | fail "no step")
  all_goals first
    | ((with_reducible rename (_ = List.take _ (List.replicate _ _) ++ _ ++ _) => e29); (have e39 := ends_new e29);
       (refine' hret _ _ _ _ _ _ _ ?nf (.inr ⟨?c, ?oc, ?vs, ?t, rfl, ?d, ?v, ?lt⟩) ?nn ?ni ?ns ?nb ?nl); (case nf => k_asm); (case d => assumption); (case v => assumption); (case ni => with_reducible assumption); (case nn => refine news_sub (by assumption) ?_; refine List.forall_mem_cons.mpr ⟨?m0, List.forall_mem_cons.mpr ⟨?m1, List.forall_mem_cons.mpr ⟨?m2, ?m3⟩⟩⟩; (case m0 => k_mem); (case m2 => k_mem); (case m1 => k_mem); (case m3 => intro p9 hp9; repeat (first | exact hp9 | apply List.mem_cons_of_mem))); (case lt => omega); (case ns => rw [e39]; assumption); (case nb => rw [e39]; assumption); (case nl => rw [e39]; omega))
    | ((refine' hret _ _ _ _ _ _ _ ?nf (.inr ⟨?c, ?oc, ?vs, ?t, rfl, ?d, ?v, ?lt⟩) ?nn ?ni ?ns ?nb ?nl); (case nf => k_asm); (case d => assumption); (case v => assumption); (case ni => with_reducible assumption); (case nn => refine news_sub (by assumption) ?_; refine List.forall_mem_cons.mpr ⟨?m0, List.forall_mem_cons.mpr ⟨?m1, List.forall_mem_cons.mpr ⟨?m2, ?m3⟩⟩⟩; (case m0 => k_mem); (case m2 => k_mem); (case m1 => k_mem); (case m3 => intro p9 hp9; repeat (first | exact hp9 | apply List.mem_cons_of_mem))); (case lt => omega); (case ns => rw [dsum_zeros]; omega); (case nb => exact bnd_zeros _); (case nl => simp only [List.length_replicate]; omega))
    | fail "x"
end
/-! D2iS -/
section

noncomputable def D2i (prog : Program) (w : World) (p : Program) (loose : List Str) (mean : ExcName → Option Value) (mg mb : Str → Option Value) (f : Addr) (fo : Obj) (c : Addr) (oc : Obj) (ca ci cn al : Addr) (oa oi on : Obj) (n : Int) (nt : Tok) (cvs : Array Value) (ct : Tok) (vs : List Value) (ds : List Int) (ep : Nat) (d : Nat) : Prop :=
  ∀ (lo hi' : Int) (lt ht : Tok) (rest : List (Addr × Obj)) (dp un : Nat) (gd : Option (List Code)) (cn' : Str) (cs : Scope) (a : Addr) (ccd : Value) (cl : List (Str × Addr)) (outer : List Env) (A₀ : Around) (base h₀ : Heap) (L : Addr) (m : Str → Option Value) (s : Shared) (Q E : Value → Shared → Prop),
    Below A₀ base outer h₀ → Fr h₀ L s.heap m → (hd.heap_1 w.params).In h₀ → News h₀ L s.heap rest → Top p loose mean mg mb h₀ → cs.kind = .function → CodeHd base 77 73 → (f, fo) ∈ rest → (c, oc) ∈ rest → (ca, oa) ∈ rest → (ci, oi) ∈ rest → (cn, on) ∈ rest → (al, listOf vs.toArray ep) ∈ rest → oa.data = .cell (some (.ref al)) → oi.data = .cell (some (.ref f)) → on.data = .cell (some (.int n nt)) → oc.data = .fields cvs → cvs[1]? = some (.str (Str.ofString "_digits2int.<locals>.inner") ct) → IntsAre vs ds → 0 ≤ lo → 0 < d → hi' = lo + d → hi' ≤ ds.length → ds.length ≤ 400 → (∀ y ∈ ds, Bnd 8000 y) → 0 < n → n ≤ 400 → dp + d + 5 < recursionLimit → un + 8 * d + 50 < cLine → (∀ h' tk' t y, Fr h₀ L h' m → News h₀ L h' rest → y = dsum (2 ^ n.toNat) ((ds.drop lo.toNat).take d) → Bnd (8000 + 401 * d) y → Q (.int y t) { s with heap := h', toks := tk' }) →
    wpAny (model prog w) (ktrTop dp un gd cn' cs L a ccd cl outer) (call (.ref f) [.int lo lt, .int hi' ht]) Q E s
theorem d2i_use {prog : Program} {w : World} {p : Program} {loose : List Str} {mean : ExcName → Option Value} {mg mb : Str → Option Value} {f : Addr} {fo : Obj} {c : Addr} {oc : Obj} {ca ci cn al : Addr} {oa oi on : Obj} {n : Int} {nt : Tok} {cvs : Array Value} {ct : Tok} {vs : List Value} {ds : List Int} {ep : Nat} {d : Nat} {d₀ : Nat} {lo hi' : Int} {lt ht : Tok} {rest : List (Addr × Obj)} {dp un : Nat} {gd : Option (List Code)} {cn' : Str} {cs : Scope} {a : Addr} {ccd : Value} {cl : List (Str × Addr)} {outer : List Env} {A₀ : Around} {base h₀ : Heap} {L : Addr} {m : Str → Option Value} {s : Shared} {Q E : Value → Shared → Prop} (IH : Less (D2i prog w p loose mean mg mb f fo c oc ca ci cn al oa oi on n nt cvs ct vs ds ep) d₀) (hlt : d < d₀) (B : Below A₀ base outer h₀) (F : Fr h₀ L s.heap m) (X : (hd.heap_1 w.params).In h₀) (N : News h₀ L s.heap rest) (T : Top p loose mean mg mb h₀) (hk : cs.kind = .function) (hC : CodeHd base 77 73) (mf : (f, fo) ∈ rest) (mc : (c, oc) ∈ rest) (ma : (ca, oa) ∈ rest) (mi : (ci, oi) ∈ rest) (mn : (cn, on) ∈ rest) (ml : (al, listOf vs.toArray ep) ∈ rest) (da : oa.data = .cell (some (.ref al))) (di : oi.data = .cell (some (.ref f))) (dn : on.data = .cell (some (.int n nt))) (hcd : oc.data = .fields cvs) (hcv : cvs[1]? = some (.str (Str.ofString "_digits2int.<locals>.inner") ct)) (hi : IntsAre vs ds) (hlo : 0 ≤ lo) (hd0 : 0 < d) (hhi : hi' = lo + d) (hle : hi' ≤ ds.length) (hds : ds.length ≤ 400) (hx : ∀ y ∈ ds, Bnd 8000 y) (hn0 : 0 < n) (hn4 : n ≤ 400) (hdp : dp + d + 5 < recursionLimit) (hun : un + 8 * d + 50 < cLine) (hret : ∀ h' tk' t y, Fr h₀ L h' m → News h₀ L h' rest → y = dsum (2 ^ n.toNat) ((ds.drop lo.toNat).take d) → Bnd (8000 + 401 * d) y → Q (.int y t) { s with heap := h', toks := tk' }) :
    wpAny (model prog w) (ktrTop dp un gd cn' cs L a ccd cl outer) (call (.ref f) [.int lo lt, .int hi' ht]) Q E s := IH d hlt _ _ _ _ _ _ _ _ _ _ _ _ _ _ _ _ _ _ _ _ _ _ B F X N T hk hC mf mc ma mi mn ml da di dn hcd hcv hi hlo hd0 hhi hle hds hx hn0 hn4 hdp hun hret
theorem d2i_start {prog : Program} {w : World} {p : Program} {loose : List Str} {mean : ExcName → Option Value} {mg mb : Str → Option Value} {f : Addr} {fo : Obj} {c : Addr} {oc : Obj} {ca ci cn al : Addr} {oa oi on : Obj} {n : Int} {nt : Tok} {cvs : Array Value} {ct : Tok} {vs : List Value} {ds : List Int} {ep : Nat} {d : Nat} {lo hi' : Int} {lt ht : Tok} {rest : List (Addr × Obj)} {dp un : Nat} {gd : Option (List Code)} {cn' : Str} {cs : Scope} {a : Addr} {ccd : Value} {cl : List (Str × Addr)} {outer : List Env} {A₀ : Around} {base h₀ : Heap} {L : Addr} {m : Str → Option Value} {s : Shared} {Q E : Value → Shared → Prop} (B : Below A₀ base outer h₀) (F : Fr h₀ L s.heap m) (X : (hd.heap_1 w.params).In h₀) (N : News h₀ L s.heap rest) (T : Top p loose mean mg mb h₀) (hk : cs.kind = .function) (hC : CodeHd base 77 73) (mf : (f, fo) ∈ rest) (mc : (c, oc) ∈ rest) (ma : (ca, oa) ∈ rest) (mi : (ci, oi) ∈ rest) (mn : (cn, on) ∈ rest) (ml : (al, listOf vs.toArray ep) ∈ rest) (da : oa.data = .cell (some (.ref al))) (di : oi.data = .cell (some (.ref f))) (dn : on.data = .cell (some (.int n nt))) (hcd : oc.data = .fields cvs) (hcv : cvs[1]? = some (.str (Str.ofString "_digits2int.<locals>.inner") ct)) (hi : IntsAre vs ds) (hlo : 0 ≤ lo) (hd0 : 0 < d) (hhi : hi' = lo + d) (hle : hi' ≤ ds.length) (hds : ds.length ≤ 400) (hx : ∀ y ∈ ds, Bnd 8000 y) (hn0 : 0 < n) (hn4 : n ≤ 400) (hdp : dp + d + 5 < recursionLimit) (hun : un + 8 * d + 50 < cLine) (step : ∀ d, Less (D2i prog w p loose mean mg mb f fo c oc ca ci cn al oa oi on n nt cvs ct vs ds ep) d → D2i prog w p loose mean mg mb f fo c oc ca ci cn al oa oi on n nt cvs ct vs ds ep d) (hret : ∀ h' tk' t y, Fr h₀ L h' m → News h₀ L h' rest → y = dsum (2 ^ n.toNat) ((ds.drop lo.toNat).take d) → Bnd (8000 + 401 * d) y → Q (.int y t) { s with heap := h', toks := tk' }) :
    wpAny (model prog w) (ktrTop dp un gd cn' cs L a ccd cl outer) (call (.ref f) [.int lo lt, .int hi' ht]) Q E s := less_all step d _ _ _ _ _ _ _ _ _ _ _ _ _ _ _ _ _ _ _ _ _ _ B F X N T hk hC mf mc ma mi mn ml da di dn hcd hcv hi hlo hd0 hhi hle hds hx hn0 hn4 hdp hun hret
theorem d2i_one {B : Int} {ds : List Int} {i : Nat} (h : i < ds.length) : ds.getD i 0 = dsum B ((ds.drop i).take 1) := by
  rw [List.drop_eq_getElem_cons h, List.take_succ_cons, List.take_zero, List.getD_eq_getElem?_getD, List.getElem?_eq_getElem h]
  simp [dsum]
theorem d2i_join {n u v : Int} {ds : List Int} {lo mid hi sh : Int} (hn : 0 < n) (h0 : 0 ≤ lo) (h1 : lo < mid) (h2 : mid < hi) (hle : hi ≤ ds.length)
    (hsh : sh = (mid - lo) * n) (hu : u = dsum (2 ^ n.toNat) ((ds.drop mid.toNat).take (hi - mid).toNat)) (hv : v = dsum (2 ^ n.toNat) ((ds.drop lo.toNat).take (mid - lo).toNat)) :
    u * 2 ^ sh.toNat + v = dsum (2 ^ n.toNat) ((ds.drop lo.toNat).take (hi - lo).toNat) := by
  have e : (ds.drop lo.toNat).take (hi - lo).toNat = (ds.drop lo.toNat).take (mid - lo).toNat ++ (ds.drop mid.toNat).take (hi - mid).toNat := by
    rw [show (hi - lo).toNat = (mid - lo).toNat + (hi - mid).toNat by omega, List.take_add, List.drop_drop, show lo.toNat + (mid - lo).toNat = mid.toNat by omega]
  rw [e, dsum_append, ← hu, ← hv]
  have hl : ((ds.drop lo.toNat).take (mid - lo).toNat).length = (mid - lo).toNat := by rw [List.length_take, List.length_drop]; omega
  have hpow : ((2 : Int) ^ n.toNat) ^ ((ds.drop lo.toNat).take (mid - lo).toNat).length = 2 ^ sh.toNat := by
    rw [hl, ← Int.pow_mul]
    congr 1
    have : (((n.toNat * (mid - lo).toNat : Nat)) : Int) = sh := by
      rw [Int.natCast_mul, Int.toNat_of_nonneg (by omega), Int.toNat_of_nonneg (by omega), hsh, Int.mul_comm]
    omega
  rw [hpow, Int.mul_comm, Int.add_comm]
theorem d2i_use2 {prog : Program} {w : World} {p : Program} {loose : List Str} {mean : ExcName → Option Value} {mg mb : Str → Option Value} {f : Addr} {fo : Obj} {c : Addr} {oc : Obj} {ca ci cn al : Addr} {oa oi on : Obj} {n : Int} {nt : Tok} {cvs : Array Value} {ct : Tok} {vs : List Value} {ds : List Int} {ep : Nat} {d : Nat} {d₀ : Nat} {lo hi' : Int} {lt ht : Tok} {rest : List (Addr × Obj)} {dp un : Nat} {gd : Option (List Code)} {cn' : Str} {cs : Scope} {a : Addr} {ccd : Value} {cl : List (Str × Addr)} {outer : List Env} {A₀ : Around} {base h₀ : Heap} {L : Addr} {m : Str → Option Value} {s : Shared} {Q E : Value → Shared → Prop} (IH : Less (D2i prog w p loose mean mg mb f fo c oc ca ci cn al oa oi on n nt cvs ct vs ds ep) d₀) (B : Below A₀ base outer h₀) (F : Fr h₀ L s.heap m) (X : (hd.heap_1 w.params).In h₀) (N : News h₀ L s.heap rest) (T : Top p loose mean mg mb h₀) (hk : cs.kind = .function) (hC : CodeHd base 77 73) (mf : (f, fo) ∈ rest) (mc : (c, oc) ∈ rest) (ma : (ca, oa) ∈ rest) (mi : (ci, oi) ∈ rest) (mn : (cn, on) ∈ rest) (ml : (al, listOf vs.toArray ep) ∈ rest) (da : oa.data = .cell (some (.ref al))) (di : oi.data = .cell (some (.ref f))) (dn : on.data = .cell (some (.int n nt))) (hcd : oc.data = .fields cvs) (hcv : cvs[1]? = some (.str (Str.ofString "_digits2int.<locals>.inner") ct)) (hi : IntsAre vs ds) (hhi : hi' = lo + d) (hlo : 0 ≤ lo) (hd0 : 0 < d) (hle : hi' ≤ ds.length) (hds : ds.length ≤ 400) (hx : ∀ y ∈ ds, Bnd 8000 y) (hn0 : 0 < n) (hn4 : n ≤ 400) (hdp : dp + d + 5 < recursionLimit) (hun : un + 8 * d + 50 < cLine) (hlt : d < d₀) (hret : ∀ h' tk' t y, Fr h₀ L h' m → News h₀ L h' rest → y = dsum (2 ^ n.toNat) ((ds.drop lo.toNat).take d) → Bnd (8000 + 401 * d) y → Q (.int y t) { s with heap := h', toks := tk' }) :
    wpAny (model prog w) (ktrTop dp un gd cn' cs L a ccd cl outer) (call (.ref f) [.int lo lt, .int hi' ht]) Q E s := d2i_use IH hlt B F X N T hk hC mf mc ma mi mn ml da di dn hcd hcv hi hlo hd0 hhi hle hds hx hn0 hn4 hdp hun hret
theorem d2i_start2 {prog : Program} {w : World} {p : Program} {loose : List Str} {mean : ExcName → Option Value} {mg mb : Str → Option Value} {f : Addr} {fo : Obj} {c : Addr} {oc : Obj} {ca ci cn al : Addr} {oa oi on : Obj} {n : Int} {nt : Tok} {cvs : Array Value} {ct : Tok} {vs : List Value} {ds : List Int} {ep : Nat} {d : Nat} {lo hi' : Int} {lt ht : Tok} {rest : List (Addr × Obj)} {dp un : Nat} {gd : Option (List Code)} {cn' : Str} {cs : Scope} {a : Addr} {ccd : Value} {cl : List (Str × Addr)} {outer : List Env} {A₀ : Around} {base h₀ : Heap} {L : Addr} {m : Str → Option Value} {s : Shared} {Q E : Value → Shared → Prop} (B : Below A₀ base outer h₀) (F : Fr h₀ L s.heap m) (X : (hd.heap_1 w.params).In h₀) (N : News h₀ L s.heap rest) (T : Top p loose mean mg mb h₀) (hk : cs.kind = .function) (hC : CodeHd base 77 73) (hi : IntsAre vs ds) (hx : ∀ y ∈ ds, Bnd 8000 y) (ml : (al, listOf vs.toArray ep) ∈ rest) (mf : (f, fo) ∈ rest) (di : oi.data = .cell (some (.ref f))) (da : oa.data = .cell (some (.ref al))) (dn : on.data = .cell (some (.int n nt))) (hcd : oc.data = .fields cvs) (hcv : cvs[1]? = some (.str (Str.ofString "_digits2int.<locals>.inner") ct)) (mc : (c, oc) ∈ rest) (ma : (ca, oa) ∈ rest) (mi : (ci, oi) ∈ rest) (mn : (cn, on) ∈ rest) (hhi : hi' = lo + d) (hlo : 0 ≤ lo) (hd0 : 0 < d) (hle : hi' ≤ ds.length) (hds : ds.length ≤ 400) (hn0 : 0 < n) (hn4 : n ≤ 400) (hdp : dp + d + 5 < recursionLimit) (hun : un + 8 * d + 50 < cLine) (step : ∀ d, Less (D2i prog w p loose mean mg mb f fo c oc ca ci cn al oa oi on n nt cvs ct vs ds ep) d → D2i prog w p loose mean mg mb f fo c oc ca ci cn al oa oi on n nt cvs ct vs ds ep d) (hret : ∀ h' tk' t y, Fr h₀ L h' m → News h₀ L h' rest → y = dsum (2 ^ n.toNat) ((ds.drop lo.toNat).take d) → Bnd (8000 + 401 * d) y → Q (.int y t) { s with heap := h', toks := tk' }) :
    wpAny (model prog w) (ktrTop dp un gd cn' cs L a ccd cl outer) (call (.ref f) [.int lo lt, .int hi' ht]) Q E s := d2i_start B F X N T hk hC mf mc ma mi mn ml da di dn hcd hcv hi hlo hd0 hhi hle hds hx hn0 hn4 hdp hun step hret
end
/-! C_d2i -/
section

theorem mul_small2 {prog : Program} {w : World} {A : Around} {E : Value → Shared → Prop} {s : Shared} {a b : Int} {t u : Tok} {Q : Value → Shared → Prop} (ha : 0 ≤ a) (ha2 : a ≤ 400) (hb : 0 ≤ b) (hb2 : b ≤ 400) (hq : ∀ c : Int, c = a * b → 0 ≤ c → c ≤ 160000 → c ≤ 400 * a → Q (.int c s.toks) { s with toks := s.toks + 1 }) : wpAny (model prog w) A (binaryOp .Mult (.int a t) (.int b u)) Q E s :=
  mul_small ha ha2 hb hb2 fun c hc h0 h1 => hq c hc h0 h1 (by rw [hc, Int.mul_comm]; exact Int.mul_le_mul_of_nonneg_right hb2 ha)
theorem getD_mem {ds : List Int} {i : Nat} (h : i < ds.length) : ds.getD i 0 ∈ ds := by
  rw [List.getD_eq_getElem?_getD, List.getElem?_eq_getElem h]; exact List.getElem_mem h
theorem shl_by' {prog : Program} {w : World} {A : Around} {E : Value → Shared → Prop} {s : Shared} {a n : Int} {t u : Tok} {m : Nat} {Q : Value → Shared → Prop} (hx : Bnd m a) (hn : 0 ≤ n) (hn2 : n ≤ 1000000) (hm : m ≤ 1000000) (hq : Bnd (m + n.toNat) (a * 2 ^ n.toNat) → Q (.int (a * 2 ^ n.toNat) s.toks) { s with toks := s.toks + 1 }) : wpAny (model prog w) A (binaryOp .LShift (.int a t) (.int n u)) Q E s :=
  shl_by hx hn hn2 hm fun c hc hb => by subst hc; exact hq hb
local macro_rules | `(tactic| k_mem) => `(tactic| first | with_reducible assumption | (refine List.mem_cons_of_mem _ ?_; with_reducible assumption))
local macro_rules | `(tactic| kn_enter) => `(tactic| (refine' code_nest ?k1 ?k2 ?k3 ?k4 ?k5 ?kA ?kF ?kK ?k6 ?k7 ?k8 ?k9 ?kB ?_ ?c2 ?c3 ?c4 ?c5; (case kA => exact rfl); (case kF => exact rfl); (case kK => first | exact rfl | assumption); (case k1 => k_asm); (case k2 => k_asm); (case k3 => k_asm); (case k4 => k_asm); (case k5 => k_asm); (case k6 => k_mem); (case k7 => exact codeRec_news (by k_asm) (by k_mem) (by assumption) (by assumption)); (case k8 => k_room); (case k9 => exact BindsTo.of_eq rfl); (case c5 => decide); (case kB => exact locs rfl); (case c2 => exact rfl); (case c3 => exact rfl); (case c4 => exact rfl); k_whole; intro g' L' h' FG' F' N' B' X' T'; (try dsimp only); (try k_lift B'); (try k_fold)))

theorem whole_list (B : Int) (ds : List Int) : dsum B ds = dsum B ((ds.drop (Int.toNat 0)).take ds.length) := by
  have e : Int.toNat 0 = 0 := rfl
  rw [e, List.drop_zero, List.take_length]
theorem d2i_c {prog : Program} {p : Program} {loose : List Str} {mean : ExcName → Option Value} {mg mb : Str → Option Value} (w : World) : ∀ (l : Addr) (vs : List Value) (ds : List Int) (ep : Nat) (n : Int) (nt : Tok) (T73 : List (Addr × Obj)) (rest : List (Addr × Obj)) (dp un : Nat) (gd : Option (List Code)) (cn : Str) (cs : Scope) (a : Addr) (ccd : Value) (cl : List (Str × Addr)) (outer : List Env) (A₀ : Around) (base h₀ : Heap) (L : Addr) (m : Str → Option Value) (s : Shared) (Q E : Value → Shared → Prop),
    Below A₀ base outer h₀ → Fr h₀ L s.heap m → (hd.heap_1 w.params).In h₀ → News h₀ L s.heap (T73 ++ rest) → Top p loose mean mg mb h₀ → cs.kind = .function → 80 < L →
    dp + 450 < recursionLimit → un + 4000 < cLine → CodeHd base 77 73 → TabAtt 73 117 4 (Str.ofString "_digits2int.<locals>.inner") T73 → Off 73 rest → (l, listOf vs.toArray ep) ∈ rest → IntsAre vs ds → 0 < ds.length → ds.length ≤ 390 → 0 < n → n ≤ 400 → (∀ y ∈ ds, Bnd 8000 y) → 
    (∀ (t : Tok) (h' : Heap) (tk' : Nat) (T' : List (Addr × Obj)) (y : Int), Fr h₀ L h' m → TabAtt 73 117 4 (Str.ofString "_digits2int.<locals>.inner") T' → News h₀ L h' (T' ++ rest) → y = dsum (2 ^ n.toNat) ds → Q (.int y t) { s with heap := h', toks := tk' }) →
      wpAny (model prog w) (ktrTop dp un gd cn cs L a ccd cl outer) (call (.ref 78) [.ref l, .int n nt]) Q E s := by
  w_top off
  intro l vs ds ep n nt T73 rest dp un gd cn cs a ccd cl outer A₀ base h₀ L m s Q E B F X N T hk hL hd hu hC hT hO hl hi hd0 hd5 hn hn2 hB9 hret
  refine wpAny_call ?_
  k_dflt k_enter
  (with_reducible rename Fr h₀ L _ _ => FG9); (with_reducible rename Fr _ _ _ _ => F9)
  have hL9 := lt_frames FG9 F9 hL
  repeat' (first | (k_unfold; (try dsimp only)) | ((with_reducible show wpAny _ _ (exec (Stmt.FunctionDef _ _ _ _ _ _ _ _ _ _) _) _ _ _); k_here; k_dflt (refine' nestDef_K (by exact rfl) (by exact rfl) (by exact rfl) ?_); k_dflt (refine' nest_E3 ?z0F ?z0hT ?z0N ?z0T ?z0C ?z0cd ?z0l ?z0c ?z0q ?z0cl ?z0O ?z0B ?z0e8 ?z0P ?_; (case z0F => k_asm); (case z0hT => with_reducible assumption); (case z0N => k_asm); (case z0T => k_asm); (case z0C => first | with_reducible assumption | exact CodeHd.keeps (by assumption) (Below.stays (by assumption))); (case z0cd => exact rfl); (case z0l => exact rfl); (case z0c => exact rfl); (case z0q => first | exact rfl | decide +kernel); (case z0cl => exact rfl); (case z0O => with_reducible assumption); (case z0B => with_reducible assumption); (case z0P => decide); (case z0e8 => with_reducible assumption)); intro f' c' oc' vs' t' ct' dc' h' tk' F' N' d1' d2' g8' n1' n2' n3' m1' m2' m3' l1' l2' l3' p1' p2'; (try dsimp only at N'); (try (simp only [AllLt, and_true] at l1')); (try (simp only [AllLt, and_true] at l3')); (try k_fold)) | ((with_reducible show wpAny _ _ (truthy (Value.ref _)) _ _ _); k_here; k_dflt (refine' truthy_ints_fit (by exact PySem.IsL.isList (News.get (by k_asm) (by k_mem))) (by with_reducible assumption) (by omega) ?_); (simp only [decide_eq_true (by assumption : 0 < List.length _)])) | ((with_reducible show wpAny _ _ (call (Value.builtin _) [Value.ref _]) _ _ _); k_here; k_dflt (refine' len_ints_fit (by exact PySem.IsL.isList (News.get (by k_asm) (by k_mem))) (by with_reducible assumption) (by omega) ?_)) | ((with_reducible show wpAny _ _ (call (Value.ref _) [Value.int _ _, Value.int _ _] _) _ _ _); k_here; k_dflt (first | (refine' d2i_use2 (by with_reducible assumption) (by (k_asm)) (by (k_asm)) (by (k_asm)) (by (k_asm)) (by (k_asm)) (by (first | exact rfl | assumption)) (by (first | with_reducible assumption | exact CodeHd.keeps (by assumption) (Below.stays (by assumption)))) (by (with_reducible assumption)) (by (with_reducible assumption)) (by (with_reducible assumption)) (by (with_reducible assumption)) (by (with_reducible assumption)) (by (with_reducible assumption)) (by (with_reducible assumption)) (by (with_reducible assumption)) (by (with_reducible assumption)) (by (with_reducible assumption)) (by (with_reducible assumption)) (by (with_reducible assumption)) (by (exact toNat_fill (Int.le_of_lt (by with_reducible assumption)))) (by first | with_reducible assumption | exact q_le0 (by with_reducible assumption) (by with_reducible assumption) | omega) (by first | exact q_pos (by with_reducible assumption) | omega) (by first | with_reducible assumption | exact q_tr (by with_reducible assumption) (by with_reducible assumption) | exact q_l2 (by with_reducible assumption) (by with_reducible assumption) | ((omega))) (by first | with_reducible assumption | exact q_l3 (by with_reducible assumption) (by with_reducible assumption) | ((omega))) (by (with_reducible assumption)) (by (omega)) (by (omega)) (by first | exact q_dp1 (by with_reducible assumption) (by with_reducible assumption) (by with_reducible assumption) (by with_reducible assumption) | exact q_dp2 (by with_reducible assumption) (by with_reducible assumption) (by with_reducible assumption) (by with_reducible assumption) | ktr_room) (by first | exact q_un1 (by with_reducible assumption) (by with_reducible assumption) (by with_reducible assumption) (by with_reducible assumption) | exact q_un2 (by with_reducible assumption) (by with_reducible assumption) (by with_reducible assumption) (by with_reducible assumption) | ktr_units) (by first | exact q_lt1 (by with_reducible assumption) (by with_reducible assumption) (by with_reducible assumption) | exact q_lt2 (by with_reducible assumption) (by with_reducible assumption) (by with_reducible assumption) | omega) ?_; intro h9 tk9 t9 y9 F9 N9 hy9 hB9; (try dsimp only); (try k_fold)) | (refine' d2i_start2 (by (k_asm)) (by (k_asm)) (by (k_asm)) (by (k_asm)) (by (k_asm)) (by (first | exact rfl | assumption)) (by (first | with_reducible assumption | exact CodeHd.keeps (by assumption) (Below.stays (by assumption)))) (by (assumption)) (by (assumption)) (by (k_mem)) (by (k_mem)) (by (assumption)) (by (assumption)) (by (assumption)) (by (assumption)) (by (assumption)) (by (k_mem)) (by (k_mem)) (by (k_mem)) (by (k_mem)) (by (exact zfill _)) (by (decide)) (by (omega)) (by (omega)) (by (omega)) (by (omega)) (by (omega)) (by (ktr_room)) (by (ktr_units)) (by (intro d9 IH9; unfold D2i; intro lo hi' lt ht rest dp un gd cn' cs a ccd cl outer A₀ base h₀ L m s Q E B F X N T hk hC mf mc ma mi mn ml da di dn hcd hcv hi hlo hd0 hhi hle hds hx hn0 hn4 hdp hun hret; refine wpAny_call ?_; k_dflt kn_enter; (repeat' (first | (k_unfold; (try dsimp only)) | ((with_reducible show wpAny _ _ (exec (Stmt.FunctionDef _ _ _ _ _ _ _ _ _ _) _) _ _ _); k_here; k_dflt (refine' nestDef_K (by exact rfl) (by exact rfl) (by exact rfl) ?_); k_dflt (refine' nest_E3 ?z0F ?z0hT ?z0N ?z0T ?z0C ?z0cd ?z0l ?z0c ?z0q ?z0cl ?z0O ?z0B ?z0e8 ?z0P ?_; (case z0F => k_asm); (case z0hT => with_reducible assumption); (case z0N => k_asm); (case z0T => k_asm); (case z0C => first | with_reducible assumption | exact CodeHd.keeps (by assumption) (Below.stays (by assumption))); (case z0cd => exact rfl); (case z0l => exact rfl); (case z0c => exact rfl); (case z0q => first | exact rfl | decide +kernel); (case z0cl => exact rfl); (case z0O => with_reducible assumption); (case z0B => with_reducible assumption); (case z0P => decide); (case z0e8 => with_reducible assumption)); intro f' c' oc' vs' t' ct' dc' h' tk' F' N' d1' d2' g8' n1' n2' n3' m1' m2' m3' l1' l2' l3' p1' p2'; (try dsimp only at N'); (try (simp only [AllLt, and_true] at l1')); (try (simp only [AllLt, and_true] at l3')); (try k_fold)) | ((with_reducible show wpAny _ _ (truthy (Value.ref _)) _ _ _); k_here; k_dflt (refine' truthy_ints_fit (by exact PySem.IsL.isList (News.get (by k_asm) (by k_mem))) (by with_reducible assumption) (by omega) ?_); (simp only [decide_eq_true (by assumption : 0 < List.length _)])) | ((with_reducible show wpAny _ _ (call (Value.builtin _) [Value.ref _]) _ _ _); k_here; k_dflt (refine' len_ints_fit (by exact PySem.IsL.isList (News.get (by k_asm) (by k_mem))) (by with_reducible assumption) (by omega) ?_)) | ((with_reducible show wpAny _ _ (call (Value.ref _) [Value.int _ _, Value.int _ _] _) _ _ _); k_here; k_dflt (first | (refine' d2i_use2 (by with_reducible assumption) (by (k_asm)) (by (k_asm)) (by (k_asm)) (by (k_asm)) (by (k_asm)) (by (first | exact rfl | assumption)) (by (first | with_reducible assumption | exact CodeHd.keeps (by assumption) (Below.stays (by assumption)))) (by (with_reducible assumption)) (by (with_reducible assumption)) (by (with_reducible assumption)) (by (with_reducible assumption)) (by (with_reducible assumption)) (by (with_reducible assumption)) (by (with_reducible assumption)) (by (with_reducible assumption)) (by (with_reducible assumption)) (by (with_reducible assumption)) (by (with_reducible assumption)) (by (with_reducible assumption)) (by (exact toNat_fill (Int.le_of_lt (by with_reducible assumption)))) (by first | with_reducible assumption | exact q_le0 (by with_reducible assumption) (by with_reducible assumption) | omega) (by first | exact q_pos (by with_reducible assumption) | omega) (by first | with_reducible assumption | exact q_tr (by with_reducible assumption) (by with_reducible assumption) | exact q_l2 (by with_reducible assumption) (by with_reducible assumption) | ((omega))) (by first | with_reducible assumption | exact q_l3 (by with_reducible assumption) (by with_reducible assumption) | ((omega))) (by (with_reducible assumption)) (by (omega)) (by (omega)) (by first | exact q_dp1 (by with_reducible assumption) (by with_reducible assumption) (by with_reducible assumption) (by with_reducible assumption) | exact q_dp2 (by with_reducible assumption) (by with_reducible assumption) (by with_reducible assumption) (by with_reducible assumption) | ktr_room) (by first | exact q_un1 (by with_reducible assumption) (by with_reducible assumption) (by with_reducible assumption) (by with_reducible assumption) | exact q_un2 (by with_reducible assumption) (by with_reducible assumption) (by with_reducible assumption) (by with_reducible assumption) | ktr_units) (by first | exact q_lt1 (by with_reducible assumption) (by with_reducible assumption) (by with_reducible assumption) | exact q_lt2 (by with_reducible assumption) (by with_reducible assumption) (by with_reducible assumption) | omega) ?_; intro h9 tk9 t9 y9 F9 N9 hy9 hB9; (try dsimp only); (try k_fold)))) | ((with_reducible show wpAny _ _ (binaryOp .Mult (Value.int _ _) (Value.int _ _)) _ _ _); refine' mul_small2 (by omega) (by omega) (by omega) (by omega) ?_; intro pr9 hp19 hp29 hp39 hp49) | ((with_reducible show wpAny _ _ (binaryOp .LShift (Value.int _ _) (Value.int _ _)) _ _ _); refine' shl_by' (by with_reducible assumption) (by omega) (by omega) (by omega) ?_; intro hl29) | ((with_reducible show wpAny _ _ (binaryOp .RShift (Value.int _ _) (Value.int _ _)) _ _ _); first | ((with_reducible show wpAny _ _ (binaryOp .RShift (Value.int _ _) (Value.int 1 _)) _ _ _); refine' shr_mid (by omega) (by omega) ?_; intro mid9 hm19 hm29)) | (k_end; kc_close) | walk1 | (dsimp only; (first | ((with_reducible show wpAny _ _ (exec (Stmt.FunctionDef _ _ _ _ _ _ _ _ _ _) _) _ _ _); k_here; k_dflt (refine' nestDef_K (by exact rfl) (by exact rfl) (by exact rfl) ?_); k_dflt (refine' nest_E3 ?z0F ?z0hT ?z0N ?z0T ?z0C ?z0cd ?z0l ?z0c ?z0q ?z0cl ?z0O ?z0B ?z0e8 ?z0P ?_; (case z0F => k_asm); (case z0hT => with_reducible assumption); (case z0N => k_asm); (case z0T => k_asm); (case z0C => first | with_reducible assumption | exact CodeHd.keeps (by assumption) (Below.stays (by assumption))); (case z0cd => exact rfl); (case z0l => exact rfl); (case z0c => exact rfl); (case z0q => first | exact rfl | decide +kernel); (case z0cl => exact rfl); (case z0O => with_reducible assumption); (case z0B => with_reducible assumption); (case z0P => decide); (case z0e8 => with_reducible assumption)); intro f' c' oc' vs' t' ct' dc' h' tk' F' N' d1' d2' g8' n1' n2' n3' m1' m2' m3' l1' l2' l3' p1' p2'; (try dsimp only at N'); (try (simp only [AllLt, and_true] at l1')); (try (simp only [AllLt, and_true] at l3')); (try k_fold)) | ((with_reducible show wpAny _ _ (truthy (Value.ref _)) _ _ _); k_here; k_dflt (refine' truthy_ints_fit (by exact PySem.IsL.isList (News.get (by k_asm) (by k_mem))) (by with_reducible assumption) (by omega) ?_); (simp only [decide_eq_true (by assumption : 0 < List.length _)])) | ((with_reducible show wpAny _ _ (call (Value.builtin _) [Value.ref _]) _ _ _); k_here; k_dflt (refine' len_ints_fit (by exact PySem.IsL.isList (News.get (by k_asm) (by k_mem))) (by with_reducible assumption) (by omega) ?_)) | ((with_reducible show wpAny _ _ (call (Value.ref _) [Value.int _ _, Value.int _ _] _) _ _ _); k_here; k_dflt (first | (refine' d2i_use2 (by with_reducible assumption) (by (k_asm)) (by (k_asm)) (by (k_asm)) (by (k_asm)) (by (k_asm)) (by (first | exact rfl | assumption)) (by (first | with_reducible assumption | exact CodeHd.keeps (by assumption) (Below.stays (by assumption)))) (by (with_reducible assumption)) (by (with_reducible assumption)) (by (with_reducible assumption)) (by (with_reducible assumption)) (by (with_reducible assumption)) (by (with_reducible assumption)) (by (with_reducible assumption)) (by (with_reducible assumption)) (by (with_reducible assumption)) (by (with_reducible assumption)) (by (with_reducible assumption)) (by (with_reducible assumption)) (by (exact toNat_fill (Int.le_of_lt (by with_reducible assumption)))) (by first | with_reducible assumption | exact q_le0 (by with_reducible assumption) (by with_reducible assumption) | omega) (by first | exact q_pos (by with_reducible assumption) | omega) (by first | with_reducible assumption | exact q_tr (by with_reducible assumption) (by with_reducible assumption) | exact q_l2 (by with_reducible assumption) (by with_reducible assumption) | ((omega))) (by first | with_reducible assumption | exact q_l3 (by with_reducible assumption) (by with_reducible assumption) | ((omega))) (by (with_reducible assumption)) (by (omega)) (by (omega)) (by first | exact q_dp1 (by with_reducible assumption) (by with_reducible assumption) (by with_reducible assumption) (by with_reducible assumption) | exact q_dp2 (by with_reducible assumption) (by with_reducible assumption) (by with_reducible assumption) (by with_reducible assumption) | ktr_room) (by first | exact q_un1 (by with_reducible assumption) (by with_reducible assumption) (by with_reducible assumption) (by with_reducible assumption) | exact q_un2 (by with_reducible assumption) (by with_reducible assumption) (by with_reducible assumption) (by with_reducible assumption) | ktr_units) (by first | exact q_lt1 (by with_reducible assumption) (by with_reducible assumption) (by with_reducible assumption) | exact q_lt2 (by with_reducible assumption) (by with_reducible assumption) (by with_reducible assumption) | omega) ?_; intro h9 tk9 t9 y9 F9 N9 hy9 hB9; (try dsimp only); (try k_fold)))) | ((with_reducible show wpAny _ _ (binaryOp .Mult (Value.int _ _) (Value.int _ _)) _ _ _); refine' mul_small2 (by omega) (by omega) (by omega) (by omega) ?_; intro pr9 hp19 hp29 hp39 hp49) | ((with_reducible show wpAny _ _ (binaryOp .LShift (Value.int _ _) (Value.int _ _)) _ _ _); refine' shl_by' (by with_reducible assumption) (by omega) (by omega) (by omega) ?_; intro hl29) | ((with_reducible show wpAny _ _ (binaryOp .RShift (Value.int _ _) (Value.int _ _)) _ _ _); first | ((with_reducible show wpAny _ _ (binaryOp .RShift (Value.int _ _) (Value.int 1 _)) _ _ _); refine' shr_mid (by omega) (by omega) ?_; intro mid9 hm19 hm29)) | walk1)) | (leave1; (try dsimp only)) | fail "no step")); all_goals first  | (refine' hret _ _ _ _ ?z3sf ?z3sn ?z3se ?z3sb; (case z3sf => (k_asm)); (case z3sn => (assumption)); (case z3se => ((rw [show d9 = 1 by omega]; exact d2i_one (by omega)))); (case z3sb => (exact Bnd.mono (hx _ (getD_mem (by omega))) (by omega))))  | (refine' hret _ _ _ _ ?z3sf ?z3sn ?z3se ?z3sb; (case z3sf => (k_asm)); (case z3sn => (assumption)); (case z3se => ((rw [show d9 = (hi' - lo).toNat by omega]; refine' d2i_join hn0 hlo ?z3m1 ?z3m2 hle ?z3m3 ?z3m4 ?z3m5; (case z3m3 => with_reducible assumption); (case z3m4 => with_reducible assumption); (case z3m5 => with_reducible assumption); (case z3m1 => omega); (case z3m2 => omega)))); (case z3sb => (exact Bnd.mono (bits_add (by with_reducible assumption) (by with_reducible assumption)) (by omega))))  | fail "x")) ?_; intro h9 tk9 t9 y9 F9 N9 hy9 hB9; (try dsimp only); (try k_fold)) | fail "x")) | ((with_reducible show wpAny _ _ (binaryOp .Mult (Value.int _ _) (Value.int _ _)) _ _ _); refine' mul_small2 (by omega) (by omega) (by omega) (by omega) ?_; intro pr9 hp19 hp29 hp39 hp49) | ((with_reducible show wpAny _ _ (binaryOp .LShift (Value.int _ _) (Value.int _ _)) _ _ _); refine' shl_by' (by with_reducible assumption) (by omega) (by omega) (by omega) ?_; intro hl29) | ((with_reducible show wpAny _ _ (binaryOp .RShift (Value.int _ _) (Value.int _ _)) _ _ _); first | ((with_reducible show wpAny _ _ (binaryOp .RShift (Value.int _ _) (Value.int 1 _)) _ _ _); refine' shr_mid (by omega) (by omega) ?_; intro mid9 hm19 hm29)) | (k_end; kc_close) | walk1 | (dsimp only; (first | ((with_reducible show wpAny _ _ (exec (Stmt.FunctionDef _ _ _ _ _ _ _ _ _ _) _) _ _ _); k_here; k_dflt (refine' nestDef_K (by exact rfl) (by exact rfl) (by exact rfl) ?_); k_dflt (refine' nest_E3 ?z0F ?z0hT ?z0N ?z0T ?z0C ?z0cd ?z0l ?z0c ?z0q ?z0cl ?z0O ?z0B ?z0e8 ?z0P ?_; (case z0F => k_asm); (case z0hT => with_reducible assumption); (case z0N => k_asm); (case z0T => k_asm); (case z0C => first | with_reducible assumption | exact CodeHd.keeps (by assumption) (Below.stays (by assumption))); (case z0cd => exact rfl); (case z0l => exact rfl); (case z0c => exact rfl); (case z0q => first | exact rfl | decide +kernel); (case z0cl => exact rfl); (case z0O => with_reducible assumption); (case z0B => with_reducible assumption); (case z0P => decide); (case z0e8 => with_reducible assumption)); intro f' c' oc' vs' t' ct' dc' h' tk' F' N' d1' d2' g8' n1' n2' n3' m1' m2' m3' l1' l2' l3' p1' p2'; (try dsimp only at N'); (try (simp only [AllLt, and_true] at l1')); (try (simp only [AllLt, and_true] at l3')); (try k_fold)) | ((with_reducible show wpAny _ _ (truthy (Value.ref _)) _ _ _); k_here; k_dflt (refine' truthy_ints_fit (by exact PySem.IsL.isList (News.get (by k_asm) (by k_mem))) (by with_reducible assumption) (by omega) ?_); (simp only [decide_eq_true (by assumption : 0 < List.length _)])) | ((with_reducible show wpAny _ _ (call (Value.builtin _) [Value.ref _]) _ _ _); k_here; k_dflt (refine' len_ints_fit (by exact PySem.IsL.isList (News.get (by k_asm) (by k_mem))) (by with_reducible assumption) (by omega) ?_)) | ((with_reducible show wpAny _ _ (call (Value.ref _) [Value.int _ _, Value.int _ _] _) _ _ _); k_here; k_dflt (first | (refine' d2i_use2 (by with_reducible assumption) (by (k_asm)) (by (k_asm)) (by (k_asm)) (by (k_asm)) (by (k_asm)) (by (first | exact rfl | assumption)) (by (first | with_reducible assumption | exact CodeHd.keeps (by assumption) (Below.stays (by assumption)))) (by (with_reducible assumption)) (by (with_reducible assumption)) (by (with_reducible assumption)) (by (with_reducible assumption)) (by (with_reducible assumption)) (by (with_reducible assumption)) (by (with_reducible assumption)) (by (with_reducible assumption)) (by (with_reducible assumption)) (by (with_reducible assumption)) (by (with_reducible assumption)) (by (with_reducible assumption)) (by (exact toNat_fill (Int.le_of_lt (by with_reducible assumption)))) (by first | with_reducible assumption | exact q_le0 (by with_reducible assumption) (by with_reducible assumption) | omega) (by first | exact q_pos (by with_reducible assumption) | omega) (by first | with_reducible assumption | exact q_tr (by with_reducible assumption) (by with_reducible assumption) | exact q_l2 (by with_reducible assumption) (by with_reducible assumption) | ((omega))) (by first | with_reducible assumption | exact q_l3 (by with_reducible assumption) (by with_reducible assumption) | ((omega))) (by (with_reducible assumption)) (by (omega)) (by (omega)) (by first | exact q_dp1 (by with_reducible assumption) (by with_reducible assumption) (by with_reducible assumption) (by with_reducible assumption) | exact q_dp2 (by with_reducible assumption) (by with_reducible assumption) (by with_reducible assumption) (by with_reducible assumption) | ktr_room) (by first | exact q_un1 (by with_reducible assumption) (by with_reducible assumption) (by with_reducible assumption) (by with_reducible assumption) | exact q_un2 (by with_reducible assumption) (by with_reducible assumption) (by with_reducible assumption) (by with_reducible assumption) | ktr_units) (by first | exact q_lt1 (by with_reducible assumption) (by with_reducible assumption) (by with_reducible assumption) | exact q_lt2 (by with_reducible assumption) (by with_reducible assumption) (by with_reducible assumption) | omega) ?_; intro h9 tk9 t9 y9 F9 N9 hy9 hB9; (try dsimp only); (try k_fold)) | (refine' d2i_start2 (by (k_asm)) (by (k_asm)) (by (k_asm)) (by (k_asm)) (by (k_asm)) (by (first | exact rfl | assumption)) (by (first | with_reducible assumption | exact CodeHd.keeps (by assumption) (Below.stays (by assumption)))) (by (assumption)) (by (assumption)) (by (k_mem)) (by (k_mem)) (by (assumption)) (by (assumption)) (by (assumption)) (by (assumption)) (by (assumption)) (by (k_mem)) (by (k_mem)) (by (k_mem)) (by (k_mem)) (by (exact zfill _)) (by (decide)) (by (omega)) (by (omega)) (by (omega)) (by (omega)) (by (omega)) (by (ktr_room)) (by (ktr_units)) (by (intro d9 IH9; unfold D2i; intro lo hi' lt ht rest dp un gd cn' cs a ccd cl outer A₀ base h₀ L m s Q E B F X N T hk hC mf mc ma mi mn ml da di dn hcd hcv hi hlo hd0 hhi hle hds hx hn0 hn4 hdp hun hret; refine wpAny_call ?_; k_dflt kn_enter; (repeat' (first | (k_unfold; (try dsimp only)) | ((with_reducible show wpAny _ _ (exec (Stmt.FunctionDef _ _ _ _ _ _ _ _ _ _) _) _ _ _); k_here; k_dflt (refine' nestDef_K (by exact rfl) (by exact rfl) (by exact rfl) ?_); k_dflt (refine' nest_E3 ?z0F ?z0hT ?z0N ?z0T ?z0C ?z0cd ?z0l ?z0c ?z0q ?z0cl ?z0O ?z0B ?z0e8 ?z0P ?_; (case z0F => k_asm); (case z0hT => with_reducible assumption); (case z0N => k_asm); (case z0T => k_asm); (case z0C => first | with_reducible assumption | exact CodeHd.keeps (by assumption) (Below.stays (by assumption))); (case z0cd => exact rfl); (case z0l => exact rfl); (case z0c => exact rfl); (case z0q => first | exact rfl | decide +kernel); (case z0cl => exact rfl); (case z0O => with_reducible assumption); (case z0B => with_reducible assumption); (case z0P => decide); (case z0e8 => with_reducible assumption)); intro f' c' oc' vs' t' ct' dc' h' tk' F' N' d1' d2' g8' n1' n2' n3' m1' m2' m3' l1' l2' l3' p1' p2'; (try dsimp only at N'); (try (simp only [AllLt, and_true] at l1')); (try (simp only [AllLt, and_true] at l3')); (try k_fold)) | ((with_reducible show wpAny _ _ (truthy (Value.ref _)) _ _ _); k_here; k_dflt (refine' truthy_ints_fit (by exact PySem.IsL.isList (News.get (by k_asm) (by k_mem))) (by with_reducible assumption) (by omega) ?_); (simp only [decide_eq_true (by assumption : 0 < List.length _)])) | ((with_reducible show wpAny _ _ (call (Value.builtin _) [Value.ref _]) _ _ _); k_here; k_dflt (refine' len_ints_fit (by exact PySem.IsL.isList (News.get (by k_asm) (by k_mem))) (by with_reducible assumption) (by omega) ?_)) | ((with_reducible show wpAny _ _ (call (Value.ref _) [Value.int _ _, Value.int _ _] _) _ _ _); k_here; k_dflt (first | (refine' d2i_use2 (by with_reducible assumption) (by (k_asm)) (by (k_asm)) (by (k_asm)) (by (k_asm)) (by (k_asm)) (by (first | exact rfl | assumption)) (by (first | with_reducible assumption | exact CodeHd.keeps (by assumption) (Below.stays (by assumption)))) (by (with_reducible assumption)) (by (with_reducible assumption)) (by (with_reducible assumption)) (by (with_reducible assumption)) (by (with_reducible assumption)) (by (with_reducible assumption)) (by (with_reducible assumption)) (by (with_reducible assumption)) (by (with_reducible assumption)) (by (with_reducible assumption)) (by (with_reducible assumption)) (by (with_reducible assumption)) (by (exact toNat_fill (Int.le_of_lt (by with_reducible assumption)))) (by first | with_reducible assumption | exact q_le0 (by with_reducible assumption) (by with_reducible assumption) | omega) (by first | exact q_pos (by with_reducible assumption) | omega) (by first | with_reducible assumption | exact q_tr (by with_reducible assumption) (by with_reducible assumption) | exact q_l2 (by with_reducible assumption) (by with_reducible assumption) | ((omega))) (by first | with_reducible assumption | exact q_l3 (by with_reducible assumption) (by with_reducible assumption) | ((omega))) (by (with_reducible assumption)) (by (omega)) (by (omega)) (by first | exact q_dp1 (by with_reducible assumption) (by with_reducible assumption) (by with_reducible assumption) (by with_reducible assumption) | exact q_dp2 (by with_reducible assumption) (by with_reducible assumption) (by with_reducible assumption) (by with_reducible assumption) | ktr_room) (by first | exact q_un1 (by with_reducible assumption) (by with_reducible assumption) (by with_reducible assumption) (by with_reducible assumption) | exact q_un2 (by with_reducible assumption) (by with_reducible assumption) (by with_reducible assumption) (by with_reducible assumption) | ktr_units) (by first | exact q_lt1 (by with_reducible assumption) (by with_reducible assumption) (by with_reducible assumption) | exact q_lt2 (by with_reducible assumption) (by with_reducible assumption) (by with_reducible assumption) | omega) ?_; intro h9 tk9 t9 y9 F9 N9 hy9 hB9; (try dsimp only); (try k_fold)))) | ((with_reducible show wpAny _ _ (binaryOp .Mult (Value.int _ _) (Value.int _ _)) _ _ _); refine' mul_small2 (by omega) (by omega) (by omega) (by omega) ?_; intro pr9 hp19 hp29 hp39 hp49) | ((with_reducible show wpAny _ _ (binaryOp .LShift (Value.int _ _) (Value.int _ _)) _ _ _); refine' shl_by' (by with_reducible assumption) (by omega) (by omega) (by omega) ?_; intro hl29) | ((with_reducible show wpAny _ _ (binaryOp .RShift (Value.int _ _) (Value.int _ _)) _ _ _); first | ((with_reducible show wpAny _ _ (binaryOp .RShift (Value.int _ _) (Value.int 1 _)) _ _ _); refine' shr_mid (by omega) (by omega) ?_; intro mid9 hm19 hm29)) | (k_end; kc_close) | walk1 | (dsimp only; (first | ((with_reducible show wpAny _ _ (exec (Stmt.FunctionDef _ _ _ _ _ _ _ _ _ _) _) _ _ _); k_here; k_dflt (refine' nestDef_K (by exact rfl) (by exact rfl) (by exact rfl) ?_); k_dflt (refine' nest_E3 ?z0F ?z0hT ?z0N ?z0T ?z0C ?z0cd ?z0l ?z0c ?z0q ?z0cl ?z0O ?z0B ?z0e8 ?z0P ?_; (case z0F => k_asm); (case z0hT => with_reducible assumption); (case z0N => k_asm); (case z0T => k_asm); (case z0C => first | with_reducible assumption | exact CodeHd.keeps (by assumption) (Below.stays (by assumption))); (case z0cd => exact rfl); (case z0l => exact rfl); (case z0c => exact rfl); (case z0q => first | exact rfl | decide +kernel); (case z0cl => exact rfl); (case z0O => with_reducible assumption); (case z0B => with_reducible assumption); (case z0P => decide); (case z0e8 => with_reducible assumption)); intro f' c' oc' vs' t' ct' dc' h' tk' F' N' d1' d2' g8' n1' n2' n3' m1' m2' m3' l1' l2' l3' p1' p2'; (try dsimp only at N'); (try (simp only [AllLt, and_true] at l1')); (try (simp only [AllLt, and_true] at l3')); (try k_fold)) | ((with_reducible show wpAny _ _ (truthy (Value.ref _)) _ _ _); k_here; k_dflt (refine' truthy_ints_fit (by exact PySem.IsL.isList (News.get (by k_asm) (by k_mem))) (by with_reducible assumption) (by omega) ?_); (simp only [decide_eq_true (by assumption : 0 < List.length _)])) | ((with_reducible show wpAny _ _ (call (Value.builtin _) [Value.ref _]) _ _ _); k_here; k_dflt (refine' len_ints_fit (by exact PySem.IsL.isList (News.get (by k_asm) (by k_mem))) (by with_reducible assumption) (by omega) ?_)) | ((with_reducible show wpAny _ _ (call (Value.ref _) [Value.int _ _, Value.int _ _] _) _ _ _); k_here; k_dflt (first | (refine' d2i_use2 (by with_reducible assumption) (by (k_asm)) (by (k_asm)) (by (k_asm)) (by (k_asm)) (by (k_asm)) (by (first | exact rfl | assumption)) (by (first | with_reducible assumption | exact CodeHd.keeps (by assumption) (Below.stays (by assumption)))) (by (with_reducible assumption)) (by (with_reducible assumption)) (by (with_reducible assumption)) (by (with_reducible assumption)) (by (with_reducible assumption)) (by (with_reducible assumption)) (by (with_reducible assumption)) (by (with_reducible assumption)) (by (with_reducible assumption)) (by (with_reducible assumption)) (by (with_reducible assumption)) (by (with_reducible assumption)) (by (exact toNat_fill (Int.le_of_lt (by with_reducible assumption)))) (by first | with_reducible assumption | exact q_le0 (by with_reducible assumption) (by with_reducible assumption) | omega) (by first | exact q_pos (by with_reducible assumption) | omega) (by first | with_reducible assumption | exact q_tr (by with_reducible assumption) (by with_reducible assumption) | exact q_l2 (by with_reducible assumption) (by with_reducible assumption) | ((omega))) (by first | with_reducible assumption | exact q_l3 (by with_reducible assumption) (by with_reducible assumption) | ((omega))) (by (with_reducible assumption)) (by (omega)) (by (omega)) (by first | exact q_dp1 (by with_reducible assumption) (by with_reducible assumption) (by with_reducible assumption) (by with_reducible assumption) | exact q_dp2 (by with_reducible assumption) (by with_reducible assumption) (by with_reducible assumption) (by with_reducible assumption) | ktr_room) (by first | exact q_un1 (by with_reducible assumption) (by with_reducible assumption) (by with_reducible assumption) (by with_reducible assumption) | exact q_un2 (by with_reducible assumption) (by with_reducible assumption) (by with_reducible assumption) (by with_reducible assumption) | ktr_units) (by first | exact q_lt1 (by with_reducible assumption) (by with_reducible assumption) (by with_reducible assumption) | exact q_lt2 (by with_reducible assumption) (by with_reducible assumption) (by with_reducible assumption) | omega) ?_; intro h9 tk9 t9 y9 F9 N9 hy9 hB9; (try dsimp only); (try k_fold)))) | ((with_reducible show wpAny _ _ (binaryOp .Mult (Value.int _ _) (Value.int _ _)) _ _ _); refine' mul_small2 (by omega) (by omega) (by omega) (by omega) ?_; intro pr9 hp19 hp29 hp39 hp49) | ((with_reducible show wpAny _ _ (binaryOp .LShift (Value.int _ _) (Value.int _ _)) _ _ _); refine' shl_by' (by with_reducible assumption) (by omega) (by omega) (by omega) ?_; intro hl29) | ((with_reducible show wpAny _ _ (binaryOp .RShift (Value.int _ _) (Value.int _ _)) _ _ _); first | ((with_reducible show wpAny _ _ (binaryOp .RShift (Value.int _ _) (Value.int 1 _)) _ _ _); refine' shr_mid (by omega) (by omega) ?_; intro mid9 hm19 hm29)) | walk1)) | (leave1; (try dsimp only)) | fail "no step")); all_goals first  | (refine' hret _ _ _ _ ?z3sf ?z3sn ?z3se ?z3sb; (case z3sf => (k_asm)); (case z3sn => (assumption)); (case z3se => ((rw [show d9 = 1 by omega]; exact d2i_one (by omega)))); (case z3sb => (exact Bnd.mono (hx _ (getD_mem (by omega))) (by omega))))  | (refine' hret _ _ _ _ ?z3sf ?z3sn ?z3se ?z3sb; (case z3sf => (k_asm)); (case z3sn => (assumption)); (case z3se => ((rw [show d9 = (hi' - lo).toNat by omega]; refine' d2i_join hn0 hlo ?z3m1 ?z3m2 hle ?z3m3 ?z3m4 ?z3m5; (case z3m3 => with_reducible assumption); (case z3m4 => with_reducible assumption); (case z3m5 => with_reducible assumption); (case z3m1 => omega); (case z3m2 => omega)))); (case z3sb => (exact Bnd.mono (bits_add (by with_reducible assumption) (by with_reducible assumption)) (by omega))))  | fail "x")) ?_; intro h9 tk9 t9 y9 F9 N9 hy9 hB9; (try dsimp only); (try k_fold)) | fail "x")) | ((with_reducible show wpAny _ _ (binaryOp .Mult (Value.int _ _) (Value.int _ _)) _ _ _); refine' mul_small2 (by omega) (by omega) (by omega) (by omega) ?_; intro pr9 hp19 hp29 hp39 hp49) | ((with_reducible show wpAny _ _ (binaryOp .LShift (Value.int _ _) (Value.int _ _)) _ _ _); refine' shl_by' (by with_reducible assumption) (by omega) (by omega) (by omega) ?_; intro hl29) | ((with_reducible show wpAny _ _ (binaryOp .RShift (Value.int _ _) (Value.int _ _)) _ _ _); first | ((with_reducible show wpAny _ _ (binaryOp .RShift (Value.int _ _) (Value.int 1 _)) _ _ _); refine' shr_mid (by omega) (by omega) ?_; intro mid9 hm19 hm29)) | walk1)) | (leave1; (try dsimp only)) | fail "no step")
  all_goals first
    | ((refine' hret _ _ _ _ _ ?nf (.inr ⟨?c, ?oc, ?vs, ?t, rfl, ?d, ?v, ?lt⟩) ?nn ?ns); (case nf => k_asm); (case d => assumption); (case v => assumption); (case nn => refine news_sub (by assumption) ?_; refine List.forall_mem_cons.mpr ⟨?m1, List.forall_mem_cons.mpr ⟨?m2, ?m3⟩⟩; (case m2 => k_mem); (case m1 => k_mem); (case m3 => intro p9 hp9; repeat (first | exact hp9 | apply List.mem_cons_of_mem))); (case lt => omega); (case ns => first | ((with_reducible rename (_ = dsum _ _) => e29); rw [e29]; exact (whole_list _ _).symm)))
    | fail "x"
end
/-! C_div -/
section

open Builtin.Int (intBits)
theorem log2_bnd {y : Int} (h : Bnd 400 y) : y.natAbs.log2 < 9000 := by
  have h1 := h.2
  unfold Builtin.Int.intBits at h1
  by_cases hy : y = 0
  · subst hy; decide
  · rw [if_neg (by simpa using hy)] at h1; omega
theorem divmodK {prog : Program} {w : World} {A : Around} {E : Value → Shared → Prop} {s : Shared} {h₀ : Heap} {L : Addr} {m : Str → Option Value} {news : List (Addr × Obj)} {a b : Int} {t u : Tok} {Q : Value → Shared → Prop} (F : Fr h₀ L s.heap m) (N : News h₀ L s.heap news) (hb : 0 < b) (hB : Bnd 400 b)
    (h : ∀ D h' t1 t2 tk, Fr h₀ L h' m → News h₀ L h' ((D, { cls := .type "tuple", data := .seq #[.int (a.fdiv b) t1, .int (a.fmod b) t2] }) :: news) → (∀ p ∈ news, p.1 < D) → Q (.ref D) { s with toks := tk, heap := h' }) :
    wpAny (model prog w) A (call (.builtin "divmod") [.int a t, .int b u]) Q E s :=
  divmod_N F N (by omega) (fun h' F' N' => h _ h' _ _ _ F' N' fun p hp => Heap.lt_size (N p hp).1) (Or.inl (PyProof.noPylong_of_log2 (log2_bnd hB)))
theorem div_c {prog : Program} {p : Program} {loose : List Str} {mean : ExcName → Option Value} {mg mb : Str → Option Value} (w : World) : ∀ (x y n : Int) (xt yt nt : Tok) (rest : List (Addr × Obj)) (dp un : Nat) (gd : Option (List Code)) (cn : Str) (cs : Scope) (a : Addr) (ccd : Value) (cl : List (Str × Addr)) (outer : List Env) (A₀ : Around) (base h₀ : Heap) (L : Addr) (m : Str → Option Value) (s : Shared) (Q E : Value → Shared → Prop),
    Below A₀ base outer h₀ → Fr h₀ L s.heap m → (hd.heap_1 w.params).In h₀ → News h₀ L s.heap (rest) → Top p loose mean mg mb h₀ → cs.kind = .function → 80 < L →
    dp + 20 < recursionLimit → un + 200 < cLine → Bnd 4000 x → Bnd 400 y → 0 < y → 0 ≤ n → 
    (∀ (D : Addr) (h' : Heap) (tk' : Nat) (t1 t2 : Tok), Fr h₀ L h' m → News h₀ L h' ((D, ({ cls := .type "tuple", data := .seq #[.int (x.fdiv y) t1, .int (x.fmod y) t2] } : Obj)) :: rest) → (∀ p ∈ rest, p.1 < D) → Q (.ref D) { s with heap := h', toks := tk' }) →
      wpAny (model prog w) (ktrTop dp un gd cn cs L a ccd cl outer) (call (.ref 57) [.int x xt, .int y yt, .int n nt]) Q E s := by
  w_top off
  intro x y n xt yt nt rest dp un gd cn cs a ccd cl outer A₀ base h₀ L m s Q E B F X N T hk hL hd hu hx hy hy0 hn hret
  have hle : ((intBits x : Int) - n ≤ 4000) := by have := hx.2; omega
  refine wpAny_call ?_
  k_dflt k_enter
  repeat' (first | (k_unfold; (try dsimp only)) | ((with_reducible show @ite _ _ _ _ _); (with_reducible rename ((Builtin.Int.intBits _ : Int) - _ ≤ 4000) => e9); k_dflt (refine ite_pos (by simpa using e9) ?_)) | ((with_reducible show wpAny _ _ (call (Value.builtin "divmod") _ _) _ _ _); k_here; k_dflt (refine' divmodK (by k_asm) (by k_asm) (by with_reducible assumption) (by with_reducible assumption) ?_; intro D9 h9 t19 t29 tk9 F9 N9 l9; (try k_lt l9))) | (k_end; kc_close) | walk1 | (dsimp only; (first | ((with_reducible show @ite _ _ _ _ _); (with_reducible rename ((Builtin.Int.intBits _ : Int) - _ ≤ 4000) => e9); k_dflt (refine ite_pos (by simpa using e9) ?_)) | ((with_reducible show wpAny _ _ (call (Value.builtin "divmod") _ _) _ _ _); k_here; k_dflt (refine' divmodK (by k_asm) (by k_asm) (by with_reducible assumption) (by with_reducible assumption) ?_; intro D9 h9 t19 t29 tk9 F9 N9 l9; (try k_lt l9))) | walk1)) | (leave1; (try dsimp only)) | fail "no step")
  all_goals first
    | (refine' hret _ _ _ _ _ ?f9 ?n9 ?l9; (case f9 => k_asm); (case n9 => k_asm); (case l9 => exact allLt_mem (by with_reducible assumption)))
    | (fail "x")
end
/-! C_dmp -/
section

open Builtin.Int (intBits)

noncomputable def horner (B : Int) (l : List Int) : Int := l.foldl (fun a d => a * B + d) 0
theorem horner_snoc (B : Int) (l : List Int) (d : Int) : horner B (l ++ [d]) = horner B l * B + d := by simp [horner]
theorem dsum_horner (B : Int) : ∀ l : List Int, dsum B l = horner B l.reverse
  | [] => rfl
  | d :: r => by rw [List.reverse_cons, horner_snoc, ← dsum_horner B r]; simp only [dsum]; rw [Int.mul_comm]; omega
theorem take_snoc {l : List Int} {i : Nat} {d : Int} (h : l[i]? = some d) : l.take (i + 1) = l.take i ++ [d] := by
  rw [List.take_add_one, h]; rfl
/-- one turn of the long division -/
theorem div_turn {B b q r d q' r' v : Int} (hb : 0 < b) (h : v = q * b + r) (hq : q' = (r * B + d).fdiv b) (hr : r' = (r * B + d).fmod b) : v * B + d = (q * B + q') * b + r' ∧ 0 ≤ r' ∧ r' < b := by
  have h1 := Int.mul_fdiv_add_fmod (r * B + d) b
  rw [← hq, ← hr] at h1
  refine ⟨?_, ?_, ?_⟩
  · rw [h, Int.add_mul, Int.add_mul, Int.mul_assoc, Int.mul_comm b B, ← Int.mul_assoc, Int.mul_comm q' b]; omega
  · rw [hr, Int.fmod_eq_emod_of_nonneg _ (by omega)]; exact Int.emod_nonneg _ (by omega)
  · rw [hr, Int.fmod_eq_emod_of_nonneg _ (by omega)]; exact Int.emod_lt_of_pos _ hb
theorem div_done {a b q r : Int} (hb : 0 < b) (h : a = q * b + r) (h0 : 0 ≤ r) (h1 : r < b) : q = a.fdiv b ∧ r = a.fmod b := by
  have e1 : a.fdiv b = a / b := Int.fdiv_eq_ediv_of_nonneg _ (by omega)
  have e2 : a.fmod b = a % b := Int.fmod_eq_emod_of_nonneg _ (by omega)
  rw [e1, e2]
  have := (Int.ediv_emod_unique (a := a) (r := r) (q := q) hb).mpr ⟨by rw [h, Int.mul_comm]; omega, h0, h1⟩
  exact ⟨this.1.symm, this.2.symm⟩
theorem ints_at {vs : List Value} {ns : List Int} (h : IntsAre vs ns) {i : Nat} {v : Value} (hv : vs[i]? = some v) : ∃ n t, v = .int n t ∧ ns[i]? = some n := by
  induction h generalizing i with
  | nil => simp at hv
  | cons n t _ ih =>
    cases i with
    | zero => simp at hv; exact ⟨n, t, hv.symm, by simp⟩
    | succ i => simp at hv; obtain ⟨n', t', e1, e2⟩ := ih hv; exact ⟨n', t', e1, by simpa using e2⟩
theorem ints_rev {vs : List Value} {ns : List Int} (h : IntsAre vs ns) : IntsAre vs.reverse ns.reverse := by
  induction h with
  | nil => exact .nil
  | cons n t _ ih => rw [List.reverse_cons, List.reverse_cons]; exact IntsAre.append ih (.cons n t .nil)
structure DivSt where
  qd : Option Value
  r : Int
  rt : Tok
  qs : Array Value
  qe : Nat
noncomputable def DivInv (B b : Int) (rd : List Int) (i : Nat) (a : DivSt) : Prop :=
  ∃ qi, IntsAre a.qs.toList qi ∧ qi.length = i ∧ horner B (rd.take i) = horner B qi * b + a.r ∧ 0 ≤ a.r ∧ a.r < b ∧ ∀ y ∈ qi, Bnd 8000 y
theorem bnd_lt {m : Nat} {r b : Int} (h0 : 0 ≤ r) (h1 : r < b) (hb : Bnd m b) : Bnd m r := hb.le h0 (by omega)
theorem bnd_fdiv {m : Nat} {a b : Int} (ha : Bnd m a) (hb : 0 < b) : Bnd m (a.fdiv b) := by
  rw [Int.fdiv_eq_ediv_of_nonneg _ (by omega)]
  exact ha.le (Int.ediv_nonneg ha.1 (by omega)) (Int.ediv_le_self _ ha.1)
theorem num_bnd {y r d : Int} (hy : Bnd 390 y) (h0 : 0 ≤ r) (h1 : r < y) (hd : Bnd 3000 d) : Bnd 4000 (r * 2 ^ (Int.toNat (intBits y)) + d) := by
  have h2 := hy.2
  have h3 := bits_add (bits_shl (k := Int.toNat (intBits y)) (bnd_lt h0 h1 hy)) hd
  exact h3.mono (by have : Int.toNat (intBits y) ≤ 390 := by omega
                    omega)
theorem div_step {B y : Int} {rd : List Int} {i : Nat} {a : DivSt} {d : Int} {q' r' : Int} {qt rt' : Tok} {qd' : Option Value} {qe' : Nat} (hy : 0 < y) (hn : rd[i]? = some d) (hj : DivInv B y rd i a)
    (hq : q' = (a.r * B + d).fdiv y) (hr : r' = (a.r * B + d).fmod y) (hB : Bnd 4000 (a.r * B + d)) : DivInv B y rd (i + 1) ⟨qd', r', rt', a.qs.push (.int q' qt), qe'⟩ := by
  obtain ⟨qi, h1, h2, h3, h4, h5, h6⟩ := hj
  have ⟨k1, k2, k3⟩ := div_turn (B := B) (d := d) hy h3 hq hr
  refine ⟨qi ++ [q'], ?_, by simp [h2], ?_, k2, k3, ?_⟩
  · rw [Array.toList_push]; exact IntsAre.append h1 (.cons _ _ .nil)
  · rw [take_snoc hn, horner_snoc, horner_snoc]; exact k1
  · intro z hz
    rcases List.mem_append.mp hz with hz | hz
    · exact h6 z hz
    · rw [List.mem_singleton.mp hz, hq]; exact (bnd_fdiv hB hy).mono (by decide)
theorem IntsAre.revArr {vs : List Value} {ns : List Int} (h : IntsAre vs ns) : IntsAre vs.reverse ns.reverse := ints_rev h
theorem rev_all {P : Int → Prop} {l : List Int} (h : ∀ y ∈ l, P y) : ∀ y ∈ l.reverse, P y := fun y hy => h y (List.mem_reverse.mp hy)
theorem rev_pos {a b : List Int} (h : a.length = b.length) (hb : 0 < b.length) : 0 < a.reverse.length := by rw [List.length_reverse]; omega
theorem rev_le {a b : List Int} (h : a.length = b.length) (hb : b.length ≤ 390) : a.reverse.length ≤ 390 := by rw [List.length_reverse]; omega
theorem dsum_pos {B : Int} {l : List Int} {x : Int} (h : dsum B l = x) (hx : 0 < x) : 0 < l.length := by
  cases l with
  | nil => simp [dsum] at h; omega
  | cons => simp
theorem dmp_end {B x y q r : Int} {ds qi : List Int} (hy : 0 < y) (h1 : dsum B ds = x) (h2 : horner B ds.reverse = horner B qi * y + r) (h3 : 0 ≤ r) (h4 : r < y) (h5 : q = dsum B qi.reverse) : q = x.fdiv y ∧ r = x.fmod y := by
  refine div_done hy ?_ h3 h4
  rw [h5, dsum_horner, List.reverse_reverse, ← h2, ← dsum_horner, h1]
theorem dmp_loop {prog : Program} {w : World} {A : Around} {E : Value → Shared → Prop} {s : Shared} {env : Env} {h₀ : Heap} {x : Str} {px : Pos} {body : List Stmt} {Q : Flow → Shared → Prop}
    {l D ql : Addr} {vs : List Value} {ds : List Int} {ep qe₀ : Nat} {X : List (Addr × Obj)} {m₀ : Str → Option Value} {rt₀ : Tok} {b : Int} (hn1 : 1 ≤ intBits b) (hy : Bnd 390 b) (hb : 0 < b) (hd : ∀ y ∈ ds, Bnd 3000 y) (hlm : ds.length ≤ 390)
    (hh : A.handled = none) (hx : env.kindOf x = some .local) (hp : (env.scope.kind == .class || (env.scope.kind == .module && env.locals != env.globals)) = false)
    (hE : PassesOwn (model prog w) A env E) (F : Fr h₀ env.locals s.heap m₀)
    (N : News h₀ env.locals s.heap ((D, revObj l ((vs.length : Int) - 1)) :: (ql, W.listOf #[] qe₀) :: (l, W.listOf vs.toArray ep) :: X))
    (hI : IntsAre vs ds) (hql : ql < D) (hl : l < D) (hX : AllLt D X)
    (hr0 : m₀ (Str.ofString "r") = some (.int 0 rt₀)) (hq0 : m₀ (Str.ofString "q_digit") = none)
    (turn : ∀ i n t (a : DivSt) o h tk dr, n ∈ ds → ds.reverse[i]? = some n → DivInv (2 ^ (Int.toNat (intBits b))) b ds.reverse i a → a.qs.size ≤ sizeLine → Bnd 390 a.r → Bnd 4000 (a.r * 2 ^ (Int.toNat (intBits b)) + n) →
      Fr h₀ env.locals h (fun z => if z = x then some (.int n t) else (if z = Str.ofString "r" then some (.int a.r a.rt) else if z = Str.ofString "q_digit" then a.qd else m₀ z)) →
      News h₀ env.locals h ((D, o) :: (ql, W.listOf a.qs a.qe) :: (l, W.listOf vs.toArray ep) :: X) →
      wpAny (model prog w) A (execs body env) (TurnEnd h₀ env.locals x (fun (a : DivSt) => fun z => (if z = Str.ofString "r" then some (.int a.r a.rt) else if z = Str.ofString "q_digit" then a.qd else m₀ z)) (fun a => (ql, W.listOf a.qs a.qe) :: (l, W.listOf vs.toArray ep) :: X) [(D, o)] (DivInv (2 ^ (Int.toNat (intBits b))) b ds.reverse (i + 1)) s Q) E { s with heap := h, toks := tk, drawn := dr })
    (done : ∀ (a : DivSt) (qi : List Int) h tk dr u, IntsAre a.qs.toList qi → qi.length = ds.length → a.qs.toList.length ≤ sizeLine → horner (2 ^ (Int.toNat (intBits b))) ds.reverse = horner (2 ^ (Int.toNat (intBits b))) qi * b + a.r → 0 ≤ a.r → a.r < b → (∀ y ∈ qi, Bnd 8000 y) →
      Fr h₀ env.locals h (fun z => if z = x then u else (if z = Str.ofString "r" then some (.int a.r a.rt) else if z = Str.ofString "q_digit" then a.qd else m₀ z)) →
      News h₀ env.locals h ((ql, W.listOf a.qs a.qe) :: (l, W.listOf vs.toArray ep) :: X) → Q .next { s with heap := h, toks := tk, drawn := dr }) :
    wpAny (model prog w) A (pyIter (.ref D)) (fun it s₂ => codeAny (model prog w) A (.forLoop (.Name x px) it body [] env) (fun r s' => match r with | .ok f => Q f s' | .error e => cameBackBy (model prog w) A env E e s') s₂) E s := by
  have hlen : vs.length = ds.length := hI.length
  refine iter_rev_over (vs := vs) (m₀ := m₀) (fun a => [(Str.ofString "r", some (.int a.r a.rt)), (Str.ofString "q_digit", a.qd)]) (fun a => (ql, W.listOf a.qs a.qe) :: (l, W.listOf vs.toArray ep) :: X) (DivInv (2 ^ (Int.toNat (intBits b))) b ds.reverse) ⟨none, 0, rt₀, #[], qe₀⟩ hh hx hp hE ?_ (.inr ⟨ep, fun a => by simp⟩) F ?_ N ?_ ?_ ?_
  · intro a
    exact Off.cons (Nat.ne_of_lt hql) (Off.cons (Nat.ne_of_lt hl) (ne_of_allLt hX))
  · intro p hp
    simp only [List.mem_cons, List.not_mem_nil, or_false] at hp
    rcases hp with rfl | rfl
    · exact hr0
    · exact hq0
  · exact ⟨[], .nil, rfl, by simp [horner], Int.le_refl _, hb, by simp⟩
  · intro i v a o h tk dr hv hj F' N'
    obtain ⟨n, t, rfl, hn⟩ := ints_at (ints_rev hI) hv
    obtain ⟨qi, h1, h2, h3, h4, h5, h6⟩ := id hj
    have hm := List.mem_reverse.mp (List.mem_of_getElem? hn)
    have hsz : a.qs.size ≤ sizeLine := by
      have h7 := h1.length
      have h8 := (List.getElem?_eq_some_iff.mp hn).1
      rw [List.length_reverse] at h8
      rw [Array.length_toList] at h7
      exact Nat.le_trans (by omega : a.qs.size ≤ 390) (by decide)
    exact turn i n t a o h tk dr hm hn hj hsz (bnd_lt h4 h5 hy) (num_bnd hy h4 h5 (hd _ hm)) F' N'
  · intro a h tk dr u hj F' N'
    obtain ⟨qi, h1, h2, h3, h4, h5, h6⟩ := hj
    refine done a qi h tk dr u h1 (by omega) (by have h7 := h1.length; exact Nat.le_trans (by omega : a.qs.toList.length ≤ 390) (by decide)) ?_ h4 h5 h6 F' N'
    rw [hlen] at h3
    rw [← h3, ← List.length_reverse, List.take_length]
theorem dmp_c {prog : Program} {p : Program} {loose : List Str} {mean : ExcName → Option Value} {mg mb : Str → Option Value} (w : World) : ∀ (x y : Int) (xt yt : Tok) (T66 T73 : List (Addr × Obj)) (rest : List (Addr × Obj)) (dp un : Nat) (gd : Option (List Code)) (cn : Str) (cs : Scope) (a : Addr) (ccd : Value) (cl : List (Str × Addr)) (outer : List Env) (A₀ : Around) (base h₀ : Heap) (L : Addr) (m : Str → Option Value) (s : Shared) (Q E : Value → Shared → Prop),
    Below A₀ base outer h₀ → Fr h₀ L s.heap m → (hd.heap_1 w.params).In h₀ → News h₀ L s.heap (T66 ++ (T73 ++ rest)) → Top p loose mean mg mb h₀ → cs.kind = .function → 80 < L →
    dp + 480 < recursionLimit → un + 4500 < cLine → CodeHd base 70 66 → CodeHd base 77 73 → TabAtt 66 102 4 (Str.ofString "_int2digits.<locals>.inner") T66 → TabAtt 73 117 4 (Str.ofString "_digits2int.<locals>.inner") T73 → Off 66 rest → Off 73 rest → Bnd 390 x → Bnd 390 y → 0 < x → 0 < y → 
    (∀ (D : Addr) (h' : Heap) (tk' : Nat) (dr : Drawn) (t1 t2 : Tok) (T66' T73' : List (Addr × Obj)), Fr h₀ L h' m → TabAtt 66 102 4 (Str.ofString "_int2digits.<locals>.inner") T66' → TabAtt 73 117 4 (Str.ofString "_digits2int.<locals>.inner") T73' → News h₀ L h' ((D, ({ cls := .type "tuple", data := .seq #[.int (x.fdiv y) t1, .int (x.fmod y) t2] } : Obj)) :: (T66' ++ (T73' ++ rest))) → (∀ p ∈ rest, p.1 < D) → Q (.ref D) { s with heap := h', toks := tk', drawn := dr }) →
      wpAny (model prog w) (ktrTop dp un gd cn cs L a ccd cl outer) (call (.ref 85) [.int x xt, .int y yt]) Q E s := by
  w_top off
  intro x y xt yt T66 T73 rest dp un gd cn cs a ccd cl outer A₀ base h₀ L m s Q E B F X N T hk hL hd hu hC hC2 hT66 hT73 hO66 hO73 hx hy hx0 hy0 hret
  have hn1 := bits_pos hy0
  have hn2 := hy.2
  refine wpAny_call ?_
  k_dflt k_enter
  repeat' (first | (k_unfold; (try dsimp only)) | ((with_reducible show wpAny _ _ (pyIter (Value.ref _)) _ _ _); k_here; k_dflt (first | (refine' dmp_loop ?z0b0 ?z0c1 ?z0c2 ?z0c3 ?z0c4 ?z0a1 ?z0a2 ?z0a3 ?z0a4 ?z0a5 ?z0a6 ?z0a7 ?z0a8 ?z0a9 ?z0b1 ?z0b3 ?z0b4 ?z0b5 ?z0b6; (case z0b0 => (with_reducible assumption)); (case z0a1 => (exact rfl)); (case z0a2 => (exact rfl)); (case z0a3 => (exact rfl)); (case z0a4 => (with_unfolding_all passes_own)); (case z0a5 => (k_asm)); (case z0a6 => (k_asm)); (case z0a7 => (with_reducible assumption)); (case z0a8 => (with_reducible assumption)); (case z0a9 => (with_reducible assumption)); (case z0b1 => (with_reducible assumption)); (case z0b3 => (exact rfl)); (case z0b4 => (exact rfl)); (case z0c1 => (with_reducible assumption)); (case z0c2 => (with_reducible assumption)); (case z0c3 => (with_reducible assumption)); (case z0c4 => (with_reducible assumption)); (case' z0b5 => intro i9 n9 nt9 a9 o9 h9 tk9 dr9 hm9 hn9 hj9 hz9 hA9 hB19 F9 N9); (case' z0b6 => (have hdp9 := dsum_pos (by with_reducible assumption) (by with_reducible assumption)); intro a9 qi9 h9 tk9 dr9 u9 hi9 hl9 hz9 hh9 hr19 hr29 hb9 F9 N9; (have hR9 := IntsAre.revArr hi9); (have hl29 := rev_pos hl9 hdp9); (have hl39 := rev_le hl9 (by with_reducible assumption)); (have hb29 := rev_all hb9); (clear hi9))) | (fail "x"))) | ((with_reducible show wpAny _ _ (call (Value.builtin "list.reverse") _ _) _ _ _); k_here; k_dflt (refine' kl_reverse (by k_asm) (by k_asm) (by exact rfl) (by k_upd) (by with_reducible assumption) ?_; intro h9 F9 N9)) | ((with_reducible show wpAny _ _ (call (Value.builtin "list.append") _ _) _ _ _); k_here; k_dflt (refine' append_K (by (k_asm)) (by (k_asm)) (by (k_upd)) ?_ (by (with_reducible assumption)); intro h9 F9 N9)) | ((with_reducible show wpAny _ _ (exec (Stmt.For _ _ _ _ _) _) _ _ _); k_here; k_dflt (refine wpAny_For ?_)) | ((with_reducible show wpAny _ _ (call (Value.ref 57) _ _) _ _ _); k_here; k_dflt (first | (refine' div_c _ _ _ _ _ _ _ _ _ _ _ _ _ _ _ _ _ _ _ _ _ _ _ _ _ (by k_asm) (by k_asm) (by k_asm) (by first | k_asm | (refine news_sub (by k_asm) ?_; intro p9 hp9; simp only [List.mem_append, List.mem_cons] at hp9 ⊢; grind)) (by k_asm) (by first | exact rfl | assumption) (by first | with_reducible assumption | exact lt_frm (by k_asm) (by k_asm) (by with_reducible assumption) | exact lt_frm (by k_asm) (by k_asm) (lt_frm (by k_asm) (by k_asm) (by with_reducible assumption))) (by ktr_room) (by ktr_units) (by with_reducible assumption) (by exact Bnd.mono (by with_reducible assumption) (by decide)) (by with_reducible assumption) (by omega) ?_; intro D9 h9 tk9 t19 t29 F9 N9 l9; (try k_lt l9); (try dsimp only); (try k_fold)) | (fail "x"))) | ((with_reducible show wpAny _ _ (call (Value.ref 78) _ _) _ _ _); k_here; k_dflt (first | ((refine' d2i_c _ _ _ _ _ _ _ _ _ _ _ _ _ _ _ _ _ _ _ _ _ _ _ _ _ _ (by ((k_asm))) (by ((k_asm))) (by ((k_asm))) (by ((exact news_front (by k_asm)))) (by ((k_asm))) (by ((first | exact rfl | assumption))) (by ((first | with_reducible assumption | exact lt_frm (by k_asm) (by k_asm) (by with_reducible assumption) | exact lt_frm (by k_asm) (by k_asm) (lt_frm (by k_asm) (by k_asm) (by with_reducible assumption))))) (by ((ktr_room))) (by ((ktr_units))) (by ((first | with_reducible assumption | exact CodeHd.keeps (by assumption) (Below.stays (by assumption))))) (by ((with_reducible assumption))) (by ((exact off_front (by k_asm) (by with_reducible assumption) (Off.tab (by with_reducible assumption) (by decide) (by decide)) (by with_reducible assumption)))) (by ((k_mem))) (by ((with_reducible assumption))) (by ((with_reducible assumption))) (by ((with_reducible assumption))) (by ((omega))) (by ((omega))) (by ((with_reducible assumption))) ?_; intro t9 h9 tk9 T9 y9 F9 hT9 N9 hy9; (try dsimp only); (try k_fold))) | (fail "x"))) | ((with_reducible show wpAny _ _ (call (Value.ref 71) _ _) _ _ _); k_here; k_dflt (first | (refine' i2d_c _ _ _ _ _ _ _ _ _ _ _ _ _ _ _ _ _ _ _ _ _ _ _ _ (by k_asm) (by k_asm) (by k_asm) (by first | k_asm | (refine news_sub (by k_asm) ?_; intro p9 hp9; simp only [List.mem_append, List.mem_cons] at hp9 ⊢; grind)) (by k_asm) (by first | exact rfl | assumption) (by first | with_reducible assumption | exact lt_frm (by k_asm) (by k_asm) (by with_reducible assumption) | exact lt_frm (by k_asm) (by k_asm) (lt_frm (by k_asm) (by k_asm) (by with_reducible assumption))) (by ktr_room) (by ktr_units) (by first | with_reducible assumption | exact CodeHd.keeps (by assumption) (Below.stays (by assumption))) (by with_reducible assumption) (by (repeat (first | with_reducible assumption | exact Off.nil | exact Off.tab (by with_reducible assumption) (by decide) (by decide) | refine Off.app ?_ ?_ | refine Off.cons (by omega) ?_))) (by with_reducible assumption) (by omega) (by omega) ?_; intro l9 h9 tk9 T9 vs9 ds9 ep9 F9 hT9 N9 hI9 hS9 hB9 hL9; (try dsimp only); (try k_fold)) | fail "x")) | ((with_reducible show wpAny _ _ (binaryOp .LShift (Value.int _ _) (Value.int _ _)) _ _ _); refine' shl_by' (by with_reducible assumption) (by omega) (by omega) (by omega) ?_; intro hl29) | (k_end; kc_close) | walk1 | (dsimp only; (first | ((with_reducible show wpAny _ _ (pyIter (Value.ref _)) _ _ _); k_here; k_dflt (first | (refine' dmp_loop ?z0b0 ?z0c1 ?z0c2 ?z0c3 ?z0c4 ?z0a1 ?z0a2 ?z0a3 ?z0a4 ?z0a5 ?z0a6 ?z0a7 ?z0a8 ?z0a9 ?z0b1 ?z0b3 ?z0b4 ?z0b5 ?z0b6; (case z0b0 => (with_reducible assumption)); (case z0a1 => (exact rfl)); (case z0a2 => (exact rfl)); (case z0a3 => (exact rfl)); (case z0a4 => (with_unfolding_all passes_own)); (case z0a5 => (k_asm)); (case z0a6 => (k_asm)); (case z0a7 => (with_reducible assumption)); (case z0a8 => (with_reducible assumption)); (case z0a9 => (with_reducible assumption)); (case z0b1 => (with_reducible assumption)); (case z0b3 => (exact rfl)); (case z0b4 => (exact rfl)); (case z0c1 => (with_reducible assumption)); (case z0c2 => (with_reducible assumption)); (case z0c3 => (with_reducible assumption)); (case z0c4 => (with_reducible assumption)); (case' z0b5 => intro i9 n9 nt9 a9 o9 h9 tk9 dr9 hm9 hn9 hj9 hz9 hA9 hB19 F9 N9); (case' z0b6 => (have hdp9 := dsum_pos (by with_reducible assumption) (by with_reducible assumption)); intro a9 qi9 h9 tk9 dr9 u9 hi9 hl9 hz9 hh9 hr19 hr29 hb9 F9 N9; (have hR9 := IntsAre.revArr hi9); (have hl29 := rev_pos hl9 hdp9); (have hl39 := rev_le hl9 (by with_reducible assumption)); (have hb29 := rev_all hb9); (clear hi9))) | (fail "x"))) | ((with_reducible show wpAny _ _ (call (Value.builtin "list.reverse") _ _) _ _ _); k_here; k_dflt (refine' kl_reverse (by k_asm) (by k_asm) (by exact rfl) (by k_upd) (by with_reducible assumption) ?_; intro h9 F9 N9)) | ((with_reducible show wpAny _ _ (call (Value.builtin "list.append") _ _) _ _ _); k_here; k_dflt (refine' append_K (by (k_asm)) (by (k_asm)) (by (k_upd)) ?_ (by (with_reducible assumption)); intro h9 F9 N9)) | ((with_reducible show wpAny _ _ (exec (Stmt.For _ _ _ _ _) _) _ _ _); k_here; k_dflt (refine wpAny_For ?_)) | ((with_reducible show wpAny _ _ (call (Value.ref 57) _ _) _ _ _); k_here; k_dflt (first | (refine' div_c _ _ _ _ _ _ _ _ _ _ _ _ _ _ _ _ _ _ _ _ _ _ _ _ _ (by k_asm) (by k_asm) (by k_asm) (by first | k_asm | (refine news_sub (by k_asm) ?_; intro p9 hp9; simp only [List.mem_append, List.mem_cons] at hp9 ⊢; grind)) (by k_asm) (by first | exact rfl | assumption) (by first | with_reducible assumption | exact lt_frm (by k_asm) (by k_asm) (by with_reducible assumption) | exact lt_frm (by k_asm) (by k_asm) (lt_frm (by k_asm) (by k_asm) (by with_reducible assumption))) (by ktr_room) (by ktr_units) (by with_reducible assumption) (by exact Bnd.mono (by with_reducible assumption) (by decide)) (by with_reducible assumption) (by omega) ?_; intro D9 h9 tk9 t19 t29 F9 N9 l9; (try k_lt l9); (try dsimp only); (try k_fold)) | (fail "x"))) | ((with_reducible show wpAny _ _ (call (Value.ref 78) _ _) _ _ _); k_here; k_dflt (first | ((refine' d2i_c _ _ _ _ _ _ _ _ _ _ _ _ _ _ _ _ _ _ _ _ _ _ _ _ _ _ (by ((k_asm))) (by ((k_asm))) (by ((k_asm))) (by ((exact news_front (by k_asm)))) (by ((k_asm))) (by ((first | exact rfl | assumption))) (by ((first | with_reducible assumption | exact lt_frm (by k_asm) (by k_asm) (by with_reducible assumption) | exact lt_frm (by k_asm) (by k_asm) (lt_frm (by k_asm) (by k_asm) (by with_reducible assumption))))) (by ((ktr_room))) (by ((ktr_units))) (by ((first | with_reducible assumption | exact CodeHd.keeps (by assumption) (Below.stays (by assumption))))) (by ((with_reducible assumption))) (by ((exact off_front (by k_asm) (by with_reducible assumption) (Off.tab (by with_reducible assumption) (by decide) (by decide)) (by with_reducible assumption)))) (by ((k_mem))) (by ((with_reducible assumption))) (by ((with_reducible assumption))) (by ((with_reducible assumption))) (by ((omega))) (by ((omega))) (by ((with_reducible assumption))) ?_; intro t9 h9 tk9 T9 y9 F9 hT9 N9 hy9; (try dsimp only); (try k_fold))) | (fail "x"))) | ((with_reducible show wpAny _ _ (call (Value.ref 71) _ _) _ _ _); k_here; k_dflt (first | (refine' i2d_c _ _ _ _ _ _ _ _ _ _ _ _ _ _ _ _ _ _ _ _ _ _ _ _ (by k_asm) (by k_asm) (by k_asm) (by first | k_asm | (refine news_sub (by k_asm) ?_; intro p9 hp9; simp only [List.mem_append, List.mem_cons] at hp9 ⊢; grind)) (by k_asm) (by first | exact rfl | assumption) (by first | with_reducible assumption | exact lt_frm (by k_asm) (by k_asm) (by with_reducible assumption) | exact lt_frm (by k_asm) (by k_asm) (lt_frm (by k_asm) (by k_asm) (by with_reducible assumption))) (by ktr_room) (by ktr_units) (by first | with_reducible assumption | exact CodeHd.keeps (by assumption) (Below.stays (by assumption))) (by with_reducible assumption) (by (repeat (first | with_reducible assumption | exact Off.nil | exact Off.tab (by with_reducible assumption) (by decide) (by decide) | refine Off.app ?_ ?_ | refine Off.cons (by omega) ?_))) (by with_reducible assumption) (by omega) (by omega) ?_; intro l9 h9 tk9 T9 vs9 ds9 ep9 F9 hT9 N9 hI9 hS9 hB9 hL9; (try dsimp only); (try k_fold)) | fail "x")) | ((with_reducible show wpAny _ _ (binaryOp .LShift (Value.int _ _) (Value.int _ _)) _ _ _); refine' shl_by' (by with_reducible assumption) (by omega) (by omega) (by omega) ?_; intro hl29) | walk1)) | (leave1; (try dsimp only)) | fail "no step")
  all_goals first
    | (refine' turnEnd_next ⟨_, _, _, _, _⟩ ?eF ?eh ?eN ?eJ; (case eF => k_asm); (case eh => (exact two_back)); (case eN => (exact news_tail (by k_asm))); (case eJ => (exact div_step hy0 (by with_reducible assumption) (by with_reducible assumption) rfl rfl (by with_reducible assumption))))
    | (obtain ⟨e1, e2⟩ := dmp_end hy0 (by with_reducible assumption) (by with_reducible assumption) (by with_reducible assumption) (by with_reducible assumption) (by with_reducible assumption); (refine' hret _ _ _ _ _ _ _ _ ?gF ?gT ?gU ?gN ?gl); (case gF => (k_asm)); (case gT => with_reducible assumption); (case gU => with_reducible assumption); (case gN => rw [← e1, ← e2]; (exact news_cut (by k_asm))); (case gl => (exact allLt_cut (by with_reducible assumption))))
    | (fail "x")
end
/-! C_idm -/
section

open Builtin.Int (intBits)
theorem idm_c {prog : Program} {p : Program} {loose : List Str} {mean : ExcName → Option Value} {mg mb : Str → Option Value} (w : World) : ∀ (x y : Int) (xt yt : Tok) (T66 T73 : List (Addr × Obj)) (rest : List (Addr × Obj)) (dp un : Nat) (gd : Option (List Code)) (cn : Str) (cs : Scope) (a : Addr) (ccd : Value) (cl : List (Str × Addr)) (outer : List Env) (A₀ : Around) (base h₀ : Heap) (L : Addr) (m : Str → Option Value) (s : Shared) (Q E : Value → Shared → Prop),
    Below A₀ base outer h₀ → Fr h₀ L s.heap m → (hd.heap_1 w.params).In h₀ → News h₀ L s.heap (T66 ++ (T73 ++ rest)) → Top p loose mean mg mb h₀ → cs.kind = .function → 80 < L →
    dp + 500 < recursionLimit → un + 4800 < cLine → CodeHd base 70 66 → CodeHd base 77 73 → TabAtt 66 102 4 (Str.ofString "_int2digits.<locals>.inner") T66 → TabAtt 73 117 4 (Str.ofString "_digits2int.<locals>.inner") T73 → Off 66 rest → Off 73 rest → Bnd 390 x → Bnd 390 y → 0 < x → 0 < y → 
    (∀ (D : Addr) (h' : Heap) (tk' : Nat) (dr : Drawn) (t1 t2 : Tok) (T66' T73' : List (Addr × Obj)), Fr h₀ L h' m → TabAtt 66 102 4 (Str.ofString "_int2digits.<locals>.inner") T66' → TabAtt 73 117 4 (Str.ofString "_digits2int.<locals>.inner") T73' → News h₀ L h' ((D, ({ cls := .type "tuple", data := .seq #[.int (x.fdiv y) t1, .int (x.fmod y) t2] } : Obj)) :: (T66' ++ (T73' ++ rest))) → (∀ p ∈ rest, p.1 < D) → Q (.ref D) { s with heap := h', toks := tk', drawn := dr }) →
      wpAny (model prog w) (ktrTop dp un gd cn cs L a ccd cl outer) (call (.ref 92) [.int x xt, .int y yt]) Q E s := by
  w_top off
  intro x y xt yt T66 T73 rest dp un gd cn cs a ccd cl outer A₀ base h₀ L m s Q E B F X N T hk hL hd hu hC hC2 hT66 hT73 hO66 hO73 hx hy hx0 hy0 hret
  refine wpAny_call ?_
  k_dflt k_enter
  repeat' (first | (k_unfold; (try dsimp only)) | ((with_reducible show wpAny _ _ (call (Value.ref 92) _ _) _ _ _); k_here; (exfalso; omega)) | ((with_reducible show wpAny _ _ (call (Value.ref 85) _ _) _ _ _); k_here; k_dflt (first | (refine' dmp_c _ _ _ _ _ _ _ _ _ _ _ _ _ _ _ _ _ _ _ _ _ _ _ _ _ (by k_asm) (by k_asm) (by k_asm) (by k_asm) (by k_asm) (by first | exact rfl | assumption) (by first | with_reducible assumption | exact lt_frm (by k_asm) (by k_asm) (by with_reducible assumption) | exact lt_frm (by k_asm) (by k_asm) (lt_frm (by k_asm) (by k_asm) (by with_reducible assumption))) (by ktr_room) (by ktr_units) (by first | with_reducible assumption | exact CodeHd.keeps (by assumption) (Below.stays (by assumption))) (by first | with_reducible assumption | exact CodeHd.keeps (by assumption) (Below.stays (by assumption))) (by with_reducible assumption) (by with_reducible assumption) (by with_reducible assumption) (by with_reducible assumption) (by with_reducible assumption) (by with_reducible assumption) (by with_reducible assumption) (by with_reducible assumption) ?_; intro D9 h9 tk9 dr9 t19 t29 T9 T99 F9 hT9 hT99 N9 l9; (try dsimp only); (try k_fold)) | (fail "x"))) | (k_end; kc_close) | walk1 | (dsimp only; (first | ((with_reducible show wpAny _ _ (call (Value.ref 92) _ _) _ _ _); k_here; (exfalso; omega)) | ((with_reducible show wpAny _ _ (call (Value.ref 85) _ _) _ _ _); k_here; k_dflt (first | (refine' dmp_c _ _ _ _ _ _ _ _ _ _ _ _ _ _ _ _ _ _ _ _ _ _ _ _ _ (by k_asm) (by k_asm) (by k_asm) (by k_asm) (by k_asm) (by first | exact rfl | assumption) (by first | with_reducible assumption | exact lt_frm (by k_asm) (by k_asm) (by with_reducible assumption) | exact lt_frm (by k_asm) (by k_asm) (lt_frm (by k_asm) (by k_asm) (by with_reducible assumption))) (by ktr_room) (by ktr_units) (by first | with_reducible assumption | exact CodeHd.keeps (by assumption) (Below.stays (by assumption))) (by first | with_reducible assumption | exact CodeHd.keeps (by assumption) (Below.stays (by assumption))) (by with_reducible assumption) (by with_reducible assumption) (by with_reducible assumption) (by with_reducible assumption) (by with_reducible assumption) (by with_reducible assumption) (by with_reducible assumption) (by with_reducible assumption) ?_; intro D9 h9 tk9 dr9 t19 t29 T9 T99 F9 hT9 hT99 N9 l9; (try dsimp only); (try k_fold)) | (fail "x"))) | walk1)) | (leave1; (try dsimp only)) | fail "no step")
  all_goals first
    | (refine' hret _ _ _ _ _ _ _ _ ?gF ?gT ?gU ?gN ?gl; (case gF => k_asm); (case gT => with_reducible assumption); (case gU => with_reducible assumption); (case gN => k_asm); (case gl => with_reducible assumption))
    | (exfalso; omega)
    | (fail "x")
end
/-! Whl -/
section
open PySem.Calls
section
variable {prog : Program} {w : World} {A : Around} {E : Value → Shared → Prop} {s : Shared} {env : Env} {test : Expr} {body orelse : List Stmt} {Q : Flow → Shared → Prop} {h₀ : Heap} {L : Addr}
noncomputable def WEnd {σ : Type} (h₀ : Heap) (L : Addr) (mp : σ → Str → Option Value) (nw : σ → List (Addr × Obj)) (J : Nat → σ → Prop) (s : Shared) (Q : Flow → Shared → Prop) (n : Nat) (f : Flow) (s₂ : Shared) : Prop :=
  match f with
  | .ret v => Q (.ret v) s₂
  | .brk => Q .next s₂
  | _ => ∃ k a h' tk' dr' u, k < n ∧ s₂ = { s with heap := h', toks := tk', drawn := dr' } ∧ Fr h₀ L h' u ∧ (∀ z, u z = mp a z) ∧ News h₀ L h' (nw a) ∧ J k a
theorem wEnd_next {σ : Type} {mp : σ → Str → Option Value} {nw : σ → List (Addr × Obj)} {J : Nat → σ → Prop} {n : Nat} {h' : Heap} {tk' : Nat} {dr : Drawn} {u : Str → Option Value} (a : σ) (k : Nat) (hk : k < n)
    (F : Fr h₀ L h' u) (hu : ∀ z, u z = mp a z) (N : News h₀ L h' (nw a)) (hj : J k a) : WEnd h₀ L mp nw J s Q n .next { s with heap := h', toks := tk', drawn := dr } :=
  ⟨k, a, h', tk', dr, u, hk, rfl, F, hu, N, hj⟩
theorem whl_split {p : Prop} [Decidable p] {T F : Prop} (t : p → T) (f : ¬ p → F) : WhlIf (decide p) T F := by
  by_cases h : p
  · exact .yes (decide_eq_true h) (t h)
  · exact .no (decide_eq_false h) (f h)
theorem whl_over {σ : Type} (mp : σ → Str → Option Value) (nw : σ → List (Addr × Obj)) (J : Nat → σ → Prop) (a₀ : σ) (n₀ : Nat) {k : Nat}
    (hE : PassesOwn (model prog w) A env E) (F : Fr h₀ L s.heap (mp a₀)) (N : News h₀ L s.heap (nw a₀)) (hj : J n₀ a₀)
    (turn : ∀ n a h tk dr, J n a → Fr h₀ L h (mp a) → News h₀ L h (nw a) →
      wpAny (model prog w) A (isTrue test env (eval test env)) (fun b s₂ => WhlIf b (wpAny (model prog w) A (execs body env) (WEnd h₀ L mp nw J s Q n) E s₂) (wpAny (model prog w) A (execs orelse env) Q E s₂)) E { s with heap := h, toks := tk, drawn := dr }) :
    WhlRest prog w A E env test body orelse Q k s := by
  suffices H : ∀ n a h tk dr, J n a → Fr h₀ L h (mp a) → News h₀ L h (nw a) → WhlRest prog w A E env test body orelse Q 0 { s with heap := h, toks := tk, drawn := dr } from
    H n₀ a₀ s.heap s.toks s.drawn hj F N
  intro n
  induction n using Nat.strongRecOn with
  | _ n ih =>
    intro a h tk dr hJ hF hN
    show WhlRest prog w A E env test body orelse Q (0 + 1) _
    refine whl_turn hE (wpAny_mono (turn n a h tk dr hJ hF hN) (fun b s₂ h₂ => ?_) fun _ _ e => e)
    cases b with
    | false =>
      unfold WhlIf at h₂ ⊢
      rw [if_neg Bool.false_ne_true] at h₂ ⊢
      exact h₂
    | true =>
      unfold WhlIf at h₂ ⊢
      rw [if_pos rfl] at h₂ ⊢
      refine wpAny_mono h₂ (fun f s₃ h₃ => ?_) fun _ _ e => e
      have fin : (∃ k a h' tk' dr' u, k < n ∧ s₃ = { s with heap := h', toks := tk', drawn := dr' } ∧ Fr h₀ L h' u ∧ (∀ z, u z = mp a z) ∧ News h₀ L h' (nw a) ∧ J k a) → WhlRest prog w A E env test body orelse Q 0 s₃ := by
        rintro ⟨k, a', h', tk', dr', u, hk, rfl, hF', hu, hN', hJ'⟩
        have e : u = mp a' := funext hu
        exact ih k hk a' h' tk' dr' hJ' (e ▸ hF') hN'
      cases f with
      | next => exact fin h₃
      | cont => exact fin h₃
      | brk => exact h₃
      | ret v => exact h₃
end
theorem upd_app {D : Addr} {o o' : Obj} {n n' : List (Addr × Obj)} : ∀ {T : List (Addr × Obj)}, Off D T → Upd D o o' n n' → Upd D o o' (T ++ n) (T ++ n')
  | [], _, u => u
  | p :: _, h, u => .tail (h p (.head _)) (upd_app (fun q hq => h q (.tail _ hq)) u)
theorem off_tab_list {h₀ h : Heap} {L : Addr} {n T : List (Addr × Obj)} {P line col : Nat} {qual : Str} {l : Addr} {its : Array Value} {e : Nat} (N : News h₀ L h n) (hT : TabAtt P line col qual T) (hs : ∀ p ∈ T, p ∈ n) (hl : (l, W.listOf its e) ∈ n) : Off l T := by
  have h1 := (off_list N hT hs hl).symm
  rcases hT with rfl | ⟨c, oc, vs, t, rfl, hd, _, _⟩
  · exact Off.cons h1 Off.nil
  · refine Off.cons (fun q => ?_) (Off.cons h1 Off.nil)
    have h2 := (N _ (hs _ (.head _))).1
    have h3 := (N _ hl).1
    rw [← show c = l from q] at h3
    have h4 := congrArg Obj.data (Option.some.inj (h2.symm.trans h3))
    rw [show (c, oc).2.data = _ from hd] at h4
    cases h4
section
variable {prog : Program} {w : World} {A : Around} {E : Value → Shared → Prop} {s : Shared} {h₀ : Heap} {L : Addr} {m : Str → Option Value}
theorem append_TT {Z : Addr × Obj} {T U R : List (Addr × Obj)} {row : Addr} {its : Array Value} {n : Nat} {x : Value} {P line col P' line' col' : Nat} {qual qual' : Str} {Q : Value → Shared → Prop} (F : Fr h₀ L s.heap m) (N : News h₀ L s.heap (Z :: (T ++ (U ++ ((row, W.listOf its n) :: R)))))
    (hT : TabAtt P line col qual T) (hU : TabAtt P' line' col' qual' U) (hZ : ∀ p ∈ ((row, W.listOf its n) :: R), p.1 < Z.1) (hR : AllLt row R)
    (h : ∀ h', Fr h₀ L h' m → News h₀ L h' (T ++ (U ++ ((row, W.listOf (its.push x) (n + 1)) :: R))) → Q .none { s with heap := h' }) (hsz : its.size ≤ sizeLine) : wpAny (model prog w) A (call (.builtin "list.append") [.ref row, x]) Q E s := by
  have hm : (row, W.listOf its n) ∈ (Z :: (T ++ (U ++ ((row, W.listOf its n) :: R)))) := by simp
  have h1 := off_tab_list N hT (fun p hp => by simp [hp]) hm
  have h2 := off_tab_list N hU (fun p hp => by simp [hp]) hm
  exact append_K F N (.tail (Nat.ne_of_gt (hZ _ (.head _))) (upd_app h1 (upd_app h2 (.head (ne_of_allLt hR))))) (fun h' F' N' => h h' F' (news_tail N')) hsz
end
theorem four_back {a b c d : Str} {v1 v2 v3 v4 u1 u2 u3 u4 : Option Value} {m₀ : Str → Option Value} : ∀ z, (if z = a then v1 else if z = b then v2 else if z = c then v3 else if z = d then v4 else if z = a then u1 else if z = b then u2 else if z = c then u3 else if z = d then u4 else m₀ z) = if z = a then v1 else if z = b then v2 else if z = c then v3 else if z = d then v4 else m₀ z := by
  intro z
  by_cases h1 : z = a
  · simp [h1]
  · by_cases h2 : z = b
    · simp [h2]
    · by_cases h3 : z = c
      · simp [h3]
      · by_cases h4 : z = d
        · simp [h4]
        · simp [h1, h2, h3, h4]
end
/-! C_quot -/
section

open Builtin.Int (intBits)
theorem euq_dec {x y : Int} (h : 0 < y) : (x.fmod y).toNat < y.toNat := by
  have h1 : x.fmod y < y := by rw [Int.fmod_eq_emod_of_nonneg _ (by omega)]; exact Int.emod_lt_of_pos _ h
  omega
/-- Euclid's quotients -/
noncomputable def euq (x y : Int) : List Int := if h : 0 < y then x.fdiv y :: euq y (x.fmod y) else []
termination_by y.toNat
decreasing_by exact euq_dec h
theorem euq_pos {x y : Int} (h : 0 < y) : euq x y = x.fdiv y :: euq y (x.fmod y) := by rw [euq, dif_pos h]
theorem euq_zero {x y : Int} (h : ¬ 0 < y) : euq x y = [] := by rw [euq, dif_neg h]
structure QSt where
  x : Int
  y : Int
  xt : Tok
  yt : Tok
  its : Array Value
  e : Nat
  T : List (Addr × Obj)
  U : List (Addr × Obj)
  pt : Option Value
  rs : Option Value
noncomputable def QJ (full : List Int) (n : Nat) (a : QSt) : Prop :=
  n = a.y.toNat ∧ 0 < a.x ∧ 0 ≤ a.y ∧ Bnd 390 a.x ∧ Bnd 390 a.y ∧ TabAtt 66 102 4 (Str.ofString "_int2digits.<locals>.inner") a.T ∧ TabAtt 73 117 4 (Str.ofString "_digits2int.<locals>.inner") a.U ∧ ∃ ns, IntsAre a.its.toList ns ∧ ns ++ euq a.x a.y = full
theorem fmod_in {x y : Int} (h : 0 < y) : 0 ≤ x.fmod y ∧ x.fmod y < y := by
  rw [Int.fmod_eq_emod_of_nonneg _ (by omega)]
  exact ⟨Int.emod_nonneg _ (by omega), Int.emod_lt_of_pos _ h⟩
theorem quot_step {full : List Int} {n : Nat} {a : QSt} {yt xt t : Tok} {e : Nat} {T U : List (Addr × Obj)} {pt rs : Option Value} (hj : QJ full n a) (hy : 0 < a.y) (hT : TabAtt 66 102 4 (Str.ofString "_int2digits.<locals>.inner") T) (hU : TabAtt 73 117 4 (Str.ofString "_digits2int.<locals>.inner") U) :
    QJ full (a.x.fmod a.y).toNat ⟨a.y, a.x.fmod a.y, xt, yt, a.its.push (.int (a.x.fdiv a.y) t), e, T, U, pt, rs⟩ := by
  obtain ⟨_, h1, h2, h3, h4, _, _, ns, h5, h6⟩ := hj
  have ⟨k1, k2⟩ := fmod_in (x := a.x) hy
  refine ⟨rfl, hy, k1, h4, bnd_lt k1 k2 h4, hT, hU, ns ++ [a.x.fdiv a.y], ?_, ?_⟩
  · rw [Array.toList_push]; exact IntsAre.append h5 (.cons _ _ .nil)
  · rw [List.append_assoc, List.singleton_append, ← euq_pos hy]; exact h6
theorem quot_less {full : List Int} {n : Nat} {a : QSt} (hj : QJ full n a) (hy : 0 < a.y) : (a.x.fmod a.y).toNat < n := by rw [hj.1]; exact euq_dec hy
theorem quot_loop {prog : Program} {w : World} {A : Around} {E : Value → Shared → Prop} {s : Shared} {env : Env} {test : Expr} {body orelse : List Stmt} {Q : Flow → Shared → Prop} {h₀ : Heap} {row : Addr} {R T₀ U₀ : List (Addr × Obj)} {m₀ : Str → Option Value} {x y : Int} {xt yt : Tok} {e₀ k : Nat}
    (hE : PassesOwn (model prog w) A env E) (F : Fr h₀ env.locals s.heap m₀) (N : News h₀ env.locals s.heap ((row, W.listOf #[] e₀) :: (T₀ ++ (U₀ ++ R))))
    (hx : m₀ (Str.ofString "great") = some (.int x xt)) (hy : m₀ (Str.ofString "less") = some (.int y yt)) (hp : m₀ (Str.ofString "part") = none) (hr : m₀ (Str.ofString "rest") = none)
    (hT : TabAtt 66 102 4 (Str.ofString "_int2digits.<locals>.inner") T₀) (hU : TabAtt 73 117 4 (Str.ofString "_digits2int.<locals>.inner") U₀) (hO66 : Off 66 R) (hO73 : Off 73 R) (hl : AllLt row (T₀ ++ (U₀ ++ R)))
    (h0 : 0 < x) (h1 : 0 ≤ y) (bx : Bnd 390 x) (by' : Bnd 390 y) (hlen : (euq x y).length ≤ 1000)
    (turn : ∀ (a : QSt) n h tk dr, QJ (euq x y) n a → 0 < a.x → 0 ≤ a.y → Bnd 390 a.x → Bnd 390 a.y → TabAtt 66 102 4 (Str.ofString "_int2digits.<locals>.inner") a.T → TabAtt 73 117 4 (Str.ofString "_digits2int.<locals>.inner") a.U → a.its.size ≤ sizeLine →
      Off 66 ((row, W.listOf a.its a.e) :: R) → Off 73 ((row, W.listOf a.its a.e) :: R) → AllLt row R → (¬ 0 < a.y → IntsAre a.its.toList (euq x y)) →
      Fr h₀ env.locals h (fun z => if z = Str.ofString "less" then some (.int a.y a.yt) else if z = Str.ofString "great" then some (.int a.x a.xt) else if z = Str.ofString "rest" then a.rs else if z = Str.ofString "part" then a.pt else m₀ z) → News h₀ env.locals h (a.T ++ (a.U ++ ((row, W.listOf a.its a.e) :: R))) →
      wpAny (model prog w) A (isTrue test env (eval test env)) (fun b s₂ => WhlIf b (wpAny (model prog w) A (execs body env) (WEnd h₀ env.locals (fun (a : QSt) => fun z => if z = Str.ofString "less" then some (.int a.y a.yt) else if z = Str.ofString "great" then some (.int a.x a.xt) else if z = Str.ofString "rest" then a.rs else if z = Str.ofString "part" then a.pt else m₀ z) (fun a => a.T ++ (a.U ++ ((row, W.listOf a.its a.e) :: R))) (QJ (euq x y)) s Q n) E s₂) (wpAny (model prog w) A (execs orelse env) Q E s₂)) E { s with heap := h, toks := tk, drawn := dr }) :
    WhlRest prog w A E env test body orelse Q k s := by
  refine whl_over (h₀ := h₀) (L := env.locals) (fun (a : QSt) => fun z => if z = Str.ofString "less" then some (.int a.y a.yt) else if z = Str.ofString "great" then some (.int a.x a.xt) else if z = Str.ofString "rest" then a.rs else if z = Str.ofString "part" then a.pt else m₀ z) (fun a => a.T ++ (a.U ++ ((row, W.listOf a.its a.e) :: R))) (QJ (euq x y)) ⟨x, y, xt, yt, #[], e₀, T₀, U₀, none, none⟩ y.toNat hE ?_ ?_ ?_ ?_
  · have : (fun z => if z = Str.ofString "less" then some (.int y yt) else if z = Str.ofString "great" then some (.int x xt) else if z = Str.ofString "rest" then none else if z = Str.ofString "part" then none else m₀ z) = m₀ := by
      funext z
      by_cases q1 : z = Str.ofString "less"
      · rw [if_pos q1, q1, hy]
      · by_cases q2 : z = Str.ofString "great"
        · rw [if_neg q1, if_pos q2, q2, hx]
        · by_cases q3 : z = Str.ofString "rest"
          · rw [if_neg q1, if_neg q2, if_pos q3, q3, hr]
          · by_cases q4 : z = Str.ofString "part"
            · rw [if_neg q1, if_neg q2, if_neg q3, if_pos q4, q4, hp]
            · rw [if_neg q1, if_neg q2, if_neg q3, if_neg q4]
    exact (congrArg (fun g => Fr h₀ env.locals s.heap g) this).mpr F
  · exact news_sub N fun p hp => by
      simp only [List.mem_append, List.mem_cons] at hp ⊢
      rcases hp with h | h | h | h <;> simp [h]
  · exact ⟨rfl, h0, h1, bx, by', hT, hU, [], .nil, rfl⟩
  · intro n a h tk dr hj F' N'
    obtain ⟨_, k1, k2, k3, k4, k5, k6, ns, k7, k8⟩ := id hj
    have hm : (row, W.listOf a.its a.e) ∈ a.T ++ (a.U ++ ((row, W.listOf a.its a.e) :: R)) := by simp
    refine turn a n h tk dr hj k1 k2 k3 k4 k5 k6 ?_ (Off.cons (off_list N' k5 (fun p hp => by simp [hp]) hm) hO66) (Off.cons (off_list N' k6 (fun p hp => by simp [hp]) hm) hO73) (allLt_app (allLt_app hl).2).2 ?_ F' N'
    · have q1 := k7.length
      rw [Array.length_toList] at q1
      have q2 := congrArg List.length k8
      rw [List.length_append] at q2
      exact Nat.le_trans (by omega : a.its.size ≤ 1000) (by decide)
    · intro hn
      rw [euq_zero hn, List.append_nil] at k8
      rw [← k8]; exact k7
theorem meth_TT {prog : Program} {w : World} {A : Around} {E : Value → Shared → Prop} {s : Shared} {h₀ : Heap} {L : Addr} {Z : Addr × Obj} {T U R : List (Addr × Obj)} {row : Addr} {its : Array Value} {n : Nat} {pl : Sem Bool} {Q : Value × List Value → Shared → Prop} (hR : AllLt row R) (N : News h₀ L s.heap (Z :: (T ++ (U ++ ((row, W.listOf its n) :: R)))))
    (h : Q (.builtin "list.append", [.ref row]) s) : wpAny (model prog w) A (getMethod (.ref row) (Str.ofString "append") pl) Q E s :=
  PyProof.Rows.getMethod_append_N N (D := row) (o := W.listOf its n) (by simp) h
theorem by_end {p : Prop} {q : Prop} (h : ¬ p) (hi : ¬ p → q) : q := hi h
theorem news_cut2 {h₀ h : Heap} {L : Addr} {X : Addr × Obj} {T U R : List (Addr × Obj)} (N : News h₀ L h (T ++ (U ++ (X :: R)))) : News h₀ L h (X :: (T ++ (U ++ R))) := news_sub N fun p hp => by
  simp only [List.mem_append, List.mem_cons] at hp ⊢
  rcases hp with h | h | h | h <;> simp [h]
theorem quot_c {prog : Program} {p : Program} {loose : List Str} {mean : ExcName → Option Value} {mg mb : Str → Option Value} (w : World) : ∀ (x y : Int) (xt yt : Tok) (T66 T73 : List (Addr × Obj)) (rest : List (Addr × Obj)) (dp un : Nat) (gd : Option (List Code)) (cn : Str) (cs : Scope) (a : Addr) (ccd : Value) (cl : List (Str × Addr)) (outer : List Env) (A₀ : Around) (base h₀ : Heap) (L : Addr) (m : Str → Option Value) (s : Shared) (Q E : Value → Shared → Prop),
    Below A₀ base outer h₀ → Fr h₀ L s.heap m → (hd.heap_1 w.params).In h₀ → News h₀ L s.heap (T66 ++ (T73 ++ rest)) → Top p loose mean mg mb h₀ → cs.kind = .function → 80 < L →
    dp + 520 < recursionLimit → un + 5200 < cLine → CodeHd base 70 66 → CodeHd base 77 73 → TabAtt 66 102 4 (Str.ofString "_int2digits.<locals>.inner") T66 → TabAtt 73 117 4 (Str.ofString "_digits2int.<locals>.inner") T73 → Off 66 rest → Off 73 rest → Bnd 390 x → Bnd 390 y → 0 < x → 0 ≤ y → (euq x y).length ≤ 1000 → 
    (∀ (d : Addr) (h' : Heap) (tk' : Nat) (dr : Drawn) (its : Array Value) (ep : Nat) (T66' T73' : List (Addr × Obj)), Fr h₀ L h' m → TabAtt 66 102 4 (Str.ofString "_int2digits.<locals>.inner") T66' → TabAtt 73 117 4 (Str.ofString "_digits2int.<locals>.inner") T73' → IntsAre its.toList (euq x y) → News h₀ L h' ((d, W.listOf its ep) :: (T66' ++ (T73' ++ rest))) → (∀ p ∈ rest, p.1 < d) → Q (.ref d) { s with heap := h', toks := tk', drawn := dr }) →
      wpAny (model prog w) (ktrTop dp un gd cn cs L a ccd cl outer) (call (.ref 174) [.int x xt, .int y yt]) Q E s := by
  w_top off
  intro x y xt yt T66 T73 rest dp un gd cn cs a ccd cl outer A₀ base h₀ L m s Q E B F X N T hk hL hd hu hC hC2 hT66 hT73 hO66 hO73 hx hy hx0 hy0 hlen hret
  refine wpAny_call ?_
  k_dflt k_enter
  repeat' (first | (k_unfold; (try dsimp only)) | ((with_reducible show wpAny _ _ (getMethod (Value.ref _) (Str.ofString "append") _) _ _ _); k_here; k_dflt (refine' meth_TT (by with_reducible assumption) (by k_asm) ?_)) | ((with_reducible show wpAny _ _ (call (Value.builtin "list.append") _ _) _ _ _); k_here; k_dflt (refine' append_TT (by k_asm) (by k_asm) (by with_reducible assumption) (by with_reducible assumption) (by with_reducible assumption) (by with_reducible assumption) ?k7 (by with_reducible assumption); intro h9 F9 N9)) | ((with_reducible show WhlIf _ _ _); k_dflt (refine' whl_split ?_ ?_) <;> intro hw9) | ((with_reducible show wpAny _ _ (exec (Stmt.While _ _ _ _) _) _ _ _); k_here; k_dflt (refine whl_start 0 ?_); k_dflt (first | (refine' quot_loop (by (with_unfolding_all passes_own)) (by (k_asm)) (by (k_asm)) (by (exact rfl)) (by (exact rfl)) (by (exact rfl)) (by (exact rfl)) (by (with_reducible assumption)) (by (with_reducible assumption)) (by (with_reducible assumption)) (by (with_reducible assumption)) (by (with_reducible assumption)) (by (with_reducible assumption)) (by (with_reducible assumption)) (by (with_reducible assumption)) (by (with_reducible assumption)) (by (with_reducible assumption)) ?b9; intro a9 n9 h9 tk9 dr9 hj9 hx9 hy9 hbx9 hby9 hT9 hU9 hz9 ho9 hp9 hal9 hd9 F9 N9) | (fail "x"))) | ((with_reducible show wpAny _ _ (call (Value.ref 92) _ _) _ _ _); k_here; k_dflt (first | (refine' idm_c _ _ _ _ _ _ _ _ _ _ _ _ _ _ _ _ _ _ _ _ _ _ _ _ _ (by k_asm) (by k_asm) (by k_asm) (by k_asm) (by k_asm) (by first | exact rfl | assumption) (by first | with_reducible assumption | exact lt_frm (by k_asm) (by k_asm) (by with_reducible assumption) | exact lt_frm (by k_asm) (by k_asm) (lt_frm (by k_asm) (by k_asm) (by with_reducible assumption))) (by ktr_room) (by ktr_units) (by first | with_reducible assumption | exact CodeHd.keeps (by assumption) (Below.stays (by assumption))) (by first | with_reducible assumption | exact CodeHd.keeps (by assumption) (Below.stays (by assumption))) (by with_reducible assumption) (by with_reducible assumption) (by with_reducible assumption) (by with_reducible assumption) (by with_reducible assumption) (by with_reducible assumption) (by with_reducible assumption) (by with_reducible assumption) ?_; intro D9 h9 tk9 dr9 t19 t29 T9 T99 F9 hT9 hT99 N9 l9; (try dsimp only); (try k_fold)) | (fail "x"))) | (k_end; kc_close) | walk1 | (dsimp only; (first | ((with_reducible show wpAny _ _ (getMethod (Value.ref _) (Str.ofString "append") _) _ _ _); k_here; k_dflt (refine' meth_TT (by with_reducible assumption) (by k_asm) ?_)) | ((with_reducible show wpAny _ _ (call (Value.builtin "list.append") _ _) _ _ _); k_here; k_dflt (refine' append_TT (by k_asm) (by k_asm) (by with_reducible assumption) (by with_reducible assumption) (by with_reducible assumption) (by with_reducible assumption) ?k7 (by with_reducible assumption); intro h9 F9 N9)) | ((with_reducible show WhlIf _ _ _); k_dflt (refine' whl_split ?_ ?_) <;> intro hw9) | ((with_reducible show wpAny _ _ (exec (Stmt.While _ _ _ _) _) _ _ _); k_here; k_dflt (refine whl_start 0 ?_); k_dflt (first | (refine' quot_loop (by (with_unfolding_all passes_own)) (by (k_asm)) (by (k_asm)) (by (exact rfl)) (by (exact rfl)) (by (exact rfl)) (by (exact rfl)) (by (with_reducible assumption)) (by (with_reducible assumption)) (by (with_reducible assumption)) (by (with_reducible assumption)) (by (with_reducible assumption)) (by (with_reducible assumption)) (by (with_reducible assumption)) (by (with_reducible assumption)) (by (with_reducible assumption)) (by (with_reducible assumption)) ?b9; intro a9 n9 h9 tk9 dr9 hj9 hx9 hy9 hbx9 hby9 hT9 hU9 hz9 ho9 hp9 hal9 hd9 F9 N9) | (fail "x"))) | ((with_reducible show wpAny _ _ (call (Value.ref 92) _ _) _ _ _); k_here; k_dflt (first | (refine' idm_c _ _ _ _ _ _ _ _ _ _ _ _ _ _ _ _ _ _ _ _ _ _ _ _ _ (by k_asm) (by k_asm) (by k_asm) (by k_asm) (by k_asm) (by first | exact rfl | assumption) (by first | with_reducible assumption | exact lt_frm (by k_asm) (by k_asm) (by with_reducible assumption) | exact lt_frm (by k_asm) (by k_asm) (lt_frm (by k_asm) (by k_asm) (by with_reducible assumption))) (by ktr_room) (by ktr_units) (by first | with_reducible assumption | exact CodeHd.keeps (by assumption) (Below.stays (by assumption))) (by first | with_reducible assumption | exact CodeHd.keeps (by assumption) (Below.stays (by assumption))) (by with_reducible assumption) (by with_reducible assumption) (by with_reducible assumption) (by with_reducible assumption) (by with_reducible assumption) (by with_reducible assumption) (by with_reducible assumption) (by with_reducible assumption) ?_; intro D9 h9 tk9 dr9 t19 t29 T9 T99 F9 hT9 hT99 N9 l9; (try dsimp only); (try k_fold)) | (fail "x"))) | walk1)) | (leave1; (try dsimp only)) | fail "no step")
  all_goals first
    | (refine' wEnd_next ⟨_, _, _, _, _, _, _, _, _, _⟩ _ ?ek ?eF ?eh ?eN ?eJ; (case eF => k_asm); (case eh => (exact four_back)); (case eN => (k_asm)); (case eJ => (exact quot_step (by with_reducible assumption) (by with_reducible assumption) (by with_reducible assumption) (by with_reducible assumption))); (case ek => (exact quot_less (by with_reducible assumption) (by with_reducible assumption))))
    | ((have hI9 := by_end (by with_reducible assumption) (by with_reducible assumption)); (refine' hret _ _ _ _ _ _ _ _ ?gF ?gT ?gU ?gI ?gN ?gl); (case gF => (k_asm)); (case gI => with_reducible assumption); (case gT => with_reducible assumption); (case gU => with_reducible assumption); (case gN => (exact news_cut2 (by k_asm))); (case gl => (exact allLt_mem (by with_reducible assumption))))
    | (fail "x")
end
/-! C_fold -/
section

open Builtin.Int (intBits)
structure Num (x : Str) (n : Int) : Prop where
  num : PySem.intText? (Txt.replace (Txt.rstrip x) (Str.ofString "_") (Str.ofString "")) = some n
  short : (Txt.replace (Txt.rstrip x) (Str.ofString "_") (Str.ofString "")).length ≤ 100
  len : x.length ≤ 100
  bnd : Bnd 11 n
inductive Nums : List Str → List Int → Prop
  | nil : Nums [] []
  | cons {x : Str} {n : Int} {xs : List Str} {ns : List Int} (h : Num x n) (r : Nums xs ns) : Nums (x :: xs) (n :: ns)
theorem nums_at {vs : List Value} {xs : List Str} (h : StrsAre vs xs) : ∀ {ns : List Int}, Nums xs ns → ∀ {i : Nat} {v : Value}, vs[i]? = some v → ∃ x t n, v = .str x t ∧ ns[i]? = some n ∧ Num x n := by
  induction h with
  | nil => intro ns _ i v hv; simp at hv
  | cons y t _ ih =>
    intro ns hn i v hv
    cases hn with
    | cons h1 h2 =>
      cases i with
      | zero => simp at hv; exact ⟨y, t, _, hv.symm, rfl, h1⟩
      | succ i => simp at hv; obtain ⟨x, t', n, e1, e2, e3⟩ := ih h2 hv; exact ⟨x, t', n, e1, by simpa using e2, e3⟩
theorem strs_len {vs : List Value} {xs : List Str} (h : StrsAre vs xs) : vs.length = xs.length := by
  induction h with
  | nil => rfl
  | cons y t _ ih => simp [ih]
theorem nums_len {xs : List Str} {ns : List Int} (h : Nums xs ns) : xs.length = ns.length := by
  induction h with
  | nil => rfl
  | cons _ _ ih => simp [ih]
/-- what _law_folded computes -/
noncomputable def fol (ns : List Int) : Int × Int := ns.foldl (fun p n => (n * p.1 + p.2, p.1)) (1, 0)
theorem fol_snoc (ns : List Int) (n : Int) : fol (ns ++ [n]) = (n * (fol ns).1 + (fol ns).2, (fol ns).1) := by simp [fol]
structure FolSt where
  g : Int
  l : Int
  gt : Tok
  lt : Tok
  T : List (Addr × Obj)
noncomputable def FolInv (ns : List Int) (i : Nat) (a : FolSt) : Prop :=
  fol (ns.take i) = (a.g, a.l) ∧ Bnd (13 * i + 1) a.g ∧ Bnd (13 * i + 1) a.l ∧ TabAtt 38 62 4 (Str.ofString "_str_to_int_inner.<locals>.inner") a.T
theorem fol_take {l : List Int} {i : Nat} {d : Int} (h : l[i]? = some d) : l.take (i + 1) = l.take i ++ [d] := by
  rw [List.take_add_one, h]; rfl
theorem fol_step {ns : List Int} {i : Nat} {a : FolSt} {n : Int} {gt lt : Tok} {T : List (Addr × Obj)} (hn : ns[i]? = some n) (hj : FolInv ns i a) (hb : Bnd 11 n) (hT : TabAtt 38 62 4 (Str.ofString "_str_to_int_inner.<locals>.inner") T) : FolInv ns (i + 1) ⟨n * a.g + a.l, a.g, gt, lt, T⟩ := by
  obtain ⟨h1, h2, h3, _⟩ := hj
  refine ⟨?_, ?_, h2.mono (by omega), hT⟩
  · rw [fol_take hn, fol_snoc, h1]
  · exact (bits_add (bits_mul hb h2) h3).mono (by omega)
theorem notIt_tab {P line col : Nat} {qual : Str} {T : List (Addr × Obj)} (hT : TabAtt P line col qual T) {p : Addr × Obj} (hp : p ∈ T) : NotIt p.2 := by
  intro l i q
  rcases hT with rfl | ⟨c, oc, vs, t, rfl, hd, hv, _⟩
  · rw [List.mem_singleton.mp hp] at q; cases q
  · rcases List.mem_cons.mp hp with rfl | hp
    · rw [show (c, oc).2.data = _ from hd] at q
      injection q with q
      rw [q] at hv
      simp at hv
    · rw [List.mem_singleton.mp hp] at q; cases q
theorem fold_loop {prog : Program} {w : World} {A : Around} {E : Value → Shared → Prop} {s : Shared} {env : Env} {h₀ : Heap} {x : Str} {px : Pos} {body : List Stmt} {Q : Flow → Shared → Prop}
    {l : Addr} {vs : List Value} {xs : List Str} {ns : List Int} {T₀ R : List (Addr × Obj)} {m₀ : Str → Option Value} {gt₀ lt₀ : Tok} {ep : Nat} (hl : (l, W.listOf vs.toArray ep) ∈ R) (hS : StrsAre vs xs) (hN : Nums xs ns)
    (hh : A.handled = none) (hx : env.kindOf x = some .local) (hp : (env.scope.kind == .class || (env.scope.kind == .module && env.locals != env.globals)) = false)
    (hE : PassesOwn (model prog w) A env E) (F : Fr h₀ env.locals s.heap m₀)
    (N : News h₀ env.locals s.heap (T₀ ++ R)) (hT : TabAtt 38 62 4 (Str.ofString "_str_to_int_inner.<locals>.inner") T₀) (hO : Off 38 R)
    (hg0 : m₀ (Str.ofString "great") = some (.int 1 gt₀)) (hl0 : m₀ (Str.ofString "less") = some (.int 0 lt₀))
    (turn : ∀ i y t n (a : FolSt) I o h tk dr, Num y n → PySem.intText? (Txt.replace (Txt.rstrip y) (Str.ofString "_") (Str.ofString "")) = some n → (Txt.replace (Txt.rstrip y) (Str.ofString "_") (Str.ofString "")).length ≤ 100 → y.length ≤ 100 → Bnd 11 n → ns[i]? = some n → FolInv ns i a → TabAtt 38 62 4 (Str.ofString "_str_to_int_inner.<locals>.inner") a.T → Off 38 ((I, o) :: R) →
      Fr h₀ env.locals h (fun z => if z = x then some (.str y t) else (fun z => if z = Str.ofString "less" then some (.int a.l a.lt) else if z = Str.ofString "great" then some (.int a.g a.gt) else m₀ z) z) →
      News h₀ env.locals h ((I, o) :: (a.T ++ R)) →
      wpAny (model prog w) A (execs body env) (TurnEnd h₀ env.locals x (fun (a : FolSt) => fun z => if z = Str.ofString "less" then some (.int a.l a.lt) else if z = Str.ofString "great" then some (.int a.g a.gt) else m₀ z) (fun a => a.T ++ R) [(I, o)] (FolInv ns (i + 1)) s Q) E { s with heap := h, toks := tk, drawn := dr })
    (done : ∀ (a : FolSt) h tk dr u, fol ns = (a.g, a.l) → Bnd (13 * ns.length + 1) a.g → Bnd (13 * ns.length + 1) a.l → TabAtt 38 62 4 (Str.ofString "_str_to_int_inner.<locals>.inner") a.T →
      Fr h₀ env.locals h (fun z => if z = x then u else (fun z => if z = Str.ofString "less" then some (.int a.l a.lt) else if z = Str.ofString "great" then some (.int a.g a.gt) else m₀ z) z) →
      News h₀ env.locals h (a.T ++ R) → Q .next { s with heap := h, toks := tk, drawn := dr }) :
    wpAny (model prog w) A (pyIter (.ref l)) (fun it s₂ => codeAny (model prog w) A (.forLoop (.Name x px) it body [] env) (fun r s' => match r with | .ok f => Q f s' | .error e => cameBackBy (model prog w) A env E e s') s₂) E s := by
  have hlen : vs.length = ns.length := (strs_len hS).trans (nums_len hN)
  refine iter_list_over (vs := vs) (m₀ := m₀) (fun (a : FolSt) => [(Str.ofString "less", some (.int a.l a.lt)), (Str.ofString "great", some (.int a.g a.gt))]) (fun a => a.T ++ R) (FolInv ns) ⟨1, 0, gt₀, lt₀, T₀⟩ hh hx hp hE ?_ (.inr ⟨ep, fun a => List.mem_append_right _ hl⟩) F ?_ N ?_ ?_ ?_
  · intro i a I hj hI p hp
    rcases List.mem_append.mp hp with hp | hp
    · exact .inr (notIt_tab hj.2.2.2 hp)
    · exact .inl (Nat.ne_of_lt (hI p (List.mem_append_right _ hp)))
  · intro p hp
    simp only [List.mem_cons, List.not_mem_nil, or_false] at hp
    rcases hp with rfl | rfl
    · exact hl0
    · exact hg0
  · exact ⟨by simp [fol], (⟨by decide, by decide⟩ : Bnd (13 * 0 + 1) 1), (⟨by decide, by decide⟩ : Bnd (13 * 0 + 1) 0), hT⟩
  · intro i v a I o h tk dr hv hj hI F' N'
    obtain ⟨y, t, n, rfl, hn, h1⟩ := nums_at hS hN hv
    refine turn i y t n a I o h tk dr h1 h1.num h1.short h1.len h1.bnd hn hj hj.2.2.2 (Off.cons ?_ hO) F' N'
    obtain ⟨q, hq⟩ := hT.tab
    exact Nat.ne_of_gt (hI _ (List.mem_append_left _ hq))
  · intro a h tk dr u hj F' N'
    refine done a h tk dr u ?_ (hlen ▸ hj.2.1) (hlen ▸ hj.2.2.1) hj.2.2.2 F' N'
    have h3 := hj.1
    rw [hlen, List.take_length] at h3
    exact h3
theorem two_back' {x a b : Str} {v1 v2 v v3 v4 : Option Value} {m₀ : Str → Option Value} (hab : a ≠ b) : ∀ z, z ≠ x → (if z = a then v1 else if z = b then v2 else if z = x then v else if z = b then v3 else if z = a then v4 else m₀ z) = if z = b then v2 else if z = a then v1 else m₀ z := by
  intro z hz
  by_cases h1 : z = a
  · have h2 : ¬ z = b := fun q => hab (h1.symm.trans q)
    rw [if_pos h1, if_neg h2, if_pos h1]
  · by_cases h2 : z = b
    · rw [if_neg h1, if_pos h2, if_pos h2]
    · simp [h1, h2, hz]
theorem news_swap {h₀ h : Heap} {L : Addr} {X : Addr × Obj} {T R : List (Addr × Obj)} (N : News h₀ L h (X :: (T ++ R))) : News h₀ L h (T ++ (X :: R)) := news_sub N fun p hp => by
  simp only [List.mem_append, List.mem_cons] at hp ⊢
  rcases hp with h | h | h <;> simp [h]
theorem news_unswap {h₀ h : Heap} {L : Addr} {X : Addr × Obj} {T R : List (Addr × Obj)} (N : News h₀ L h (T ++ (X :: R))) : News h₀ L h ([X] ++ (T ++ R)) := news_sub N fun p hp => by
  simp only [List.mem_append, List.mem_cons, List.not_mem_nil, or_false] at hp ⊢
  rcases hp with h | h | h <;> simp [h]
theorem mul_num {prog : Program} {w : World} {A : Around} {E : Value → Shared → Prop} {s : Shared} {a b : Int} {t u : Tok} {Q : Value → Shared → Prop} (ha : Bnd 11 a) (hq : Q (.int (a * b) s.toks) { s with toks := s.toks + 1 }) : wpAny (model prog w) A (binaryOp .Mult (.int a t) (.int b u)) Q E s :=
  AutoIntOps.mul_0 hq (PySem.IntMulOk.of_left (Nat.le_trans ha.2 (by decide)))
theorem fold_c {prog : Program} {p : Program} {loose : List Str} {mean : ExcName → Option Value} {mg mb : Str → Option Value} (w : World) : ∀ (l : Addr) (vs : List Value) (xs : List Str) (ns : List Int) (ep : Nat) (T38 : List (Addr × Obj)) (rest : List (Addr × Obj)) (dp un : Nat) (gd : Option (List Code)) (cn : Str) (cs : Scope) (a : Addr) (ccd : Value) (cl : List (Str × Addr)) (outer : List Env) (A₀ : Around) (base h₀ : Heap) (L : Addr) (m : Str → Option Value) (s : Shared) (Q E : Value → Shared → Prop),
    Below A₀ base outer h₀ → Fr h₀ L s.heap m → (hd.heap_1 w.params).In h₀ → News h₀ L s.heap (T38 ++ rest) → Top p loose mean mg mb h₀ → cs.kind = .function → 80 < L →
    dp + 60 < recursionLimit → un + 900 < cLine → CodeHd base 42 38 → TabAtt 38 62 4 (Str.ofString "_str_to_int_inner.<locals>.inner") T38 → Off 38 rest → (l, W.listOf vs.toArray ep) ∈ rest → StrsAre vs xs → Nums xs ns → 
    (∀ (D : Addr) (h' : Heap) (tk' : Nat) (dr : Drawn) (t1 t2 : Tok) (g l' : Int) (T38' : List (Addr × Obj)), fol ns = (g, l') → Bnd (13 * ns.length + 1) g → Bnd (13 * ns.length + 1) l' → Fr h₀ L h' m → TabAtt 38 62 4 (Str.ofString "_str_to_int_inner.<locals>.inner") T38' → News h₀ L h' ((D, ({ cls := .type "tuple", data := .seq #[.int g t1, .int l' t2] } : Obj)) :: (T38' ++ rest)) → (∀ p ∈ T38' ++ rest, p.1 < D) → Q (.ref D) { s with heap := h', toks := tk', drawn := dr }) →
      wpAny (model prog w) (ktrTop dp un gd cn cs L a ccd cl outer) (call (.ref 167) [.ref l]) Q E s := by
  w_top off
  intro l vs xs ns ep T38 rest dp un gd cn cs a ccd cl outer A₀ base h₀ L m s Q E B F X N T hk hL hd hu hC hT hO hl hS hN hret
  refine wpAny_call ?_
  k_dflt k_enter
  repeat' (first | (k_unfold; (try dsimp only)) | ((with_reducible show wpAny _ _ (binaryOp .Mult (Value.int _ _) (Value.int _ _)) _ _ _); k_dflt (refine' mul_num (by with_reducible assumption) ?_)) | ((with_reducible show wpAny _ _ (pyIter (Value.ref _)) _ _ _); k_here; k_dflt (first | (refine' fold_loop (by (with_reducible assumption)) (by (with_reducible assumption)) (by (with_reducible assumption)) (by (exact rfl)) (by (exact rfl)) (by (exact rfl)) (by (with_unfolding_all passes_own)) (by (k_asm)) (by (k_asm)) (by (with_reducible assumption)) (by (with_reducible assumption)) (by (exact rfl)) (by (exact rfl)) ?_ ?_; (intro i9 y9 t9 n9 a9 I9 o9 h9 tk9 dr9 hnum9 hy9 hs9 hl9 hb9 hn9 hj9 hT9 hO9 F9 N9); rotate_left; (intro a9 h9 tk9 dr9 u9 hf9 hg9 hl9 hT9 F9 N9); rotate_left) | (fail "x"))) | ((with_reducible show wpAny _ _ (exec (Stmt.For _ _ _ _ _) _) _ _ _); k_here; k_dflt (refine wpAny_For ?_)) | ((with_reducible show wpAny _ _ (call (Value.ref 50) _ _) _ _ _); k_here; k_dflt (first | (refine' ifs_c _ _ _ _ _ _ _ _ _ _ _ _ _ _ _ _ _ _ _ _ _ _ _ (by k_asm) (by k_asm) (by k_asm) (by exact news_swap (by k_asm)) (by k_asm) (by first | exact rfl | assumption) (by first | with_reducible assumption | exact lt_frm (by k_asm) (by k_asm) (by with_reducible assumption) | exact lt_frm (by k_asm) (by k_asm) (lt_frm (by k_asm) (by k_asm) (by with_reducible assumption))) (by ktr_room) (by ktr_units) (by first | with_reducible assumption | exact CodeHd.keeps (by assumption) (Below.stays (by assumption))) (by with_reducible assumption) (by with_reducible assumption) (by with_reducible assumption) (by with_reducible assumption) (by with_reducible assumption) ?_; intro t9 h9 tk9 dr9 T9 F9 hT9 N9; (try dsimp only); (try k_fold)) | (fail "x"))) | (k_end; kc_close) | walk1 | (dsimp only; (first | ((with_reducible show wpAny _ _ (binaryOp .Mult (Value.int _ _) (Value.int _ _)) _ _ _); k_dflt (refine' mul_num (by with_reducible assumption) ?_)) | ((with_reducible show wpAny _ _ (pyIter (Value.ref _)) _ _ _); k_here; k_dflt (first | (refine' fold_loop (by (with_reducible assumption)) (by (with_reducible assumption)) (by (with_reducible assumption)) (by (exact rfl)) (by (exact rfl)) (by (exact rfl)) (by (with_unfolding_all passes_own)) (by (k_asm)) (by (k_asm)) (by (with_reducible assumption)) (by (with_reducible assumption)) (by (exact rfl)) (by (exact rfl)) ?_ ?_; (intro i9 y9 t9 n9 a9 I9 o9 h9 tk9 dr9 hnum9 hy9 hs9 hl9 hb9 hn9 hj9 hT9 hO9 F9 N9); rotate_left; (intro a9 h9 tk9 dr9 u9 hf9 hg9 hl9 hT9 F9 N9); rotate_left) | (fail "x"))) | ((with_reducible show wpAny _ _ (exec (Stmt.For _ _ _ _ _) _) _ _ _); k_here; k_dflt (refine wpAny_For ?_)) | ((with_reducible show wpAny _ _ (call (Value.ref 50) _ _) _ _ _); k_here; k_dflt (first | (refine' ifs_c _ _ _ _ _ _ _ _ _ _ _ _ _ _ _ _ _ _ _ _ _ _ _ (by k_asm) (by k_asm) (by k_asm) (by exact news_swap (by k_asm)) (by k_asm) (by first | exact rfl | assumption) (by first | with_reducible assumption | exact lt_frm (by k_asm) (by k_asm) (by with_reducible assumption) | exact lt_frm (by k_asm) (by k_asm) (lt_frm (by k_asm) (by k_asm) (by with_reducible assumption))) (by ktr_room) (by ktr_units) (by first | with_reducible assumption | exact CodeHd.keeps (by assumption) (Below.stays (by assumption))) (by with_reducible assumption) (by with_reducible assumption) (by with_reducible assumption) (by with_reducible assumption) (by with_reducible assumption) ?_; intro t9 h9 tk9 dr9 T9 F9 hT9 N9; (try dsimp only); (try k_fold)) | (fail "x"))) | walk1)) | (leave1; (try dsimp only)) | fail "no step")
  all_goals first
    | (refine' turnEnd_next ⟨_, _, _, _, _⟩ ?eF ?eh ?eN ?eJ; (case eF => k_asm); (case eh => (refine' two_back' ?_; decide)); (case eN => (first | exact news_unswap (by k_asm) | exact news_unswap (news_tail (by k_asm)))); (case eJ => (exact fol_step (by with_reducible assumption) (by with_reducible assumption) (by with_reducible assumption) (by with_reducible assumption))))
    | ((refine' hret _ _ _ _ _ _ _ _ _ ?gf ?g1 ?g2 ?gF ?gT ?gN ?gl); (case gF => (k_asm)); (case gT => with_reducible assumption); (case gf => with_reducible assumption); (case g1 => with_reducible assumption); (case g2 => with_reducible assumption); (case gN => (k_asm)); (case gl => (exact allLt_mem (by with_reducible assumption))))
    | (fail "x")
end
/-! C_behind -/
section

/-- the joined name, its parts told from behind -/
noncomputable def nam : List (List Nat) → List Nat
  | [] => []
  | [p] => p
  | p :: q :: r => nam (q :: r) ++ 46 :: p
noncomputable def bef : List (List Nat) → List Nat
  | [] => []
  | q :: r => nam (q :: r) ++ [46]
theorem nam_cons (p : List Nat) (r : List (List Nat)) : nam (p :: r) = bef r ++ p := by
  cases r with
  | nil => rfl
  | cons q r => simp [nam, bef]
theorem bef_end (r : List (List Nat)) : bef r = [] ∨ ∃ b, bef r = b ++ [46] := by
  cases r with
  | nil => exact .inl rfl
  | cons q r => exact .inr ⟨_, rfl⟩
theorem nam_mem {P : Nat → Prop} (h46 : P 46) : ∀ {r : List (List Nat)}, (∀ p ∈ r, ∀ c ∈ p, P c) → ∀ c ∈ nam r, P c
  | [], _, _, h => nomatch h
  | [p], h, c, hc => h p (.head _) c hc
  | p :: q :: r, h, c, hc => by
    rcases List.mem_append.mp hc with hc | hc
    · exact nam_mem h46 (fun p' hp => h p' (.tail _ hp)) c hc
    · rcases List.mem_cons.mp hc with rfl | hc
      · exact h46
      · exact h p (.head _) c hc
theorem bef_mem {P : Nat → Prop} (h46 : P 46) : ∀ {r : List (List Nat)}, (∀ p ∈ r, ∀ c ∈ p, P c) → ∀ c ∈ bef r, P c
  | [], _, _, h => nomatch h
  | q :: r, h, c, hc => by
    rcases List.mem_append.mp hc with hc | hc
    · exact nam_mem h46 h c hc
    · rw [List.mem_singleton.mp hc]; exact h46
/-- the parts are words -/
noncomputable def Word (p : List Nat) : Prop := p ≠ [] ∧ ∀ c ∈ p, c ≠ 58 ∧ c ≠ 10 ∧ c ≠ 46
theorem tx_ne {l : List Nat} (h : l ≠ []) : (tx l != Str.ofString "") = true := by
  apply bne_iff_ne.mpr
  intro q
  have q1 := congrArg (fun z : Str => z.cps.toList) q
  exact h q1
theorem tx_app (a b : List Nat) : tx a ++ tx b = tx (a ++ b) := by
  show (⟨a.toArray ++ b.toArray⟩ : Str) = ⟨(a ++ b).toArray⟩
  rw [List.append_toArray]
theorem add_tx {prog : Program} {w : World} {A : Around} {E : Value → Shared → Prop} {s : Shared} {a b : List Nat} {t u : Tok} {Q : Value → Shared → Prop} (hl : (tx (a ++ b)).length ≤ 1000) (h : ∀ t' k, Q (.str (tx (a ++ b)) t') { s with toks := k }) : wpAny (model prog w) A (binaryOp .Add (.str (tx a) t) (.str (tx b) u)) Q E s := by
  refine PyProof.Rows.add_str (fun t' k => ?_) ?_
  · rw [tx_app]; exact h t' k
  · rw [tx_len, tx_len]
    rw [tx_len, List.length_append] at hl
    exact Nat.le_trans hl (by decide)
theorem bef_len (p : List Nat) (r : List (List Nat)) : ((bef r ++ p).length : Int) - p.length - 1 = (nam r).length ∨ ((bef r ++ p).length : Int) - p.length - 1 = -1 ∧ ((nam r).length : Int) = 0 := by
  rw [List.length_append]
  cases r with
  | nil => right; simp [bef, nam]
  | cons q t => left; simp only [bef, List.length_append, List.length_singleton]; omega
theorem len_tx {prog : Program} {w : World} {A : Around} {E : Value → Shared → Prop} {s : Shared} {a : List Nat} {t : Tok} {Q : Value → Shared → Prop} (hl : (a.length : Int) ≤ 1000) (h : Q (.int (a.length : Int) (s.toks + 1)) { s with toks := s.toks + 1 + 1 }) : wpAny (model prog w) A (call (.builtin "len") [.str (tx a) t]) Q E s := by
  refine PySem.P.len_str (by rw [tx_len]; omega) ?_
  rw [tx_len]; exact h
theorem slice_tx {a b : List Nat} {j : Int} (hj : j = a.length) : Txt.slice (tx (a ++ b)) none (some j) = tx a := by
  have h1 := eq_of_beq (slice_closes_toL (x := tx (a ++ b)) (j := j) (by omega) (by rw [tx_len, List.length_append]; omega))
  rw [h1, tx_list]
  have e : (j - 0).toNat = a.length := by omega
  rw [e]
  simp
theorem slice_nam {prog : Program} {w : World} {A : Around} {E : Value → Shared → Prop} {s : Shared} {h₀ : Heap} {L : Addr} {m : Str → Option Value} {news : List (Addr × Obj)} {r : List (List Nat)} {p : List Nat} {t : Tok} {j : Int} {uj : Tok} {value slice : Expr} {Q : Value → Shared → Prop} (hF : Fr h₀ L s.heap m) (hN : News h₀ L s.heap news) (hlen : ((bef r ++ p).length : Int) ≤ 1000) (hj : j = (nam r).length)
    (h : ∀ h' t' k, Fr h₀ L h' m → News h₀ L h' news → Q (.str (tx (nam r)) t') { s with heap := h', toks := k })
    (hs : subscripted slice false (.str (tx (bef r ++ p)) t) (.ref s.heap.objs.size) = operate [.ref s.heap.objs.size, .str (tx (bef r ++ p)) t] (getItem (.str (tx (bef r ++ p)) t) (.ref s.heap.objs.size)) := by with_unfolding_all rfl)
    (ht : ∀ r', letTemporaryGo value (.str (tx (bef r ++ p)) t) r' = pure () := by intro _; with_unfolding_all rfl) :
    wpAny (model prog w) A (subscriptTail value slice (.str (tx (bef r ++ p)) t) (.ref s.heap.objs.size)) Q E { s with heap := s.heap.push { cls := .type "slice", data := .fields #[.none, .int j uj, .none] } } := by
  refine PyProof.Rows.slice_strN_ns hF hN (fun h' t' k a b => ?_) hs ht (by rw [tx_len]; exact Nat.le_trans (by omega : (bef r ++ p).length ≤ 1000) (by decide))
  have e : Txt.slice (tx (bef r ++ p)) none (some j) = tx (nam r) := by
    cases r with
    | nil =>
      show Txt.slice (tx ([] ++ p)) none (some j) = tx []
      exact slice_tx hj
    | cons q t =>
      show Txt.slice (tx (nam (q :: t) ++ [46] ++ p)) none (some j) = tx (nam (q :: t))
      rw [List.append_assoc]
      exact slice_tx hj
  rw [e]
  exact h h' t' k a b
structure BSt where
  rs : List (List Nat)
  nt : Tok
  its : Array Value
  e : Nat
  wd : Option Value
noncomputable def BJ (full : List (List Nat)) (n : Nat) (a : BSt) : Prop :=
  n = a.rs.length ∧ ∃ done, done ++ a.rs = full ∧ StrsAre a.its.toList (done.map tx)
theorem strs_app {vs ws : List Value} {xs ys : List Str} (h : StrsAre vs xs) (h' : StrsAre ws ys) : StrsAre (vs ++ ws) (xs ++ ys) := by
  induction h with
  | nil => exact h'
  | cons y t _ ih => exact .cons y t ih
theorem nam_len_le : ∀ {d r : List (List Nat)}, (nam r).length ≤ (nam (d ++ r)).length
  | [], _ => Nat.le_refl _
  | p :: d, r => by
    refine Nat.le_trans (nam_len_le (d := d) (r := r)) ?_
    rw [List.cons_append, nam_cons, List.length_append]
    cases h : d ++ r with
    | nil => simp [nam]
    | cons q t => simp [bef]; omega
theorem beh_step {full : List (List Nat)} {n : Nat} {a : BSt} {p : List Nat} {r : List (List Nat)} {nt t : Tok} {e : Nat} {wd : Option Value} (hr : a.rs = p :: r) (hj : BJ full n a) : BJ full r.length ⟨r, nt, a.its.push (.str (tx p) t), e, wd⟩ := by
  obtain ⟨_, dn, h1, h2⟩ := hj
  refine ⟨rfl, dn ++ [p], ?_, ?_⟩
  · rw [List.append_assoc, List.singleton_append, ← hr]; exact h1
  · rw [Array.toList_push, List.map_append]; exact strs_app h2 (.cons _ _ .nil)
theorem beh_less {full : List (List Nat)} {n : Nat} {a : BSt} {p : List Nat} {r : List (List Nat)} (hr : a.rs = p :: r) (hj : BJ full n a) : r.length < n := by
  rw [hj.1, hr]; exact Nat.lt_succ_self _
theorem two_fwd {a b : Str} {v1 v2 v3 v4 : Option Value} {m₀ : Str → Option Value} : ∀ z, (if z = a then v1 else if z = b then v2 else if z = a then v3 else if z = b then v4 else m₀ z) = if z = a then v1 else if z = b then v2 else m₀ z := by
  intro z
  by_cases h1 : z = a
  · simp [h1]
  · by_cases h2 : z = b
    · simp [h2]
    · simp [h1, h2]
theorem beh_loop {prog : Program} {w : World} {A : Around} {E : Value → Shared → Prop} {s : Shared} {env : Env} {test : Expr} {body orelse : List Stmt} {Q : Flow → Shared → Prop} {h₀ : Heap} {row : Addr} {R : List (Addr × Obj)} {m₀ : Str → Option Value} {full : List (List Nat)} {t9 : List Nat} {nt tt : Tok} {e₀ k : Nat}
    (hE : PassesOwn (model prog w) A env E) (F : Fr h₀ env.locals s.heap m₀) (N : News h₀ env.locals s.heap ((row, W.listOf #[] e₀) :: R))
    (hx : m₀ (Str.ofString "name") = some (.str (tx (nam full)) nt)) (hy : m₀ (Str.ofString "tail") = some (.str (tx t9) tt)) (hp : m₀ (Str.ofString "word") = none)
    (hl : AllLt row R) (hW : ∀ p ∈ full, Word p) (hlen : (tx (nam full ++ t9)).length ≤ 1000) (hT : TailOk t9)
    (turn : ∀ (a : BSt) p r n h tk dr, a.rs = p :: r → BJ full n a → a.its.size ≤ sizeLine → (tx (bef r ++ p ++ t9)).length ≤ 1000 → (bef r = [] ∨ ∃ b, bef r = b ++ [46]) → (∀ c ∈ bef r, c ≠ 58 ∧ c ≠ 10) → (∀ c ∈ p, c ≠ 58 ∧ c ≠ 10 ∧ c ≠ 46) → (tx (bef r ++ p) != Str.ofString "") = true → ((bef r ++ p).length : Int) ≤ 1000 → (p.length : Int) ≤ 1000 → (((bef r ++ p).length : Int) - p.length - 1 = (nam r).length ∨ ((bef r ++ p).length : Int) - p.length - 1 = -1 ∧ ((nam r).length : Int) = 0) →
      Fr h₀ env.locals h (fun z => if z = Str.ofString "name" then some (.str (tx (bef r ++ p)) a.nt) else if z = Str.ofString "word" then a.wd else m₀ z) → News h₀ env.locals h ((row, W.listOf a.its a.e) :: R) →
      wpAny (model prog w) A (isTrue test env (eval test env)) (fun b s₂ => WhlIf b (wpAny (model prog w) A (execs body env) (WEnd h₀ env.locals (fun (a : BSt) => fun z => if z = Str.ofString "name" then some (.str (tx (nam a.rs)) a.nt) else if z = Str.ofString "word" then a.wd else m₀ z) (fun a => (row, W.listOf a.its a.e) :: R) (BJ full) s Q n) E s₂) (wpAny (model prog w) A (execs orelse env) Q E s₂)) E { s with heap := h, toks := tk, drawn := dr })
    (done : ∀ (its : Array Value) e nt wd n h tk dr, StrsAre its.toList (full.map tx) →
      Fr h₀ env.locals h (fun z => if z = Str.ofString "name" then some (.str (tx []) nt) else if z = Str.ofString "word" then wd else m₀ z) → News h₀ env.locals h ((row, W.listOf its e) :: R) →
      wpAny (model prog w) A (isTrue test env (eval test env)) (fun b s₂ => WhlIf b (wpAny (model prog w) A (execs body env) (WEnd h₀ env.locals (fun (a : BSt) => fun z => if z = Str.ofString "name" then some (.str (tx (nam a.rs)) a.nt) else if z = Str.ofString "word" then a.wd else m₀ z) (fun a => (row, W.listOf a.its a.e) :: R) (BJ full) s Q n) E s₂) (wpAny (model prog w) A (execs orelse env) Q E s₂)) E { s with heap := h, toks := tk, drawn := dr }) :
    WhlRest prog w A E env test body orelse Q k s := by
  refine whl_over (h₀ := h₀) (L := env.locals) (fun (a : BSt) => fun z => if z = Str.ofString "name" then some (.str (tx (nam a.rs)) a.nt) else if z = Str.ofString "word" then a.wd else m₀ z) (fun a => (row, W.listOf a.its a.e) :: R) (BJ full) ⟨full, nt, #[], e₀, none⟩ full.length hE ?_ N ?_ ?_
  · have : (fun z => if z = Str.ofString "name" then some (.str (tx (nam full)) nt) else if z = Str.ofString "word" then none else m₀ z) = m₀ := by
      funext z
      by_cases q1 : z = Str.ofString "name"
      · rw [if_pos q1, q1, hx]
      · by_cases q2 : z = Str.ofString "word"
        · rw [if_neg q1, if_pos q2, q2, hp]
        · rw [if_neg q1, if_neg q2]
    exact (congrArg (fun g => Fr h₀ env.locals s.heap g) this).mpr F
  · exact ⟨rfl, [], rfl, .nil⟩
  · intro n a h tk dr hj F' N'
    obtain ⟨hn, dn, hd, hS⟩ := id hj
    cases hrs : a.rs with
    | nil =>
      rw [hrs, List.append_nil] at hd
      rw [hd] at hS
      rw [hrs] at F'
      exact done a.its a.e a.nt a.wd n h tk dr hS F' N'
    | cons p r =>
      rw [hrs, nam_cons] at F'
      have hm : ∀ q ∈ p :: r, Word q := fun q hq => hW q (by rw [← hd, hrs]; exact List.mem_append_right _ hq)
      have hlen2 : (tx (bef r ++ p ++ t9)).length ≤ 1000 := by
        have h1 := nam_len_le (d := dn) (r := p :: r)
        rw [← hrs, hd, hrs, nam_cons] at h1
        rw [tx_len, List.length_append] at hlen ⊢
        omega
      refine turn a p r n h tk dr hrs hj ?_ hlen2 (bef_end r) (bef_mem ⟨by decide, by decide⟩ fun q hq c hc => ⟨((hm q (.tail _ hq)).2 c hc).1, ((hm q (.tail _ hq)).2 c hc).2.1⟩) (hm p (.head _)).2 ?_ ?_ ?_ (bef_len p r) F' N'
      · have h1 := strs_len hS
        rw [Array.length_toList, List.length_map] at h1
        have h2 : dn.length ≤ (nam full).length := by
          rw [← hd]
          have : ∀ (d : List (List Nat)), (∀ p ∈ d, p ≠ []) → d.length ≤ (nam d).length := by
            intro d
            induction d with
            | nil => intro _; exact Nat.zero_le _
            | cons q d ih =>
              intro h
              have h3 := ih fun p hp => h p (.tail _ hp)
              have h4 : q.length ≠ 0 := fun z => h q (.head _) (List.length_eq_zero_iff.mp z)
              rw [nam_cons, List.length_append, List.length_cons]
              cases d with
              | nil => simp [bef]; omega
              | cons u v => simp [bef] at h3 ⊢; omega
          have h5 := this (dn ++ a.rs) fun p hp => (hW p (by rw [← hd]; exact hp)).1
          rw [List.length_append] at h5
          omega
        rw [tx_len, List.length_append] at hlen
        exact Nat.le_trans (by omega : a.its.size ≤ 1000) (by decide)
      · exact tx_ne fun q => (hm p (.head _)).1 (List.append_eq_nil_iff.mp q).2
      · rw [tx_len, List.length_append] at hlen2; omega
      · rw [tx_len, List.length_append, List.length_append] at hlen2; omega
theorem behind_c {prog : Program} {p : Program} {loose : List Str} {mean : ExcName → Option Value} {mg mb : Str → Option Value} (w : World) : ∀ (full : List (List Nat)) (t9 : List Nat) (nt tt : Tok) (rest : List (Addr × Obj)) (dp un : Nat) (gd : Option (List Code)) (cn : Str) (cs : Scope) (a : Addr) (ccd : Value) (cl : List (Str × Addr)) (outer : List Env) (A₀ : Around) (base h₀ : Heap) (L : Addr) (m : Str → Option Value) (s : Shared) (Q E : Value → Shared → Prop),
    Below A₀ base outer h₀ → Fr h₀ L s.heap m → (hd.heap_1 w.params).In h₀ → News h₀ L s.heap (rest) → Top p loose mean mg mb h₀ → cs.kind = .function → 80 < L →
    dp + 40 < recursionLimit → un + 500 < cLine → (∀ p ∈ full, Word p) → (tx (nam full ++ t9)).length ≤ 1000 → TailOk t9 → 
    (∀ (d : Addr) (h' : Heap) (tk' : Nat) (dr : Drawn) (its : Array Value) (ep : Nat), Fr h₀ L h' m → StrsAre its.toList (full.map tx) → News h₀ L h' ((d, W.listOf its ep) :: rest) → (∀ p ∈ rest, p.1 < d) → Q (.ref d) { s with heap := h', toks := tk', drawn := dr }) →
      wpAny (model prog w) (ktrTop dp un gd cn cs L a ccd cl outer) (call (.ref 160) [.str (tx (nam full)) nt, .str (tx t9) tt]) Q E s := by
  w_top off
  intro full t9 nt tt rest dp un gd cn cs a ccd cl outer A₀ base h₀ L m s Q E B F X N T hk hL hd hu hW hlen hT hret
  refine wpAny_call ?_
  k_dflt k_enter
  repeat' (first | (k_unfold; (try dsimp only)) | ((with_reducible show WhlIf _ _ _); k_dflt (refine WhlIf.yes (by with_reducible assumption) ?_)) | ((with_reducible show wpAny _ _ (subscriptTail (Expr.Name _ _) (Expr.Slice _ _ _ _) (Value.str _ _) (Value.ref _)) _ _ _); k_here; k_dflt (refine' slice_nam (s := ⟨_, _, _, _, _⟩) (by k_asm) (by k_asm) (by with_reducible assumption) (by omega) ?_; intro h9 t9 k9 F9 N9)) | ((with_reducible show wpAny _ _ (call (Value.builtin "len") _ _) _ _ _); k_here; k_dflt (refine' len_tx (by with_reducible assumption) ?_)) | ((with_reducible show wpAny _ _ (call (Value.builtin "list.append") _ _) _ _ _); k_here; k_dflt (refine' append_K (by k_asm) (by k_asm) (by k_upd) ?_ (by with_reducible assumption); intro h9 F9 N9)) | ((with_reducible show wpAny _ _ (call (Value.ref 28) _ _) _ _ _); k_here; k_dflt (first | (refine' strip_c _ _ _ _ _ _ _ _ _ _ _ _ _ _ _ _ _ _ _ _ _ _ _ (by k_asm) (by k_asm) (by k_asm) (by k_asm) (by k_asm) (by first | exact rfl | assumption) (by ktr_room) (by ktr_units) (by with_reducible assumption) (by with_reducible assumption) (by with_reducible assumption) (by with_reducible assumption) (by with_reducible assumption) ?_; intro t9 h9 tk9 F9 N9; (try dsimp only); (try k_fold)) | (fail "x"))) | ((with_reducible show wpAny _ _ (binaryOp .Add (Value.str _ _) (Value.str _ _)) _ _ _); k_here; k_dflt (refine' add_tx (by with_reducible assumption) ?_; intro t9 k9)) | ((with_reducible show wpAny _ _ (exec (Stmt.While _ _ _ _) _) _ _ _); k_here; k_dflt (refine whl_start 0 ?_); k_dflt (first | (refine' beh_loop (by (with_unfolding_all passes_own)) (by (k_asm)) (by (k_asm)) (by (exact rfl)) (by (exact rfl)) (by (exact rfl)) (by (with_reducible assumption)) (by (with_reducible assumption)) (by (with_reducible assumption)) (by (with_reducible assumption)) ?_ ?_; (intro a9 p9 r9 n9 h9 tk9 dr9 hrs9 hj9 hz9 hl9 he9 hb9 hw9 hne9 hn19 hn29 hn39 F9 N9); rotate_left; (intro its9 e9 nt9 wd9 n9 h9 tk9 dr9 hs9 F9 N9); rotate_left) | (fail "x"))) | (k_end; kc_close) | walk1 | (dsimp only; (first | ((with_reducible show WhlIf _ _ _); k_dflt (refine WhlIf.yes (by with_reducible assumption) ?_)) | ((with_reducible show wpAny _ _ (subscriptTail (Expr.Name _ _) (Expr.Slice _ _ _ _) (Value.str _ _) (Value.ref _)) _ _ _); k_here; k_dflt (refine' slice_nam (s := ⟨_, _, _, _, _⟩) (by k_asm) (by k_asm) (by with_reducible assumption) (by omega) ?_; intro h9 t9 k9 F9 N9)) | ((with_reducible show wpAny _ _ (call (Value.builtin "len") _ _) _ _ _); k_here; k_dflt (refine' len_tx (by with_reducible assumption) ?_)) | ((with_reducible show wpAny _ _ (call (Value.builtin "list.append") _ _) _ _ _); k_here; k_dflt (refine' append_K (by k_asm) (by k_asm) (by k_upd) ?_ (by with_reducible assumption); intro h9 F9 N9)) | ((with_reducible show wpAny _ _ (call (Value.ref 28) _ _) _ _ _); k_here; k_dflt (first | (refine' strip_c _ _ _ _ _ _ _ _ _ _ _ _ _ _ _ _ _ _ _ _ _ _ _ (by k_asm) (by k_asm) (by k_asm) (by k_asm) (by k_asm) (by first | exact rfl | assumption) (by ktr_room) (by ktr_units) (by with_reducible assumption) (by with_reducible assumption) (by with_reducible assumption) (by with_reducible assumption) (by with_reducible assumption) ?_; intro t9 h9 tk9 F9 N9; (try dsimp only); (try k_fold)) | (fail "x"))) | ((with_reducible show wpAny _ _ (binaryOp .Add (Value.str _ _) (Value.str _ _)) _ _ _); k_here; k_dflt (refine' add_tx (by with_reducible assumption) ?_; intro t9 k9)) | ((with_reducible show wpAny _ _ (exec (Stmt.While _ _ _ _) _) _ _ _); k_here; k_dflt (refine whl_start 0 ?_); k_dflt (first | (refine' beh_loop (by (with_unfolding_all passes_own)) (by (k_asm)) (by (k_asm)) (by (exact rfl)) (by (exact rfl)) (by (exact rfl)) (by (with_reducible assumption)) (by (with_reducible assumption)) (by (with_reducible assumption)) (by (with_reducible assumption)) ?_ ?_; (intro a9 p9 r9 n9 h9 tk9 dr9 hrs9 hj9 hz9 hl9 he9 hb9 hw9 hne9 hn19 hn29 hn39 F9 N9); rotate_left; (intro its9 e9 nt9 wd9 n9 h9 tk9 dr9 hs9 F9 N9); rotate_left) | (fail "x"))) | walk1)) | (leave1; (try dsimp only)) | fail "no step")
  all_goals first
    | (refine' wEnd_next ⟨_, _, _, _, _⟩ _ ?ek ?eF ?eh ?eN ?eJ; (case eF => k_asm); (case eh => (exact two_fwd)); (case eN => (k_asm)); (case eJ => (exact beh_step (by with_reducible assumption) (by with_reducible assumption))); (case ek => (exact beh_less (by with_reducible assumption) (by with_reducible assumption))))
    | ((refine' hret _ _ _ _ _ _ ?gF ?gS ?gN ?gl); (case gF => (k_asm)); (case gS => with_reducible assumption); (case gN => (k_asm)); (case gl => (exact allLt_mem (by with_reducible assumption))))
    | (fail "x")
end
/-! RowR -/
section
open PySem.Calls
noncomputable def NoL (l : List (Addr × Obj)) : Prop := ∀ p ∈ l, ∀ (xs : Array Value) (k : Nat), p.2.data ≠ .seq xs k
theorem set_some : ∀ {l : List Value} {k : Nat} {v : Value}, k < l.length → ki_setL l k v = some (l.set k v)
  | [], _, _, h => absurd h (Nat.not_lt_zero _)
  | _ :: _, 0, _, _ => rfl
  | x :: r, k + 1, v, h => by
    unfold ki_setL
    rw [set_some (l := r) (Nat.lt_of_succ_lt_succ h)]
    rfl
theorem ints_set {vs : List Value} {ms : List Int} (h : IntsAre vs ms) : ∀ (k : Nat) (x : Int) (t : Tok), IntsAre (vs.set k (.int x t)) (ms.set k x) := by
  induction h with
  | nil => intro k x t; exact .nil
  | cons n u r ih =>
    intro k x t
    cases k with
    | zero => exact .cons x t r
    | succ k => exact .cons n u (ih k x t)
theorem ints_get {vs : List Value} {ms : List Int} (h : IntsAre vs ms) : ∀ {k : Nat}, k < ms.length → ∃ t, vs[k]? = some (.int (ms.getD k 0) t) := by
  induction h with
  | nil => intro k hk; exact absurd hk (Nat.not_lt_zero _)
  | cons n u r ih =>
    intro k hk
    cases k with
    | zero => exact ⟨u, rfl⟩
    | succ k =>
      obtain ⟨t, ht⟩ := ih (k := k) (Nat.lt_of_succ_lt_succ hk)
      exact ⟨t, by simpa using ht⟩
section
variable {prog : Program} {w : World} {A : Around} {E : Value → Shared → Prop} {s : Shared} {h₀ : Heap} {L D : Addr} {m : Str → Option Value} {news rest : List (Addr × Obj)} {vs : List Value} {ms : List Int} {n : Nat} {t u : Tok} {x : Int}
theorem off_of {T : List (Addr × Obj)} {its : Array Value} {e : Nat} (N : News h₀ L s.heap news) (hn : NoL T) (hm : (D, W.listOf its e) ∈ news) (hs : ∀ p ∈ T, p ∈ news) : ∀ p ∈ T, p.1 ≠ D := by
  intro p hp q
  have h1 := (N p (hs p hp)).1
  have h2 := (N _ hm).1
  rw [q] at h1
  have h3 := Option.some.inj (h1.symm.trans h2)
  exact hn p hp its e (by rw [h3])
theorem NoL.nil : NoL [] := fun _ h => nomatch h
theorem NoL.cell {a : Addr} {o : Obj} {v : Option Value} {l : List (Addr × Obj)} (h : o.data = .cell v) (hl : NoL l) : NoL ((a, o) :: l) := fun p hp => by
  rcases List.mem_cons.mp hp with rfl | hp
  · intro xs k q; rw [show (a, o).2.data = o.data from rfl, h] at q; cases q
  · exact hl p hp
theorem NoL.tab {a : Addr} {xs : Array Value} {l : List (Addr × Obj)} (hl : NoL l) : NoL ((a, tabObj xs) :: l) := fun p hp => by
  rcases List.mem_cons.mp hp with rfl | hp
  · intro xs k q; cases q
  · exact hl p hp
theorem it0 {value slice : Expr} {Q : Value → Shared → Prop} (hl : s.heap.IsList D vs.toArray) (hi : IntsAre vs ms) (hne : 0 < ms.length) (h : ∀ t, Q (.int (ms.getD 0 0) t) s)
    (hb : subscripted slice false (.ref D) (.int 0 u) = operate [.ref D, .int 0 u] (getItem (.ref D) (.int 0 u)) := by with_unfolding_all rfl) :
    wpAny (model prog w) A (subscriptTail value slice (.ref D) (.int 0 u)) Q E s := by
  obtain ⟨t, ht⟩ := ints_get hi hne
  exact tail_any hl.typeIs slot_list_getitem.lookup (wpAny_getItem_list hl (by decide) (by decide) (by simpa using ht) (h t)) hb
theorem itL {value slice : Expr} {Q : Value → Shared → Prop} (hl : s.heap.IsList D vs.toArray) (hi : IntsAre vs ms) (hne : 0 < ms.length) (h : ∀ t, Q (.int (ms.getD (ms.length - 1) 0) t) s)
    (hb : subscripted slice false (.ref D) (.int (-1) u) = operate [.ref D, .int (-1) u] (getItem (.ref D) (.int (-1) u)) := by with_unfolding_all rfl) :
    wpAny (model prog w) A (subscriptTail value slice (.ref D) (.int (-1) u)) Q E s := by
  obtain ⟨t, ht⟩ := ints_get hi (k := ms.length - 1) (by omega)
  have hlen := hi.length
  have e : ((-1 : Int) + (vs.toArray.size : Int)).toNat = ms.length - 1 := by rw [List.size_toArray]; omega
  exact tail_any hl.typeIs slot_list_getitem.lookup (wpAny_getItem_list_neg hl (by decide) (by rw [List.size_toArray]; omega) (by decide) (by rw [e]; simpa using ht) (h t)) hb
theorem st0 {Q : Unit → Shared → Prop} (hn : NoL rest) (F : Fr h₀ L s.heap m) (N : News h₀ L s.heap news) (hm : (D, W.listOf vs.toArray n) ∈ news) (hs : ∀ p ∈ rest, p ∈ news) (hi : IntsAre vs ms) (hne : 0 < ms.length)
    (h : ∀ h' vs', Fr h₀ L h' m → News h₀ L h' ((D, W.listOf (List.toArray vs') n) :: rest) → IntsAre vs' (ms.set 0 x) → Q () { s with heap := h' }) : wpAny (model prog w) A (setItem (.ref D) (.int 0 t) (.int x u)) Q E s := by
  have N2 : News h₀ L s.heap ((D, W.listOf vs.toArray n) :: rest) := news_sub N fun p hp => by
    rcases List.mem_cons.mp hp with rfl | hp
    · exact hm
    · exact hs p hp
  exact ki_set F N2 (by decide) (by decide) (set_some (by show 0 < vs.length; rw [hi.length]; exact hne)) (.head (off_of N hn hm hs)) (fun h' F' N' => h h' _ F' N' (ints_set hi 0 x u))
theorem stL {Q : Unit → Shared → Prop} (hn : NoL rest) (F : Fr h₀ L s.heap m) (N : News h₀ L s.heap news) (hm : (D, W.listOf vs.toArray n) ∈ news) (hs : ∀ p ∈ rest, p ∈ news) (hi : IntsAre vs ms) (hne : 0 < ms.length)
    (h : ∀ h' vs', Fr h₀ L h' m → News h₀ L h' ((D, W.listOf (List.toArray vs') n) :: rest) → IntsAre vs' (ms.set (ms.length - 1) x) → Q () { s with heap := h' }) : wpAny (model prog w) A (setItem (.ref D) (.int (-1) t) (.int x u)) Q E s := by
  have N2 : News h₀ L s.heap ((D, W.listOf vs.toArray n) :: rest) := news_sub N fun p hp => by
    rcases List.mem_cons.mp hp with rfl | hp
    · exact hm
    · exact hs p hp
  have hlen := hi.length
  have hj : seqIndex? (-1) vs.toArray.size = some (ms.length - 1) := by
    have := PySem.seqIndex_neg (k := -1) (n := vs.toArray.size) (by decide) (by rw [List.size_toArray]; omega)
    rw [this]
    congr 1
    rw [List.size_toArray]; omega
  exact ki_setNeg F N2 (by decide) (by decide) hj (set_some (by show ms.length - 1 < vs.length; omega)) (.head (off_of N hn hm hs)) (fun h' F' N' => h h' _ F' N' (ints_set hi _ x u))
end
/-- first and last grow by one -/
noncomputable def bump (ms : List Int) : List Int := (ms.set 0 (ms.getD 0 0 + 1)).set ((ms.set 0 (ms.getD 0 0 + 1)).length - 1) ((ms.set 0 (ms.getD 0 0 + 1)).getD ((ms.set 0 (ms.getD 0 0 + 1)).length - 1) 0 + 1)
noncomputable def base4 (ns : List Int) : List Int := (ns.take 4 ++ [2, 0]).map fun (a : Int) => 1 + a.fmod 1000
noncomputable def rowOf (ns : List Int) : List Int :=
  bump (if ns.sum.fmod 3 = 0 then base4 ns ++ ((base4 ns).take ((base4 ns).length - 1)).reverse else if ns.sum.fmod 3 = 1 then base4 ns ++ (base4 ns).reverse else base4 ns)
theorem filt (l : List Int) : List.filter (fun _ => true) l = l := List.filter_eq_self.mpr fun _ _ => rfl
end
/-! C_row -/
section

theorem base4_len (ns : List Int) : (List.map (fun a : Int => 1 + a.fmod 1000) (List.filter (fun _ => true) (List.take 4 ns ++ [2, 0]))).length ≤ 6 := by
  rw [filt, List.length_map, List.length_append, List.length_take]
  simp; omega
theorem row_l1 {f : Int → Int} {g : Int → Bool} {ns : List Int} : (List.map f (List.filter g (List.take 4 ns ++ [2, 0]))).length ≤ 50 := by
  rw [List.length_map]
  refine Nat.le_trans (List.length_filter_le _ _) ?_
  rw [List.length_append, List.length_take]
  show min 4 ns.length + 2 ≤ 50
  omega
theorem row_l4 {ns : List Int} : (List.take 4 ns).length ≤ 50 := by rw [List.length_take]; omega
theorem row_l5 : ([2, 0] : List Int).length ≤ 50 := by decide
theorem row_l2 {a : List Int} (h : a.length ≤ 50) : a.reverse.length ≤ 50 := by rw [List.length_reverse]; exact h
theorem row_l3 {a : List Int} {k : Nat} (h : a.length ≤ 50) : (a.take k).length ≤ 50 := by rw [List.length_take]; omega
theorem row_p1 {f : Int → Int} {ns : List Int} : 0 < (List.map f (List.filter (fun _ => true) (List.take 4 ns ++ [2, 0]))).length := by
  rw [filt, List.length_map, List.length_append]
  show 0 < _ + 2
  omega
theorem row_p2 {a b : List Int} (h : 0 < a.length) : 0 < (a ++ b).length := by rw [List.length_append]; omega
theorem row_p3 {a : List Int} {k : Nat} {v : Int} (h : 0 < a.length) : 0 < (a.set k v).length := by rw [List.length_set]; exact h
theorem sz_add {a b : List Int} {n : Nat} (ha : a.length ≤ n) (hb : b.length ≤ n) (hn : n + n ≤ 100) : a.length + b.length ≤ sizeLine := Nat.le_trans (Nat.add_le_add ha hb) (Nat.le_trans hn (by decide))
theorem row_c {prog : Program} {p : Program} {loose : List Str} {mean : ExcName → Option Value} {mg mb : Str → Option Value} (w : World) : ∀ (l : Addr) (vs : List Value) (ns : List Int) (rest : List (Addr × Obj)) (dp un : Nat) (gd : Option (List Code)) (cn : Str) (cs : Scope) (a : Addr) (ccd : Value) (cl : List (Str × Addr)) (outer : List Env) (A₀ : Around) (base h₀ : Heap) (L : Addr) (m : Str → Option Value) (s : Shared) (Q E : Value → Shared → Prop),
    Below A₀ base outer h₀ → Fr h₀ L s.heap m → (hd.heap_1 w.params).In h₀ → News h₀ L s.heap (rest) → Top p loose mean mg mb h₀ → cs.kind = .function → 80 < L →
    dp + 40 < recursionLimit → un + 400 < cLine → base.IsList l vs.toArray → IntsAre vs ns → ns.length ≤ 63 → NoL rest → 
    (∀ (d : Addr) (h' : Heap) (tk' : Nat) (ws : List Value) (n : Nat), Fr h₀ L h' m → IntsAre ws (rowOf ns) → News h₀ L h' ((d, W.listOf ws.toArray n) :: rest) → (∀ p ∈ rest, p.1 ≠ d) → Q (.ref d) { s with heap := h', toks := tk' }) →
      wpAny (model prog w) (ktrTop dp un gd cn cs L a ccd cl outer) (call (.ref 139) [.ref l]) Q E s := by
  w_top off
  intro l vs ns rest dp un gd cn cs a ccd cl outer A₀ base h₀ L m s Q E B F X N T hk hL hd hu hl hi hn hno hret
  refine wpAny_call ?_
  k_dflt k_enter
  repeat' (first | (k_unfold; (try dsimp only)) | ((with_reducible show wpAny _ _ (binaryOp .Add (Value.ref _) (Value.ref _)) _ _ _); k_here; k_dflt (first | (refine' kmk_add_ints (by k_asm) (by k_asm) (by exact PySem.IsL.isList (News.get (by k_asm) (by k_mem))) (by exact PySem.IsL.isList (News.get (by k_asm) (by k_mem))) (by with_reducible assumption) (by first | with_reducible assumption | exact .cons _ _ (.cons _ _ .nil)) ?_ (by (refine' sz_add (n := 50) ?_ ?_ (by decide) <;> (repeat (first | exact row_l1 | exact row_l4 | exact row_l5 | apply row_l2 | apply row_l3)))); intro D9 vs9 h9 F9 N9 l9 hI9; (try k_lt l9)) | (fail "x"))) | ((with_reducible show wpAny _ _ (setItem (Value.ref _) (Value.int _ _) _) _ _ _); k_here; k_dflt (first | ((with_reducible show wpAny _ _ (setItem (Value.ref _) (Value.int 0 _) _) _ _ _); refine' st0 (by with_reducible assumption) (by k_asm) (by k_asm) (by (k_mem)) (by (intro p9 hp9; repeat (first | exact hp9 | apply List.mem_cons_of_mem))) (by (with_reducible assumption)) (by repeat (first | exact row_p1 | apply row_p2 | apply row_p3)) ?_; intro h9 vs9 F9 N9 hI9) | (refine' stL (by with_reducible assumption) (by k_asm) (by k_asm) (by (k_mem)) (by (intro p9 hp9; repeat (first | exact hp9 | apply List.mem_cons_of_mem))) (by with_reducible assumption) (by repeat (first | exact row_p1 | apply row_p2 | apply row_p3)) ?_; intro h9 vs9 F9 N9 hI9) | (fail "x"))) | ((with_reducible show wpAny _ _ (subscriptTail (Expr.Name _ _) (Expr.UnaryOp _ _ _) (Value.ref _) (Value.int _ _)) _ _ _); k_here; k_dflt (refine' itL (by exact PySem.IsL.isList (News.get (by k_asm) (by k_mem))) (by with_reducible assumption) (by (repeat (first | exact row_p1 | apply row_p2 | apply row_p3))) ?_; intro t9)) | ((with_reducible show wpAny _ _ (subscriptTail (Expr.Name _ _) (Expr.Constant _ _) (Value.ref _) (Value.int _ _)) _ _ _); k_here; k_dflt (refine' it0 (by (exact PySem.IsL.isList (News.get (by k_asm) (by k_mem)))) (by (with_reducible assumption)) (by (repeat (first | exact row_p1 | apply row_p2 | apply row_p3))) ?_; intro t9)) | (k_end; kc_close) | walk1 | (dsimp only; (first | ((with_reducible show wpAny _ _ (binaryOp .Add (Value.ref _) (Value.ref _)) _ _ _); k_here; k_dflt (first | (refine' kmk_add_ints (by k_asm) (by k_asm) (by exact PySem.IsL.isList (News.get (by k_asm) (by k_mem))) (by exact PySem.IsL.isList (News.get (by k_asm) (by k_mem))) (by with_reducible assumption) (by first | with_reducible assumption | exact .cons _ _ (.cons _ _ .nil)) ?_ (by (refine' sz_add (n := 50) ?_ ?_ (by decide) <;> (repeat (first | exact row_l1 | exact row_l4 | exact row_l5 | apply row_l2 | apply row_l3)))); intro D9 vs9 h9 F9 N9 l9 hI9; (try k_lt l9)) | (fail "x"))) | ((with_reducible show wpAny _ _ (setItem (Value.ref _) (Value.int _ _) _) _ _ _); k_here; k_dflt (first | ((with_reducible show wpAny _ _ (setItem (Value.ref _) (Value.int 0 _) _) _ _ _); refine' st0 (by with_reducible assumption) (by k_asm) (by k_asm) (by (k_mem)) (by (intro p9 hp9; repeat (first | exact hp9 | apply List.mem_cons_of_mem))) (by (with_reducible assumption)) (by repeat (first | exact row_p1 | apply row_p2 | apply row_p3)) ?_; intro h9 vs9 F9 N9 hI9) | (refine' stL (by with_reducible assumption) (by k_asm) (by k_asm) (by (k_mem)) (by (intro p9 hp9; repeat (first | exact hp9 | apply List.mem_cons_of_mem))) (by with_reducible assumption) (by repeat (first | exact row_p1 | apply row_p2 | apply row_p3)) ?_; intro h9 vs9 F9 N9 hI9) | (fail "x"))) | ((with_reducible show wpAny _ _ (subscriptTail (Expr.Name _ _) (Expr.UnaryOp _ _ _) (Value.ref _) (Value.int _ _)) _ _ _); k_here; k_dflt (refine' itL (by exact PySem.IsL.isList (News.get (by k_asm) (by k_mem))) (by with_reducible assumption) (by (repeat (first | exact row_p1 | apply row_p2 | apply row_p3))) ?_; intro t9)) | ((with_reducible show wpAny _ _ (subscriptTail (Expr.Name _ _) (Expr.Constant _ _) (Value.ref _) (Value.int _ _)) _ _ _); k_here; k_dflt (refine' it0 (by (exact PySem.IsL.isList (News.get (by k_asm) (by k_mem)))) (by (with_reducible assumption)) (by (repeat (first | exact row_p1 | apply row_p2 | apply row_p3))) ?_; intro t9)) | walk1)) | (leave1; (try dsimp only)) | fail "no step")
  all_goals first
    | (refine' hret _ _ _ _ _ ?f9 ?i9 ?n9 ?o9; (case f9 => (k_asm)); (case n9 => (k_asm)); (case o9 => (exact off_of (by k_asm) (by with_reducible assumption) (List.Mem.head _) (fun _ h9 => List.Mem.tail _ h9)));  (case i9 => ((with_reducible rename IntsAre _ (List.set (List.set _ _ _) _ _) => hI9); unfold rowOf; first | (rw [if_pos (by assumption)]; (simp only [filt] at hI9; exact hI9)) | (rw [if_neg (by assumption), if_pos (by assumption)]; (simp only [filt] at hI9; exact hI9)) | (rw [if_neg (by assumption), if_neg (by assumption)]; (simp only [filt] at hI9; exact hI9)))))
    | (fail "x")
end
/-! CallIt -/
section
open PySem.Calls
theorem owner_cit : Manifest.owners.lookup (String.ofList ['r', 'o', 't', 'a', 'r', 'e', 't', 'i', '_', 'e', 'l', 'b', 'a', 'l', 'l', 'a', 'c'].reverse) = some Manifest.sig_callable_iterator := by kernel_rfl
theorem slot_cit_next : Slot "callable_iterator" "__next__" "callable_iterator.__next__" :=
  .of (owner := "callable_iterator") (n := "__next__") (by rw [typeLookup_type, builtinLookup_eq_fast]; kernel_rfl) (by decide +kernel) (by decide +kernel) (by decide +kernel)
    (by first | exact .inl (by decide +kernel) | exact .inr (by decide +kernel)) (by rw [isSubtype_type]; kernel_rfl)
theorem slot_cit_iter : Slot "callable_iterator" "__iter__" "callable_iterator.__iter__" :=
  .of (owner := "callable_iterator") (n := "__iter__") (by rw [typeLookup_type, builtinLookup_eq_fast]; kernel_rfl) (by decide +kernel) (by decide +kernel) (by decide +kernel)
    (by first | exact .inl (by decide +kernel) | exact .inr (by decide +kernel)) (by rw [isSubtype_type]; kernel_rfl)
theorem entry_cit_next : entryFor table "callable_iterator.__next__" = some Builtin.«callable_iterator.__next__» := entryFor_of_tree (by kernel_rfl)
theorem args_cit_next (a : Value) : argsOk "callable_iterator.__next__" ⟨[a], []⟩ := by
  unfold argsOk; rw [signature?_of (id := "callable_iterator.__next__") (n := ['_', '_', 't', 'x', 'e', 'n', '_', '_']) (o := ['r', 'o', 't', 'a', 'r', 'e', 't', 'i', '_', 'e', 'l', 'b', 'a', 'l', 'l', 'a', 'c']) (by kernel_rfl) owner_cit]; kernel_rfl
theorem entry_cit_iter : entryFor table "callable_iterator.__iter__" = some Builtin.«dict_keyiterator.__iter__» :=
  entryFor_alias (id' := "dict_keyiterator.__iter__") (by kernel_rfl) (by first | rfl | decide +kernel | (unfold String.splitOn; simp +decide [String.splitOnAux])) (by decide +kernel) (by kernel_rfl)
theorem args_cit_iter (a : Value) : argsOk "callable_iterator.__iter__" ⟨[a], []⟩ := by
  unfold argsOk; rw [signature?_of (id := "callable_iterator.__iter__") (n := ['_', '_', 'r', 'e', 't', 'i', '_', '_']) (o := ['r', 'o', 't', 'a', 'r', 'e', 't', 'i', '_', 'e', 'l', 'b', 'a', 'l', 'l', 'a', 'c']) (by kernel_rfl) owner_cit]; kernel_rfl
theorem lookup_method_call : typeLookup (.type "method") "__call__" = pure (some (.builtin "method.__call__")) := by rw [typeLookup_type, builtinLookup_eq_fast]; kernel_rfl
theorem args_iter2 (a b : Value) : argsOk "iter" ⟨[a, b], []⟩ := by unfold argsOk; kernel_rfl
abbrev citObj (f : Value) (t : Tok) : Obj := { cls := .type "callable_iterator", data := .fields #[f, .str (Str.ofString "") t, .bool false] }
abbrev citEnd : Obj := { cls := .type "callable_iterator", data := .fields #[.none, .none, .bool true] }
section
variable {prog : Program} {w : World} {A : Around} {E : Value → Shared → Prop} {s : Shared}
theorem wpAny_callBorrowed {M : Model} {f : Value} {pos : List Value} {Q : Value → Shared → Prop}
    (hc : codeAny M A (.call f ⟨pos, []⟩) (fun r s' => match r with | .ok (.ret v) => Q v s' | .ok _ => False | .error e => E e s') s) :
    wpAny M A (callBorrowed f pos) Q E s := fun Γ p hΓ => by
  unfold callBorrowed
  rw [Sem.wp_call]
  refine PySem.wpCode_mono ?_ (hc _ p rfl (hΓ.enter _ none p (by intro x; cases x)))
  intro r s' h
  cases r with
  | error e => exact h
  | ok f => cases f <;> exact h
theorem borrows {q fn : Addr} {self : Value} {of : Obj} {ff : FuncData} {M : Model} {Q : Bool → Shared → Prop} (hq : s.heap.get? q = some (methodObj (.ref fn) self)) (hf : s.heap.get? fn = some of) (hd : of.data = .func ff)
    (h : Q true s) : wpAny M A (borrowsExactly (.ref q)) Q E s := by
  unfold borrowsExactly
  show wpAny _ _ (load q >>= _) _ _ s
  refine wpAny_bind (wpAny_load hq ?_)
  show wpAny _ _ (load fn >>= _) _ _ s
  refine wpAny_bind (wpAny_load hf ?_)
  rw [hd]
  exact wpAny_pure h
/-- the method of a function: C calls it borrowed -/
theorem slot_calls {q fn : Addr} {self : Value} {of : Obj} {ff : FuncData} {Q : Value → Shared → Prop} (hq : s.heap.get? q = some (methodObj (.ref fn) self)) (hf : s.heap.get? fn = some of) (hd : of.data = .func ff)
    (hc : codeAny (model prog w) A (.call (.ref q) ⟨[], []⟩) (fun r s' => match r with | .ok (.ret v) => Q v s' | .ok _ => False | .error e => E e s') s) :
    wpAny (model prog w) A (callOutOfASlot (.ref q)) Q E s := by
  unfold callOutOfASlot
  refine wpAny_bind ?_
  unfold borrowsExactly
  show wpAny _ _ (load q >>= _) _ _ s
  refine wpAny_bind (wpAny_load hq ?_)
  show wpAny _ _ (load fn >>= _) _ _ s
  refine wpAny_bind (wpAny_load hf ?_)
  rw [hd]
  refine wpAny_pure ?_
  rw [if_pos rfl]
  exact wpAny_callBorrowed hc
/-- a turn of the callable iterator that brings a sign -/
theorem cit_item {it q fn : Addr} {self : Value} {of : Obj} {ff : FuncData} {t0 : Tok} {Q : Option Value → Shared → Prop} (hit : s.heap.get? it = some (citObj (.ref q) t0)) (hq : s.heap.get? q = some (methodObj (.ref fn) self)) (hf : s.heap.get? fn = some of) (hd : of.data = .func ff)
    (hc : codeAny (model prog w) A.in1 (.call (.ref q) ⟨[], []⟩) (fun r s' => match r with | .ok (.ret v) => (∃ x t, v = .str x t ∧ x ≠ Str.ofString "" ∧ s'.heap.get? it = some (citObj (.ref q) t0) ∧ Q (some v) s') | _ => False) s) :
    wpAny (model prog w) A (pyNext (.ref it)) Q E s := by
  have hT : s.TypeIs (.ref it) "callable_iterator" := ⟨_, hit, rfl⟩
  unfold pyNext
  refine wpAny_bind (wpAny_attempt (wpAny_callSpecial?_slot (name := Str.ofString "__next__") hT slot_cit_next
    (wpAny_call_entry slot_cit_next hT entry_cit_next ?_ (args_cit_next _))))
  show wpAny _ _ (field (.ref it) 2 >>= _) _ _ s
  refine wpAny_bind (wpAny_field hit rfl (x := .bool false) rfl ?_)
  show wpAny _ _ (field (.ref it) 0 >>= _) _ _ s
  refine wpAny_bind (wpAny_field hit rfl (x := .ref q) rfl ?_)
  refine wpAny_bind (wpAny_attempt (slot_calls hq hf hd (codeAny_mono hc (fun r s' h => ?_))))
  cases r with
  | error e => exact h.elim
  | ok f =>
    cases f with
    | ret v =>
      obtain ⟨x, t, rfl, hx, hit', hQ⟩ := h
      show wpAny _ _ (field (.ref it) 2 >>= _) _ _ s'
      refine wpAny_bind (wpAny_field hit' rfl (x := .bool false) rfl ?_)
      show wpAny _ _ (field (.ref it) 1 >>= _) _ _ s'
      refine wpAny_bind (wpAny_field hit' rfl (x := .str (Str.ofString "") t0) rfl ?_)
      refine wpAny_bind (wpAny_holding (wpAny_eqBool_str ?_))
      rw [decide_eq_false (fun q => hx q.symm)]
      show wpAny _ _ (ret _) _ _ s'
      exact wpAny_pure ⟨_, rfl, wpAny_pure hQ⟩
    | next => exact h.elim
    | brk => exact h.elim
    | cont => exact h.elim
/-- the iterator that has ended -/
theorem cit_over {it : Addr} {Q : Option Value → Shared → Prop} (hh : A.handled = none) (hit : s.heap.get? it = some citEnd)
    (hQ : ∀ h', (∀ b o, s.heap.get? b = some o → h'.get? b = some o) → Q none { s with heap := h' }) :
    wpAny (model prog w) A (pyNext (.ref it)) Q E s := by
  have hT : s.TypeIs (.ref it) "callable_iterator" := ⟨_, hit, rfl⟩
  unfold pyNext
  refine wpAny_bind (wpAny_attempt (wpAny_callSpecial?_slot (name := Str.ofString "__next__") hT slot_cit_next
    (wpAny_call_entry slot_cit_next hT entry_cit_next ?_ (args_cit_next _))))
  show wpAny _ _ (field (.ref it) 2 >>= _) _ _ s
  refine wpAny_bind (wpAny_field hit rfl (x := .bool true) rfl ?_)
  refine wpAny_bind (wpAny_rule ?_)
  refine wpAny_bind ?_
  show wpAny _ _ (newExc (.type "StopIteration") [] >>= _) _ _ _
  refine wpAny_bind ?_
  simp only [newExc, newTuple]
  refine wpAny_bind (wpAny_newObj_type ?_ (by size_fits))
  refine wpAny_bind (m := firstArgMember _ _) (wpAny_of_eq (a := Value.none) (by first | rfl | (simp only [firstArgMember]; rfl)) ?_)
  refine wpAny_newObj_type ?_ (by size_fits)
  simp only [raiseNew]
  refine wpAny_bind (wpAny_handled ?_)
  rw [show A.in1.handled = none from hh]
  refine wpAny_bind (wpAny_pure (wpAny_throw ?_))
  refine wpAny_bind (wpAny_isInstance (T := "StopIteration") (b := true) ⟨_, Heap.get?_push_size _ rfl, rfl⟩ isSubtype_stop ?_)
  exact wpAny_pure (hQ _ fun b o h => Heap.get?_push_of_some _ (Heap.get?_push_of_some _ h))
/-- the turn that brings the sentinel -/
theorem cit_last {it q fn : Addr} {self : Value} {of : Obj} {ff : FuncData} {t0 : Tok} {Q : Option Value → Shared → Prop} (hh : A.handled = none) (hit : s.heap.get? it = some (citObj (.ref q) t0)) (hq : s.heap.get? q = some (methodObj (.ref fn) self)) (hf : s.heap.get? fn = some of) (hd : of.data = .func ff)
    (hc : codeAny (model prog w) A.in1 (.call (.ref q) ⟨[], []⟩) (fun r s' => match r with | .ok (.ret v) => (∃ t, v = .str (Str.ofString "") t ∧ s'.heap.get? it = some (citObj (.ref q) t0) ∧ s'.heap.get? q = some (methodObj (.ref fn) self) ∧ s'.heap.get? fn = some of ∧
      ∀ h', (∀ b o, b ≠ it → s'.heap.get? b = some o → h'.get? b = some o) → h'.get? it = some citEnd → Q none { s' with heap := h' }) | _ => False) s) :
    wpAny (model prog w) A (pyNext (.ref it)) Q E s := by
  have hT : s.TypeIs (.ref it) "callable_iterator" := ⟨_, hit, rfl⟩
  unfold pyNext
  refine wpAny_bind (wpAny_attempt (wpAny_callSpecial?_slot (name := Str.ofString "__next__") hT slot_cit_next
    (wpAny_call_entry slot_cit_next hT entry_cit_next ?_ (args_cit_next _))))
  show wpAny _ _ (field (.ref it) 2 >>= _) _ _ s
  refine wpAny_bind (wpAny_field hit rfl (x := .bool false) rfl ?_)
  show wpAny _ _ (field (.ref it) 0 >>= _) _ _ s
  refine wpAny_bind (wpAny_field hit rfl (x := .ref q) rfl ?_)
  refine wpAny_bind (wpAny_attempt (slot_calls hq hf hd (codeAny_mono hc (fun r s' h => ?_))))
  cases r with
  | error e => exact h.elim
  | ok f =>
    cases f with
    | ret v =>
      obtain ⟨t, rfl, hit', hq', hf', hQ⟩ := h
      show wpAny _ _ (field (.ref it) 2 >>= _) _ _ s'
      refine wpAny_bind (wpAny_field hit' rfl (x := .bool false) rfl ?_)
      show wpAny _ _ (field (.ref it) 1 >>= _) _ _ s'
      refine wpAny_bind (wpAny_field hit' rfl (x := .str (Str.ofString "") t0) rfl ?_)
      refine wpAny_bind (wpAny_holding (wpAny_eqBool_str ?_))
      rw [decide_eq_true rfl]
      refine wpAny_bind (wpAny_rule ?_)
      refine wpAny_bind ?_
      show wpAny _ _ (field (.ref it) 0 >>= _) _ _ s'
      refine wpAny_bind (wpAny_field hit' rfl (x := .ref q) rfl ?_)
      refine wpAny_bind ?_
      show wpAny _ _ (borrowsExactly (.ref q) >>= _) _ _ s'
      refine wpAny_bind (borrows hq' hf' hd ?_)
      rw [if_pos rfl]
      refine wpAny_pure ?_
      refine wpAny_bind (wpAny_setField hit' rfl (by simp) ?_)
      refine wpAny_bind (wpAny_setField (Heap.get?_update_self _ hit' rfl) rfl (by simp) ?_)
      refine wpAny_setField (Heap.get?_update_self _ (Heap.get?_update_self _ hit' rfl) rfl) rfl (by simp) ?_
      show wpAny _ _ (newExc (.type "StopIteration") [] >>= _) _ _ _
      refine wpAny_bind ?_
      simp only [newExc, newTuple]
      refine wpAny_bind (wpAny_newObj_type ?_ (by size_fits))
      refine wpAny_bind (m := firstArgMember _ _) (wpAny_of_eq (a := Value.none) (by first | rfl | (simp only [firstArgMember]; rfl)) ?_)
      refine wpAny_newObj_type ?_ (by size_fits)
      simp only [raiseNew]
      refine wpAny_bind (wpAny_handled ?_)
      rw [show A.in1.handled = none from hh]
      refine wpAny_bind (wpAny_pure (wpAny_throw ?_))
      refine wpAny_bind (wpAny_isInstance (T := "StopIteration") (b := true) ⟨_, Heap.get?_push_size _ rfl, rfl⟩ isSubtype_stop ?_)
      refine wpAny_pure (hQ _ (fun b o hb h => Heap.get?_push_of_some _ (Heap.get?_push_of_some _ ?_)) (Heap.get?_push_of_some _ (Heap.get?_push_of_some _ ?_)))
      · exact (((Heap.SameBut.update ..).trans (Heap.SameBut.update ..)).trans (Heap.SameBut.update ..)).extBut b o hb h
      · exact Heap.get?_update_self _ (Heap.get?_update_self _ (Heap.get?_update_self _ hit' rfl) rfl) rfl
    | next => exact h.elim
    | brk => exact h.elim
    | cont => exact h.elim
theorem cit_iter {it : Addr} {o : Obj} {Q : Value → Shared → Prop} (hit : s.heap.get? it = some o) (hc : o.cls = .type "callable_iterator") (h : Q (.ref it) s) : wpAny (model prog w) A (pyIter (.ref it)) Q E s := by
  have hT : s.TypeIs (.ref it) "callable_iterator" := ⟨_, hit, hc⟩
  refine wpAny_pyIter_slot hT slot_cit_iter (wpAny_call_entry slot_cit_iter hT entry_cit_iter ?_ (args_cit_iter _))
  show wpAny _ _ (ret (.ref it)) _ _ s
  exact wpAny_pure ⟨_, rfl, "callable_iterator", _, hT, slot_cit_next.lookup, h⟩
theorem iter_two {h₀ : Heap} {L q : Addr} {m : Str → Option Value} {news : List (Addr × Obj)} {f self : Value} {t : Tok} {Q : Value → Shared → Prop} (F : Fr h₀ L s.heap m) (N : News h₀ L s.heap news) (hq : (q, methodObj f self) ∈ news)
    (h : ∀ I h', Fr h₀ L h' m → News h₀ L h' ((I, citObj (.ref q) t) :: news) → (∀ p ∈ news, p.1 < I) → Q (.ref I) { s with heap := h' }) :
    wpAny (model prog w) A (call (.builtin "iter") [.ref q, .str (Str.ofString "") t]) Q E s := by
  refine call_function_entry (by decide +kernel) (by decide +kernel) kdk_entry_iter (args_iter2 _ _) ?_
  unfold Builtin.«iter»
  refine wpAny_bind (m := someArgs "iter" 1 2 _) (wpAny_of_eq (a := [Value.ref q, .str (Str.ofString "") t]) (by first | rfl | kernel_rfl!) ?_)
  show wpAny _ _ (specialOf (.ref q) "__call__" >>= _) _ _ _
  refine wpAny_bind (wpAny_specialOf (T := "method") ⟨_, (N _ hq).1, rfl⟩ lookup_method_call ?_)
  refine wpAny_bind (wpAny_rule ?_)
  refine wpAny_bind (wpAny_newObj_type ?_ (by size_fits))
  exact wpAny_pure ⟨_, rfl, h _ _ (F.push _) (News.push F N _ rfl) (fun p hp => Heap.lt_size (N p hp).1)⟩
end
end
/-! ListTx -/
section
open PySem.Calls
theorem signs_strs : ∀ {l : List Nat} {vs : List Value}, vs.length = l.length → (∀ (j : Nat) (v : Value), vs[j]? = some v → ∃ (c : Nat) (u : Tok), l[j]? = some c ∧ v = Value.str (⟨#[c]⟩ : Str) u) → StrsAre vs (l.map fun c => tx [c])
  | [], [], _, _ => .nil
  | [], _ :: _, h, _ => by simp at h
  | _ :: _, [], h, _ => by simp at h
  | c :: l, v :: vs, h, hv => by
    obtain ⟨c', u, h1, h2⟩ := hv 0 v rfl
    have h3 : c = c' := by simpa using h1
    subst h3 h2
    exact .cons _ u (signs_strs (by simpa using h) fun j v' hj => by simpa using hv (j + 1) v' (by simpa using hj))
section
variable {prog : Program} {w : World} {A : Around} {E : Value → Shared → Prop} {s : Shared} {h₀ : Heap} {L : Addr} {m : Str → Option Value} {news : List (Addr × Obj)} {l : List Nat} {t : Tok}
theorem list_tx {Q : Value → Shared → Prop} (hh : A.handled = none) (F : Fr h₀ L s.heap m) (N : News h₀ L s.heap news) (hl : (tx l).length ≤ 1000)
    (h : ∀ D h' tk vs n, Fr h₀ L h' m → News h₀ L h' ((D, W.listOf (List.toArray vs) n) :: news) → (∀ p ∈ news, p.1 < D) → StrsAre vs (l.map fun c => tx [c]) → Q (.ref D) { s with heap := h', toks := tk }) :
    wpAny (model prog w) A (call (.type "list") [.str (tx l) t]) Q E s := by
  refine call_list_str hh (tx l) t (fun h' tk acc c hk hS hi => ?_) (Nat.le_trans hl (by decide))
  have hsz : ∀ b o, s.heap.get? b = some o → b < s.heap.objs.size := fun b o e => Heap.lt_size e
  have hne : L ≠ s.heap.objs.size := Nat.ne_of_lt F.ns.lt
  have F' : Fr h₀ L h' m := ⟨F.ns.extBut (fun b o _ e => hk b o e) hne, fun b o e => hk b o (F.keep b o e), F.above⟩
  refine h _ h' tk acc.toList c F' ?_ (fun p hp => Heap.lt_size (N p hp).1) ?_
  · intro p hp
    rcases List.mem_cons.mp hp with rfl | hp
    · refine ⟨?_, Ne.symm hne, ?_⟩
      · exact hS
      · show h₀.get? _ = none
        cases e : h₀.get? s.heap.objs.size with
        | none => rfl
        | some o => exact absurd (Heap.lt_size (F.keep _ o e)) (Nat.lt_irrefl _)
    · exact ⟨hk _ _ (N p hp).1, (N p hp).2⟩
  · refine signs_strs ?_ fun j v hj => ?_
    · rw [Array.length_toList, hi.1]; simp
    · obtain ⟨c', u, h1, h2⟩ := hi.2 j v (by simpa using hj)
      exact ⟨c', u, by simpa using h1, h2⟩
end
end
/-! FnAttr -/
section
open PySem.Calls
theorem slot_fn_setattr : Slot "function" "__setattr__" "object.__setattr__" :=
  .of (owner := "object") (n := "__setattr__") (by rw [typeLookup_type, builtinLookup_eq_fast]; kernel_rfl) (by decide +kernel) (by decide +kernel) (by decide +kernel)
    (by first | exact .inl (by decide +kernel) | exact .inr (by decide +kernel)) (by rw [isSubtype_type]; kernel_rfl)
theorem mro_fn : mroOf (.type "function") = pure [.type "function", .type "object"] := by rw [mroOf_type]; kernel_rfl
theorem look_fn_read : typeLookup (.type "function") (Str.ofString "read") = pure none := by rw [typeLookup_type, builtinLookup_eq_fast]; kernel_rfl
theorem refuse_fn (self : Value) : refuseLoop self "__setattr__" [.type "function", .type "object"] = pure () := by kernel_rfl
section
variable {prog : Program} {w : World} {A : Around} {E : Value → Shared → Prop} {s : Shared}
theorem fn_setattr {f : Addr} {ff : FuncData} {sl : Array (Option Value)} {v : Value} {Q : Unit → Shared → Prop} (hf : s.heap.get? f = some ⟨.type "function", none, .func ff, sl⟩)
    (h : ∀ h' tk od, h'.get? s.heap.objs.size = some od → lookIn (Str.ofString "read") od = some (some v) → od.cls = .type "dict" → h'.get? f = some ⟨.type "function", some s.heap.objs.size, .func ff, sl⟩ →
      (∀ b o, b ≠ f → s.heap.get? b = some o → h'.get? b = some o) → Q () { s with heap := h', toks := tk }) :
    wpAny (model prog w) A (setAttr (.ref f) (Str.ofString "read") v) Q E s := by
  have hT : ∀ k, ({ s with toks := k } : Shared).TypeIs (.ref f) "function" := fun k => ⟨_, hf, rfl⟩
  unfold setAttr
  refine wpAny_bind (wpAny_mkText ?_)
  refine wpAny_bind (wpAny_callSpecial?_slot (name := Str.ofString "__setattr__") (hT _) slot_fn_setattr (wpAny_call_entry slot_fn_setattr (hT _) PySem.F.store_object.entry ?_ (PySem.F.store_object.args _ _ _)))
  rw [osa_eq, refuse_eq]
  refine wpAny_bind (wpAny_bind (wpAny_typeOf (hT _) (wpAny_bind (wpAny_of_eq mro_fn ?_))))
  rw [refuse_fn]
  refine wpAny_pure (wpAny_bind (wpAny_typeOf (hT _) (wpAny_bind (wpAny_of_eq look_fn_read ?_))))
  refine wpAny_bind (wpAny_pure ?_)
  show wpAny _ _ (Builtin.ObjectAttr.storeInOwnDict (.ref f) (.type "function") _ _ _ _) _ _ _
  unfold Builtin.ObjectAttr.storeInOwnDict
  refine wpAny_bind (wpAny_of_eq (a := ()) (by kernel_rfl) ?_)
  rw [if_neg (by decide +kernel)]
  refine wpAny_bind (wpAny_bind (wpAny_loadPart hf ?_))
  dsimp only
  rw [if_neg (by decide +kernel)]
  refine wpAny_bind (wpAny_alloc ?_)
  have hf2 : (s.heap.push { cls := .type "dict", data := .dict #[] }).get? f = some ⟨.type "function", none, .func ff, sl⟩ := Heap.get?_push_of_some _ hf
  refine wpAny_bind (wpAny_update hf2 ?_)
  refine wpAny_of_eq (a := some s.heap.objs.size) (by kernel_rfl) ?_
  have hne : f ≠ s.heap.objs.size := Nat.ne_of_lt (Heap.lt_size hf)
  have hD : ((s.heap.push { cls := .type "dict", data := .dict #[] }).update f fun o => { o with dict := some s.heap.objs.size }).get? s.heap.objs.size = some { cls := .type "dict", data := .dict #[] } :=
    (Heap.SameBut.update ..).extBut _ _ (Ne.symm hne) (Heap.get?_push_size _ rfl)
  refine wpAny_bind (wpAny_pure (wpAny_bind ?_))
  unfold nsSet
  refine wpAny_bind (wpAny_bind (wpAny_askSetting (wpAny_pure (wpAny_bind (wpAny_mkText (wpAny_bind (wpAny_loadPart hD ?_)))))))
  dsimp only
  have c : (!(#[] : Array DictEntry).any (·.key.isStr (Str.ofString "read")) && (#[] : Array DictEntry).any (·.refKey)) = false := by simp
  rw [aRefKeyMayBeTheName_at, c]
  refine wpAny_updatePart hD ?_
  have hD2 := Heap.get?_update_self (Obj.putName (Str.ofString "read") (PyData.keyHash w.params (Str.ofString "read")) (.str (Str.ofString "read") (s.toks + 1)) v) hD rfl
  refine wpAny_bind (wpAny_lookBehind hD2 (by rfl) ?_)
  refine wpAny_pure ⟨_, rfl, wpAny_pure (h _ _ _ hD2 ?_ rfl ?_ ?_)⟩
  · rfl
  · exact (Heap.SameBut.update ..).extBut _ _ hne (Heap.get?_update_self _ hf2 rfl)
  · intro b o hb ho
    exact (Heap.SameBut.update ..).extBut _ _ (Nat.ne_of_lt (Heap.lt_size ho)) ((Heap.SameBut.update ..).extBut _ _ hb (Heap.get?_push_of_some _ ho))
theorem fn_set_N {h₀ : Heap} {L f : Addr} {m : Str → Option Value} {o : Obj} {rest : List (Addr × Obj)} {ff : FuncData} {v : Value} {Q : Unit → Shared → Prop} (F : Fr h₀ L s.heap m) (N : News h₀ L s.heap ((f, o) :: rest)) (hc : o.cls = .type "function") (hd : o.dict = none) (hdt : o.data = .func ff) (hoff : ∀ p ∈ rest, p.1 ≠ f)
    (h : ∀ D od h' tk, Fr h₀ L h' m → News h₀ L h' ((D, od) :: (f, { o with dict := some D }) :: rest) → lookIn (Str.ofString "read") od = some (some v) → (∀ p ∈ ((f, o) :: rest), p.1 < D) → Q () { s with heap := h', toks := tk }) :
    wpAny (model prog w) A (setAttr (.ref f) (Str.ofString "read") v) Q E s := by
  obtain ⟨cl, dd, dt, sl⟩ := o
  dsimp only at hc hd hdt
  subst hc hd hdt
  have hf := N _ (.head _)
  refine fn_setattr hf.1 fun h' tk od h1 h2 h3 h4 h5 => ?_
  have hLf : L ≠ f := Ne.symm hf.2.1
  have hne : L ≠ s.heap.objs.size := Nat.ne_of_lt F.ns.lt
  have F' : Fr h₀ L h' m := ⟨F.ns.extBut (fun b o hb e => h5 b o hb e) hLf, fun b o e => h5 b o (fun q => by rw [q, hf.2.2] at e; cases e) (F.keep b o e), F.above⟩
  refine h _ od h' tk F' ?_ h2 fun p hp => Heap.lt_size (N p hp).1
  intro p hp
  rcases List.mem_cons.mp hp with rfl | hp
  · refine ⟨h1, Ne.symm hne, ?_⟩
    show h₀.get? s.heap.objs.size = none
    cases e : h₀.get? s.heap.objs.size with
    | none => rfl
    | some o => exact absurd (Heap.lt_size (F.keep _ o e)) (Nat.lt_irrefl _)
  · rcases List.mem_cons.mp hp with rfl | hp
    · exact ⟨h4, hf.2.1, hf.2.2⟩
    · have z := N p (.tail _ hp)
      exact ⟨h5 _ _ (hoff p hp) z.1, z.2⟩
end
end
/-! RdS -/
section
open PySem.Calls
section
variable {prog : Program} {w : World} {A : Around} {E : Value → Shared → Prop} {s : Shared} {h₀ : Heap} {L : Addr} {m : Str → Option Value}
theorem pop_head {ls : Addr} {sg : List Value} {xs : List Str} {e : Nat} {rest : List (Addr × Obj)} {u : Tok} {Q : Value → Shared → Prop} (F : Fr h₀ L s.heap m) (N : News h₀ L s.heap ((ls, W.listOf sg.toArray e) :: rest)) (hS : StrsAre sg xs) (hne : (xs.length : Int) ≠ 0) (ho : ∀ p ∈ rest, p.1 ≠ ls) (hz : xs.length ≤ 2000)
    (h : ∀ x xs' t sg' h', xs = x :: xs' → StrsAre sg' xs' → Fr h₀ L h' m → News h₀ L h' ((ls, W.listOf (List.toArray sg') (e + 1)) :: rest) → Q (.str x t) { s with heap := h' }) :
    wpAny (model prog w) A (call (.builtin "list.pop") [.ref ls, .int 0 u]) Q E s := by
  cases hS with
  | nil => exact absurd rfl hne
  | cons x t r =>
    rename_i vs ys
    have hl := strs_len r
    refine kl_popAt (its := (Value.str x t :: vs).toArray) (p := []) (q := vs) (y := .str x t) (k := 0) F N rfl ?_ rfl (.head ho) ?_ (fun h' F' N' => h x ys t vs h' rfl r F' N')
    · show seqIndex? 0 (Value.str x t :: vs).toArray.size = some 0
      rw [List.size_toArray]
      unfold seqIndex?
      simp
    · show (Value.str x t :: vs).length ≤ sizeLine
      simp only [List.length_cons] at hz ⊢
      exact Nat.le_trans (by omega : vs.length + 1 ≤ 2000) (by decide)
theorem app_second {Z : Addr × Obj} {ln : Addr} {sn : List Value} {e : Nat} {rest : List (Addr × Obj)} {x : Value} {Q : Value → Shared → Prop} (F : Fr h₀ L s.heap m) (N : News h₀ L s.heap (Z :: (ln, W.listOf sn.toArray e) :: rest)) (hZ : Z.1 ≠ ln) (ho : ∀ p ∈ rest, p.1 ≠ ln) (hz : sn.length ≤ 2000)
    (h : ∀ h', Fr h₀ L h' m → News h₀ L h' (Z :: (ln, W.listOf (sn ++ [x]).toArray (e + 1)) :: rest) → Q .none { s with heap := h' }) :
    wpAny (model prog w) A (call (.builtin "list.append") [.ref ln, x]) Q E s := by
  refine append_K F N (.tail hZ (.head ho)) (fun h' F' N' => h h' F' ?_) (Nat.le_trans (by rw [List.size_toArray]; exact hz) (by decide))
  have e1 : sn.toArray.push x = (sn ++ [x]).toArray := by simp
  rw [e1] at N'
  exact N'
theorem it_end {D : Addr} {sn : List Value} {v : Value} {u : Tok} {value slice : Expr} {Q : Value → Shared → Prop} (hl : s.heap.IsList D (sn ++ [v]).toArray) (h : Q v s)
    (hb : subscripted slice false (.ref D) (.int (-1) u) = operate [.ref D, .int (-1) u] (getItem (.ref D) (.int (-1) u)) := by with_unfolding_all rfl) :
    wpAny (model prog w) A (subscriptTail value slice (.ref D) (.int (-1) u)) Q E s := by
  have e : ((-1 : Int) + ((sn ++ [v]).toArray.size : Int)).toNat = sn.length := by rw [List.size_toArray, List.length_append, List.length_singleton]; omega
  exact tail_any hl.typeIs slot_list_getitem.lookup (wpAny_getItem_list_neg hl (by decide) (by rw [List.size_toArray, List.length_append, List.length_singleton]; omega) (by decide) (by rw [e]; simp) h) hb
end
end
/-! RdC -/
section

/-- what `read` does, wherever its parts lie in the ledger -/
noncomputable def RdC (prog : Program) (w : World) (p : Program) (loose : List Str) (mean : ExcName → Option Value) (mg mb : Str → Option Value) (f : Addr) (fo : Obj) (c : Addr) (oc : Obj) (ca cb : Addr) (oa ob : Obj) (ls ln : Addr) : Prop :=
  ∀ (t0 : Tok) (sg sn : List Value) (xs ys : List Str) (e1 e2 : Nat) (rest : List (Addr × Obj)) (dp un : Nat) (gd : Option (List Code)) (cn' : Str) (cs : Scope) (a : Addr) (ccd : Value) (cl : List (Str × Addr)) (outer : List Env) (A₀ : Around) (base h₀ : Heap) (L : Addr) (m : Str → Option Value) (s : Shared) (Q E : Value → Shared → Prop),
    Below A₀ base outer h₀ → Fr h₀ L s.heap m → (hd.heap_1 w.params).In h₀ → News h₀ L s.heap ((ls, W.listOf sg.toArray e1) :: (ln, W.listOf sn.toArray e2) :: rest) → Top p loose mean mg mb h₀ → cs.kind = .function → CodeHd base 152 148 → (f, fo) ∈ rest → (c, oc) ∈ rest → (ca, oa) ∈ rest → (cb, ob) ∈ rest → Off ls rest → Off ln rest → ls ≠ ln → StrsAre sg xs → StrsAre sn ys → xs.length ≤ 2000 → sn.length ≤ 2000 → dp + 8 < recursionLimit → un + 60 < cLine → (∀ h' tk' t, xs = [] → Fr h₀ L h' m → News h₀ L h' ((ls, W.listOf sg.toArray e1) :: (ln, W.listOf sn.toArray e2) :: rest) → Q (.str (Str.ofString "") t) { s with heap := h', toks := tk' }) → (∀ x xs' sg' sn' e1' e2' h' tk' t, xs = x :: xs' → StrsAre sg' xs' → StrsAre sn' (ys ++ [x]) → Fr h₀ L h' m → News h₀ L h' ((ls, W.listOf (List.toArray sg') e1') :: (ln, W.listOf (List.toArray sn') e2') :: rest) → Q (.str x t) { s with heap := h', toks := tk' }) →
    wpAny (model prog w) (ktrTop dp un gd cn' cs L a ccd cl outer) (call (.ref f) [.int 1 t0]) Q E s
theorem rd_use {prog : Program} {w : World} {p : Program} {loose : List Str} {mean : ExcName → Option Value} {mg mb : Str → Option Value} {f : Addr} {fo : Obj} {c : Addr} {oc : Obj} {ca cb : Addr} {oa ob : Obj} {ls ln : Addr} {t0 : Tok} {sg sn : List Value} {xs ys : List Str} {e1 e2 : Nat} {rest : List (Addr × Obj)} {dp un : Nat} {gd : Option (List Code)} {cn' : Str} {cs : Scope} {a : Addr} {ccd : Value} {cl : List (Str × Addr)} {outer : List Env} {A₀ : Around} {base h₀ : Heap} {L : Addr} {m : Str → Option Value} {s : Shared} {Q E : Value → Shared → Prop} (R : RdC prog w p loose mean mg mb f fo c oc ca cb oa ob ls ln) (B : Below A₀ base outer h₀) (F : Fr h₀ L s.heap m) (X : (hd.heap_1 w.params).In h₀) (N : News h₀ L s.heap ((ls, W.listOf sg.toArray e1) :: (ln, W.listOf sn.toArray e2) :: rest)) (T : Top p loose mean mg mb h₀) (hk : cs.kind = .function) (hC : CodeHd base 152 148) (mf : (f, fo) ∈ rest) (mc : (c, oc) ∈ rest) (ma : (ca, oa) ∈ rest) (mb' : (cb, ob) ∈ rest) (hO1 : Off ls rest) (hO2 : Off ln rest) (hne : ls ≠ ln) (hS : StrsAre sg xs) (hR : StrsAre sn ys) (hz : xs.length ≤ 2000) (hz2 : sn.length ≤ 2000) (hdp : dp + 8 < recursionLimit) (hun : un + 60 < cLine) (hret0 : ∀ h' tk' t, xs = [] → Fr h₀ L h' m → News h₀ L h' ((ls, W.listOf sg.toArray e1) :: (ln, W.listOf sn.toArray e2) :: rest) → Q (.str (Str.ofString "") t) { s with heap := h', toks := tk' }) (hret1 : ∀ x xs' sg' sn' e1' e2' h' tk' t, xs = x :: xs' → StrsAre sg' xs' → StrsAre sn' (ys ++ [x]) → Fr h₀ L h' m → News h₀ L h' ((ls, W.listOf (List.toArray sg') e1') :: (ln, W.listOf (List.toArray sn') e2') :: rest) → Q (.str x t) { s with heap := h', toks := tk' }) :
    wpAny (model prog w) (ktrTop dp un gd cn' cs L a ccd cl outer) (call (.ref f) [.int 1 t0]) Q E s := R _ _ _ _ _ _ _ _ _ _ _ _ _ _ _ _ _ _ _ _ _ _ _ _ _ B F X N T hk hC mf mc ma mb' hO1 hO2 hne hS hR hz hz2 hdp hun hret0 hret1
/-- the place where it is shown -/
theorem rd_have {prog : Program} {w : World} {p : Program} {loose : List Str} {mean : ExcName → Option Value} {mg mb : Str → Option Value} {f : Addr} {fo : Obj} {c : Addr} {oc : Obj} {ca cb : Addr} {oa ob : Obj} {ls ln : Addr} {α : Type} {A : Around} {tr : Sem α} {Q : α → Shared → Prop} {E : Value → Shared → Prop} {s : Shared} {h₀ h : Heap} {L : Addr} {news : List (Addr × Obj)} {od : Obj} {vs : List Value} {l : List Nat} {n : Nat} {cvs : Array Value} {ct : Tok}
    (_N : News h₀ L h news) (_T : Top p loose mean mg mb h₀) (_hr : lookIn (Str.ofString "read") od = some (some (.ref f))) (_mf : (f, fo) ∈ news) (_hS : StrsAre vs (l.map fun c => tx [c])) (_ms : (ls, W.listOf vs.toArray n) ∈ news) (_mn : (ln, W.listOf #[] 0) ∈ news)
    (da : oa.data = .cell (some (.ref ls))) (_ma : (ca, oa) ∈ news) (db : ob.data = .cell (some (.ref ln))) (_mb : (cb, ob) ∈ news) (hcv : cvs[1]? = some (.str (Str.ofString "_law_front.<locals>.read") ct)) (hcd : oc.data = .fields cvs) (_mc : (c, oc) ∈ news)
    (step : oa.data = .cell (some (.ref ls)) → ob.data = .cell (some (.ref ln)) → cvs[1]? = some (.str (Str.ofString "_law_front.<locals>.read") ct) → oc.data = .fields cvs → RdC prog w p loose mean mg mb f fo c oc ca cb oa ob ls ln) (k : RdC prog w p loose mean mg mb f fo c oc ca cb oa ob ls ln → wpAny (model prog w) A tr Q E s) : wpAny (model prog w) A tr Q E s := k (step da db hcv hcd)
end
/-! FnGet -/
section
open PySem.Calls PySem.Builtin PySem.Builtin.ObjectAttr
theorem slot_fn_ga : Slot "function" "__getattribute__" "object.__getattribute__" :=
  .of (owner := "object") (n := "__getattribute__") (by rw [typeLookup_type, builtinLookup_eq_fast]; kernel_rfl) (by decide +kernel) (by decide +kernel) (by decide +kernel)
    (by first | exact .inl (by decide +kernel) | exact .inr (by decide +kernel)) (by rw [isSubtype_type]; kernel_rfl)
theorem fn_getattr_none : typeLookup (.type "function") "__getattr__" = pure none := by rw [typeLookup_type, builtinLookup_eq_fast]; kernel_rfl
theorem entry_obj_ga : entryFor table "object.__getattribute__" = some Builtin.«object.__getattribute__» := entryFor_of_tree (by kernel_rfl)
theorem canon_obj_ga : (Manifest.canonical "object.__getattribute__" != "object.__getattribute__") = false := by decide +kernel
theorem args_obj_ga (a b : Value) : argsOk "object.__getattribute__" ⟨[a, b], []⟩ := by
  first | exact PySem.F.args_object_getattribute_2 _ _ | (unfold argsOk; kernel_rfl)
section
variable {prog : Program} {w : World} {A : Around} {E : Value → Shared → Prop} {s : Shared}
theorem fn_ga_body {S D g : Addr} {od : Obj} {ff : FuncData} {sl : Array (Option Value)} {u : Tok} {Q : Fin → Shared → Prop} (hf : s.heap.get? S = some ⟨.type "function", some D, .func ff, sl⟩) (hD : s.heap.get? D = some od) (hl : lookIn (Str.ofString "read") od = some (some (.ref g)))
    (h : Q (.done (.ret (.ref g))) s) : wpAny (model prog w) A (Builtin.«object.__getattribute__» ⟨[.ref S, .str (Str.ofString "read") u], []⟩) Q E s := by
  have hT : s.TypeIs (.ref S) "function" := ⟨_, hf, rfl⟩
  have f1 := look_fn_read
  unfold Builtin.«object.__getattribute__»
  repeat (any_goals (first | assumption | wp_step))
  show wpAny _ _ (nsLook (Str.ofString "read") od) _ _ _
  refine wpAny_of_eq (nsLook_of hl) ?_
  dsimp only
  refine wpAny_bind (wpAny_rule (wpAny_pure ?_))
  dsimp only
  exact wpAny_pure h
theorem fn_read {S D g : Addr} {od : Obj} {ff : FuncData} {sl : Array (Option Value)} {pl : Sem Bool} {Q : Value × List Value → Shared → Prop} (hf : s.heap.get? S = some ⟨.type "function", some D, .func ff, sl⟩) (hD : s.heap.get? D = some od) (hl : lookIn (Str.ofString "read") od = some (some (.ref g)))
    (h : ∀ tk, Q (.ref g, []) { s with toks := tk }) : wpAny (model prog w) A (getMethod (.ref S) (Str.ofString "read") pl) Q E s := by
  have hT : ∀ k, ({ s with toks := k } : Shared).TypeIs (.ref S) "function" := fun _ => ⟨_, hf, rfl⟩
  unfold getMethod
  refine wpAny_bind (wpAny_specialOf (hT _) slot_fn_ga.lookup ?_)
  dsimp only
  rw [canon_obj_ga, if_neg Bool.false_ne_true]
  refine wpAny_bind (wpAny_specialOf (hT _) fn_getattr_none ?_)
  rw [show (Option.none : Option Value).isSome = false from rfl, if_neg Bool.false_ne_true]
  refine wpAny_bind (wpAny_specialOf (hT _) look_fn_read ?_)
  dsimp only
  refine wpAny_bind ?_
  unfold getAttr getAttrBy
  refine wpAny_bind (wpAny_mkText (wpAny_holding (wpAny_bind (wpAny_typeOf (hT _) (wpAny_bind (wpAny_of_eq slot_fn_ga.lookup ?_))))))
  dsimp only
  rw [show (onTheHeap (Value.type "function") && Value.builtin "object.__getattribute__" == Value.builtin "object.__getattribute__") = false from rfl, if_neg Bool.false_ne_true]
  unfold getAttrByItsOwn hookBefore
  rw [show onTheHeap (Value.type "function") = false from rfl, if_neg Bool.false_ne_true]
  refine wpAny_bind (wpAny_pure (wpAny_bind (wpAny_attempt (wpAny_holding ?_))))
  unfold callGetattribute
  rw [show (false && onTheHeap (Value.builtin "object.__getattribute__")) = false from rfl, if_neg Bool.false_ne_true]
  unfold boundAndCalled
  refine wpAny_bind (wpAny_of_eq (slot_fn_ga.bind (.ref S)) ?_)
  refine wpAny_call_entry slot_fn_ga (hT _) entry_obj_ga ?_ (args_obj_ga _ _)
  refine fn_ga_body hf hD hl ⟨_, rfl, ?_⟩
  show wpAny _ _ (handedOut (Value.ref g)) _ _ _
  exact wpAny_pure (wpAny_pure (h _))
theorem fn_read_N {h₀ : Heap} {L S D g : Addr} {news : List (Addr × Obj)} {so od : Obj} {ff : FuncData} {pl : Sem Bool} {Q : Value × List Value → Shared → Prop} (N : News h₀ L s.heap news) (hm : (S, so) ∈ news) (hc : so.cls = .type "function") (hd : so.dict = some D) (hdt : so.data = .func ff)
    (hD : (D, od) ∈ news) (hl : lookIn (Str.ofString "read") od = some (some (.ref g)))
    (h : ∀ tk, Q (.ref g, []) { s with toks := tk }) : wpAny (model prog w) A (getMethod (.ref S) (Str.ofString "read") pl) Q E s := by
  obtain ⟨cl, dd, dt, sl⟩ := so
  dsimp only at hc hd hdt
  subst hc hd hdt
  exact fn_read (N _ hm).1 (N _ hD).1 hl h
end
end
/-! C_rchar -/
section

local macro_rules | `(tactic| k_mem) => `(tactic| first | with_reducible assumption | (refine List.mem_cons_of_mem _ ?_; with_reducible assumption) | (refine List.mem_cons_of_mem _ (List.mem_cons_of_mem _ ?_); with_reducible assumption) | exact List.Mem.head _ | (refine' List.Mem.tail _ ?_; k_mem))
theorem rchar_c {prog : Program} {p : Program} {loose : List Str} {mean : ExcName → Option Value} {mg mb : Str → Option Value} (w : World) : ∀ (sg sn : List Value) (xs ys : List Str) (e1 e2 : Nat) (n9 : Int) (nt9 : Tok) (f c ca cb ls ln S D x d P : Addr) (foc : Value) (fod : Option Addr) (ffd ff : FuncData) (fsl : Array (Option Value)) (oc oa ob so od : Obj) (k1 k2 k3 k4 k5 : Tok) (rest : List (Addr × Obj)) (dp un : Nat) (gd : Option (List Code)) (cn : Str) (cs : Scope) (a : Addr) (ccd : Value) (cl : List (Str × Addr)) (outer : List Env) (A₀ : Around) (base h₀ : Heap) (L : Addr) (m : Str → Option Value) (s : Shared) (Q E : Value → Shared → Prop),
    Below A₀ base outer h₀ → Fr h₀ L s.heap m → (hd.heap_1 w.params).In h₀ → News h₀ L s.heap ((ls, W.listOf sg.toArray e1) :: (ln, W.listOf sn.toArray e2) :: (d, dictOf [⟨PyData.keyHash w.params (Str.ofString "lineno"), .str (Str.ofString "lineno") k1, .int n9 nt9⟩, ⟨PyData.keyHash w.params (Str.ofString "instream"), .str (Str.ofString "instream") k2, .ref S⟩, ⟨PyData.keyHash w.params (Str.ofString "whitespace"), .str (Str.ofString "whitespace") k3, .str (Str.ofString ".:\n") k5⟩, ⟨PyData.keyHash w.params (Str.ofString "pushback"), .str (Str.ofString "pushback") k4, .ref P⟩] 4) :: rest) → Top p loose mean mg mb h₀ → cs.kind = .function → 80 < L →
    dp + 20 < recursionLimit → un + 100 < cLine → CodeHd base 152 148 → RdC prog w p loose mean mg mb f ⟨foc, fod, .func ffd, fsl⟩ c oc ca cb oa ob ls ln → (f, ⟨foc, fod, .func ffd, fsl⟩) ∈ rest → (c, oc) ∈ rest → (ca, oa) ∈ rest → (cb, ob) ∈ rest → (S, so) ∈ rest → so.cls = .type "function" → so.dict = some D → so.data = .func ff → (D, od) ∈ rest → lookIn (Str.ofString "read") od = some (some (.ref f)) → (x, instObj 130 d) ∈ rest → Off ls rest → Off ln rest → Off d rest → ls ≠ ln → ls ≠ d → ln ≠ d → StrsAre sg xs → StrsAre sn ys → xs.length ≤ 2000 → sn.length ≤ 2000 → (∀ h' tk' t, xs = [] → Fr h₀ L h' m → News h₀ L h' ((ls, W.listOf sg.toArray e1) :: (ln, W.listOf sn.toArray e2) :: (d, dictOf [⟨PyData.keyHash w.params (Str.ofString "lineno"), .str (Str.ofString "lineno") k1, .int n9 nt9⟩, ⟨PyData.keyHash w.params (Str.ofString "instream"), .str (Str.ofString "instream") k2, .ref S⟩, ⟨PyData.keyHash w.params (Str.ofString "whitespace"), .str (Str.ofString "whitespace") k3, .str (Str.ofString ".:\n") k5⟩, ⟨PyData.keyHash w.params (Str.ofString "pushback"), .str (Str.ofString "pushback") k4, .ref P⟩] 4) :: rest) → Q (.str (Str.ofString "") t) { s with heap := h', toks := tk' }) → 
    (∀ y xs' sg' sn' e1' e2' h' tk' t n' nt', xs = y :: xs' → StrsAre sg' xs' → StrsAre sn' (ys ++ [y]) → Fr h₀ L h' m → News h₀ L h' ((ls, W.listOf (List.toArray sg') e1') :: (ln, W.listOf (List.toArray sn') e2') :: (d, dictOf [⟨PyData.keyHash w.params (Str.ofString "lineno"), .str (Str.ofString "lineno") k1, .int n' nt'⟩, ⟨PyData.keyHash w.params (Str.ofString "instream"), .str (Str.ofString "instream") k2, .ref S⟩, ⟨PyData.keyHash w.params (Str.ofString "whitespace"), .str (Str.ofString "whitespace") k3, .str (Str.ofString ".:\n") k5⟩, ⟨PyData.keyHash w.params (Str.ofString "pushback"), .str (Str.ofString "pushback") k4, .ref P⟩] 4) :: rest) → Q (.str y t) { s with heap := h', toks := tk' }) →
      codeAny (model prog w) (ktrTop dp un gd cn cs L a ccd cl outer) (.call (.ref 113) ⟨[.ref x], []⟩) (fun r s' => match r with | .ok (.ret v) => Q v s' | .ok _ => False | .error e => E e s') s := by
  w_top off
  intro sg sn xs ys e1 e2 n9 nt9 f c ca cb ls ln S D x d P foc fod ffd ff fsl oc oa ob so od k1 k2 k3 k4 k5 rest dp un gd cn cs a ccd cl outer A₀ base h₀ L m s Q E B F X N T hk hL hd hu hC hR mf mc ma mb9 mS hso1 hso2 hso3 mD hrd mx hO1 hO2 hO3 hn1 hn2 hn3 hS hSn hz hz2 hret0 hret
  k_dflt k_enter
  repeat' (first | (k_unfold; (try dsimp only)) | ((with_reducible show wpAny _ _ (setAttr (Value.ref _) _ _) _ _ _); k_here; k_dflt (refine' set_dict (by k_asm) (by k_asm) (by k_asm) (by (k_inst)) (by exact rfl) (by (k_is)) (by k_is) (by k_is) (by (k_is)) (by (k_get)) (by (k_put)) (by (k_upd)) (by (exact Nat.le_of_ble_eq_true rfl)) ?_; k_whole; intro h' F' N')) | ((with_reducible show wpAny _ _ (call (Value.ref _) [Value.int 1 _]) _ _ _); k_here; k_dflt (refine' rd_use (by with_reducible assumption) (by k_asm) (by k_asm) (by k_asm) (by k_asm) (by k_asm) (by first | exact rfl | assumption) (by first | with_reducible assumption | exact CodeHd.keeps (by assumption) (Below.stays (by assumption))) (by (k_mem)) (by k_mem) (by k_mem) (by k_mem) (by (exact Off.cons (Ne.symm (by with_reducible assumption)) (by with_reducible assumption))) (by exact Off.cons (Ne.symm (by with_reducible assumption)) (by with_reducible assumption)) (by with_reducible assumption) (by with_reducible assumption) (by with_reducible assumption) (by with_reducible assumption) (by with_reducible assumption) (by (ktr_room)) (by (ktr_units)) ?_ ?_; (intro h9 tk9 t9 hx9 F9 N9); rotate_left; (intro y9 xs9 sg9 sn9 e9 f9 h9 tk9 t9 hx9 hs9 hr9 F9 N9); rotate_left)) | ((with_reducible show wpAny _ _ (getMethod (Value.ref _) (Str.ofString "read") _) _ _ _); k_here; k_dflt (refine' fn_read_N (by k_asm) (by k_mem) (by with_reducible assumption) (by with_reducible assumption) (by with_reducible assumption) (by k_mem) (by with_reducible assumption) ?_; intro tk9)) | (k_end; kc_close) | walk1 | (dsimp only; (first | ((with_reducible show wpAny _ _ (setAttr (Value.ref _) _ _) _ _ _); k_here; k_dflt (refine' set_dict (by k_asm) (by k_asm) (by k_asm) (by (k_inst)) (by exact rfl) (by (k_is)) (by k_is) (by k_is) (by (k_is)) (by (k_get)) (by (k_put)) (by (k_upd)) (by (exact Nat.le_of_ble_eq_true rfl)) ?_; k_whole; intro h' F' N')) | ((with_reducible show wpAny _ _ (call (Value.ref _) [Value.int 1 _]) _ _ _); k_here; k_dflt (refine' rd_use (by with_reducible assumption) (by k_asm) (by k_asm) (by k_asm) (by k_asm) (by k_asm) (by first | exact rfl | assumption) (by first | with_reducible assumption | exact CodeHd.keeps (by assumption) (Below.stays (by assumption))) (by (k_mem)) (by k_mem) (by k_mem) (by k_mem) (by (exact Off.cons (Ne.symm (by with_reducible assumption)) (by with_reducible assumption))) (by exact Off.cons (Ne.symm (by with_reducible assumption)) (by with_reducible assumption)) (by with_reducible assumption) (by with_reducible assumption) (by with_reducible assumption) (by with_reducible assumption) (by with_reducible assumption) (by (ktr_room)) (by (ktr_units)) ?_ ?_; (intro h9 tk9 t9 hx9 F9 N9); rotate_left; (intro y9 xs9 sg9 sn9 e9 f9 h9 tk9 t9 hx9 hs9 hr9 F9 N9); rotate_left)) | ((with_reducible show wpAny _ _ (getMethod (Value.ref _) (Str.ofString "read") _) _ _ _); k_here; k_dflt (refine' fn_read_N (by k_asm) (by k_mem) (by with_reducible assumption) (by with_reducible assumption) (by with_reducible assumption) (by k_mem) (by with_reducible assumption) ?_; intro tk9)) | walk1)) | (leave1; (try dsimp only)) | fail "no step")
  all_goals first
   | (refine' hret0 _ _ _ ?sx ?sf ?sn; (case sx => (assumption)); (case sf => (k_asm)); (case sn => (k_asm)))
   | (refine' hret _ _ _ _ _ _ _ _ _ _ _ ?sx ?s1 ?s2 ?sf ?sn; (case sx => (with_reducible assumption)); (case s1 => (with_reducible assumption)); (case s2 => (with_reducible assumption)); (case sf => (k_asm)); (case sn => (k_asm)))
   | (fail "x")
end
/-! TokS -/
section

/-- the lexer's own names -/
abbrev lexObj (w : World) (k1 k2 k3 k4 k5 nt9 : Tok) (n9 : Int) (S P : Addr) : Obj := dictOf [⟨PyData.keyHash w.params (Str.ofString "lineno"), .str (Str.ofString "lineno") k1, .int n9 nt9⟩, ⟨PyData.keyHash w.params (Str.ofString "instream"), .str (Str.ofString "instream") k2, .ref S⟩, ⟨PyData.keyHash w.params (Str.ofString "whitespace"), .str (Str.ofString "whitespace") k3, .str (Str.ofString ".:\n") k5⟩, ⟨PyData.keyHash w.params (Str.ofString "pushback"), .str (Str.ofString "pushback") k4, .ref P⟩] 4
/-- what stands fast behind the lexer -/
noncomputable def FW (prog : Program) (w : World) (p : Program) (loose : List Str) (mean : ExcName → Option Value) (mg mb : Str → Option Value) (base : Heap) (ls ln d x S P : Addr) (rest : List (Addr × Obj)) : Prop :=
  CodeHd base 152 148 ∧ (x, instObj 130 d) ∈ rest ∧ (P, W.listOf #[] 0) ∈ rest ∧ ∃ (f c ca cb D : Addr) (foc : Value) (fod : Option Addr) (ffd ff : FuncData) (fsl : Array (Option Value)) (oc oa ob so od : Obj),
    RdC prog w p loose mean mg mb f ⟨foc, fod, .func ffd, fsl⟩ c oc ca cb oa ob ls ln ∧ (f, ⟨foc, fod, .func ffd, fsl⟩) ∈ rest ∧ (c, oc) ∈ rest ∧ (ca, oa) ∈ rest ∧ (cb, ob) ∈ rest ∧ (S, so) ∈ rest ∧ so.cls = .type "function" ∧ so.dict = some D ∧ so.data = .func ff ∧ (D, od) ∈ rest ∧ lookIn (Str.ofString "read") od = some (some (.ref f))
theorem FW.mono {prog : Program} {w : World} {p : Program} {loose : List Str} {mean : ExcName → Option Value} {mg mb : Str → Option Value} {base : Heap} {ls ln d x S P : Addr} {rest rest' : List (Addr × Obj)} (Wf : FW prog w p loose mean mg mb base ls ln d x S P rest) (hs : ∀ p ∈ rest, p ∈ rest') : FW prog w p loose mean mg mb base ls ln d x S P rest' := by
  obtain ⟨h1, h2, h3, f, c, ca, cb, D, foc, fod, ffd, ff, fsl, oc, oa, ob, so, od, g1, g2, g3, g4, g5, g6, g7, g8, g9, g10, g11⟩ := Wf
  exact ⟨h1, hs _ h2, hs _ h3, f, c, ca, cb, D, foc, fod, ffd, ff, fsl, oc, oa, ob, so, od, g1, hs _ g2, hs _ g3, hs _ g4, hs _ g5, hs _ g6, g7, g8, g9, hs _ g10, g11⟩
theorem rchar_fw {prog : Program} {w : World} {p : Program} {loose : List Str} {mean : ExcName → Option Value} {mg mb : Str → Option Value} {dp un : Nat} {gd : Option (List Code)} {cn : Str} {cs : Scope} {a : Addr} {ccd : Value} {cl : List (Str × Addr)} {outer : List Env} {A₀ : Around} {base h₀ : Heap} {L : Addr} {m : Str → Option Value} {s : Shared} {ls ln d x S P : Addr} {rest : List (Addr × Obj)} {k1 k2 k3 k4 k5 : Tok} {sg sn : List Value} {xs ys : List Str} {e1 e2 : Nat} {n9 : Int} {nt9 : Tok} {Q : Value → Shared → Prop} {E : Value → Shared → Prop} (B : Below A₀ base outer h₀) (F : Fr h₀ L s.heap m) (X : (hd.heap_1 w.params).In h₀) (N : News h₀ L s.heap ((ls, W.listOf (List.toArray sg) e1) :: (ln, W.listOf (List.toArray sn) e2) :: (d, lexObj w k1 k2 k3 k4 k5 nt9 n9 S P) :: rest)) (T : Top p loose mean mg mb h₀) (hk : cs.kind = .function) (hL : 80 < L) (hd : dp + 20 < recursionLimit) (hu : un + 100 < cLine)
    (Wf : FW prog w p loose mean mg mb base ls ln d x S P rest) (o1 : Off ls rest) (o2 : Off ln rest) (o3 : Off d rest) (h12 : ls ≠ ln) (h13 : ls ≠ d) (h23 : ln ≠ d) (hS : StrsAre sg xs) (hSn : StrsAre sn ys) (hz : xs.length ≤ 2000) (hz2 : sn.length ≤ 2000)
    (h0 : ∀ h' tk' t, xs = [] → Fr h₀ L h' m → News h₀ L h' ((ls, W.listOf (List.toArray sg) e1) :: (ln, W.listOf (List.toArray sn) e2) :: (d, lexObj w k1 k2 k3 k4 k5 nt9 n9 S P) :: rest) → Q (.str (Str.ofString "") t) { s with heap := h', toks := tk' })
    (h1 : ∀ y xs' sg' sn' e1' e2' h' tk' t n' nt', xs = y :: xs' → StrsAre sg' xs' → StrsAre sn' (ys ++ [y]) → Fr h₀ L h' m → News h₀ L h' ((ls, W.listOf (List.toArray sg') e1') :: (ln, W.listOf (List.toArray sn') e2') :: (d, lexObj w k1 k2 k3 k4 k5 nt' n' S P) :: rest) → Q (.str y t) { s with heap := h', toks := tk' }) :
    codeAny (model prog w) (ktrTop dp un gd cn cs L a ccd cl outer) (.call (.ref 113) ⟨[.ref x], []⟩) (fun r s' => match r with | .ok (.ret v) => Q v s' | .ok _ => False | .error e => E e s') s := by
  obtain ⟨hC, hx, _, f, c, ca, cb, D, foc, fod, ffd, ff, fsl, oc, oa, ob, so, od, g1, g2, g3, g4, g5, g6, g7, g8, g9, g10, g11⟩ := Wf
  exact rchar_c w _ _ _ _ _ _ _ _ _ _ _ _ _ _ _ _ _ _ _ _ _ _ _ _ _ _ _ _ _ _ _ _ _ _ _ _ _ _ _ _ _ _ _ _ _ _ _ _ _ _ _ _ B F X N T hk hL hd hu hC g1 g2 g3 g4 g5 g6 g7 g8 g9 g10 g11 hx o1 o2 o3 h12 h13 h23 hS hSn hz hz2 h0 h1
structure Apart (ls ln d I q : Addr) (rest : List (Addr × Obj)) : Prop where
  o1 : Off ls rest
  o2 : Off ln rest
  o3 : Off d rest
  o4 : Off I rest
  h12 : ls ≠ ln
  h13 : ls ≠ d
  h23 : ln ≠ d
  i1 : I ≠ ls
  i2 : I ≠ ln
  i3 : I ≠ d
  iq : I ≠ q
  q1 : q ≠ ls
  q2 : q ≠ ln
  q3 : q ≠ d
theorem tok_next {prog : Program} {w : World} {p : Program} {loose : List Str} {mean : ExcName → Option Value} {mg mb : Str → Option Value} {dp un : Nat} {gd : Option (List Code)} {cn : Str} {cs : Scope} {a : Addr} {ccd : Value} {cl : List (Str × Addr)} {outer : List Env} {A₀ : Around} {base h₀ : Heap} {L : Addr} {m : Str → Option Value} {s : Shared} {ls ln d x S P I q : Addr} {rest : List (Addr × Obj)} {k1 k2 k3 k4 k5 t0 : Tok} {sg sn : List Value} {xs ys : List Str} {e1 e2 : Nat} {n9 : Int} {nt9 : Tok} {Q : Option Value → Shared → Prop} {E : Value → Shared → Prop} (B : Below A₀ base outer h₀) (F : Fr h₀ L s.heap m) (X : (hd.heap_1 w.params).In h₀) (N : News h₀ L s.heap ((ls, W.listOf (List.toArray sg) e1) :: (ln, W.listOf (List.toArray sn) e2) :: (d, lexObj w k1 k2 k3 k4 k5 nt9 n9 S P) :: (I, citObj (.ref q) t0) :: (q, methodObj (.ref 113) (.ref x)) :: rest)) (T : Top p loose mean mg mb h₀) (hk : cs.kind = .function) (hL : 80 < L) (hd : dp + 20 < recursionLimit) (hu : un + 101 < cLine)
    (Wf : FW prog w p loose mean mg mb base ls ln d x S P rest) (Z : Apart ls ln d I q rest) (hS : StrsAre sg xs) (hSn : StrsAre sn ys) (hz : xs.length ≤ 2000) (hz2 : sn.length ≤ 2000) (hne : ∀ y ∈ xs, y ≠ Str.ofString "")
    (h0 : xs = [] → ∀ h' tk', Fr h₀ L h' m → News h₀ L h' ((ls, W.listOf (List.toArray sg) e1) :: (ln, W.listOf (List.toArray sn) e2) :: (d, lexObj w k1 k2 k3 k4 k5 nt9 n9 S P) :: (I, citEnd) :: (q, methodObj (.ref 113) (.ref x)) :: rest) → Q none { s with heap := h', toks := tk' })
    (h1 : ∀ y xs' sg' sn' e1' e2' h' tk' t n' nt', xs = y :: xs' → StrsAre sg' xs' → StrsAre sn' (ys ++ [y]) → Fr h₀ L h' m → News h₀ L h' ((ls, W.listOf (List.toArray sg') e1') :: (ln, W.listOf (List.toArray sn') e2') :: (d, lexObj w k1 k2 k3 k4 k5 nt' n' S P) :: (I, citObj (.ref q) t0) :: (q, methodObj (.ref 113) (.ref x)) :: rest) → Q (some (.str y t)) { s with heap := h', toks := tk' }) :
    wpAny (model prog w) (ktrTop dp un gd cn cs L a ccd cl outer) (pyNext (.ref I)) Q E s := by
  have hfn : fnIn (Mine.hd.heap_1 w.params) 113 = true := by k_is
  unfold fnIn at hfn
  split at hfn
  · rename_i fc fdc ffd fsl e
    have hIm : (I, citObj (.ref q) t0) ∈ ((ls, W.listOf (List.toArray sg) e1) :: (ln, W.listOf (List.toArray sn) e2) :: (d, lexObj w k1 k2 k3 k4 k5 nt9 n9 S P) :: (I, citObj (.ref q) t0) :: (q, methodObj (.ref 113) (.ref x)) :: rest) := by simp
    have hqm : (q, methodObj (.ref 113) (.ref x)) ∈ ((ls, W.listOf (List.toArray sg) e1) :: (ln, W.listOf (List.toArray sn) e2) :: (d, lexObj w k1 k2 k3 k4 k5 nt9 n9 S P) :: (I, citObj (.ref q) t0) :: (q, methodObj (.ref 113) (.ref x)) :: rest) := by simp
    have hf := (X.keeps F.keep) _ _ e
    have W2 : FW prog w p loose mean mg mb base ls ln d x S P ((I, citObj (.ref q) t0) :: (q, methodObj (.ref 113) (.ref x)) :: rest) := Wf.mono fun _ h => .tail _ (.tail _ h)
    have o1 : Off ls ((I, citObj (.ref q) t0) :: (q, methodObj (.ref 113) (.ref x)) :: rest) := Off.cons Z.i1 (Off.cons Z.q1 Z.o1)
    have o2 : Off ln ((I, citObj (.ref q) t0) :: (q, methodObj (.ref 113) (.ref x)) :: rest) := Off.cons Z.i2 (Off.cons Z.q2 Z.o2)
    have o3 : Off d ((I, citObj (.ref q) t0) :: (q, methodObj (.ref 113) (.ref x)) :: rest) := Off.cons Z.i3 (Off.cons Z.q3 Z.o3)
    cases xs with
    | nil =>
      refine cit_last rfl (N _ hIm).1 (N _ hqm).1 hf rfl (method_call (N _ hqm).1 (codeAny_mono (rchar_fw (dp := dp) (un := un + 1) (gd := gd) (cn := cn) (cs := cs) (a := a) (ccd := ccd) (cl := cl) (outer := outer) (Q := fun v s' => ∃ t, v = Value.str (Str.ofString "") t ∧ s'.heap.get? I = some (citObj (Value.ref q) t0) ∧ s'.heap.get? q = some (methodObj (Value.ref 113) (Value.ref x)) ∧ s'.heap.get? 113 = some { cls := fc, dict := fdc, data := Data.func ffd, slots := fsl } ∧ ∀ (h' : Heap), (∀ (b : Addr) (o : Obj), b ≠ I → s'.heap.get? b = some o → h'.get? b = some o) → h'.get? I = some citEnd → Q none { s' with heap := h' }) (E := fun _ _ => False) B F X N T hk hL hd (by omega) W2 o1 o2 o3 Z.h12 Z.h13 Z.h23 hS hSn hz hz2 (fun h' tk' t _ F' N' => ?_) (fun y xs' _ _ _ _ _ _ _ _ _ hc => nomatch hc)) (fun r s' h => ?_)))
      rotate_left
      · cases r with
        | error e => exact h
        | ok f => cases f <;> exact h
      · refine ⟨t, rfl, (N' _ hIm).1, (N' _ hqm).1, (X.keeps F'.keep) _ _ e, fun h2 hk2 hI2 => h0 rfl h2 tk' ?_ ?_⟩
        · have hI := N' _ hIm
          exact ⟨F'.ns.extBut hk2 (Ne.symm hI.2.1), fun b o eb => hk2 b o (fun q => by rw [q] at eb; rw [hI.2.2] at eb; cases eb) (F'.keep b o eb), F'.above⟩
        · have hI := N' _ hIm
          have keepN : ∀ p ∈ ((ls, W.listOf (List.toArray sg) e1) :: (ln, W.listOf (List.toArray sn) e2) :: (d, lexObj w k1 k2 k3 k4 k5 nt9 n9 S P) :: (I, citObj (.ref q) t0) :: (q, methodObj (.ref 113) (.ref x)) :: rest), p.1 ≠ I → h2.get? p.1 = some p.2 ∧ p.1 ≠ L ∧ h₀.get? p.1 = none := fun p hp hne => ⟨hk2 _ _ hne (N' p hp).1, (N' p hp).2⟩
          intro p hp
          rcases List.mem_cons.mp hp with rfl | hp
          · exact keepN _ (by simp) (Ne.symm Z.i1)
          rcases List.mem_cons.mp hp with rfl | hp
          · exact keepN _ (by simp) (Ne.symm Z.i2)
          rcases List.mem_cons.mp hp with rfl | hp
          · exact keepN _ (by simp) (Ne.symm Z.i3)
          rcases List.mem_cons.mp hp with rfl | hp
          · exact ⟨hI2, hI.2⟩
          rcases List.mem_cons.mp hp with rfl | hp
          · exact keepN _ (by simp) (Ne.symm Z.iq)
          · exact keepN _ (by simp [hp]) (Z.o4 p hp)
    | cons y xs' =>
      refine cit_item (N _ hIm).1 (N _ hqm).1 hf rfl (method_call (N _ hqm).1 (codeAny_mono (rchar_fw (dp := dp) (un := un + 1) (gd := gd) (cn := cn) (cs := cs) (a := a) (ccd := ccd) (cl := cl) (outer := outer) (Q := fun v s' => ∃ y t, v = Value.str y t ∧ y ≠ Str.ofString "" ∧ s'.heap.get? I = some (citObj (Value.ref q) t0) ∧ Q (some v) s') (E := fun _ _ => False) B F X N T hk hL hd (by omega) W2 o1 o2 o3 Z.h12 Z.h13 Z.h23 hS hSn hz hz2 (fun _ _ _ hc => nomatch hc) (fun y2 xs2 sg' sn' e1' e2' h' tk' t n' nt' hc hs' hr' F' N' => ?_)) (fun r s' h => ?_)))
      rotate_left
      · cases r with
        | error e => exact h
        | ok f => cases f <;> exact h
      · exact ⟨y2, t, rfl, by cases hc; exact hne _ (.head _), (N' (I, citObj (.ref q) t0) (by simp)).1, h1 _ _ _ _ _ _ _ _ _ _ _ hc hs' hr' F' N'⟩
  · cases hfn
end
/-! TokL -/
section

noncomputable def Plain (c : Nat) : Prop := c ≠ 46 ∧ c ≠ 58 ∧ c ≠ 10 ∧ c ≠ 34 ∧ c ≠ 92
noncomputable def Ws (c : Nat) : Prop := c = 46 ∨ c = 58 ∨ c = 10
structure TokA where
  dn : List Nat
  rm : List Nat
  tt : Tok
  sg : List Value
  sn : List Value
  e1 : Nat
  e2 : Nat
  n9 : Int
  nt9 : Tok
noncomputable def TJ (wd tl : List Nat) (a : TokA) : Prop :=
  a.dn ++ a.rm = wd ∧ StrsAre a.sg ((a.rm ++ tl).map (fun c => tx [c])) ∧ (∃ ys b c, a.dn = b ++ [c] ∧ StrsAre a.sn (ys ++ [tx [c]])) ∧ a.sn.length + (a.rm ++ tl).length ≤ 1000
noncomputable def PEnd (h₀ : Heap) (L : Addr) (m₀ : Str → Option Value) (dn : List Nat) (led : List (Addr × Obj)) (s : Shared) (f : Flow) (s₂ : Shared) : Prop :=
  match f with
  | .next => ∃ h' tk' tt' u, s₂ = { s with heap := h', toks := tk' } ∧ Fr h₀ L h' u ∧ (∀ z, z ≠ Str.ofString "ch" → u z = if z = Str.ofString "token" then some (.str (tx dn) tt') else m₀ z) ∧ News h₀ L h' led
  | _ => False
theorem pend_next {h₀ : Heap} {L : Addr} {m₀ u : Str → Option Value} {dn : List Nat} {led : List (Addr × Obj)} {s : Shared} {h' : Heap} {tk' : Nat} {tt' : Tok} (F : Fr h₀ L h' u) (hu : ∀ z, z ≠ Str.ofString "ch" → u z = if z = Str.ofString "token" then some (.str (tx dn) tt') else m₀ z) (N : News h₀ L h' led) : PEnd h₀ L m₀ dn led s .next { s with heap := h', toks := tk' } := ⟨_, _, _, _, rfl, F, hu, N⟩
noncomputable def REnd (Q : Flow → Shared → Prop) (f : Flow) (s₂ : Shared) : Prop :=
  match f with
  | .ret v => Q (.ret v) s₂
  | _ => False
theorem rend_ret {Q : Flow → Shared → Prop} {v : Value} {s₂ : Shared} (h : Q (.ret v) s₂) : REnd Q (.ret v) s₂ := h
theorem tx_one_ne {c : Nat} : tx [c] ≠ Str.ofString "" := fun h => by
  have := congrArg (fun x : Str => x.cps.size) h
  simp at this
  have e : (Str.ofString "").cps.size = 0 := by decide +kernel
  rw [e] at this
  cases this
theorem signs_ne {l : List Nat} : ∀ y ∈ l.map (fun c => tx [c]), y ≠ Str.ofString "" := fun y hy => by
  obtain ⟨c, _, rfl⟩ := List.mem_map.mp hy
  exact tx_one_ne
theorem tx_one_inj {c e : Nat} (h : tx [c] = tx [e]) : c = e := by
  have := congrArg (fun x : Str => x.cps.toList) h
  simpa using this
theorem fr_ch {h₀ h : Heap} {L : Addr} {u v : Str → Option Value} {x : Str} {y : Value} (F : Fr h₀ L h (fun z => if z = x then some y else u z)) (hu : ∀ z, z ≠ x → u z = v z) : Fr h₀ L h (fun z => if z = x then some y else v z) := by
  have : (fun z => if z = x then some y else u z) = (fun z => if z = x then some y else v z) := by
    funext z
    by_cases hz : z = x
    · rw [if_pos hz, if_pos hz]
    · rw [if_neg hz, if_neg hz, hu z hz]
  rw [← this]; exact F
theorem inner_loop {prog : Program} {w : World} {p : Program} {loose : List Str} {mean : ExcName → Option Value} {mg mb : Str → Option Value} {dp un : Nat} {gd : Option (List Code)} {cn : Str} {cs : Scope} {a : Addr} {ccd : Value} {cl : List (Str × Addr)} {outer : List Env} {A₀ : Around} {base h₀ : Heap} {L : Addr} {m₀ : Str → Option Value} {s : Shared} {ls ln d x S P I q : Addr} {rest : List (Addr × Obj)} {k1 k2 k3 k4 k5 t0 : Tok} {px : Pos} {body : List Stmt} {Q : Flow → Shared → Prop} {E : Value → Shared → Prop} (tl : List Nat) (b₀ : TokA)
    (hx : (envX cn cs L a ccd cl).kindOf (Str.ofString "ch") = some .local) (hp : ((envX cn cs L a ccd cl).scope.kind == .class || ((envX cn cs L a ccd cl).scope.kind == .module && (envX cn cs L a ccd cl).locals != (envX cn cs L a ccd cl).globals)) = false) (hE : PassesOwn (model prog w) (ktrTop dp un gd cn cs L a ccd cl outer) (envX cn cs L a ccd cl) E)
    (B : Below A₀ base outer h₀) (X : (hd.heap_1 w.params).In h₀) (T : Top p loose mean mg mb h₀) (hk : cs.kind = .function) (hL : 80 < L) (hd : dp + 20 < recursionLimit) (hu : un + 101 < cLine)
    (Wf : FW prog w p loose mean mg mb base ls ln d x S P rest) (Z : Apart ls ln d I q rest)
    (F : Fr h₀ L s.heap m₀) (hm : m₀ (Str.ofString "token") = some (.str (tx b₀.dn) b₀.tt)) (N : News h₀ L s.heap ((ls, W.listOf (List.toArray b₀.sg) b₀.e1) :: (ln, W.listOf (List.toArray b₀.sn) b₀.e2) :: (d, lexObj w k1 k2 k3 k4 k5 b₀.nt9 b₀.n9 S P) :: (I, citObj (.ref q) t0) :: (q, methodObj (.ref 113) (.ref x)) :: rest)) (hj : TJ (b₀.dn ++ b₀.rm) tl b₀) (hpl : ∀ c ∈ b₀.rm, Plain c) (htl : ∀ c r, tl = c :: r → Ws c) (hwl : (b₀.dn ++ b₀.rm).length ≤ 1000)
    (plain : ∀ (b : TokA) c r sg' sn' e1' e2' n' nt' h tk t, b.rm = c :: r → Plain c → (tx (b.dn ++ [c])).length ≤ 1000 → Fr h₀ L h (fun z => if z = Str.ofString "ch" then some (.str (tx [c]) t) else if z = Str.ofString "token" then some (.str (tx b.dn) b.tt) else m₀ z) → News h₀ L h ((ls, W.listOf (List.toArray sg') e1') :: (ln, W.listOf (List.toArray sn') e2') :: (d, lexObj w k1 k2 k3 k4 k5 nt' n' S P) :: (I, citObj (.ref q) t0) :: (q, methodObj (.ref 113) (.ref x)) :: rest) → wpAny (model prog w) (ktrTop dp un gd cn cs L a ccd cl outer) (execs body (envX cn cs L a ccd cl)) (PEnd h₀ L m₀ (b.dn ++ [c]) ((ls, W.listOf (List.toArray sg') e1') :: (ln, W.listOf (List.toArray sn') e2') :: (d, lexObj w k1 k2 k3 k4 k5 nt' n' S P) :: (I, citObj (.ref q) t0) :: (q, methodObj (.ref 113) (.ref x)) :: rest) s) E { s with heap := h, toks := tk })
    (ws : ∀ c r tt ys sg' sn' e1' e2' n' nt' h tk t, tl = c :: r → Ws c → StrsAre sg' (r.map (fun c => tx [c])) → StrsAre sn' (ys ++ [tx [c]]) → sn'.length + r.length ≤ 1000 → Fr h₀ L h (fun z => if z = Str.ofString "ch" then some (.str (tx [c]) t) else if z = Str.ofString "token" then some (.str (tx (b₀.dn ++ b₀.rm)) tt) else m₀ z) → News h₀ L h ((ls, W.listOf (List.toArray sg') e1') :: (ln, W.listOf (List.toArray sn') e2') :: (d, lexObj w k1 k2 k3 k4 k5 nt' n' S P) :: (I, citObj (.ref q) t0) :: (q, methodObj (.ref 113) (.ref x)) :: rest) → wpAny (model prog w) (ktrTop dp un gd cn cs L a ccd cl outer) (execs body (envX cn cs L a ccd cl)) (REnd Q) E { s with heap := h, toks := tk })
    (done : ∀ tt ys f c u sg' sn' e1' e2' n' nt' h' tk', tl = [] → b₀.dn ++ b₀.rm = f ++ [c] → StrsAre sg' [] → StrsAre sn' (ys ++ [tx [c]]) → sn'.length ≤ 1000 → Fr h₀ L h' u → (∀ z, z ≠ Str.ofString "ch" → u z = if z = Str.ofString "token" then some (.str (tx (b₀.dn ++ b₀.rm)) tt) else m₀ z) → News h₀ L h' ((ls, W.listOf (List.toArray sg') e1') :: (ln, W.listOf (List.toArray sn') e2') :: (d, lexObj w k1 k2 k3 k4 k5 nt' n' S P) :: (I, citEnd) :: (q, methodObj (.ref 113) (.ref x)) :: rest) → Q .next { s with heap := h', toks := tk' }) :
    wpAny (model prog w) (ktrTop dp un gd cn cs L a ccd cl outer) (pyIter (.ref I)) (fun it s₂ => codeAny (model prog w) (ktrTop dp un gd cn cs L a ccd cl outer) (.forLoop (.Name (Str.ofString "ch") px) it body [] (envX cn cs L a ccd cl)) (fun r s' => match r with | .ok f => Q f s' | .error e => cameBackBy (model prog w) (ktrTop dp un gd cn cs L a ccd cl outer) (envX cn cs L a ccd cl) E e s') s₂) E s := by
  refine cit_iter (N (I, citObj (.ref q) t0) (by simp)).1 rfl ?_
  refine codeAny_forLoop (fun n s' => ∃ (b : TokA) (h : Heap) (tk : Nat) (u : Str → Option Value), s' = { s with heap := h, toks := tk } ∧ n = b.rm.length ∧ TJ (b₀.dn ++ b₀.rm) tl b ∧ (∀ c ∈ b.rm, Plain c) ∧ Fr h₀ L h u ∧ (∀ z, z ≠ Str.ofString "ch" → u z = if z = Str.ofString "token" then some (.str (tx b.dn) b.tt) else m₀ z) ∧ News h₀ L h ((ls, W.listOf (List.toArray b.sg) b.e1) :: (ln, W.listOf (List.toArray b.sn) b.e2) :: (d, lexObj w k1 k2 k3 k4 k5 b.nt9 b.n9 S P) :: (I, citObj (.ref q) t0) :: (q, methodObj (.ref 113) (.ref x)) :: rest)) ?_ b₀.rm.length ⟨b₀, s.heap, s.toks, m₀, rfl, rfl, hj, hpl, F, ?_, N⟩
  rotate_left
  · intro z _
    by_cases hz : z = Str.ofString "token"
    · rw [if_pos hz, hz, hm]
    · rw [if_neg hz]
  rintro n s' ⟨b, h, tk, u, rfl, rfl, ⟨hwd, hsg, ⟨ys, f, e, hdn, hsn⟩, hlen⟩, hpb, F', hu', N'⟩
  have hz : ((b.rm ++ tl).map (fun c => tx [c])).length ≤ 2000 := by rw [List.length_map]; omega
  cases hrm : b.rm with
  | cons c r =>
    rw [hrm] at hsg hz hlen hwd
    refine tok_next (s := { s with heap := h, toks := tk }) B F' X N' T hk hL hd hu Wf Z hsg hsn hz (by omega) signs_ne (fun hc => by simp at hc) (fun y xs' sg' sn' e1' e2' h' tk' t n' nt' hxs hs' hn' F2 N2 => ?_)
    simp only [List.cons_append, List.map_cons, List.cons.injEq] at hxs
    obtain ⟨rfl, rfl⟩ := hxs
    refine wpAny_assign_Name (wpAny_storeName_local hx F2.ns (fun h₂ hn₂ hs₂ => ?_) hp)
    have F3 := F2.set hn₂ hs₂
    have N3 := N2.set hs₂
    have hdl := congrArg List.length hwd
    refine wpAny_mono (wpAny_passesOwn hE (plain b c r sg' sn' e1' e2' n' nt' h₂ (tk' + 1) t hrm (hpb c (by rw [hrm]; exact .head _)) ?_ (fr_ch F3 hu') N3)) (fun f2 s₂ hf => ?_) fun _ _ e => e
    · rw [tx_len]; simp only [List.length_append, List.length_cons, List.length_nil] at hdl hwl ⊢; omega
    · have fin : (∃ h' tk' tt' u, s₂ = { s with heap := h', toks := tk' } ∧ Fr h₀ L h' u ∧ (∀ z, z ≠ Str.ofString "ch" → u z = if z = Str.ofString "token" then some (.str (tx (b.dn ++ [c])) tt') else m₀ z) ∧ News h₀ L h' ((ls, W.listOf (List.toArray sg') e1') :: (ln, W.listOf (List.toArray sn') e2') :: (d, lexObj w k1 k2 k3 k4 k5 nt' n' S P) :: (I, citObj (.ref q) t0) :: (q, methodObj (.ref 113) (.ref x)) :: rest)) → ∃ m, m < (c :: r).length ∧ ∃ (b : TokA) (h : Heap) (tk : Nat) (u : Str → Option Value), s₂ = { s with heap := h, toks := tk } ∧ m = b.rm.length ∧ TJ (b₀.dn ++ b₀.rm) tl b ∧ (∀ c ∈ b.rm, Plain c) ∧ Fr h₀ L h u ∧ (∀ z, z ≠ Str.ofString "ch" → u z = if z = Str.ofString "token" then some (.str (tx b.dn) b.tt) else m₀ z) ∧ News h₀ L h ((ls, W.listOf (List.toArray b.sg) b.e1) :: (ln, W.listOf (List.toArray b.sn) b.e2) :: (d, lexObj w k1 k2 k3 k4 k5 b.nt9 b.n9 S P) :: (I, citObj (.ref q) t0) :: (q, methodObj (.ref 113) (.ref x)) :: rest) := by
        rintro ⟨h4, tk4, tt4, u4, rfl, F4, hu4, N4⟩
        refine ⟨r.length, Nat.lt_succ_self _, ⟨b.dn ++ [c], r, tt4, sg', sn', e1', e2', n', nt'⟩, h4, tk4, u4, rfl, rfl, ⟨?_, hs', ⟨_, _, _, rfl, hn'⟩, ?_⟩, fun e he => hpb e (by rw [hrm]; exact .tail _ he), F4, hu4, N4⟩
        · rw [← hwd]; simp
        · have h1 := strs_len hn'
          have h2 := strs_len hsn
          simp only [List.cons_append, List.length_cons, List.length_append, List.length_nil] at hlen h1 h2 ⊢
          omega
      cases f2 with
      | next => exact fin hf
      | cont => exact hf.elim
      | brk => exact hf.elim
      | ret v => exact hf.elim
  | nil =>
    rw [hrm, List.nil_append] at hsg hz hlen
    rw [hrm, List.append_nil] at hwd
    refine tok_next (s := { s with heap := h, toks := tk }) B F' X N' T hk hL hd hu Wf Z hsg hsn hz (by omega) signs_ne (fun hc => ?_) (fun y xs' sg' sn' e1' e2' h' tk' t n' nt' hxs hs' hn' F2 N2 => ?_)
    · have htl0 : tl = [] := List.map_eq_nil_iff.mp hc
      intro h' tk' F2 N2
      refine wpAny_execs_nil ?_
      rw [hc] at hsg
      refine done b.tt ys f e u b.sg b.sn b.e1 b.e2 b.n9 b.nt9 h' tk' htl0 (by rw [← hwd, hdn]) hsg hsn (by omega) F2 (by rw [← hwd]; exact hu') N2
    · cases tl with
      | nil => cases hxs
      | cons c r =>
        simp only [List.map_cons, List.cons.injEq] at hxs
        obtain ⟨rfl, rfl⟩ := hxs
        refine wpAny_assign_Name (wpAny_storeName_local hx F2.ns (fun h₂ hn₂ hs₂ => ?_) hp)
        have F3 := F2.set hn₂ hs₂
        have N3 := N2.set hs₂
        refine wpAny_mono (wpAny_passesOwn hE (ws c r b.tt _ sg' sn' e1' e2' n' nt' h₂ (tk' + 1) t rfl (htl c r rfl) hs' hn' ?_ (fr_ch F3 (by rw [← hwd]; exact hu')) N3)) (fun f2 s₂ hf => ?_) fun _ _ e => e
        · have h1 := strs_len hn'
          have h2 := strs_len hsn
          simp only [List.length_cons, List.length_append, List.length_nil] at hlen h1 h2 ⊢
          omega
        · cases f2 with
          | next => exact hf.elim
          | cont => exact hf.elim
          | brk => exact hf.elim
          | ret v => exact hf

noncomputable def OEnd (h₀ : Heap) (L : Addr) (m₀ : Str → Option Value) (wd : List Nat) (led : List Value → List Value → Nat → Nat → Int → Tok → List (Addr × Obj)) (s s₂ : Shared) : Prop :=
  ∃ tt ys f c u sg' sn' e1' e2' n' nt' h' tk', wd = f ++ [c] ∧ StrsAre sg' [] ∧ StrsAre sn' (ys ++ [tx [c]]) ∧ sn'.length ≤ 1000 ∧ Fr h₀ L h' u ∧ (∀ z, z ≠ Str.ofString "ch" → u z = if z = Str.ofString "token" then some (.str (tx wd) tt) else m₀ z) ∧ News h₀ L h' (led sg' sn' e1' e2' n' nt') ∧ s₂ = { s with heap := h', toks := tk' }
noncomputable def OEndF (tl : List Nat) (h₀ : Heap) (L : Addr) (m₀ : Str → Option Value) (wd : List Nat) (led : List Value → List Value → Nat → Nat → Int → Tok → List (Addr × Obj)) (Q : Flow → Shared → Prop) (s : Shared) (f : Flow) (s₂ : Shared) : Prop :=
  match f with
  | .next => tl = [] ∧ OEnd h₀ L m₀ wd led s s₂
  | .ret v => Q (.ret v) s₂
  | _ => False
theorem oend_ret {tl : List Nat} {h₀ : Heap} {L : Addr} {m₀ : Str → Option Value} {wd : List Nat} {led : List Value → List Value → Nat → Nat → Int → Tok → List (Addr × Obj)} {Q : Flow → Shared → Prop} {s s₂ : Shared} {v : Value} (h : Q (.ret v) s₂) : OEndF tl h₀ L m₀ wd led Q s (.ret v) s₂ := h
theorem oend_next {tl wd f : List Nat} {c : Nat} {ys : List Str} {h₀ h' : Heap} {L : Addr} {m₀ u : Str → Option Value} {led : List Value → List Value → Nat → Nat → Int → Tok → List (Addr × Obj)} {Q : Flow → Shared → Prop} {s : Shared} {sg' sn' : List Value} {e1' e2' : Nat} {n' : Int} {nt' : Tok} {tk' : Nat} {tt : Tok}
    (ht : tl = []) (hw : wd = f ++ [c]) (hs : StrsAre sg' []) (hn : StrsAre sn' (ys ++ [tx [c]])) (hl : sn'.length ≤ 1000) (F : Fr h₀ L h' u) (hu : ∀ z, z ≠ Str.ofString "ch" → u z = if z = Str.ofString "token" then some (.str (tx wd) tt) else m₀ z) (N : News h₀ L h' (led sg' sn' e1' e2' n' nt')) : OEndF tl h₀ L m₀ wd led Q s .next { s with heap := h', toks := tk' } :=
  ⟨ht, tt, ys, f, c, u, sg', sn', e1', e2', n', nt', h', tk', hw, hs, hn, hl, F, hu, N, rfl⟩
theorem outer_loop {prog : Program} {w : World} {p : Program} {loose : List Str} {mean : ExcName → Option Value} {mg mb : Str → Option Value} {dp un : Nat} {gd : Option (List Code)} {cn : Str} {cs : Scope} {a : Addr} {ccd : Value} {cl : List (Str × Addr)} {outer : List Env} {A₀ : Around} {base h₀ : Heap} {L : Addr} {m₀ : Str → Option Value} {s : Shared} {ls ln d x S P I q : Addr} {rest : List (Addr × Obj)} {k1 k2 k3 k4 k5 t0 : Tok} {px : Pos} {body : List Stmt} {Q : Flow → Shared → Prop} {E : Value → Shared → Prop} {sg sn : List Value} {e1 e2 : Nat} {n9 : Int} {nt9 : Tok} (c₀ : Nat) (wd tl : List Nat) (ys : List Str)
    (hx : (envX cn cs L a ccd cl).kindOf (Str.ofString "ch") = some .local) (hp : ((envX cn cs L a ccd cl).scope.kind == .class || ((envX cn cs L a ccd cl).scope.kind == .module && (envX cn cs L a ccd cl).locals != (envX cn cs L a ccd cl).globals)) = false) (hE : PassesOwn (model prog w) (ktrTop dp un gd cn cs L a ccd cl outer) (envX cn cs L a ccd cl) E)
    (B : Below A₀ base outer h₀) (X : (hd.heap_1 w.params).In h₀) (T : Top p loose mean mg mb h₀) (hk : cs.kind = .function) (hL : 80 < L) (hd : dp + 20 < recursionLimit) (hu : un + 101 < cLine)
    (Wf : FW prog w p loose mean mg mb base ls ln d x S P rest) (Z : Apart ls ln d I q rest)
    (F : Fr h₀ L s.heap m₀) (N : News h₀ L s.heap ((ls, W.listOf (List.toArray sg) e1) :: (ln, W.listOf (List.toArray sn) e2) :: (d, lexObj w k1 k2 k3 k4 k5 nt9 n9 S P) :: (I, citObj (.ref q) t0) :: (q, methodObj (.ref 113) (.ref x)) :: rest)) (hsg : StrsAre sg ((c₀ :: wd ++ tl).map (fun c => tx [c]))) (hsn : StrsAre sn ys) (hlen : sn.length + (c₀ :: wd ++ tl).length ≤ 1000)
    (first : ∀ sg' sn' e1' e2' n' nt' h tk t, StrsAre sg' ((wd ++ tl).map (fun c => tx [c])) → StrsAre sn' (ys ++ [tx [c₀]]) → sn'.length + (wd ++ tl).length ≤ 1000 → Fr h₀ L h (fun z => if z = Str.ofString "ch" then some (.str (tx [c₀]) t) else m₀ z) → News h₀ L h ((ls, W.listOf (List.toArray sg') e1') :: (ln, W.listOf (List.toArray sn') e2') :: (d, lexObj w k1 k2 k3 k4 k5 nt' n' S P) :: (I, citObj (.ref q) t0) :: (q, methodObj (.ref 113) (.ref x)) :: rest) →
      wpAny (model prog w) (ktrTop dp un gd cn cs L a ccd cl outer) (execs body (envX cn cs L a ccd cl)) (OEndF tl h₀ L m₀ (c₀ :: wd) (fun sg' sn' e1' e2' n' nt' => (ls, W.listOf (List.toArray sg') e1') :: (ln, W.listOf (List.toArray sn') e2') :: (d, lexObj w k1 k2 k3 k4 k5 nt' n' S P) :: (I, citEnd) :: (q, methodObj (.ref 113) (.ref x)) :: rest) Q s) E { s with heap := h, toks := tk })
    (done : ∀ tt ys f c u sg' sn' e1' e2' n' nt' h' tk', tl = [] → c₀ :: wd = f ++ [c] → StrsAre sg' [] → StrsAre sn' (ys ++ [tx [c]]) → sn'.length ≤ 1000 → Fr h₀ L h' u → (∀ z, z ≠ Str.ofString "ch" → u z = if z = Str.ofString "token" then some (.str (tx (c₀ :: wd)) tt) else m₀ z) → News h₀ L h' ((ls, W.listOf (List.toArray sg') e1') :: (ln, W.listOf (List.toArray sn') e2') :: (d, lexObj w k1 k2 k3 k4 k5 nt' n' S P) :: (I, citEnd) :: (q, methodObj (.ref 113) (.ref x)) :: rest) → Q .next { s with heap := h', toks := tk' }) :
    wpAny (model prog w) (ktrTop dp un gd cn cs L a ccd cl outer) (pyIter (.ref I)) (fun it s₂ => codeAny (model prog w) (ktrTop dp un gd cn cs L a ccd cl outer) (.forLoop (.Name (Str.ofString "ch") px) it body [] (envX cn cs L a ccd cl)) (fun r s' => match r with | .ok f => Q f s' | .error e => cameBackBy (model prog w) (ktrTop dp un gd cn cs L a ccd cl outer) (envX cn cs L a ccd cl) E e s') s₂) E s := by
  refine cit_iter (N (I, citObj (.ref q) t0) (by simp)).1 rfl ?_
  refine codeAny_forLoop (fun n s' => (n = 1 ∧ s' = s) ∨ (n = 0 ∧ tl = [] ∧ OEnd h₀ L m₀ (c₀ :: wd) (fun sg' sn' e1' e2' n' nt' => (ls, W.listOf (List.toArray sg') e1') :: (ln, W.listOf (List.toArray sn') e2') :: (d, lexObj w k1 k2 k3 k4 k5 nt' n' S P) :: (I, citEnd) :: (q, methodObj (.ref 113) (.ref x)) :: rest) s s')) ?_ 1 (.inl ⟨rfl, rfl⟩)
  rintro n s' (⟨rfl, rfl⟩ | ⟨rfl, htl, tt, ys, f, c, u, sg', sn', e1', e2', n', nt', h', tk', g1, g2, g3, g4, g5, g6, g7, rfl⟩)
  · have hz : ((c₀ :: wd ++ tl).map (fun c => tx [c])).length ≤ 2000 := by rw [List.length_map]; omega
    refine tok_next B F X N T hk hL hd hu Wf Z hsg hsn hz (by omega) signs_ne (fun hc => by simp at hc) (fun y xs' sg' sn' e1' e2' h' tk' t n' nt' hxs hs' hn' F2 N2 => ?_)
    simp only [List.cons_append, List.map_cons, List.cons.injEq] at hxs
    obtain ⟨rfl, rfl⟩ := hxs
    refine wpAny_assign_Name (wpAny_storeName_local hx F2.ns (fun h₂ hn₂ hs₂ => ?_) hp)
    have F3 := F2.set hn₂ hs₂
    have N3 := N2.set hs₂
    refine wpAny_mono (wpAny_passesOwn hE (first sg' sn' e1' e2' n' nt' h₂ (tk' + 1) t hs' hn' ?_ F3 N3)) (fun f2 s₂ hf => ?_) fun _ _ e => e
    · have h1 := strs_len hn'
      have h2 := strs_len hsn
      simp only [List.cons_append, List.length_cons, List.length_append, List.length_nil] at hlen h1 h2 ⊢
      omega
    · cases f2 with
      | next => exact ⟨0, Nat.zero_lt_one, .inr ⟨rfl, hf⟩⟩
      | cont => exact hf.elim
      | brk => exact hf.elim
      | ret v => exact hf
  · have hI := g7 (I, citEnd) (by simp)
    refine cit_over (s := { s with heap := h', toks := tk' }) rfl hI.1 (fun h₂ hk₂ => wpAny_execs_nil ?_)
    refine done tt ys f c u sg' sn' e1' e2' n' nt' h₂ tk' htl g1 g2 g3 g4 ⟨?_, fun b o e => hk₂ b o (g5.keep b o e), g5.above⟩ g6 fun p hp => ⟨hk₂ _ _ (g7 p hp).1, (g7 p hp).2⟩
    have hk3 : ∀ b o, b ≠ I → h'.get? b = some o → h₂.get? b = some o := fun b o _ e => hk₂ b o e
    exact g5.ns.extBut hk3 (Ne.symm hI.2.1)
end
/-! TokR -/
section

theorem ws_is : Str.ofString ".:\n" = (⟨#[46, 58, 10]⟩ : Str) := by decide +kernel
theorem empty_is : Str.ofString "" = tx [] := by decide +kernel
theorem occ_no {c : Nat} (h : Plain c) : (Builtin.Str.occurrences (⟨#[46, 58, 10]⟩ : Str) (tx [c]) 0 3 1).isEmpty = true := by
  rcases fnd_spec (⟨#[46, 58, 10]⟩ : Str) c 3 (Nat.le_refl _) with ⟨h1, _⟩ | ⟨k, hk, _, h2, _⟩
  · unfold fnd at h1
    split at h1
    · omega
    · rename_i e; rw [show tx [c] = (⟨#[c]⟩ : Str) from rfl, e]; rfl
  · exfalso
    obtain ⟨p1, p2, p3, _⟩ := h
    have : k = 0 ∨ k = 1 ∨ k = 2 := by omega
    rcases this with rfl | rfl | rfl <;> (simp at h2; omega)
section
variable {prog : Program} {w : World} {A : Around} {E : Value → Shared → Prop} {s : Shared} {t u : Tok} {c : Nat} {Q : Value → Shared → Prop}
theorem in_no (hc : Plain c) (h : Q (.bool false) s) : wpAny (model prog w) A (compareOp .In (.str (tx [c]) t) (.str (Str.ofString ".:\n") u)) Q E s := by
  refine PyProof.Rows.in_str ?_
  rw [ws_is]
  show Q (.bool !(Builtin.Str.occurrences (⟨#[46, 58, 10]⟩ : Str) (tx [c]) 0 3 1).isEmpty) s
  rw [occ_no hc]
  exact h
theorem in_yes (hc : Ws c) (h : Q (.bool true) s) : wpAny (model prog w) A (compareOp .In (.str (tx [c]) t) (.str (Str.ofString ".:\n") u)) Q E s := by
  refine PyProof.Rows.in_str ?_
  have e : (!(Builtin.Str.occurrences (Str.ofString ".:\n") (tx [c]) 0 (Str.ofString ".:\n").length 1).isEmpty) = true := by
    rcases hc with rfl | rfl | rfl <;> decide +kernel
  rw [e]
  exact h
theorem eq_q (hc : Plain c) (h : Q (.bool false) s) : wpAny (model prog w) A (compareOp .Eq (.str (tx [c]) t) (.str (Str.ofString "\"") u)) Q E s := by
  refine PyProof.Rows.eq_str ?_
  have e : (tx [c] == Str.ofString "\"") = false := by
    rw [show Str.ofString "\"" = tx [34] by decide +kernel]
    exact beq_false_of_ne fun q => hc.2.2.2.1 (tx_one_inj q)
  first | (rw [e]; exact h) | (rw [decide_eq_false (by simpa using e)]; exact h)
theorem eq_b (hc : Plain c) (h : Q (.bool false) s) : wpAny (model prog w) A (compareOp .Eq (.str (tx [c]) t) (.str (Str.ofString "\\") u)) Q E s := by
  refine PyProof.Rows.eq_str ?_
  have e : (tx [c] == Str.ofString "\\") = false := by
    rw [show Str.ofString "\\" = tx [92] by decide +kernel]
    exact beq_false_of_ne fun q => hc.2.2.2.2 (tx_one_inj q)
  first | (rw [e]; exact h) | (rw [decide_eq_false (by simpa using e)]; exact h)
theorem iadd_tx {a b : List Nat} (hl : (tx (a ++ b)).length ≤ 1000) (h : ∀ t' k, Q (.str (tx (a ++ b)) t') { s with toks := k }) : wpAny (model prog w) A (inplaceOp .Add (.str (tx a) t) (.str (tx b) u)) Q E s := by
  refine PyProof.Rows.iadd_str (fun t' k => ?_) ?_
  · rw [tx_app]; exact h t' k
  · rw [tx_len, tx_len]
    rw [tx_len, List.length_append] at hl
    exact Nat.le_trans hl (by decide)
theorem add_e (h : ∀ t' k, Q (.str (tx [c]) t') { s with toks := k }) : wpAny (model prog w) A (inplaceOp .Add (.str (Str.ofString "") t) (.str (tx [c]) u)) Q E s := by
  rw [empty_is]
  exact iadd_tx (a := []) (b := [c]) (by rw [tx_len]; show 1 ≤ 1000; omega) h
end
theorem truthy_empty {prog : Program} {w : World} {A : Around} {E : Value → Shared → Prop} {s : Shared} {h₀ : Heap} {L P : Addr} {news : List (Addr × Obj)} {n : Nat} {Q : Bool → Shared → Prop} (N : News h₀ L s.heap news) (hm : (P, W.listOf #[] n) ∈ news) (h : Q false { s with toks := s.toks + 1 + 1 }) : wpAny (model prog w) A (truthy (.ref P)) Q E s :=
  wpAny_truthy_list (PySem.IsL.isList (N _ hm).1) (by show ((0 : Nat) : Int) < 2 ^ 63; decide) h
theorem tok_back2 {x y : Str} {v0 v1 v2 v3 : Option Value} {m₀ : Str → Option Value} : ∀ z, z ≠ y → (if z = y then v0 else if z = x then v1 else if z = x then v2 else if z = y then v3 else m₀ z) = if z = x then v1 else m₀ z := by
  intro z hz
  by_cases h1 : z = x
  · simp [h1, h1 ▸ hz]
  · simp [h1, hz]
theorem len_nil0 {n : Nat} {α : Type} (h : n ≤ 1000) : n + ([] : List α).length ≤ 1000 := h
theorem tj_start {c0 : Nat} {wd tl : List Nat} {tt : Tok} {sg sn : List Value} {ys : List Str} {e1 e2 : Nat} {n9 : Int} {nt9 : Tok} (h1 : StrsAre sg ((wd ++ tl).map (fun c => tx [c]))) (h2 : StrsAre sn (ys ++ [tx [c0]])) (h3 : sn.length + (wd ++ tl).length ≤ 1000) : TJ ([c0] ++ wd) tl ⟨[c0], wd, tt, sg, sn, e1, e2, n9, nt9⟩ :=
  ⟨rfl, h1, ⟨ys, [], c0, rfl, h2⟩, h3⟩
theorem wl_of {c0 : Nat} {wd tl : List Nat} {sn : List Value} (h : sn.length + (c0 :: wd ++ tl).length ≤ 1000) : ([c0] ++ wd).length ≤ 1000 := by
  simp only [List.length_append, List.length_cons, List.length_nil] at h ⊢
  omega
theorem tok_back {x y : Str} {v1 v2 v3 : Option Value} {m₀ : Str → Option Value} : ∀ z, z ≠ y → (if z = x then v1 else if z = y then v2 else if z = x then v3 else m₀ z) = if z = x then v1 else m₀ z := by
  intro z hz
  by_cases h1 : z = x
  · simp [h1]
  · simp [h1, hz]
inductive InIn : Prop where | mk
theorem news_perm {h₀ h : Heap} {L : Addr} {I q a b c : Addr × Obj} {R : List (Addr × Obj)} (N : News h₀ L h (I :: q :: a :: b :: c :: R)) : News h₀ L h (a :: b :: c :: I :: q :: R) := news_sub N fun p hp => by
  simp only [List.mem_cons] at hp ⊢
  rcases hp with h | h | h | h | h | h <;> simp [h]
theorem news_drop2 {h₀ h : Heap} {L : Addr} {I q a b c : Addr × Obj} {R : List (Addr × Obj)} (N : News h₀ L h (a :: b :: c :: I :: q :: R)) : News h₀ L h (a :: b :: c :: R) := news_sub N fun p hp => by
  simp only [List.mem_cons] at hp ⊢
  rcases hp with h | h | h | h <;> simp [h]
theorem off_gt {d : Addr} {l : List (Addr × Obj)} (h : AllLt d l) : Off d l := ne_of_allLt h
end
/-! C_tok -/
section

local macro_rules | `(tactic| k_mem) => `(tactic| first | with_reducible assumption | (refine List.mem_cons_of_mem _ ?_; with_reducible assumption) | (refine List.mem_cons_of_mem _ (List.mem_cons_of_mem _ ?_); with_reducible assumption) | exact List.Mem.head _ | (refine' List.Mem.tail _ ?_; k_mem))
theorem tok_c {prog : Program} {p : Program} {loose : List Str} {mean : ExcName → Option Value} {mg mb : Str → Option Value} (w : World) : ∀ (c0 : Nat) (wd tl : List Nat) (sg sn : List Value) (ys : List Str) (e1 e2 : Nat) (n9 : Int) (nt9 : Tok) (ls ln d x S P : Addr) (k1 k2 k3 k4 k5 : Tok) (rest : List (Addr × Obj)) (dp un : Nat) (gd : Option (List Code)) (cn : Str) (cs : Scope) (a : Addr) (ccd : Value) (cl : List (Str × Addr)) (outer : List Env) (A₀ : Around) (base h₀ : Heap) (L : Addr) (m : Str → Option Value) (s : Shared) (Q E : Value → Shared → Prop),
    Below A₀ base outer h₀ → Fr h₀ L s.heap m → (hd.heap_1 w.params).In h₀ → News h₀ L s.heap ((ls, W.listOf (List.toArray sg) e1) :: (ln, W.listOf (List.toArray sn) e2) :: (d, dictOf [⟨PyData.keyHash w.params (Str.ofString "lineno"), .str (Str.ofString "lineno") k1, .int n9 nt9⟩, ⟨PyData.keyHash w.params (Str.ofString "instream"), .str (Str.ofString "instream") k2, .ref S⟩, ⟨PyData.keyHash w.params (Str.ofString "whitespace"), .str (Str.ofString "whitespace") k3, .str (Str.ofString ".:\n") k5⟩, ⟨PyData.keyHash w.params (Str.ofString "pushback"), .str (Str.ofString "pushback") k4, .ref P⟩] 4) :: rest) → Top p loose mean mg mb h₀ → cs.kind = .function → 80 < L →
    dp + 40 < recursionLimit → un + 300 < cLine → CodeHd base 152 148 → FW prog w p loose mean mg mb base ls ln d x S P rest → (x, instObj 130 d) ∈ rest → (P, W.listOf #[] 0) ∈ rest → Off ls rest → Off ln rest → Off d rest → ls ≠ ln → ls ≠ d → ln ≠ d → StrsAre sg ((c0 :: wd ++ tl).map (fun c => tx [c])) → StrsAre sn ys → sn.length + (c0 :: wd ++ tl).length ≤ 1000 → Plain c0 → (∀ c ∈ wd, Plain c) → (∀ c r, tl = c :: r → Ws c) → 
    (∀ c r ys' t h' tk' sg' sn' e1' e2' n' nt', (tl = c :: r ∨ (tl = [] ∧ r = [] ∧ ∃ f, c0 :: wd = f ++ [c])) → StrsAre sg' (r.map (fun c => tx [c])) → StrsAre sn' (ys' ++ [tx [c]]) → sn'.length + r.length ≤ 1000 → Fr h₀ L h' m → News h₀ L h' ((ls, W.listOf (List.toArray (sg')) e1') :: (ln, W.listOf (List.toArray (sn')) e2') :: (d, dictOf [⟨PyData.keyHash w.params (Str.ofString "lineno"), .str (Str.ofString "lineno") k1, .int n' nt'⟩, ⟨PyData.keyHash w.params (Str.ofString "instream"), .str (Str.ofString "instream") k2, .ref S⟩, ⟨PyData.keyHash w.params (Str.ofString "whitespace"), .str (Str.ofString "whitespace") k3, .str (Str.ofString ".:\n") k5⟩, ⟨PyData.keyHash w.params (Str.ofString "pushback"), .str (Str.ofString "pushback") k4, .ref P⟩] 4) :: rest) → Q (.str (tx (c0 :: wd)) t) { s with heap := h', toks := tk' }) →
      wpAny (model prog w) (ktrTop dp un gd cn cs L a ccd cl outer) (call (.ref 120) [.ref x]) Q E s := by
  w_top off
  intro c0 wd tl sg sn ys e1 e2 n9 nt9 ls ln d x S P k1 k2 k3 k4 k5 rest dp un gd cn cs a ccd cl outer A₀ base h₀ L m s Q E B F X N T hk hL hd hu hC Wf mx mP o1 o2 o3 h12 h13 h23 hS hSn hlen hp0 hpw htl hret
  refine wpAny_call ?_
  k_dflt k_enter
  repeat' (first | (k_unfold; (try dsimp only)) | ((with_reducible show wpAny _ _ (pyIter (Value.ref _)) _ _ _); k_here; (with_reducible rename InIn => mk8); (k_dflt ((refine' inner_loop _ ⟨_, _, _, _, _, _, _, _, _⟩ ?z0jhx ?z0jhp ?z0jhE ?z0jB ?z0jX ?z0jT ?z0jhk ?z0jhL ?z0jhd ?z0jhu ?z0jWf ?z0jZ ?z0jF ?z0jhm ?z0jN ?z0jhj ?z0jhpl ?z0jhtl ?z0jhwl ?z0jplain ?z0jws ?z0jdone); (case z0jhx => (exact rfl)); (case z0jhp => (exact rfl)); (case z0jhE => (with_unfolding_all passes_own)); (case z0jB => (k_asm)); (case z0jX => (k_asm)); (case z0jT => (k_asm)); (case z0jhk => (first | exact rfl | assumption)); (case z0jhL => (first | with_reducible assumption | exact lt_frm (by k_asm) (by k_asm) (by with_reducible assumption))); (case z0jhd => (ktr_room)); (case z0jhu => (ktr_units)); (case z0jWf => (with_reducible assumption)); (case z0jF => (k_asm)); (case z0jhm => (exact rfl)); (case z0jN => (k_asm)); (case z0jZ => (refine Apart.mk ?_ ?_ ?_ ?_ ?_ ?_ ?_ ?_ ?_ ?_ ?_ ?_ ?_ ?_ <;> first | with_reducible assumption | exact off_gt (by with_reducible assumption) | k_ne)); (case z0jhj => (exact tj_start (by with_reducible assumption) (by with_reducible assumption) (by with_reducible assumption))); (case z0jhpl => (exact (by with_reducible assumption))); (case z0jhtl => (with_reducible assumption)); (case z0jhwl => (exact wl_of (by with_reducible assumption))); (case' z0jplain => intro b9 c9 r9 sg9 sn9 e9 f9 n9 nt9 h9 tk9 t9 hrm9 hp9 hl9 F9 N9); (case' z0jws => intro c9 r9 tt9 ys9 sg9 sn9 e9 f9 n9 nt9 h9 tk9 t9 htl9 hw9 hs9 hn9 hl9 F9 N9); (case' z0jdone => intro tt9 ys9 f9 c9 u9 sg9 sn9 e9 g9 n9 nt9 h9 tk9 htl9 hw9 hs9 hn9 hl9 F9 hu9 N9; (have F8 := fr_pick F9 hu9); clear hu9 F9)))) | ((with_reducible show wpAny _ _ (pyIter (Value.ref _)) _ _ _); k_here; k_dflt (refine' outer_loop _ _ _ _ ?z1hx ?z1hp ?z1hE ?z1B ?z1X ?z1T ?z1hk ?z1hL ?z1hd ?z1hu ?z1Wf ?z1Z ?z1F ?z1N ?z1sg ?z1sn ?z1len ?z1first ?z1done; (case z1hx => (exact rfl)); (case z1hp => (exact rfl)); (case z1hE => (with_unfolding_all passes_own)); (case z1B => (k_asm)); (case z1X => (k_asm)); (case z1T => (k_asm)); (case z1hk => (first | exact rfl | assumption)); (case z1hL => (first | with_reducible assumption | exact lt_frm (by k_asm) (by k_asm) (by with_reducible assumption))); (case z1hd => (ktr_room)); (case z1hu => (ktr_units)); (case z1Wf => (with_reducible assumption)); (case z1F => (k_asm)); (case z1N => (k_asm)); (case z1Z => (refine Apart.mk ?_ ?_ ?_ ?_ ?_ ?_ ?_ ?_ ?_ ?_ ?_ ?_ ?_ ?_ <;> first | with_reducible assumption | exact off_gt (by with_reducible assumption) | k_ne)); (case z1sg => (with_reducible assumption)); (case z1sn => (with_reducible assumption)); (case z1len => (with_reducible assumption)); (case' z1first => intro sg9 sn9 e9 f9 n9 nt9 h9 tk9 t9 hs9 hr9 hl9 F9 N9; have mk9 : InIn := InIn.mk); (case' z1done => intro tt9 ys9 f9 c9 u9 sg9 sn9 e9 g9 n9 nt9 h9 tk9 htl9 hw9 hs9 hn9 hl9 F9 hu9 N9; (have F8 := fr_pick F9 hu9); clear hu9 F9))) | ((with_reducible show wpAny _ _ (inplaceOp .Add (Value.str _ _) (Value.str _ _)) _ _ _); k_here; (first | ((with_reducible show wpAny _ _ (inplaceOp _ (Value.str (Str.ofString "") _) _) _ _ _); k_dflt (refine add_e ?_; intro t9 k9)) | k_dflt (refine' iadd_tx (by with_reducible assumption) ?_; intro t9 k9))) | ((with_reducible show wpAny _ _ (compareOp .Eq (Value.str _ _) (Value.str _ _)) _ _ _); k_here; first | ((with_reducible show wpAny _ _ (compareOp _ _ (Value.str (Str.ofString "\"") _)) _ _ _); k_dflt (refine eq_q (by with_reducible assumption) ?_)) | ((with_reducible show wpAny _ _ (compareOp _ _ (Value.str (Str.ofString "\\") _)) _ _ _); k_dflt (refine eq_b (by with_reducible assumption) ?_))) | ((with_reducible show wpAny _ _ (compareOp .In (Value.str _ _) (Value.str _ _)) _ _ _); k_here; k_dflt (first | (refine in_no (by with_reducible assumption) ?_) | (refine in_yes (by with_reducible assumption) ?_))) | ((with_reducible show wpAny _ _ (truthy (Value.ref _)) _ _ _); k_here; k_dflt (refine' truthy_empty (by k_asm) (by k_mem) ?_)) | ((with_reducible show wpAny _ _ (exec (Stmt.For _ _ _ _ _) _) _ _ _); k_here; k_dflt (refine wpAny_For ?_)) | ((with_reducible show wpAny _ _ (exec (Stmt.For _ _ _ _ _) _) _ _ _); k_here; k_dflt (refine wpAny_For ?_)) | ((with_reducible show wpAny _ _ (exec (Stmt.For _ _ _ _ _) _) _ _ _); k_here; k_dflt (refine wpAny_For ?_)) | ((with_reducible show wpAny _ _ (exec (Stmt.For _ _ _ _ _) _) _ _ _); k_here; k_dflt (refine wpAny_For ?_)) | ((with_reducible show wpAny _ _ (call (Value.builtin "iter") _ _) _ _ _); k_here; k_dflt (refine' iter_two (by k_asm) (by k_asm) (by k_mem) ?_; intro I9 h9 F9 N9 l9; (try k_lt l9); (replace N9 := news_perm N9))) | (k_end; kc_close) | walk1 | (dsimp only; (first | ((with_reducible show wpAny _ _ (pyIter (Value.ref _)) _ _ _); k_here; (with_reducible rename InIn => mk8); (k_dflt ((refine' inner_loop _ ⟨_, _, _, _, _, _, _, _, _⟩ ?z0jhx ?z0jhp ?z0jhE ?z0jB ?z0jX ?z0jT ?z0jhk ?z0jhL ?z0jhd ?z0jhu ?z0jWf ?z0jZ ?z0jF ?z0jhm ?z0jN ?z0jhj ?z0jhpl ?z0jhtl ?z0jhwl ?z0jplain ?z0jws ?z0jdone); (case z0jhx => (exact rfl)); (case z0jhp => (exact rfl)); (case z0jhE => (with_unfolding_all passes_own)); (case z0jB => (k_asm)); (case z0jX => (k_asm)); (case z0jT => (k_asm)); (case z0jhk => (first | exact rfl | assumption)); (case z0jhL => (first | with_reducible assumption | exact lt_frm (by k_asm) (by k_asm) (by with_reducible assumption))); (case z0jhd => (ktr_room)); (case z0jhu => (ktr_units)); (case z0jWf => (with_reducible assumption)); (case z0jF => (k_asm)); (case z0jhm => (exact rfl)); (case z0jN => (k_asm)); (case z0jZ => (refine Apart.mk ?_ ?_ ?_ ?_ ?_ ?_ ?_ ?_ ?_ ?_ ?_ ?_ ?_ ?_ <;> first | with_reducible assumption | exact off_gt (by with_reducible assumption) | k_ne)); (case z0jhj => (exact tj_start (by with_reducible assumption) (by with_reducible assumption) (by with_reducible assumption))); (case z0jhpl => (exact (by with_reducible assumption))); (case z0jhtl => (with_reducible assumption)); (case z0jhwl => (exact wl_of (by with_reducible assumption))); (case' z0jplain => intro b9 c9 r9 sg9 sn9 e9 f9 n9 nt9 h9 tk9 t9 hrm9 hp9 hl9 F9 N9); (case' z0jws => intro c9 r9 tt9 ys9 sg9 sn9 e9 f9 n9 nt9 h9 tk9 t9 htl9 hw9 hs9 hn9 hl9 F9 N9); (case' z0jdone => intro tt9 ys9 f9 c9 u9 sg9 sn9 e9 g9 n9 nt9 h9 tk9 htl9 hw9 hs9 hn9 hl9 F9 hu9 N9; (have F8 := fr_pick F9 hu9); clear hu9 F9)))) | ((with_reducible show wpAny _ _ (pyIter (Value.ref _)) _ _ _); k_here; k_dflt (refine' outer_loop _ _ _ _ ?z1hx ?z1hp ?z1hE ?z1B ?z1X ?z1T ?z1hk ?z1hL ?z1hd ?z1hu ?z1Wf ?z1Z ?z1F ?z1N ?z1sg ?z1sn ?z1len ?z1first ?z1done; (case z1hx => (exact rfl)); (case z1hp => (exact rfl)); (case z1hE => (with_unfolding_all passes_own)); (case z1B => (k_asm)); (case z1X => (k_asm)); (case z1T => (k_asm)); (case z1hk => (first | exact rfl | assumption)); (case z1hL => (first | with_reducible assumption | exact lt_frm (by k_asm) (by k_asm) (by with_reducible assumption))); (case z1hd => (ktr_room)); (case z1hu => (ktr_units)); (case z1Wf => (with_reducible assumption)); (case z1F => (k_asm)); (case z1N => (k_asm)); (case z1Z => (refine Apart.mk ?_ ?_ ?_ ?_ ?_ ?_ ?_ ?_ ?_ ?_ ?_ ?_ ?_ ?_ <;> first | with_reducible assumption | exact off_gt (by with_reducible assumption) | k_ne)); (case z1sg => (with_reducible assumption)); (case z1sn => (with_reducible assumption)); (case z1len => (with_reducible assumption)); (case' z1first => intro sg9 sn9 e9 f9 n9 nt9 h9 tk9 t9 hs9 hr9 hl9 F9 N9; have mk9 : InIn := InIn.mk); (case' z1done => intro tt9 ys9 f9 c9 u9 sg9 sn9 e9 g9 n9 nt9 h9 tk9 htl9 hw9 hs9 hn9 hl9 F9 hu9 N9; (have F8 := fr_pick F9 hu9); clear hu9 F9))) | ((with_reducible show wpAny _ _ (inplaceOp .Add (Value.str _ _) (Value.str _ _)) _ _ _); k_here; (first | ((with_reducible show wpAny _ _ (inplaceOp _ (Value.str (Str.ofString "") _) _) _ _ _); k_dflt (refine add_e ?_; intro t9 k9)) | k_dflt (refine' iadd_tx (by with_reducible assumption) ?_; intro t9 k9))) | ((with_reducible show wpAny _ _ (compareOp .Eq (Value.str _ _) (Value.str _ _)) _ _ _); k_here; first | ((with_reducible show wpAny _ _ (compareOp _ _ (Value.str (Str.ofString "\"") _)) _ _ _); k_dflt (refine eq_q (by with_reducible assumption) ?_)) | ((with_reducible show wpAny _ _ (compareOp _ _ (Value.str (Str.ofString "\\") _)) _ _ _); k_dflt (refine eq_b (by with_reducible assumption) ?_))) | ((with_reducible show wpAny _ _ (compareOp .In (Value.str _ _) (Value.str _ _)) _ _ _); k_here; k_dflt (first | (refine in_no (by with_reducible assumption) ?_) | (refine in_yes (by with_reducible assumption) ?_))) | ((with_reducible show wpAny _ _ (truthy (Value.ref _)) _ _ _); k_here; k_dflt (refine' truthy_empty (by k_asm) (by k_mem) ?_)) | ((with_reducible show wpAny _ _ (exec (Stmt.For _ _ _ _ _) _) _ _ _); k_here; k_dflt (refine wpAny_For ?_)) | ((with_reducible show wpAny _ _ (exec (Stmt.For _ _ _ _ _) _) _ _ _); k_here; k_dflt (refine wpAny_For ?_)) | ((with_reducible show wpAny _ _ (exec (Stmt.For _ _ _ _ _) _) _ _ _); k_here; k_dflt (refine wpAny_For ?_)) | ((with_reducible show wpAny _ _ (exec (Stmt.For _ _ _ _ _) _) _ _ _); k_here; k_dflt (refine wpAny_For ?_)) | ((with_reducible show wpAny _ _ (call (Value.builtin "iter") _ _) _ _ _); k_here; k_dflt (refine' iter_two (by k_asm) (by k_asm) (by k_mem) ?_; intro I9 h9 F9 N9 l9; (try k_lt l9); (replace N9 := news_perm N9))) | walk1)) | (leave1; (try dsimp only)) | fail "no step")
  all_goals (try dsimp only)
  all_goals (try (refine rend_ret ?_; (try dsimp only)))
  all_goals (try (refine oend_ret ?_; (try dsimp only); repeat' (first | (k_unfold; (try dsimp only)) | ((with_reducible show wpAny _ _ (pyIter (Value.ref _)) _ _ _); k_here; (with_reducible rename InIn => mk8); (k_dflt ((refine' inner_loop _ ⟨_, _, _, _, _, _, _, _, _⟩ ?z0jhx ?z0jhp ?z0jhE ?z0jB ?z0jX ?z0jT ?z0jhk ?z0jhL ?z0jhd ?z0jhu ?z0jWf ?z0jZ ?z0jF ?z0jhm ?z0jN ?z0jhj ?z0jhpl ?z0jhtl ?z0jhwl ?z0jplain ?z0jws ?z0jdone); (case z0jhx => (exact rfl)); (case z0jhp => (exact rfl)); (case z0jhE => (with_unfolding_all passes_own)); (case z0jB => (k_asm)); (case z0jX => (k_asm)); (case z0jT => (k_asm)); (case z0jhk => (first | exact rfl | assumption)); (case z0jhL => (first | with_reducible assumption | exact lt_frm (by k_asm) (by k_asm) (by with_reducible assumption))); (case z0jhd => (ktr_room)); (case z0jhu => (ktr_units)); (case z0jWf => (with_reducible assumption)); (case z0jF => (k_asm)); (case z0jhm => (exact rfl)); (case z0jN => (k_asm)); (case z0jZ => (refine Apart.mk ?_ ?_ ?_ ?_ ?_ ?_ ?_ ?_ ?_ ?_ ?_ ?_ ?_ ?_ <;> first | with_reducible assumption | exact off_gt (by with_reducible assumption) | k_ne)); (case z0jhj => (exact tj_start (by with_reducible assumption) (by with_reducible assumption) (by with_reducible assumption))); (case z0jhpl => (exact (by with_reducible assumption))); (case z0jhtl => (with_reducible assumption)); (case z0jhwl => (exact wl_of (by with_reducible assumption))); (case' z0jplain => intro b9 c9 r9 sg9 sn9 e9 f9 n9 nt9 h9 tk9 t9 hrm9 hp9 hl9 F9 N9); (case' z0jws => intro c9 r9 tt9 ys9 sg9 sn9 e9 f9 n9 nt9 h9 tk9 t9 htl9 hw9 hs9 hn9 hl9 F9 N9); (case' z0jdone => intro tt9 ys9 f9 c9 u9 sg9 sn9 e9 g9 n9 nt9 h9 tk9 htl9 hw9 hs9 hn9 hl9 F9 hu9 N9; (have F8 := fr_pick F9 hu9); clear hu9 F9)))) | ((with_reducible show wpAny _ _ (pyIter (Value.ref _)) _ _ _); k_here; k_dflt (refine' outer_loop _ _ _ _ ?z1hx ?z1hp ?z1hE ?z1B ?z1X ?z1T ?z1hk ?z1hL ?z1hd ?z1hu ?z1Wf ?z1Z ?z1F ?z1N ?z1sg ?z1sn ?z1len ?z1first ?z1done; (case z1hx => (exact rfl)); (case z1hp => (exact rfl)); (case z1hE => (with_unfolding_all passes_own)); (case z1B => (k_asm)); (case z1X => (k_asm)); (case z1T => (k_asm)); (case z1hk => (first | exact rfl | assumption)); (case z1hL => (first | with_reducible assumption | exact lt_frm (by k_asm) (by k_asm) (by with_reducible assumption))); (case z1hd => (ktr_room)); (case z1hu => (ktr_units)); (case z1Wf => (with_reducible assumption)); (case z1F => (k_asm)); (case z1N => (k_asm)); (case z1Z => (refine Apart.mk ?_ ?_ ?_ ?_ ?_ ?_ ?_ ?_ ?_ ?_ ?_ ?_ ?_ ?_ <;> first | with_reducible assumption | exact off_gt (by with_reducible assumption) | k_ne)); (case z1sg => (with_reducible assumption)); (case z1sn => (with_reducible assumption)); (case z1len => (with_reducible assumption)); (case' z1first => intro sg9 sn9 e9 f9 n9 nt9 h9 tk9 t9 hs9 hr9 hl9 F9 N9; have mk9 : InIn := InIn.mk); (case' z1done => intro tt9 ys9 f9 c9 u9 sg9 sn9 e9 g9 n9 nt9 h9 tk9 htl9 hw9 hs9 hn9 hl9 F9 hu9 N9; (have F8 := fr_pick F9 hu9); clear hu9 F9))) | ((with_reducible show wpAny _ _ (inplaceOp .Add (Value.str _ _) (Value.str _ _)) _ _ _); k_here; (first | ((with_reducible show wpAny _ _ (inplaceOp _ (Value.str (Str.ofString "") _) _) _ _ _); k_dflt (refine add_e ?_; intro t9 k9)) | k_dflt (refine' iadd_tx (by with_reducible assumption) ?_; intro t9 k9))) | ((with_reducible show wpAny _ _ (compareOp .Eq (Value.str _ _) (Value.str _ _)) _ _ _); k_here; first | ((with_reducible show wpAny _ _ (compareOp _ _ (Value.str (Str.ofString "\"") _)) _ _ _); k_dflt (refine eq_q (by with_reducible assumption) ?_)) | ((with_reducible show wpAny _ _ (compareOp _ _ (Value.str (Str.ofString "\\") _)) _ _ _); k_dflt (refine eq_b (by with_reducible assumption) ?_))) | ((with_reducible show wpAny _ _ (compareOp .In (Value.str _ _) (Value.str _ _)) _ _ _); k_here; k_dflt (first | (refine in_no (by with_reducible assumption) ?_) | (refine in_yes (by with_reducible assumption) ?_))) | ((with_reducible show wpAny _ _ (truthy (Value.ref _)) _ _ _); k_here; k_dflt (refine' truthy_empty (by k_asm) (by k_mem) ?_)) | ((with_reducible show wpAny _ _ (exec (Stmt.For _ _ _ _ _) _) _ _ _); k_here; k_dflt (refine wpAny_For ?_)) | ((with_reducible show wpAny _ _ (exec (Stmt.For _ _ _ _ _) _) _ _ _); k_here; k_dflt (refine wpAny_For ?_)) | ((with_reducible show wpAny _ _ (exec (Stmt.For _ _ _ _ _) _) _ _ _); k_here; k_dflt (refine wpAny_For ?_)) | ((with_reducible show wpAny _ _ (exec (Stmt.For _ _ _ _ _) _) _ _ _); k_here; k_dflt (refine wpAny_For ?_)) | ((with_reducible show wpAny _ _ (call (Value.builtin "iter") _ _) _ _ _); k_here; k_dflt (refine' iter_two (by k_asm) (by k_asm) (by k_mem) ?_; intro I9 h9 F9 N9 l9; (try k_lt l9); (replace N9 := news_perm N9))) | (k_end; kc_close) | walk1 | (dsimp only; (first | ((with_reducible show wpAny _ _ (pyIter (Value.ref _)) _ _ _); k_here; (with_reducible rename InIn => mk8); (k_dflt ((refine' inner_loop _ ⟨_, _, _, _, _, _, _, _, _⟩ ?z0jhx ?z0jhp ?z0jhE ?z0jB ?z0jX ?z0jT ?z0jhk ?z0jhL ?z0jhd ?z0jhu ?z0jWf ?z0jZ ?z0jF ?z0jhm ?z0jN ?z0jhj ?z0jhpl ?z0jhtl ?z0jhwl ?z0jplain ?z0jws ?z0jdone); (case z0jhx => (exact rfl)); (case z0jhp => (exact rfl)); (case z0jhE => (with_unfolding_all passes_own)); (case z0jB => (k_asm)); (case z0jX => (k_asm)); (case z0jT => (k_asm)); (case z0jhk => (first | exact rfl | assumption)); (case z0jhL => (first | with_reducible assumption | exact lt_frm (by k_asm) (by k_asm) (by with_reducible assumption))); (case z0jhd => (ktr_room)); (case z0jhu => (ktr_units)); (case z0jWf => (with_reducible assumption)); (case z0jF => (k_asm)); (case z0jhm => (exact rfl)); (case z0jN => (k_asm)); (case z0jZ => (refine Apart.mk ?_ ?_ ?_ ?_ ?_ ?_ ?_ ?_ ?_ ?_ ?_ ?_ ?_ ?_ <;> first | with_reducible assumption | exact off_gt (by with_reducible assumption) | k_ne)); (case z0jhj => (exact tj_start (by with_reducible assumption) (by with_reducible assumption) (by with_reducible assumption))); (case z0jhpl => (exact (by with_reducible assumption))); (case z0jhtl => (with_reducible assumption)); (case z0jhwl => (exact wl_of (by with_reducible assumption))); (case' z0jplain => intro b9 c9 r9 sg9 sn9 e9 f9 n9 nt9 h9 tk9 t9 hrm9 hp9 hl9 F9 N9); (case' z0jws => intro c9 r9 tt9 ys9 sg9 sn9 e9 f9 n9 nt9 h9 tk9 t9 htl9 hw9 hs9 hn9 hl9 F9 N9); (case' z0jdone => intro tt9 ys9 f9 c9 u9 sg9 sn9 e9 g9 n9 nt9 h9 tk9 htl9 hw9 hs9 hn9 hl9 F9 hu9 N9; (have F8 := fr_pick F9 hu9); clear hu9 F9)))) | ((with_reducible show wpAny _ _ (pyIter (Value.ref _)) _ _ _); k_here; k_dflt (refine' outer_loop _ _ _ _ ?z1hx ?z1hp ?z1hE ?z1B ?z1X ?z1T ?z1hk ?z1hL ?z1hd ?z1hu ?z1Wf ?z1Z ?z1F ?z1N ?z1sg ?z1sn ?z1len ?z1first ?z1done; (case z1hx => (exact rfl)); (case z1hp => (exact rfl)); (case z1hE => (with_unfolding_all passes_own)); (case z1B => (k_asm)); (case z1X => (k_asm)); (case z1T => (k_asm)); (case z1hk => (first | exact rfl | assumption)); (case z1hL => (first | with_reducible assumption | exact lt_frm (by k_asm) (by k_asm) (by with_reducible assumption))); (case z1hd => (ktr_room)); (case z1hu => (ktr_units)); (case z1Wf => (with_reducible assumption)); (case z1F => (k_asm)); (case z1N => (k_asm)); (case z1Z => (refine Apart.mk ?_ ?_ ?_ ?_ ?_ ?_ ?_ ?_ ?_ ?_ ?_ ?_ ?_ ?_ <;> first | with_reducible assumption | exact off_gt (by with_reducible assumption) | k_ne)); (case z1sg => (with_reducible assumption)); (case z1sn => (with_reducible assumption)); (case z1len => (with_reducible assumption)); (case' z1first => intro sg9 sn9 e9 f9 n9 nt9 h9 tk9 t9 hs9 hr9 hl9 F9 N9; have mk9 : InIn := InIn.mk); (case' z1done => intro tt9 ys9 f9 c9 u9 sg9 sn9 e9 g9 n9 nt9 h9 tk9 htl9 hw9 hs9 hn9 hl9 F9 hu9 N9; (have F8 := fr_pick F9 hu9); clear hu9 F9))) | ((with_reducible show wpAny _ _ (inplaceOp .Add (Value.str _ _) (Value.str _ _)) _ _ _); k_here; (first | ((with_reducible show wpAny _ _ (inplaceOp _ (Value.str (Str.ofString "") _) _) _ _ _); k_dflt (refine add_e ?_; intro t9 k9)) | k_dflt (refine' iadd_tx (by with_reducible assumption) ?_; intro t9 k9))) | ((with_reducible show wpAny _ _ (compareOp .Eq (Value.str _ _) (Value.str _ _)) _ _ _); k_here; first | ((with_reducible show wpAny _ _ (compareOp _ _ (Value.str (Str.ofString "\"") _)) _ _ _); k_dflt (refine eq_q (by with_reducible assumption) ?_)) | ((with_reducible show wpAny _ _ (compareOp _ _ (Value.str (Str.ofString "\\") _)) _ _ _); k_dflt (refine eq_b (by with_reducible assumption) ?_))) | ((with_reducible show wpAny _ _ (compareOp .In (Value.str _ _) (Value.str _ _)) _ _ _); k_here; k_dflt (first | (refine in_no (by with_reducible assumption) ?_) | (refine in_yes (by with_reducible assumption) ?_))) | ((with_reducible show wpAny _ _ (truthy (Value.ref _)) _ _ _); k_here; k_dflt (refine' truthy_empty (by k_asm) (by k_mem) ?_)) | ((with_reducible show wpAny _ _ (exec (Stmt.For _ _ _ _ _) _) _ _ _); k_here; k_dflt (refine wpAny_For ?_)) | ((with_reducible show wpAny _ _ (exec (Stmt.For _ _ _ _ _) _) _ _ _); k_here; k_dflt (refine wpAny_For ?_)) | ((with_reducible show wpAny _ _ (exec (Stmt.For _ _ _ _ _) _) _ _ _); k_here; k_dflt (refine wpAny_For ?_)) | ((with_reducible show wpAny _ _ (exec (Stmt.For _ _ _ _ _) _) _ _ _); k_here; k_dflt (refine wpAny_For ?_)) | ((with_reducible show wpAny _ _ (call (Value.builtin "iter") _ _) _ _ _); k_here; k_dflt (refine' iter_two (by k_asm) (by k_asm) (by k_mem) ?_; intro I9 h9 F9 N9 l9; (try k_lt l9); (replace N9 := news_perm N9))) | walk1)) | (leave1; (try dsimp only)) | fail "no step")))
  all_goals first
    | (refine' pend_next ?eF ?eh ?eN; (case eF => (k_asm)); (case eh => (exact tok_back)); (case eN => (k_asm)))
    | (refine' oend_next ?oa ?ob ?oc ?od ?oe ?oF ?oh ?oN; (case oa => (with_reducible assumption)); (case ob => (assumption)); (case oc => (with_reducible assumption)); (case od => (with_reducible assumption)); (case oe => (with_reducible assumption)); (case oF => (k_asm)); (case oh => (exact tok_back2)); (case oN => (k_asm)))
    | (refine' hret _ _ _ _ _ _ _ _ _ _ _ _ ?g1 ?g2 ?g3 ?g4 ?gF ?gN; (case g1 => (exact .inl (by with_reducible assumption))); (case gF => (k_asm)); (case gN => (exact news_drop2 (by k_asm))); (case g3 => (with_reducible assumption)); (case g2 => (with_reducible assumption)); (case g4 => (with_reducible assumption)))
    | (refine' hret _ [] _ _ _ _ _ _ _ _ _ _ ?g1 ?g2 ?g3 ?g4 ?gF ?gN; (case g1 => (exact .inr ⟨by with_reducible assumption, rfl, _, by assumption⟩)); (case gF => (k_asm)); (case gN => (exact news_drop2 (by k_asm))); (case g3 => (with_reducible assumption)); (case g2 => (exact (show StrsAre _ [] from by with_reducible assumption))); (case g4 => (exact len_nil0 (by with_reducible assumption))))
    | (fail "x")
end
/-! FrontS -/
section

/-- the signs behind a word -/
noncomputable def ftl : List (List Nat) → List Nat → List Nat
  | [], t => t
  | q :: r, t => 46 :: (q ++ ftl r t)
/-- a word that the lexer reads whole -/
noncomputable def Wd (p : List Nat) : Prop := p ≠ [] ∧ ∀ c ∈ p, Plain c
theorem ftl_ws {r : List (List Nat)} {t : List Nat} (ht : TailOk t) : ∀ c u, ftl r t = c :: u → Ws c := by
  intro c u h
  cases r with
  | nil =>
    rcases ht with rfl | ⟨c', r', rfl, hc⟩
    · cases h
    · cases h
      rcases hc with rfl | rfl
      · exact .inr (.inl rfl)
      · exact .inr (.inr rfl)
  | cons q r => cases h; exact .inl rfl
structure FSt where
  rs : List (List Nat)
  sg : List Value
  sn : List Value
  its : List Value
  e1 : Nat
  e2 : Nat
  e3 : Nat
  n9 : Int
  nt9 : Tok
  c : Nat
  ys : List Str
noncomputable def FJ (full : List (List Nat)) (t9 : List Nat) (n : Nat) (a : FSt) : Prop :=
  n = a.rs.length ∧ (∃ dn, dn ++ a.rs = full ∧ StrsAre a.its (dn.map tx)) ∧ StrsAre a.sn (a.ys ++ [tx [a.c]]) ∧
    ((a.c = 46 ∧ ∃ q r u, a.rs = q :: r ∧ u = q ++ ftl r t9 ∧ StrsAre a.sg (u.map (fun c => tx [c])) ∧ a.sn.length + u.length ≤ 1000) ∨ (a.c ≠ 46 ∧ a.rs = [] ∧ StrsAre a.sg ((t9.drop 1).map (fun c => tx [c])) ∧ a.sn.length + (t9.drop 1).length ≤ 1000))
theorem ftl_case {rs : List (List Nat)} {t9 wd r' : List Nat} {c : Nat} (ht : TailOk t9) (hw : Wd wd) (h : ftl rs t9 = c :: r' ∨ (ftl rs t9 = [] ∧ r' = [] ∧ ∃ f, wd = f ++ [c])) :
    (c = 46 ∧ ∃ q r, rs = q :: r ∧ r' = q ++ ftl r t9) ∨ (c ≠ 46 ∧ rs = [] ∧ r' = t9.drop 1) := by
  rcases h with h | ⟨h1, h2, f, h3⟩
  · cases rs with
    | nil =>
      right
      have h : t9 = c :: r' := h
      rcases ht with rfl | ⟨c', u, rfl, hc⟩
      · cases h
      · cases h
        exact ⟨by omega, rfl, rfl⟩
    | cons q r => cases h; exact .inl ⟨rfl, q, r, rfl, rfl⟩
  · cases rs with
    | nil =>
      right
      have h1 : t9 = [] := h1
      subst h1 h2
      refine ⟨?_, rfl, rfl⟩
      exact (hw.2 c (by rw [h3]; simp)).1
    | cons q r => cases h1
/-- the state behind a token -/
theorem fj_tok {full dn rs : List (List Nat)} {t9 wd r' : List Nat} {c : Nat} {ys : List Str} {sg sn its : List Value} {e1 e2 e3 : Nat} {n9 : Int} {nt9 : Tok} {x : Value} {xt : Tok} (ht : TailOk t9) (hw : Wd wd) (hf : dn ++ wd :: rs = full) (hi : StrsAre its (dn.map tx)) (hx : x = .str (tx wd) xt)
    (h : ftl rs t9 = c :: r' ∨ (ftl rs t9 = [] ∧ r' = [] ∧ ∃ f, wd = f ++ [c])) (hs : StrsAre sg (r'.map (fun c => tx [c]))) (hn : StrsAre sn (ys ++ [tx [c]])) (hl : sn.length + r'.length ≤ 1000) :
    FJ full t9 rs.length ⟨rs, sg, sn, its ++ [x], e1, e2, e3, n9, nt9, c, ys⟩ := by
  refine ⟨rfl, ⟨dn ++ [wd], by simp [hf], ?_⟩, hn, ?_⟩
  · subst hx
    rw [List.map_append]
    exact strs_app hi (.cons _ _ .nil)
  · rcases ftl_case ht hw h with ⟨h1, q, r, h2, h3⟩ | ⟨h1, h2, h3⟩
    · exact .inl ⟨h1, q, r, r', h2, h3, hs, hl⟩
    · subst h3
      exact .inr ⟨h1, h2, hs, hl⟩
theorem wd_cons {p : List Nat} (h : Wd p) : ∃ c wd, p = c :: wd ∧ Plain c ∧ ∀ e ∈ wd, Plain e := by
  cases p with
  | nil => exact absurd rfl h.1
  | cons c wd => exact ⟨c, wd, rfl, h.2 c (.head _), fun e he => h.2 e (.tail _ he)⟩
section
variable {prog : Program} {w : World} {A : Around} {E : Value → Shared → Prop} {s : Shared} {env : Env} {test : Expr} {body orelse : List Stmt} {Q : Flow → Shared → Prop} {h₀ : Heap} {R : List (Addr × Obj)} {m₀ : Str → Option Value} {ls ln d wl S P : Addr} {k1 k2 k3 k4 k5 : Tok}
theorem front_loop {k n₀ : Nat} (full : List (List Nat)) (t9 : List Nat) (b₀ : FSt) (hE : PassesOwn (model prog w) A env E) (F : Fr h₀ env.locals s.heap m₀) (N : News h₀ env.locals s.heap ((ls, W.listOf (List.toArray b₀.sg) b₀.e1) :: (ln, W.listOf (List.toArray b₀.sn) b₀.e2) :: (d, lexObj w k1 k2 k3 k4 k5 b₀.nt9 b₀.n9 S P) :: (wl, W.listOf (List.toArray b₀.its) b₀.e3) :: R)) (hj : FJ full t9 n₀ b₀) (ht : TailOk t9) (hf : ∀ p ∈ full, Wd p) (hfl : full.length ≤ 1000)
    (turn : ∀ (a : FSt) (c₀ : Nat) (wd : List Nat) (rs dn : List (List Nat)) n h tk dr, a.rs = (c₀ :: wd) :: rs → n = rs.length + 1 → dn ++ (c₀ :: wd) :: rs = full → Wd (c₀ :: wd) → StrsAre a.its (dn.map tx) → a.its.length ≤ 1000 → StrsAre a.sn (a.ys ++ [tx [46]]) → StrsAre a.sg ((c₀ :: wd ++ ftl rs t9).map (fun c => tx [c])) → a.sn.length + (c₀ :: wd ++ ftl rs t9).length ≤ 1000 → Plain c₀ → (∀ c ∈ wd, Plain c) → (∀ c r, ftl rs t9 = c :: r → Ws c) →
      Fr h₀ env.locals h m₀ → News h₀ env.locals h ((ls, W.listOf (List.toArray a.sg) a.e1) :: (ln, W.listOf (List.toArray a.sn) a.e2) :: (d, lexObj w k1 k2 k3 k4 k5 a.nt9 a.n9 S P) :: (wl, W.listOf (List.toArray a.its) a.e3) :: R) →
      wpAny (model prog w) A (isTrue test env (eval test env)) (fun b s₂ => WhlIf b (wpAny (model prog w) A (execs body env) (WEnd h₀ env.locals (fun (_ : FSt) => m₀) (fun a => (ls, W.listOf (List.toArray a.sg) a.e1) :: (ln, W.listOf (List.toArray a.sn) a.e2) :: (d, lexObj w k1 k2 k3 k4 k5 a.nt9 a.n9 S P) :: (wl, W.listOf (List.toArray a.its) a.e3) :: R) (FJ full t9) s Q n) E s₂) (wpAny (model prog w) A (execs orelse env) Q E s₂)) E { s with heap := h, toks := tk, drawn := dr })
    (done : ∀ (a : FSt) n h tk dr, a.c ≠ 46 → StrsAre a.its (full.map tx) → StrsAre a.sn (a.ys ++ [tx [a.c]]) → StrsAre a.sg ((t9.drop 1).map (fun c => tx [c])) → (t9.drop 1).length ≤ 1000 →
      Fr h₀ env.locals h m₀ → News h₀ env.locals h ((ls, W.listOf (List.toArray a.sg) a.e1) :: (ln, W.listOf (List.toArray a.sn) a.e2) :: (d, lexObj w k1 k2 k3 k4 k5 a.nt9 a.n9 S P) :: (wl, W.listOf (List.toArray a.its) a.e3) :: R) →
      wpAny (model prog w) A (isTrue test env (eval test env)) (fun b s₂ => WhlIf b (wpAny (model prog w) A (execs body env) (WEnd h₀ env.locals (fun (_ : FSt) => m₀) (fun a => (ls, W.listOf (List.toArray a.sg) a.e1) :: (ln, W.listOf (List.toArray a.sn) a.e2) :: (d, lexObj w k1 k2 k3 k4 k5 a.nt9 a.n9 S P) :: (wl, W.listOf (List.toArray a.its) a.e3) :: R) (FJ full t9) s Q n) E s₂) (wpAny (model prog w) A (execs orelse env) Q E s₂)) E { s with heap := h, toks := tk, drawn := dr }) :
    WhlRest prog w A E env test body orelse Q k s := by
  refine whl_over (h₀ := h₀) (L := env.locals) (fun (_ : FSt) => m₀) (fun a => (ls, W.listOf (List.toArray a.sg) a.e1) :: (ln, W.listOf (List.toArray a.sn) a.e2) :: (d, lexObj w k1 k2 k3 k4 k5 a.nt9 a.n9 S P) :: (wl, W.listOf (List.toArray a.its) a.e3) :: R) (FJ full t9) b₀ n₀ hE F N hj ?_
  intro n a h tk dr hJ F' N'
  obtain ⟨hn, ⟨dn, hd, hi⟩, hsn, hc⟩ := id hJ
  rcases hc with ⟨hc, q, r, u, hrs, hu, hsg, hl⟩ | ⟨hc, hrs, hsg, hl⟩
  · have hw : Wd q := hf q (by rw [← hd, hrs]; simp)
    obtain ⟨c₀, wd, rfl, hp, hpw⟩ := wd_cons hw
    subst hu
    rw [hc] at hsn
    have hlen : a.its.length ≤ 1000 := by
      have h1 := strs_len hi
      have h2 := congrArg List.length hd
      rw [List.length_map] at h1
      rw [List.length_append] at h2
      omega
    exact turn a c₀ wd r dn n h tk dr hrs (by rw [hn, hrs]; rfl) (by rw [← hd, hrs]) hw hi hlen hsn hsg hl hp hpw (ftl_ws ht) F' N'
  · rw [hrs, List.append_nil] at hd
    subst hd
    exact done a n h tk dr hc hi hsn hsg (by omega) F' N'
end
section
variable {prog : Program} {w : World} {A : Around} {E : Value → Shared → Prop} {s : Shared}
theorem strs_last {vs : List Value} {y : Str} : ∀ {xs : List Str}, StrsAre vs (xs ++ [y]) → ∃ vs' t, vs = vs' ++ [.str y t]
  | [], h => by
    cases h with
    | cons _ t r => cases r; exact ⟨[], t, rfl⟩
  | x :: xs, h => by
    cases h with
    | cons _ t r =>
      obtain ⟨vs', t', rfl⟩ := strs_last r
      exact ⟨_ :: vs', t', rfl⟩
theorem last_str {D : Addr} {sn : List Value} {ys : List Str} {y : Str} {u : Tok} {value slice : Expr} {Q : Value → Shared → Prop} (hl : s.heap.IsList D sn.toArray) (hS : StrsAre sn (ys ++ [y])) (h : ∀ t, Q (.str y t) s)
    (hb : subscripted slice false (.ref D) (.int (-1) u) = operate [.ref D, .int (-1) u] (getItem (.ref D) (.int (-1) u)) := by with_unfolding_all rfl) :
    wpAny (model prog w) A (subscriptTail value slice (.ref D) (.int (-1) u)) Q E s := by
  obtain ⟨vs', t, rfl⟩ := strs_last hS
  exact it_end hl (h t) hb
theorem dot_str : Str.ofString "." = tx [46] := by decide +kernel
theorem eq_dot1 {t u : Tok} {Q : Value → Shared → Prop} (h : Q (.bool true) s) : wpAny (model prog w) A (compareOp .Eq (.str (tx [46]) t) (.str (Str.ofString ".") u)) Q E s := by
  refine PyProof.Rows.eq_str ?_
  rw [dot_str, beq_self_eq_true]
  exact h
theorem eq_dot0 {c : Nat} {t u : Tok} {Q : Value → Shared → Prop} (hc : c ≠ 46) (h : Q (.bool false) s) : wpAny (model prog w) A (compareOp .Eq (.str (tx [c]) t) (.str (Str.ofString ".") u)) Q E s := by
  refine PyProof.Rows.eq_str ?_
  rw [dot_str, beq_false_of_ne fun q => hc (tx_one_inj q)]
  exact h
theorem join_is (x : Str) (ys : List Str) : Txt.join x ys = Str.join x ys := by first | rfl | exact (StrLaws.glued_eq_join x ys)
theorem join_signs_eq : ∀ l : List Nat, Str.join (Str.ofString "") (l.map (fun c => tx [c])) = tx l
  | [] => by show Str.empty = tx []; rfl
  | [c] => rfl
  | c :: e :: l => by
    have ih := join_signs_eq (e :: l)
    show tx [c] ++ Str.ofString "" ++ Str.join (Str.ofString "") ((e :: l).map (fun c => tx [c])) = _
    rw [ih, empty_is, tx_app, tx_app]
    rfl
theorem sum_one : ∀ l : List Nat, ((l.map (fun c => tx [c])).map (·.length)).sum = l.length
  | [] => rfl
  | c :: l => by
    rw [List.map_cons, List.map_cons, List.sum_cons, sum_one l, List.length_cons, tx_len]
    show 1 + _ = _
    omega
theorem join_signs {D : Addr} {sg : List Value} {l : List Nat} {t : Tok} {Q : Value → Shared → Prop} (hl : s.heap.IsList D sg.toArray) (hS : StrsAre sg (l.map (fun c => tx [c]))) (hz : l.length ≤ 1000) (h : ∀ t' k, Q (.str (tx l) t') { s with toks := k }) :
    wpAny (model prog w) A (call (.builtin "str.join") [.str (Str.ofString "") t, .ref D]) Q E s := by
  refine join_listW hl hS (by decide +kernel) ?_ fun t' k => ?_
  · rw [sum_one, List.length_map]; omega
  · rw [join_is, join_signs_eq]; exact h t' k
/-- the name, from the front -/
noncomputable def nm : List (List Nat) → List Nat
  | [] => []
  | p :: r => p ++ ftl r []
theorem ftl_app (r : List (List Nat)) (t : List Nat) : ftl r [] ++ t = ftl r t := by
  induction r with
  | nil => rfl
  | cons q r ih => show 46 :: (q ++ ftl r []) ++ t = 46 :: (q ++ ftl r t); rw [← ih]; simp
theorem join_dots_eq : ∀ ps : List (List Nat), Str.join (Str.ofString ".") (ps.map tx) = tx (nm ps)
  | [] => rfl
  | [p] => by show tx p = tx (p ++ []); rw [List.append_nil]
  | p :: q :: r => by
    have ih := join_dots_eq (q :: r)
    show tx p ++ Str.ofString "." ++ Str.join (Str.ofString ".") ((q :: r).map tx) = _
    rw [ih, dot_str, tx_app, tx_app]
    show tx (p ++ [46] ++ (q ++ ftl r [])) = tx (p ++ 46 :: (q ++ ftl r []))
    simp
theorem sum_tx : ∀ ps : List (List Nat), ((ps.map tx).map (·.length)).sum = (ps.map List.length).sum
  | [] => rfl
  | p :: r => by
    rw [List.map_cons, List.map_cons, List.sum_cons, sum_tx r, tx_len, List.map_cons, List.sum_cons]
theorem join_dots {D : Addr} {vs : List Value} {ps : List (List Nat)} {t : Tok} {Q : Value → Shared → Prop} (hl : s.heap.IsList D vs.toArray) (hS : StrsAre vs (ps.map tx)) (hz : (ps.map List.length).sum + ps.length ≤ 1000) (h : ∀ t' k, Q (.str (tx (nm ps)) t') { s with toks := k }) :
    wpAny (model prog w) A (call (.builtin "str.join") [.str (Str.ofString ".") t, .ref D]) Q E s := by
  refine join_listW hl hS (by decide +kernel) ?_ fun t' k => ?_
  · rw [sum_tx, List.length_map]; omega
  · rw [join_is, join_dots_eq]; exact h t' k
end

theorem app_wl {prog : Program} {w : World} {A : Around} {E : Value → Shared → Prop} {s : Shared} {h₀ : Heap} {L : Addr} {m : Str → Option Value} {a b c : Addr × Obj} {wl : Addr} {its : List Value} {e : Nat} {R : List (Addr × Obj)} {x : Value} {Q : Value → Shared → Prop} (F : Fr h₀ L s.heap m) (N : News h₀ L s.heap (a :: b :: c :: (wl, W.listOf (List.toArray its) e) :: R)) (h1 : a.1 ≠ wl) (h2 : b.1 ≠ wl) (h3 : c.1 ≠ wl) (ho : ∀ p ∈ R, p.1 ≠ wl) (hz : its.length ≤ 1000)
    (h : ∀ h', Fr h₀ L h' m → News h₀ L h' (a :: b :: c :: (wl, W.listOf (List.toArray (its ++ [x])) (e + 1)) :: R) → Q .none { s with heap := h' }) : wpAny (model prog w) A (call (.builtin "list.append") [.ref wl, x]) Q E s := by
  refine append_K F N (.tail h1 (.tail h2 (.tail h3 (.head ho)))) (fun h' F' N' => h h' F' ?_) (Nat.le_trans (by rw [List.size_toArray]; exact hz) (by decide))
  have e1 : its.toArray.push x = (its ++ [x]).toArray := by simp
  rw [e1] at N'
  exact N'
theorem news_wl {h₀ h : Heap} {L : Addr} {a b c v : Addr × Obj} {R : List (Addr × Obj)} (N : News h₀ L h (v :: a :: b :: c :: R)) : News h₀ L h (a :: b :: c :: v :: R) := news_sub N fun p hp => by
  simp only [List.mem_cons] at hp ⊢
  rcases hp with h | h | h | h | h <;> simp [h]
theorem tok_have {prog : Program} {w : World} {p : Program} {loose : List Str} {mean : ExcName → Option Value} {mg mb : Str → Option Value} {base h₀ h : Heap} {L : Addr} {P x d D S c1 f c2 ln ls ob oa : Addr × Obj} {R : List (Addr × Obj)} {α : Type} {A : Around} {tr : Sem α} {Q : α → Shared → Prop} {E : Value → Shared → Prop} {s : Shared}
    (N : News h₀ L h (P :: x :: d :: D :: S :: c1 :: f :: c2 :: ln :: ls :: ob :: oa :: R)) (_T : Top p loose mean mg mb h₀)
    (Wf : FW prog w p loose mean mg mb base ls.1 ln.1 d.1 x.1 S.1 P.1 (P :: x :: D :: S :: c1 :: f :: c2 :: ob :: oa :: R))
    (k : FW prog w p loose mean mg mb base ls.1 ln.1 d.1 x.1 S.1 P.1 (P :: x :: D :: S :: c1 :: f :: c2 :: ob :: oa :: R) → News h₀ L h (ls :: ln :: d :: P :: x :: D :: S :: c1 :: f :: c2 :: ob :: oa :: R) → wpAny (model prog w) A tr Q E s) : wpAny (model prog w) A tr Q E s :=
  k Wf (news_sub N fun p hp => by
    simp only [List.mem_cons] at hp ⊢
    rcases hp with h | h | h | h | h | h | h | h | h | h | h | h | h <;> simp [h])
theorem whl_no {T F : Prop} (h : F) : WhlIf false T F := .no rfl h
theorem whl_yes {T F : Prop} (h : T) : WhlIf true T F := .yes rfl h
end
/-! C_front -/
section

inductive MarkRd : Prop where | mk
theorem len_zero {xs : List Str} (h : (xs.length : Int) = 0) : xs = [] := List.length_eq_zero_iff.mp (by omega)
theorem strs_snoc {vs : List Value} {xs : List Str} (h : StrsAre vs xs) (x : Str) (t : Tok) : StrsAre (vs ++ [.str x t]) (xs ++ [x]) := strs_app h (.cons x t .nil)
local macro_rules | `(tactic| k_mem) => `(tactic| (with_reducible rename MarkRd => mk8; first | with_reducible assumption | (refine List.mem_cons_of_mem _ ?_; with_reducible assumption) | (refine List.mem_cons_of_mem _ (List.mem_cons_of_mem _ ?_); with_reducible assumption) | exact List.Mem.head _ | (refine' List.Mem.tail _ ?_; k_mem)))
local macro_rules | `(tactic| kn_enter) => `(tactic| (with_reducible rename MarkRd => mk8; (refine' code_nest ?k1 ?k2 ?k3 ?k4 ?k5 ?kA ?kF ?kK ?k6 ?k7 ?k8 ?k9 ?kB ?_ ?c2 ?c3 ?c4 ?c5); (case kA => (exact rfl)); (case kF => (exact rfl)); (case kK => (first | exact rfl | assumption | (fail "x"))); (case k1 => (k_asm)); (case k2 => (k_asm)); (case k3 => (k_asm)); (case k4 => (k_asm)); (case k5 => (k_asm)); (case k6 => (k_mem)); (case k7 => (exact codeRec_news (by k_asm) (by k_mem) (by assumption) (by assumption))); (case k8 => (k_room)); (case k9 => (exact BindsTo.of_eq rfl)); (case c5 => (decide)); (case kB => (exact locs rfl)); (case c2 => (exact rfl)); (case c3 => (exact rfl)); (case c4 => (exact rfl)); (first | k_whole | (fail "x")); intro g' L' h' FG' F' N' B' X' T'; (try dsimp only); (try k_lift B'); (try k_fold)))
local macro_rules | `(tactic| k_all) => `(tactic| exact ne_up (by with_reducible assumption) (Nat.le_of_lt (by with_reducible assumption)))
theorem strs_nil_app {vs : List Value} {a : List (List Nat)} (h : StrsAre vs (([] ++ a).map tx)) : StrsAre vs (a.map tx) := h
theorem len_start {l l' : List Nat} (e : l = l') (h : (tx l).length ≤ 1000) : ([] : List Value).length + l'.length ≤ 1000 := by
  subst e
  rw [tx_len] at h
  show 0 + l.length ≤ 1000
  omega
theorem strs_subst {vs : List Value} {l l' : List Nat} (h : StrsAre vs (l.map (fun c => tx [c]))) (e : l = l') : StrsAre vs (l'.map (fun c => tx [c])) := e ▸ h
theorem front_c {prog : Program} {pr : Program} {loose : List Str} {mean : ExcName → Option Value} {mg mb : Str → Option Value} (w : World) : ∀ (p : List Nat) (rs : List (List Nat)) (t9 l9 : List Nat) (xt : Tok) (rest : List (Addr × Obj)) (dp un : Nat) (gd : Option (List Code)) (cn : Str) (cs : Scope) (a : Addr) (ccd : Value) (cl : List (Str × Addr)) (outer : List Env) (A₀ : Around) (base h₀ : Heap) (L : Addr) (m : Str → Option Value) (s : Shared) (Q E : Value → Shared → Prop),
    Below A₀ base outer h₀ → Fr h₀ L s.heap m → (hd.heap_1 w.params).In h₀ → News h₀ L s.heap ((148, tabObj #[]) :: rest) → Top pr loose mean mg mb h₀ → cs.kind = .function → 80 < L →
    dp + 100 < recursionLimit → un + 900 < cLine → CodeHd base 152 148 → Wd p → (∀ q ∈ rs, Wd q) → TailOk t9 → l9 = p ++ ftl rs t9 → (tx l9).length ≤ 1000 → (p :: rs).length ≤ 1000 → Off 148 rest → 
    (∀ (d wl : Addr) (its : List Value) (e : Nat) (t : Tok) (h' : Heap) (tk' : Nat) (dr : Drawn) (p148 : Array Value), StrsAre its ((p :: rs).map tx) → Fr h₀ L h' m → News h₀ L h' ((d, ({ cls := .type "tuple", data := .seq #[.ref wl, .str (tx (t9.drop 1)) t] } : Obj)) :: (wl, W.listOf its.toArray e) :: (148, tabObj p148) :: rest) → (∀ q ∈ rest, q.1 < wl) → wl < d → Q (.ref d) { s with heap := h', toks := tk', drawn := dr }) →
      wpAny (model prog w) (ktrTop dp un gd cn cs L a ccd cl outer) (call (.ref 153) [.str (tx l9) xt]) Q E s := by
  w_top off
  intro p rs t9 l9 xt rest dp un gd cn cs a ccd cl outer A₀ base h₀ L m s Q E B F X N T hk hL hd hu hC hw hws ht hl9 hx hfl hO hret
  obtain ⟨c0, wd, rfl, hp0, hpw⟩ := wd_cons hw
  refine wpAny_call ?_
  k_dflt k_enter
  repeat' (first | (k_unfold; (try dsimp only)) | ((with_reducible show wpAny _ _ (exec (Stmt.While _ _ _ _) _) _ _ _); k_here; k_dflt (refine whl_start 0 ?_); k_dflt (refine' front_loop _ _ ⟨_, _, _, [] ++ [_], _, _, _, _, _, _, _⟩ (by with_unfolding_all passes_own) (by (k_asm)) (by (exact news_wl (by k_asm))) (by (refine' fj_tok (dn := []) ?z0ua ?z0ub ?z0uc ?z0ud ?z0ue ?z0uf ?z0ug ?z0uh ?z0ui; (case z0uf => (with_reducible assumption)); (case z0ua => with_reducible assumption); (case z0ub => with_reducible assumption); (case z0ug => (with_reducible assumption)); (case z0uh => (with_reducible assumption)); (case z0ui => with_reducible assumption); (case z0ud => exact .nil); (case z0uc => exact rfl); (case z0ue => exact rfl))) (by with_reducible assumption) (by (exact List.forall_mem_cons.mpr ⟨by with_reducible assumption, by with_reducible assumption⟩)) (by (exact (by assumption : (_ :: _).length ≤ 1000))) ?_ ?_; (intro a9 c9 wd9 rs9 dn9 n9 h9 tk9 dr9 hrs9 hn9 hf9 hw9 hi9 hz9 hsn9 hsg9 hl9 hp9 hpw9 htl9 F9 N9); rotate_left; (intro a9 n9 h9 tk9 dr9 hc9 hi9 hsn9 hsg9 hz9 F9 N9); rotate_left)) | ((with_reducible show wpAny _ _ (call (Value.builtin "str.join") _ _) _ _ _); k_here; k_dflt (refine' join_signs (by exact PySem.IsL.isList (News.get (by k_asm) (by k_mem))) (by with_reducible assumption) (by with_reducible assumption) ?_; intro t9 k9)) | ((with_reducible show wpAny _ _ (call (Value.builtin "list.append") _ _) _ _ _); k_here; k_dflt (refine' app_wl (by k_asm) (by k_asm) (by k_ne) (by k_ne) (by k_ne) (by k_all) (by with_reducible assumption) ?_; intro h9 F9 N9)) | ((with_reducible show WhlIf _ _ _); k_dflt (first | (refine whl_yes ?_) | (refine whl_no ?_))) | ((with_reducible show wpAny _ _ (compareOp _ (Value.str (tx _) _) (Value.str (Str.ofString ".") _)) _ _ _); k_here; k_dflt (first | (refine eq_dot0 (by with_reducible assumption) ?_) | (refine eq_dot1 ?_))) | ((with_reducible show wpAny _ _ (subscriptTail (Expr.Name _ _) (Expr.UnaryOp _ _ _) (Value.ref _) (Value.int _ _)) _ _ _); k_here; k_dflt (refine' last_str (by exact PySem.IsL.isList (News.get (by k_asm) (by k_mem))) (by with_reducible assumption) ?_; intro t9)) | ((with_reducible show wpAny _ _ (call (Value.ref 120) _ _) _ _ _); k_here; k_dflt (first | ((with_reducible rename FW _ _ _ _ _ _ _ _ _ _ _ _ _ _ _ => wf8); ((refine' tok_c _ _ _ _ _ _ _ _ _ _ _ _ _ _ _ _ _ _ _ _ _ _ _ _ _ _ _ _ _ _ _ _ _ _ _ _ _ _ _ _ (by ((k_asm))) (by ((k_asm))) (by ((k_asm))) (by ((k_asm))) (by ((k_asm))) (by ((first | exact rfl | assumption))) (by ((first | with_reducible assumption | exact lt_frm (by k_asm) (by k_asm) (by with_reducible assumption) | exact lt_frm (by k_asm) (by k_asm) (lt_frm (by k_asm) (by k_asm) (by with_reducible assumption))))) (by ((ktr_room))) (by ((ktr_units))) (by ((first | with_reducible assumption | exact CodeHd.keeps (by assumption) (Below.stays (by assumption))))) (by ((first | with_reducible assumption | exact FW.mono (by with_reducible assumption) (fun _ h9 => List.Mem.tail _ h9)))) (by ((k_mem))) (by ((k_mem))) (by ((k_all))) (by ((k_all))) (by ((k_all))) (by ((k_ne))) (by ((k_ne))) (by ((k_ne))) (by ((first | with_reducible assumption | exact strs_subst (by with_reducible assumption) (by with_reducible assumption)))) (by ((first | with_reducible assumption | exact .nil))) (by ((first | with_reducible assumption | exact len_start (by with_reducible assumption) (by with_reducible assumption)))) (by ((with_reducible assumption))) (by ((with_reducible assumption))) (by ((first | with_reducible assumption | exact ftl_ws (by with_reducible assumption)))) ?_; intro c9 r9 ys9 t9 h9 tk9 sg9 sn9 e9 f9 n9 nt9 hcase9 hs9 hn9 hl9 F9 N9))) | ((refine' tok_have (by k_asm) (by k_asm) (by (unfold FW; refine' ⟨(by first | with_reducible assumption | exact CodeHd.keeps (by assumption) (Below.stays (by assumption))), (by (k_mem)), (by (k_mem)), _, _, _, _, _, _, _, _, _, _, _, _, _, _, _, (by (assumption)), (by (k_mem)), (by (k_mem)), (by (k_mem)), (by (k_mem)), (by (k_mem)), (by exact rfl), (by exact rfl), (by exact rfl), (by (k_mem)), (by (assumption))⟩)) ?_; (intro Wf9 N9)); (refine' tok_c _ _ _ _ _ _ _ _ _ _ _ _ _ _ _ _ _ _ _ _ _ _ _ _ _ _ _ _ _ _ _ _ _ _ _ _ _ _ _ _ (by ((k_asm))) (by ((k_asm))) (by ((k_asm))) (by ((k_asm))) (by ((k_asm))) (by ((first | exact rfl | assumption))) (by ((first | with_reducible assumption | exact lt_frm (by k_asm) (by k_asm) (by with_reducible assumption) | exact lt_frm (by k_asm) (by k_asm) (lt_frm (by k_asm) (by k_asm) (by with_reducible assumption))))) (by ((ktr_room))) (by ((ktr_units))) (by ((first | with_reducible assumption | exact CodeHd.keeps (by assumption) (Below.stays (by assumption))))) (by ((first | with_reducible assumption | exact FW.mono (by with_reducible assumption) (fun _ h9 => List.Mem.tail _ h9)))) (by ((k_mem))) (by ((k_mem))) (by ((k_all))) (by ((k_all))) (by ((k_all))) (by ((k_ne))) (by ((k_ne))) (by ((k_ne))) (by ((first | with_reducible assumption | exact strs_subst (by with_reducible assumption) (by with_reducible assumption)))) (by ((first | with_reducible assumption | exact .nil))) (by ((first | with_reducible assumption | exact len_start (by with_reducible assumption) (by with_reducible assumption)))) (by ((with_reducible assumption))) (by ((with_reducible assumption))) (by ((first | with_reducible assumption | exact ftl_ws (by with_reducible assumption)))) ?_; intro c9 r9 ys9 t9 h9 tk9 sg9 sn9 e9 f9 n9 nt9 hcase9 hs9 hn9 hl9 F9 N9)) | (fail "x"))) | ((with_reducible show wpAny _ _ (setAttr (Value.ref _) (Str.ofString "read") _) _ _ _); k_here; k_dflt (refine' fn_set_N (by k_asm) (by k_asm) (by exact rfl) (by exact rfl) (by exact rfl) (by (k_all)) ?_; intro D9 od9 h9 tk9 F9 N9 hr9 l9; (try k_lt l9); (first | (refine' rd_have (by k_asm) (by k_asm) (by (assumption)) (by (k_mem)) (by (assumption)) (by (k_mem)) (by (k_mem)) (by (assumption)) (by (k_mem)) (by (assumption)) (by (k_mem)) (by (assumption)) (by (assumption)) (by (k_mem)) (by (intro da9 db9 hcv9 hcd9; unfold RdC; (have mk9 : MarkRd := MarkRd.mk); intro t0 sg sn xs ys e1 e2 rest dp un gd cn' cs a ccd cl outer A₀ base h₀ L m s Q E B F X N T hk hC mf mc ma mb' hO1 hO2 hne hS hR hz hz2 hdp hun hret0 hret1; refine wpAny_call ?_; k_dflt kn_enter; (repeat' (first | (k_unfold; (try dsimp only)) | ((with_reducible show wpAny _ _ (exec (Stmt.While _ _ _ _) _) _ _ _); k_here; k_dflt (refine whl_start 0 ?_); k_dflt (refine' front_loop _ _ ⟨_, _, _, [] ++ [_], _, _, _, _, _, _, _⟩ (by with_unfolding_all passes_own) (by (k_asm)) (by (exact news_wl (by k_asm))) (by (refine' fj_tok (dn := []) ?z0ua ?z0ub ?z0uc ?z0ud ?z0ue ?z0uf ?z0ug ?z0uh ?z0ui; (case z0uf => (with_reducible assumption)); (case z0ua => with_reducible assumption); (case z0ub => with_reducible assumption); (case z0ug => (with_reducible assumption)); (case z0uh => (with_reducible assumption)); (case z0ui => with_reducible assumption); (case z0ud => exact .nil); (case z0uc => exact rfl); (case z0ue => exact rfl))) (by with_reducible assumption) (by (exact List.forall_mem_cons.mpr ⟨by with_reducible assumption, by with_reducible assumption⟩)) (by (exact (by assumption : (_ :: _).length ≤ 1000))) ?_ ?_; (intro a9 c9 wd9 rs9 dn9 n9 h9 tk9 dr9 hrs9 hn9 hf9 hw9 hi9 hz9 hsn9 hsg9 hl9 hp9 hpw9 htl9 F9 N9); rotate_left; (intro a9 n9 h9 tk9 dr9 hc9 hi9 hsn9 hsg9 hz9 F9 N9); rotate_left)) | ((with_reducible show wpAny _ _ (call (Value.builtin "str.join") _ _) _ _ _); k_here; k_dflt (refine' join_signs (by exact PySem.IsL.isList (News.get (by k_asm) (by k_mem))) (by with_reducible assumption) (by with_reducible assumption) ?_; intro t9 k9)) | ((with_reducible show wpAny _ _ (call (Value.builtin "list.append") _ _) _ _ _); k_here; k_dflt (refine' app_wl (by k_asm) (by k_asm) (by k_ne) (by k_ne) (by k_ne) (by k_all) (by with_reducible assumption) ?_; intro h9 F9 N9)) | ((with_reducible show WhlIf _ _ _); k_dflt (first | (refine whl_yes ?_) | (refine whl_no ?_))) | ((with_reducible show wpAny _ _ (compareOp _ (Value.str (tx _) _) (Value.str (Str.ofString ".") _)) _ _ _); k_here; k_dflt (first | (refine eq_dot0 (by with_reducible assumption) ?_) | (refine eq_dot1 ?_))) | ((with_reducible show wpAny _ _ (subscriptTail (Expr.Name _ _) (Expr.UnaryOp _ _ _) (Value.ref _) (Value.int _ _)) _ _ _); k_here; k_dflt (refine' last_str (by exact PySem.IsL.isList (News.get (by k_asm) (by k_mem))) (by with_reducible assumption) ?_; intro t9)) | ((with_reducible show wpAny _ _ (call (Value.ref 120) _ _) _ _ _); k_here; k_dflt (first | ((with_reducible rename FW _ _ _ _ _ _ _ _ _ _ _ _ _ _ _ => wf8); ((refine' tok_c _ _ _ _ _ _ _ _ _ _ _ _ _ _ _ _ _ _ _ _ _ _ _ _ _ _ _ _ _ _ _ _ _ _ _ _ _ _ _ _ (by ((k_asm))) (by ((k_asm))) (by ((k_asm))) (by ((k_asm))) (by ((k_asm))) (by ((first | exact rfl | assumption))) (by ((first | with_reducible assumption | exact lt_frm (by k_asm) (by k_asm) (by with_reducible assumption) | exact lt_frm (by k_asm) (by k_asm) (lt_frm (by k_asm) (by k_asm) (by with_reducible assumption))))) (by ((ktr_room))) (by ((ktr_units))) (by ((first | with_reducible assumption | exact CodeHd.keeps (by assumption) (Below.stays (by assumption))))) (by ((first | with_reducible assumption | exact FW.mono (by with_reducible assumption) (fun _ h9 => List.Mem.tail _ h9)))) (by ((k_mem))) (by ((k_mem))) (by ((k_all))) (by ((k_all))) (by ((k_all))) (by ((k_ne))) (by ((k_ne))) (by ((k_ne))) (by ((first | with_reducible assumption | exact strs_subst (by with_reducible assumption) (by with_reducible assumption)))) (by ((first | with_reducible assumption | exact .nil))) (by ((first | with_reducible assumption | exact len_start (by with_reducible assumption) (by with_reducible assumption)))) (by ((with_reducible assumption))) (by ((with_reducible assumption))) (by ((first | with_reducible assumption | exact ftl_ws (by with_reducible assumption)))) ?_; intro c9 r9 ys9 t9 h9 tk9 sg9 sn9 e9 f9 n9 nt9 hcase9 hs9 hn9 hl9 F9 N9))) | ((refine' tok_have (by k_asm) (by k_asm) (by (unfold FW; refine' ⟨(by first | with_reducible assumption | exact CodeHd.keeps (by assumption) (Below.stays (by assumption))), (by (k_mem)), (by (k_mem)), _, _, _, _, _, _, _, _, _, _, _, _, _, _, _, (by (assumption)), (by (k_mem)), (by (k_mem)), (by (k_mem)), (by (k_mem)), (by (k_mem)), (by exact rfl), (by exact rfl), (by exact rfl), (by (k_mem)), (by (assumption))⟩)) ?_; (intro Wf9 N9)); (refine' tok_c _ _ _ _ _ _ _ _ _ _ _ _ _ _ _ _ _ _ _ _ _ _ _ _ _ _ _ _ _ _ _ _ _ _ _ _ _ _ _ _ (by ((k_asm))) (by ((k_asm))) (by ((k_asm))) (by ((k_asm))) (by ((k_asm))) (by ((first | exact rfl | assumption))) (by ((first | with_reducible assumption | exact lt_frm (by k_asm) (by k_asm) (by with_reducible assumption) | exact lt_frm (by k_asm) (by k_asm) (lt_frm (by k_asm) (by k_asm) (by with_reducible assumption))))) (by ((ktr_room))) (by ((ktr_units))) (by ((first | with_reducible assumption | exact CodeHd.keeps (by assumption) (Below.stays (by assumption))))) (by ((first | with_reducible assumption | exact FW.mono (by with_reducible assumption) (fun _ h9 => List.Mem.tail _ h9)))) (by ((k_mem))) (by ((k_mem))) (by ((k_all))) (by ((k_all))) (by ((k_all))) (by ((k_ne))) (by ((k_ne))) (by ((k_ne))) (by ((first | with_reducible assumption | exact strs_subst (by with_reducible assumption) (by with_reducible assumption)))) (by ((first | with_reducible assumption | exact .nil))) (by ((first | with_reducible assumption | exact len_start (by with_reducible assumption) (by with_reducible assumption)))) (by ((with_reducible assumption))) (by ((with_reducible assumption))) (by ((first | with_reducible assumption | exact ftl_ws (by with_reducible assumption)))) ?_; intro c9 r9 ys9 t9 h9 tk9 sg9 sn9 e9 f9 n9 nt9 hcase9 hs9 hn9 hl9 F9 N9)) | (fail "x"))) | ((with_reducible show wpAny _ _ (subscriptTail (Expr.Name _ _) (Expr.UnaryOp _ _ _) (Value.ref _) (Value.int _ _)) _ _ _); k_here; k_dflt (refine' it_end (by exact PySem.IsL.isList (News.get (by k_asm) (by k_mem))) ?_)) | ((with_reducible show wpAny _ _ (call (Value.builtin "list.append") _ _) _ _ _); k_here; k_dflt (refine' app_second (by k_asm) (by k_asm) (by with_reducible assumption) (by with_reducible assumption) (by with_reducible assumption) ?_; intro h9 F9 N9)) | ((with_reducible show wpAny _ _ (call (Value.builtin _) [Value.ref _, Value.int 0 _]) _ _ _); k_here; k_dflt (refine' pop_head (by k_asm) (by k_asm) (by with_reducible assumption) (by assumption) (by refine Off.cons (Ne.symm (by assumption)) (by assumption)) (by with_reducible assumption) ?_; intro x9 xs9 t9 sg9 h9 hx9 hs9 F9 N9)) | ((with_reducible show wpAny _ _ (call (Value.builtin _) [Value.ref _]) _ _ _); k_here; k_dflt (refine' len_strsA (by exact PySem.IsL.isList (News.get (by k_asm) (by k_mem))) (by with_reducible assumption) (by omega) ?_)) | ((with_reducible show wpAny _ _ (call (Value.type "list") _ _) _ _ _); k_here; k_dflt (refine' list_tx (by exact rfl) (by k_asm) (by k_asm) (by with_reducible assumption) ?_; intro D9 h9 tk9 vs9 n9 F9 N9 l9 hS9; (try k_lt l9))) | (k_end; kc_close) | walk1 | (dsimp only; (first | ((with_reducible show wpAny _ _ (exec (Stmt.While _ _ _ _) _) _ _ _); k_here; k_dflt (refine whl_start 0 ?_); k_dflt (refine' front_loop _ _ ⟨_, _, _, [] ++ [_], _, _, _, _, _, _, _⟩ (by with_unfolding_all passes_own) (by (k_asm)) (by (exact news_wl (by k_asm))) (by (refine' fj_tok (dn := []) ?z0ua ?z0ub ?z0uc ?z0ud ?z0ue ?z0uf ?z0ug ?z0uh ?z0ui; (case z0uf => (with_reducible assumption)); (case z0ua => with_reducible assumption); (case z0ub => with_reducible assumption); (case z0ug => (with_reducible assumption)); (case z0uh => (with_reducible assumption)); (case z0ui => with_reducible assumption); (case z0ud => exact .nil); (case z0uc => exact rfl); (case z0ue => exact rfl))) (by with_reducible assumption) (by (exact List.forall_mem_cons.mpr ⟨by with_reducible assumption, by with_reducible assumption⟩)) (by (exact (by assumption : (_ :: _).length ≤ 1000))) ?_ ?_; (intro a9 c9 wd9 rs9 dn9 n9 h9 tk9 dr9 hrs9 hn9 hf9 hw9 hi9 hz9 hsn9 hsg9 hl9 hp9 hpw9 htl9 F9 N9); rotate_left; (intro a9 n9 h9 tk9 dr9 hc9 hi9 hsn9 hsg9 hz9 F9 N9); rotate_left)) | ((with_reducible show wpAny _ _ (call (Value.builtin "str.join") _ _) _ _ _); k_here; k_dflt (refine' join_signs (by exact PySem.IsL.isList (News.get (by k_asm) (by k_mem))) (by with_reducible assumption) (by with_reducible assumption) ?_; intro t9 k9)) | ((with_reducible show wpAny _ _ (call (Value.builtin "list.append") _ _) _ _ _); k_here; k_dflt (refine' app_wl (by k_asm) (by k_asm) (by k_ne) (by k_ne) (by k_ne) (by k_all) (by with_reducible assumption) ?_; intro h9 F9 N9)) | ((with_reducible show WhlIf _ _ _); k_dflt (first | (refine whl_yes ?_) | (refine whl_no ?_))) | ((with_reducible show wpAny _ _ (compareOp _ (Value.str (tx _) _) (Value.str (Str.ofString ".") _)) _ _ _); k_here; k_dflt (first | (refine eq_dot0 (by with_reducible assumption) ?_) | (refine eq_dot1 ?_))) | ((with_reducible show wpAny _ _ (subscriptTail (Expr.Name _ _) (Expr.UnaryOp _ _ _) (Value.ref _) (Value.int _ _)) _ _ _); k_here; k_dflt (refine' last_str (by exact PySem.IsL.isList (News.get (by k_asm) (by k_mem))) (by with_reducible assumption) ?_; intro t9)) | ((with_reducible show wpAny _ _ (call (Value.ref 120) _ _) _ _ _); k_here; k_dflt (first | ((with_reducible rename FW _ _ _ _ _ _ _ _ _ _ _ _ _ _ _ => wf8); ((refine' tok_c _ _ _ _ _ _ _ _ _ _ _ _ _ _ _ _ _ _ _ _ _ _ _ _ _ _ _ _ _ _ _ _ _ _ _ _ _ _ _ _ (by ((k_asm))) (by ((k_asm))) (by ((k_asm))) (by ((k_asm))) (by ((k_asm))) (by ((first | exact rfl | assumption))) (by ((first | with_reducible assumption | exact lt_frm (by k_asm) (by k_asm) (by with_reducible assumption) | exact lt_frm (by k_asm) (by k_asm) (lt_frm (by k_asm) (by k_asm) (by with_reducible assumption))))) (by ((ktr_room))) (by ((ktr_units))) (by ((first | with_reducible assumption | exact CodeHd.keeps (by assumption) (Below.stays (by assumption))))) (by ((first | with_reducible assumption | exact FW.mono (by with_reducible assumption) (fun _ h9 => List.Mem.tail _ h9)))) (by ((k_mem))) (by ((k_mem))) (by ((k_all))) (by ((k_all))) (by ((k_all))) (by ((k_ne))) (by ((k_ne))) (by ((k_ne))) (by ((first | with_reducible assumption | exact strs_subst (by with_reducible assumption) (by with_reducible assumption)))) (by ((first | with_reducible assumption | exact .nil))) (by ((first | with_reducible assumption | exact len_start (by with_reducible assumption) (by with_reducible assumption)))) (by ((with_reducible assumption))) (by ((with_reducible assumption))) (by ((first | with_reducible assumption | exact ftl_ws (by with_reducible assumption)))) ?_; intro c9 r9 ys9 t9 h9 tk9 sg9 sn9 e9 f9 n9 nt9 hcase9 hs9 hn9 hl9 F9 N9))) | ((refine' tok_have (by k_asm) (by k_asm) (by (unfold FW; refine' ⟨(by first | with_reducible assumption | exact CodeHd.keeps (by assumption) (Below.stays (by assumption))), (by (k_mem)), (by (k_mem)), _, _, _, _, _, _, _, _, _, _, _, _, _, _, _, (by (assumption)), (by (k_mem)), (by (k_mem)), (by (k_mem)), (by (k_mem)), (by (k_mem)), (by exact rfl), (by exact rfl), (by exact rfl), (by (k_mem)), (by (assumption))⟩)) ?_; (intro Wf9 N9)); (refine' tok_c _ _ _ _ _ _ _ _ _ _ _ _ _ _ _ _ _ _ _ _ _ _ _ _ _ _ _ _ _ _ _ _ _ _ _ _ _ _ _ _ (by ((k_asm))) (by ((k_asm))) (by ((k_asm))) (by ((k_asm))) (by ((k_asm))) (by ((first | exact rfl | assumption))) (by ((first | with_reducible assumption | exact lt_frm (by k_asm) (by k_asm) (by with_reducible assumption) | exact lt_frm (by k_asm) (by k_asm) (lt_frm (by k_asm) (by k_asm) (by with_reducible assumption))))) (by ((ktr_room))) (by ((ktr_units))) (by ((first | with_reducible assumption | exact CodeHd.keeps (by assumption) (Below.stays (by assumption))))) (by ((first | with_reducible assumption | exact FW.mono (by with_reducible assumption) (fun _ h9 => List.Mem.tail _ h9)))) (by ((k_mem))) (by ((k_mem))) (by ((k_all))) (by ((k_all))) (by ((k_all))) (by ((k_ne))) (by ((k_ne))) (by ((k_ne))) (by ((first | with_reducible assumption | exact strs_subst (by with_reducible assumption) (by with_reducible assumption)))) (by ((first | with_reducible assumption | exact .nil))) (by ((first | with_reducible assumption | exact len_start (by with_reducible assumption) (by with_reducible assumption)))) (by ((with_reducible assumption))) (by ((with_reducible assumption))) (by ((first | with_reducible assumption | exact ftl_ws (by with_reducible assumption)))) ?_; intro c9 r9 ys9 t9 h9 tk9 sg9 sn9 e9 f9 n9 nt9 hcase9 hs9 hn9 hl9 F9 N9)) | (fail "x"))) | ((with_reducible show wpAny _ _ (subscriptTail (Expr.Name _ _) (Expr.UnaryOp _ _ _) (Value.ref _) (Value.int _ _)) _ _ _); k_here; k_dflt (refine' it_end (by exact PySem.IsL.isList (News.get (by k_asm) (by k_mem))) ?_)) | ((with_reducible show wpAny _ _ (call (Value.builtin "list.append") _ _) _ _ _); k_here; k_dflt (refine' app_second (by k_asm) (by k_asm) (by with_reducible assumption) (by with_reducible assumption) (by with_reducible assumption) ?_; intro h9 F9 N9)) | ((with_reducible show wpAny _ _ (call (Value.builtin _) [Value.ref _, Value.int 0 _]) _ _ _); k_here; k_dflt (refine' pop_head (by k_asm) (by k_asm) (by with_reducible assumption) (by assumption) (by refine Off.cons (Ne.symm (by assumption)) (by assumption)) (by with_reducible assumption) ?_; intro x9 xs9 t9 sg9 h9 hx9 hs9 F9 N9)) | ((with_reducible show wpAny _ _ (call (Value.builtin _) [Value.ref _]) _ _ _); k_here; k_dflt (refine' len_strsA (by exact PySem.IsL.isList (News.get (by k_asm) (by k_mem))) (by with_reducible assumption) (by omega) ?_)) | ((with_reducible show wpAny _ _ (call (Value.type "list") _ _) _ _ _); k_here; k_dflt (refine' list_tx (by exact rfl) (by k_asm) (by k_asm) (by with_reducible assumption) ?_; intro D9 h9 tk9 vs9 n9 F9 N9 l9 hS9; (try k_lt l9))) | walk1)) | (leave1; (try dsimp only)) | fail "no step")); all_goals first  | (refine' hret0 _ _ _ ?z7sx ?z7sf ?z7sn; (case z7sx => (exact len_zero (by assumption))); (case z7sf => (k_asm)); (case z7sn => (k_asm)))  | (refine' hret1 _ _ _ _ _ _ _ _ _ ?z7sx ?z7s1 ?z7s2 ?z7sf ?z7sn; (case z7sx => (with_reducible assumption)); (case z7s1 => (with_reducible assumption)); (case z7sf => (k_asm)); (case z7sn => (k_asm)); (case z7s2 => (exact strs_snoc hR _ _)))  | (fail "x"))) ?_; (intro hrd9); rotate_left) | (fail "x")))) | ((with_reducible show wpAny _ _ (subscriptTail (Expr.Name _ _) (Expr.UnaryOp _ _ _) (Value.ref _) (Value.int _ _)) _ _ _); k_here; k_dflt (refine' it_end (by exact PySem.IsL.isList (News.get (by k_asm) (by k_mem))) ?_)) | ((with_reducible show wpAny _ _ (call (Value.builtin "list.append") _ _) _ _ _); k_here; k_dflt (refine' app_second (by k_asm) (by k_asm) (by with_reducible assumption) (by with_reducible assumption) (by with_reducible assumption) ?_; intro h9 F9 N9)) | ((with_reducible show wpAny _ _ (call (Value.builtin _) [Value.ref _, Value.int 0 _]) _ _ _); k_here; k_dflt (refine' pop_head (by k_asm) (by k_asm) (by with_reducible assumption) (by assumption) (by refine Off.cons (Ne.symm (by assumption)) (by assumption)) (by with_reducible assumption) ?_; intro x9 xs9 t9 sg9 h9 hx9 hs9 F9 N9)) | ((with_reducible show wpAny _ _ (call (Value.builtin _) [Value.ref _]) _ _ _); k_here; k_dflt (refine' len_strsA (by exact PySem.IsL.isList (News.get (by k_asm) (by k_mem))) (by with_reducible assumption) (by omega) ?_)) | ((with_reducible show wpAny _ _ (call (Value.type "list") _ _) _ _ _); k_here; k_dflt (refine' list_tx (by exact rfl) (by k_asm) (by k_asm) (by with_reducible assumption) ?_; intro D9 h9 tk9 vs9 n9 F9 N9 l9 hS9; (try k_lt l9))) | (k_end; kc_close) | walk1 | (dsimp only; (first | ((with_reducible show wpAny _ _ (exec (Stmt.While _ _ _ _) _) _ _ _); k_here; k_dflt (refine whl_start 0 ?_); k_dflt (refine' front_loop _ _ ⟨_, _, _, [] ++ [_], _, _, _, _, _, _, _⟩ (by with_unfolding_all passes_own) (by (k_asm)) (by (exact news_wl (by k_asm))) (by (refine' fj_tok (dn := []) ?z0ua ?z0ub ?z0uc ?z0ud ?z0ue ?z0uf ?z0ug ?z0uh ?z0ui; (case z0uf => (with_reducible assumption)); (case z0ua => with_reducible assumption); (case z0ub => with_reducible assumption); (case z0ug => (with_reducible assumption)); (case z0uh => (with_reducible assumption)); (case z0ui => with_reducible assumption); (case z0ud => exact .nil); (case z0uc => exact rfl); (case z0ue => exact rfl))) (by with_reducible assumption) (by (exact List.forall_mem_cons.mpr ⟨by with_reducible assumption, by with_reducible assumption⟩)) (by (exact (by assumption : (_ :: _).length ≤ 1000))) ?_ ?_; (intro a9 c9 wd9 rs9 dn9 n9 h9 tk9 dr9 hrs9 hn9 hf9 hw9 hi9 hz9 hsn9 hsg9 hl9 hp9 hpw9 htl9 F9 N9); rotate_left; (intro a9 n9 h9 tk9 dr9 hc9 hi9 hsn9 hsg9 hz9 F9 N9); rotate_left)) | ((with_reducible show wpAny _ _ (call (Value.builtin "str.join") _ _) _ _ _); k_here; k_dflt (refine' join_signs (by exact PySem.IsL.isList (News.get (by k_asm) (by k_mem))) (by with_reducible assumption) (by with_reducible assumption) ?_; intro t9 k9)) | ((with_reducible show wpAny _ _ (call (Value.builtin "list.append") _ _) _ _ _); k_here; k_dflt (refine' app_wl (by k_asm) (by k_asm) (by k_ne) (by k_ne) (by k_ne) (by k_all) (by with_reducible assumption) ?_; intro h9 F9 N9)) | ((with_reducible show WhlIf _ _ _); k_dflt (first | (refine whl_yes ?_) | (refine whl_no ?_))) | ((with_reducible show wpAny _ _ (compareOp _ (Value.str (tx _) _) (Value.str (Str.ofString ".") _)) _ _ _); k_here; k_dflt (first | (refine eq_dot0 (by with_reducible assumption) ?_) | (refine eq_dot1 ?_))) | ((with_reducible show wpAny _ _ (subscriptTail (Expr.Name _ _) (Expr.UnaryOp _ _ _) (Value.ref _) (Value.int _ _)) _ _ _); k_here; k_dflt (refine' last_str (by exact PySem.IsL.isList (News.get (by k_asm) (by k_mem))) (by with_reducible assumption) ?_; intro t9)) | ((with_reducible show wpAny _ _ (call (Value.ref 120) _ _) _ _ _); k_here; k_dflt (first | ((with_reducible rename FW _ _ _ _ _ _ _ _ _ _ _ _ _ _ _ => wf8); ((refine' tok_c _ _ _ _ _ _ _ _ _ _ _ _ _ _ _ _ _ _ _ _ _ _ _ _ _ _ _ _ _ _ _ _ _ _ _ _ _ _ _ _ (by ((k_asm))) (by ((k_asm))) (by ((k_asm))) (by ((k_asm))) (by ((k_asm))) (by ((first | exact rfl | assumption))) (by ((first | with_reducible assumption | exact lt_frm (by k_asm) (by k_asm) (by with_reducible assumption) | exact lt_frm (by k_asm) (by k_asm) (lt_frm (by k_asm) (by k_asm) (by with_reducible assumption))))) (by ((ktr_room))) (by ((ktr_units))) (by ((first | with_reducible assumption | exact CodeHd.keeps (by assumption) (Below.stays (by assumption))))) (by ((first | with_reducible assumption | exact FW.mono (by with_reducible assumption) (fun _ h9 => List.Mem.tail _ h9)))) (by ((k_mem))) (by ((k_mem))) (by ((k_all))) (by ((k_all))) (by ((k_all))) (by ((k_ne))) (by ((k_ne))) (by ((k_ne))) (by ((first | with_reducible assumption | exact strs_subst (by with_reducible assumption) (by with_reducible assumption)))) (by ((first | with_reducible assumption | exact .nil))) (by ((first | with_reducible assumption | exact len_start (by with_reducible assumption) (by with_reducible assumption)))) (by ((with_reducible assumption))) (by ((with_reducible assumption))) (by ((first | with_reducible assumption | exact ftl_ws (by with_reducible assumption)))) ?_; intro c9 r9 ys9 t9 h9 tk9 sg9 sn9 e9 f9 n9 nt9 hcase9 hs9 hn9 hl9 F9 N9))) | ((refine' tok_have (by k_asm) (by k_asm) (by (unfold FW; refine' ⟨(by first | with_reducible assumption | exact CodeHd.keeps (by assumption) (Below.stays (by assumption))), (by (k_mem)), (by (k_mem)), _, _, _, _, _, _, _, _, _, _, _, _, _, _, _, (by (assumption)), (by (k_mem)), (by (k_mem)), (by (k_mem)), (by (k_mem)), (by (k_mem)), (by exact rfl), (by exact rfl), (by exact rfl), (by (k_mem)), (by (assumption))⟩)) ?_; (intro Wf9 N9)); (refine' tok_c _ _ _ _ _ _ _ _ _ _ _ _ _ _ _ _ _ _ _ _ _ _ _ _ _ _ _ _ _ _ _ _ _ _ _ _ _ _ _ _ (by ((k_asm))) (by ((k_asm))) (by ((k_asm))) (by ((k_asm))) (by ((k_asm))) (by ((first | exact rfl | assumption))) (by ((first | with_reducible assumption | exact lt_frm (by k_asm) (by k_asm) (by with_reducible assumption) | exact lt_frm (by k_asm) (by k_asm) (lt_frm (by k_asm) (by k_asm) (by with_reducible assumption))))) (by ((ktr_room))) (by ((ktr_units))) (by ((first | with_reducible assumption | exact CodeHd.keeps (by assumption) (Below.stays (by assumption))))) (by ((first | with_reducible assumption | exact FW.mono (by with_reducible assumption) (fun _ h9 => List.Mem.tail _ h9)))) (by ((k_mem))) (by ((k_mem))) (by ((k_all))) (by ((k_all))) (by ((k_all))) (by ((k_ne))) (by ((k_ne))) (by ((k_ne))) (by ((first | with_reducible assumption | exact strs_subst (by with_reducible assumption) (by with_reducible assumption)))) (by ((first | with_reducible assumption | exact .nil))) (by ((first | with_reducible assumption | exact len_start (by with_reducible assumption) (by with_reducible assumption)))) (by ((with_reducible assumption))) (by ((with_reducible assumption))) (by ((first | with_reducible assumption | exact ftl_ws (by with_reducible assumption)))) ?_; intro c9 r9 ys9 t9 h9 tk9 sg9 sn9 e9 f9 n9 nt9 hcase9 hs9 hn9 hl9 F9 N9)) | (fail "x"))) | ((with_reducible show wpAny _ _ (setAttr (Value.ref _) (Str.ofString "read") _) _ _ _); k_here; k_dflt (refine' fn_set_N (by k_asm) (by k_asm) (by exact rfl) (by exact rfl) (by exact rfl) (by (k_all)) ?_; intro D9 od9 h9 tk9 F9 N9 hr9 l9; (try k_lt l9); (first | (refine' rd_have (by k_asm) (by k_asm) (by (assumption)) (by (k_mem)) (by (assumption)) (by (k_mem)) (by (k_mem)) (by (assumption)) (by (k_mem)) (by (assumption)) (by (k_mem)) (by (assumption)) (by (assumption)) (by (k_mem)) (by (intro da9 db9 hcv9 hcd9; unfold RdC; (have mk9 : MarkRd := MarkRd.mk); intro t0 sg sn xs ys e1 e2 rest dp un gd cn' cs a ccd cl outer A₀ base h₀ L m s Q E B F X N T hk hC mf mc ma mb' hO1 hO2 hne hS hR hz hz2 hdp hun hret0 hret1; refine wpAny_call ?_; k_dflt kn_enter; (repeat' (first | (k_unfold; (try dsimp only)) | ((with_reducible show wpAny _ _ (exec (Stmt.While _ _ _ _) _) _ _ _); k_here; k_dflt (refine whl_start 0 ?_); k_dflt (refine' front_loop _ _ ⟨_, _, _, [] ++ [_], _, _, _, _, _, _, _⟩ (by with_unfolding_all passes_own) (by (k_asm)) (by (exact news_wl (by k_asm))) (by (refine' fj_tok (dn := []) ?z0ua ?z0ub ?z0uc ?z0ud ?z0ue ?z0uf ?z0ug ?z0uh ?z0ui; (case z0uf => (with_reducible assumption)); (case z0ua => with_reducible assumption); (case z0ub => with_reducible assumption); (case z0ug => (with_reducible assumption)); (case z0uh => (with_reducible assumption)); (case z0ui => with_reducible assumption); (case z0ud => exact .nil); (case z0uc => exact rfl); (case z0ue => exact rfl))) (by with_reducible assumption) (by (exact List.forall_mem_cons.mpr ⟨by with_reducible assumption, by with_reducible assumption⟩)) (by (exact (by assumption : (_ :: _).length ≤ 1000))) ?_ ?_; (intro a9 c9 wd9 rs9 dn9 n9 h9 tk9 dr9 hrs9 hn9 hf9 hw9 hi9 hz9 hsn9 hsg9 hl9 hp9 hpw9 htl9 F9 N9); rotate_left; (intro a9 n9 h9 tk9 dr9 hc9 hi9 hsn9 hsg9 hz9 F9 N9); rotate_left)) | ((with_reducible show wpAny _ _ (call (Value.builtin "str.join") _ _) _ _ _); k_here; k_dflt (refine' join_signs (by exact PySem.IsL.isList (News.get (by k_asm) (by k_mem))) (by with_reducible assumption) (by with_reducible assumption) ?_; intro t9 k9)) | ((with_reducible show wpAny _ _ (call (Value.builtin "list.append") _ _) _ _ _); k_here; k_dflt (refine' app_wl (by k_asm) (by k_asm) (by k_ne) (by k_ne) (by k_ne) (by k_all) (by with_reducible assumption) ?_; intro h9 F9 N9)) | ((with_reducible show WhlIf _ _ _); k_dflt (first | (refine whl_yes ?_) | (refine whl_no ?_))) | ((with_reducible show wpAny _ _ (compareOp _ (Value.str (tx _) _) (Value.str (Str.ofString ".") _)) _ _ _); k_here; k_dflt (first | (refine eq_dot0 (by with_reducible assumption) ?_) | (refine eq_dot1 ?_))) | ((with_reducible show wpAny _ _ (subscriptTail (Expr.Name _ _) (Expr.UnaryOp _ _ _) (Value.ref _) (Value.int _ _)) _ _ _); k_here; k_dflt (refine' last_str (by exact PySem.IsL.isList (News.get (by k_asm) (by k_mem))) (by with_reducible assumption) ?_; intro t9)) | ((with_reducible show wpAny _ _ (call (Value.ref 120) _ _) _ _ _); k_here; k_dflt (first | ((with_reducible rename FW _ _ _ _ _ _ _ _ _ _ _ _ _ _ _ => wf8); ((refine' tok_c _ _ _ _ _ _ _ _ _ _ _ _ _ _ _ _ _ _ _ _ _ _ _ _ _ _ _ _ _ _ _ _ _ _ _ _ _ _ _ _ (by ((k_asm))) (by ((k_asm))) (by ((k_asm))) (by ((k_asm))) (by ((k_asm))) (by ((first | exact rfl | assumption))) (by ((first | with_reducible assumption | exact lt_frm (by k_asm) (by k_asm) (by with_reducible assumption) | exact lt_frm (by k_asm) (by k_asm) (lt_frm (by k_asm) (by k_asm) (by with_reducible assumption))))) (by ((ktr_room))) (by ((ktr_units))) (by ((first | with_reducible assumption | exact CodeHd.keeps (by assumption) (Below.stays (by assumption))))) (by ((first | with_reducible assumption | exact FW.mono (by with_reducible assumption) (fun _ h9 => List.Mem.tail _ h9)))) (by ((k_mem))) (by ((k_mem))) (by ((k_all))) (by ((k_all))) (by ((k_all))) (by ((k_ne))) (by ((k_ne))) (by ((k_ne))) (by ((first | with_reducible assumption | exact strs_subst (by with_reducible assumption) (by with_reducible assumption)))) (by ((first | with_reducible assumption | exact .nil))) (by ((first | with_reducible assumption | exact len_start (by with_reducible assumption) (by with_reducible assumption)))) (by ((with_reducible assumption))) (by ((with_reducible assumption))) (by ((first | with_reducible assumption | exact ftl_ws (by with_reducible assumption)))) ?_; intro c9 r9 ys9 t9 h9 tk9 sg9 sn9 e9 f9 n9 nt9 hcase9 hs9 hn9 hl9 F9 N9))) | ((refine' tok_have (by k_asm) (by k_asm) (by (unfold FW; refine' ⟨(by first | with_reducible assumption | exact CodeHd.keeps (by assumption) (Below.stays (by assumption))), (by (k_mem)), (by (k_mem)), _, _, _, _, _, _, _, _, _, _, _, _, _, _, _, (by (assumption)), (by (k_mem)), (by (k_mem)), (by (k_mem)), (by (k_mem)), (by (k_mem)), (by exact rfl), (by exact rfl), (by exact rfl), (by (k_mem)), (by (assumption))⟩)) ?_; (intro Wf9 N9)); (refine' tok_c _ _ _ _ _ _ _ _ _ _ _ _ _ _ _ _ _ _ _ _ _ _ _ _ _ _ _ _ _ _ _ _ _ _ _ _ _ _ _ _ (by ((k_asm))) (by ((k_asm))) (by ((k_asm))) (by ((k_asm))) (by ((k_asm))) (by ((first | exact rfl | assumption))) (by ((first | with_reducible assumption | exact lt_frm (by k_asm) (by k_asm) (by with_reducible assumption) | exact lt_frm (by k_asm) (by k_asm) (lt_frm (by k_asm) (by k_asm) (by with_reducible assumption))))) (by ((ktr_room))) (by ((ktr_units))) (by ((first | with_reducible assumption | exact CodeHd.keeps (by assumption) (Below.stays (by assumption))))) (by ((first | with_reducible assumption | exact FW.mono (by with_reducible assumption) (fun _ h9 => List.Mem.tail _ h9)))) (by ((k_mem))) (by ((k_mem))) (by ((k_all))) (by ((k_all))) (by ((k_all))) (by ((k_ne))) (by ((k_ne))) (by ((k_ne))) (by ((first | with_reducible assumption | exact strs_subst (by with_reducible assumption) (by with_reducible assumption)))) (by ((first | with_reducible assumption | exact .nil))) (by ((first | with_reducible assumption | exact len_start (by with_reducible assumption) (by with_reducible assumption)))) (by ((with_reducible assumption))) (by ((with_reducible assumption))) (by ((first | with_reducible assumption | exact ftl_ws (by with_reducible assumption)))) ?_; intro c9 r9 ys9 t9 h9 tk9 sg9 sn9 e9 f9 n9 nt9 hcase9 hs9 hn9 hl9 F9 N9)) | (fail "x"))) | ((with_reducible show wpAny _ _ (subscriptTail (Expr.Name _ _) (Expr.UnaryOp _ _ _) (Value.ref _) (Value.int _ _)) _ _ _); k_here; k_dflt (refine' it_end (by exact PySem.IsL.isList (News.get (by k_asm) (by k_mem))) ?_)) | ((with_reducible show wpAny _ _ (call (Value.builtin "list.append") _ _) _ _ _); k_here; k_dflt (refine' app_second (by k_asm) (by k_asm) (by with_reducible assumption) (by with_reducible assumption) (by with_reducible assumption) ?_; intro h9 F9 N9)) | ((with_reducible show wpAny _ _ (call (Value.builtin _) [Value.ref _, Value.int 0 _]) _ _ _); k_here; k_dflt (refine' pop_head (by k_asm) (by k_asm) (by with_reducible assumption) (by assumption) (by refine Off.cons (Ne.symm (by assumption)) (by assumption)) (by with_reducible assumption) ?_; intro x9 xs9 t9 sg9 h9 hx9 hs9 F9 N9)) | ((with_reducible show wpAny _ _ (call (Value.builtin _) [Value.ref _]) _ _ _); k_here; k_dflt (refine' len_strsA (by exact PySem.IsL.isList (News.get (by k_asm) (by k_mem))) (by with_reducible assumption) (by omega) ?_)) | ((with_reducible show wpAny _ _ (call (Value.type "list") _ _) _ _ _); k_here; k_dflt (refine' list_tx (by exact rfl) (by k_asm) (by k_asm) (by with_reducible assumption) ?_; intro D9 h9 tk9 vs9 n9 F9 N9 l9 hS9; (try k_lt l9))) | (k_end; kc_close) | walk1 | (dsimp only; (first | ((with_reducible show wpAny _ _ (exec (Stmt.While _ _ _ _) _) _ _ _); k_here; k_dflt (refine whl_start 0 ?_); k_dflt (refine' front_loop _ _ ⟨_, _, _, [] ++ [_], _, _, _, _, _, _, _⟩ (by with_unfolding_all passes_own) (by (k_asm)) (by (exact news_wl (by k_asm))) (by (refine' fj_tok (dn := []) ?z0ua ?z0ub ?z0uc ?z0ud ?z0ue ?z0uf ?z0ug ?z0uh ?z0ui; (case z0uf => (with_reducible assumption)); (case z0ua => with_reducible assumption); (case z0ub => with_reducible assumption); (case z0ug => (with_reducible assumption)); (case z0uh => (with_reducible assumption)); (case z0ui => with_reducible assumption); (case z0ud => exact .nil); (case z0uc => exact rfl); (case z0ue => exact rfl))) (by with_reducible assumption) (by (exact List.forall_mem_cons.mpr ⟨by with_reducible assumption, by with_reducible assumption⟩)) (by (exact (by assumption : (_ :: _).length ≤ 1000))) ?_ ?_; (intro a9 c9 wd9 rs9 dn9 n9 h9 tk9 dr9 hrs9 hn9 hf9 hw9 hi9 hz9 hsn9 hsg9 hl9 hp9 hpw9 htl9 F9 N9); rotate_left; (intro a9 n9 h9 tk9 dr9 hc9 hi9 hsn9 hsg9 hz9 F9 N9); rotate_left)) | ((with_reducible show wpAny _ _ (call (Value.builtin "str.join") _ _) _ _ _); k_here; k_dflt (refine' join_signs (by exact PySem.IsL.isList (News.get (by k_asm) (by k_mem))) (by with_reducible assumption) (by with_reducible assumption) ?_; intro t9 k9)) | ((with_reducible show wpAny _ _ (call (Value.builtin "list.append") _ _) _ _ _); k_here; k_dflt (refine' app_wl (by k_asm) (by k_asm) (by k_ne) (by k_ne) (by k_ne) (by k_all) (by with_reducible assumption) ?_; intro h9 F9 N9)) | ((with_reducible show WhlIf _ _ _); k_dflt (first | (refine whl_yes ?_) | (refine whl_no ?_))) | ((with_reducible show wpAny _ _ (compareOp _ (Value.str (tx _) _) (Value.str (Str.ofString ".") _)) _ _ _); k_here; k_dflt (first | (refine eq_dot0 (by with_reducible assumption) ?_) | (refine eq_dot1 ?_))) | ((with_reducible show wpAny _ _ (subscriptTail (Expr.Name _ _) (Expr.UnaryOp _ _ _) (Value.ref _) (Value.int _ _)) _ _ _); k_here; k_dflt (refine' last_str (by exact PySem.IsL.isList (News.get (by k_asm) (by k_mem))) (by with_reducible assumption) ?_; intro t9)) | ((with_reducible show wpAny _ _ (call (Value.ref 120) _ _) _ _ _); k_here; k_dflt (first | ((with_reducible rename FW _ _ _ _ _ _ _ _ _ _ _ _ _ _ _ => wf8); ((refine' tok_c _ _ _ _ _ _ _ _ _ _ _ _ _ _ _ _ _ _ _ _ _ _ _ _ _ _ _ _ _ _ _ _ _ _ _ _ _ _ _ _ (by ((k_asm))) (by ((k_asm))) (by ((k_asm))) (by ((k_asm))) (by ((k_asm))) (by ((first | exact rfl | assumption))) (by ((first | with_reducible assumption | exact lt_frm (by k_asm) (by k_asm) (by with_reducible assumption) | exact lt_frm (by k_asm) (by k_asm) (lt_frm (by k_asm) (by k_asm) (by with_reducible assumption))))) (by ((ktr_room))) (by ((ktr_units))) (by ((first | with_reducible assumption | exact CodeHd.keeps (by assumption) (Below.stays (by assumption))))) (by ((first | with_reducible assumption | exact FW.mono (by with_reducible assumption) (fun _ h9 => List.Mem.tail _ h9)))) (by ((k_mem))) (by ((k_mem))) (by ((k_all))) (by ((k_all))) (by ((k_all))) (by ((k_ne))) (by ((k_ne))) (by ((k_ne))) (by ((first | with_reducible assumption | exact strs_subst (by with_reducible assumption) (by with_reducible assumption)))) (by ((first | with_reducible assumption | exact .nil))) (by ((first | with_reducible assumption | exact len_start (by with_reducible assumption) (by with_reducible assumption)))) (by ((with_reducible assumption))) (by ((with_reducible assumption))) (by ((first | with_reducible assumption | exact ftl_ws (by with_reducible assumption)))) ?_; intro c9 r9 ys9 t9 h9 tk9 sg9 sn9 e9 f9 n9 nt9 hcase9 hs9 hn9 hl9 F9 N9))) | ((refine' tok_have (by k_asm) (by k_asm) (by (unfold FW; refine' ⟨(by first | with_reducible assumption | exact CodeHd.keeps (by assumption) (Below.stays (by assumption))), (by (k_mem)), (by (k_mem)), _, _, _, _, _, _, _, _, _, _, _, _, _, _, _, (by (assumption)), (by (k_mem)), (by (k_mem)), (by (k_mem)), (by (k_mem)), (by (k_mem)), (by exact rfl), (by exact rfl), (by exact rfl), (by (k_mem)), (by (assumption))⟩)) ?_; (intro Wf9 N9)); (refine' tok_c _ _ _ _ _ _ _ _ _ _ _ _ _ _ _ _ _ _ _ _ _ _ _ _ _ _ _ _ _ _ _ _ _ _ _ _ _ _ _ _ (by ((k_asm))) (by ((k_asm))) (by ((k_asm))) (by ((k_asm))) (by ((k_asm))) (by ((first | exact rfl | assumption))) (by ((first | with_reducible assumption | exact lt_frm (by k_asm) (by k_asm) (by with_reducible assumption) | exact lt_frm (by k_asm) (by k_asm) (lt_frm (by k_asm) (by k_asm) (by with_reducible assumption))))) (by ((ktr_room))) (by ((ktr_units))) (by ((first | with_reducible assumption | exact CodeHd.keeps (by assumption) (Below.stays (by assumption))))) (by ((first | with_reducible assumption | exact FW.mono (by with_reducible assumption) (fun _ h9 => List.Mem.tail _ h9)))) (by ((k_mem))) (by ((k_mem))) (by ((k_all))) (by ((k_all))) (by ((k_all))) (by ((k_ne))) (by ((k_ne))) (by ((k_ne))) (by ((first | with_reducible assumption | exact strs_subst (by with_reducible assumption) (by with_reducible assumption)))) (by ((first | with_reducible assumption | exact .nil))) (by ((first | with_reducible assumption | exact len_start (by with_reducible assumption) (by with_reducible assumption)))) (by ((with_reducible assumption))) (by ((with_reducible assumption))) (by ((first | with_reducible assumption | exact ftl_ws (by with_reducible assumption)))) ?_; intro c9 r9 ys9 t9 h9 tk9 sg9 sn9 e9 f9 n9 nt9 hcase9 hs9 hn9 hl9 F9 N9)) | (fail "x"))) | ((with_reducible show wpAny _ _ (subscriptTail (Expr.Name _ _) (Expr.UnaryOp _ _ _) (Value.ref _) (Value.int _ _)) _ _ _); k_here; k_dflt (refine' it_end (by exact PySem.IsL.isList (News.get (by k_asm) (by k_mem))) ?_)) | ((with_reducible show wpAny _ _ (call (Value.builtin "list.append") _ _) _ _ _); k_here; k_dflt (refine' app_second (by k_asm) (by k_asm) (by with_reducible assumption) (by with_reducible assumption) (by with_reducible assumption) ?_; intro h9 F9 N9)) | ((with_reducible show wpAny _ _ (call (Value.builtin _) [Value.ref _, Value.int 0 _]) _ _ _); k_here; k_dflt (refine' pop_head (by k_asm) (by k_asm) (by with_reducible assumption) (by assumption) (by refine Off.cons (Ne.symm (by assumption)) (by assumption)) (by with_reducible assumption) ?_; intro x9 xs9 t9 sg9 h9 hx9 hs9 F9 N9)) | ((with_reducible show wpAny _ _ (call (Value.builtin _) [Value.ref _]) _ _ _); k_here; k_dflt (refine' len_strsA (by exact PySem.IsL.isList (News.get (by k_asm) (by k_mem))) (by with_reducible assumption) (by omega) ?_)) | ((with_reducible show wpAny _ _ (call (Value.type "list") _ _) _ _ _); k_here; k_dflt (refine' list_tx (by exact rfl) (by k_asm) (by k_asm) (by with_reducible assumption) ?_; intro D9 h9 tk9 vs9 n9 F9 N9 l9 hS9; (try k_lt l9))) | walk1)) | (leave1; (try dsimp only)) | fail "no step")); all_goals first  | (refine' hret0 _ _ _ ?z7sx ?z7sf ?z7sn; (case z7sx => (exact len_zero (by assumption))); (case z7sf => (k_asm)); (case z7sn => (k_asm)))  | (refine' hret1 _ _ _ _ _ _ _ _ _ ?z7sx ?z7s1 ?z7s2 ?z7sf ?z7sn; (case z7sx => (with_reducible assumption)); (case z7s1 => (with_reducible assumption)); (case z7sf => (k_asm)); (case z7sn => (k_asm)); (case z7s2 => (exact strs_snoc hR _ _)))  | (fail "x"))) ?_; (intro hrd9); rotate_left) | (fail "x")))) | ((with_reducible show wpAny _ _ (subscriptTail (Expr.Name _ _) (Expr.UnaryOp _ _ _) (Value.ref _) (Value.int _ _)) _ _ _); k_here; k_dflt (refine' it_end (by exact PySem.IsL.isList (News.get (by k_asm) (by k_mem))) ?_)) | ((with_reducible show wpAny _ _ (call (Value.builtin "list.append") _ _) _ _ _); k_here; k_dflt (refine' app_second (by k_asm) (by k_asm) (by with_reducible assumption) (by with_reducible assumption) (by with_reducible assumption) ?_; intro h9 F9 N9)) | ((with_reducible show wpAny _ _ (call (Value.builtin _) [Value.ref _, Value.int 0 _]) _ _ _); k_here; k_dflt (refine' pop_head (by k_asm) (by k_asm) (by with_reducible assumption) (by assumption) (by refine Off.cons (Ne.symm (by assumption)) (by assumption)) (by with_reducible assumption) ?_; intro x9 xs9 t9 sg9 h9 hx9 hs9 F9 N9)) | ((with_reducible show wpAny _ _ (call (Value.builtin _) [Value.ref _]) _ _ _); k_here; k_dflt (refine' len_strsA (by exact PySem.IsL.isList (News.get (by k_asm) (by k_mem))) (by with_reducible assumption) (by omega) ?_)) | ((with_reducible show wpAny _ _ (call (Value.type "list") _ _) _ _ _); k_here; k_dflt (refine' list_tx (by exact rfl) (by k_asm) (by k_asm) (by with_reducible assumption) ?_; intro D9 h9 tk9 vs9 n9 F9 N9 l9 hS9; (try k_lt l9))) | walk1)) | (leave1; (try dsimp only)) | fail "no step")
  all_goals first
    | (refine' wEnd_next ⟨_, _, _, _ ++ [_], _, _, _, _, _, _, _⟩ _ ?ek ?eF ?eh ?eN ?eJ; (case eF => (k_asm)); (case eh => (exact fun _ => rfl)); (case eN => (k_asm)); (case eJ => (refine' fj_tok  ?va ?vb ?vc ?vd ?ve ?vf ?vg ?vh ?vi; (case vf => (with_reducible assumption)); (case va => (with_reducible assumption)); (case vb => (with_reducible assumption)); (case vg => (with_reducible assumption)); (case vh => (with_reducible assumption)); (case vi => (with_reducible assumption)); (case vd => (with_reducible assumption)); (case vc => (first | with_reducible assumption | assumption)); (case ve => (exact rfl))));  (case ek => (omega)))
    | (refine' hret _ _ _ _ _ _ _ _ _ ?gS ?gF ?gN ?gl ?gd; (case gS => (first | with_reducible assumption | exact strs_nil_app (by with_reducible assumption))); (case gF => (k_asm)); (case gN => (refine news_sub (by k_asm) ?_; refine' List.forall_mem_cons.mpr ⟨?m1, List.forall_mem_cons.mpr ⟨?m2, List.forall_mem_cons.mpr ⟨?m4, ?m3⟩⟩⟩; (case m1 => k_mem); (case m2 => k_mem); (case m4 => k_mem); (case m3 => intro p9 hp9; repeat (first | exact hp9 | apply List.mem_cons_of_mem)))); (case gl => (exact allLt_mem (by with_reducible assumption))); (case gd => (refine ltN ?_; omega)))
    | (fail "x")
end
/-! LawK -/
section

/-- what the row of numbers is -/
structure RowOk (r : List Int) : Prop where
  lo : 2 ≤ r.length
  hi : r.length ≤ 12
  num : ∀ x ∈ r, 1 ≤ x ∧ x ≤ 1001
  first : 2 ≤ r.getD 0 0
  last : 2 ≤ r.getD (r.length - 1) 0
theorem getD_at {r : List Int} {k : Nat} (h : k < r.length) : r.getD k 0 = r[k] := by
  rw [List.getD_eq_getElem?_getD, List.getElem?_eq_getElem h]; rfl
/-- a part, as it is written -/
noncomputable def pt (row : List Int) (tot : Int) (k : Int) : Str := wr (row.getD k.toNat 0) ((tot.fdiv 18 + k).fmod 4)
noncomputable def ptx (row : List Int) (tot : Int) (k : Nat) : List Nat := (pt row tot k).cps.toList
noncomputable def pts (row : List Int) (tot : Int) : List (List Nat) := (List.range row.length).map (ptx row tot)
noncomputable def AllOk (xs : List Str) : Prop := ∀ x ∈ xs, PyData.strOk x = true
/-- without the first and the last -/
noncomputable def mid {α : Type} (l : List α) : List α := (l.drop 1).take (l.length - 1 - 1)
structure PtsOk (row : List Int) (ps : List (List Nat)) : Prop where
  len : ps.length = row.length
  wd : ∀ p ∈ ps, Wd p
  small : ∀ p ∈ ps, p.length ≤ 6
  nums : Nums (ps.map tx) row
  ok : AllOk (ps.map tx)
/-- what the change by one asks -/
structure CF (row : List Int) (g f b c m : Int) : Prop where
  p1 : 0 < f * b - c
  b1 : Bnd 390 (f * b - c)
  q : (f * b - c).fdiv g = m
  r : (f * b - c).fmod g = 0
  p2 : 0 < f * f - c
  b2 : Bnd 390 (f * f - c)
  pal : (f * f - c).fmod g = 0 ↔ row = row.reverse
/-- the row's mathematics -/
structure LF (row : List Int) (g f b m : Int) : Prop where
  g0 : 0 < g
  f0 : 0 ≤ f
  b0 : 0 ≤ b
  bg : Bnd 390 g
  bf : Bnd 390 f
  bb : Bnd 390 b
  qf : euq g f = row.reverse
  qb : euq g b = row
  odd : (row.length : Int).fmod 2 = 1 → CF row g f b 1 m
  even : (row.length : Int).fmod 2 ≠ 1 → CF row g f b (-1) m
end
/-! Pl -/
section

theorem nums_snoc {xs : List Str} {ns : List Int} (h : Nums xs ns) {x : Str} {n : Int} (hx : Num x n) : Nums (xs ++ [x]) (ns ++ [n]) := by
  induction h with
  | nil => exact .cons hx .nil
  | cons h _ ih => exact .cons h ih
theorem nums_rev' {xs : List Str} {ns : List Int} (h : Nums xs ns) : Nums xs.reverse ns.reverse := by
  induction h with
  | nil => exact .nil
  | cons h _ ih => rw [List.reverse_cons, List.reverse_cons]; exact nums_snoc ih h
theorem nums_drop {xs : List Str} {ns : List Int} (h : Nums xs ns) : ∀ k, Nums (xs.drop k) (ns.drop k) := by
  induction h with
  | nil => intro k; rw [List.drop_nil, List.drop_nil]; exact .nil
  | cons h r ih =>
    intro k
    cases k with
    | zero => exact .cons h r
    | succ k => exact ih k
theorem nums_take {xs : List Str} {ns : List Int} (h : Nums xs ns) : ∀ k, Nums (xs.take k) (ns.take k) := by
  induction h with
  | nil => intro k; rw [List.take_nil, List.take_nil]; exact .nil
  | cons h r ih =>
    intro k
    cases k with
    | zero => exact .nil
    | succ k => exact .cons h (ih k)
theorem nums_mid' {xs : List Str} {ns : List Int} (h : Nums xs ns) : Nums (mid xs) (mid ns) := by
  unfold mid
  rw [nums_len h]
  exact nums_take (nums_drop h 1) _
/-- Euler's polynomial, from behind -/
noncomputable def K : List Int → Int
  | [] => 1
  | [a] => a
  | a :: b :: r => a * K (b :: r) + K r
theorem K_cons (a b : Int) (r : List Int) : K (a :: b :: r) = a * K (b :: r) + K r := rfl
/-- what the fold has: great and the one ahead -/
noncomputable def Kt (l : List Int) : Int := match l with | [] => 0 | _ :: r => K r
theorem K_step (a : Int) (l : List Int) : K (a :: l) = a * K l + Kt l := by
  cases l with
  | nil => simp [K, Kt]
  | cons b r => rfl
theorem fol_K : ∀ l : List Int, fol l.reverse = (K l, Kt l)
  | [] => rfl
  | a :: l => by
    rw [List.reverse_cons, fol_snoc, fol_K l, K_step]
    rfl
/-- the product law: two rows glued -/
theorem K_app : ∀ (l : List Int) (a : Int), K (l ++ [a]) = K l * a + K l.dropLast * (if l = [] then 0 else 1)
  | [], a => by simp [K]
  | [b], a => by simp [K]
  | [b, c], a => by simp [K, Int.add_mul, Int.mul_add, Int.mul_assoc]; omega
  | b :: c :: d :: l, a => by
    have h1 := K_app (c :: d :: l) a
    have h2 := K_app (d :: l) a
    have e1 : K (b :: c :: d :: l ++ [a]) = b * K (c :: d :: l ++ [a]) + K (d :: l ++ [a]) := rfl
    have e2 : K (b :: c :: d :: l) = b * K (c :: d :: l) + K (d :: l) := rfl
    have e3 : (b :: c :: d :: l).dropLast = b :: c :: (d :: l).dropLast := rfl
    have e4 : (c :: d :: l).dropLast = c :: (d :: l).dropLast := rfl
    have e5 : K (b :: c :: (d :: l).dropLast) = b * K (c :: (d :: l).dropLast) + K (d :: l).dropLast := rfl
    rw [e1, h1, h2, e2, e3, e4, e5]
    simp only [List.cons_ne_nil, if_false, Int.mul_one, reduceCtorEq]
    rw [Int.mul_add, Int.add_mul, Int.mul_assoc]
    omega
theorem K_snoc {l : List Int} (h : l ≠ []) (a : Int) : K (l ++ [a]) = K l * a + K l.dropLast := by
  rw [K_app, if_neg h, Int.mul_one]
theorem K_rev : ∀ (n : Nat) (l : List Int), l.length ≤ n → K l.reverse = K l
  | _, [], _ => rfl
  | _, [a], _ => rfl
  | 0, _ :: _ :: _, h => by simp at h
  | n + 1, a :: b :: r, h => by
    have h1 := K_rev n (b :: r) (by simp at h ⊢; omega)
    have h2 := K_rev n r (by simp at h ⊢; omega)
    rw [List.reverse_cons, K_snoc (by simp), h1]
    have e : (b :: r).reverse.dropLast = r.reverse := by rw [List.reverse_cons, List.dropLast_concat]
    rw [e, h2, K_cons, Int.mul_comm]
theorem K_reverse (l : List Int) : K l.reverse = K l := K_rev _ l (Nat.le_refl _)
/-- the row is told by fol -/
theorem fol_row (l : List Int) : fol l = (K l, Kt l.reverse) := by
  have := fol_K l.reverse
  rw [List.reverse_reverse, K_reverse] at this
  exact this
noncomputable def sg (n : Nat) : Int := if n % 2 = 1 then 1 else -1
/-- Euler's identity -/
theorem K_id : ∀ (l : List Int) (a b : Int), K (a :: l ++ [b]) * K l - K (a :: l) * K (l ++ [b]) = - sg (l.length + 2)
  | [], a, b => by simp [K, sg]; omega
  | [c], a, b => by simp [K, sg, Int.add_mul, Int.mul_add, Int.mul_assoc, Int.mul_comm, Int.mul_left_comm]; omega
  | c :: d :: r, a, b => by
    have ih := K_id (d :: r) c b
    have e1 : K (a :: c :: d :: r ++ [b]) = a * K (c :: d :: r ++ [b]) + K (d :: r ++ [b]) := rfl
    have e2 : K (a :: c :: d :: r) = a * K (c :: d :: r) + K (d :: r) := rfl
    have e3 : sg ((c :: d :: r).length + 2) = - sg ((d :: r).length + 2) := by
      unfold sg
      simp only [List.length_cons]
      by_cases hh : (r.length + 1 + 2) % 2 = 1
      · rw [if_pos hh, if_neg (by omega)]
      · rw [if_neg hh, if_pos (by omega)]; rfl
    rw [e1, e2, e3]
    have e4 : K (c :: (d :: r) ++ [b]) = K (c :: d :: r ++ [b]) := rfl
    rw [e4] at ih
    generalize K (c :: d :: r ++ [b]) = x at *
    generalize K (d :: r ++ [b]) = y at *
    generalize K (c :: d :: r) = u at *
    generalize K (d :: r) = v at *
    generalize sg ((d :: r).length + 2) = z at *
    have p1 : (a * x + y) * u = a * (x * u) + y * u := by rw [Int.add_mul, Int.mul_assoc]
    have p2 : (a * u + v) * x = a * (x * u) + x * v := by rw [Int.add_mul, Int.mul_assoc, Int.mul_comm u x, Int.mul_comm v x]
    rw [p1, p2]
    rw [Int.mul_comm u y] at ih
    first | omega | (rw [Int.mul_comm v x] at ih; omega)
end
/-! Pl2 -/
section

theorem K_pos : ∀ {l : List Int}, (∀ x ∈ l, 1 ≤ x) → 1 ≤ K l
  | [], _ => by simp [K]
  | [a], h => by simpa [K] using h a (.head _)
  | a :: b :: r, h => by
    have h1 := K_pos (l := b :: r) fun x hx => h x (.tail _ hx)
    have h2 := K_pos (l := r) fun x hx => h x (.tail _ (.tail _ hx))
    have ha := h a (.head _)
    rw [K_cons]
    have : 1 * 1 ≤ a * K (b :: r) := Int.mul_le_mul ha h1 (by omega) (by omega)
    omega
theorem Kt_nonneg {l : List Int} (h : ∀ x ∈ l, 1 ≤ x) : 0 ≤ Kt l := by
  cases l with
  | nil => exact Int.le_refl _
  | cons a r => have := K_pos (l := r) fun x hx => h x (.tail _ hx); show 0 ≤ K r; omega
theorem Kt_lt : ∀ {l : List Int} (_ : l ≠ []), (∀ x ∈ l, 1 ≤ x) → 2 ≤ l.getLastD 0 → Kt l < K l
  | [], h, _, _ => absurd rfl h
  | [a], _, _, h2 => by
    show (1 : Int) < a
    simp at h2
    omega
  | a :: b :: r, _, h, _ => by
    have h1 := K_pos (l := b :: r) fun x hx => h x (.tail _ hx)
    have h2 := K_pos (l := r) fun x hx => h x (.tail _ (.tail _ hx))
    have ha := h a (.head _)
    show K (b :: r) < a * K (b :: r) + K r
    have : 1 * K (b :: r) ≤ a * K (b :: r) := Int.mul_le_mul_of_nonneg_right ha (by omega)
    omega
theorem euq_K : ∀ {l : List Int}, l ≠ [] → (∀ x ∈ l, 1 ≤ x) → 2 ≤ l.getLastD 0 → euq (K l) (Kt l) = l
  | [], h, _, _ => absurd rfl h
  | [a], _, h, _ => by
    have ha := h a (.head _)
    show euq a 1 = [a]
    rw [euq_pos (by decide)]
    have e1 : a.fdiv 1 = a := by simp
    have e2 : a.fmod 1 = 0 := by simp
    rw [e1, e2, euq_zero (by decide)]
  | a :: b :: r, _, h, h2 => by
    have hh : ∀ x ∈ b :: r, 1 ≤ x := fun x hx => h x (.tail _ hx)
    have hl : 2 ≤ (b :: r).getLastD 0 := by simpa using h2
    have ih := euq_K (l := b :: r) (by simp) hh hl
    have h1 := K_pos hh
    have h3 := Kt_lt (l := b :: r) (by simp) hh hl
    have h4 := Kt_nonneg hh
    rw [show Kt (a :: b :: r) = K (b :: r) from rfl, K_step, euq_pos (by omega)]
    have e1 : (a * K (b :: r) + Kt (b :: r)).fdiv (K (b :: r)) = a := by
      rw [Int.fdiv_eq_ediv_of_nonneg _ (by omega), Int.add_comm, Int.add_mul_ediv_right _ _ (by omega), Int.ediv_eq_zero_of_lt h4 h3]; omega
    have e2 : (a * K (b :: r) + Kt (b :: r)).fmod (K (b :: r)) = Kt (b :: r) := by
      rw [Int.fmod_eq_emod_of_nonneg _ (by omega), Int.add_comm, Int.add_mul_emod_self_right, Int.emod_eq_of_lt h4 h3]
    rw [e1, e2, ih]
end
/-! Pl3 -/
section

/-- a row, opened at both ends -/
theorem row_ends {l : List Int} (h : 2 ≤ l.length) : ∃ a m z, l = a :: m ++ [z] := by
  cases l with
  | nil => simp at h
  | cons a r =>
    have hr : r ≠ [] := by intro q; rw [q] at h; simp at h
    exact ⟨a, r.dropLast, r.getLast hr, by rw [List.cons_append, List.dropLast_concat_getLast]⟩
theorem mid_ends {a z : Int} {m : List Int} : mid (a :: m ++ [z]) = m := by
  unfold mid
  have e : (a :: m ++ [z]).length - 1 - 1 = m.length := by simp
  rw [e]
  show List.take m.length (m ++ [z]) = m
  rw [List.take_left]
theorem Kt_front {a z : Int} {m : List Int} : Kt (a :: m ++ [z]).reverse = K (a :: m) := by
  rw [List.reverse_append]
  show K ((a :: m).reverse) = _
  exact K_reverse _
theorem Kt_behind {a z : Int} {m : List Int} : Kt (a :: m ++ [z]) = K (m ++ [z]) := rfl
theorem fol_fst (l : List Int) : (fol l).1 = K l := by rw [fol_row]
/-- a number that is prime to great: two numbers with the same product part by it -/
theorem gcd_row : ∀ (l : List Int), ∃ u v : Int, u * K l + v * Kt l = 1
  | [] => ⟨1, 0, by simp [K]⟩
  | [a] => ⟨0, 1, by simp [K, Kt]⟩
  | a :: b :: r => by
    obtain ⟨u, v, h⟩ := gcd_row (b :: r)
    refine ⟨v, u - v * a, ?_⟩
    rw [show Kt (a :: b :: r) = K (b :: r) from rfl, K_step]
    rw [Int.mul_add, Int.sub_mul, Int.mul_assoc v a]
    omega
theorem same_rest {g f b : Int} (hg : 0 < g) (hf : 0 ≤ f) (hb : 0 ≤ b) (hfg : f < g) (hbg : b < g) {u v : Int} (hu : u * g + v * f = 1) (h : g ∣ f * f - f * b) : f = b := by
  obtain ⟨c, hc⟩ := h
  have h1 : f - b = g * (u * (f - b) + v * c) := by
    have e1 : f * (f - b) = g * c := by rw [Int.mul_sub]; exact hc
    have e2 : f - b = (u * g + v * f) * (f - b) := by rw [hu, Int.one_mul]
    rw [Int.add_mul, Int.mul_assoc v, e1] at e2
    rw [Int.mul_add]
    have e3 : u * g * (f - b) = g * (u * (f - b)) := by rw [Int.mul_comm u g, Int.mul_assoc]
    have e4 : v * (g * c) = g * (v * c) := by rw [Int.mul_left_comm]
    omega
  generalize u * (f - b) + v * c = k at h1
  rcases Int.lt_trichotomy k 0 with hk | hk | hk
  · have : g * k ≤ g * (-1) := Int.mul_le_mul_of_nonneg_left (by omega) (by omega)
    omega
  · rw [hk, Int.mul_zero] at h1; omega
  · have : g * 1 ≤ g * k := Int.mul_le_mul_of_nonneg_left (by omega) (by omega)
    omega
end
/-! Pl4 -/
section

theorem bnd_to {m : Nat} {x : Int} {n : Nat} (h : Bnd (13 * n + 1) x) (hn : n ≤ 12) (hm : m = 157) : Bnd m x := h.mono (by omega)
theorem ends_pos {r : List Int} (h : RowOk r) : ∀ x ∈ r, 1 ≤ x := fun x hx => (h.num x hx).1
theorem last_of {r : List Int} (h : RowOk r) : 2 ≤ r.getLastD 0 := by
  have h1 := h.last
  have h2 := h.lo
  have hne : r ≠ [] := by intro q; rw [q] at h2; simp at h2
  have e : r.getLastD 0 = r.getD (r.length - 1) 0 := by
    rw [List.getLastD_eq_getLast?, List.getLast?_eq_getElem?, List.getD_eq_getElem?_getD]
  rw [e]; exact h1
theorem first_of {r : List Int} (h : RowOk r) : 2 ≤ r.reverse.getLastD 0 := by
  have h1 := h.first
  have e : r.reverse.getLastD 0 = r.getD 0 0 := by
    rw [List.getLastD_eq_getLast?, List.getLast?_reverse, List.head?_eq_getElem?, List.getD_eq_getElem?_getD]
  rw [e]; exact h1
/-- one side of the change by one -/
theorem cf_of {row : List Int} {g f b c m : Int} (hg : 0 < g) (hf2 : 2 ≤ f) (hb2 : 2 ≤ b) (hfg : f < g) (hbg : b < g) (Bf : Bnd 157 f) (Bb : Bnd 157 b) (hc : c = 1 ∨ c = -1) (hid : f * b - c = g * m) {u v : Int} (hu : u * g + v * f = 1) (qf : euq g f = row.reverse) (qb : euq g b = row) (sym : row = row.reverse → f = b) : CF row g f b c m := by
  have hfb : 2 * 2 ≤ f * b := Int.mul_le_mul hf2 hb2 (by omega) (by omega)
  have hff : 2 * 2 ≤ f * f := Int.mul_le_mul hf2 hf2 (by omega) (by omega)
  have B1 := bits_mul Bf Bb
  have B2 := bits_mul Bf Bf
  have add1 : ∀ {x : Int}, Bnd (157 + 157) x → 4 ≤ x → Bnd 390 (x - c) := fun {x} hx h4 => by
    have h1 : Bnd 1 (1 : Int) := ⟨by decide, by decide +kernel⟩
    have h2 := bits_add hx h1
    exact (h2.le (by omega) (by omega)).mono (by decide)
  refine ⟨by omega, add1 B1 hfb, ?_, ?_, by omega, add1 B2 hff, ?_⟩
  · rw [hid, Int.mul_comm, Int.fdiv_eq_ediv_of_nonneg _ (by omega), Int.mul_ediv_cancel _ (by omega)]
  · rw [hid, Int.fmod_eq_emod_of_nonneg _ (by omega), Int.mul_emod_right]
  · constructor
    · intro h
      rw [Int.fmod_eq_emod_of_nonneg _ (by omega)] at h
      have d1 : g ∣ f * f - c := Int.dvd_of_emod_eq_zero h
      have d2 : g ∣ f * b - c := ⟨m, hid⟩
      have d3 : g ∣ f * f - f * b := by
        have := Int.dvd_sub d1 d2
        rwa [show f * f - c - (f * b - c) = f * f - f * b by omega] at this
      have e := same_rest hg (by omega) (by omega) hfg hbg hu d3
      rw [e] at qf
      exact qb.symm.trans qf
    · intro h
      have e := sym h
      rw [show f * f - c = f * b - c by rw [← e]]
      rw [hid, Int.fmod_eq_emod_of_nonneg _ (by omega), Int.mul_emod_right]
theorem sg_odd {n : Nat} (h : (n : Int).fmod 2 = 1) : sg n = 1 := by
  rw [Int.fmod_eq_emod_of_nonneg _ (by decide)] at h
  unfold sg
  rw [if_pos (by omega)]
theorem sg_even {n : Nat} (h : (n : Int).fmod 2 ≠ 1) : sg n = -1 := by
  rw [Int.fmod_eq_emod_of_nonneg _ (by decide)] at h
  unfold sg
  rw [if_neg (by omega)]
theorem lf_row {row : List Int} {g f o b : Int} (hr : RowOk row) (h1 : fol row = (g, f)) (h2 : fol row.reverse = (o, b)) (Bg : Bnd (13 * row.length + 1) g) (Bf : Bnd (13 * row.length + 1) f) (Bb : Bnd (13 * row.reverse.length + 1) b) : o = g ∧ LF row g f b (fol (mid row)).1 := by
  have hpos := ends_pos hr
  have hposr : ∀ x ∈ row.reverse, 1 ≤ x := fun x hx => hpos x (List.mem_reverse.mp hx)
  have hhi := hr.hi
  have hlo := hr.lo
  have hne : row ≠ [] := by intro q; rw [q] at hlo; simp at hlo
  have hner : row.reverse ≠ [] := by simpa using hne
  rw [List.length_reverse] at Bb
  have Bg' := bnd_to (m := 157) Bg hhi rfl
  have Bf' := bnd_to (m := 157) Bf hhi rfl
  have Bb' := bnd_to (m := 157) Bb hhi rfl
  rw [fol_row] at h1 h2
  have eg : g = K row := (congrArg Prod.fst h1).symm
  have ef : f = Kt row.reverse := (congrArg Prod.snd h1).symm
  have eo : o = K row := ((congrArg Prod.fst h2).symm).trans (K_reverse row)
  have eb : b = Kt row := by have := (congrArg Prod.snd h2).symm; rw [List.reverse_reverse] at this; exact this
  refine ⟨eo.trans eg.symm, ?_⟩
  have qf : euq g f = row.reverse := by
    have := euq_K hner hposr (first_of hr)
    rw [K_reverse] at this
    rw [eg, ef]; exact this
  have qb : euq g b = row := by rw [eg, eb]; exact euq_K hne hpos (last_of hr)
  have hg := K_pos hpos
  have hfg := Kt_lt hner hposr (first_of hr)
  rw [K_reverse] at hfg
  have hbg := Kt_lt hne hpos (last_of hr)
  obtain ⟨a, m, z, hrow⟩ := row_ends hlo
  obtain ⟨u, v, huv⟩ := gcd_row row.reverse
  rw [K_reverse] at huv
  have sym : row = row.reverse → f = b := fun h => by rw [ef, eb, ← h]
  have hid : f * b - sg row.length = g * (fol (mid row)).1 := by
    have h := K_id m a z
    have e1 : row.length = m.length + 2 := by rw [hrow]; simp
    rw [fol_fst, eg, ef, eb, hrow, mid_ends, Kt_front, Kt_behind]
    rw [hrow] at e1
    rw [e1]
    omega
  have hf2 : 2 ≤ f := by
    rw [ef, hrow, Kt_front]
    have ha : 2 ≤ a := by have := hr.first; rw [hrow] at this; simpa using this
    cases m with
    | nil => simpa [K] using ha
    | cons c m' =>
      have h3 : 1 ≤ K (c :: m') := K_pos fun x hx => hpos x (by rw [hrow]; exact List.mem_append_left _ (List.mem_cons_of_mem _ hx))
      have h4 : 0 ≤ K m' := by
        have := K_pos (l := m') fun x hx => hpos x (by rw [hrow]; exact List.mem_append_left _ (List.mem_cons_of_mem _ (List.mem_cons_of_mem _ hx)))
        omega
      rw [K_cons]
      have : 2 * 1 ≤ a * K (c :: m') := Int.mul_le_mul ha h3 (by omega) (by omega)
      omega
  have hb2 : 2 ≤ b := by
    rw [eb, hrow, Kt_behind]
    have hz : 2 ≤ z := by have := last_of hr; rw [hrow, List.getLastD_eq_getLast?, List.getLast?_concat] at this; exact this
    rw [← K_reverse, List.reverse_append]
    show 2 ≤ K (z :: m.reverse)
    cases e : m.reverse with
    | nil => simpa [K] using hz
    | cons c m' =>
      have hm : ∀ x ∈ c :: m', 1 ≤ x := fun x hx => hpos x (by rw [hrow]; exact List.mem_append_left _ (List.mem_cons_of_mem _ (List.mem_reverse.mp (by rw [e]; exact hx))))
      have h3 : 1 ≤ K (c :: m') := K_pos hm
      have h4 : 1 ≤ K m' := K_pos fun x hx => hm x (.tail _ hx)
      rw [K_cons]
      have : 2 * 1 ≤ z * K (c :: m') := Int.mul_le_mul hz h3 (by omega) (by omega)
      omega
  have hu : u * g + v * f = 1 := by rw [eg, ef]; exact huv
  refine ⟨by omega, by omega, by omega, Bg'.mono (by decide), Bf'.mono (by decide), Bb'.mono (by decide), qf, qb, fun h => ?_, fun h => ?_⟩
  · rw [sg_odd h] at hid
    exact cf_of (by omega) hf2 hb2 (by omega) (by omega) Bf' Bb' (.inl rfl) hid hu qf qb sym
  · rw [sg_even h] at hid
    exact cf_of (by omega) hf2 hb2 (by omega) (by omega) Bf' Bb' (.inr rfl) hid hu qf qb sym
end
/-! Pl5 -/
section

theorem slice_drop1 (l : List Nat) : Txt.slice (tx l) (some 1) none = tx (l.drop 1) := by
  cases l with
  | nil => rw [slice_beyond (by rw [tx_len]; decide)]; rfl
  | cons c r =>
    rw [slice_from_eq (b := (tx (c :: r)).length) (by decide) (by rw [tx_len]; simp only [List.length_cons]; omega) rfl]
    rw [tx_list, tx_len]
    show tx (List.take _ r) = tx r
    rw [List.take_of_length_le (by simp only [List.length_cons]; omega)]
structure Nums1 (ms : List Int) : Prop where
  lo : 2 ≤ ms.length
  hi : ms.length ≤ 12
  num : ∀ x ∈ ms, 1 ≤ x ∧ x ≤ 1000
theorem bump_ok {ms : List Int} (h : Nums1 ms) : RowOk (bump ms) := by
  obtain ⟨lo, hi, num⟩ := h
  obtain ⟨a, m, z, rfl⟩ := row_ends lo
  have ha := num a (by simp)
  have hz := num z (by simp)
  have e1 : (a :: m ++ [z]).set 0 ((a :: m ++ [z]).getD 0 0 + 1) = (a + 1) :: m ++ [z] := by simp
  have e2 : ((a + 1) :: m ++ [z]).length - 1 = ((a + 1) :: m).length := by simp
  have e3 : ((a + 1) :: m ++ [z]).getD ((a + 1) :: m).length 0 = z := by
    rw [List.getD_eq_getElem?_getD, List.getElem?_append_right (Nat.le_refl _), Nat.sub_self]; rfl
  have e4 : ((a + 1) :: m ++ [z]).set ((a + 1) :: m).length (z + 1) = (a + 1) :: m ++ [z + 1] := by
    rw [List.set_append_right _ _ (Nat.le_refl _), Nat.sub_self]; rfl
  have e : bump (a :: m ++ [z]) = (a + 1) :: m ++ [z + 1] := by
    unfold bump
    rw [e1, e2, e3, e4]
  rw [e]
  refine ⟨by simp, by simpa using hi, ?_, ?_, ?_⟩
  · intro x hx
    rcases List.mem_append.mp hx with hx | hx
    · rcases List.mem_cons.mp hx with rfl | hx
      · omega
      · have := num x (by simp [hx]); omega
    · rw [List.mem_singleton.mp hx]; omega
  · show 2 ≤ a + 1
    omega
  · have e5 : ((a + 1) :: m ++ [z + 1]).length - 1 = ((a + 1) :: m).length := by simp
    rw [e5, List.getD_eq_getElem?_getD, List.getElem?_append_right (Nat.le_refl _), Nat.sub_self]
    show 2 ≤ z + 1
    omega
theorem base4_ok (ns : List Int) : 2 ≤ (base4 ns).length ∧ (base4 ns).length ≤ 6 ∧ ∀ x ∈ base4 ns, 1 ≤ x ∧ x ≤ 1000 := by
  have hl : (base4 ns).length = min 4 ns.length + 2 := by
    unfold base4
    rw [List.length_map, List.length_append, List.length_take]; rfl
  refine ⟨by omega, by omega, fun x hx => ?_⟩
  unfold base4 at hx
  obtain ⟨a, _, rfl⟩ := List.mem_map.mp hx
  have h0 := Int.fmod_nonneg_of_pos a (by decide : (0 : Int) < 1000)
  have h1 := Int.fmod_lt_of_pos a (by decide : (0 : Int) < 1000)
  omega
theorem rowOk_is (ns : List Int) : RowOk (rowOf ns) := by
  obtain ⟨h1, h2, h3⟩ := base4_ok ns
  unfold rowOf
  refine bump_ok ?_
  split
  · refine ⟨by rw [List.length_append]; omega, by rw [List.length_append, List.length_reverse, List.length_take]; omega, fun x hx => ?_⟩
    rcases List.mem_append.mp hx with hx | hx
    · exact h3 x hx
    · exact h3 x (List.mem_of_mem_take (List.mem_reverse.mp hx))
  · split
    · refine ⟨by rw [List.length_append]; omega, by rw [List.length_append, List.length_reverse]; omega, fun x hx => ?_⟩
      rcases List.mem_append.mp hx with hx | hx
      · exact h3 x hx
      · exact h3 x (List.mem_reverse.mp hx)
    · exact ⟨h1, by omega, h3⟩
end
/-! Pl6 -/
section
open PySem.NumText
/-- the figures of a number -/
structure Figs (l : List Nat) (x : Int) : Prop where
  all : AllDigits l
  lo : 1 ≤ l.length
  hi : l.length ≤ 4
  val : (digitsVal l : Int) = x
theorem figs_of {x : Int} (h0 : 1 ≤ x) (h1 : x ≤ 1001) : Figs (Str.ofString (toString x)).cps.toList x := by
  have hl : (Str.ofString (toString x)).length ≤ 4 := toString_length_le (by omega) (by decide) (by omega)
  have hl' : (Str.ofString (toString x)).cps.toList.length = (Str.ofString (toString x)).length := Array.length_toList
  obtain ⟨m, rfl⟩ := Int.eq_ofNat_of_zero_le (show (0 : Int) ≤ x by omega)
  refine ⟨fun c hc => ?_, ?_, by omega, ?_⟩
  · rw [KIN.signs_num] at hc
    obtain ⟨ch, hch, e⟩ := List.mem_map.mp hc
    have r := digit_range (Nat.isDigit_of_mem_toDigits (by decide) (by decide) hch)
    rw [← e]
    exact r
  · rw [KIN.signs_num, List.length_map]
    exact toDigits_len_ge 10 m
  · rw [KIN.signs_num, KIN.val_back]
theorem ofList {x : Str} {l : List Nat} (h : x.cps.toList = l) : x = tx l := by
  subst h; rfl
/-- rstrip of figures, and of figures with a blank behind -/
theorem inR_fig {a b c : Nat} (h : b < c) : inR a b ⟨#[c]⟩ = false := by
  have : PySem.Spec.ltCps [b] [c] = true := by
    show (decide (b < c) || (b == c && PySem.Spec.ltCps [] [])) = true
    rw [decide_eq_true h]; rfl
  show (_ && !(PySem.Spec.ltCps [b] [c])) = false
  rw [this]; simp
theorem spS_fig {c : Nat} (h : 48 ≤ c) : spS ⟨#[c]⟩ = false := by
  unfold spS
  rw [inR_fig (by omega), inR_fig (by omega)]; rfl
theorem rstrip_none {l : List Nat} (h : ∀ c ∈ l, 48 ≤ c ∧ c < 128) : Txt.rstrip (tx l) = tx l := by
  obtain ⟨hi, h0, e, h1, _⟩ := rstrip_cut (x := tx l) (fun c hc => (h c hc).2)
  rw [tx_len] at h0 h1
  have : hi = l.length := by
    rcases Nat.lt_or_ge hi l.length with hlt | hge
    · exfalso
      have := h1 hi (Nat.le_refl _) hlt
      have hm : (tx l).cps.getD hi 0 = l[hi] := by simp [hlt]
      rw [hm, spS_fig (h _ (List.getElem_mem hlt)).1] at this
      cases this
    · omega
  rw [e, this]
  apply ofList
  show (Builtin.Str.strSub (tx l) 0 l.length).cps.toList = l
  show (l.toArray.extract 0 l.length).toList = l
  simp
theorem rstrip_blank {l : List Nat} (hne : l ≠ []) (h : ∀ c ∈ l, 48 ≤ c ∧ c < 128) : Txt.rstrip (tx (l ++ [32])) = tx l := by
  have hlen : (tx (l ++ [32])).length = l.length + 1 := by rw [tx_len]; simp
  obtain ⟨hi, h0, e, h1, h2⟩ := rstrip_cut (x := tx (l ++ [32])) (fun c hc => by
    rcases List.mem_append.mp hc with hc | hc
    · exact (h c hc).2
    · cases List.mem_singleton.mp hc; decide)
  rw [hlen] at h0 h1
  have : hi = l.length := by
    rcases Nat.lt_trichotomy hi l.length with hlt | heq | hgt
    · exfalso
      have := h1 hi (Nat.le_refl _) (by omega)
      have hm : (tx (l ++ [32])).cps.getD hi 0 = l[hi] := by
        simp [List.getElem?_append_left hlt, hlt]
      rw [hm, spS_fig (h _ (List.getElem_mem hlt)).1] at this
      cases this
    · exact heq
    · exfalso
      have hh : hi = l.length + 1 := by omega
      rcases h2 with h2 | h2
      · omega
      · have hm : (tx (l ++ [32])).cps.getD (hi - 1) 0 = 32 := by
          rw [hh]; simp
        rw [hm] at h2
        exact absurd h2 (by decide)
  rw [e, this]
  apply ofList
  show ((l ++ [32]).toArray.extract 0 l.length).toList = l
  simp
theorem und : Str.ofString "_" = ⟨#[95]⟩ := by decide +kernel
theorem emp : Str.ofString "" = ⟨#[]⟩ := by decide +kernel
theorem rep_is (l : List Nat) : Txt.replace (tx l) (Str.ofString "_") (Str.ofString "") = tx (l.filter (· != 95)) := by
  rw [und, emp]
  exact ofList (replace_strikes (tx l) 95)
theorem filter_figs {l : List Nat} (h : AllDigits l) : l.filter (· != 95) = l := by
  rw [List.filter_eq_self]
  intro c hc
  have := h c hc
  exact bne_iff_ne.mpr (by omega)
theorem num_tx {l q p : List Nat} {x : Int} (hx : 1 ≤ x ∧ x ≤ 1001) (hq : q = l ∨ q = 48 :: l) (F : Figs l x) (e : Txt.replace (Txt.rstrip (tx p)) (Str.ofString "_") (Str.ofString "") = tx q) (hp : p.length ≤ 6) : Num (tx p) x := by
  have hF := F.hi
  have hlo := F.lo
  have hql : q.length ≤ 5 := by
    rcases hq with rfl | rfl
    · omega
    · simp only [List.length_cons]; omega
  have hqd : AllDigits q := by
    rcases hq with rfl | rfl
    · exact F.all
    · intro c hc
      rcases List.mem_cons.mp hc with rfl | hc
      · decide
      · exact F.all c hc
  have hqn : q ≠ [] := by
    rcases hq with rfl | rfl
    · intro e; rw [e] at hlo; exact absurd hlo (by decide)
    · exact List.cons_ne_nil _ _
  have hqv : (digitsVal q : Int) = x := by
    rcases hq with rfl | rfl
    · exact F.val
    · exact F.val
  refine ⟨?_, ?_, by rw [tx_len]; omega, ⟨by omega, ?_⟩⟩
  · rw [e, intText_digits (x := tx q) hqd hqn (by rw [tx_len]; omega)]
    exact congrArg some hqv
  · rw [e, tx_len]; omega
  · exact intBits_le_of_natAbs (y := 1001) (by omega) (by decide)
theorem part_ok {l p : List Nat} {x : Int} (hx : 1 ≤ x ∧ x ≤ 1001) (F : Figs l x) (hp : p = l ∨ p = 48 :: l ∨ p = l.take 1 ++ 95 :: l.drop 1 ∨ p = l ++ [32]) :
    Wd p ∧ p.length ≤ 6 ∧ PyData.strOk (tx p) = true ∧ Num (tx p) x := by
  have hF := F.hi
  have hlo := F.lo
  have hall := F.all
  have hne : l ≠ [] := by intro e; rw [e] at hlo; exact absurd hlo (by decide)
  have key : p ≠ [] ∧ p.length ≤ 6 ∧ ∀ c ∈ p, c = 32 ∨ c = 95 ∨ (48 ≤ c ∧ c ≤ 57) := by
    rcases hp with rfl | rfl | rfl | rfl
    · exact ⟨hne, by omega, fun c hc => .inr (.inr (hall c hc))⟩
    · refine ⟨List.cons_ne_nil _ _, by simp only [List.length_cons]; omega, fun c hc => ?_⟩
      rcases List.mem_cons.mp hc with rfl | hc
      · exact .inr (.inr (by decide))
      · exact .inr (.inr (hall c hc))
    · refine ⟨by simp, by simp only [List.length_append, List.length_cons, List.length_take, List.length_drop]; omega, fun c hc => ?_⟩
      rcases List.mem_append.mp hc with hc | hc
      · exact .inr (.inr (hall c (List.mem_of_mem_take hc)))
      · rcases List.mem_cons.mp hc with rfl | hc
        · exact .inr (.inl rfl)
        · exact .inr (.inr (hall c (List.mem_of_mem_drop hc)))
    · refine ⟨by simp, by simp only [List.length_append, List.length_cons, List.length_nil]; omega, fun c hc => ?_⟩
      rcases List.mem_append.mp hc with hc | hc
      · exact .inr (.inr (hall c hc))
      · exact .inl (List.mem_singleton.mp hc)
  obtain ⟨k1, k2, k3⟩ := key
  refine ⟨⟨k1, fun c hc => ?_⟩, k2, ?_, ?_⟩
  · have := k3 c hc
    exact ⟨by omega, by omega, by omega, by omega, by omega⟩
  · show (tx p).cps.all (fun c => decide (c < 0x110000)) = true
    rw [← Array.all_toList, List.all_eq_true]
    intro c hc
    have := k3 c hc
    exact decide_eq_true (by omega)
  · have dig : ∀ c ∈ l, 48 ≤ c ∧ c < 128 := fun c hc => by have := hall c hc; omega
    rcases hp with rfl | rfl | rfl | rfl
    · refine num_tx hx (.inl rfl) F ?_ k2
      rw [rstrip_none dig, rep_is, filter_figs hall]
    · refine num_tx hx (.inr rfl) F ?_ k2
      rw [rstrip_none (fun c hc => by
        rcases List.mem_cons.mp hc with rfl | hc
        · decide
        · exact dig c hc), rep_is, filter_figs (fun c hc => by
        rcases List.mem_cons.mp hc with rfl | hc
        · decide
        · exact hall c hc)]
    · refine num_tx hx (.inl rfl) F ?_ k2
      rw [rstrip_none (fun c hc => by
        rcases List.mem_append.mp hc with hc | hc
        · exact dig c (List.mem_of_mem_take hc)
        · rcases List.mem_cons.mp hc with rfl | hc
          · decide
          · exact dig c (List.mem_of_mem_drop hc)), rep_is, List.filter_append]
      have e2 : (95 :: l.drop 1).filter (· != 95) = (l.drop 1).filter (· != 95) := rfl
      rw [e2, ← List.filter_append, List.take_append_drop, filter_figs hall]
    · refine num_tx hx (.inl rfl) F ?_ k2
      rw [rstrip_blank hne dig, rep_is, filter_figs hall]
theorem slice_take1 {l : List Nat} (h : 1 ≤ l.length) : Txt.slice (tx l) none (some 1) = tx (l.take 1) := by
  have := eq_of_beq (slice_closes_toL (x := tx l) (j := 1) (by decide) (by rw [tx_len]; omega))
  rw [this, tx_list]
  rfl
theorem wr_list {x y : Int} {l : List Nat} (hl : l = (Str.ofString (toString x)).cps.toList) (h1 : 1 ≤ l.length) :
    (wr x y).cps.toList = l ∨ (wr x y).cps.toList = 48 :: l ∨ (wr x y).cps.toList = l.take 1 ++ 95 :: l.drop 1 ∨ (wr x y).cps.toList = l ++ [32] := by
  have e : Str.ofString (toString x) = tx l := ofList hl.symm
  unfold wr
  split
  · exact .inl hl.symm
  · split
    · refine .inr (.inl ?_)
      rw [Str.cps_append, Array.toList_append, ← hl]
      rfl
    · split
      · refine .inr (.inr (.inl ?_))
        rw [e, slice_take1 h1, slice_drop1, Str.cps_append, Str.cps_append, Array.toList_append, Array.toList_append, und, tx_list, tx_list]
        simp
      · refine .inr (.inr (.inr ?_))
        rw [Str.cps_append, Array.toList_append, ← hl]
        rfl
theorem pt_ok {row : List Int} (h : RowOk row) (tot : Int) {k : Nat} (hk : k < row.length) : Wd (ptx row tot k) ∧ (ptx row tot k).length ≤ 6 ∧ PyData.strOk (tx (ptx row tot k)) = true ∧ Num (tx (ptx row tot k)) row[k] := by
  have hx := h.num _ (List.getElem_mem hk)
  have e : row.getD k 0 = row[k] := getD_at hk
  have F := figs_of hx.1 hx.2
  refine part_ok hx F ?_
  show (wr (row.getD ((k : Nat) : Int).toNat 0) _).cps.toList = _ ∨ (wr (row.getD ((k : Nat) : Int).toNat 0) _).cps.toList = _ ∨ (wr (row.getD ((k : Nat) : Int).toNat 0) _).cps.toList = _ ∨ (wr (row.getD ((k : Nat) : Int).toNat 0) _).cps.toList = _
  rw [Int.toNat_natCast, e]
  exact wr_list rfl F.lo
theorem nums_map {f : Nat → Str} : ∀ {r : List Int} {ks : List Nat}, ks.length = r.length → (∀ (i : Nat) (h : i < r.length) (h' : i < ks.length), Num (f ks[i]) r[i]) → Nums (ks.map f) r
  | [], [], _, _ => .nil
  | n :: r, k :: ks, hl, h => .cons (h 0 (by simp) (by simp)) (nums_map (by simpa using hl) fun i h1 h2 => h (i + 1) (by simpa using h1) (by simpa using h2))
theorem pts_is {row : List Int} (h : RowOk row) (tot : Int) : PtsOk row (pts row tot) := by
  have key : ∀ p ∈ pts row tot, ∃ k, k < row.length ∧ p = ptx row tot k := by
    intro p hp
    obtain ⟨k, hk, e⟩ := List.mem_map.mp hp
    exact ⟨k, List.mem_range.mp hk, e.symm⟩
  refine ⟨by unfold pts; rw [List.length_map, List.length_range], ?_, ?_, ?_, ?_⟩
  · intro p hp
    obtain ⟨k, hk, rfl⟩ := key p hp
    exact (pt_ok h tot hk).1
  · intro p hp
    obtain ⟨k, hk, rfl⟩ := key p hp
    exact (pt_ok h tot hk).2.1
  · unfold pts
    rw [List.map_map]
    refine nums_map (by rw [List.length_range]) fun i h1 h2 => ?_
    rw [List.getElem_range]
    exact (pt_ok h tot h1).2.2.2
  · intro x hx
    obtain ⟨p, hp, rfl⟩ := List.mem_map.mp hx
    obtain ⟨k, hk, rfl⟩ := key p hp
    exact (pt_ok h tot hk).2.2.1
end
/-! LawR -/
section

theorem RowOk.size {r : List Int} {vs : List Value} (h : RowOk r) (hi : IntsAre vs r) : vs.toArray.size ≤ sizeLine := by
  rw [List.size_toArray, hi.length]
  exact Nat.le_trans (Nat.le_trans h.hi (by decide : 12 ≤ 1000)) (by decide)
theorem strs_rev {vs : List Value} {xs : List Str} (h : StrsAre vs xs) : StrsAre vs.reverse xs.reverse := by
  induction h with
  | nil => exact .nil
  | cons y t _ ih => rw [List.reverse_cons, List.reverse_cons]; exact strs_app ih (.cons y t .nil)
theorem row_c2 {prog : Program} {p : Program} {loose : List Str} {mean : ExcName → Option Value} {mg mb : Str → Option Value} (w : World) : ∀ (l : Addr) (vs : List Value) (ns : List Int) (rest : List (Addr × Obj)) (dp un : Nat) (gd : Option (List Code)) (cn : Str) (cs : Scope) (a : Addr) (ccd : Value) (cl : List (Str × Addr)) (outer : List Env) (A₀ : Around) (base h₀ : Heap) (L : Addr) (m : Str → Option Value) (s : Shared) (Q E : Value → Shared → Prop),
    Below A₀ base outer h₀ → Fr h₀ L s.heap m → (hd.heap_1 w.params).In h₀ → News h₀ L s.heap (rest) → Top p loose mean mg mb h₀ → cs.kind = .function → 80 < L →
    dp + 40 < recursionLimit → un + 400 < cLine → base.IsList l vs.toArray → IntsAre vs ns → ns.length ≤ 63 → NoL rest → 
    (∀ (d : Addr) (h' : Heap) (tk' : Nat) (ws : List Value) (n : Nat) (row : List Int), Fr h₀ L h' m → RowOk row → IntsAre ws row → News h₀ L h' ((d, W.listOf ws.toArray n) :: rest) → (∀ p ∈ rest, p.1 ≠ d) → Q (.ref d) { s with heap := h', toks := tk' }) →
      wpAny (model prog w) (ktrTop dp un gd cn cs L a ccd cl outer) (call (.ref 139) [.ref l]) Q E s := by
  intro l vs ns rest dp un gd cn cs a ccd cl outer A₀ base h₀ L m s Q E B F X N T hk hL hd hu hl hi hn hno hret
  exact row_c w l vs ns rest dp un gd cn cs a ccd cl outer A₀ base h₀ L m s Q E B F X N T hk hL hd hu hl hi hn hno (fun d h' tk' ws n F' hi' N' ho' => hret d h' tk' ws n (rowOf ns) F' (rowOk_is ns) hi' N' ho')

theorem len_row {prog : Program} {w : World} {A : Around} {E : Value → Shared → Prop} {s : Shared} {a : Addr} {vs : List Value} {r : List Int} {Q : Value → Shared → Prop} (hl : s.heap.IsList a vs.toArray) (hi : IntsAre vs r) (hr : RowOk r)
    (h : Q (.int r.length (s.toks + 1)) { s with toks := s.toks + 1 + 1 }) : wpAny (model prog w) A (call (.builtin "len") [.ref a]) Q E s := by
  have e : vs.toArray.size = r.length := by rw [List.size_toArray]; exact hi.length
  have := hr.hi
  refine len_list hl (by rw [e]; omega) ?_
  rw [e]
  exact h
theorem it_row {prog : Program} {w : World} {A : Around} {E : Value → Shared → Prop} {s : Shared} {D : Addr} {vs : List Value} {r : List Int} {k : Int} {u : Tok} {value slice : Expr} {Q : Value → Shared → Prop} (hl : s.heap.IsList D vs.toArray) (hi : IntsAre vs r) (h0 : 0 ≤ k) (h1 : k < (r.length : Int)) (hr : RowOk r) (h : ∀ t, Q (.int (r.getD k.toNat 0) t) s)
    (hb : subscripted slice false (.ref D) (.int k u) = operate [.ref D, .int k u] (getItem (.ref D) (.int k u)) := by with_unfolding_all rfl) :
    wpAny (model prog w) A (subscriptTail value slice (.ref D) (.int k u)) Q E s := by
  obtain ⟨t, ht⟩ := ints_get hi (k := k.toNat) (by omega)
  have := hr.hi
  exact tail_any hl.typeIs slot_list_getitem.lookup (wpAny_getItem_list hl h0 (by omega) (by simpa using ht) (h t)) hb
theorem row_small {r : List Int} (h : RowOk r) : Builtin.Range.small 0 (r.length : Int) 1 = true := by
  have := h.hi
  have e : r.length = 0 ∨ r.length = 1 ∨ r.length = 2 ∨ r.length = 3 ∨ r.length = 4 ∨ r.length = 5 ∨ r.length = 6 ∨ r.length = 7 ∨ r.length = 8 ∨ r.length = 9 ∨ r.length = 10 ∨ r.length = 11 ∨ r.length = 12 := by omega
  rcases e with e | e | e | e | e | e | e | e | e | e | e | e | e <;> (rw [e]; decide +kernel)
theorem row_line {r : List Int} (h : RowOk r) : r.length ≤ sizeLine := Nat.le_trans (Nat.le_trans h.hi (by decide : 12 ≤ 1000)) (by decide)
theorem RowOk.at0 {r : List Int} (h : RowOk r) {k : Int} (h0 : 0 ≤ k) (h1 : k < (r.length : Int)) : 0 ≤ r.getD k.toNat 0 := by
  have hk : k.toNat < r.length := by omega
  rw [getD_at hk]
  have := (h.num _ (List.getElem_mem hk)).1
  omega
theorem RowOk.at1 {r : List Int} (h : RowOk r) {k : Int} (h0 : 0 ≤ k) (h1 : k < (r.length : Int)) : r.getD k.toNat 0 ≤ 1001 := by
  have hk : k.toNat < r.length := by omega
  rw [getD_at hk]
  exact (h.num _ (List.getElem_mem hk)).2
theorem strs_snoc1 {vs : List Value} {xs : List Str} (h : StrsAre vs xs) (x : Str) (t : Tok) : StrsAre (vs ++ [.str x t]) (xs ++ [x]) := strs_app h (.cons x t .nil)
section
variable {prog : Program} {w : World} {A : Around} {h₀ : Heap} {L : Addr} {m : Str → Option Value} {env : Env} {elt : Expr} {x : Str} {scope : Scope} {cl : List (Str × Addr)} {s : Shared} {S : List (Addr × Obj) → Prop} {Fin : List Value → List (Addr × Obj) → Prop} {news : List (Addr × Obj)}
/-- a turn that gives a text -/
noncomputable def TxEl (news : List (Addr × Obj)) (r : Str) (y : Value) (news' : List (Addr × Obj)) : Prop := news' = news ∧ ∃ t : Tok, y = .str r t
theorem parts_rest {row ns : List Int} {ws vs : List Value} (_hr : IntsAre ws row) (_hi : IntsAre vs ns)
    (turn : ∀ (k : Int) t I oI C oC D m₂ ys h tk (E' : Value → Shared → Prop), 0 ≤ k → k < (row.length : Int) → LCg.NsObj oC m₂ → m₂ x = some (.int k t) → Fr h₀ L h m → News h₀ L h ((I, oI) :: (C, oC) :: (D, LCg.lst ys) :: news) → LCg.Off3 I C D news → ((@Ne Nat I C) ∧ (@Ne Nat I D) ∧ (@Ne Nat C D)) →
      wpAny (model prog w) A (eval elt (compEnvC scope cl C env)) (LCg.CompEnd h₀ L m { s with heap := h, toks := tk } I oI C oC D (LCg.lst ys) S (fun y news' => TxEl news (pt row ns.sum k) y news')) E' { s with heap := h, toks := tk })
    (fin : ∀ ys, StrsAre ys ((pts row ns.sum).map tx) → Fin ys news) : LCg.CompRest prog w A h₀ L m env elt x scope cl s S (fun i v => ∃ t, v = .int (0 + (i : Int)) t) Fin row.length 0 [] news := by
  have key : ∀ (j i : Nat) (ys : List Value), i + j = row.length → StrsAre ys (((List.range row.length).take i).map fun k => pt row ns.sum (k : Nat)) → LCg.CompRest prog w A h₀ L m env elt x scope cl s S (fun i v => ∃ t, v = .int (0 + (i : Int)) t) Fin j i ys news := by
    intro j
    induction j with
    | zero =>
      intro i ys hi hy
      refine LCg.CompRest.zero (fin ys ?_)
      rw [List.take_of_length_le (by rw [List.length_range]; omega)] at hy
      unfold pts
      rw [List.map_map]
      exact hy
    | succ j ih =>
      intro i ys hi hy
      refine LCg.CompRest.succ ?_
      rintro v I oI C oC D m₂ h tk E' ⟨t, rfl⟩ hC hx F N off ne
      rw [Int.zero_add] at hx
      refine wpAny_mono (turn i t I oI C oC D m₂ ys h tk E' (by omega) (by omega) hC hx F N off ne) (fun y s₂ hq => ?_) fun _ _ e => e
      obtain ⟨h', tk', nw, e, F', N', off', hS, hn, t', hy'⟩ := hq
      rw [hn] at N' off' hS
      refine ⟨h', tk', news, e, F', N', off', hS, ?_⟩
      rw [hy']
      refine ih (i + 1) _ (by omega) ?_
      have e2 : (List.range row.length).take (i + 1) = (List.range row.length).take i ++ [i] := by
        rw [List.take_add_one, List.getElem?_range (by omega)]; rfl
      rw [e2, List.map_append]
      exact strs_snoc1 hy _ _
  exact key row.length 0 [] (by omega) (by simp only [List.take_zero, List.map_nil]; exact .nil)
end

noncomputable def tails : List (List Nat) := [[], [58], [58, 32, 51, 46, 52], [10, 53, 58, 54, 46, 55], [58, 10, 46, 56], [58, 32, 34, 57, 46, 92, 58]]
noncomputable def tailOf (tot : Int) : List Nat := tails.getD ((tot.fdiv 3).fmod 6).toNat []
theorem tails_is : [Str.ofString "", Str.ofString ":", Str.ofString ": 3.4", Str.ofString "\n5:6.7", Str.ofString ":\n.8", Str.ofString ": \"9.\\:"] = tails.map tx := by decide +kernel
theorem strs_get {vs : List Value} {xs : List Str} (h : StrsAre vs xs) : ∀ {k : Nat} {y : Str}, xs[k]? = some y → ∃ t, vs[k]? = some (.str y t) := by
  induction h with
  | nil => intro k y h; simp at h
  | cons z t _ ih =>
    intro k y h
    cases k with
    | zero => simp at h; subst h; exact ⟨t, rfl⟩
    | succ k => exact ih (by simpa using h)
theorem it_tail {prog : Program} {w : World} {A : Around} {E : Value → Shared → Prop} {s : Shared} {D : Addr} {t1 t2 t3 t4 t5 t6 u : Tok} {tot : Int} {value slice : Expr} {Q : Value → Shared → Prop} (hl : s.heap.IsList D #[.str (Str.ofString "") t1, .str (Str.ofString ":") t2, .str (Str.ofString ": 3.4") t3, .str (Str.ofString "\n5:6.7") t4, .str (Str.ofString ":\n.8") t5, .str (Str.ofString ": \"9.\\:") t6])
    (h : ∀ t, Q (.str (tx (tailOf tot)) t) s)
    (hb : subscripted slice false (.ref D) (.int ((tot.fdiv 3).fmod 6) u) = operate [.ref D, .int ((tot.fdiv 3).fmod 6) u] (getItem (.ref D) (.int ((tot.fdiv 3).fmod 6) u)) := by with_unfolding_all rfl) :
    wpAny (model prog w) A (subscriptTail value slice (.ref D) (.int ((tot.fdiv 3).fmod 6) u)) Q E s := by
  have k0 := Int.fmod_nonneg_of_pos (tot.fdiv 3) (by decide : (0 : Int) < 6)
  have k1 := Int.fmod_lt_of_pos (tot.fdiv 3) (by decide : (0 : Int) < 6)
  have hS : StrsAre [.str (Str.ofString "") t1, .str (Str.ofString ":") t2, .str (Str.ofString ": 3.4") t3, .str (Str.ofString "\n5:6.7") t4, .str (Str.ofString ":\n.8") t5, .str (Str.ofString ": \"9.\\:") t6] (tails.map tx) := by
    rw [← tails_is]; exact .cons _ _ (.cons _ _ (.cons _ _ (.cons _ _ (.cons _ _ (.cons _ _ .nil)))))
  have hx : (tails.map tx)[((tot.fdiv 3).fmod 6).toNat]? = some (tx (tailOf tot)) := by
    rw [List.getElem?_map]
    unfold tailOf
    have hk : ((tot.fdiv 3).fmod 6).toNat < tails.length := by show _ < 6; omega
    rw [List.getD_eq_getElem?_getD, List.getElem?_eq_getElem hk]; rfl
  obtain ⟨t, ht⟩ := strs_get hS hx
  exact tail_any hl.typeIs slot_list_getitem.lookup (wpAny_getItem_list hl k0 (by omega) (by simpa using ht) (h t)) hb
theorem tailOk_all : ∀ k, k < 6 → TailOk (tails.getD k []) := by
  intro k hk
  have : k = 0 ∨ k = 1 ∨ k = 2 ∨ k = 3 ∨ k = 4 ∨ k = 5 := by omega
  rcases this with rfl | rfl | rfl | rfl | rfl | rfl
  · exact .inl rfl
  all_goals exact .inr ⟨_, _, rfl, by decide⟩
theorem tailOf_ok (tot : Int) : TailOk (tailOf tot) := by
  have k0 := Int.fmod_nonneg_of_pos (tot.fdiv 3) (by decide : (0 : Int) < 6)
  have k1 := Int.fmod_lt_of_pos (tot.fdiv 3) (by decide : (0 : Int) < 6)
  exact tailOk_all _ (by omega)
theorem tailOf_len (tot : Int) : (tailOf tot).length ≤ 7 := by
  have k0 := Int.fmod_nonneg_of_pos (tot.fdiv 3) (by decide : (0 : Int) < 6)
  have k1 := Int.fmod_lt_of_pos (tot.fdiv 3) (by decide : (0 : Int) < 6)
  have key : ∀ k, k < 6 → (tails.getD k []).length ≤ 7 := by decide
  exact key _ (by omega)
end
/-! LawS -/
section
open PyProof.V PySem.Spec PySem.SeqAt
theorem readsAll_strs {h : Heap} : ∀ {vs : List Value} {xs : List Str}, StrsAre vs xs → ReadsAll h vs (xs.map PyData.str) []
  | _, _, .nil => .nil
  | _, _, .cons k t r => by
    have := ReadsAll.cons (Reads.str (h := h) k t) (readsAll_strs (h := h) r)
    simpa using this
theorem reads_strs {h : Heap} {a : Addr} {vs : List Value} {xs : List Str} (hl : h.IsList a vs.toArray) (hi : StrsAre vs xs) : Reads h (.ref a) (.list (xs.map PyData.str)) [a] := by
  obtain ⟨o, ho, hc, n, hd⟩ := hl
  exact Reads.list ho hc hd (by simpa using readsAll_strs hi)
theorem AllOk.rev {xs : List Str} (h : AllOk xs) : AllOk xs.reverse := fun x hx => h x (List.mem_reverse.mp hx)
theorem lay_strs : ∀ xs : List Str, AllOk xs → PyData.canLayAll0 (xs.map PyData.str) = true
  | [], _ => by simp [PyData.canLayAll0]
  | n :: r, h => by simp [PyData.canLayAll0, PyData.canLay0, h n (.head _), lay_strs r fun x hx => h x (.tail _ hx)]
theorem depth_strs : ∀ xs : List Str, PyData.depthAll (xs.map PyData.str) ≤ 1
  | [] => by simp [PyData.depthAll]
  | n :: r => by
    have := depth_strs r
    simp only [List.map_cons, PyData.depthAll, PyData.depth]
    omega
theorem shape_strs {xs : List Str} (h : AllOk xs) : shaped (.list (xs.map PyData.str)) = true := by
  have h1 := depth_strs xs
  have h2 : PyData.depth (.list (xs.map PyData.str)) ≤ 64 := by simp only [PyData.depth]; omega
  show (PyData.canLay0 (.list (xs.map PyData.str)) && decide (PyData.depth (.list (xs.map PyData.str)) ≤ 64)) = true
  rw [Bool.and_eq_true]
  exact ⟨by simp only [PyData.canLay0]; exact lay_strs xs h, decide_eq_true h2⟩
theorem mix_strs : ∀ xs : List Str, noMixAll (xs.map PyData.str) (xs.map PyData.str) = true
  | [] => by simp [noMixAll]
  | _ :: r => by simp [noMixAll, noMix, mix_strs r]
theorem same_strs : ∀ xs : List Str, PySem.Spec.sameAll (xs.map PyData.str) (xs.map PyData.str) = true
  | [] => by simp [PySem.Spec.sameAll]
  | n :: r => by simp [PySem.Spec.sameAll, PySem.Spec.same, same_strs r]
section
variable {prog : Program} {w : World} {A : Around} {E : Value → Shared → Prop} {s : Shared}
theorem ne_strs {a b : Addr} {vs us : List Value} {xs : List Str} {Q : Value → Shared → Prop} (hl : s.heap.IsList a vs.toArray) (hi : StrsAre vs xs) (hl' : s.heap.IsList b us.toArray) (hi' : StrsAre us xs) (hok : AllOk xs) (hu : A.units + 64 < cLine)
    (h : Q (.bool false) s) : wpAny (model prog w) A (compareOp .NotEq (.ref a) (.ref b)) Q E s :=
  ne_dataH_same (reads_strs hl hi) (reads_strs hl' hi') (shape_strs hok) (shape_strs hok) hu (by simp only [noMix]; exact mix_strs xs) (by simp only [PySem.Spec.same]; rw [same_strs]; exact h)
theorem ne_ints {a b : Addr} {vs us : List Value} {ns ms : List Int} {Q : Value → Shared → Prop} (hl : s.heap.IsList a vs.toArray) (hi : IntsAre vs ns) (hl' : s.heap.IsList b us.toArray) (hi' : IntsAre us ms) (hu : A.units + 64 < cLine) (he : ns = ms)
    (h : Q (.bool false) s) : wpAny (model prog w) A (compareOp .NotEq (.ref a) (.ref b)) Q E s :=
  ne_intsK hl hi hl' hi' hu (by rw [decide_eq_true he]; exact h)
theorem ne_txs {x : Str} {t u : Tok} {Q : Value → Shared → Prop} (h : Q (.bool false) s) : wpAny (model prog w) A (compareOp .NotEq (.str x t) (.str x u)) Q E s := by
  refine PyProof.Rows.ne_str ?_
  rw [bne_self_eq_false]
  exact h
theorem ne_tup2 {a b : Addr} {x y x' y' : Int} {t1 t2 t3 t4 : Tok} {h₀ : Heap} {L : Addr} {news : List (Addr × Obj)} {Q : Value → Shared → Prop} (N : News h₀ L s.heap news) (ma : (a, ({ cls := .type "tuple", data := .seq #[.int x t1, .int y t2] } : Obj)) ∈ news) (mb : (b, ({ cls := .type "tuple", data := .seq #[.int x' t3, .int y' t4] } : Obj)) ∈ news) (hu : A.units + 64 < cLine) (hx : x = x') (hy : y = y')
    (h : Q (.bool false) s) : wpAny (model prog w) A (compareOp .NotEq (.ref a) (.ref b)) Q E s := by
  subst hx hy
  have ra : Reads s.heap (.ref a) (.tuple ([x, y].map PyData.int)) [] := Reads.tuple (N _ ma).1 rfl rfl (by simpa using readsAll_of_ints (h := s.heap) (.cons x t1 (.cons y t2 .nil)))
  have rb : Reads s.heap (.ref b) (.tuple ([x, y].map PyData.int)) [] := Reads.tuple (N _ mb).1 rfl rfl (by simpa using readsAll_of_ints (h := s.heap) (.cons x t3 (.cons y t4 .nil)))
  have hs : shaped (.tuple ([x, y].map PyData.int)) = true := by
    have h1 := PySem.W.depthAll_ints [x, y]
    have h2 : PyData.depth (.tuple ([x, y].map PyData.int)) ≤ 64 := by simp only [PyData.depth]; omega
    show (PyData.canLay0 (.tuple ([x, y].map PyData.int)) && decide (PyData.depth (.tuple ([x, y].map PyData.int)) ≤ 64)) = true
    rw [Bool.and_eq_true]
    exact ⟨by simp only [PyData.canLay0]; exact canLayAll0_ints _, decide_eq_true h2⟩
  exact ne_dataH_same ra rb hs hs hu (by simp only [noMix]; exact noMix_ints _ _) (by simp only [PySem.Spec.same]; rw [same_ints, decide_eq_true rfl]; exact h)
end
section
variable {prog : Program} {w : World} {A : Around} {E : Value → Shared → Prop} {s : Shared} {h₀ : Heap} {L l : Addr} {m : Str → Option Value} {news : List (Addr × Obj)} {value slice : PySem.Expr} {vs : List Value} {xs : List Str} {vk : Value} {ops : List Value} {Q : Value → Shared → Prop}
theorem rev_strs (F : Fr h₀ L s.heap m) (N : News h₀ L s.heap news) (hl : s.heap.IsList l vs.toArray) (pk : IsPart vk (some (-1))) (hi : StrsAre vs xs) (hn : xs.length ≤ 1000)
    (h : ∀ D ws h', Fr h₀ L h' m → News h₀ L h' ((D, W.listOf (List.toArray ws) 0) :: news) → (∀ p ∈ news, p.1 < D) → StrsAre ws xs.reverse → Q (.ref D) { s with heap := h' })
    (hs : subscripted slice false (.ref l) (.ref s.heap.objs.size) = operate ops (getItem (.ref l) (.ref s.heap.objs.size))) (ht : ∀ r, letTemporaryGo value (.ref l) r = pure ()) :
    wpAny (model prog w) A (subscriptTail value slice (.ref l) (.ref s.heap.objs.size)) Q E { s with heap := s.heap.push { cls := .type "slice", data := .fields #[.none, .none, vk] } } :=
  krv_lit (its := vs.toArray) (zs := vs.reverse) F N hl pk rfl (fun D h' F' N' l1 => h D vs.reverse h' F' N' l1 (strs_rev hi)) hs ht (Nat.le_trans (by rw [List.size_toArray, strs_len hi]; exact hn) (by decide))
theorem strs_drop {vs : List Value} {xs : List Str} (h : StrsAre vs xs) : ∀ k, StrsAre (vs.drop k) (xs.drop k) := by
  induction h with
  | nil => intro k; rw [List.drop_nil, List.drop_nil]; exact .nil
  | cons y t r ih =>
    intro k
    cases k with
    | zero => exact .cons y t r
    | succ k => exact ih k
theorem strs_take {vs : List Value} {xs : List Str} (h : StrsAre vs xs) : ∀ k, StrsAre (vs.take k) (xs.take k) := by
  induction h with
  | nil => intro k; rw [List.take_nil, List.take_nil]; exact .nil
  | cons y t r ih =>
    intro k
    cases k with
    | zero => exact .nil
    | succ k => exact .cons y t (ih k)
theorem mid_strs {vl vu : Value} (F : Fr h₀ L s.heap m) (N : News h₀ L s.heap news) (hl : s.heap.IsList l vs.toArray) (pl : IsPart vl (some 1)) (pu : IsPart vu (some (-1))) (hi : StrsAre vs xs) (hn : xs.length ≤ 1000) (hn2 : 2 ≤ xs.length)
    (h : ∀ D ws h', Fr h₀ L h' m → News h₀ L h' ((D, W.listOf (List.toArray ws) 0) :: news) → (∀ p ∈ news, p.1 < D) → StrsAre ws (mid xs) → Q (.ref D) { s with heap := h' })
    (hs : subscripted slice false (.ref l) (.ref s.heap.objs.size) = operate [.ref s.heap.objs.size, .ref l] (getItem (.ref l) (.ref s.heap.objs.size))) (ht : ∀ r, letTemporaryGo value (.ref l) r = pure ()) :
    wpAny (model prog w) A (subscriptTail value slice (.ref l) (.ref s.heap.objs.size)) Q E { s with heap := s.heap.push { cls := .type "slice", data := .fields #[vl, vu, .none] } } := by
  have hlen := strs_len hi
  have hsz : vs.toArray.size = xs.length := by rw [List.size_toArray, hlen]
  have e : sliceBounds (some 1) (some (-1)) none vs.toArray.size = (((1 : Nat) : Int), ((xs.length - 1 : Nat) : Int), 1) := by
    rw [hsz]
    simp only [sliceBounds, Option.getD_none, show (1 : Int) > 0 by decide, if_true]
    congr 1
    · simp; omega
    · congr 1
      simp; omega
  have e2 : (slicePick vs.toArray (some 1) (some (-1)) none).toList = (vs.drop 1).take (xs.length - 1 - 1) := by rw [kmk_pick_nat _ e]
  exact kmk_slice_lit (zs := (vs.drop 1).take (xs.length - 1 - 1)) F N hl pl pu e2 (fun D h' F' N' l1 => h D _ h' F' N' l1 (strs_take (strs_drop hi 1) _)) hs ht (Nat.le_trans (by rw [hsz]; exact hn) (by decide))
end
theorem nf_gen {h₀ h : Heap} {L : Addr} (l : List (Addr × Obj)) {b : Addr × Obj} {R : List (Addr × Obj)} (N : News h₀ L h (l ++ b :: R)) : News h₀ L h (b :: (l ++ R)) := news_sub N fun p hp => by
  simp only [List.mem_cons, List.mem_append] at hp ⊢
  rcases hp with h | h | h <;> simp [h]
theorem fo_gen {h₀ h : Heap} {L : Addr} (l : List (Addr × Obj)) {TT T U V : List (Addr × Obj)} (e : TT = T ++ (U ++ V)) (N : News h₀ L h (l ++ TT)) : News h₀ L h (T ++ (l ++ (U ++ V))) := news_sub N fun p hp => by
  subst e
  simp only [List.mem_append] at hp ⊢
  rcases hp with h | h | h | h <;> simp [h]
theorem fb_gen {h₀ h : Heap} {L : Addr} (l : List (Addr × Obj)) {D : Addr × Obj} {T U V : List (Addr × Obj)} (N : News h₀ L h (D :: (T ++ (l ++ (U ++ V))))) : News h₀ L h (D :: (l ++ (T ++ (U ++ V)))) := news_sub N fun p hp => by
  simp only [List.mem_cons, List.mem_append] at hp ⊢
  rcases hp with h | h | h | h | h <;> simp [h]
theorem go_gen {h₀ h : Heap} {L : Addr} (l : List (Addr × Obj)) {TT T U V : List (Addr × Obj)} (e : TT = T ++ (U ++ V)) (N : News h₀ L h (l ++ TT)) : News h₀ L h (U ++ (V ++ (l ++ T))) := news_sub N fun p hp => by
  subst e
  simp only [List.mem_append] at hp ⊢
  rcases hp with h | h | h | h <;> simp [h]
theorem gb_gen {h₀ h : Heap} {L : Addr} (l : List (Addr × Obj)) {D : Addr × Obj} {T U V : List (Addr × Obj)} (N : News h₀ L h (D :: (U ++ (V ++ (l ++ T))))) : News h₀ L h (D :: (l ++ (T ++ (U ++ V)))) := news_sub N fun p hp => by
  simp only [List.mem_cons, List.mem_append] at hp ⊢
  rcases hp with h | h | h | h | h <;> simp [h]
theorem nf6 {h₀ h : Heap} {L : Addr} {a1 a2 a3 a4 a5 a6 b : Addr × Obj} {R : List (Addr × Obj)} (N : News h₀ L h (a1 :: a2 :: a3 :: a4 :: a5 :: a6 :: b :: R)) : News h₀ L h (b :: a1 :: a2 :: a3 :: a4 :: a5 :: a6 :: R) := nf_gen [a1, a2, a3, a4, a5, a6] N
theorem fo11 {h₀ h : Heap} {L : Addr} {a1 a2 a3 a4 a5 a6 a7 a8 a9 a10 a11 : Addr × Obj} {TT T U V : List (Addr × Obj)} (e : TT = T ++ (U ++ V)) (N : News h₀ L h (a1 :: a2 :: a3 :: a4 :: a5 :: a6 :: a7 :: a8 :: a9 :: a10 :: a11 :: TT)) : News h₀ L h (T ++ (a1 :: a2 :: a3 :: a4 :: a5 :: a6 :: a7 :: a8 :: a9 :: a10 :: a11 :: (U ++ V))) := fo_gen [a1, a2, a3, a4, a5, a6, a7, a8, a9, a10, a11] e N
theorem fc11 {h₀ h : Heap} {L : Addr} {D a1 a2 a3 a4 a5 a6 a7 a8 a9 a10 a11 : Addr × Obj} {T U V : List (Addr × Obj)} {α : Type} {M : Model} {A : Around} {tr : Sem α} {Q : α → Shared → Prop} {E : Value → Shared → Prop} {s : Shared} (N : News h₀ L h (D :: (T ++ (a1 :: a2 :: a3 :: a4 :: a5 :: a6 :: a7 :: a8 :: a9 :: a10 :: a11 :: (U ++ V))))) (k : ∀ TT, TT = T ++ (U ++ V) → News h₀ L h (D :: a1 :: a2 :: a3 :: a4 :: a5 :: a6 :: a7 :: a8 :: a9 :: a10 :: a11 :: TT) → wpAny M A tr Q E s) : wpAny M A tr Q E s := k _ rfl (fb_gen [a1, a2, a3, a4, a5, a6, a7, a8, a9, a10, a11] N)
theorem fo12 {h₀ h : Heap} {L : Addr} {a1 a2 a3 a4 a5 a6 a7 a8 a9 a10 a11 a12 : Addr × Obj} {TT T U V : List (Addr × Obj)} (e : TT = T ++ (U ++ V)) (N : News h₀ L h (a1 :: a2 :: a3 :: a4 :: a5 :: a6 :: a7 :: a8 :: a9 :: a10 :: a11 :: a12 :: TT)) : News h₀ L h (T ++ (a1 :: a2 :: a3 :: a4 :: a5 :: a6 :: a7 :: a8 :: a9 :: a10 :: a11 :: a12 :: (U ++ V))) := fo_gen [a1, a2, a3, a4, a5, a6, a7, a8, a9, a10, a11, a12] e N
theorem fc12 {h₀ h : Heap} {L : Addr} {D a1 a2 a3 a4 a5 a6 a7 a8 a9 a10 a11 a12 : Addr × Obj} {T U V : List (Addr × Obj)} {α : Type} {M : Model} {A : Around} {tr : Sem α} {Q : α → Shared → Prop} {E : Value → Shared → Prop} {s : Shared} (N : News h₀ L h (D :: (T ++ (a1 :: a2 :: a3 :: a4 :: a5 :: a6 :: a7 :: a8 :: a9 :: a10 :: a11 :: a12 :: (U ++ V))))) (k : ∀ TT, TT = T ++ (U ++ V) → News h₀ L h (D :: a1 :: a2 :: a3 :: a4 :: a5 :: a6 :: a7 :: a8 :: a9 :: a10 :: a11 :: a12 :: TT) → wpAny M A tr Q E s) : wpAny M A tr Q E s := k _ rfl (fb_gen [a1, a2, a3, a4, a5, a6, a7, a8, a9, a10, a11, a12] N)
theorem fo16 {h₀ h : Heap} {L : Addr} {a1 a2 a3 a4 a5 a6 a7 a8 a9 a10 a11 a12 a13 a14 a15 a16 : Addr × Obj} {TT T U V : List (Addr × Obj)} (e : TT = T ++ (U ++ V)) (N : News h₀ L h (a1 :: a2 :: a3 :: a4 :: a5 :: a6 :: a7 :: a8 :: a9 :: a10 :: a11 :: a12 :: a13 :: a14 :: a15 :: a16 :: TT)) : News h₀ L h (T ++ (a1 :: a2 :: a3 :: a4 :: a5 :: a6 :: a7 :: a8 :: a9 :: a10 :: a11 :: a12 :: a13 :: a14 :: a15 :: a16 :: (U ++ V))) := fo_gen [a1, a2, a3, a4, a5, a6, a7, a8, a9, a10, a11, a12, a13, a14, a15, a16] e N
theorem fc16 {h₀ h : Heap} {L : Addr} {D a1 a2 a3 a4 a5 a6 a7 a8 a9 a10 a11 a12 a13 a14 a15 a16 : Addr × Obj} {T U V : List (Addr × Obj)} {α : Type} {M : Model} {A : Around} {tr : Sem α} {Q : α → Shared → Prop} {E : Value → Shared → Prop} {s : Shared} (N : News h₀ L h (D :: (T ++ (a1 :: a2 :: a3 :: a4 :: a5 :: a6 :: a7 :: a8 :: a9 :: a10 :: a11 :: a12 :: a13 :: a14 :: a15 :: a16 :: (U ++ V))))) (k : ∀ TT, TT = T ++ (U ++ V) → News h₀ L h (D :: a1 :: a2 :: a3 :: a4 :: a5 :: a6 :: a7 :: a8 :: a9 :: a10 :: a11 :: a12 :: a13 :: a14 :: a15 :: a16 :: TT) → wpAny M A tr Q E s) : wpAny M A tr Q E s := k _ rfl (fb_gen [a1, a2, a3, a4, a5, a6, a7, a8, a9, a10, a11, a12, a13, a14, a15, a16] N)
theorem go13 {h₀ h : Heap} {L : Addr} {a1 a2 a3 a4 a5 a6 a7 a8 a9 a10 a11 a12 a13 : Addr × Obj} {TT T U V : List (Addr × Obj)} (e : TT = T ++ (U ++ V)) (N : News h₀ L h (a1 :: a2 :: a3 :: a4 :: a5 :: a6 :: a7 :: a8 :: a9 :: a10 :: a11 :: a12 :: a13 :: TT)) : News h₀ L h (U ++ (V ++ (a1 :: a2 :: a3 :: a4 :: a5 :: a6 :: a7 :: a8 :: a9 :: a10 :: a11 :: a12 :: a13 :: T))) := go_gen [a1, a2, a3, a4, a5, a6, a7, a8, a9, a10, a11, a12, a13] e N
theorem gc13 {h₀ h : Heap} {L : Addr} {D a1 a2 a3 a4 a5 a6 a7 a8 a9 a10 a11 a12 a13 : Addr × Obj} {T U V : List (Addr × Obj)} {α : Type} {M : Model} {A : Around} {tr : Sem α} {Q : α → Shared → Prop} {E : Value → Shared → Prop} {s : Shared} (N : News h₀ L h (D :: (U ++ (V ++ (a1 :: a2 :: a3 :: a4 :: a5 :: a6 :: a7 :: a8 :: a9 :: a10 :: a11 :: a12 :: a13 :: T))))) (k : ∀ TT, TT = T ++ (U ++ V) → News h₀ L h (D :: a1 :: a2 :: a3 :: a4 :: a5 :: a6 :: a7 :: a8 :: a9 :: a10 :: a11 :: a12 :: a13 :: TT) → wpAny M A tr Q E s) : wpAny M A tr Q E s := k _ rfl (gb_gen [a1, a2, a3, a4, a5, a6, a7, a8, a9, a10, a11, a12, a13] N)
theorem go14 {h₀ h : Heap} {L : Addr} {a1 a2 a3 a4 a5 a6 a7 a8 a9 a10 a11 a12 a13 a14 : Addr × Obj} {TT T U V : List (Addr × Obj)} (e : TT = T ++ (U ++ V)) (N : News h₀ L h (a1 :: a2 :: a3 :: a4 :: a5 :: a6 :: a7 :: a8 :: a9 :: a10 :: a11 :: a12 :: a13 :: a14 :: TT)) : News h₀ L h (U ++ (V ++ (a1 :: a2 :: a3 :: a4 :: a5 :: a6 :: a7 :: a8 :: a9 :: a10 :: a11 :: a12 :: a13 :: a14 :: T))) := go_gen [a1, a2, a3, a4, a5, a6, a7, a8, a9, a10, a11, a12, a13, a14] e N
theorem gc14 {h₀ h : Heap} {L : Addr} {D a1 a2 a3 a4 a5 a6 a7 a8 a9 a10 a11 a12 a13 a14 : Addr × Obj} {T U V : List (Addr × Obj)} {α : Type} {M : Model} {A : Around} {tr : Sem α} {Q : α → Shared → Prop} {E : Value → Shared → Prop} {s : Shared} (N : News h₀ L h (D :: (U ++ (V ++ (a1 :: a2 :: a3 :: a4 :: a5 :: a6 :: a7 :: a8 :: a9 :: a10 :: a11 :: a12 :: a13 :: a14 :: T))))) (k : ∀ TT, TT = T ++ (U ++ V) → News h₀ L h (D :: a1 :: a2 :: a3 :: a4 :: a5 :: a6 :: a7 :: a8 :: a9 :: a10 :: a11 :: a12 :: a13 :: a14 :: TT) → wpAny M A tr Q E s) : wpAny M A tr Q E s := k _ rfl (gb_gen [a1, a2, a3, a4, a5, a6, a7, a8, a9, a10, a11, a12, a13, a14] N)
theorem go17 {h₀ h : Heap} {L : Addr} {a1 a2 a3 a4 a5 a6 a7 a8 a9 a10 a11 a12 a13 a14 a15 a16 a17 : Addr × Obj} {TT T U V : List (Addr × Obj)} (e : TT = T ++ (U ++ V)) (N : News h₀ L h (a1 :: a2 :: a3 :: a4 :: a5 :: a6 :: a7 :: a8 :: a9 :: a10 :: a11 :: a12 :: a13 :: a14 :: a15 :: a16 :: a17 :: TT)) : News h₀ L h (U ++ (V ++ (a1 :: a2 :: a3 :: a4 :: a5 :: a6 :: a7 :: a8 :: a9 :: a10 :: a11 :: a12 :: a13 :: a14 :: a15 :: a16 :: a17 :: T))) := go_gen [a1, a2, a3, a4, a5, a6, a7, a8, a9, a10, a11, a12, a13, a14, a15, a16, a17] e N
theorem gc17 {h₀ h : Heap} {L : Addr} {D a1 a2 a3 a4 a5 a6 a7 a8 a9 a10 a11 a12 a13 a14 a15 a16 a17 : Addr × Obj} {T U V : List (Addr × Obj)} {α : Type} {M : Model} {A : Around} {tr : Sem α} {Q : α → Shared → Prop} {E : Value → Shared → Prop} {s : Shared} (N : News h₀ L h (D :: (U ++ (V ++ (a1 :: a2 :: a3 :: a4 :: a5 :: a6 :: a7 :: a8 :: a9 :: a10 :: a11 :: a12 :: a13 :: a14 :: a15 :: a16 :: a17 :: T))))) (k : ∀ TT, TT = T ++ (U ++ V) → News h₀ L h (D :: a1 :: a2 :: a3 :: a4 :: a5 :: a6 :: a7 :: a8 :: a9 :: a10 :: a11 :: a12 :: a13 :: a14 :: a15 :: a16 :: a17 :: TT) → wpAny M A tr Q E s) : wpAny M A tr Q E s := k _ rfl (gb_gen [a1, a2, a3, a4, a5, a6, a7, a8, a9, a10, a11, a12, a13, a14, a15, a16, a17] N)
theorem go19 {h₀ h : Heap} {L : Addr} {a1 a2 a3 a4 a5 a6 a7 a8 a9 a10 a11 a12 a13 a14 a15 a16 a17 a18 a19 : Addr × Obj} {TT T U V : List (Addr × Obj)} (e : TT = T ++ (U ++ V)) (N : News h₀ L h (a1 :: a2 :: a3 :: a4 :: a5 :: a6 :: a7 :: a8 :: a9 :: a10 :: a11 :: a12 :: a13 :: a14 :: a15 :: a16 :: a17 :: a18 :: a19 :: TT)) : News h₀ L h (U ++ (V ++ (a1 :: a2 :: a3 :: a4 :: a5 :: a6 :: a7 :: a8 :: a9 :: a10 :: a11 :: a12 :: a13 :: a14 :: a15 :: a16 :: a17 :: a18 :: a19 :: T))) := go_gen [a1, a2, a3, a4, a5, a6, a7, a8, a9, a10, a11, a12, a13, a14, a15, a16, a17, a18, a19] e N
theorem gc19 {h₀ h : Heap} {L : Addr} {D a1 a2 a3 a4 a5 a6 a7 a8 a9 a10 a11 a12 a13 a14 a15 a16 a17 a18 a19 : Addr × Obj} {T U V : List (Addr × Obj)} {α : Type} {M : Model} {A : Around} {tr : Sem α} {Q : α → Shared → Prop} {E : Value → Shared → Prop} {s : Shared} (N : News h₀ L h (D :: (U ++ (V ++ (a1 :: a2 :: a3 :: a4 :: a5 :: a6 :: a7 :: a8 :: a9 :: a10 :: a11 :: a12 :: a13 :: a14 :: a15 :: a16 :: a17 :: a18 :: a19 :: T))))) (k : ∀ TT, TT = T ++ (U ++ V) → News h₀ L h (D :: a1 :: a2 :: a3 :: a4 :: a5 :: a6 :: a7 :: a8 :: a9 :: a10 :: a11 :: a12 :: a13 :: a14 :: a15 :: a16 :: a17 :: a18 :: a19 :: TT) → wpAny M A tr Q E s) : wpAny M A tr Q E s := k _ rfl (gb_gen [a1, a2, a3, a4, a5, a6, a7, a8, a9, a10, a11, a12, a13, a14, a15, a16, a17, a18, a19] N)
end
/-! LawT -/
section

theorem ftl_len : ∀ {r : List (List Nat)}, (∀ p ∈ r, p.length ≤ 6) → (ftl r []).length ≤ 7 * r.length
  | [], _ => Nat.le_refl _
  | q :: r, h => by
    have h1 := h q (.head _)
    have h2 := ftl_len (r := r) fun p hp => h p (.tail _ hp)
    show (46 :: (q ++ ftl r [])).length ≤ _
    simp only [List.length_cons, List.length_append] at h2 ⊢
    omega
theorem nm_len {row : List Int} {p : List Nat} {rs : List (List Nat)} (hr : RowOk row) (h : PtsOk row (p :: rs)) (tot : Int) : (tx (nm (p :: rs) ++ tailOf tot)).length ≤ 1000 := by
  have h1 := h.small p (.head _)
  have h2 := ftl_len (r := rs) fun q hq => h.small q (.tail _ hq)
  have h3 := tailOf_len tot
  have h4 := hr.hi
  have h5 := h.len
  rw [tx_len, List.length_append]
  show (p ++ ftl rs []).length + _ ≤ _
  simp only [List.length_cons, List.length_append] at *
  omega
theorem sum_le6 : ∀ {ps : List (List Nat)}, (∀ p ∈ ps, p.length ≤ 6) → (ps.map List.length).sum ≤ 6 * ps.length
  | [], _ => Nat.le_refl _
  | q :: r, h => by
    have h1 := h q (.head _)
    have h2 := sum_le6 (ps := r) fun p hp => h p (.tail _ hp)
    simp only [List.map_cons, List.sum_cons, List.length_cons]
    omega
theorem PtsOk.sum {row : List Int} {ps : List (List Nat)} (h : PtsOk row ps) (hr : RowOk row) : (ps.map List.length).sum + ps.length ≤ 1000 := by
  have h1 := sum_le6 h.small
  have h4 := hr.hi
  have h5 := h.len
  omega
theorem PtsOk.wdh {row : List Int} {p : List Nat} {rs : List (List Nat)} (h : PtsOk row (p :: rs)) : Wd p := h.wd p (.head _)
theorem PtsOk.wdt {row : List Int} {p : List Nat} {rs : List (List Nat)} (h : PtsOk row (p :: rs)) : ∀ q ∈ rs, Wd q := fun q hq => h.wd q (.tail _ hq)
theorem PtsOk.le {row : List Int} {ps : List (List Nat)} (h : PtsOk row ps) (hr : RowOk row) : ps.length ≤ 1000 := by
  have h4 := hr.hi
  have h5 := h.len
  omega
theorem PtsOk.lemap {row : List Int} {ps : List (List Nat)} (h : PtsOk row ps) (hr : RowOk row) : (ps.map tx).length ≤ 1000 := by
  rw [List.length_map]; exact h.le hr
theorem PtsOk.gemap {row : List Int} {ps : List (List Nat)} (h : PtsOk row ps) (hr : RowOk row) : 2 ≤ (ps.map tx).length := by
  rw [List.length_map, h.len]; exact hr.lo
theorem front_eq {p : List Nat} {rs : List (List Nat)} {t : List Nat} : nm (p :: rs) ++ t = p ++ ftl rs t := by
  show p ++ ftl rs [] ++ t = _
  rw [List.append_assoc, ftl_app]
theorem wd_word {p : List Nat} (h : Wd p) : Word p := ⟨h.1, fun c hc => by
  obtain ⟨h1, h2, h3, _⟩ := h.2 c hc
  exact ⟨h2, h3, h1⟩⟩
theorem PtsOk.words {row : List Int} {ps : List (List Nat)} (h : PtsOk row ps) : ∀ p ∈ ps.reverse, Word p := fun p hp => wd_word (h.wd p (List.mem_reverse.mp hp))
theorem nam_snoc : ∀ (l : List (List Nat)) (p : List Nat), l ≠ [] → nam (l ++ [p]) = p ++ 46 :: nam l
  | [], _, h => absurd rfl h
  | [q], p, _ => by simp [nam]
  | q :: r :: l, p, _ => by
    have ih := nam_snoc (r :: l) p (by simp)
    show nam (q :: r :: (l ++ [p])) = _
    have e1 : nam (q :: r :: (l ++ [p])) = nam (r :: (l ++ [p])) ++ 46 :: q := rfl
    have e2 : nam (q :: r :: l) = nam (r :: l) ++ 46 :: q := rfl
    rw [e1, e2, ← List.cons_append, ih]
    simp
theorem nam_rev : ∀ ps : List (List Nat), nm ps = nam ps.reverse
  | [] => rfl
  | [p] => by show p ++ [] = p; rw [List.append_nil]
  | p :: q :: r => by
    have ih := nam_rev (q :: r)
    rw [List.reverse_cons, nam_snoc _ _ (by simp), ← ih]
    rfl
theorem tabs_start {α : Type} {M : Model} {A' : Around} {tr : Sem α} {Q : α → Shared → Prop} {E : Value → Shared → Prop} {s : Shared} {g h : Heap} {L A B : Addr} {a b : Obj} (N : News g L h [(A, a), (B, b), (38, tabObj #[]), (148, tabObj #[]), (73, tabObj #[]), (66, tabObj #[])]) (ha : @LT.lt Nat _ 148 A) (hb : @LT.lt Nat _ 148 B)
    (k : ∀ T38 T66 T73 TT, TabAtt 38 62 4 (Str.ofString "_str_to_int_inner.<locals>.inner") T38 → TabAtt 66 102 4 (Str.ofString "_int2digits.<locals>.inner") T66 → TabAtt 73 117 4 (Str.ofString "_digits2int.<locals>.inner") T73 → TT = T38 ++ (T66 ++ T73) → NoL TT → Off A TT → Off B TT → Off 148 TT → News g L h ((A, a) :: (B, b) :: (148, tabObj #[]) :: TT) → wpAny M A' tr Q E s) : wpAny M A' tr Q E s :=
  k [(38, tabObj #[])] [(66, tabObj #[])] [(73, tabObj #[])] _ (.inl rfl) (.inl rfl) (.inl rfl) rfl (NoL.tab (NoL.tab (NoL.tab NoL.nil)))
    (Off.cons (Nat.ne_of_lt (Nat.lt_trans (by decide) ha)) (Off.cons (Nat.ne_of_lt (Nat.lt_trans (by decide) ha)) (Off.cons (Nat.ne_of_lt (Nat.lt_trans (by decide) ha)) Off.nil)))
    (Off.cons (Nat.ne_of_lt (Nat.lt_trans (by decide) hb)) (Off.cons (Nat.ne_of_lt (Nat.lt_trans (by decide) hb)) (Off.cons (Nat.ne_of_lt (Nat.lt_trans (by decide) hb)) Off.nil)))
    (Off.cons (by decide) (Off.cons (by decide) (Off.cons (by decide) Off.nil)))
    (news_sub N fun p hp => by
      simp only [List.mem_cons, List.mem_append, List.cons_append, List.nil_append] at hp ⊢
      rcases hp with h | h | h | h | h | h | h <;> simp_all)
theorem off_two {P R1 R2 l1 c1 l2 c2 : Nat} {q1 q2 : Str} {U V : List (Addr × Obj)} (h1 : TabAtt R1 l1 c1 q1 U) (h2 : TabAtt R2 l2 c2 q2 V) (n1 : R1 ≠ P) (n2 : R2 ≠ P) (hP : P ≤ 80) : Off P (U ++ V) := Off.app (Off.tab h1 n1 hP) (Off.tab h2 n2 hP)
theorem slice_1 {prog : Program} {w : World} {A : Around} {E : Value → Shared → Prop} {s : Shared} {h₀ : Heap} {L : Addr} {m : Str → Option Value} {news : List (Addr × Obj)} {l : List Nat} {t ui : Tok} {value slice : Expr} {Q : Value → Shared → Prop} (hF : Fr h₀ L s.heap m) (hN : News h₀ L s.heap news) (hlen : l.length ≤ 1000)
    (h : ∀ h' t' k, Fr h₀ L h' m → News h₀ L h' news → Q (.str (tx (l.drop 1)) t') { s with heap := h', toks := k })
    (hs : subscripted slice false (.str (tx l) t) (.ref s.heap.objs.size) = operate [.ref s.heap.objs.size, .str (tx l) t] (getItem (.str (tx l) t) (.ref s.heap.objs.size)) := by with_unfolding_all rfl)
    (ht : ∀ r', letTemporaryGo value (.str (tx l) t) r' = pure () := by intro _; with_unfolding_all rfl) :
    wpAny (model prog w) A (subscriptTail value slice (.str (tx l) t) (.ref s.heap.objs.size)) Q E { s with heap := s.heap.push { cls := .type "slice", data := .fields #[.int 1 ui, .none, .none] } } := by
  refine PyProof.Rows.slice_strN_sn hF hN (fun h' t' k a b => ?_) hs ht (by rw [tx_len]; exact Nat.le_trans hlen (by decide))
  have e : Txt.slice (tx l) (some 1) none = tx (l.drop 1) := slice_drop1 l
  rw [e]
  exact h h' t' k a b
section
variable {prog : Program} {w : World} {A : Around} {h₀ : Heap} {L : Addr} {m : Str → Option Value} {env : Env} {elt : Expr} {x : Str} {scope : Scope} {cl : List (Str × Addr)} {s : Shared} {S : List (Addr × Obj) → Prop} {Fin : List Value → List (Addr × Obj) → Prop} {news : List (Addr × Obj)}
theorem parts_rest2 {row ns : List Int} {ws vs : List Value} (hro : RowOk row) (_hr : IntsAre ws row) (_hi : IntsAre vs ns)
    (turn : ∀ (k : Int) t I oI C oC D m₂ ys h tk (E' : Value → Shared → Prop), 0 ≤ k → k < (row.length : Int) → LCg.NsObj oC m₂ → m₂ x = some (.int k t) → Fr h₀ L h m → News h₀ L h ((I, oI) :: (C, oC) :: (D, LCg.lst ys) :: news) → LCg.Off3 I C D news → ((@Ne Nat I C) ∧ (@Ne Nat I D) ∧ (@Ne Nat C D)) →
      wpAny (model prog w) A (eval elt (compEnvC scope cl C env)) (LCg.CompEnd h₀ L m { s with heap := h, toks := tk } I oI C oC D (LCg.lst ys) S (fun y news' => TxEl news (pt row ns.sum k) y news')) E' { s with heap := h, toks := tk })
    (fin : ∀ ys p rs, PtsOk row (p :: rs) → (tx (nm (p :: rs) ++ tailOf ns.sum)).length ≤ 1000 → StrsAre ys ((p :: rs).map tx) → Fin ys news) : LCg.CompRest prog w A h₀ L m env elt x scope cl s S (fun i v => ∃ t, v = .int (0 + (i : Int)) t) Fin row.length 0 [] news := by
  refine parts_rest _hr _hi turn fun ys hS => ?_
  have hp := pts_is hro ns.sum
  cases e : pts row ns.sum with
  | nil =>
    have h1 := hp.len
    have h2 := hro.lo
    rw [e] at h1
    simp at h1
    omega
  | cons p rs =>
    rw [e] at hp hS
    exact fin ys p rs hp (nm_len hro hp _) hS
end
theorem behind_c2 {prog : Program} {p : Program} {loose : List Str} {mean : ExcName → Option Value} {mg mb : Str → Option Value} (w : World) : ∀ (full : List (List Nat)) (t9 l9 : List Nat) (nt tt : Tok) (rest : List (Addr × Obj)) (dp un : Nat) (gd : Option (List Code)) (cn : Str) (cs : Scope) (a : Addr) (ccd : Value) (cl : List (Str × Addr)) (outer : List Env) (A₀ : Around) (base h₀ : Heap) (L : Addr) (m : Str → Option Value) (s : Shared) (Q E : Value → Shared → Prop),
    Below A₀ base outer h₀ → Fr h₀ L s.heap m → (hd.heap_1 w.params).In h₀ → News h₀ L s.heap (rest) → Top p loose mean mg mb h₀ → cs.kind = .function → 80 < L →
    dp + 40 < recursionLimit → un + 500 < cLine → (∀ p ∈ full, Word p) → l9 = nam full → (tx (l9 ++ t9)).length ≤ 1000 → TailOk t9 → 
    (∀ (d : Addr) (h' : Heap) (tk' : Nat) (dr : Drawn) (its : List Value) (ep : Nat), Fr h₀ L h' m → StrsAre its (full.map tx) → News h₀ L h' ((d, W.listOf its.toArray ep) :: rest) → (∀ p ∈ rest, p.1 < d) → Q (.ref d) { s with heap := h', toks := tk', drawn := dr }) →
      wpAny (model prog w) (ktrTop dp un gd cn cs L a ccd cl outer) (call (.ref 160) [.str (tx l9) nt, .str (tx t9) tt]) Q E s := by
  intro full t9 l9 nt tt rest dp un gd cn cs a ccd cl outer A₀ base h₀ L m s Q E B F X N T hk hL hd hu hW hl9 hlen hT hret
  subst hl9
  exact behind_c w full t9 nt tt rest dp un gd cn cs a ccd cl outer A₀ base h₀ L m s Q E B F X N T hk hL hd hu hW hlen hT (fun d h' tk' dr its ep F' hS N' ho => hret d h' tk' dr its.toList ep F' hS (by rw [Array.toArray_toList]; exact N') ho)
theorem quot_c2 {prog : Program} {p : Program} {loose : List Str} {mean : ExcName → Option Value} {mg mb : Str → Option Value} (w : World) : ∀ (x y : Int) (xt yt : Tok) (T66 T73 : List (Addr × Obj)) (rest : List (Addr × Obj)) (dp un : Nat) (gd : Option (List Code)) (cn : Str) (cs : Scope) (a : Addr) (ccd : Value) (cl : List (Str × Addr)) (outer : List Env) (A₀ : Around) (base h₀ : Heap) (L : Addr) (m : Str → Option Value) (s : Shared) (Q E : Value → Shared → Prop),
    Below A₀ base outer h₀ → Fr h₀ L s.heap m → (hd.heap_1 w.params).In h₀ → News h₀ L s.heap (T66 ++ (T73 ++ rest)) → Top p loose mean mg mb h₀ → cs.kind = .function → 80 < L →
    dp + 520 < recursionLimit → un + 5200 < cLine → CodeHd base 70 66 → CodeHd base 77 73 → TabAtt 66 102 4 (Str.ofString "_int2digits.<locals>.inner") T66 → TabAtt 73 117 4 (Str.ofString "_digits2int.<locals>.inner") T73 → Off 66 rest → Off 73 rest → Bnd 390 x → Bnd 390 y → 0 < x → 0 ≤ y → (euq x y).length ≤ 1000 → 
    (∀ (d : Addr) (h' : Heap) (tk' : Nat) (dr : Drawn) (its : List Value) (ep : Nat) (T66' T73' : List (Addr × Obj)), Fr h₀ L h' m → TabAtt 66 102 4 (Str.ofString "_int2digits.<locals>.inner") T66' → TabAtt 73 117 4 (Str.ofString "_digits2int.<locals>.inner") T73' → IntsAre its (euq x y) → News h₀ L h' ((d, W.listOf its.toArray ep) :: (T66' ++ (T73' ++ rest))) → (∀ p ∈ rest, p.1 < d) → Q (.ref d) { s with heap := h', toks := tk', drawn := dr }) →
      wpAny (model prog w) (ktrTop dp un gd cn cs L a ccd cl outer) (call (.ref 174) [.int x xt, .int y yt]) Q E s := by
  intro x y xt yt T66 T73 rest dp un gd cn cs a ccd cl outer A₀ base h₀ L m s Q E B F X N T hk hL hd hu hC hC2 hT66 hT73 hO66 hO73 hx hy hx0 hy0 hlen hret
  exact quot_c w x y xt yt T66 T73 rest dp un gd cn cs a ccd cl outer A₀ base h₀ L m s Q E B F X N T hk hL hd hu hC hC2 hT66 hT73 hO66 hO73 hx hy hx0 hy0 hlen (fun d h' tk' dr its ep T66' T73' F' a b hI N' ho => hret d h' tk' dr its.toList ep T66' T73' F' a b hI (by rw [Array.toArray_toList]; exact N') ho)
end
/-! LawM -/
section

theorem nums_rev2 {ps : List (List Nat)} {ns : List Int} (h : Nums (ps.map tx) ns) : Nums (ps.reverse.map tx) ns.reverse := by
  rw [List.map_reverse]; exact nums_rev' h
theorem PtsOk.okr {row : List Int} {ps : List (List Nat)} (h : PtsOk row ps) : AllOk (ps.reverse.map tx) := by
  rw [List.map_reverse]; exact h.ok.rev
theorem rev_txs {prog : Program} {w : World} {A : Around} {E : Value → Shared → Prop} {s : Shared} {h₀ : Heap} {L l : Addr} {m : Str → Option Value} {news : List (Addr × Obj)} {value slice : PySem.Expr} {vs : List Value} {ps : List (List Nat)} {vk : Value} {ops : List Value} {Q : Value → Shared → Prop} (F : Fr h₀ L s.heap m) (N : News h₀ L s.heap news) (hl : s.heap.IsList l vs.toArray) (pk : IsPart vk (some (-1))) (hi : StrsAre vs (ps.map tx)) (hn : (ps.map tx).length ≤ 1000)
    (h : ∀ D ws h', Fr h₀ L h' m → News h₀ L h' ((D, W.listOf (List.toArray ws) 0) :: news) → (∀ p ∈ news, p.1 < D) → StrsAre ws (ps.reverse.map tx) → Q (.ref D) { s with heap := h' })
    (hs : subscripted slice false (.ref l) (.ref s.heap.objs.size) = operate ops (getItem (.ref l) (.ref s.heap.objs.size))) (ht : ∀ r, letTemporaryGo value (.ref l) r = pure ()) :
    wpAny (model prog w) A (subscriptTail value slice (.ref l) (.ref s.heap.objs.size)) Q E { s with heap := s.heap.push { cls := .type "slice", data := .fields #[.none, .none, vk] } } :=
  rev_strs F N hl pk hi hn (fun D ws h' F' N' l1 hS => h D ws h' F' N' l1 (by rw [List.map_reverse]; exact hS)) hs ht
theorem ne_int {prog : Program} {w : World} {A : Around} {E : Value → Shared → Prop} {s : Shared} {x : Int} {t u : Tok} {Q : Value → Shared → Prop} (h : Q (.bool false) s) : wpAny (model prog w) A (compareOp .NotEq (.int x t) (.int x u)) Q E s := by
  refine PyProof.Rows.ne_int ?_
  simpa using h
theorem ne_int2 {prog : Program} {w : World} {A : Around} {E : Value → Shared → Prop} {s : Shared} {x y : Int} {t u : Tok} {Q : Value → Shared → Prop} (e : x = y) (h : Q (.bool false) s) : wpAny (model prog w) A (compareOp .NotEq (.int x t) (.int y u)) Q E s := by
  subst e; exact ne_int h
theorem it_t0 {prog : Program} {w : World} {A : Around} {E : Value → Shared → Prop} {s : Shared} {h₀ : Heap} {L D : Addr} {news : List (Addr × Obj)} {x y : Int} {t1 t2 u : Tok} {value slice : Expr} {Q : Value → Shared → Prop} (N : News h₀ L s.heap news) (hm : (D, ({ cls := .type "tuple", data := .seq #[.int x t1, .int y t2] } : Obj)) ∈ news) (h : Q (.int x t1) s)
    (hs : subscripted slice false (.ref D) (.int 0 u) = operate [.ref D, .int 0 u] (getItem (.ref D) (.int 0 u)) := by with_unfolding_all rfl) : wpAny (model prog w) A (subscriptTail value slice (.ref D) (.int 0 u)) Q E s :=
  item_tupleT (l := [.int x t1, .int y t2]) (j := 0) (News.isTup N hm) (by decide) (by decide) (by show seqIndex? _ 2 = _; decide) rfl h hs
theorem it_t1 {prog : Program} {w : World} {A : Around} {E : Value → Shared → Prop} {s : Shared} {h₀ : Heap} {L D : Addr} {news : List (Addr × Obj)} {x y : Int} {t1 t2 u : Tok} {value slice : Expr} {Q : Value → Shared → Prop} (N : News h₀ L s.heap news) (hm : (D, ({ cls := .type "tuple", data := .seq #[.int x t1, .int y t2] } : Obj)) ∈ news) (h : Q (.int y t2) s)
    (hs : subscripted slice false (.ref D) (.int 1 u) = operate [.ref D, .int 1 u] (getItem (.ref D) (.int 1 u)) := by with_unfolding_all rfl) : wpAny (model prog w) A (subscriptTail value slice (.ref D) (.int 1 u)) Q E s :=
  item_tupleT (l := [.int x t1, .int y t2]) (j := 1) (News.isTup N hm) (by decide) (by decide) (by show seqIndex? _ 2 = _; decide) rfl h hs
theorem mul_b {prog : Program} {w : World} {A : Around} {E : Value → Shared → Prop} {s : Shared} {a b : Int} {t u : Tok} {Q : Value → Shared → Prop} (ha : Bnd 390 a) (hb : Bnd 390 b) (hq : Q (.int (a * b) s.toks) { s with toks := s.toks + 1 }) : wpAny (model prog w) A (binaryOp .Mult (.int a t) (.int b u)) Q E s :=
  AutoIntOps.mul_0 hq (PySem.IntMulOk.of_bits (Nat.le_trans ha.2 (by decide)) (Nat.le_trans hb.2 (by decide)))
theorem LF.lf {row : List Int} {g f b m : Int} (h : LF row g f b m) (hr : RowOk row) : (euq g f).length ≤ 1000 := by
  have := hr.hi
  rw [h.qf, List.length_reverse]; omega
theorem LF.lb {row : List Int} {g f b m : Int} (h : LF row g f b m) (hr : RowOk row) : (euq g b).length ≤ 1000 := by
  have := hr.hi
  rw [h.qb]; omega
theorem nums_mid {xs : List Str} {ns : List Int} (h : Nums xs ns) : Nums (mid xs) (mid ns) := nums_mid' h
theorem CF.palb {row : List Int} {g f b c m : Int} (h : CF row g f b c m) : (((f * f - c).fmod g == 0) : Bool) = decide (row = row.reverse) := by
  rw [Bool.eq_iff_iff, beq_iff_eq, decide_eq_true_iff]
  exact h.pal
theorem eq_pal {prog : Program} {w : World} {A : Around} {E : Value → Shared → Prop} {s : Shared} {a b : Bool} {Q : Value → Shared → Prop} (e : a = b) (h : Q (.bool true) s) : wpAny (model prog w) A (compareOp .Eq (.bool a) (.bool b)) Q E s := by
  subst e
  refine PyProof.Rows.eq_bool ?_
  rw [beq_self_eq_true]
  exact h
theorem LF.any {row : List Int} {g f b m x : Int} (h : LF row g f b m) (hx : (row.length : Int).fmod 2 = 1 ∧ x = 1 ∨ (row.length : Int).fmod 2 ≠ 1 ∧ x = -1) : CF row g f b x m := by
  rcases hx with ⟨h1, rfl⟩ | ⟨h1, rfl⟩
  · exact h.odd h1
  · exact h.even h1
/-- one or less one, by the row's length: either way one walk behind it -/
theorem ite_pm {prog : Program} {w : World} {A : Around} {E : Value → Shared → Prop} {s : Shared} {env : Env} {n : Int} {k1 k2} {p1 p2 p3 : Pos} {Q : Value → Shared → Prop} (h : ∀ x t k, (n.fmod 2 = 1 ∧ x = 1 ∨ n.fmod 2 ≠ 1 ∧ x = -1) → Q (.int x t) { s with toks := k }) :
    if (n.fmod 2 == 1) = true then wpAny (model prog w) A (eval (.Constant (.int 1) k1 p1) env) Q E s else wpAny (model prog w) A (eval (.UnaryOp .USub (.Constant (.int 1) k2 p2) p3) env) Q E s := by
  by_cases hc : n.fmod 2 = 1
  · rw [if_pos (beq_iff_eq.mpr hc)]
    exact wpAny_Constant_int (h 1 _ _ (.inl ⟨hc, rfl⟩))
  · rw [if_neg (fun q => hc (beq_iff_eq.mp q))]
    refine wpAny_UnaryOp (wpAny_Constant_int ?_)
    refine neg_int ?_
    exact h (-1) _ _ (.inr ⟨hc, rfl⟩)
end
/-! LawE -/
section

theorem none_raised (args : List WData) : ∀ cls, PySem.Challenge.rw_pg0267_01.row.claim.raises args cls = false := by
  refine raisesW_false ?_
  exact allW_false_nil
theorem post_true (ns : List Int) : PySem.Challenge.rw_pg0267_01.row.claim.post [ofPy (PyData.list (ns.map PyData.int))] (.bool true) [ofPy (PyData.list (ns.map PyData.int))] = true := by
  kc_post
theorem end_good {cl : Str → Option Addr} {mean : ExcName → Option Value} {ns : List Int} {s₁ s' : Shared} {L : Addr} {m : Str → Option Value} (F : Fr s₁.heap L s'.heap m) (hg : s'.gens = #[]) (hos : s'.os = s₁.os) :
    GoodW PySem.Challenge.rw_pg0267_01.row.claim cl mean [ofPy (PyData.list (ns.map PyData.int))] s₁ (.ok (.ret (.bool true))) s' :=
  goodW_bool F hg (none_raised _) (post_true ns) hos
theorem grown_of {P l c : Nat} {q : Str} {T news : List (Addr × Obj)} {g h : Heap} {L : Addr} (N : News g L h news) (ht : TabAtt P l c q T) (hs : ∀ p ∈ T, p ∈ news) : GrownAt P h := by
  obtain ⟨ps, m⟩ := ht.tab
  exact GrownAt.of N (hs _ m)
inductive Tab148 (ps : Array Value) : Prop where | mk
theorem grown_all {g h : Heap} {L : Addr} {news TT T38 T66 T73 : List (Addr × Obj)} {ps : Array Value} (_hp : Tab148 ps) {l1 c1 l2 c2 l3 c3 : Nat} {q1 q2 q3 : Str} (N : News g L h news) (e : TT = T38 ++ (T66 ++ T73)) (h38 : TabAtt 38 l1 c1 q1 T38) (h66 : TabAtt 66 l2 c2 q2 T66) (h73 : TabAtt 73 l3 c3 q3 T73)
    (hm : (148, tabObj ps) ∈ news) (hs : ∀ p ∈ TT, p ∈ news) : GrownAll [(42, 38), (152, 148), (77, 73), (70, 66)] h := by
  subst e
  exact ⟨grown_of N h38 fun p hp => hs p (List.mem_append_left _ hp), GrownAt.of N hm, grown_of N h73 fun p hp => hs p (List.mem_append_right _ (List.mem_append_right _ hp)),
    grown_of N h66 fun p hp => hs p (List.mem_append_right _ (List.mem_append_left _ hp)), trivial⟩
end
/-! LawB -/
section

inductive FoldA : Prop where | mk
theorem tailOk_of {l : List Nat} {tot : Int} (_h : (tx (l ++ tailOf tot)).length ≤ 1000) : TailOk (tailOf tot) := tailOf_ok tot
theorem tab_ne {TT T38 T66 T73 : List (Addr × Obj)} {d : Addr} {l1 c1 l2 c2 l3 c3 : Nat} {q1 q2 q3 : Str} (e : TT = T38 ++ (T66 ++ T73)) (h1 : TabAtt 38 l1 c1 q1 T38) (h2 : TabAtt 66 l2 c2 q2 T66) (h3 : TabAtt 73 l3 c3 q3 T73) (o : Off d TT) : @Ne Nat 38 d ∧ @Ne Nat 66 d ∧ @Ne Nat 73 d := by
  subst e
  obtain ⟨_, m1⟩ := h1.tab
  obtain ⟨_, m2⟩ := h2.tab
  obtain ⟨_, m3⟩ := h3.tab
  exact ⟨o _ (List.mem_append_left _ m1), o _ (List.mem_append_right _ (List.mem_append_left _ m2)), o _ (List.mem_append_right _ (List.mem_append_right _ m3))⟩
theorem off1_of {D : Addr} : ∀ {l : List (Addr × Obj)}, LCg.Off1 D l → ∀ p ∈ l, p.1 ≠ D
  | [], _, _, h => nomatch h
  | _ :: _, x, _, .head _ => x.1
  | _ :: _, x, _, .tail _ h => off1_of x.2 _ h
theorem lt_right {D : Addr} {T l : List (Addr × Obj)} (h : ∀ p ∈ T ++ l, p.1 < D) : ∀ p ∈ l, p.1 < D := fun p hp => h p (List.mem_append_right _ hp)
theorem pick_script {h : Heap} {l : Addr} {vs : List Value} {ns : List Int} (_hl : h.IsList l vs.toArray) (hi : IntsAre vs ns) : IntsAre vs ns := hi
theorem lt_c148 {n v : Nat} (h : n + 1 + 1 < v) (h0 : @LT.lt Nat _ 148 n) : @LT.lt Nat _ 148 v := by omega
theorem lt_d148 {w v : Nat} (h : w < v) (h0 : @LT.lt Nat _ 148 w) : @LT.lt Nat _ 148 v := Nat.lt_trans h0 h
inductive FoldB : Prop where | mk
theorem lt_of148 {n : Nat} (h : 148 < n) : 80 < n := by omega
theorem lt_c1 {n : Nat} (h : @LT.lt Nat _ 148 n) : @LT.lt Nat _ 148 (n + 1) := by omega
theorem lt_c2 {n : Nat} (h : @LT.lt Nat _ 148 n) : @LT.lt Nat _ 148 (n + 1 + 1) := by omega
local macro_rules | `(tactic| k_all) => `(tactic| first | exact Off.tab (by with_reducible assumption) (by decide) (by decide) | exact off_two (by with_reducible assumption) (by with_reducible assumption) (by decide) (by decide) (by decide))
theorem law_t : PySem.Challenge.rw_pg0267_01.Holds := hd.2 (by
  delta hd
  dsimp only
  k_go0
  have hL9 := lt_of148 (by assumption)
  (with_reducible rename News _ _ _ _ => oldN)
  refine tabs_start oldN (lt_c2 (by with_reducible assumption)) (lt_c1 (by with_reducible assumption)) ?_
  intro T38 T66 T73 TT h38 h66 h73 hTT hNL hO1 hO2 hO3 N9
  clear oldN
  (all_goals try k_fold)
  repeat' (first | (k_unfold; (try dsimp only)) | ((with_reducible show wpAny _ _ (subscriptTail (Expr.List _ _) _ (Value.ref _) (Value.int _ _)) _ _ _); k_here; k_dflt (refine' it_tail (by exact PySem.IsL.isList (News.get (by k_asm) (by k_mem))) ?_; intro t9)) | ((with_reducible show wpAny _ _ (subscriptTail (Expr.List _ _) _ (Value.ref _) (Value.int _ _)) _ _ _); k_here; k_dflt (refine' it_tail (by exact PySem.IsL.isList (News.get (by k_asm) (by k_mem))) ?_; intro t9)) | ((with_reducible show wpAny _ _ (subscriptTail (Expr.List _ _) _ (Value.ref _) (Value.int _ _)) _ _ _); k_here; k_dflt (refine' it_tail (by exact PySem.IsL.isList (News.get (by k_asm) (by k_mem))) ?_; intro t9)) | ((with_reducible show @ite _ _ _ (wpAny _ _ (eval (Expr.Constant _ _ _) _) _ _ _) (wpAny _ _ (eval (Expr.UnaryOp _ _ _) _) _ _ _)); k_dflt (refine ite_pm ?_); intro x9 t9 k9 hx9) | ((with_reducible show wpAny _ _ (compareOp .Eq (Value.bool _) (Value.bool _)) _ _ _); k_here; k_dflt (refine eq_pal (by first | exact CF.palb (LF.any (by with_reducible assumption) (by with_reducible assumption))) ?_); (try dsimp only); k_unfold; (try dsimp only); (refine' And.intro ?z4eg ?z4eh); (case z4eg => (refine' end_good (by (k_asm)) (by (assumption)) rfl)); (case z4eh => (refine' grown_all (by with_reducible assumption) (by k_asm) (by with_reducible assumption) (by with_reducible assumption) (by with_reducible assumption) (by with_reducible assumption) (by (first | exact List.mem_of_getElem? (i := 13) rfl | exact List.mem_of_getElem? (i := 12) rfl | exact List.mem_of_getElem? (i := 14) rfl | exact List.mem_of_getElem? (i := 11) rfl)) (by (intro p9 hp9; repeat (first | exact hp9 | apply List.mem_cons_of_mem)))))) | ((with_reducible show wpAny _ _ (compareOp .Eq (Value.ref _) (Value.ref _)) _ _ _); k_here; k_dflt (refine' eq_intsK (by exact PySem.IsL.isList (News.get (by k_asm) (by k_mem))) (by with_reducible assumption) (by exact PySem.IsL.isList (News.get (by k_asm) (by k_mem))) (by with_reducible assumption) (by ktr_units) ?_)) | ((with_reducible show wpAny _ _ (subscriptTail _ _ (Value.ref _) (Value.int 1 _)) _ _ _); k_here; k_dflt (refine' it_t1 (by k_asm) (by k_mem) ?_)) | ((with_reducible show wpAny _ _ (subscriptTail _ _ (Value.ref _) (Value.int 0 _)) _ _ _); k_here; k_dflt (refine' it_t0 (by k_asm) (by k_mem) ?_)) | ((with_reducible show wpAny _ _ (subscriptTail _ _ (Value.ref _) (Value.int 1 _)) _ _ _); k_here; k_dflt (refine' it_t1 (by k_asm) (by k_mem) ?_)) | ((with_reducible show wpAny _ _ (subscriptTail _ _ (Value.ref _) (Value.int 0 _)) _ _ _); k_here; k_dflt (refine' it_t0 (by k_asm) (by k_mem) ?_)) | ((with_reducible show wpAny _ _ (subscriptTail _ _ (Value.ref _) (Value.int 1 _)) _ _ _); k_here; k_dflt (refine' it_t1 (by k_asm) (by k_mem) ?_)) | ((with_reducible show wpAny _ _ (subscriptTail _ _ (Value.ref _) (Value.int 0 _)) _ _ _); k_here; k_dflt (refine' it_t0 (by k_asm) (by k_mem) ?_)) | ((with_reducible show wpAny _ _ (binaryOp .Mult (Value.int _ _) (Value.int _ _)) _ _ _); k_here; k_dflt (refine' mul_b (by exact LF.bf (by with_reducible assumption)) (by first | exact LF.bb (by with_reducible assumption) | exact LF.bf (by with_reducible assumption)) ?_)) | ((with_reducible show wpAny _ _ (subscriptTail _ (PySem.Expr.Slice (some _) none none _) _ (Value.ref _)) _ _ _); k_here; k_dflt (refine' slice_1 (s := ⟨_, _, _, _, _⟩) (by k_asm) (by k_asm) (by exact Nat.le_trans (tailOf_len _) (by decide)) ?_; intro h9 t9 k9 F9 N9)) | ((with_reducible show wpAny _ _ (subscriptTail _ (PySem.Expr.Slice (some _) (some _) none _) (Value.ref _) (Value.ref _)) _ _ _); k_here; k_dflt (refine' mid_strs (by k_asm) (by k_asm) (by exact PySem.IsL.isList (News.get (by k_asm) (by k_mem))) (by exact IsPart.int _ _) (by exact IsPart.int _ _) (by with_reducible assumption) (by exact PtsOk.lemap (by with_reducible assumption) (by with_reducible assumption)) (by exact PtsOk.gemap (by with_reducible assumption) (by with_reducible assumption)) ?_ (by with_unfolding_all rfl) (by kmk_pure); intro D' ws' h' F' N' l1 hS'; (try k_lt l1); (try have g148 := lt_c148 (v := D') (by with_reducible assumption) (by with_reducible assumption)))) | ((with_reducible show wpAny _ _ (subscriptTail _ (PySem.Expr.Slice none none (some _) _) (Value.ref _) (Value.ref _)) _ _ _); k_here; k_dflt (refine' rev_txs (by k_asm) (by k_asm) (by exact PySem.IsL.isList (News.get (by k_asm) (by k_mem))) (by exact IsPart.int _ _) (by with_reducible assumption) (by exact PtsOk.lemap (by with_reducible assumption) (by with_reducible assumption)) ?_ (by with_unfolding_all rfl) (by kmk_pure); intro D' ws' h' F' N' l1 hS'; (try k_lt l1); (try have g148 := lt_c148 (v := D') (by with_reducible assumption) (by with_reducible assumption)))) | ((with_reducible show wpAny _ _ (compareOp .NotEq (Value.int _ _) (Value.int _ _)) _ _ _); k_here; k_dflt (refine Mine.ne_int2 (Eq.symm (by with_reducible assumption)) ?_)) | ((with_reducible show wpAny _ _ (compareOp .NotEq (Value.str _ _) (Value.str _ _)) _ _ _); k_here; k_dflt (refine ne_txs ?_)) | ((with_reducible show wpAny _ _ (compareOp .NotEq (Value.ref _) (Value.ref _)) _ _ _); k_here; k_dflt (first | (refine' ne_strs (by exact PySem.IsL.isList (News.get (by k_asm) (by k_mem))) (by with_reducible assumption) (by exact PySem.IsL.isList (News.get (by k_asm) (by k_mem))) (by with_reducible assumption) (by first | exact PtsOk.ok (by with_reducible assumption) | exact PtsOk.okr (by with_reducible assumption)) (by (ktr_units)) ?_) | (refine' ne_ints (by exact PySem.IsL.isList (News.get (by k_asm) (by k_mem))) (by with_reducible assumption) (by exact PySem.IsL.isList (News.get (by k_asm) (by k_mem))) (by with_reducible assumption) (by ktr_units) (by first | exact LF.qf (by with_reducible assumption) | exact LF.qb (by with_reducible assumption)) ?_) | (refine' ne_tup2 (by k_asm) (by k_mem) (by k_mem) (by ktr_units) (by exact (CF.q (LF.any (by with_reducible assumption) (by with_reducible assumption))).trans (congrArg Prod.fst (by with_reducible assumption))) (by first | exact CF.r (LF.any (by with_reducible assumption) (by with_reducible assumption))) ?_) | (fail "x"))) | ((with_reducible show wpAny _ _ (binaryOp .Add (Value.str _ _) (Value.str _ _)) _ _ _); k_here; (k_dflt (refine' add_tx (by with_reducible assumption) ?_; intro t9 k9))) | ((with_reducible show wpAny _ _ (call (Value.builtin "str.join") _ _) _ _ _); k_here; k_dflt (refine' join_dots (by exact PySem.IsL.isList (News.get (by k_asm) (by k_mem))) (by with_reducible assumption) (by exact PtsOk.sum (by with_reducible assumption) (by with_reducible assumption)) ?_; intro t9 k9)) | ((with_reducible show wpAny _ _ (call (Value.ref 92) _ _) _ _ _); k_here; k_dflt (first | (refine' idm_c _ _ _ _ _ _ _ _ _ _ _ _ _ _ _ _ _ _ _ _ _ _ _ _ _ (by ((k_asm))) (by ((k_asm))) (by ((k_asm))) (by ((first | exact go19 (by with_reducible assumption) (by k_asm) | exact go17 (by with_reducible assumption) (by k_asm) | exact go14 (by with_reducible assumption) (by k_asm) | exact go13 (by with_reducible assumption) (by k_asm)))) (by ((k_asm))) (by ((first | exact rfl | assumption))) (by ((first | with_reducible assumption | exact lt_frm (by k_asm) (by k_asm) (by with_reducible assumption) | exact lt_frm (by k_asm) (by k_asm) (lt_frm (by k_asm) (by k_asm) (by with_reducible assumption))))) (by ((ktr_room))) (by ((ktr_units))) (by ((first | with_reducible assumption | assumption | exact CodeHd.keeps (by assumption) (Below.stays (by assumption))))) (by ((first | with_reducible assumption | assumption | exact CodeHd.keeps (by assumption) (Below.stays (by assumption))))) (by ((with_reducible assumption))) (by ((with_reducible assumption))) (by ((k_all))) (by ((k_all))) (by ((first | exact CF.b1 (LF.any (by with_reducible assumption) (by with_reducible assumption)) | exact CF.b2 (LF.any (by with_reducible assumption) (by with_reducible assumption))))) (by ((exact LF.bg (by with_reducible assumption)))) (by ((first | exact CF.p1 (LF.any (by with_reducible assumption) (by with_reducible assumption)) | exact CF.p2 (LF.any (by with_reducible assumption) (by with_reducible assumption))))) (by ((exact LF.g0 (by with_reducible assumption)))) ?_; intro d9 h9 tk9 dr9 t19 t29 T69 T79 F9 hT69 hT79 N9 ho9; (try k_lt ho9); (try have g148 := lt_c148 (v := d9) (by with_reducible assumption) (by with_reducible assumption)); (first | (refine gc19 (by k_asm) ?_) | (refine gc17 (by k_asm) ?_) | (refine gc14 (by k_asm) ?_) | (refine gc13 (by k_asm) ?_)); intro TT9 hTT9 N8) | (refine' idm_c _ _ _ _ _ _ _ _ _ _ _ _ _ _ _ _ _ _ _ _ _ _ _ _ _ (by ((k_asm))) (by ((k_asm))) (by ((k_asm))) (by ((first | exact go19 (by with_reducible assumption) (by k_asm) | exact go17 (by with_reducible assumption) (by k_asm) | exact go14 (by with_reducible assumption) (by k_asm) | exact go13 (by with_reducible assumption) (by k_asm)))) (by ((k_asm))) (by ((first | exact rfl | assumption))) (by ((first | with_reducible assumption | exact lt_frm (by k_asm) (by k_asm) (by with_reducible assumption) | exact lt_frm (by k_asm) (by k_asm) (lt_frm (by k_asm) (by k_asm) (by with_reducible assumption))))) (by ((ktr_room))) (by ((ktr_units))) (by ((first | with_reducible assumption | assumption | exact CodeHd.keeps (by assumption) (Below.stays (by assumption))))) (by ((first | with_reducible assumption | assumption | exact CodeHd.keeps (by assumption) (Below.stays (by assumption))))) (by ((with_reducible assumption))) (by ((with_reducible assumption))) (by ((k_all))) (by ((k_all))) (by ((first | exact CF.b1 (LF.any (by with_reducible assumption) (by with_reducible assumption)) | exact CF.b2 (LF.any (by with_reducible assumption) (by with_reducible assumption))))) (by ((exact LF.bg (by with_reducible assumption)))) (by ((first | exact CF.p1 (LF.any (by with_reducible assumption) (by with_reducible assumption)) | exact CF.p2 (LF.any (by with_reducible assumption) (by with_reducible assumption))))) (by ((exact LF.g0 (by with_reducible assumption)))) ?_; intro d9 h9 tk9 dr9 t19 t29 T69 T79 F9 hT69 hT79 N9 ho9; (try k_lt ho9); (try have g148 := lt_c148 (v := d9) (by with_reducible assumption) (by with_reducible assumption)); (first | (refine gc19 (by k_asm) ?_) | (refine gc17 (by k_asm) ?_) | (refine gc14 (by k_asm) ?_) | (refine gc13 (by k_asm) ?_)); intro TT9 hTT9 N8) | (refine' idm_c _ _ _ _ _ _ _ _ _ _ _ _ _ _ _ _ _ _ _ _ _ _ _ _ _ (by ((k_asm))) (by ((k_asm))) (by ((k_asm))) (by ((first | exact go19 (by with_reducible assumption) (by k_asm) | exact go17 (by with_reducible assumption) (by k_asm) | exact go14 (by with_reducible assumption) (by k_asm) | exact go13 (by with_reducible assumption) (by k_asm)))) (by ((k_asm))) (by ((first | exact rfl | assumption))) (by ((first | with_reducible assumption | exact lt_frm (by k_asm) (by k_asm) (by with_reducible assumption) | exact lt_frm (by k_asm) (by k_asm) (lt_frm (by k_asm) (by k_asm) (by with_reducible assumption))))) (by ((ktr_room))) (by ((ktr_units))) (by ((first | with_reducible assumption | assumption | exact CodeHd.keeps (by assumption) (Below.stays (by assumption))))) (by ((first | with_reducible assumption | assumption | exact CodeHd.keeps (by assumption) (Below.stays (by assumption))))) (by ((with_reducible assumption))) (by ((with_reducible assumption))) (by ((k_all))) (by ((k_all))) (by ((first | exact CF.b1 (LF.any (by with_reducible assumption) (by with_reducible assumption)) | exact CF.b2 (LF.any (by with_reducible assumption) (by with_reducible assumption))))) (by ((exact LF.bg (by with_reducible assumption)))) (by ((first | exact CF.p1 (LF.any (by with_reducible assumption) (by with_reducible assumption)) | exact CF.p2 (LF.any (by with_reducible assumption) (by with_reducible assumption))))) (by ((exact LF.g0 (by with_reducible assumption)))) ?_; intro d9 h9 tk9 dr9 t19 t29 T69 T79 F9 hT69 hT79 N9 ho9; (try k_lt ho9); (try have g148 := lt_c148 (v := d9) (by with_reducible assumption) (by with_reducible assumption)); (first | (refine gc19 (by k_asm) ?_) | (refine gc17 (by k_asm) ?_) | (refine gc14 (by k_asm) ?_) | (refine gc13 (by k_asm) ?_)); intro TT9 hTT9 N8) | (refine' idm_c _ _ _ _ _ _ _ _ _ _ _ _ _ _ _ _ _ _ _ _ _ _ _ _ _ (by ((k_asm))) (by ((k_asm))) (by ((k_asm))) (by ((first | exact go19 (by with_reducible assumption) (by k_asm) | exact go17 (by with_reducible assumption) (by k_asm) | exact go14 (by with_reducible assumption) (by k_asm) | exact go13 (by with_reducible assumption) (by k_asm)))) (by ((k_asm))) (by ((first | exact rfl | assumption))) (by ((first | with_reducible assumption | exact lt_frm (by k_asm) (by k_asm) (by with_reducible assumption) | exact lt_frm (by k_asm) (by k_asm) (lt_frm (by k_asm) (by k_asm) (by with_reducible assumption))))) (by ((ktr_room))) (by ((ktr_units))) (by ((first | with_reducible assumption | assumption | exact CodeHd.keeps (by assumption) (Below.stays (by assumption))))) (by ((first | with_reducible assumption | assumption | exact CodeHd.keeps (by assumption) (Below.stays (by assumption))))) (by ((with_reducible assumption))) (by ((with_reducible assumption))) (by ((k_all))) (by ((k_all))) (by ((first | exact CF.b1 (LF.any (by with_reducible assumption) (by with_reducible assumption)) | exact CF.b2 (LF.any (by with_reducible assumption) (by with_reducible assumption))))) (by ((exact LF.bg (by with_reducible assumption)))) (by ((first | exact CF.p1 (LF.any (by with_reducible assumption) (by with_reducible assumption)) | exact CF.p2 (LF.any (by with_reducible assumption) (by with_reducible assumption))))) (by ((exact LF.g0 (by with_reducible assumption)))) ?_; intro d9 h9 tk9 dr9 t19 t29 T69 T79 F9 hT69 hT79 N9 ho9; (try k_lt ho9); (try have g148 := lt_c148 (v := d9) (by with_reducible assumption) (by with_reducible assumption)); (first | (refine gc19 (by k_asm) ?_) | (refine gc17 (by k_asm) ?_) | (refine gc14 (by k_asm) ?_) | (refine gc13 (by k_asm) ?_)); intro TT9 hTT9 N8) | (fail "x"))) | ((with_reducible show wpAny _ _ (call (Value.ref 174) _ _) _ _ _); k_here; k_dflt (first | (refine' quot_c2 _ _ _ _ _ _ _ _ _ _ _ _ _ _ _ _ _ _ _ _ _ _ _ _ _ (by ((k_asm))) (by ((k_asm))) (by ((k_asm))) (by ((first | exact go19 (by with_reducible assumption) (by k_asm) | exact go17 (by with_reducible assumption) (by k_asm) | exact go14 (by with_reducible assumption) (by k_asm) | exact go13 (by with_reducible assumption) (by k_asm)))) (by ((k_asm))) (by ((first | exact rfl | assumption))) (by ((first | with_reducible assumption | exact lt_frm (by k_asm) (by k_asm) (by with_reducible assumption) | exact lt_frm (by k_asm) (by k_asm) (lt_frm (by k_asm) (by k_asm) (by with_reducible assumption))))) (by ((ktr_room))) (by ((ktr_units))) (by ((first | with_reducible assumption | assumption | exact CodeHd.keeps (by assumption) (Below.stays (by assumption))))) (by ((first | with_reducible assumption | assumption | exact CodeHd.keeps (by assumption) (Below.stays (by assumption))))) (by ((with_reducible assumption))) (by ((with_reducible assumption))) (by ((k_all))) (by ((k_all))) (by ((exact LF.bg (by with_reducible assumption)))) (by ((first | exact LF.bf (by with_reducible assumption) | exact LF.bb (by with_reducible assumption)))) (by ((exact LF.g0 (by with_reducible assumption)))) (by ((first | exact LF.f0 (by with_reducible assumption) | exact LF.b0 (by with_reducible assumption)))) (by ((first | exact LF.lf (by with_reducible assumption) (by with_reducible assumption) | exact LF.lb (by with_reducible assumption) (by with_reducible assumption)))) ?_; intro d9 h9 tk9 dr9 its9 e9 T69 T79 F9 hT69 hT79 hI9 N9 ho9; (try k_lt ho9); (try have g148 := lt_c148 (v := d9) (by with_reducible assumption) (by with_reducible assumption)); (first | (refine gc19 (by k_asm) ?_) | (refine gc17 (by k_asm) ?_) | (refine gc14 (by k_asm) ?_) | (refine gc13 (by k_asm) ?_)); intro TT9 hTT9 N8) | (refine' quot_c2 _ _ _ _ _ _ _ _ _ _ _ _ _ _ _ _ _ _ _ _ _ _ _ _ _ (by ((k_asm))) (by ((k_asm))) (by ((k_asm))) (by ((first | exact go19 (by with_reducible assumption) (by k_asm) | exact go17 (by with_reducible assumption) (by k_asm) | exact go14 (by with_reducible assumption) (by k_asm) | exact go13 (by with_reducible assumption) (by k_asm)))) (by ((k_asm))) (by ((first | exact rfl | assumption))) (by ((first | with_reducible assumption | exact lt_frm (by k_asm) (by k_asm) (by with_reducible assumption) | exact lt_frm (by k_asm) (by k_asm) (lt_frm (by k_asm) (by k_asm) (by with_reducible assumption))))) (by ((ktr_room))) (by ((ktr_units))) (by ((first | with_reducible assumption | assumption | exact CodeHd.keeps (by assumption) (Below.stays (by assumption))))) (by ((first | with_reducible assumption | assumption | exact CodeHd.keeps (by assumption) (Below.stays (by assumption))))) (by ((with_reducible assumption))) (by ((with_reducible assumption))) (by ((k_all))) (by ((k_all))) (by ((exact LF.bg (by with_reducible assumption)))) (by ((first | exact LF.bf (by with_reducible assumption) | exact LF.bb (by with_reducible assumption)))) (by ((exact LF.g0 (by with_reducible assumption)))) (by ((first | exact LF.f0 (by with_reducible assumption) | exact LF.b0 (by with_reducible assumption)))) (by ((first | exact LF.lf (by with_reducible assumption) (by with_reducible assumption) | exact LF.lb (by with_reducible assumption) (by with_reducible assumption)))) ?_; intro d9 h9 tk9 dr9 its9 e9 T69 T79 F9 hT69 hT79 hI9 N9 ho9; (try k_lt ho9); (try have g148 := lt_c148 (v := d9) (by with_reducible assumption) (by with_reducible assumption)); (first | (refine gc19 (by k_asm) ?_) | (refine gc17 (by k_asm) ?_) | (refine gc14 (by k_asm) ?_) | (refine gc13 (by k_asm) ?_)); intro TT9 hTT9 N8) | (fail "x"))) | ((with_reducible show wpAny _ _ (call (Value.ref 167) _ _) _ _ _); k_here; k_dflt (first | (with_reducible rename FoldB => mk7; (refine' fold_c _ _ _ _ _ _ _ _ _ _ _ _ _ _ _ _ _ _ _ _ _ _ _ _ _ (by ((k_asm))) (by ((k_asm))) (by ((k_asm))) (by ((first | exact fo16 (by with_reducible assumption) (by k_asm) | exact fo12 (by with_reducible assumption) (by k_asm) | exact fo11 (by with_reducible assumption) (by k_asm)))) (by ((k_asm))) (by ((first | exact rfl | assumption))) (by ((first | with_reducible assumption | exact lt_frm (by k_asm) (by k_asm) (by with_reducible assumption) | exact lt_frm (by k_asm) (by k_asm) (lt_frm (by k_asm) (by k_asm) (by with_reducible assumption))))) (by ((ktr_room))) (by ((ktr_units))) (by ((first | with_reducible assumption | assumption | exact CodeHd.keeps (by assumption) (Below.stays (by assumption))))) (by ((with_reducible assumption))) (by ((k_all))) (by ((k_mem))) (by ((with_reducible assumption))) (by ((first | exact nums_mid (PtsOk.nums (by with_reducible assumption)) | exact nums_rev2 (PtsOk.nums (by with_reducible assumption)) | exact PtsOk.nums (by with_reducible assumption)))) ?_; intro D9 h9 tk9 dr9 t19 t29 g9 l9 T9 hf9 hb19 hb29 F9 hT9 N9 ho9; (replace ho9 := lt_right ho9); (try k_lt ho9); (try have g148 := lt_c148 (v := D9) (by with_reducible assumption) (by with_reducible assumption)); (first | (refine fc16 (by k_asm) ?_) | (refine fc12 (by k_asm) ?_) | (refine fc11 (by k_asm) ?_)); intro TT9 hTT9 N8)) | ((with_reducible rename FoldA => mk7); (clear mk7); ((refine' fold_c _ _ _ _ _ _ _ _ _ _ _ _ _ _ _ _ _ _ _ _ _ _ _ _ _ (by ((k_asm))) (by ((k_asm))) (by ((k_asm))) (by ((first | exact fo16 (by with_reducible assumption) (by k_asm) | exact fo12 (by with_reducible assumption) (by k_asm) | exact fo11 (by with_reducible assumption) (by k_asm)))) (by ((k_asm))) (by ((first | exact rfl | assumption))) (by ((first | with_reducible assumption | exact lt_frm (by k_asm) (by k_asm) (by with_reducible assumption) | exact lt_frm (by k_asm) (by k_asm) (lt_frm (by k_asm) (by k_asm) (by with_reducible assumption))))) (by ((ktr_room))) (by ((ktr_units))) (by ((first | with_reducible assumption | assumption | exact CodeHd.keeps (by assumption) (Below.stays (by assumption))))) (by ((with_reducible assumption))) (by ((k_all))) (by ((k_mem))) (by ((with_reducible assumption))) (by ((first | exact nums_mid (PtsOk.nums (by with_reducible assumption)) | exact nums_rev2 (PtsOk.nums (by with_reducible assumption)) | exact PtsOk.nums (by with_reducible assumption)))) ?_; intro D9 h9 tk9 dr9 t19 t29 g9 l9 T9 hf9 hb19 hb29 F9 hT9 N9 ho9; (replace ho9 := lt_right ho9); (try k_lt ho9); (try have g148 := lt_c148 (v := D9) (by with_reducible assumption) (by with_reducible assumption)); (first | (refine fc16 (by k_asm) ?_) | (refine fc12 (by k_asm) ?_) | (refine fc11 (by k_asm) ?_)); intro TT9 hTT9 N8; (have hlf := lf_row (by with_reducible assumption) (by with_reducible assumption) hf9 (by with_reducible assumption) (by with_reducible assumption) hb29); (have hoe9 := hlf.1); (have hLF9 := hlf.2); (clear hlf); (have mk8 := FoldB.mk)))) | (refine' fold_c _ _ _ _ _ _ _ _ _ _ _ _ _ _ _ _ _ _ _ _ _ _ _ _ _ (by ((k_asm))) (by ((k_asm))) (by ((k_asm))) (by ((first | exact fo16 (by with_reducible assumption) (by k_asm) | exact fo12 (by with_reducible assumption) (by k_asm) | exact fo11 (by with_reducible assumption) (by k_asm)))) (by ((k_asm))) (by ((first | exact rfl | assumption))) (by ((first | with_reducible assumption | exact lt_frm (by k_asm) (by k_asm) (by with_reducible assumption) | exact lt_frm (by k_asm) (by k_asm) (lt_frm (by k_asm) (by k_asm) (by with_reducible assumption))))) (by ((ktr_room))) (by ((ktr_units))) (by ((first | with_reducible assumption | assumption | exact CodeHd.keeps (by assumption) (Below.stays (by assumption))))) (by ((with_reducible assumption))) (by ((k_all))) (by ((k_mem))) (by ((with_reducible assumption))) (by ((first | exact nums_mid (PtsOk.nums (by with_reducible assumption)) | exact nums_rev2 (PtsOk.nums (by with_reducible assumption)) | exact PtsOk.nums (by with_reducible assumption)))) ?_; intro D9 h9 tk9 dr9 t19 t29 g9 l9 T9 hf9 hb19 hb29 F9 hT9 N9 ho9; (replace ho9 := lt_right ho9); (try k_lt ho9); (try have g148 := lt_c148 (v := D9) (by with_reducible assumption) (by with_reducible assumption)); (first | (refine fc16 (by k_asm) ?_) | (refine fc12 (by k_asm) ?_) | (refine fc11 (by k_asm) ?_)); intro TT9 hTT9 N8; (have mk9 := FoldA.mk)) | (fail "x"))) | ((with_reducible show wpAny _ _ (call (Value.ref 160) _ _) _ _ _); k_here; k_dflt (first | (refine' behind_c2 _ _ _ _ _ _ _ _ _ _ _ _ _ _ _ _ _ _ _ _ _ _ _ _ (by ((k_asm))) (by ((k_asm))) (by ((k_asm))) (by ((k_asm))) (by ((k_asm))) (by ((first | exact rfl | assumption))) (by ((first | with_reducible assumption | exact lt_frm (by k_asm) (by k_asm) (by with_reducible assumption) | exact lt_frm (by k_asm) (by k_asm) (lt_frm (by k_asm) (by k_asm) (by with_reducible assumption))))) (by ((ktr_room))) (by ((ktr_units))) (by ((exact PtsOk.words (by with_reducible assumption)))) (by ((exact nam_rev _))) (by ((with_reducible assumption))) (by ((exact tailOf_ok _))) ?_; intro d9 h9 tk9 dr9 its9 e9 F9 hS9 N9 l9; (try k_lt l9); (try have g148 := lt_c148 (v := d9) (by with_reducible assumption) (by with_reducible assumption))) | (fail "x"))) | ((with_reducible show wpAny _ _ (call (Value.ref 153) _ _) _ _ _); k_here; k_dflt (first | (refine' front_c _ _ _ _ _ _ _ _ _ _ _ _ _ _ _ _ _ _ _ _ _ _ _ _ (by ((k_asm))) (by ((k_asm))) (by ((k_asm))) (by ((first | exact nf6 (by k_asm)))) (by ((k_asm))) (by ((first | exact rfl | assumption))) (by ((first | with_reducible assumption | exact lt_frm (by k_asm) (by k_asm) (by with_reducible assumption) | exact lt_frm (by k_asm) (by k_asm) (lt_frm (by k_asm) (by k_asm) (by with_reducible assumption))))) (by ((ktr_room))) (by ((ktr_units))) (by ((first | with_reducible assumption | assumption | exact CodeHd.keeps (by assumption) (Below.stays (by assumption))))) (by ((exact PtsOk.wdh (by with_reducible assumption)))) (by ((exact PtsOk.wdt (by with_reducible assumption)))) (by ((exact tailOk_of (by with_reducible assumption)))) (by ((exact front_eq))) (by ((with_reducible assumption))) (by ((exact PtsOk.le (by with_reducible assumption) (by with_reducible assumption)))) (by ((k_all))) ?_; intro d9 wl9 its9 e9 t9 h9 tk9 dr9 p148 hS9 F9 N9 l9 l8; (have t148 : Tab148 p148 := Tab148.mk); (try k_lt l9); (try have g148 := lt_c148 (v := wl9) (by with_reducible assumption) (by with_reducible assumption)); (try k_lt2 l8); (try have g147 := lt_d148 (v := d9) (w := wl9) (by with_reducible assumption) (by with_reducible assumption))) | (fail "x"))) | ((with_reducible show wpAny _ _ (eval (Expr.Name (Str.ofString "total") _) (compEnvC _ _ _ _)) _ _ _); k_here; k_dflt (refine' kcf_cell (by k_asm) (by rfl) (by k_mem) (by k_asm) ?_ (by rfl) (by rfl))) | ((with_reducible show wpAny _ _ (eval (Expr.Name (Str.ofString "row") _) (compEnvC _ _ _ _)) _ _ _); k_here; k_dflt (refine' kcf_cell (by k_asm) (by rfl) (by k_mem) (by k_asm) ?_ (by rfl) (by rfl))) | ((with_reducible show TxEl _ _ _ _); k_dflt (exact ⟨rfl, _, rfl⟩)) | ((with_reducible show LCg.CompEnd _ _ _ _ _ _ _ _ _ _ _ _ _ _); k_dflt (refine' LCg.CompEnd.intro ?z29cF ?z29cN _ ?z29cs ?z29co ?z29cS ?z29cr; (case z29co => (with_reducible assumption)); (case z29cF => (k_asm)); (case z29cN => (k_asm)); (case z29cs => (exact fun _ h => h)); (case z29cS => (trivial)); (case z29cr => (exact ⟨rfl, _, rfl⟩)))) | ((with_reducible show LCg.FinA _ _ _ _ _ _ _ _); (unfold LCg.FinA); intro D' h' tk' F' N' o1'; (have o8 := off1_of o1'); (simp only [List.forall_mem_cons] at o8); (obtain ⟨p1, p2, p3, p4, p5, p6⟩ := o8); (try dsimp only at p1 p2 p3 p4 p5); (replace p1 := neN p1); (replace p2 := neN p2); (replace p3 := neN p3); (replace p4 := neN p4); (replace p5 := neN p5); (obtain ⟨p7, p8, p9⟩ := tab_ne (by with_reducible assumption) (by with_reducible assumption) (by with_reducible assumption) (by with_reducible assumption) p6); (try dsimp only)) | ((with_reducible show wpAny _ _ (call (Value.ref 146) _ _) _ _ _); k_here; k_dflt (refine' written_c _ _ _ _ _ _ _ _ _ _ _ _ _ _ _ _ _ _ _ _ _ _ _ (by ((k_asm))) (by ((k_asm))) (by ((k_asm))) (by ((k_asm))) (by ((k_asm))) (by ((first | exact rfl | assumption))) (by ((ktr_room))) (by ((ktr_units))) (by ((exact RowOk.at0 (by with_reducible assumption) (by with_reducible assumption) (by with_reducible assumption)))) (by ((exact RowOk.at1 (by with_reducible assumption) (by with_reducible assumption) (by with_reducible assumption)))) ?_; intro t9 h9 tk9 F9 N9)) | ((with_reducible show wpAny _ _ (subscriptTail (Expr.Name _ _) (Expr.Name _ _) (Value.ref _) (Value.int _ _)) _ _ _); k_here; k_dflt (refine' it_row (by exact PySem.IsL.isList (News.get (by k_asm) (by k_mem))) (by with_reducible assumption) (by with_reducible assumption) (by with_reducible assumption) (by with_reducible assumption) ?_; intro t9)) | ((with_reducible show LCg.CompSrc _ _ _ _ _ _ _ _ _ _ _ _ _ _); k_here; k_dflt (refine' LCg.CompSrc.range ?z33a ?z33F ?z33N ?z33r ?z33sm ?z33n ?z33z ?_; (case z33a => rfl); (case z33F => k_asm); (case z33N => k_asm); (case z33r => assumption); (case z33n => exact rangeSize_nat _ _); (case z33sm => (exact row_small (by with_reducible assumption))); (case z33z => (exact row_line (by with_reducible assumption))); intro g'; refine' parts_rest2 (by with_reducible assumption) (by with_reducible assumption) (by exact pick_script (by with_reducible assumption) (by with_reducible assumption)) ?_ ?_; (intro k' t' I' oI' C' oC' D' m' ys' h' tk' E' hlo' hhi' hC' hx' F' N' off' ne'; (have off8 := off'); (simp only [LCg.Off3, and_true] at off')); rotate_left; (intro ys9 p9 rs9 hp9 hln9 hS9); rotate_left)) | ((with_reducible show wpAny _ _ (call (Value.builtin "len") [Value.ref _]) _ _ _); k_here; k_dflt (refine' len_row (by exact PySem.IsL.isList (News.get (by k_asm) (by k_mem))) (by with_reducible assumption) (by with_reducible assumption) ?_)) | ((with_reducible show wpAny _ _ (exec (Stmt.Assign _ (Expr.ListComp _ _ _ _) _) _) _ _ _); k_here; k_dflt (refine LCg.Assign_ListComp_U (F₀ := by k_asm) (by rfl) (by with_unfolding_all rfl) (by with_unfolding_all rfl) (by decide) (by rfl) (by decide) (by rfl) (by rfl) (by rfl) ?_)) | ((with_reducible show wpAny _ _ (subscriptTail _ (PySem.Expr.Slice none none (some _) _) (Value.ref _) (Value.ref _)) _ _ _); k_here; k_dflt (refine' krv_ints (by k_asm) (by k_asm) (by exact PySem.IsL.isList (News.get (by k_asm) (by k_mem))) (by exact IsPart.int _ _) (by with_reducible assumption) ?_ (by with_unfolding_all rfl) (by kmk_pure) (by exact RowOk.size (by with_reducible assumption) (by with_reducible assumption))); intro D' ws' h' F' N' l1 hI' hC'; (try k_lt l1)) | ((with_reducible show wpAny _ _ (eval (Expr.Name (Str.ofString "total") _) (envOfC _ _ _ _ _)) _ _ _); k_here; k_dflt (refine' nameX_C ?z37N ?z37c ?z37m ?z37d ?_ ?z37a ?z37b; (case z37a => rfl); (case z37b => rfl); (case z37N => k_asm); (case z37c => rfl); (case z37m => k_mem); (case z37d => k_asm); k_whole)) | ((with_reducible show wpAny _ _ (eval (Expr.Name (Str.ofString "row") _) (envOfC _ _ _ _ _)) _ _ _); k_here; k_dflt (refine' nameX_C ?z38N ?z38c ?z38m ?z38d ?_ ?z38a ?z38b; (case z38a => rfl); (case z38b => rfl); (case z38N => k_asm); (case z38c => rfl); (case z38m => k_mem); (case z38d => k_asm); k_whole)) | ((with_reducible show wpAny _ _ (call (Value.ref 139) _ _) _ _ _); k_here; k_dflt (first | (refine' row_c2 _ _ _ _ _ _ _ _ _ _ _ _ _ _ _ _ _ _ _ _ _ _ (by ((k_asm))) (by ((k_asm))) (by ((k_asm))) (by ((k_asm))) (by ((k_asm))) (by ((first | exact rfl | assumption))) (by ((first | with_reducible assumption | exact lt_frm (by k_asm) (by k_asm) (by with_reducible assumption) | exact lt_frm (by k_asm) (by k_asm) (lt_frm (by k_asm) (by k_asm) (by with_reducible assumption))))) (by ((ktr_room))) (by ((ktr_units))) (by ((with_reducible assumption))) (by ((with_reducible assumption))) (by ((omega))) (by ((repeat (first | with_reducible assumption | exact NoL.nil | refine NoL.tab ?_ | refine NoL.cell (by with_reducible assumption) ?_)))) ?_; intro d9 h9 tk9 ws9 n9 row9 F9 hro9 hi9 N9 ho9; (simp only [List.forall_mem_cons] at ho9); (obtain ⟨o1, o2, o3, o4⟩ := ho9); (try dsimp only at o1 o2 o3); (replace o1 := neN o1); (replace o2 := neN o2); (replace o3 := neN o3); (obtain ⟨o5, o6, o7⟩ := tab_ne (by with_reducible assumption) (by with_reducible assumption) (by with_reducible assumption) (by with_reducible assumption) o4)) | (fail "x"))) | (k_end; kc_close) | walk1 | (dsimp only; (first | ((with_reducible show wpAny _ _ (subscriptTail (Expr.List _ _) _ (Value.ref _) (Value.int _ _)) _ _ _); k_here; k_dflt (refine' it_tail (by exact PySem.IsL.isList (News.get (by k_asm) (by k_mem))) ?_; intro t9)) | ((with_reducible show wpAny _ _ (subscriptTail (Expr.List _ _) _ (Value.ref _) (Value.int _ _)) _ _ _); k_here; k_dflt (refine' it_tail (by exact PySem.IsL.isList (News.get (by k_asm) (by k_mem))) ?_; intro t9)) | ((with_reducible show wpAny _ _ (subscriptTail (Expr.List _ _) _ (Value.ref _) (Value.int _ _)) _ _ _); k_here; k_dflt (refine' it_tail (by exact PySem.IsL.isList (News.get (by k_asm) (by k_mem))) ?_; intro t9)) | ((with_reducible show @ite _ _ _ (wpAny _ _ (eval (Expr.Constant _ _ _) _) _ _ _) (wpAny _ _ (eval (Expr.UnaryOp _ _ _) _) _ _ _)); k_dflt (refine ite_pm ?_); intro x9 t9 k9 hx9) | ((with_reducible show wpAny _ _ (compareOp .Eq (Value.bool _) (Value.bool _)) _ _ _); k_here; k_dflt (refine eq_pal (by first | exact CF.palb (LF.any (by with_reducible assumption) (by with_reducible assumption))) ?_); (try dsimp only); k_unfold; (try dsimp only); (refine' And.intro ?z4eg ?z4eh); (case z4eg => (refine' end_good (by (k_asm)) (by (assumption)) rfl)); (case z4eh => (refine' grown_all (by with_reducible assumption) (by k_asm) (by with_reducible assumption) (by with_reducible assumption) (by with_reducible assumption) (by with_reducible assumption) (by (first | exact List.mem_of_getElem? (i := 13) rfl | exact List.mem_of_getElem? (i := 12) rfl | exact List.mem_of_getElem? (i := 14) rfl | exact List.mem_of_getElem? (i := 11) rfl)) (by (intro p9 hp9; repeat (first | exact hp9 | apply List.mem_cons_of_mem)))))) | ((with_reducible show wpAny _ _ (compareOp .Eq (Value.ref _) (Value.ref _)) _ _ _); k_here; k_dflt (refine' eq_intsK (by exact PySem.IsL.isList (News.get (by k_asm) (by k_mem))) (by with_reducible assumption) (by exact PySem.IsL.isList (News.get (by k_asm) (by k_mem))) (by with_reducible assumption) (by ktr_units) ?_)) | ((with_reducible show wpAny _ _ (subscriptTail _ _ (Value.ref _) (Value.int 1 _)) _ _ _); k_here; k_dflt (refine' it_t1 (by k_asm) (by k_mem) ?_)) | ((with_reducible show wpAny _ _ (subscriptTail _ _ (Value.ref _) (Value.int 0 _)) _ _ _); k_here; k_dflt (refine' it_t0 (by k_asm) (by k_mem) ?_)) | ((with_reducible show wpAny _ _ (subscriptTail _ _ (Value.ref _) (Value.int 1 _)) _ _ _); k_here; k_dflt (refine' it_t1 (by k_asm) (by k_mem) ?_)) | ((with_reducible show wpAny _ _ (subscriptTail _ _ (Value.ref _) (Value.int 0 _)) _ _ _); k_here; k_dflt (refine' it_t0 (by k_asm) (by k_mem) ?_)) | ((with_reducible show wpAny _ _ (subscriptTail _ _ (Value.ref _) (Value.int 1 _)) _ _ _); k_here; k_dflt (refine' it_t1 (by k_asm) (by k_mem) ?_)) | ((with_reducible show wpAny _ _ (subscriptTail _ _ (Value.ref _) (Value.int 0 _)) _ _ _); k_here; k_dflt (refine' it_t0 (by k_asm) (by k_mem) ?_)) | ((with_reducible show wpAny _ _ (binaryOp .Mult (Value.int _ _) (Value.int _ _)) _ _ _); k_here; k_dflt (refine' mul_b (by exact LF.bf (by with_reducible assumption)) (by first | exact LF.bb (by with_reducible assumption) | exact LF.bf (by with_reducible assumption)) ?_)) | ((with_reducible show wpAny _ _ (subscriptTail _ (PySem.Expr.Slice (some _) none none _) _ (Value.ref _)) _ _ _); k_here; k_dflt (refine' slice_1 (s := ⟨_, _, _, _, _⟩) (by k_asm) (by k_asm) (by exact Nat.le_trans (tailOf_len _) (by decide)) ?_; intro h9 t9 k9 F9 N9)) | ((with_reducible show wpAny _ _ (subscriptTail _ (PySem.Expr.Slice (some _) (some _) none _) (Value.ref _) (Value.ref _)) _ _ _); k_here; k_dflt (refine' mid_strs (by k_asm) (by k_asm) (by exact PySem.IsL.isList (News.get (by k_asm) (by k_mem))) (by exact IsPart.int _ _) (by exact IsPart.int _ _) (by with_reducible assumption) (by exact PtsOk.lemap (by with_reducible assumption) (by with_reducible assumption)) (by exact PtsOk.gemap (by with_reducible assumption) (by with_reducible assumption)) ?_ (by with_unfolding_all rfl) (by kmk_pure); intro D' ws' h' F' N' l1 hS'; (try k_lt l1); (try have g148 := lt_c148 (v := D') (by with_reducible assumption) (by with_reducible assumption)))) | ((with_reducible show wpAny _ _ (subscriptTail _ (PySem.Expr.Slice none none (some _) _) (Value.ref _) (Value.ref _)) _ _ _); k_here; k_dflt (refine' rev_txs (by k_asm) (by k_asm) (by exact PySem.IsL.isList (News.get (by k_asm) (by k_mem))) (by exact IsPart.int _ _) (by with_reducible assumption) (by exact PtsOk.lemap (by with_reducible assumption) (by with_reducible assumption)) ?_ (by with_unfolding_all rfl) (by kmk_pure); intro D' ws' h' F' N' l1 hS'; (try k_lt l1); (try have g148 := lt_c148 (v := D') (by with_reducible assumption) (by with_reducible assumption)))) | ((with_reducible show wpAny _ _ (compareOp .NotEq (Value.int _ _) (Value.int _ _)) _ _ _); k_here; k_dflt (refine Mine.ne_int2 (Eq.symm (by with_reducible assumption)) ?_)) | ((with_reducible show wpAny _ _ (compareOp .NotEq (Value.str _ _) (Value.str _ _)) _ _ _); k_here; k_dflt (refine ne_txs ?_)) | ((with_reducible show wpAny _ _ (compareOp .NotEq (Value.ref _) (Value.ref _)) _ _ _); k_here; k_dflt (first | (refine' ne_strs (by exact PySem.IsL.isList (News.get (by k_asm) (by k_mem))) (by with_reducible assumption) (by exact PySem.IsL.isList (News.get (by k_asm) (by k_mem))) (by with_reducible assumption) (by first | exact PtsOk.ok (by with_reducible assumption) | exact PtsOk.okr (by with_reducible assumption)) (by (ktr_units)) ?_) | (refine' ne_ints (by exact PySem.IsL.isList (News.get (by k_asm) (by k_mem))) (by with_reducible assumption) (by exact PySem.IsL.isList (News.get (by k_asm) (by k_mem))) (by with_reducible assumption) (by ktr_units) (by first | exact LF.qf (by with_reducible assumption) | exact LF.qb (by with_reducible assumption)) ?_) | (refine' ne_tup2 (by k_asm) (by k_mem) (by k_mem) (by ktr_units) (by exact (CF.q (LF.any (by with_reducible assumption) (by with_reducible assumption))).trans (congrArg Prod.fst (by with_reducible assumption))) (by first | exact CF.r (LF.any (by with_reducible assumption) (by with_reducible assumption))) ?_) | (fail "x"))) | ((with_reducible show wpAny _ _ (binaryOp .Add (Value.str _ _) (Value.str _ _)) _ _ _); k_here; (k_dflt (refine' add_tx (by with_reducible assumption) ?_; intro t9 k9))) | ((with_reducible show wpAny _ _ (call (Value.builtin "str.join") _ _) _ _ _); k_here; k_dflt (refine' join_dots (by exact PySem.IsL.isList (News.get (by k_asm) (by k_mem))) (by with_reducible assumption) (by exact PtsOk.sum (by with_reducible assumption) (by with_reducible assumption)) ?_; intro t9 k9)) | ((with_reducible show wpAny _ _ (call (Value.ref 92) _ _) _ _ _); k_here; k_dflt (first | (refine' idm_c _ _ _ _ _ _ _ _ _ _ _ _ _ _ _ _ _ _ _ _ _ _ _ _ _ (by ((k_asm))) (by ((k_asm))) (by ((k_asm))) (by ((first | exact go19 (by with_reducible assumption) (by k_asm) | exact go17 (by with_reducible assumption) (by k_asm) | exact go14 (by with_reducible assumption) (by k_asm) | exact go13 (by with_reducible assumption) (by k_asm)))) (by ((k_asm))) (by ((first | exact rfl | assumption))) (by ((first | with_reducible assumption | exact lt_frm (by k_asm) (by k_asm) (by with_reducible assumption) | exact lt_frm (by k_asm) (by k_asm) (lt_frm (by k_asm) (by k_asm) (by with_reducible assumption))))) (by ((ktr_room))) (by ((ktr_units))) (by ((first | with_reducible assumption | assumption | exact CodeHd.keeps (by assumption) (Below.stays (by assumption))))) (by ((first | with_reducible assumption | assumption | exact CodeHd.keeps (by assumption) (Below.stays (by assumption))))) (by ((with_reducible assumption))) (by ((with_reducible assumption))) (by ((k_all))) (by ((k_all))) (by ((first | exact CF.b1 (LF.any (by with_reducible assumption) (by with_reducible assumption)) | exact CF.b2 (LF.any (by with_reducible assumption) (by with_reducible assumption))))) (by ((exact LF.bg (by with_reducible assumption)))) (by ((first | exact CF.p1 (LF.any (by with_reducible assumption) (by with_reducible assumption)) | exact CF.p2 (LF.any (by with_reducible assumption) (by with_reducible assumption))))) (by ((exact LF.g0 (by with_reducible assumption)))) ?_; intro d9 h9 tk9 dr9 t19 t29 T69 T79 F9 hT69 hT79 N9 ho9; (try k_lt ho9); (try have g148 := lt_c148 (v := d9) (by with_reducible assumption) (by with_reducible assumption)); (first | (refine gc19 (by k_asm) ?_) | (refine gc17 (by k_asm) ?_) | (refine gc14 (by k_asm) ?_) | (refine gc13 (by k_asm) ?_)); intro TT9 hTT9 N8) | (refine' idm_c _ _ _ _ _ _ _ _ _ _ _ _ _ _ _ _ _ _ _ _ _ _ _ _ _ (by ((k_asm))) (by ((k_asm))) (by ((k_asm))) (by ((first | exact go19 (by with_reducible assumption) (by k_asm) | exact go17 (by with_reducible assumption) (by k_asm) | exact go14 (by with_reducible assumption) (by k_asm) | exact go13 (by with_reducible assumption) (by k_asm)))) (by ((k_asm))) (by ((first | exact rfl | assumption))) (by ((first | with_reducible assumption | exact lt_frm (by k_asm) (by k_asm) (by with_reducible assumption) | exact lt_frm (by k_asm) (by k_asm) (lt_frm (by k_asm) (by k_asm) (by with_reducible assumption))))) (by ((ktr_room))) (by ((ktr_units))) (by ((first | with_reducible assumption | assumption | exact CodeHd.keeps (by assumption) (Below.stays (by assumption))))) (by ((first | with_reducible assumption | assumption | exact CodeHd.keeps (by assumption) (Below.stays (by assumption))))) (by ((with_reducible assumption))) (by ((with_reducible assumption))) (by ((k_all))) (by ((k_all))) (by ((first | exact CF.b1 (LF.any (by with_reducible assumption) (by with_reducible assumption)) | exact CF.b2 (LF.any (by with_reducible assumption) (by with_reducible assumption))))) (by ((exact LF.bg (by with_reducible assumption)))) (by ((first | exact CF.p1 (LF.any (by with_reducible assumption) (by with_reducible assumption)) | exact CF.p2 (LF.any (by with_reducible assumption) (by with_reducible assumption))))) (by ((exact LF.g0 (by with_reducible assumption)))) ?_; intro d9 h9 tk9 dr9 t19 t29 T69 T79 F9 hT69 hT79 N9 ho9; (try k_lt ho9); (try have g148 := lt_c148 (v := d9) (by with_reducible assumption) (by with_reducible assumption)); (first | (refine gc19 (by k_asm) ?_) | (refine gc17 (by k_asm) ?_) | (refine gc14 (by k_asm) ?_) | (refine gc13 (by k_asm) ?_)); intro TT9 hTT9 N8) | (refine' idm_c _ _ _ _ _ _ _ _ _ _ _ _ _ _ _ _ _ _ _ _ _ _ _ _ _ (by ((k_asm))) (by ((k_asm))) (by ((k_asm))) (by ((first | exact go19 (by with_reducible assumption) (by k_asm) | exact go17 (by with_reducible assumption) (by k_asm) | exact go14 (by with_reducible assumption) (by k_asm) | exact go13 (by with_reducible assumption) (by k_asm)))) (by ((k_asm))) (by ((first | exact rfl | assumption))) (by ((first | with_reducible assumption | exact lt_frm (by k_asm) (by k_asm) (by with_reducible assumption) | exact lt_frm (by k_asm) (by k_asm) (lt_frm (by k_asm) (by k_asm) (by with_reducible assumption))))) (by ((ktr_room))) (by ((ktr_units))) (by ((first | with_reducible assumption | assumption | exact CodeHd.keeps (by assumption) (Below.stays (by assumption))))) (by ((first | with_reducible assumption | assumption | exact CodeHd.keeps (by assumption) (Below.stays (by assumption))))) (by ((with_reducible assumption))) (by ((with_reducible assumption))) (by ((k_all))) (by ((k_all))) (by ((first | exact CF.b1 (LF.any (by with_reducible assumption) (by with_reducible assumption)) | exact CF.b2 (LF.any (by with_reducible assumption) (by with_reducible assumption))))) (by ((exact LF.bg (by with_reducible assumption)))) (by ((first | exact CF.p1 (LF.any (by with_reducible assumption) (by with_reducible assumption)) | exact CF.p2 (LF.any (by with_reducible assumption) (by with_reducible assumption))))) (by ((exact LF.g0 (by with_reducible assumption)))) ?_; intro d9 h9 tk9 dr9 t19 t29 T69 T79 F9 hT69 hT79 N9 ho9; (try k_lt ho9); (try have g148 := lt_c148 (v := d9) (by with_reducible assumption) (by with_reducible assumption)); (first | (refine gc19 (by k_asm) ?_) | (refine gc17 (by k_asm) ?_) | (refine gc14 (by k_asm) ?_) | (refine gc13 (by k_asm) ?_)); intro TT9 hTT9 N8) | (refine' idm_c _ _ _ _ _ _ _ _ _ _ _ _ _ _ _ _ _ _ _ _ _ _ _ _ _ (by ((k_asm))) (by ((k_asm))) (by ((k_asm))) (by ((first | exact go19 (by with_reducible assumption) (by k_asm) | exact go17 (by with_reducible assumption) (by k_asm) | exact go14 (by with_reducible assumption) (by k_asm) | exact go13 (by with_reducible assumption) (by k_asm)))) (by ((k_asm))) (by ((first | exact rfl | assumption))) (by ((first | with_reducible assumption | exact lt_frm (by k_asm) (by k_asm) (by with_reducible assumption) | exact lt_frm (by k_asm) (by k_asm) (lt_frm (by k_asm) (by k_asm) (by with_reducible assumption))))) (by ((ktr_room))) (by ((ktr_units))) (by ((first | with_reducible assumption | assumption | exact CodeHd.keeps (by assumption) (Below.stays (by assumption))))) (by ((first | with_reducible assumption | assumption | exact CodeHd.keeps (by assumption) (Below.stays (by assumption))))) (by ((with_reducible assumption))) (by ((with_reducible assumption))) (by ((k_all))) (by ((k_all))) (by ((first | exact CF.b1 (LF.any (by with_reducible assumption) (by with_reducible assumption)) | exact CF.b2 (LF.any (by with_reducible assumption) (by with_reducible assumption))))) (by ((exact LF.bg (by with_reducible assumption)))) (by ((first | exact CF.p1 (LF.any (by with_reducible assumption) (by with_reducible assumption)) | exact CF.p2 (LF.any (by with_reducible assumption) (by with_reducible assumption))))) (by ((exact LF.g0 (by with_reducible assumption)))) ?_; intro d9 h9 tk9 dr9 t19 t29 T69 T79 F9 hT69 hT79 N9 ho9; (try k_lt ho9); (try have g148 := lt_c148 (v := d9) (by with_reducible assumption) (by with_reducible assumption)); (first | (refine gc19 (by k_asm) ?_) | (refine gc17 (by k_asm) ?_) | (refine gc14 (by k_asm) ?_) | (refine gc13 (by k_asm) ?_)); intro TT9 hTT9 N8) | (fail "x"))) | ((with_reducible show wpAny _ _ (call (Value.ref 174) _ _) _ _ _); k_here; k_dflt (first | (refine' quot_c2 _ _ _ _ _ _ _ _ _ _ _ _ _ _ _ _ _ _ _ _ _ _ _ _ _ (by ((k_asm))) (by ((k_asm))) (by ((k_asm))) (by ((first | exact go19 (by with_reducible assumption) (by k_asm) | exact go17 (by with_reducible assumption) (by k_asm) | exact go14 (by with_reducible assumption) (by k_asm) | exact go13 (by with_reducible assumption) (by k_asm)))) (by ((k_asm))) (by ((first | exact rfl | assumption))) (by ((first | with_reducible assumption | exact lt_frm (by k_asm) (by k_asm) (by with_reducible assumption) | exact lt_frm (by k_asm) (by k_asm) (lt_frm (by k_asm) (by k_asm) (by with_reducible assumption))))) (by ((ktr_room))) (by ((ktr_units))) (by ((first | with_reducible assumption | assumption | exact CodeHd.keeps (by assumption) (Below.stays (by assumption))))) (by ((first | with_reducible assumption | assumption | exact CodeHd.keeps (by assumption) (Below.stays (by assumption))))) (by ((with_reducible assumption))) (by ((with_reducible assumption))) (by ((k_all))) (by ((k_all))) (by ((exact LF.bg (by with_reducible assumption)))) (by ((first | exact LF.bf (by with_reducible assumption) | exact LF.bb (by with_reducible assumption)))) (by ((exact LF.g0 (by with_reducible assumption)))) (by ((first | exact LF.f0 (by with_reducible assumption) | exact LF.b0 (by with_reducible assumption)))) (by ((first | exact LF.lf (by with_reducible assumption) (by with_reducible assumption) | exact LF.lb (by with_reducible assumption) (by with_reducible assumption)))) ?_; intro d9 h9 tk9 dr9 its9 e9 T69 T79 F9 hT69 hT79 hI9 N9 ho9; (try k_lt ho9); (try have g148 := lt_c148 (v := d9) (by with_reducible assumption) (by with_reducible assumption)); (first | (refine gc19 (by k_asm) ?_) | (refine gc17 (by k_asm) ?_) | (refine gc14 (by k_asm) ?_) | (refine gc13 (by k_asm) ?_)); intro TT9 hTT9 N8) | (refine' quot_c2 _ _ _ _ _ _ _ _ _ _ _ _ _ _ _ _ _ _ _ _ _ _ _ _ _ (by ((k_asm))) (by ((k_asm))) (by ((k_asm))) (by ((first | exact go19 (by with_reducible assumption) (by k_asm) | exact go17 (by with_reducible assumption) (by k_asm) | exact go14 (by with_reducible assumption) (by k_asm) | exact go13 (by with_reducible assumption) (by k_asm)))) (by ((k_asm))) (by ((first | exact rfl | assumption))) (by ((first | with_reducible assumption | exact lt_frm (by k_asm) (by k_asm) (by with_reducible assumption) | exact lt_frm (by k_asm) (by k_asm) (lt_frm (by k_asm) (by k_asm) (by with_reducible assumption))))) (by ((ktr_room))) (by ((ktr_units))) (by ((first | with_reducible assumption | assumption | exact CodeHd.keeps (by assumption) (Below.stays (by assumption))))) (by ((first | with_reducible assumption | assumption | exact CodeHd.keeps (by assumption) (Below.stays (by assumption))))) (by ((with_reducible assumption))) (by ((with_reducible assumption))) (by ((k_all))) (by ((k_all))) (by ((exact LF.bg (by with_reducible assumption)))) (by ((first | exact LF.bf (by with_reducible assumption) | exact LF.bb (by with_reducible assumption)))) (by ((exact LF.g0 (by with_reducible assumption)))) (by ((first | exact LF.f0 (by with_reducible assumption) | exact LF.b0 (by with_reducible assumption)))) (by ((first | exact LF.lf (by with_reducible assumption) (by with_reducible assumption) | exact LF.lb (by with_reducible assumption) (by with_reducible assumption)))) ?_; intro d9 h9 tk9 dr9 its9 e9 T69 T79 F9 hT69 hT79 hI9 N9 ho9; (try k_lt ho9); (try have g148 := lt_c148 (v := d9) (by with_reducible assumption) (by with_reducible assumption)); (first | (refine gc19 (by k_asm) ?_) | (refine gc17 (by k_asm) ?_) | (refine gc14 (by k_asm) ?_) | (refine gc13 (by k_asm) ?_)); intro TT9 hTT9 N8) | (fail "x"))) | ((with_reducible show wpAny _ _ (call (Value.ref 167) _ _) _ _ _); k_here; k_dflt (first | (with_reducible rename FoldB => mk7; (refine' fold_c _ _ _ _ _ _ _ _ _ _ _ _ _ _ _ _ _ _ _ _ _ _ _ _ _ (by ((k_asm))) (by ((k_asm))) (by ((k_asm))) (by ((first | exact fo16 (by with_reducible assumption) (by k_asm) | exact fo12 (by with_reducible assumption) (by k_asm) | exact fo11 (by with_reducible assumption) (by k_asm)))) (by ((k_asm))) (by ((first | exact rfl | assumption))) (by ((first | with_reducible assumption | exact lt_frm (by k_asm) (by k_asm) (by with_reducible assumption) | exact lt_frm (by k_asm) (by k_asm) (lt_frm (by k_asm) (by k_asm) (by with_reducible assumption))))) (by ((ktr_room))) (by ((ktr_units))) (by ((first | with_reducible assumption | assumption | exact CodeHd.keeps (by assumption) (Below.stays (by assumption))))) (by ((with_reducible assumption))) (by ((k_all))) (by ((k_mem))) (by ((with_reducible assumption))) (by ((first | exact nums_mid (PtsOk.nums (by with_reducible assumption)) | exact nums_rev2 (PtsOk.nums (by with_reducible assumption)) | exact PtsOk.nums (by with_reducible assumption)))) ?_; intro D9 h9 tk9 dr9 t19 t29 g9 l9 T9 hf9 hb19 hb29 F9 hT9 N9 ho9; (replace ho9 := lt_right ho9); (try k_lt ho9); (try have g148 := lt_c148 (v := D9) (by with_reducible assumption) (by with_reducible assumption)); (first | (refine fc16 (by k_asm) ?_) | (refine fc12 (by k_asm) ?_) | (refine fc11 (by k_asm) ?_)); intro TT9 hTT9 N8)) | ((with_reducible rename FoldA => mk7); (clear mk7); ((refine' fold_c _ _ _ _ _ _ _ _ _ _ _ _ _ _ _ _ _ _ _ _ _ _ _ _ _ (by ((k_asm))) (by ((k_asm))) (by ((k_asm))) (by ((first | exact fo16 (by with_reducible assumption) (by k_asm) | exact fo12 (by with_reducible assumption) (by k_asm) | exact fo11 (by with_reducible assumption) (by k_asm)))) (by ((k_asm))) (by ((first | exact rfl | assumption))) (by ((first | with_reducible assumption | exact lt_frm (by k_asm) (by k_asm) (by with_reducible assumption) | exact lt_frm (by k_asm) (by k_asm) (lt_frm (by k_asm) (by k_asm) (by with_reducible assumption))))) (by ((ktr_room))) (by ((ktr_units))) (by ((first | with_reducible assumption | assumption | exact CodeHd.keeps (by assumption) (Below.stays (by assumption))))) (by ((with_reducible assumption))) (by ((k_all))) (by ((k_mem))) (by ((with_reducible assumption))) (by ((first | exact nums_mid (PtsOk.nums (by with_reducible assumption)) | exact nums_rev2 (PtsOk.nums (by with_reducible assumption)) | exact PtsOk.nums (by with_reducible assumption)))) ?_; intro D9 h9 tk9 dr9 t19 t29 g9 l9 T9 hf9 hb19 hb29 F9 hT9 N9 ho9; (replace ho9 := lt_right ho9); (try k_lt ho9); (try have g148 := lt_c148 (v := D9) (by with_reducible assumption) (by with_reducible assumption)); (first | (refine fc16 (by k_asm) ?_) | (refine fc12 (by k_asm) ?_) | (refine fc11 (by k_asm) ?_)); intro TT9 hTT9 N8; (have hlf := lf_row (by with_reducible assumption) (by with_reducible assumption) hf9 (by with_reducible assumption) (by with_reducible assumption) hb29); (have hoe9 := hlf.1); (have hLF9 := hlf.2); (clear hlf); (have mk8 := FoldB.mk)))) | (refine' fold_c _ _ _ _ _ _ _ _ _ _ _ _ _ _ _ _ _ _ _ _ _ _ _ _ _ (by ((k_asm))) (by ((k_asm))) (by ((k_asm))) (by ((first | exact fo16 (by with_reducible assumption) (by k_asm) | exact fo12 (by with_reducible assumption) (by k_asm) | exact fo11 (by with_reducible assumption) (by k_asm)))) (by ((k_asm))) (by ((first | exact rfl | assumption))) (by ((first | with_reducible assumption | exact lt_frm (by k_asm) (by k_asm) (by with_reducible assumption) | exact lt_frm (by k_asm) (by k_asm) (lt_frm (by k_asm) (by k_asm) (by with_reducible assumption))))) (by ((ktr_room))) (by ((ktr_units))) (by ((first | with_reducible assumption | assumption | exact CodeHd.keeps (by assumption) (Below.stays (by assumption))))) (by ((with_reducible assumption))) (by ((k_all))) (by ((k_mem))) (by ((with_reducible assumption))) (by ((first | exact nums_mid (PtsOk.nums (by with_reducible assumption)) | exact nums_rev2 (PtsOk.nums (by with_reducible assumption)) | exact PtsOk.nums (by with_reducible assumption)))) ?_; intro D9 h9 tk9 dr9 t19 t29 g9 l9 T9 hf9 hb19 hb29 F9 hT9 N9 ho9; (replace ho9 := lt_right ho9); (try k_lt ho9); (try have g148 := lt_c148 (v := D9) (by with_reducible assumption) (by with_reducible assumption)); (first | (refine fc16 (by k_asm) ?_) | (refine fc12 (by k_asm) ?_) | (refine fc11 (by k_asm) ?_)); intro TT9 hTT9 N8; (have mk9 := FoldA.mk)) | (fail "x"))) | ((with_reducible show wpAny _ _ (call (Value.ref 160) _ _) _ _ _); k_here; k_dflt (first | (refine' behind_c2 _ _ _ _ _ _ _ _ _ _ _ _ _ _ _ _ _ _ _ _ _ _ _ _ (by ((k_asm))) (by ((k_asm))) (by ((k_asm))) (by ((k_asm))) (by ((k_asm))) (by ((first | exact rfl | assumption))) (by ((first | with_reducible assumption | exact lt_frm (by k_asm) (by k_asm) (by with_reducible assumption) | exact lt_frm (by k_asm) (by k_asm) (lt_frm (by k_asm) (by k_asm) (by with_reducible assumption))))) (by ((ktr_room))) (by ((ktr_units))) (by ((exact PtsOk.words (by with_reducible assumption)))) (by ((exact nam_rev _))) (by ((with_reducible assumption))) (by ((exact tailOf_ok _))) ?_; intro d9 h9 tk9 dr9 its9 e9 F9 hS9 N9 l9; (try k_lt l9); (try have g148 := lt_c148 (v := d9) (by with_reducible assumption) (by with_reducible assumption))) | (fail "x"))) | ((with_reducible show wpAny _ _ (call (Value.ref 153) _ _) _ _ _); k_here; k_dflt (first | (refine' front_c _ _ _ _ _ _ _ _ _ _ _ _ _ _ _ _ _ _ _ _ _ _ _ _ (by ((k_asm))) (by ((k_asm))) (by ((k_asm))) (by ((first | exact nf6 (by k_asm)))) (by ((k_asm))) (by ((first | exact rfl | assumption))) (by ((first | with_reducible assumption | exact lt_frm (by k_asm) (by k_asm) (by with_reducible assumption) | exact lt_frm (by k_asm) (by k_asm) (lt_frm (by k_asm) (by k_asm) (by with_reducible assumption))))) (by ((ktr_room))) (by ((ktr_units))) (by ((first | with_reducible assumption | assumption | exact CodeHd.keeps (by assumption) (Below.stays (by assumption))))) (by ((exact PtsOk.wdh (by with_reducible assumption)))) (by ((exact PtsOk.wdt (by with_reducible assumption)))) (by ((exact tailOk_of (by with_reducible assumption)))) (by ((exact front_eq))) (by ((with_reducible assumption))) (by ((exact PtsOk.le (by with_reducible assumption) (by with_reducible assumption)))) (by ((k_all))) ?_; intro d9 wl9 its9 e9 t9 h9 tk9 dr9 p148 hS9 F9 N9 l9 l8; (have t148 : Tab148 p148 := Tab148.mk); (try k_lt l9); (try have g148 := lt_c148 (v := wl9) (by with_reducible assumption) (by with_reducible assumption)); (try k_lt2 l8); (try have g147 := lt_d148 (v := d9) (w := wl9) (by with_reducible assumption) (by with_reducible assumption))) | (fail "x"))) | ((with_reducible show wpAny _ _ (eval (Expr.Name (Str.ofString "total") _) (compEnvC _ _ _ _)) _ _ _); k_here; k_dflt (refine' kcf_cell (by k_asm) (by rfl) (by k_mem) (by k_asm) ?_ (by rfl) (by rfl))) | ((with_reducible show wpAny _ _ (eval (Expr.Name (Str.ofString "row") _) (compEnvC _ _ _ _)) _ _ _); k_here; k_dflt (refine' kcf_cell (by k_asm) (by rfl) (by k_mem) (by k_asm) ?_ (by rfl) (by rfl))) | ((with_reducible show TxEl _ _ _ _); k_dflt (exact ⟨rfl, _, rfl⟩)) | ((with_reducible show LCg.CompEnd _ _ _ _ _ _ _ _ _ _ _ _ _ _); k_dflt (refine' LCg.CompEnd.intro ?z29cF ?z29cN _ ?z29cs ?z29co ?z29cS ?z29cr; (case z29co => (with_reducible assumption)); (case z29cF => (k_asm)); (case z29cN => (k_asm)); (case z29cs => (exact fun _ h => h)); (case z29cS => (trivial)); (case z29cr => (exact ⟨rfl, _, rfl⟩)))) | ((with_reducible show LCg.FinA _ _ _ _ _ _ _ _); (unfold LCg.FinA); intro D' h' tk' F' N' o1'; (have o8 := off1_of o1'); (simp only [List.forall_mem_cons] at o8); (obtain ⟨p1, p2, p3, p4, p5, p6⟩ := o8); (try dsimp only at p1 p2 p3 p4 p5); (replace p1 := neN p1); (replace p2 := neN p2); (replace p3 := neN p3); (replace p4 := neN p4); (replace p5 := neN p5); (obtain ⟨p7, p8, p9⟩ := tab_ne (by with_reducible assumption) (by with_reducible assumption) (by with_reducible assumption) (by with_reducible assumption) p6); (try dsimp only)) | ((with_reducible show wpAny _ _ (call (Value.ref 146) _ _) _ _ _); k_here; k_dflt (refine' written_c _ _ _ _ _ _ _ _ _ _ _ _ _ _ _ _ _ _ _ _ _ _ _ (by ((k_asm))) (by ((k_asm))) (by ((k_asm))) (by ((k_asm))) (by ((k_asm))) (by ((first | exact rfl | assumption))) (by ((ktr_room))) (by ((ktr_units))) (by ((exact RowOk.at0 (by with_reducible assumption) (by with_reducible assumption) (by with_reducible assumption)))) (by ((exact RowOk.at1 (by with_reducible assumption) (by with_reducible assumption) (by with_reducible assumption)))) ?_; intro t9 h9 tk9 F9 N9)) | ((with_reducible show wpAny _ _ (subscriptTail (Expr.Name _ _) (Expr.Name _ _) (Value.ref _) (Value.int _ _)) _ _ _); k_here; k_dflt (refine' it_row (by exact PySem.IsL.isList (News.get (by k_asm) (by k_mem))) (by with_reducible assumption) (by with_reducible assumption) (by with_reducible assumption) (by with_reducible assumption) ?_; intro t9)) | ((with_reducible show LCg.CompSrc _ _ _ _ _ _ _ _ _ _ _ _ _ _); k_here; k_dflt (refine' LCg.CompSrc.range ?z33a ?z33F ?z33N ?z33r ?z33sm ?z33n ?z33z ?_; (case z33a => rfl); (case z33F => k_asm); (case z33N => k_asm); (case z33r => assumption); (case z33n => exact rangeSize_nat _ _); (case z33sm => (exact row_small (by with_reducible assumption))); (case z33z => (exact row_line (by with_reducible assumption))); intro g'; refine' parts_rest2 (by with_reducible assumption) (by with_reducible assumption) (by exact pick_script (by with_reducible assumption) (by with_reducible assumption)) ?_ ?_; (intro k' t' I' oI' C' oC' D' m' ys' h' tk' E' hlo' hhi' hC' hx' F' N' off' ne'; (have off8 := off'); (simp only [LCg.Off3, and_true] at off')); rotate_left; (intro ys9 p9 rs9 hp9 hln9 hS9); rotate_left)) | ((with_reducible show wpAny _ _ (call (Value.builtin "len") [Value.ref _]) _ _ _); k_here; k_dflt (refine' len_row (by exact PySem.IsL.isList (News.get (by k_asm) (by k_mem))) (by with_reducible assumption) (by with_reducible assumption) ?_)) | ((with_reducible show wpAny _ _ (exec (Stmt.Assign _ (Expr.ListComp _ _ _ _) _) _) _ _ _); k_here; k_dflt (refine LCg.Assign_ListComp_U (F₀ := by k_asm) (by rfl) (by with_unfolding_all rfl) (by with_unfolding_all rfl) (by decide) (by rfl) (by decide) (by rfl) (by rfl) (by rfl) ?_)) | ((with_reducible show wpAny _ _ (subscriptTail _ (PySem.Expr.Slice none none (some _) _) (Value.ref _) (Value.ref _)) _ _ _); k_here; k_dflt (refine' krv_ints (by k_asm) (by k_asm) (by exact PySem.IsL.isList (News.get (by k_asm) (by k_mem))) (by exact IsPart.int _ _) (by with_reducible assumption) ?_ (by with_unfolding_all rfl) (by kmk_pure) (by exact RowOk.size (by with_reducible assumption) (by with_reducible assumption))); intro D' ws' h' F' N' l1 hI' hC'; (try k_lt l1)) | ((with_reducible show wpAny _ _ (eval (Expr.Name (Str.ofString "total") _) (envOfC _ _ _ _ _)) _ _ _); k_here; k_dflt (refine' nameX_C ?z37N ?z37c ?z37m ?z37d ?_ ?z37a ?z37b; (case z37a => rfl); (case z37b => rfl); (case z37N => k_asm); (case z37c => rfl); (case z37m => k_mem); (case z37d => k_asm); k_whole)) | ((with_reducible show wpAny _ _ (eval (Expr.Name (Str.ofString "row") _) (envOfC _ _ _ _ _)) _ _ _); k_here; k_dflt (refine' nameX_C ?z38N ?z38c ?z38m ?z38d ?_ ?z38a ?z38b; (case z38a => rfl); (case z38b => rfl); (case z38N => k_asm); (case z38c => rfl); (case z38m => k_mem); (case z38d => k_asm); k_whole)) | ((with_reducible show wpAny _ _ (call (Value.ref 139) _ _) _ _ _); k_here; k_dflt (first | (refine' row_c2 _ _ _ _ _ _ _ _ _ _ _ _ _ _ _ _ _ _ _ _ _ _ (by ((k_asm))) (by ((k_asm))) (by ((k_asm))) (by ((k_asm))) (by ((k_asm))) (by ((first | exact rfl | assumption))) (by ((first | with_reducible assumption | exact lt_frm (by k_asm) (by k_asm) (by with_reducible assumption) | exact lt_frm (by k_asm) (by k_asm) (lt_frm (by k_asm) (by k_asm) (by with_reducible assumption))))) (by ((ktr_room))) (by ((ktr_units))) (by ((with_reducible assumption))) (by ((with_reducible assumption))) (by ((omega))) (by ((repeat (first | with_reducible assumption | exact NoL.nil | refine NoL.tab ?_ | refine NoL.cell (by with_reducible assumption) ?_)))) ?_; intro d9 h9 tk9 ws9 n9 row9 F9 hro9 hi9 N9 ho9; (simp only [List.forall_mem_cons] at ho9); (obtain ⟨o1, o2, o3, o4⟩ := ho9); (try dsimp only at o1 o2 o3); (replace o1 := neN o1); (replace o2 := neN o2); (replace o3 := neN o3); (obtain ⟨o5, o6, o7⟩ := tab_ne (by with_reducible assumption) (by with_reducible assumption) (by with_reducible assumption) (by with_reducible assumption) o4)) | (fail "x"))) | walk1)) | (leave1; (try dsimp only)) | fail "no step")
  all_goals (fail "x"))
end
end Mine
theorem PySem.Challenge.cw_pg0267_01_holds : PySem.Challenge.rw_pg0267_01.Holds := by
  exact Mine.law_t
