import PyProof.Rows.All
import Wide.All
import OpenK.AllK
import Wide.FinOn
import Lean
import PySem.Challenge.RW_ij0070_01
open PySem PySem.W PyProof.Rows PySem.Calls
set_option Elab.async false


namespace Mine
set_option maxRecDepth 100000 in
set_option maxHeartbeats 8000000 in
open_top hd for PySem.Challenge.rw_ij0070_01
end Mine


namespace Mine
open PySem.Builtin PySem.Builtin.Str

/-! ## find and rfind with two bounds -/
def find4 (x y : Str) (i j : Int) : Int := match occurrences x y (fromIndex x.length i) (min (fromIndex x.length j) x.length) 1 with | k :: _ => (k : Int) | [] => -1
def rfind4 (x y : Str) (i j : Int) : Int := match lastOccurrence x y (fromIndex x.length i) (min (fromIndex x.length j) x.length) with | some k => (k : Int) | none => -1
theorem gives_find4 (x y : Str) (i j : Int) (t u v w : Tok) : Gives («str.find» ⟨[.str x t, .str y u, .int i v, .int j w], []⟩) (.int (find4 x y i j)) := by
  show Gives (match occurrences x y (fromIndex x.length i) (min (fromIndex x.length j) x.length) 1 with | k :: _ => retInt k | [] => (do rule "str.find.not-found"; retInt (-1))) _
  unfold find4
  cases occurrences x y (fromIndex x.length i) (min (fromIndex x.length j) x.length) 1 with
  | nil => exact .rule (.of_eq rfl)
  | cons k _ => exact .of_eq rfl
theorem gives_rfind4 (x y : Str) (i j : Int) (t u v w : Tok) : Gives («str.rfind» ⟨[.str x t, .str y u, .int i v, .int j w], []⟩) (.int (rfind4 x y i j)) := by
  show Gives (match lastOccurrence x y (fromIndex x.length i) (min (fromIndex x.length j) x.length) with | some k => retInt k | none => (do rule "str.rfind.not-found"; retInt (-1))) _
  unfold rfind4
  cases lastOccurrence x y (fromIndex x.length i) (min (fromIndex x.length j) x.length) with
  | none => exact .rule (.of_eq rfl)
  | some k => exact .of_eq rfl
section
variable {prog : Program} {w : World} {A : Around} {E : Value → Shared → Prop} {s : Shared} {x y : Str} {t u v v' : Tok} {i j : Int} {Q : Value → Shared → Prop}
theorem call_find4 (hq : Q (.int (find4 x y i j) s.toks) { s with toks := s.toks + 1 }) : wpAny (model prog w) A (call (.builtin "str.find") [.str x t, .str y u, .int i v, .int j v']) Q E s :=
  call_gives F.slot_str_find (typeIs_str _ _ _) F.entry_str_find (F.args_str_find_4 _ _ _ _) (gives_find4 x y i j t u v v') hq
theorem call_rfind4 (hq : Q (.int (rfind4 x y i j) s.toks) { s with toks := s.toks + 1 }) : wpAny (model prog w) A (call (.builtin "str.rfind") [.str x t, .str y u, .int i v, .int j v']) Q E s :=
  call_gives F.slot_str_rfind (typeIs_str _ _ _) F.entry_str_rfind (F.args_str_rfind_4 _ _ _ _) (gives_rfind4 x y i j t u v v') hq
end

theorem at_one (x : Str) (c hi i : Nat) (hh : hi ≤ x.length) : StrLaws.At x ⟨#[c]⟩ hi i ↔ i < hi ∧ x.cps.toList[i]? = some c := by
  have e : (⟨#[c]⟩ : Str).length = 1 := rfl
  constructor
  · rintro ⟨h1, h2⟩
    rw [e] at h1
    exact ⟨by omega, (StrLaws.subAt_one x c i).mp ⟨by rw [e]; omega, h2⟩⟩
  · rintro ⟨h1, h2⟩
    have := (StrLaws.subAt_one x c i).mpr h2
    exact ⟨by rw [e]; omega, this.2⟩

theorem fromIndex_nat (n : Nat) (j : Nat) : fromIndex n (j : Int) = j := by
  unfold fromIndex
  rw [if_neg (by omega)]
  omega

theorem find4_spec (x : Str) (c : Nat) (j : Nat) (hj : j ≤ x.length) :
    (find4 x ⟨#[c]⟩ 0 j = -1 ∧ ∀ v, v < j → x.cps.toList[v]? ≠ some c) ∨
    ∃ k : Nat, find4 x ⟨#[c]⟩ 0 j = (k : Int) ∧ k < j ∧ x.cps.toList[k]? = some c ∧ ∀ v, v < k → x.cps.toList[v]? ≠ some c := by
  unfold find4
  have e0 : fromIndex x.length 0 = 0 := fromIndex_nat _ 0
  rw [e0, fromIndex_nat, Nat.min_eq_left hj, StrLaws.occ_eq]
  rcases StrLaws.occ_first x ⟨#[c]⟩ j 1 (Nat.le_refl 1) (List.range' 0 (j + 1 - 0)) 0 (fun i _ => Nat.zero_le i) with ⟨h0, hn⟩ | ⟨pre, a, post, e, h0, ha, hn⟩
  · refine .inl ⟨by rw [h0], fun v hv he => ?_⟩
    exact hn v (by rw [List.mem_range'_1]; omega) ((at_one x c j v hj).mpr ⟨hv, he⟩)
  · have ha' := (at_one x c j a hj).mp ha
    refine .inr ⟨a, ?_, ha'.1, ha'.2, fun v hv he => ?_⟩
    · generalize (forIn (List.range' 0 (j + 1 - 0)) ((#[] : Array Nat), 0) (StrLaws.occBody x ⟨#[c]⟩ j 1)).run.fst = arr at h0
      have h1 : arr.toList[0]? = some a := by simpa using h0
      cases hL : arr.toList with
      | nil => rw [hL] at h1; cases h1
      | cons b t => rw [hL] at h1; simp at h1; rw [h1]
    · have hs := StrLaws.range'_split e v hv
      exact hn v hs ((at_one x c j v hj).mpr ⟨by omega, he⟩)

theorem rfind4_spec (x : Str) (c : Nat) (j : Nat) (hj : j ≤ x.length) :
    (rfind4 x ⟨#[c]⟩ 0 j = -1 ∧ ∀ v, v < j → x.cps.toList[v]? ≠ some c) ∨
    ∃ k : Nat, rfind4 x ⟨#[c]⟩ 0 j = (k : Int) ∧ k < j ∧ x.cps.toList[k]? = some c ∧ ∀ v, k < v → v < j → x.cps.toList[v]? ≠ some c := by
  unfold rfind4
  have e0 : fromIndex x.length 0 = 0 := fromIndex_nat _ 0
  rw [e0, fromIndex_nat, Nat.min_eq_left hj, StrLaws.last_eq]
  have key := StrLaws.last_run x ⟨#[c]⟩ j (List.range' 0 (j + 1 - 0)) [] none (fun _ h => nomatch h) (fun _ h => nomatch h) (by simpa using List.pairwise_lt_range' (s := 0) (n := j + 1 - 0))
  have mem : ∀ i, i < j → i ∈ [] ++ List.range' 0 (j + 1 - 0) := fun i hi => by simp [List.mem_range'] <;> omega
  cases hr : (forIn (List.range' 0 (j + 1 - 0)) none (StrLaws.lastBody x ⟨#[c]⟩ j)).run with
  | none => rw [hr] at key; exact .inl ⟨rfl, fun v hv he => key v (mem v hv) ((at_one x c j v hj).mpr ⟨hv, he⟩)⟩
  | some a =>
    rw [hr] at key
    have ha := (at_one x c j a hj).mp key.1
    exact .inr ⟨a, rfl, ha.1, ha.2, fun v h1 h2 he => key.2 v (mem v h2) h1 ((at_one x c j v hj).mpr ⟨h2, he⟩)⟩

/-! ## the cut, as a scan -/
def scan : List Nat → List Nat → List Nat
  | acc, [] => acc
  | acc, c :: r => if c = 10 ∨ c = 58 then acc else if c = 46 then scan [] r else scan (acc ++ [c]) r
def strip (x : Str) : Str := ⟨(scan [] x.cps.toList).toArray⟩
theorem scan_plain : ∀ (l acc : List Nat), (∀ c ∈ l, c ≠ 10 ∧ c ≠ 58 ∧ c ≠ 46) → scan acc l = acc ++ l
  | [], acc, _ => by simp [scan]
  | c :: r, acc, h => by
    have hc := h c (.head _)
    rw [scan, if_neg (by omega), if_neg (by omega), scan_plain r _ fun d hd => h d (.tail _ hd)]
    simp
theorem scan_append : ∀ (p r acc : List Nat), (∀ c ∈ p, c ≠ 10 ∧ c ≠ 58) → scan acc (p ++ r) = scan (scan acc p) r
  | [], r, acc, _ => rfl
  | c :: p, r, acc, h => by
    have hc := h c (.head _)
    have hp : ∀ d ∈ p, d ≠ 10 ∧ d ≠ 58 := fun d hd => h d (.tail _ hd)
    have hx : ¬ (c = 10 ∨ c = 58) := by omega
    rw [List.cons_append]
    simp only [scan, if_neg hx]
    by_cases hd : c = 46
    · rw [if_pos hd, if_pos hd]; exact scan_append p r [] hp
    · rw [if_neg hd, if_neg hd]; exact scan_append p r _ hp
theorem scan_upto (l : List Nat) (e : Nat) (he : e ≤ l.length) (hn : ∀ v, v < e → l[v]? ≠ some 10 ∧ l[v]? ≠ some 58) (hs : e = l.length ∨ l[e]? = some 10 ∨ l[e]? = some 58) : scan [] l = scan [] (l.take e) := by
  have hp : ∀ c ∈ l.take e, c ≠ 10 ∧ c ≠ 58 := by
    intro c hc
    obtain ⟨v, hv⟩ := List.mem_iff_getElem?.mp hc
    rw [List.getElem?_take] at hv
    split at hv
    · rename_i hlt
      have := hn v hlt
      constructor
      · rintro rfl; exact this.1 hv
      · rintro rfl; exact this.2 hv
    · cases hv
  have hl : l = l.take e ++ l.drop e := (List.take_append_drop e l).symm
  rcases hs with hs | hs
  · subst hs; simp
  · have hlt : e < l.length := by
      rcases hs with hs | hs <;> exact (List.getElem?_eq_some_iff.mp hs).1
    have hd : l.drop e = l[e] :: l.drop (e + 1) := List.drop_eq_getElem_cons hlt
    have hv : l[e] = 10 ∨ l[e] = 58 := by
      rcases hs with hs | hs
      · exact .inl (by rw [List.getElem?_eq_getElem hlt] at hs; exact Option.some.inj hs)
      · exact .inr (by rw [List.getElem?_eq_getElem hlt] at hs; exact Option.some.inj hs)
    conv => lhs; rw [hl]
    rw [scan_append _ _ _ hp, hd, scan, if_pos hv]
theorem scan_take (l : List Nat) (e st : Nat) (hse : st ≤ e) (hn : ∀ v, v < e → l[v]? ≠ some 10 ∧ l[v]? ≠ some 58) (hst : st = 0 ∨ ∃ k, st = k + 1 ∧ l[k]? = some 46) (hd : ∀ v, st ≤ v → v < e → l[v]? ≠ some 46) :
    scan [] (l.take e) = (l.drop st).take (e - st) := by
  have hc : ∀ c ∈ (l.drop st).take (e - st), c ≠ 10 ∧ c ≠ 58 ∧ c ≠ 46 := by
    intro c hc
    obtain ⟨v, hv⟩ := List.mem_iff_getElem?.mp hc
    rw [List.getElem?_take] at hv
    split at hv
    · rename_i hlt
      rw [List.getElem?_drop] at hv
      have h1 := hn (st + v) (by omega)
      have h2 := hd (st + v) (by omega) (by omega)
      refine ⟨?_, ?_, ?_⟩
      · rintro rfl; exact h1.1 hv
      · rintro rfl; exact h1.2 hv
      · rintro rfl; exact h2 hv
    · cases hv
  rcases hst with rfl | ⟨k, rfl, hk⟩
  · simp only [List.drop_zero, Nat.sub_zero] at hc ⊢
    rw [scan_plain _ _ hc]; rfl
  · have hlt : k < l.length := (List.getElem?_eq_some_iff.mp hk).1
    have e1 : l.take e = l.take k ++ 46 :: (l.drop (k + 1)).take (e - (k + 1)) := by
      have h1 : l = l.take k ++ l.drop k := (List.take_append_drop k l).symm
      have h2 : l.drop k = 46 :: l.drop (k + 1) := by
        rw [List.drop_eq_getElem_cons hlt]
        rw [List.getElem?_eq_getElem hlt] at hk
        rw [Option.some.inj hk]
      have h3 : (l.take k).length = k := by rw [List.length_take]; omega
      conv => lhs; rw [h1, h2]
      rw [List.take_append, h3, List.take_of_length_le (by omega)]
      have : e - k = (e - (k + 1)) + 1 := by omega
      rw [this, List.take_succ_cons]
    have hp : ∀ c ∈ l.take k, c ≠ 10 ∧ c ≠ 58 := by
      intro c hc
      obtain ⟨v, hv⟩ := List.mem_iff_getElem?.mp hc
      rw [List.getElem?_take] at hv
      split at hv
      · rename_i hlt
        have := hn v (by omega)
        constructor
        · rintro rfl; exact this.1 hv
        · rintro rfl; exact this.2 hv
      · cases hv
    rw [e1, scan_append _ _ _ hp, scan, if_neg (by omega), if_pos rfl, scan_plain _ _ hc]; rfl

theorem find_spec (x : Str) (c : Nat) :
    (Txt.find x ⟨#[c]⟩ = -1 ∧ ∀ v, v < x.length → x.cps.toList[v]? ≠ some c) ∨
    ∃ k : Nat, Txt.find x ⟨#[c]⟩ = (k : Int) ∧ k < x.length ∧ x.cps.toList[k]? = some c ∧ ∀ v, v < k → x.cps.toList[v]? ≠ some c := by
  have e : Txt.find x ⟨#[c]⟩ = find4 x ⟨#[c]⟩ 0 (x.length : Int) := by
    unfold Txt.find find4
    have e0 : fromIndex x.length 0 = 0 := fromIndex_nat _ 0
    rw [e0, fromIndex_nat, Nat.min_self]
    rfl
  rw [e]
  exact find4_spec x c x.length (Nat.le_refl _)

/-- the four numbers that the def reckons, and the cut -/
theorem strip_val (x : Str) (e1 e2 st : Int)
    (h1 : (0 ≤ Txt.find x ⟨#[10]⟩ ∧ e1 = Txt.find x ⟨#[10]⟩) ∨ (¬ 0 ≤ Txt.find x ⟨#[10]⟩ ∧ e1 = (x.length : Int)))
    (h2 : (0 ≤ find4 x ⟨#[58]⟩ 0 e1 ∧ e2 = find4 x ⟨#[58]⟩ 0 e1) ∨ (¬ 0 ≤ find4 x ⟨#[58]⟩ 0 e1 ∧ e2 = e1))
    (h3 : (0 ≤ rfind4 x ⟨#[46]⟩ 0 e2 ∧ st = rfind4 x ⟨#[46]⟩ 0 e2 + 1) ∨ (¬ 0 ≤ rfind4 x ⟨#[46]⟩ 0 e2 ∧ st = 0)) :
    StrLaws.sliceText x (some st) (some e2) = strip x := by
  have hlen : x.cps.toList.length = x.length := by simp [Str.length]
  obtain ⟨n1, rfl, hn1, hA, hB⟩ : ∃ n1 : Nat, e1 = n1 ∧ n1 ≤ x.length ∧ (∀ v, v < n1 → x.cps.toList[v]? ≠ some 10) ∧ (n1 = x.length ∨ x.cps.toList[n1]? = some 10) := by
    rcases find_spec x 10 with ⟨e, hv⟩ | ⟨k, e, hk, hc, hv⟩
    · rcases h1 with ⟨h, _⟩ | ⟨_, rfl⟩
      · rw [e] at h; omega
      · exact ⟨x.length, rfl, Nat.le_refl _, hv, .inl rfl⟩
    · rcases h1 with ⟨_, rfl⟩ | ⟨h, _⟩
      · exact ⟨k, e, by omega, hv, .inr hc⟩
      · rw [e] at h; omega
  obtain ⟨n2, rfl, hn2, hC, hD⟩ : ∃ n2 : Nat, e2 = n2 ∧ n2 ≤ x.length ∧ (∀ v, v < n2 → x.cps.toList[v]? ≠ some 10 ∧ x.cps.toList[v]? ≠ some 58) ∧ (n2 = x.length ∨ x.cps.toList[n2]? = some 10 ∨ x.cps.toList[n2]? = some 58) := by
    rcases find4_spec x 58 n1 hn1 with ⟨e, hv⟩ | ⟨k, e, hk, hc, hv⟩
    · rcases h2 with ⟨h, _⟩ | ⟨_, rfl⟩
      · rw [e] at h; omega
      · exact ⟨n1, rfl, hn1, fun v hlt => ⟨hA v hlt, hv v hlt⟩, hB.elim .inl fun z => .inr (.inl z)⟩
    · rcases h2 with ⟨_, rfl⟩ | ⟨h, _⟩
      · exact ⟨k, e, by omega, fun v hlt => ⟨hA v (by omega), hv v hlt⟩, .inr (.inr hc)⟩
      · rw [e] at h; omega
  obtain ⟨n3, rfl, hn3, hE, hF⟩ : ∃ n3 : Nat, st = n3 ∧ n3 ≤ n2 ∧ (n3 = 0 ∨ ∃ k, n3 = k + 1 ∧ x.cps.toList[k]? = some 46) ∧ (∀ v, n3 ≤ v → v < n2 → x.cps.toList[v]? ≠ some 46) := by
    rcases rfind4_spec x 46 n2 hn2 with ⟨e, hv⟩ | ⟨k, e, hk, hc, hv⟩
    · rcases h3 with ⟨h, _⟩ | ⟨_, rfl⟩
      · rw [e] at h; omega
      · exact ⟨0, rfl, Nat.zero_le _, .inl rfl, fun v _ h => hv v h⟩
    · rcases h3 with ⟨_, rfl⟩ | ⟨h, _⟩
      · exact ⟨k + 1, by rw [e]; rfl, by omega, .inr ⟨k, rfl, hc⟩, fun v h h' => hv v (by omega) h'⟩
      · rw [e] at h; omega
  rw [StrLaws.sliceText_nat x hn3 hn2]
  unfold strip
  rw [scan_upto _ n2 (by omega) hC (by rw [hlen]; exact hD), scan_take _ n2 n3 hn3 hC hE hF]
end Mine


namespace Mine
/-- what a def of the text gives back, called with vs from any frame -/
abbrev Gv (k : Nat) (w : World) (f : Addr) (vs : List Value) (R : Tok → Value) : Prop :=
  ∀ (loose : List Str) (mean : ExcName → Option Value) (mg mb : Str → Option Value) (dp un : Nat) (gd : Option (List Code)) (cn : Str) (cs : Scope) (a : Addr) (ccd : Value) (cl : List (Str × Addr)) (outer : List Env) (A₀ : Around) (base h₀ : Heap) (L : Addr) (m : Str → Option Value) (news : List (Addr × Obj)) (s : Shared) (Q E : Value → Shared → Prop),
    Below A₀ base outer h₀ → Fr h₀ L s.heap m → (hd.heap_39 w.params).In h₀ → News h₀ L s.heap news → Top hd.view_39 loose mean mg mb h₀ → cs.kind = .function → dp + k < recursionLimit → un + 20 * k < cLine →
    (∀ (t : Tok) (h' : Heap) (tk' : Nat), Fr h₀ L h' m → News h₀ L h' news → Q (R t) { s with heap := h', toks := tk' }) →
    wpAny (model PySem.Challenge.rw_ij0070_01.row.prog w) (ktrTop dp un gd cn cs L a ccd cl outer) (call (.ref f) vs) Q E s
section
variable {k : Nat} {w : World} {f : Addr} {vs : List Value} {R : Tok → Value} {loose : List Str} {mean : ExcName → Option Value} {mg mb : Str → Option Value} {dp un : Nat} {gd : Option (List Code)} {cn : Str} {cs : Scope} {a : Addr} {ccd : Value} {cl : List (Str × Addr)} {outer : List Env} {A₀ : Around} {base h₀ : Heap} {L : Addr} {m : Str → Option Value} {news : List (Addr × Obj)} {s : Shared} {Q E : Value → Shared → Prop}
theorem gv_use (H : Gv k w f vs R) (B : Below A₀ base outer h₀) (F : Fr h₀ L s.heap m) (X : (hd.heap_39 w.params).In h₀) (N : News h₀ L s.heap news) (T : Top hd.view_39 loose mean mg mb h₀) (hk : cs.kind = .function) (hd : dp + k < recursionLimit) (hu : un + 20 * k < cLine)
    (ret : ∀ (t : Tok) (h' : Heap) (tk' : Nat), Fr h₀ L h' m → News h₀ L h' news → Q (R t) { s with heap := h', toks := tk' }) :
    wpAny (model PySem.Challenge.rw_ij0070_01.row.prog w) (ktrTop dp un gd cn cs L a ccd cl outer) (call (.ref f) vs) Q E s := H _ _ _ _ _ _ _ _ _ _ _ _ _ _ _ _ _ _ _ _ _ _ B F X N T hk hd hu ret
end
end Mine


namespace Mine
/-! ## bits of a code -/
theorem band127 (c : Nat) : Builtin.bitAnd (c : Int) 127 = ((c % 128 : Nat) : Int) := by
  rw [bitAnd_pp (by omega) (by decide)]
  have e : (127 : Int).toNat = 2 ^ 7 - 1 := rfl
  rw [e, Nat.and_two_pow_sub_one_eq_mod, Int.toNat_natCast]
theorem band31 (c : Nat) : Builtin.bitAnd (c : Int) 31 = ((c % 32 : Nat) : Int) := by
  rw [bitAnd_pp (by omega) (by decide)]
  have e : (31 : Int).toNat = 2 ^ 5 - 1 := rfl
  rw [e, Nat.and_two_pow_sub_one_eq_mod, Int.toNat_natCast]
theorem nand_pow (c i : Nat) : c &&& 2 ^ i = c / 2 ^ i % 2 * 2 ^ i := by
  exact kbt_nat i c
theorem band128 (c : Nat) : Builtin.bitAnd (c : Int) 128 = ((c / 128 % 2 * 128 : Nat) : Int) := by
  rw [bitAnd_pp (by omega) (by decide)]
  have e : (128 : Int).toNat = 2 ^ 7 := rfl
  rw [e, Int.toNat_natCast, nand_pow]
theorem band32 (c : Nat) : Builtin.bitAnd (c : Int) 32 = ((c / 32 % 2 * 32 : Nat) : Int) := by
  rw [bitAnd_pp (by omega) (by decide)]
  have e : (32 : Int).toNat = 2 ^ 5 := rfl
  rw [e, Int.toNat_natCast, nand_pow]
theorem bor128 (c : Nat) : Builtin.bitOr (c : Int) 128 = ((c + 128 - c / 128 % 2 * 128 : Nat) : Int) := by
  rw [bitOr_and, band128]; omega
theorem bor32 (c : Nat) : Builtin.bitOr (c : Int) 32 = ((c + 32 - c / 32 % 2 * 32 : Nat) : Int) := by
  rw [bitOr_and, band32]; omega
section
variable {prog : Program} {w : World} {A : Around} {E : Value → Shared → Prop} {s : Shared} {t u : Tok} {Q : Value → Shared → Prop} {c : Nat}
theorem and127 (h : ∀ k, Q (.int ((c % 128 : Nat) : Int) k) { s with toks := s.toks + 1 }) : wpAny (model prog w) A (binaryOp .BitAnd (.int (c : Int) t) (.int 127 u)) Q E s := and_int (by rw [band127]; exact h _)
theorem and31 (h : ∀ k, Q (.int ((c % 32 : Nat) : Int) k) { s with toks := s.toks + 1 }) : wpAny (model prog w) A (binaryOp .BitAnd (.int (c : Int) t) (.int 31 u)) Q E s := and_int (by rw [band31]; exact h _)
theorem and128 (h : ∀ k, Q (.int ((c / 128 % 2 * 128 : Nat) : Int) k) { s with toks := s.toks + 1 }) : wpAny (model prog w) A (binaryOp .BitAnd (.int (c : Int) t) (.int 128 u)) Q E s := and_int (by rw [band128]; exact h _)
theorem or128 (h : ∀ k, Q (.int ((c + 128 - c / 128 % 2 * 128 : Nat) : Int) k) { s with toks := s.toks + 1 }) : wpAny (model prog w) A (binaryOp .BitOr (.int (c : Int) t) (.int 128 u)) Q E s := or_int (by rw [bor128]; exact h _)
theorem or32 (h : ∀ k, Q (.int ((c + 32 - c / 32 % 2 * 32 : Nat) : Int) k) { s with toks := s.toks + 1 }) : wpAny (model prog w) A (binaryOp .BitOr (.int (c : Int) t) (.int 32 u)) Q E s := or_int (by rw [bor32]; exact h _)
theorem chrN (hc : c ≤ 1114111) (h : ∀ k, Q (.str ⟨#[c]⟩ k) { s with toks := s.toks + 1 }) : wpAny (model prog w) A (call (.builtin "chr") [.int (c : Int) t]) Q E s := chr_of_range (by omega) (by omega) (by rw [Int.toNat_natCast]; exact h _)
end
/-! ## what the roads make of a code -/
def uncL (c : Nat) : List Nat := (if c / 128 % 2 * 128 = 0 then [] else [33]) ++ (if c = 127 then [94, 63] else if 32 ≤ c % 128 ∧ c % 128 ≤ 126 then [c % 128] else [94, c % 128 + 32 - c % 128 / 32 % 2 * 32 + 32])
def sentL (c : Nat) (r : Int) : List Nat := if r = 1 then [c % 128] else if r = 2 then [c % 32] else if r = 3 then [c + 128 - c / 128 % 2 * 128] else if r = 4 then uncL c else [c]
def txt (l : List Nat) : Str := ⟨l.toArray⟩
theorem txt_app (a b : Str) (l r : List Nat) (ha : a.cps.toList = l) (hb : b = txt r) : a ++ b = txt (l ++ r) := by
  subst hb
  apply PySem.Str.ext'
  rw [PySem.Str.cps_append]
  apply Array.toList_inj.mp
  simp [txt, ha]
theorem unc_end (c : Nat) (r : Str) (h : ((c : Int) = 127 ∧ r = Str.ofString "^?") ∨ ((c : Int) ≠ 127 ∧ (decide ((32 : Int) ≤ ((c % 128 : Nat) : Int)) && decide (((c % 128 : Nat) : Int) ≤ 126)) = true ∧ r = ⟨#[c % 128]⟩) ∨
    ((c : Int) ≠ 127 ∧ (decide ((32 : Int) ≤ ((c % 128 : Nat) : Int)) && decide (((c % 128 : Nat) : Int) ≤ 126)) = false ∧ r = Str.ofString "^" ++ ⟨#[(((c % 128 + 32 - c % 128 / 32 % 2 * 32 : Nat) : Int) + 32).toNat]⟩)) :
    (((c / 128 % 2 * 128 : Nat) : Int) ≠ 0 → Str.ofString "!" ++ r = txt (uncL c)) ∧ (((c / 128 % 2 * 128 : Nat) : Int) = 0 → r = txt (uncL c)) := by
  have hr : r = txt (if c = 127 then [94, 63] else if 32 ≤ c % 128 ∧ c % 128 ≤ 126 then [c % 128] else [94, c % 128 + 32 - c % 128 / 32 % 2 * 32 + 32]) := by
    rcases h with ⟨h1, rfl⟩ | ⟨h1, h2, rfl⟩ | ⟨h1, h2, rfl⟩
    · rw [if_pos (by omega)]; decide
    · rw [if_neg (by omega), if_pos (by simp only [Bool.and_eq_true, decide_eq_true_eq] at h2; omega)]; rfl
    · rw [if_neg (by omega), if_neg (by simp only [Bool.and_eq_false_iff, decide_eq_false_iff_not] at h2; omega)]
      refine txt_app _ _ [94] [_] (by decide) ?_
      have e : (((c % 128 + 32 - c % 128 / 32 % 2 * 32 : Nat) : Int) + 32).toNat = c % 128 + 32 - c % 128 / 32 % 2 * 32 + 32 := by omega
      rw [e]; rfl
  refine ⟨fun hb => ?_, fun hb => ?_⟩
  · unfold uncL
    rw [if_neg (by omega)]
    exact txt_app _ _ [33] _ (by decide) hr
  · unfold uncL
    rw [if_pos (by omega)]
    exact hr
/-! ## the code of a number -/
def menuN : List Int := [46, 58, 10, 97, 174, 186, 138, 42, 302, 314, 266, 74, 127, 255, 30, 95]
def codeI (n : Int) : Int :=
  if Int.fmod n 3 < 2 then [46, 58, 10, 97, 174, 186, 138, 42, 302, 314, 266, 74, 127, 255, 30, 95].getD (Int.fmod (Int.fdiv n 3) 16).toNat 0
  else if Int.fmod (Int.fdiv n 3) 1112064 < 55296 then Int.fmod (Int.fdiv n 3) 1112064 else Int.fmod (Int.fdiv n 3) 1112064 + 2048
def codeN (n : Int) : Nat := (codeI n).toNat
theorem codeI_ge (n : Int) : 0 ≤ codeI n ∧ codeI n < 1114112 := by
  unfold codeI
  split
  · have := kmn_any (l := [46, 58, 10, 97, 174, 186, 138, 42, 302, 314, 266, 74, 127, 255, 30, 95]) (i := (Int.fmod (Int.fdiv n 3) 16).toNat) (d := 0) (lo := 0) (hi := 314) (by decide)
    omega
  · have h1 := Int.fmod_nonneg_of_pos (Int.fdiv n 3) (b := 1112064) (by decide)
    have h2 := Int.fmod_lt_of_pos (Int.fdiv n 3) (b := 1112064) (by decide)
    split <;> omega
theorem codeN_eq (n : Int) : ((codeN n : Nat) : Int) = codeI n := by
  have := (codeI_ge n).1
  unfold codeN; omega
theorem codeN_lt (n : Int) : codeN n < 1114112 := by
  have := codeI_ge n
  unfold codeN; omega
/-! ## the picture -/
theorem fm (c : Nat) (k : Nat) : Int.fmod (c : Int) ((k : Nat) : Int) = ((c % k : Nat) : Int) := by
  rw [Int.fmod_eq_emod_of_nonneg _ (by omega)]; rfl
theorem fdm (c : Nat) : Int.fmod (Int.fdiv (c : Int) 128) 2 = ((c / 128 % 2 : Nat) : Int) := by
  rw [Int.fdiv_eq_ediv_of_nonneg _ (by decide), Int.fmod_eq_emod_of_nonneg _ (by decide)]; rfl
theorem pic_item : ∀ k : Nat, k < 32 → Txt.item (Str.ofString "@ABCDEFGHIJKLMNOPQRSTUVWXYZ[\\]^_") (k : Int) = txt [k + 64] := by decide +kernel
theorem pic_end (c : Nat) (r : Str) (h : (Int.fmod (c : Int) 128 < 32 ∧ r = txt [94, c % 128 + 64]) ∨ (¬ Int.fmod (c : Int) 128 < 32 ∧ Int.fmod (c : Int) 128 < 127 ∧ r = ⟨#[(Int.fmod (c : Int) 128).toNat]⟩) ∨
    (¬ Int.fmod (c : Int) 128 < 127 ∧ (c : Int) = 127 ∧ r = Str.ofString "^?") ∨ (¬ Int.fmod (c : Int) 128 < 127 ∧ (c : Int) ≠ 127 ∧ r = txt [94, 159])) :
    (Int.fmod (Int.fdiv (c : Int) 128) 2 ≠ 0 → Str.ofString "!" ++ r = txt (sentL c 4)) ∧ (Int.fmod (Int.fdiv (c : Int) 128) 2 = 0 → Str.ofString "" ++ r = txt (sentL c 4)) := by
  have e128 : Int.fmod (c : Int) 128 = ((c % 128 : Nat) : Int) := fm c 128
  rw [e128] at h
  rw [fdm]
  have es : sentL c 4 = uncL c := by unfold sentL; simp
  rw [es]
  have hr : r = txt (if c = 127 then [94, 63] else if 32 ≤ c % 128 ∧ c % 128 ≤ 126 then [c % 128] else [94, c % 128 + 32 - c % 128 / 32 % 2 * 32 + 32]) := by
    rcases h with ⟨h1, rfl⟩ | ⟨h1, h2, rfl⟩ | ⟨h1, h2, rfl⟩ | ⟨h1, h2, rfl⟩
    · rw [if_neg (by omega), if_neg (by omega)]
      have e : c % 128 + 32 - c % 128 / 32 % 2 * 32 + 32 = c % 128 + 64 := by omega
      rw [e]
    · rw [if_neg (by omega), if_pos (by omega), Int.toNat_natCast]; rfl
    · rw [if_pos (by omega)]; decide
    · rw [if_neg (by omega), if_neg (by omega)]
      have e : c % 128 + 32 - c % 128 / 32 % 2 * 32 + 32 = 159 := by omega
      rw [e]
  refine ⟨fun hb => ?_, fun hb => ?_⟩
  · unfold uncL
    rw [if_neg (by omega)]
    exact txt_app _ _ [33] _ (by decide) hr
  · unfold uncL
    rw [if_pos (by omega)]
    exact txt_app _ _ [] _ (by decide) hr
theorem txt_mk (l : List Nat) : (⟨l.toArray⟩ : Str) = txt l := rfl
end Mine


namespace Mine
/-! ## what the law tells of a row -/
abbrev Pr := Nat × Int
def Pr.Ok (p : Pr) : Prop := p.1 < 1114112 ∧ 0 ≤ p.2 ∧ p.2 < 5
abbrev pd (p : Pr) : Dat := Dat.tuple [Dat.int (p.1 : Int), Dat.int p.2]
def lastI (c : Nat) (r : Int) : Int := if r = 0 then (c : Int) else if r = 1 then ((c % 128 : Nat) : Int) else if r = 2 then ((c % 32 : Nat) : Int) else if r = 3 then 128 else max ((c % 128 : Nat) : Int) 32
def told : List Nat → List Pr → List Nat
  | acc, [] => acc
  | acc, (c, r) :: rest => if lastI c r = 10 ∨ lastI c r = 58 then acc ++ (if r = 4 ∧ c / 128 % 2 = 1 then [33] else []) else if lastI c r = 46 then told [] rest else told (acc ++ sentL c r) rest
theorem fr_as {m : Str → Option Value} {x : Str} {v : Value} (h : m x = some v) : m = fun y => if y = x then some v else m y := by
  funext y
  by_cases e : y = x
  · rw [if_pos e, e, h]
  · rw [if_neg e]
theorem sentL_len (c : Nat) (r : Int) : (sentL c r).length ≤ 3 := by
  unfold sentL
  repeat' split
  all_goals (try (show 1 ≤ 3; omega))
  unfold uncL
  rw [List.length_append]
  have h1 : (if c / 128 % 2 * 128 = 0 then [] else [33] : List Nat).length ≤ 1 := by split <;> simp
  have h2 : (if c = 127 then [94, 63] else if 32 ≤ c % 128 ∧ c % 128 ≤ 126 then [c % 128] else [94, c % 128 + 32 - c % 128 / 32 % 2 * 32 + 32] : List Nat).length ≤ 2 := by
    repeat' split
    all_goals simp
  omega
theorem txt_len (l : List Nat) : (txt l).length = l.length := by simp [txt, Str.length]
section
variable {prog : Program} {w : World} {A : Around} {E : Value → Shared → Prop} {s : Shared} {env : Env} {h₀ : Heap} {target : PySem.Expr} {body : List Stmt} {Q : Flow → Shared → Prop} {ws : List (Addr × String)} {keep : List (Addr × Obj)}
theorem unr_mono {L : Addr} {s₁ : Shared} {its : List (Addr × Obj)} {r r' : (Str → Option Value) → List (Addr × Obj) → Prop} {f : Flow} {s₂ : Shared} (h : ∀ m n, r m n → r' m n) (u : UnrPostW h₀ L s₁ its r Q f s₂) : UnrPostW h₀ L s₁ its r' Q f s₂ := by
  cases f with
  | ret v => exact u
  | brk => exact u
  | next => obtain ⟨h', tk, m', n', a, b, c, d, e⟩ := u; exact ⟨h', tk, m', n', a, b, c, d, h _ _ e⟩
  | cont => obtain ⟨h', tk, m', n', a, b, c, d, e⟩ := u; exact ⟨h', tk, m', n', a, b, c, d, h _ _ e⟩
theorem all_mono : ∀ {ws : List (Addr × String)} {k k' : List (Addr × Obj) → Prop}, (∀ its, k its → k' its) → AllObj ws k → AllObj ws k'
  | [], _, _, h, a => h _ a
  | _ :: _, _, _, h, a => fun o ho => all_mono (fun its z => h _ z) (a o ho)
/-- a loop's turns by a word that every turn keeps; the ledger as it stood -/
theorem items_ind (J : List Itm → (Str → Option Value) → List (Addr × Obj) → Prop)
    (hk : ∀ x m n, J x m n → SubL keep n)
    (step : ∀ x r m n, J (x :: r) m n → ∀ v h tk, x.Is v h → Fr h₀ env.locals h m → AllObj ws (fun its => News h₀ env.locals h (its ++ n) →
      wpAny (model prog w) A (assign target env v) (fun _ s₂ => wpAny (model prog w) A (execs body env) (UnrPostW h₀ env.locals { s with heap := h, toks := tk } its (fun m' n' => J r m' n') Q) E s₂) E { s with heap := h, toks := tk }))
    (done : ∀ m n h tk, J [] m n → Fr h₀ env.locals h m → News h₀ env.locals h n → Q .next { s with heap := h, toks := tk }) :
    ∀ xs m n, J xs m n → ItemsRest prog w A E h₀ env target body Q s ws keep xs m n := by
  intro xs
  induction xs with
  | nil => exact fun m n hj h tk F N => done m n h tk hj F N
  | cons x r ih =>
    intro m n hj v h tk hx F
    refine all_mono (fun its z N => ?_) (step x r m n hj v h tk hx F)
    exact wpAny_mono (z N) (fun _ _ y => wpAny_mono y (fun f s₂ u => unr_mono (fun m' n' q => ⟨hk _ _ _ q, ih m' n' q⟩) u) fun _ _ e => e) fun _ _ e => e
end
end Mine


namespace Mine
theorem datAll_cons {news : List (Addr × Obj)} {x : Itm} {r : List Itm} {vs : List Value} {ps : List Pr} (hx : x :: r = vs.map .val) (hD : DatAll news vs (ps.map pd)) :
    ∃ (a : Addr) (n : Nat) (t u : Tok) (c : Nat) (k : Int) (vs' : List Value) (ps' : List Pr), x = .val (.ref a) ∧ r = vs'.map .val ∧ ps = (c, k) :: ps' ∧ DatAll news vs' (ps'.map pd) ∧ (a, ({ cls := .type "tuple", data := .seq [.int (c : Int) t, .int k u].toArray n } : Obj)) ∈ news := by
  cases vs with
  | nil => cases hx
  | cons v vs' =>
    cases ps with
    | nil => cases hD
    | cons p ps' =>
      obtain ⟨c, k⟩ := p
      cases hD with
      | cons h1 h2 =>
        cases h1 with
        | tuple hm hall =>
          cases hall with
          | cons a1 r1 =>
            cases a1
            cases r1 with
            | cons a2 r2 =>
              cases a2
              cases r2
              injection hx with e1 e2
              exact ⟨_, _, _, _, c, k, vs', ps', e1, e2, rfl, h2, hm⟩
theorem datAll_nil {news : List (Addr × Obj)} {vs : List Value} {ps : List Pr} (hx : [] = vs.map Itm.val) (hD : DatAll news vs (ps.map pd)) : ps = [] := by
  cases vs with
  | nil => cases ps with
    | nil => rfl
    | cons p r => cases hD
  | cons v r => cases hx
abbrev LG (c : Nat) (k : Int) : Int := [(c : Int), Int.fmod (c : Int) 128, Int.fmod (c : Int) 32, 128, if 32 > Int.fmod (c : Int) 128 then 32 else Int.fmod (c : Int) 128].getD k.toNat 0
theorem LG_eq (c : Nat) (k : Int) (h0 : 0 ≤ k) (h5 : k < 5) : LG c k = lastI c k := by
  have e1 : Int.fmod (c : Int) 128 = ((c % 128 : Nat) : Int) := fm c 128
  have e2 : Int.fmod (c : Int) 32 = ((c % 32 : Nat) : Int) := fm c 32
  unfold LG lastI
  rw [e1, e2]
  have h : k = 0 ∨ k = 1 ∨ k = 2 ∨ k = 3 ∨ k = 4 := by omega
  rcases h with rfl | rfl | rfl | rfl | rfl
  · rfl
  · rfl
  · rfl
  · rfl
  · show (if (32 : Int) > ((c % 128 : Nat) : Int) then (32 : Int) else ((c % 128 : Nat) : Int)) = max ((c % 128 : Nat) : Int) 32
    omega
theorem txt_cat (a b : List Nat) : txt a ++ txt b = txt (a ++ b) := txt_app _ _ a b rfl rfl
section
variable {c : Nat} {k : Int} {acc R : List Nat} {ps : List Pr}
theorem ret_mark (h0 : 0 ≤ k) (h5 : k < 5) (hs : LG c k = 10 ∨ LG c k = 58) (h4 : k = 4) (hb : Int.fmod (Int.fdiv (c : Int) 128) 2 ≠ 0) (ht : told acc ((c, k) :: ps) = R) : txt acc ++ Str.ofString "!" = txt R := by
  rw [LG_eq c k h0 h5] at hs
  rw [fdm] at hb
  rw [← ht, told, if_pos hs, if_pos ⟨h4, by omega⟩]
  exact txt_app _ _ acc [33] rfl (by decide)
theorem ret_none (h0 : 0 ≤ k) (h5 : k < 5) (hs : LG c k = 10 ∨ LG c k = 58) (h4 : k ≠ 4 ∨ Int.fmod (Int.fdiv (c : Int) 128) 2 = 0) (ht : told acc ((c, k) :: ps) = R) : txt acc ++ Str.ofString "" = txt R := by
  rw [LG_eq c k h0 h5] at hs
  rw [fdm] at h4
  rw [← ht, told, if_pos hs, if_neg (by omega)]
  exact txt_app _ _ acc [] rfl (by decide)
theorem told_dot (h0 : 0 ≤ k) (h5 : k < 5) (h1 : LG c k ≠ 10) (h2 : LG c k ≠ 58) (h3 : LG c k = 46) (ht : told acc ((c, k) :: ps) = R) : told [] ps = R := by
  rw [LG_eq c k h0 h5] at h1 h2 h3
  rw [told, if_neg (by omega), if_pos h3] at ht
  exact ht
theorem told_on (h0 : 0 ≤ k) (h5 : k < 5) (h1 : LG c k ≠ 10) (h2 : LG c k ≠ 58) (h3 : LG c k ≠ 46) (ht : told acc ((c, k) :: ps) = R) : told (acc ++ sentL c k) ps = R := by
  rw [LG_eq c k h0 h5] at h1 h2 h3
  rw [told, if_neg (by omega), if_neg h3] at ht
  exact ht
end
end Mine


namespace Mine
def rowP (x : Int) : Pr := (codeN (Int.fdiv (Int.fmod x 100000000) 5), Int.fmod (Int.fmod x 100000000) 5)
theorem num_lo (x : Int) : 0 ≤ Int.fdiv (Int.fmod x 100000000) 5 := by
  have h := Int.fmod_nonneg_of_pos x (b := 100000000) (by decide)
  rw [Int.fdiv_eq_ediv_of_nonneg _ (by decide)]; omega
theorem num_hi (x : Int) : Int.fdiv (Int.fmod x 100000000) 5 < 100000000 := by
  have h := Int.fmod_lt_of_pos x (b := 100000000) (by decide)
  have h0 := Int.fmod_nonneg_of_pos x (b := 100000000) (by decide)
  rw [Int.fdiv_eq_ediv_of_nonneg _ (by decide)]; omega
theorem rowP_ok (x : Int) : (rowP x).Ok :=
  ⟨codeN_lt _, Int.fmod_nonneg_of_pos _ (by decide), Int.fmod_lt_of_pos _ (by decide)⟩
theorem datAll_at : ∀ {news : List (Addr × Obj)} {vs : List Value} {ps : List Pr}, DatAll news vs (ps.map pd) → ∀ (i : Nat) (v : Value), vs[i]? = some v →
    ∃ (a : Addr) (n : Nat) (t u : Tok) (c : Nat) (k : Int), v = .ref a ∧ ps[i]? = some (c, k) ∧ (a, ({ cls := .type "tuple", data := .seq [.int (c : Int) t, .int k u].toArray n } : Obj)) ∈ news := by
  intro news vs ps hD i v hi
  induction vs generalizing ps i with
  | nil => simp at hi
  | cons v0 r ih =>
    obtain ⟨a, n, t, u, c, k, vs', ps', e1, e2, rfl, hD', hm⟩ := datAll_cons (vs := v0 :: r) (List.map_cons ..).symm hD
    injection e1 with e1
    have e3 : r = vs' := by
      have inj : ∀ {a b : List Value}, a.map Itm.val = b.map Itm.val → a = b := by
        intro a
        induction a with
        | nil => intro b h; cases b with
          | nil => rfl
          | cons _ _ => cases h
        | cons x y ih2 => intro b h; cases b with
          | nil => cases h
          | cons z w => injection h with h1 h2; injection h1 with h1; rw [h1, ih2 h2]
      exact inj e2
    subst e3
    cases i with
    | zero => simp at hi; subst hi; exact ⟨a, n, t, u, c, k, e1, rfl, hm⟩
    | succ i => exact ih hD' i (by simpa using hi)
section
variable {prog : Program} {w : World} {A : Around} {h₀ : Heap} {L : Addr} {m : Str → Option Value} {env : Env} {elt : PySem.Expr} {x x₂ : Str} {scope : Scope} {cl : List (Str × Addr)} {s : Shared} {S : List (Addr × Obj) → Prop} {Fin : List Value → List (Addr × Obj) → Prop} {news : List (Addr × Obj)}
theorem sent_rest {vs : List Value} (ps : List Pr) (hD : DatAll news vs (ps.map pd))
    (turn : ∀ c k t u I oI C oC D m₂ ys h tk (E' : Value → Shared → Prop), ((c, k) : Pr) ∈ ps → LCg.NsObj oC m₂ → m₂ x = some (.int (c : Int) t) → m₂ x₂ = some (.int k u) → Fr h₀ L h m → News h₀ L h ((I, oI) :: (C, oC) :: (D, LCg.lst ys) :: news) → LCg.Off3 I C D news → ((@Ne Nat I C) ∧ (@Ne Nat I D) ∧ (@Ne Nat C D)) →
      wpAny (model prog w) A (eval elt (compEnvC scope cl C env)) (LCg.CompEnd h₀ L m { s with heap := h, toks := tk } I oI C oC D (LCg.lst ys) S (fun y news' => news' = news ∧ ∃ t', y = .str (txt (sentL c k)) t')) E' { s with heap := h, toks := tk })
    (fin : ∀ ys, StrsAre ys (ps.map fun p => txt (sentL p.1 p.2)) → Fin ys news) : LCp.CompRestP prog w A h₀ L m env elt x x₂ scope cl s S (fun i v => vs.toArray[i]? = some v) Fin vs.toArray.size 0 [] news := by
  have hl : vs.length = ps.length := by have := hD.length; simpa using this
  have key : ∀ (j i : Nat) (ys : List Value), i + j = ps.length → StrsAre ys ((ps.take i).map fun p => txt (sentL p.1 p.2)) → LCp.CompRestP prog w A h₀ L m env elt x x₂ scope cl s S (fun i v => vs.toArray[i]? = some v) Fin j i ys news := by
    intro j
    induction j with
    | zero =>
      intro i ys hi hy
      have e : i = ps.length := by omega
      subst e
      rw [List.take_length] at hy
      exact LCp.CompRestP.zero (fin ys hy)
    | succ j ih =>
      intro i ys hi hy
      refine LCp.CompRestP.succ (fun v hv => ?_)
      obtain ⟨a, n, t, u, c, k, rfl, hp, hm⟩ := datAll_at hD i v (by simpa using hv)
      refine ⟨a, _, .int (c : Int) t, .int k u, n, rfl, hm, rfl, rfl, ?_⟩
      intro I oI C oC D m₂ h tk E' hC hx hx2 F N off ne
      refine wpAny_mono (turn c k t u I oI C oC D m₂ ys h tk E' (List.mem_of_getElem? hp) hC hx hx2 F N off ne) (fun y s₂ hq => ?_) fun _ _ e => e
      obtain ⟨h', tk', nw, e, F', N', off', hS, hn, t', hy'⟩ := hq
      rw [hn] at N' off' hS
      refine ⟨h', tk', news, e, F', N', off', hS, ?_⟩
      rw [hy']
      refine ih (i + 1) _ (by omega) ?_
      rw [List.take_add_one, hp]
      simpa using kct_snoc hy
  rw [List.size_toArray, hl]
  exact key ps.length 0 [] (by omega) (by simp only [List.take_zero, List.map_nil]; exact .nil)
end
end Mine


namespace Mine
theorem scan_cons (x : Nat) (acc rest : List Nat) : scan acc (x :: rest) = if x = 10 ∨ x = 58 then acc else if x = 46 then scan [] rest else scan (acc ++ [x]) rest := rfl
/-- one code x, told as the number z -/
theorem step_one (x : Nat) (z : Int) (acc rest : List Nat) (h1 : z = 10 ↔ x = 10) (h2 : z = 58 ↔ x = 58) (h3 : z = 46 ↔ x = 46) :
    scan acc (x :: rest) = if z = 10 ∨ z = 58 then acc else if z = 46 then scan [] rest else scan (acc ++ [x]) rest := by
  rw [scan_cons]
  by_cases a : x = 10 ∨ x = 58
  · rw [if_pos a, if_pos (a.imp h1.mpr h2.mpr)]
  · have a' : ¬ (z = 10 ∨ z = 58) := by rw [h1, h2]; exact a
    rw [if_neg a, if_neg a']
    by_cases b : x = 46
    · rw [if_pos b, if_pos (h3.mpr b)]
    · rw [if_neg b, if_neg (fun q => b (h3.mp q))]
theorem scan_on (x : Nat) (acc rest : List Nat) (h : x ≠ 10 ∧ x ≠ 58 ∧ x ≠ 46) : scan acc (x :: rest) = scan (acc ++ [x]) rest := by
  rw [scan_cons, if_neg (by omega), if_neg (by omega)]
theorem step_unc (c : Nat) (acc rest : List Nat) : scan acc (uncL c ++ rest) = if lastI c 4 = 10 ∨ lastI c 4 = 58 then acc ++ (if c / 128 % 2 = 1 then [33] else []) else if lastI c 4 = 46 then scan [] rest else scan (acc ++ uncL c) rest := by
  have e4 : lastI c 4 = max ((c % 128 : Nat) : Int) 32 := rfl
  rw [e4]
  have tail : ∀ acc', scan acc' ((if c = 127 then [94, 63] else if 32 ≤ c % 128 ∧ c % 128 ≤ 126 then [c % 128] else [94, c % 128 + 32 - c % 128 / 32 % 2 * 32 + 32]) ++ rest) =
      if max ((c % 128 : Nat) : Int) 32 = 10 ∨ max ((c % 128 : Nat) : Int) 32 = 58 then acc' else if max ((c % 128 : Nat) : Int) 32 = 46 then scan [] rest
      else scan (acc' ++ (if c = 127 then [94, 63] else if 32 ≤ c % 128 ∧ c % 128 ≤ 126 then [c % 128] else [94, c % 128 + 32 - c % 128 / 32 % 2 * 32 + 32])) rest := by
    intro acc'
    by_cases h1 : c = 127
    · rw [if_pos h1, if_neg (by omega), if_neg (by omega)]
      show scan acc' (94 :: 63 :: rest) = _
      rw [scan_on _ _ _ (by decide), scan_on _ _ _ (by decide), List.append_assoc]; rfl
    · rw [if_neg h1]
      by_cases h2 : 32 ≤ c % 128 ∧ c % 128 ≤ 126
      · rw [if_pos h2]
        exact step_one _ _ _ _ (by omega) (by omega) (by omega)
      · rw [if_neg h2, if_neg (by omega), if_neg (by omega)]
        show scan acc' (94 :: (c % 128 + 32 - c % 128 / 32 % 2 * 32 + 32) :: rest) = _
        rw [scan_on _ _ _ (by decide), scan_on _ _ _ (by omega), List.append_assoc]; rfl
  unfold uncL
  by_cases hb : c / 128 % 2 * 128 = 0
  · rw [if_pos hb, List.nil_append, tail, if_neg (show ¬ c / 128 % 2 = 1 by omega), List.append_nil]
  · rw [if_neg hb, if_pos (show c / 128 % 2 = 1 by omega)]
    have e : ∀ X : List Nat, ([33] ++ X) ++ rest = 33 :: (X ++ rest) := fun _ => rfl
    rw [e, scan_on _ _ _ (by decide), tail, List.append_assoc]
theorem step_sign (c : Nat) (k : Int) (h0 : 0 ≤ k) (h5 : k < 5) (acc rest : List Nat) :
    scan acc (sentL c k ++ rest) = if lastI c k = 10 ∨ lastI c k = 58 then acc ++ (if k = 4 ∧ c / 128 % 2 = 1 then [33] else []) else if lastI c k = 46 then scan [] rest else scan (acc ++ sentL c k) rest := by
  have h : k = 0 ∨ k = 1 ∨ k = 2 ∨ k = 3 ∨ k = 4 := by omega
  rcases h with rfl | rfl | rfl | rfl | rfl
  · rw [if_neg (show ¬ ((0 : Int) = 4 ∧ c / 128 % 2 = 1) by omega), List.append_nil]
    exact step_one c (lastI c 0) acc rest (by show (c : Int) = 10 ↔ _; omega) (by show (c : Int) = 58 ↔ _; omega) (by show (c : Int) = 46 ↔ _; omega)
  · rw [if_neg (show ¬ ((1 : Int) = 4 ∧ c / 128 % 2 = 1) by omega), List.append_nil]
    exact step_one (c % 128) (lastI c 1) acc rest (by show ((c % 128 : Nat) : Int) = 10 ↔ _; omega) (by show ((c % 128 : Nat) : Int) = 58 ↔ _; omega) (by show ((c % 128 : Nat) : Int) = 46 ↔ _; omega)
  · rw [if_neg (show ¬ ((2 : Int) = 4 ∧ c / 128 % 2 = 1) by omega), List.append_nil]
    exact step_one (c % 32) (lastI c 2) acc rest (by show ((c % 32 : Nat) : Int) = 10 ↔ _; omega) (by show ((c % 32 : Nat) : Int) = 58 ↔ _; omega) (by show ((c % 32 : Nat) : Int) = 46 ↔ _; omega)
  · rw [if_neg (show ¬ ((3 : Int) = 4 ∧ c / 128 % 2 = 1) by omega), List.append_nil]
    exact step_one (c + 128 - c / 128 % 2 * 128) (lastI c 3) acc rest (by show (128 : Int) = 10 ↔ _; omega) (by show (128 : Int) = 58 ↔ _; omega) (by show (128 : Int) = 46 ↔ _; omega)
  · have e : sentL c 4 = uncL c := by unfold sentL; simp
    rw [e, step_unc]
    simp
theorem scan_told : ∀ (ps : List Pr) (acc : List Nat), (∀ p ∈ ps, p.Ok) → scan acc (ps.map fun p => sentL p.1 p.2).flatten = told acc ps
  | [], acc, _ => rfl
  | (c, k) :: r, acc, h => by
    have hok := h (c, k) (.head _)
    have ih := fun acc' => scan_told r acc' fun p hp => h p (.tail _ hp)
    show scan acc (sentL c k ++ (r.map fun p => sentL p.1 p.2).flatten) = told acc ((c, k) :: r)
    rw [step_sign c k hok.2.1 hok.2.2, told, ih, ih]
theorem strip_told (ps : List Pr) (h : ∀ p ∈ ps, p.Ok) : strip (txt (ps.map fun p => sentL p.1 p.2).flatten) = txt (told [] ps) := by
  unfold strip
  show txt (scan [] (ps.map fun p => sentL p.1 p.2).flatten) = _
  rw [scan_told ps [] h]
/-! ## bounds of what is told -/
theorem sentL_lt (c : Nat) (k : Int) (hc : c < 1114112) : ∀ x ∈ sentL c k, x < 1114112 := by
  unfold sentL
  repeat' split
  · intro x hx; simp at hx; omega
  · intro x hx; simp at hx; omega
  · intro x hx; simp at hx; omega
  · intro x hx
    unfold uncL at hx
    rcases List.mem_append.mp hx with hx | hx
    · split at hx <;> simp at hx; omega
    · repeat' split at hx
      all_goals (simp at hx; omega)
  · intro x hx; simp at hx; omega
theorem told_lt : ∀ (ps : List Pr) (acc : List Nat), (∀ p ∈ ps, p.Ok) → (∀ x ∈ acc, x < 1114112) → ∀ x ∈ told acc ps, x < 1114112
  | [], acc, _, ha => ha
  | (c, k) :: r, acc, h, ha => by
    have hok := h (c, k) (.head _)
    have hr : ∀ p ∈ r, p.Ok := fun p hp => h p (.tail _ hp)
    rw [told]
    split
    · intro x hx
      rcases List.mem_append.mp hx with hx | hx
      · exact ha x hx
      · split at hx <;> simp at hx; omega
    · split
      · exact told_lt r [] hr (fun _ hx => nomatch hx)
      · refine told_lt r _ hr fun x hx => ?_
        rcases List.mem_append.mp hx with hx | hx
        · exact ha x hx
        · exact sentL_lt c k hok.1 x hx
theorem told_len : ∀ (ps : List Pr) (acc : List Nat), (told acc ps).length ≤ acc.length + 3 * ps.length
  | [], acc => by simp [told]
  | (c, k) :: r, acc => by
    rw [told]
    have hl : ((c, k) :: r).length = r.length + 1 := rfl
    rw [hl]
    split
    · rw [List.length_append]
      split <;> simp <;> omega
    · split
      · have := told_len r []
        simp at this; omega
      · have h1 := told_len r (acc ++ sentL c k)
        have h2 := sentL_len c k
        rw [List.length_append] at h1; omega
theorem flat_len {α : Type} (g : α → List Nat) : ∀ (ps : List α), (∀ p ∈ ps, (g p).length ≤ 3) → (ps.map g).flatten.length ≤ 3 * ps.length
  | [], _ => by simp
  | p :: r, h => by
    have h1 := flat_len g r fun q hq => h q (.tail _ hq)
    have h2 := h p (.head _)
    rw [List.map_cons, List.flatten_cons, List.length_append, List.length_cons]; omega
end Mine


namespace Mine
open PySem.Spec
/-! ## a loop over a range, turn by turn -/
section
variable {prog : Program} {w : World} {A : Around} {E : Value → Shared → Prop} {s : Shared} {env : Env} {h₀ : Heap} {x : Str} {px : Pos} {body : List Stmt} {Q : Flow → Shared → Prop}
def rItem (i : Nat) : Itm := Itm.tok (fun t => .int ((0 : Int) + ((i : Nat) : Int) * 1) t)
def rItems (n : Nat) : List Itm := (List.range n).map rItem
theorem iter_rangeTurns {r : Addr} {b : Int} {t u v : Tok} {n : Nat} {m₀ : Str → Option Value} {news : List (Addr × Obj)}
    (hh : A.handled = none) (hr : IsRange s.heap r 0 b 1 t u v) (hsm : Builtin.Range.small 0 b 1 = true) (hn : Builtin.Range.rangeSize 0 b 1 = ((n : Nat) : Int)) (F : Fr h₀ env.locals s.heap m₀) (N : News h₀ env.locals s.heap news)
    (rest₀ : ∀ I : Addr, (∀ p ∈ news, p.1 < I) → ItemsRest prog w A E h₀ env (.Name x px) body Q s [(I, "range_iterator")] [] (rItems n) m₀ news) :
    wpAny (model prog w) A (pyIter (.ref r)) (fun it s₂ => TurnsAt prog w A h₀ env (.Name x px) body Q E it s₂) E s := by
  refine wpAny_pyIter_range hr hsm ?_
  refine ktu_core (tk0 := s.toks) (keep := []) (ws := [(s.heap.objs.size, "range_iterator")]) (xs := rItems n) (news := news) (m₀ := m₀) (fp := [s.heap.objs.size]) (wr := [s.heap.objs.size]) (n := n)
    (KTurns.ofWalks (Walks.range hh s.heap.objs.size 0 1 n).bound fun i v s Q E st q => by show wpAny _ _ (pure ()) _ _ _; exact wpAny_pure q) ?_ (fun i v h hp => ?_) (fun i h st => ?_) (fun b hb => ?_) (fun b hb => by simpa using hb) (fun b hb => ?_) ?_ (fun p hp hI => ?_) ?_ (F.push _) (fun p hp => ⟨Heap.get?_push_of_some _ (N p hp).1, (N p hp).2⟩) trivial (rest₀ _ fun p hp => Heap.lt_size (N p hp).1)
  · simp [rItems]
  · obtain ⟨hi, t, rfl⟩ := hp
    exact ⟨rItem i, by simp [rItems, hi], t, rfl⟩
  · exact ⟨[(s.heap.objs.size, _)], ⟨⟨rfl, rfl⟩, trivial⟩, fun p hp => by rw [List.mem_singleton.mp hp]; exact st⟩
  · have hb' : b = s.heap.objs.size := by simpa using hb
    rw [hb']
    exact ⟨List.mem_cons_self .., next_is_new F⟩
  · exact .inl (by simpa using hb)
  · intro hI
    exact absurd F.ns.lt ((List.mem_singleton.mp hI) ▸ Nat.lt_irrefl _)
  · exact absurd (Heap.lt_size (N p hp).1) ((List.mem_singleton.mp hI) ▸ Nat.lt_irrefl _)
  · show IsRangeIter _ _ _ _ _
    rw [hn]
    simpa using Heap.get?_push_size _ rfl
end
/-! ## a list comprehension over a text, closing over a cell -/
section
variable {prog : Program} {w : World} {A : Around} {E : Value → Shared → Prop} {s : Shared} {h₀ : Heap} {L : Addr} {m : Str → Option Value} {env : Env}
def SrcS (prog : Program) (w : World) (A : Around) (h₀ : Heap) (L : Addr) (m : Str → Option Value) (env : Env) (elt : PySem.Expr) (x : Str) (scope : Scope) (cl : List (Str × Addr)) (Fin : Shared → List Value → List (Addr × Obj) → Prop) (xv : Value) (s₁ : Shared) : Prop :=
  ∃ y t news, xv = .str y t ∧ A.handled = none ∧ Fr h₀ L s₁.heap m ∧ News h₀ L s₁.heap news ∧ y.cps.size ≤ sizeLine ∧
    ∀ s₂ : Shared, (∃ h, s₂ = { s₁ with heap := h }) → LCg.CompRest prog w A h₀ L m env elt x scope cl s₂ (fun _ => True) (SignAt y) (Fin s₂) y.cps.size 0 [] news
theorem block_S {elt iter : PySem.Expr} {x : Str} {px : Pos} {scope : Scope} {cl : List (Str × Addr)} {pos : Pos} {s₁ : Shared} {y : Str} {t : Tok} {ty : String} {o : Obj} {news : List (Addr × Obj)} {Fin : List Value → List (Addr × Obj) → Prop} {RR : Value → Addr → Result → Shared → Prop}
    (W : Walks prog w A s₁.heap.objs.size [s₁.heap.objs.size] [s₁.heap.objs.size] y.cps.size (SignAt y) (fun i h => h.IsStrIter s₁.heap.objs.size ty y t i)) (hst : (s₁.heap.push o).IsStrIter s₁.heap.objs.size ty y t 0) (hsz : y.cps.size ≤ sizeLine)
    (hcell : ∀ y ∈ scope.names, y.2 ≠ .cell) (hkind : scope.kind = .function) (hx : scope.names.lookup x = some .local) (F : Fr h₀ L s₁.heap m) (N : News h₀ L s₁.heap news)
    (R : LCg.CompRest prog w A h₀ L m env elt x scope cl { s₁ with heap := s₁.heap.push o } (fun _ => True) (SignAt y) Fin y.cps.size 0 [] news)
    (hRR : ∀ D C h tk m' ys news', Fr h₀ L h m → News h₀ L h ((D, LCg.lst ys) :: news') → LCg.Off1 D news' → h.Ns C m' → h₀.get? C = none → h₀.get? D = none → C ≠ L → D ≠ L → C ≠ D → (∀ p ∈ news', p.1 ≠ C) → Fin ys news' → RR (.ref D) C (.ok .next) { s₁ with heap := h, toks := tk }) :
    wpAny (model prog w) A (newList []) (fun acc s₃ => wpAny (model prog w) A (newFunctionEnv scope env.globals cl [] env.qual none .none (some env)) (fun cenv s₄ =>
      codeAny (model prog w) A (.compStart (.ListComp elt [⟨.Name x px, iter, [], 0⟩] scope pos) 0 (.ref s₁.heap.objs.size) acc { cenv with scope := relabel scope env }) (RR acc cenv.locals) s₄) E s₃) E { s₁ with heap := s₁.heap.push o } := by
  refine LCg.block_U (S := fun _ => True) W hsz (fun i h st => by obtain ⟨o', e, _⟩ := st; exact ⟨o', e⟩) (fun i h h' o' nw st e e' _ _ _ => ?_) hcell hkind hx hst (fun b hb => ?_)
    (F.keeps fun _ _ e => Heap.get?_push_of_some _ e) (N.grown fun _ _ e => Heap.get?_push_of_some _ e) (Nat.ne_of_lt F.ns.lt) (next_is_new F) (fun p hp => Nat.ne_of_lt (Heap.lt_size (N p hp).1)) trivial R hRR
  · obtain ⟨o2, e2, r2⟩ := st
    rw [e] at e2
    cases e2
    exact ⟨o', e', r2⟩
  · rw [List.mem_singleton.mp hb]
    show s₁.heap.objs.size < (s₁.heap.push _).objs.size
    rw [Heap.size_push]; exact Nat.lt_succ_self _
theorem ListComp_S {elt iter : PySem.Expr} {x : Str} {px : Pos} {scope : Scope} {cl : List (Str × Addr)} {pos : Pos} {Q : Value → Shared → Prop} (_F₀ : Fr h₀ L s.heap m)
    (hclos : closureFor scope env = pure cl) (hcell : ∀ y ∈ scope.names, y.2 ≠ .cell) (hkind : scope.kind = .function)
    (hnames : ∀ y ∈ scope.names, y.2 = .local → scope.names.lookup y.1 = some .local) (hx : scope.names.lookup x = some .local)
    (h : wpAny (model prog w) A (eval iter env) (SrcS prog w A h₀ L m env elt x scope cl (fun s₂ => LCg.FinE h₀ L m s₂ Q)) E s)
    (hs : ∀ x, foldedSetIterable iter env x = pure x := by intro _; rfl) :
    wpAny (model prog w) A (eval (.ListComp elt [⟨.Name x px, iter, [], 0⟩] scope pos) env) Q E s := by
  rw [eval_ListComp]
  refine wpAny_comprehension_free (use := none) rfl hs hclos hkind hnames (wpAny_mono h (fun xv s₁ h₁ => ?_) fun _ _ e => e)
  obtain ⟨y, t, news, rfl, hh, F, N, hsz, R⟩ := h₁
  cases ha : y.cps.all (· < 128)
  · refine wpAny_pyIter_wide ha ?_
    refine block_S (Walks.strWide hh _ y t) ⟨_, Heap.get?_push_size _ rfl, rfl, rfl⟩ hsz hcell hkind hx F N (R _ ⟨_, rfl⟩) ?_
    intro D C h tk m' ys news' F' N' o1 hn hC₀ hD₀ hCL hDL hCD offC fin
    refine ⟨m', hn, fun h'' hs'' => fin D h'' tk (F'.change hs'' hCL hC₀) (fun p hp => ?_) o1⟩
    refine ⟨hs''.extBut _ _ ?_ (N' p hp).1, (N' p hp).2⟩
    rcases List.mem_cons.mp hp with rfl | hp
    · exact Ne.symm hCD
    · exact offC p hp
  · refine wpAny_pyIter_ascii ha ?_
    refine block_S (Walks.strAscii hh _ y t) ⟨_, Heap.get?_push_size _ rfl, rfl, rfl⟩ hsz hcell hkind hx F N (R _ ⟨_, rfl⟩) ?_
    intro D C h tk m' ys news' F' N' o1 hn hC₀ hD₀ hCL hDL hCD offC fin
    refine ⟨m', hn, fun h'' hs'' => fin D h'' tk (F'.change hs'' hCL hC₀) (fun p hp => ?_) o1⟩
    refine ⟨hs''.extBut _ _ ?_ (N' p hp).1, (N' p hp).2⟩
    rcases List.mem_cons.mp hp with rfl | hp
    · exact Ne.symm hCD
    · exact offC p hp
theorem SrcS.mk' {elt : PySem.Expr} {x : Str} {scope : Scope} {cl : List (Str × Addr)} {Fin : Shared → List Value → List (Addr × Obj) → Prop} {y : Str} {t : Tok} {news : List (Addr × Obj)} {s₁ : Shared}
    (hh : A.handled = none) (F : Fr h₀ L s₁.heap m) (N : News h₀ L s₁.heap news) (hsz : y.cps.size ≤ sizeLine)
    (h : ∀ g, LCg.CompRest prog w A h₀ L m env elt x scope cl { s₁ with heap := g } (fun _ => True) (SignAt y) (Fin { s₁ with heap := g }) y.cps.size 0 [] news) :
    SrcS prog w A h₀ L m env elt x scope cl Fin (.str y t) s₁ := ⟨y, t, news, rfl, hh, F, N, hsz, fun _ ⟨g, e⟩ => e ▸ h g⟩
end
/-! ## what the turns make -/
section
variable {prog : Program} {w : World} {A : Around} {h₀ : Heap} {L : Addr} {m : Str → Option Value} {env : Env} {elt : PySem.Expr} {x : Str} {scope : Scope} {cl : List (Str × Addr)} {s : Shared} {Fin : List Value → List (Addr × Obj) → Prop} {news : List (Addr × Obj)}
theorem signAt_txt {l : List Nat} {i : Nat} {v : Value} (h : SignAt (txt l) i v) : ∃ c u, l[i]? = some c ∧ v = .str ⟨#[c]⟩ u := by
  obtain ⟨c, u, e, hv⟩ := h
  exact ⟨c, u, by simpa [txt] using e, hv⟩
theorem texts_rest (l : List Nat) (k : Int)
    (turn : ∀ c t I oI C oC D m₂ ys h tk (E' : Value → Shared → Prop), c ∈ l → LCg.NsObj oC m₂ → m₂ x = some (.str ⟨#[c]⟩ t) → Fr h₀ L h m → News h₀ L h ((I, oI) :: (C, oC) :: (D, LCg.lst ys) :: news) → LCg.Off3 I C D news → ((@Ne Nat I C) ∧ (@Ne Nat I D) ∧ (@Ne Nat C D)) →
      wpAny (model prog w) A (eval elt (compEnvC scope cl C env)) (LCg.CompEnd h₀ L m { s with heap := h, toks := tk } I oI C oC D (LCg.lst ys) (fun _ => True) (fun y news' => news' = news ∧ ∃ t', y = .str (txt (sentL c k)) t')) E' { s with heap := h, toks := tk })
    (fin : ∀ ys, StrsAre ys (l.map fun c => txt (sentL c k)) → Fin ys news) : LCg.CompRest prog w A h₀ L m env elt x scope cl s (fun _ => True) (SignAt (txt l)) Fin (txt l).cps.size 0 [] news := by
  have key : ∀ (j i : Nat) (ys : List Value), i + j = l.length → StrsAre ys ((l.take i).map fun c => txt (sentL c k)) → LCg.CompRest prog w A h₀ L m env elt x scope cl s (fun _ => True) (SignAt (txt l)) Fin j i ys news := by
    intro j
    induction j with
    | zero =>
      intro i ys hi hy
      have e : i = l.length := by omega
      subst e
      rw [List.take_length] at hy
      exact LCg.CompRest.zero (fin ys hy)
    | succ j ih =>
      intro i ys hi hy
      refine LCg.CompRest.succ ?_
      intro v I oI C oC D m₂ h tk E' hv hC hx F N off ne
      obtain ⟨c, u, hc, rfl⟩ := signAt_txt hv
      refine wpAny_mono (turn c u I oI C oC D m₂ ys h tk E' (List.mem_of_getElem? hc) hC hx F N off ne) (fun y s₂ hq => ?_) fun _ _ e => e
      obtain ⟨h', tk', nw, e, F', N', off', hS, hn, t', hy'⟩ := hq
      rw [hn] at N' off'
      refine ⟨h', tk', news, e, F', N', off', hS, ?_⟩
      rw [hy']
      refine ih (i + 1) _ (by omega) ?_
      rw [List.take_add_one, hc]
      simpa using kct_snoc hy
  have hl : (txt l).cps.size = l.length := by simp [txt]
  rw [hl]
  exact key l.length 0 [] (by omega) (by simp only [List.take_zero, List.map_nil]; exact .nil)
theorem pairs_rest (l : List Nat) (k : Int)
    (turn : ∀ c t I oI C oC D m₂ ys h tk nw (E' : Value → Shared → Prop), c ∈ l → (∀ p ∈ news, p ∈ nw) → LCg.NsObj oC m₂ → m₂ x = some (.str ⟨#[c]⟩ t) → Fr h₀ L h m → News h₀ L h ((I, oI) :: (C, oC) :: (D, LCg.lst ys) :: nw) → LCg.Off3 I C D nw → ((@Ne Nat I C) ∧ (@Ne Nat I D) ∧ (@Ne Nat C D)) →
      wpAny (model prog w) A (eval elt (compEnvC scope cl C env)) (LCg.CompEnd h₀ L m { s with heap := h, toks := tk } I oI C oC D (LCg.lst ys) (fun _ => True) (fun y news' => (∀ p ∈ nw, p ∈ news') ∧ DatIn news' y (pd (c, k)))) E' { s with heap := h, toks := tk })
    (fin : ∀ ys nw, (∀ p ∈ news, p ∈ nw) → DatAll nw ys ((l.map fun c => ((c, k) : Pr)).map pd) → Fin ys nw) : LCg.CompRest prog w A h₀ L m env elt x scope cl s (fun _ => True) (SignAt (txt l)) Fin (txt l).cps.size 0 [] news := by
  have key : ∀ (j i : Nat) (ys : List Value) (nw : List (Addr × Obj)), i + j = l.length → (∀ p ∈ news, p ∈ nw) → DatAll nw ys (((l.take i).map fun c => ((c, k) : Pr)).map pd) → LCg.CompRest prog w A h₀ L m env elt x scope cl s (fun _ => True) (SignAt (txt l)) Fin j i ys nw := by
    intro j
    induction j with
    | zero =>
      intro i ys nw hi hs hy
      have e : i = l.length := by omega
      subst e
      rw [List.take_length] at hy
      exact LCg.CompRest.zero (fin ys nw hs hy)
    | succ j ih =>
      intro i ys nw hi hs hy
      refine LCg.CompRest.succ ?_
      intro v I oI C oC D m₂ h tk E' hv hC hx F N off ne
      obtain ⟨c, u, hc, rfl⟩ := signAt_txt hv
      refine wpAny_mono (turn c u I oI C oC D m₂ ys h tk nw E' (List.mem_of_getElem? hc) hs hC hx F N off ne) (fun y s₂ hq => ?_) fun _ _ e => e
      obtain ⟨h', tk', nw', e, F', N', off', hS, hn, hd⟩ := hq
      refine ⟨h', tk', nw', e, F', N', off', hS, ?_⟩
      refine ih (i + 1) _ nw' (by omega) (fun p hp => hn p (hs p hp)) ?_
      rw [List.take_add_one, hc]
      have := DatAll.append (DatAll.mono hn hy) (DatAll.one hd)
      simpa using this
  have hl : (txt l).cps.size = l.length := by simp [txt]
  rw [hl]
  exact key l.length 0 [] news (by omega) (fun _ h => h) (by simp only [List.take_zero, List.map_nil]; exact .nil)
end
/-! ## slices, joins, the cell -/
section
variable {prog : Program} {w : World} {A : Around} {E : Value → Shared → Prop} {s : Shared} {h₀ : Heap} {L l : Addr} {m : Str → Option Value} {news : List (Addr × Obj)} {value slice : PySem.Expr}
theorem slice_take {vs : List Value} {n : Nat} {e : Int} {t : Tok} {Q : Value → Shared → Prop} (F : Fr h₀ L s.heap m) (N : News h₀ L s.heap news) (hl : (l, listOf vs.toArray n) ∈ news) (h0 : 0 ≤ e) (hz : vs.length ≤ sizeLine)
    (h : ∀ D h', Fr h₀ L h' m → News h₀ L h' ((D, listOf (vs.take e.toNat).toArray 0) :: news) → (∀ p ∈ news, p.1 < D) → Q (.ref D) { s with heap := h' })
    (hs : subscripted slice false (.ref l) (.ref s.heap.objs.size) = operate [.ref s.heap.objs.size, .ref l] (getItem (.ref l) (.ref s.heap.objs.size))) (ht : ∀ r, letTemporaryGo value (.ref l) r = pure ()) :
    wpAny (model prog w) A (subscriptTail value slice (.ref l) (.ref s.heap.objs.size)) Q E { s with heap := s.heap.push { cls := .type "slice", data := .fields #[.none, .int e t, .none] } } := by
  refine kmk_slice F N ⟨_, (N _ hl).1, rfl, n, rfl⟩ IsPart.none (IsPart.int _ _) (fun D h' F' N' l1 => h D h' F' ?_ l1) hs ht (by rw [List.size_toArray]; exact hz)
  have e1 : slicePick vs.toArray none (some e) none = (vs.take e.toNat).toArray := by
    rw [kms_pick_eq]
    have k1 : kms_lo none vs.length = 0 := rfl
    have k2 : kms_hi (some e) vs.length = min e.toNat vs.length := if_neg (by omega)
    show ((vs.drop (kms_lo none vs.length)).take (kms_hi (some e) vs.length - kms_lo none vs.length)).toArray = _
    rw [k1, k2, List.drop_zero, Nat.sub_zero, kmk_take_min]
  rw [e1] at N'
  exact N'
theorem join_texts {α : Type} {ys : List Value} {n : Nat} (ps : List α) (g : α → List Nat) {t : Tok} {Q : Value → Shared → Prop} (N : News h₀ L s.heap news) (hl : (l, listOf ys.toArray n) ∈ news) (hy : StrsAre ys (ps.map fun p => txt (g p))) (hB : ∀ p ∈ ps, (g p).length ≤ 3) (hn : ps.length ≤ 4096)
    (h : ∀ t' k, Q (.str (txt (ps.map g).flatten) t') { s with toks := k }) : wpAny (model prog w) A (call (.builtin "str.join") [.str (Str.ofString "") t, .ref l]) Q E s := by
  have hc := hy.carried
  rw [List.map_map] at hc
  refine KT.join_B 3 (g := fun p => txt (g p)) (l := ps) ⟨_, (N _ hl).1, rfl, n, rfl⟩ hc (fun a ha => by rw [txt_len]; exact hB a ha) (by omega) (by decide) (fun t' k => ?_)
  have e : PySem.Txt.join (Str.ofString "") (ps.map fun p => txt (g p)) = txt (ps.map g).flatten := by
    show Builtin.Str.glued (Str.ofString "") _ = _
    rw [StrLaws.glued_eq_join]
    clear hy hc hB hn
    have key : ∀ qs : List α, Str.join (Str.ofString "") (qs.map fun p => txt (g p)) = txt (qs.map g).flatten := by
      intro qs
      induction qs with
      | nil =>
        show Str.join (Str.ofString "") [] = txt []
        decide
      | cons p r ih =>
        cases r with
        | nil => simp [Str.join]
        | cons q r =>
          have e2 : Str.join (Str.ofString "") ((p :: q :: r).map fun p => txt (g p)) = txt (g p) ++ Str.ofString "" ++ Str.join (Str.ofString "") ((q :: r).map fun p => txt (g p)) := rfl
          rw [e2, ih]
          have e3 : Str.ofString "" = txt [] := by decide
          rw [e3, txt_cat, txt_cat]
          simp
    exact key ps
  rw [e]
  exact h t' k
end
section
variable {M : Model} {A : Around} {E : Value → Shared → Prop} {s : Shared} {h₀ : Heap} {L a : Addr} {m : Str → Option Value} {cn : Str} {cs : Scope} {ccd : Value} {cl : List (Str × Addr)}
  {x : Str} {v : Value} {Q : Unit → Shared → Prop} {news : List (Addr × Obj)} {c : Addr} {o : Obj} {v₀ : Option Value}
theorem store_cell (F : Fr h₀ L s.heap m) (N : News h₀ L s.heap ((c, o) :: news)) (hX : ∀ p ∈ news, p.1 ≠ c) (hc : cl.lookup x = some c) (hd : o.data = .cell v₀)
    (h : ∀ h' o', Fr h₀ L h' m → News h₀ L h' ((c, o') :: news) → o'.data = .cell (some v) → Q () { s with heap := h' })
    (hk : cs.kind = .function := by rfl) (hx : (envX cn cs L a ccd cl).kindOf x = some .cell := by rfl) : wpAny M A (storeName (envX cn cs L a ccd cl) x v) Q E s :=
  storeX_C F N hc (UpdF.head hX) hd h hk hx
end
end Mine


namespace Mine
theorem strip_val' (x : Str) (e1 e2 st : Int)
    (h1 : (0 ≤ Txt.find x (Str.ofString "\n") ∧ e1 = Txt.find x (Str.ofString "\n")) ∨ (¬ 0 ≤ Txt.find x (Str.ofString "\n") ∧ e1 = (x.length : Int)))
    (h2 : (0 ≤ find4 x (Str.ofString ":") 0 e1 ∧ e2 = find4 x (Str.ofString ":") 0 e1) ∨ (¬ 0 ≤ find4 x (Str.ofString ":") 0 e1 ∧ e2 = e1))
    (h3 : (0 ≤ rfind4 x (Str.ofString ".") 0 e2 ∧ st = rfind4 x (Str.ofString ".") 0 e2 + 1) ∨ (¬ 0 ≤ rfind4 x (Str.ofString ".") 0 e2 ∧ st = 0)) :
    Txt.slice x (some st) (some e2) = strip x := by
  have a : Str.ofString "\n" = ⟨#[10]⟩ := by decide
  have b : Str.ofString ":" = ⟨#[58]⟩ := by decide
  have c : Str.ofString "." = ⟨#[46]⟩ := by decide
  rw [a] at h1
  rw [b] at h2
  rw [c] at h3
  exact strip_val x e1 e2 st h1 h2 h3
local macro_rules | `(tactic| walk_at "call builtin:str.find") => `(tactic| (k_here; (with_reducible show wpAny _ _ (call (Value.builtin "str.find") [Value.str _ _, Value.str _ _, Value.int _ _, Value.int _ _]) _ _ _); refine call_find4 ?_))
local macro_rules | `(tactic| walk_at "call builtin:str.rfind") => `(tactic| (k_here; (with_reducible show wpAny _ _ (call (Value.builtin "str.rfind") [Value.str _ _, Value.str _ _, Value.int _ _, Value.int _ _]) _ _ _); refine call_rfind4 ?_))
set_option maxRecDepth 100000 in
set_option maxHeartbeats 1000000 in
theorem strip_gv (w : World) (x : Str) (t : Tok) (hx : x.length ≤ 4096) : Gv 2 w 21 [.str x t] (fun t => .str (strip x) t) := by
  unfold Gv
  w_top off
  k_fill
  intro loose mean mg mb dp un gd cn cs a ccd cl outer A₀ base h₀ L m news s Q E B F X N T hk hd hu hret
  refine wpAny_call ?_
  k_dflt cell_enter
  k_steps
  all_goals (refine' cb_retS (Q := Q) hret ?_ ?_ ?_)
  all_goals (first
    | exact strip_val' x _ _ _ (by assumption) (by first | assumption | exact Or.inl ⟨by assumption, rfl⟩ | exact Or.inr ⟨by assumption, rfl⟩) (by first | assumption | exact Or.inl ⟨by assumption, rfl⟩ | exact Or.inr ⟨by assumption, rfl⟩)
    | assumption
    | exact cb_drop (by assumption) (fun p hp => List.Mem.tail _ hp))
end Mine


namespace Mine
local macro_rules | `(tactic| walk_at "binaryOp BitAnd int int") => `(tactic| (k_here; with_reducible (first | refine and127 ?_ | refine and31 ?_ | refine and128 ?_); intro _))
local macro_rules | `(tactic| walk_at "binaryOp BitOr int int") => `(tactic| (k_here; with_reducible (first | refine or128 ?_ | refine or32 ?_); intro _))
local macro_rules | `(tactic| walk_at "call builtin:chr") => `(tactic| (k_here; k_dflt (refine chrN (by omega) ?_); intro _))
set_option maxRecDepth 100000 in
set_option maxHeartbeats 1000000 in
theorem ctoi_gv (w : World) (c : Nat) (t : Tok) : Gv 2 w 28 [.str ⟨#[c]⟩ t] (fun t => .int (c : Int) t) := by
  unfold Gv
  w_top off
  k_fill
  intro loose mean mg mb dp un gd cn cs a ccd cl outer A₀ base h₀ L m news s Q E B F X N T hk hd hu hret
  refine wpAny_call ?_
  k_dflt cell_enter
  k_steps
  all_goals (refine' cb_retI (Q := Q) hret ?_ ?_ ?_)
  all_goals (first | assumption | rfl)
set_option maxRecDepth 100000 in
set_option maxHeartbeats 1000000 in
theorem ctoi_int_gv (w : World) (c : Int) (t : Tok) : Gv 2 w 28 [.int c t] (fun t => .int c t) := by
  unfold Gv
  w_top off
  k_fill
  intro loose mean mg mb dp un gd cn cs a ccd cl outer A₀ base h₀ L m news s Q E B F X N T hk hd hu hret
  refine wpAny_call ?_
  k_dflt cell_enter
  k_steps
  all_goals (refine' cb_retI (Q := Q) hret ?_ ?_ ?_)
  all_goals (first | assumption | rfl)
local macro_rules | `(tactic| walk_at "call ref") => `(tactic| (k_here; k_dflt (first | refine' gv_use (ctoi_gv _ _ _) ?k1 ?k2 ?k3 ?k4 ?k5 ?kK ?kd ?ku ?_ | refine' gv_use (ctoi_int_gv _ _ _) ?k1 ?k2 ?k3 ?k4 ?k5 ?kK ?kd ?ku ?_); (case k1 => k_asm); (case k2 => k_asm); (case k3 => k_asm); (case k4 => k_asm); (case k5 => k_asm); (case kK => first | exact rfl | assumption); (case kd => ktr_room); (case ku => ktr_units); (intro t9 h9 tk9 F9 N9; (try dsimp only); (try k_fold))))
set_option maxRecDepth 100000 in
set_option maxHeartbeats 1000000 in
theorem isprint_gv (w : World) (c : Int) (t : Tok) : Gv 4 w 35 [.int c t] (fun _ => .bool (decide (32 ≤ c) && decide (c ≤ 126))) := by
  unfold Gv
  w_top off
  k_fill
  intro loose mean mg mb dp un gd cn cs a ccd cl outer A₀ base h₀ L m news s Q E B F X N T hk hd hu hret
  refine wpAny_call ?_
  k_dflt cell_enter
  k_steps
  all_goals (refine' cb_retB (Q := Q) hret ?_ ?_ ?_)
  all_goals (first | assumption | (simp [show 32 ≤ c from ‹_›]; done) | (simp [show ¬ 32 ≤ c from ‹_›]; done))
set_option maxRecDepth 100000 in
set_option maxHeartbeats 1000000 in
theorem ascii_gv (w : World) (c : Nat) (t : Tok) (_hc : c < 1114112) : Gv 4 w 42 [.str ⟨#[c]⟩ t] (fun t => .str ⟨#[c % 128]⟩ t) := by
  unfold Gv
  w_top off
  k_fill
  intro loose mean mg mb dp un gd cn cs a ccd cl outer A₀ base h₀ L m news s Q E B F X N T hk hd hu hret
  refine wpAny_call ?_
  k_dflt cell_enter
  k_steps
  all_goals (refine' cb_retS (Q := Q) hret ?_ ?_ ?_)
  all_goals (first | assumption | rfl)
set_option maxRecDepth 100000 in
set_option maxHeartbeats 1000000 in
theorem ctrl_gv (w : World) (c : Nat) (t : Tok) (_hc : c < 1114112) : Gv 4 w 49 [.str ⟨#[c]⟩ t] (fun t => .str ⟨#[c % 32]⟩ t) := by
  unfold Gv
  w_top off
  k_fill
  intro loose mean mg mb dp un gd cn cs a ccd cl outer A₀ base h₀ L m news s Q E B F X N T hk hd hu hret
  refine wpAny_call ?_
  k_dflt cell_enter
  k_steps
  all_goals (refine' cb_retS (Q := Q) hret ?_ ?_ ?_)
  all_goals (first | assumption | rfl)
set_option maxRecDepth 100000 in
set_option maxHeartbeats 1000000 in
theorem alt_gv (w : World) (c : Nat) (t : Tok) (_hc : c < 1114112) : Gv 4 w 56 [.str ⟨#[c]⟩ t] (fun t => .str ⟨#[c + 128 - c / 128 % 2 * 128]⟩ t) := by
  unfold Gv
  w_top off
  k_fill
  intro loose mean mg mb dp un gd cn cs a ccd cl outer A₀ base h₀ L m news s Q E B F X N T hk hd hu hret
  refine wpAny_call ?_
  k_dflt cell_enter
  k_steps
  all_goals (refine' cb_retS (Q := Q) hret ?_ ?_ ?_)
  all_goals (first | assumption | rfl)
end Mine


namespace Mine
local macro_rules | `(tactic| walk_at "binaryOp BitAnd int int") => `(tactic| (k_here; with_reducible (first | refine and127 ?_ | refine and31 ?_ | refine and128 ?_); intro _))
local macro_rules | `(tactic| walk_at "binaryOp BitOr int int") => `(tactic| (k_here; with_reducible (first | refine or128 ?_ | refine or32 ?_); intro _))
local macro_rules | `(tactic| walk_at "call builtin:chr") => `(tactic| (k_here; k_dflt (refine chrN (by omega) ?_); intro _))
local macro_rules | `(tactic| walk_at "call ref") => `(tactic| (k_here; k_dflt (first | refine' gv_use (ctoi_gv _ _ _) ?k1 ?k2 ?k3 ?k4 ?k5 ?kK ?kd ?ku ?_ | refine' gv_use (ctoi_int_gv _ _ _) ?k1 ?k2 ?k3 ?k4 ?k5 ?kK ?kd ?ku ?_); (case k1 => k_asm); (case k2 => k_asm); (case k3 => k_asm); (case k4 => k_asm); (case k5 => k_asm); (case kK => first | exact rfl | assumption); (case kd => ktr_room); (case ku => ktr_units); (intro t9 h9 tk9 F9 N9; (try dsimp only); (try k_fold))))
local macro_rules | `(tactic| walk_at "call ref") => `(tactic| (k_here; k_dflt (refine' gv_use (isprint_gv _ _ _) ?k1 ?k2 ?k3 ?k4 ?k5 ?kK ?kd ?ku ?_); (case k1 => k_asm); (case k2 => k_asm); (case k3 => k_asm); (case k4 => k_asm); (case k5 => k_asm); (case kK => first | exact rfl | assumption); (case kd => ktr_room); (case ku => ktr_units); (intro t9 h9 tk9 F9 N9; (try dsimp only); (try k_fold))))
set_option maxRecDepth 100000 in
set_option maxHeartbeats 1000000 in
theorem unctrl_gv (w : World) (c : Nat) (t : Tok) (_hc : c < 1114112) : Gv 6 w 63 [.str ⟨#[c]⟩ t] (fun t => .str (txt (uncL c)) t) := by
  unfold Gv
  w_top off
  k_fill
  intro loose mean mg mb dp un gd cn cs a ccd cl outer A₀ base h₀ L m news s Q E B F X N T hk hd hu hret
  refine wpAny_call ?_
  k_dflt cell_enter
  k_steps
  all_goals (refine' cb_retS (Q := Q) hret ?_ ?_ ?_)
  all_goals (first
    | assumption
    | exact (unc_end c _ (Or.inl ⟨‹_›, rfl⟩)).1 ‹_›
    | exact (unc_end c _ (Or.inl ⟨‹_›, rfl⟩)).2 ‹_›
    | exact (unc_end c _ (Or.inr (Or.inl ⟨‹_›, ‹_›, rfl⟩))).1 ‹_›
    | exact (unc_end c _ (Or.inr (Or.inl ⟨‹_›, ‹_›, rfl⟩))).2 ‹_›
    | exact (unc_end c _ (Or.inr (Or.inr ⟨‹_›, ‹_›, rfl⟩))).1 ‹_›
    | exact (unc_end c _ (Or.inr (Or.inr ⟨‹_›, ‹_›, rfl⟩))).2 ‹_›)
end Mine


namespace Mine
local macro_rules | `(tactic| walk_at "call ref") => `(tactic| (k_here; k_dflt (first | refine' gv_use (ascii_gv _ _ _ (by assumption)) ?k1 ?k2 ?k3 ?k4 ?k5 ?kK ?kd ?ku ?_ | refine' gv_use (ctrl_gv _ _ _ (by assumption)) ?k1 ?k2 ?k3 ?k4 ?k5 ?kK ?kd ?ku ?_ | refine' gv_use (alt_gv _ _ _ (by assumption)) ?k1 ?k2 ?k3 ?k4 ?k5 ?kK ?kd ?ku ?_ | refine' gv_use (unctrl_gv _ _ _ (by assumption)) ?k1 ?k2 ?k3 ?k4 ?k5 ?kK ?kd ?ku ?_); (case k1 => k_asm); (case k2 => k_asm); (case k3 => k_asm); (case k4 => k_asm); (case k5 => k_asm); (case kK => first | exact rfl | assumption); (case kd => ktr_room); (case ku => ktr_units); (intro t9 h9 tk9 F9 N9; (try dsimp only); (try k_fold))))
set_option maxRecDepth 100000 in
set_option maxHeartbeats 2000000 in
theorem sent_gv (w : World) (c : Nat) (r : Int) (t u : Tok) (hc : c < 1114112) : Gv 8 w 77 [.str ⟨#[c]⟩ t, .int r u] (fun t => .str (txt (sentL c r)) t) := by
  unfold Gv
  w_top off
  k_fill
  intro loose mean mg mb dp un gd cn cs a ccd cl outer A₀ base h₀ L m news s Q E B F X N T hk hd hu hret
  refine wpAny_call ?_
  k_dflt cell_enter
  k_steps
  all_goals (refine' cb_retS (Q := Q) hret ?_ ?_ ?_)
  all_goals (first
    | assumption
    | (unfold sentL; rw [if_pos ‹r = 1›]; rfl)
    | (unfold sentL; rw [if_neg ‹r ≠ 1›, if_pos ‹r = 2›]; rfl)
    | (unfold sentL; rw [if_neg ‹r ≠ 1›, if_neg ‹r ≠ 2›, if_pos ‹r = 3›]; rfl)
    | (unfold sentL; rw [if_neg ‹r ≠ 1›, if_neg ‹r ≠ 2›, if_neg ‹r ≠ 3›, if_pos ‹r = 4›])
    | (unfold sentL; rw [if_neg ‹r ≠ 1›, if_neg ‹r ≠ 2›, if_neg ‹r ≠ 3›, if_neg ‹r ≠ 4›]; rfl))
end Mine


namespace Mine
set_option maxRecDepth 100000 in
set_option maxHeartbeats 2000000 in
theorem code_gv (w : World) (n : Int) (t : Tok) (h0 : 0 ≤ n) (h1 : n < 100000000) : Gv 2 w 70 [.int n t] (fun t => .int ((codeN n : Nat)) t) := by
  unfold Gv
  w_top off
  k_fill
  intro loose mean mg mb dp un gd cn cs a ccd cl outer A₀ base h₀ L m news s Q E B F X N T hk hd hu hret
  refine wpAny_call ?_
  k_dflt cell_enter
  k_steps
  all_goals (refine' cb_retI (Q := Q) hret ?_ ?_ ?_)
  all_goals (first
    | assumption
    | (rw [codeN_eq]; unfold codeI; rw [if_pos ‹n.fmod 3 < 2›])
    | (rw [codeN_eq]; unfold codeI; rw [if_neg ‹¬ n.fmod 3 < 2›, if_pos ‹_›])
    | (rw [codeN_eq]; unfold codeI; rw [if_neg ‹¬ n.fmod 3 < 2›, if_neg ‹_›])
    | exact cb_drop (by assumption) (fun p hp => List.Mem.tail _ hp))
end Mine


namespace Mine
theorem pic_low (c : Nat) (h : Int.fmod (c : Int) 128 < 32) : Str.ofString "^" ++ Txt.item (Str.ofString "@ABCDEFGHIJKLMNOPQRSTUVWXYZ[\\]^_") (Int.fmod (c : Int) 128) = txt [94, c % 128 + 64] := by
  have e128 : Int.fmod (c : Int) 128 = ((c % 128 : Nat) : Int) := fm c 128
  rw [e128] at h ⊢
  rw [pic_item _ (by omega)]
  exact txt_app _ _ [94] _ (by decide) rfl
local macro_rules | `(tactic| walk_at "call builtin:chr") => `(tactic| (k_here; k_dflt (refine chrN (by omega) ?_); intro _))
set_option maxRecDepth 100000 in
set_option maxHeartbeats 2000000 in
theorem pic0_gv (w : World) (c : Nat) (t u : Tok) (hc : c < 1114112) : Gv 2 w 84 [.int (c : Int) t, .int 0 u] (fun t => .str (txt (sentL c 0)) t) := by
  unfold Gv
  w_top off
  k_fill
  intro loose mean mg mb dp un gd cn cs a ccd cl outer A₀ base h₀ L m news s Q E B F X N T hk hd hu hret
  refine wpAny_call ?_
  k_dflt cell_enter
  k_steps
  all_goals (refine' cb_retS (Q := Q) hret ?_ ?_ ?_)
  all_goals (first
    | assumption
    | exact cb_drop (by assumption) (fun p hp => List.Mem.tail _ hp)
    | rfl)
set_option maxRecDepth 100000 in
set_option maxHeartbeats 2000000 in
theorem pic1_gv (w : World) (c : Nat) (t u : Tok) (hc : c < 1114112) : Gv 2 w 84 [.int (c : Int) t, .int 1 u] (fun t => .str (txt (sentL c 1)) t) := by
  unfold Gv
  w_top off
  k_fill
  intro loose mean mg mb dp un gd cn cs a ccd cl outer A₀ base h₀ L m news s Q E B F X N T hk hd hu hret
  refine wpAny_call ?_
  k_dflt cell_enter
  k_steps
  all_goals (refine' cb_retS (Q := Q) hret ?_ ?_ ?_)
  all_goals (first
    | assumption
    | exact cb_drop (by assumption) (fun p hp => List.Mem.tail _ hp)
    | (rw [show Int.fmod (c : Int) 128 = ((c % 128 : Nat) : Int) from fm c 128, Int.toNat_natCast]; rfl))
set_option maxRecDepth 100000 in
set_option maxHeartbeats 2000000 in
theorem pic2_gv (w : World) (c : Nat) (t u : Tok) (hc : c < 1114112) : Gv 2 w 84 [.int (c : Int) t, .int 2 u] (fun t => .str (txt (sentL c 2)) t) := by
  unfold Gv
  w_top off
  k_fill
  intro loose mean mg mb dp un gd cn cs a ccd cl outer A₀ base h₀ L m news s Q E B F X N T hk hd hu hret
  refine wpAny_call ?_
  k_dflt cell_enter
  k_steps
  all_goals (refine' cb_retS (Q := Q) hret ?_ ?_ ?_)
  all_goals (first
    | assumption
    | exact cb_drop (by assumption) (fun p hp => List.Mem.tail _ hp)
    | (rw [show Int.fmod (c : Int) 32 = ((c % 32 : Nat) : Int) from fm c 32, Int.toNat_natCast]; rfl))
set_option maxRecDepth 100000 in
set_option maxHeartbeats 2000000 in
theorem pic3_gv (w : World) (c : Nat) (t u : Tok) (hc : c < 1114112) : Gv 2 w 84 [.int (c : Int) t, .int 3 u] (fun t => .str (txt (sentL c 3)) t) := by
  unfold Gv
  w_top off
  k_fill
  intro loose mean mg mb dp un gd cn cs a ccd cl outer A₀ base h₀ L m news s Q E B F X N T hk hd hu hret
  refine wpAny_call ?_
  k_dflt cell_enter
  k_steps
  all_goals (refine' cb_retS (Q := Q) hret ?_ ?_ ?_)
  all_goals (first
    | assumption
    | exact cb_drop (by assumption) (fun p hp => List.Mem.tail _ hp)
    | (rw [fdm, show ((c : Int) + 128 - ((c / 128 % 2 : Nat) : Int) * 128).toNat = c + 128 - c / 128 % 2 * 128 by omega]; rfl))
set_option maxRecDepth 100000 in
set_option maxHeartbeats 2000000 in
theorem pic4_gv (w : World) (c : Nat) (t u : Tok) (hc : c < 1114112) : Gv 2 w 84 [.int (c : Int) t, .int 4 u] (fun t => .str (txt (sentL c 4)) t) := by
  unfold Gv
  w_top off
  k_fill
  intro loose mean mg mb dp un gd cn cs a ccd cl outer A₀ base h₀ L m news s Q E B F X N T hk hd hu hret
  refine wpAny_call ?_
  k_dflt cell_enter
  k_steps
  all_goals (refine' cb_retS (Q := Q) hret ?_ ?_ ?_)
  all_goals (first
    | assumption
    | exact cb_drop (by assumption) (fun p hp => List.Mem.tail _ hp)
    | (rw [PySem.Str.append_assoc]; exact (pic_end c _ (Or.inl ⟨‹_›, pic_low c ‹_›⟩)).1 ‹_›)
    | (rw [PySem.Str.append_assoc]; exact (pic_end c _ (Or.inl ⟨‹_›, pic_low c ‹_›⟩)).2 ‹_›)
    | exact (pic_end c _ (Or.inr (Or.inl ⟨‹_›, ‹_›, rfl⟩))).1 ‹_›
    | exact (pic_end c _ (Or.inr (Or.inl ⟨‹_›, ‹_›, rfl⟩))).2 ‹_›
    | exact (pic_end c _ (Or.inr (Or.inr (Or.inl ⟨‹_›, ‹_›, rfl⟩)))).1 ‹_›
    | exact (pic_end c _ (Or.inr (Or.inr (Or.inl ⟨‹_›, ‹_›, rfl⟩)))).2 ‹_›
    | exact (pic_end c _ (Or.inr (Or.inr (Or.inr ⟨‹_›, ‹_›, by decide⟩)))).1 ‹_›
    | exact (pic_end c _ (Or.inr (Or.inr (Or.inr ⟨‹_›, ‹_›, by decide⟩)))).2 ‹_›)
theorem pic_gv (w : World) (c : Nat) (r : Int) (t u : Tok) (hc : c < 1114112) (h0 : 0 ≤ r) (h1 : r < 5) : Gv 2 w 84 [.int (c : Int) t, .int r u] (fun t => .str (txt (sentL c r)) t) := by
  have h : r = 0 ∨ r = 1 ∨ r = 2 ∨ r = 3 ∨ r = 4 := by omega
  rcases h with rfl | rfl | rfl | rfl | rfl
  · exact pic0_gv w c t u hc
  · exact pic1_gv w c t u hc
  · exact pic2_gv w c t u hc
  · exact pic3_gv w c t u hc
  · exact pic4_gv w c t u hc
end Mine


namespace Mine
local macro_rules | `(tactic| walk_at "exec For Tuple Name cons nil") => `(tactic| (k_here; (rename Fr _ _ _ _ => lF'); (with_unfolding_all refine' For_turns lF' ?_; k_whole)))
local macro_rules | `(tactic| walk_at "call ref") => `(tactic| (k_here; k_dflt (refine' gv_use (pic_gv _ _ _ _ _ (by assumption) (by assumption) (by assumption)) ?k1 ?k2 ?k3 ?k4 ?k5 ?kK ?kd ?ku ?_); (case k1 => k_asm); (case k2 => k_asm); (case k3 => k_asm); (case k4 => k_asm); (case k5 => k_asm); (case kK => first | exact rfl | assumption); (case kd => ktr_room); (case ku => ktr_units); (intro t9 h9 tk9 F9 N9; (try dsimp only); (try k_fold))))
set_option maxRecDepth 100000 in
set_option maxHeartbeats 2000000 in
theorem told_gv (w : World) (ps : List Pr) (hps : ∀ p ∈ ps, p.Ok) (hlen : ps.length ≤ 1000) (l : Addr) (vs : List Value) (n : Nat) :
  ∀ (loose : List Str) (mean : ExcName → Option Value) (mg mb : Str → Option Value) (dp un : Nat) (gd : Option (List Code)) (cn : Str) (cs : Scope) (a : Addr) (ccd : Value) (cl : List (Str × Addr)) (outer : List Env) (A₀ : Around) (base h₀ : Heap) (L : Addr) (m : Str → Option Value) (news : List (Addr × Obj)) (s : Shared) (Q E : Value → Shared → Prop),
    Below A₀ base outer h₀ → Fr h₀ L s.heap m → (hd.heap_39 w.params).In h₀ → News h₀ L s.heap news → Top hd.view_39 loose mean mg mb h₀ → cs.kind = .function → dp + 4 < recursionLimit → un + 80 < cLine →
    (l, listOf vs.toArray n) ∈ news → DatAll news vs (ps.map pd) →
    (∀ (t : Tok) (h' : Heap) (tk' : Nat), Fr h₀ L h' m → News h₀ L h' news → Q (.str (txt (told [] ps)) t) { s with heap := h', toks := tk' }) →
    wpAny (model PySem.Challenge.rw_ij0070_01.row.prog w) (ktrTop dp un gd cn cs L a ccd cl outer) (call (.ref 91) [.ref l]) Q E s := by
  w_top off
  k_fill
  intro loose mean mg mb dp un gd cn cs a ccd cl outer A₀ base h₀ L m news s Q E B F X N T hk hd hu hl hD hret
  refine wpAny_call ?_
  k_dflt cell_enter
  k_steps
  rename Fr _ _ _ _ => F1
  rename News _ _ _ _ => N1
  refine iter_listTurns (lo := listOf vs.toArray n) (vs := vs) rfl F1 N1 hl rfl rfl ?_
  intro I lI
  refine items_ind (fun x m' n' => n' = news ∧ ∃ (vs' : List Value) (ps' : List Pr) (acc : List Nat) (t : Tok), x = vs'.map .val ∧ DatAll news vs' (ps'.map pd) ∧ (∀ p ∈ ps', p.Ok) ∧ told acc ps' = told [] ps ∧ acc.length + 3 * ps'.length ≤ 3000 ∧ m' (Str.ofString "name") = some (.str (txt acc) t)) ?_ ?_ ?_ _ _ _ ⟨rfl, vs, ps, [], _, rfl, hD, hps, rfl, by simp; omega, rfl⟩
  · rintro x m' n' ⟨rfl, _⟩
    exact ⟨hl, trivial⟩
  · rintro x r m' n' ⟨rfl, vs', ps', acc, t, hx, hD', hok, htold, hacc, hname⟩ v h tk hv Fm
    obtain ⟨a', n1, t1, u1, c, k, vs1, ps1, rfl, rfl, rfl, hD1, hmem⟩ := datAll_cons hx hD'
    have hv' : v = .ref a' := hv
    subst hv'
    refine AllObj.cons (fun o ho => AllObj.nil (fun NI => ?_))
    simp only [List.cons_append, List.nil_append] at NI
    rw [fr_as hname] at Fm
    obtain ⟨hc, hk0, hk5⟩ := hok (c, k) (.head _)
    have hT : IsTup h a' #[.int (c : Int) t1, .int k u1] := News.isTup NI (List.mem_cons_of_mem _ hmem)
    have hA : (txt acc).length ≤ 3000 := by rw [txt_len]; simp at hacc; omega
    have hS : (txt (sentL c k)).length ≤ 3 := by rw [txt_len]; exact sentL_len c k
    (try k_fold)
    k_steps
    all_goals (first
      | (refine ⟨_, _, _, n', rfl, by assumption, cb_drop (by assumption) (fun p hp => List.Mem.tail _ hp), (fun p hp q hq => by rw [List.mem_singleton.mp hq]; exact Nat.ne_of_lt (lI p hp)), rfl, vs1, ps1, [], _, rfl, hD1, fun p hp => hok p (.tail _ hp), told_dot hk0 hk5 ‹_› ‹_› ‹_› htold, by simp at hacc ⊢; omega, by with_unfolding_all rfl⟩; done)
      | (refine ⟨_, _, _, n', rfl, by assumption, cb_drop (by assumption) (fun p hp => List.Mem.tail _ hp), (fun p hp q hq => by rw [List.mem_singleton.mp hq]; exact Nat.ne_of_lt (lI p hp)), rfl, vs1, ps1, acc ++ sentL c k, _, rfl, hD1, fun p hp => hok p (.tail _ hp), told_on hk0 hk5 ‹_› ‹_› ‹_› htold, by (have := sentL_len c k); simp at hacc ⊢; omega, by rw [← txt_cat]; with_unfolding_all rfl⟩; done)
      | (refine' cb_retS (Q := Q) hret ?_ ?_ ?_))
    all_goals (first
      | assumption
      | exact cb_drop (by assumption) (fun p hp => List.Mem.tail _ (List.Mem.tail _ hp))
      | exact ret_mark hk0 hk5 (Or.inl ‹_›) ‹_› ‹_› htold
      | exact ret_mark hk0 hk5 (Or.inr ‹_›) ‹_› ‹_› htold
      | exact ret_none hk0 hk5 (Or.inl ‹_›) (Or.inr ‹_›) htold
      | exact ret_none hk0 hk5 (Or.inr ‹_›) (Or.inr ‹_›) htold
      | exact ret_none hk0 hk5 (Or.inl ‹_›) (Or.inl ‹_›) htold
      | exact ret_none hk0 hk5 (Or.inr ‹_›) (Or.inl ‹_›) htold)
  · rintro m' n' h tk9 ⟨rfl, vs', ps', acc, t, hx, hD', hok, htold, hacc, hname⟩ Fm Nm
    have e0 := datAll_nil hx hD'
    subst e0
    have e1 : acc = told [] ps := htold
    rw [fr_as hname, e1] at Fm
    (try k_fold)
    k_steps
    all_goals (refine' cb_retS (Q := Q) hret ?_ ?_ ?_)
    all_goals (first | assumption | rfl)
end Mine


namespace Mine
def forBody : Stmt → List Stmt
  | .For _ _ b _ _ => b
  | _ => []
def lawBody : List Stmt := match PySem.Challenge.pw_ij0070_01.main.body.getLast? with | some (.FunctionDef _ _ b _ _ _ _ _ _ _) => b | _ => []
def lawScope : Scope := match PySem.Challenge.pw_ij0070_01.main.body.getLast? with | some (.FunctionDef _ _ _ _ _ _ sc _ _ _) => sc | _ => default
def outBody : List Stmt := match lawBody.drop 3 with | s :: _ => forBody s | [] => []
def inBody : List Stmt := match outBody.drop 2 with | s :: _ => forBody s | [] => []
section
variable {w : World} {loose : List Str} {mean : ExcName → Option Value} {mg mb : Str → Option Value} {dp un : Nat} {gd : Option (List Code)} {cn : Str} {cs : Scope} {a : Addr} {ccd : Value} {cl : List (Str × Addr)} {outer : List Env} {A₀ : Around} {base h₀ : Heap} {L : Addr} {m : Str → Option Value} {news : List (Addr × Obj)} {s : Shared} {Q E : Value → Shared → Prop} {ps : List Pr} {l : Addr} {vs : List Value} {n : Nat}
theorem told_use (hps : ∀ p ∈ ps, p.Ok) (hlen : ps.length ≤ 1000) (B : Below A₀ base outer h₀) (F : Fr h₀ L s.heap m) (X : (hd.heap_39 w.params).In h₀) (N : News h₀ L s.heap news) (T : Top hd.view_39 loose mean mg mb h₀) (hk : cs.kind = .function) (hd : dp + 4 < recursionLimit) (hu : un + 80 < cLine)
    (hl : (l, listOf vs.toArray n) ∈ news) (hD : DatAll news vs (ps.map pd))
    (ret : ∀ (t : Tok) (h' : Heap) (tk' : Nat), Fr h₀ L h' m → News h₀ L h' news → Q (.str (txt (told [] ps)) t) { s with heap := h', toks := tk' }) :
    wpAny (model PySem.Challenge.rw_ij0070_01.row.prog w) (ktrTop dp un gd cn cs L a ccd cl outer) (call (.ref 91) [.ref l]) Q E s := told_gv w ps hps hlen l vs n _ _ _ _ _ _ _ _ _ _ _ _ _ _ _ _ _ _ _ _ _ _ B F X N T hk hd hu hl hD ret
end
theorem law_in (nm : List Nat) (k : Int) (hnm : ∀ c ∈ nm, c < 1114112) (h0 : 0 ≤ k) (h5 : k < 5) : strip (txt (nm.map fun c => sentL c k).flatten) = txt (told [] (nm.map fun c => ((c, k) : Pr))) := by
  have h := strip_told (nm.map fun c => ((c, k) : Pr)) (fun p hp => by
    obtain ⟨c, hc, rfl⟩ := List.mem_map.mp hp
    exact ⟨hnm c hc, h0, h5⟩)
  rw [List.map_map] at h
  exact h
theorem pair_end {h₀ : Heap} {L I C D T : Addr} {m : Str → Option Value} {s₁ : Shared} {oI oC oD : Obj} {nw : List (Addr × Obj)} {c : Nat} {k : Int} {t u : Tok} {n : Nat} {h' : Heap} {tk : Nat} (F : Fr h₀ L h' m)
    (N : News h₀ L h' ((T, ({ cls := .type "tuple", data := .seq #[.int (c : Int) t, .int k u] n } : Obj)) :: (I, oI) :: (C, oC) :: (D, oD) :: nw)) (lT : I < T ∧ C < T ∧ D < T ∧ AllLt T nw) (off : LCg.Off3 I C D nw) :
    LCg.CompEnd h₀ L m s₁ I oI C oC D oD (fun _ => True) (fun y news' => (∀ p ∈ nw, p ∈ news') ∧ DatIn news' y (pd (c, k))) (.ref T) { s₁ with heap := h', toks := tk } := by
  refine LCg.CompEnd.intro F N ((T, ({ cls := .type "tuple", data := .seq #[.int (c : Int) t, .int k u] n } : Obj)) :: nw) (fun p hp => ?_) ⟨⟨Nat.ne_of_gt lT.1, Nat.ne_of_gt lT.2.1, Nat.ne_of_gt lT.2.2.1⟩, off⟩ trivial ⟨fun p hp => List.mem_cons_of_mem _ hp, ?_⟩
  · simp only [List.mem_cons] at hp ⊢
    rcases hp with hp | hp | hp | hp | hp
    · exact Or.inr (Or.inl hp)
    · exact Or.inr (Or.inr (Or.inl hp))
    · exact Or.inr (Or.inr (Or.inr (Or.inl hp)))
    · exact Or.inl hp
    · exact Or.inr (Or.inr (Or.inr (Or.inr hp)))
  · exact DatIn.tuple (vs := [.int (c : Int) t, .int k u]) (n := n) (List.Mem.head _) (.cons (.int _ _) (.cons (.int _ _) .nil))
end Mine


namespace Mine
theorem strip_rows_gv (w : World) (ps : List Pr) (t : Tok) (hok : ∀ p ∈ ps, p.Ok) (hlen : ps.length ≤ 1000) : Gv 2 w 21 [.str (txt (ps.map fun p => sentL p.1 p.2).flatten) t] (fun t => .str (txt (told [] ps)) t) := by
  rw [← strip_told ps hok]
  refine strip_gv w _ t ?_
  rw [txt_len]
  have := flat_len (fun p : Pr => sentL p.1 p.2) ps fun p _ => sentL_len p.1 p.2
  omega
theorem datAll_take : ∀ {news : List (Addr × Obj)} {vs : List Value} {ds : List Dat} (k : Nat), DatAll news vs ds → DatAll news (vs.take k) (ds.take k)
  | _, _, _, 0, _ => by simp; exact .nil
  | _, [], _, k + 1, h => by cases h; simp; exact .nil
  | _, _ :: _, _, k + 1, h => by
    cases h with
    | cons a r => exact .cons a (datAll_take k r)
section
variable {w : World} {loose : List Str} {mean : ExcName → Option Value} {mg mb : Str → Option Value} {dp un : Nat} {gd : Option (List Code)} {cn : Str} {cs : Scope} {a : Addr} {ccd : Value} {cl : List (Str × Addr)} {outer : List Env} {A₀ : Around} {base h₀ : Heap} {L : Addr} {m : Str → Option Value} {news news₀ : List (Addr × Obj)} {s : Shared} {Q E : Value → Shared → Prop} {ps : List Pr} {l : Addr} {vs : List Value} {n : Nat}
theorem told_use2 (hps : ∀ p ∈ ps, p.Ok) (hlen : ps.length ≤ 1000) (B : Below A₀ base outer h₀) (F : Fr h₀ L s.heap m) (X : (hd.heap_39 w.params).In h₀) (N : News h₀ L s.heap news) (T : Top hd.view_39 loose mean mg mb h₀) (hk : cs.kind = .function) (hd : dp + 4 < recursionLimit) (hu : un + 80 < cLine)
    (hl : (l, listOf vs.toArray n) ∈ news) (hD : DatAll news₀ vs (ps.map pd)) (hsub : ∀ p ∈ news₀, p ∈ news)
    (ret : ∀ (t : Tok) (h' : Heap) (tk' : Nat), Fr h₀ L h' m → News h₀ L h' news → Q (.str (txt (told [] ps)) t) { s with heap := h', toks := tk' }) :
    wpAny (model PySem.Challenge.rw_ij0070_01.row.prog w) (ktrTop dp un gd cn cs L a ccd cl outer) (call (.ref 91) [.ref l]) Q E s := told_use hps hlen B F X N T hk hd hu hl (DatAll.mono hsub hD) ret
end
end Mine


namespace Mine
local macro_rules | `(tactic| walk_at "call ref") => `(tactic| (k_here; k_dflt (first | refine' gv_use (sent_gv _ _ _ _ _ (by assumption)) ?k1 ?k2 ?k3 ?k4 ?k5 ?kK ?kd ?ku ?_ | refine' gv_use (strip_gv _ _ _ (by assumption)) ?k1 ?k2 ?k3 ?k4 ?k5 ?kK ?kd ?ku ?_); (case k1 => k_dflt k_asm); (case k2 => k_dflt k_asm); (case k3 => k_dflt k_asm); (case k4 => k_dflt k_asm); (case k5 => k_dflt k_asm); (case kK => k_dflt (first | exact rfl | assumption)); (case kd => k_dflt ktr_room); (case ku => k_dflt ktr_units); (intro t9 h9 tk9 F9 N9; (try dsimp only); (try k_fold))))
local macro_rules | `(tactic| walk_at "eval ListComp") => `(tactic| (k_here; k_dflt (refine ListComp_S (by k_asm) (by with_unfolding_all rfl) (by decide) (by rfl) (by decide) (by rfl) ?_)))
local macro_rules | `(tactic| walk_at "call builtin:str.join") => `(tactic| (k_here; k_dflt (refine' join_texts _ _ ?N ?l ?y ?b ?n ?_); (case y => k_dflt assumption); (case b => (intro c9 _; k_dflt (exact sentL_len _ _))); (case N => k_dflt k_asm); (case l => k_dflt k_mem); (case n => k_dflt omega); intro _ _))
local macro_rules | `(tactic| walk_at "eval Name") => `(tactic| (k_here; (with_reducible show wpAny _ _ (eval (Expr.Name _ _) (compEnvC _ _ _ _)) _ _ _); k_dflt (refine' lcf_cell ?N ?c ?m ?d ?_ ?a ?b; (case a => rfl); (case b => rfl); (case N => k_asm); (case c => rfl); (case m => (repeat' (first | with_reducible assumption | refine List.mem_cons_of_mem _ ?_))); (case d => k_asm); k_whole)))
local macro_rules | `(tactic| walk_at "call ref") => `(tactic| (k_here; k_dflt (refine' told_use ?p1 ?p2 ?k1 ?k2 ?k3 ?k4 ?k5 ?kK ?kd ?ku ?hl ?hD ?_); (case k1 => k_dflt k_asm); (case k2 => k_dflt k_asm); (case k3 => k_dflt k_asm); (case k4 => k_dflt k_asm); (case k5 => k_dflt k_asm); (case kK => k_dflt (first | exact rfl | assumption)); (case kd => k_dflt ktr_room); (case ku => k_dflt ktr_units); (case hl => k_dflt k_mem); (case hD => k_dflt assumption); (case p1 => k_dflt assumption); (case p2 => k_dflt assumption); (intro t9 h9 tk9 F9 N9; (try dsimp only); (try k_fold))))
local macro_rules | `(tactic| walk_at "SrcS") => `(tactic| (fail "mine"))
set_option maxRecDepth 100000 in
set_option maxHeartbeats 4000000 in
theorem in_turn (w : World) (loose : List Str) (mean : ExcName → Option Value) (mg mb : Str → Option Value) (h₀ : Heap) (L fa : Addr) (cd : Value) (B : Below callerA h₀ [] h₀) (X : (hd.heap_39 w.params).In h₀) (T : Top hd.view_39 loose mean mg mb h₀)
    (nm : List Nat) (hnm : ∀ c ∈ nm, c < 1114112) (hlen : nm.length ≤ 40) (k : Int) (hk0 : 0 ≤ k) (hk5 : k < 5) (newsX : List (Addr × Obj)) (hX : ∀ p ∈ newsX, p.1 ≠ L + 1) (o : Obj) (tk0 : Tok) (ho : o.data = .cell (some (.int k tk0)))
    (m : Str → Option Value) (tn : Tok) (hname : m (Str.ofString "name") = some (.str (txt nm) tn)) (s : Shared) (F : Fr h₀ L s.heap m) (N : News h₀ L s.heap ((L + 1, o) :: newsX)) (Q : Flow → Shared → Prop) (E : Value → Shared → Prop)
    (post : ∀ h tk m', (∀ y, y ≠ Str.ofString "again" → m' y = m y) → Fr h₀ L h m' → News h₀ L h ((L + 1, o) :: newsX) → Q .next { s with heap := h, toks := tk }) :
    wpAny (model PySem.Challenge.rw_ij0070_01.row.prog w) (callerA.deeper (envOfC (Str.ofString "law") lawScope L fa cd)) (execs inBody (envOfC (Str.ofString "law") lawScope L fa cd)) Q E s := by
  conv in (occs := *) lawScope => all_goals whnf
  conv in inBody => whnf
  revert X
  w_top off
  k_fill
  intro X
  have hF := F
  rw [fr_as hname] at F
  have hJ : (txt (nm.map fun c => sentL c k).flatten).length ≤ 4096 := by
    rw [txt_len]
    have := flat_len (fun c => sentL c k) nm fun c _ => sentL_len c k
    omega
  clear hF
  (try k_fold)
  k_steps
  have hz : (txt nm).cps.size ≤ sizeLine := by
    show (txt nm).length ≤ sizeLine
    rw [txt_len, sizeLine_eq]; omega
  refine SrcS.mk' (by rfl) (by assumption) (by assumption) hz ?_
  intro g1
  refine texts_rest nm k ?_ ?_
  · intro c t I oI C oC D m₂ ys h tk E' hc hC hx F' N' off ne
    have hc' : c < 1114112 := hnm c hc
    (try k_fold)
    k_steps
    exact LCg.CompEnd.intro (by assumption) (by assumption) _ (fun p hp => hp) off trivial ⟨rfl, _, rfl⟩
  intro ys hys
  unfold LCg.FinE
  intro D h tk F1 N1 off1
  (try dsimp only)
  k_steps
  refine SrcS.mk' (by rfl) (by assumption) (by assumption) hz ?_
  intro g2
  refine pairs_rest nm k ?_ ?_
  · intro c t I oI C oC D2 m₂ ys2 h2 tk2 nw E' hc hsub hC hx F' N' off ne
    have hcell : (L + 1, o) ∈ nw := hsub _ (List.Mem.tail _ (List.Mem.head _))
    (try k_fold)
    k_steps
    rename _ ∧ _ ∧ _ ∧ AllLt _ _ => lT
    exact pair_end (by assumption) (by assumption) lT off
  · intro ys2 nw hsub hD2
    have hok : ∀ p ∈ nm.map (fun c => ((c, k) : Pr)), Pr.Ok p := fun p hp => by
      obtain ⟨c, hc, rfl⟩ := List.mem_map.mp hp
      exact ⟨hnm c hc, hk0, hk5⟩
    have hln : (nm.map (fun c => ((c, k) : Pr))).length ≤ 1000 := by rw [List.length_map]; omega
    unfold LCg.FinE
    intro D2 h2 tk2 F2 N2 off2
    have hD3 := DatAll.mono (news' := (D2, LCg.lst ys2) :: nw) (fun p hp => List.mem_cons_of_mem _ hp) hD2
    (try dsimp only)
    k_steps
    all_goals (first
      | (rename (_ != _) = true => ha; rw [law_in nm k hnm hk0 hk5] at ha; simp at ha; done)
      | (refine post _ _ _ (fun y hy => ?_) (by assumption) (cb_drop (by assumption) (fun p hp => List.mem_cons_of_mem _ (hsub p (List.mem_cons_of_mem _ hp))));
         show (if y = _ then _ else if y = _ then _ else m y) = m y; rw [if_neg hy]; split; rename y = _ => hy9; rw [hy9, hname]; rfl))
end Mine


namespace Mine
def moreFor : Stmt := match outBody.drop 2 with | s :: _ => s | [] => .Pass default
set_option maxRecDepth 100000 in
set_option maxHeartbeats 2000000 in
theorem more_for (w : World) (loose : List Str) (mean : ExcName → Option Value) (mg mb : Str → Option Value) (h₀ : Heap) (L fa : Addr) (cd : Value) (B : Below callerA h₀ [] h₀) (X : (hd.heap_39 w.params).In h₀) (T : Top hd.view_39 loose mean mg mb h₀)
    (nm : List Nat) (hnm : ∀ c ∈ nm, c < 1114112) (hlen : nm.length ≤ 40) (newsX : List (Addr × Obj)) (hX : ∀ p ∈ newsX, p.1 ≠ L + 1) (o : Obj) (v0 : Option Value) (ho : o.data = .cell v0)
    (m : Str → Option Value) (tn : Tok) (hname : m (Str.ofString "name") = some (.str (txt nm) tn)) (s : Shared) (F : Fr h₀ L s.heap m) (N : News h₀ L s.heap ((L + 1, o) :: newsX)) (Q : Flow → Shared → Prop) (E : Value → Shared → Prop)
    (hE : PassesOwn (model PySem.Challenge.rw_ij0070_01.row.prog w) (callerA.deeper (envOfC (Str.ofString "law") lawScope L fa cd)) (envOfC (Str.ofString "law") lawScope L fa cd) E)
    (post : ∀ h tk m' o' v', (∀ y, y ≠ Str.ofString "again" → m' y = m y) → Fr h₀ L h m' → News h₀ L h ((L + 1, o') :: newsX) → o'.data = .cell v' → Q .next { s with heap := h, toks := tk }) :
    wpAny (model PySem.Challenge.rw_ij0070_01.row.prog w) (callerA.deeper (envOfC (Str.ofString "law") lawScope L fa cd)) (exec moreFor (envOfC (Str.ofString "law") lawScope L fa cd)) Q E s := by
  conv in (occs := *) lawScope => all_goals whnf
  conv in moreFor => whnf
  revert X
  w_top off
  k_fill
  intro X
  refine For_turns F ?_ (by intro _; rfl) hE
  k_steps
  rename IsRange _ _ _ _ _ _ _ _ => hR
  refine iter_rangeTurns (n := 5) (by rfl) hR (by decide) (by decide) (by assumption) (by assumption) ?_
  intro I lI
  refine items_ind (keep := []) (fun x m' n' => ∃ o' v', n' = (L + 1, o') :: newsX ∧ o'.data = .cell v' ∧ (∀ y, y ≠ Str.ofString "again" → m' y = m y) ∧ ∀ z ∈ x, ∃ i : Nat, i < 5 ∧ z = rItem i) (fun _ _ _ _ => trivial) ?_ ?_ _ _ _ ⟨o, v0, rfl, ho, fun _ _ => rfl, fun z hz => ?_⟩
  · rintro x r m' n' ⟨o', v', rfl, hv', hm', hxs⟩ v h tk hv Fm
    obtain ⟨i, hi, rfl⟩ := hxs x (.head _)
    obtain ⟨t, rfl⟩ : ∃ t, v = .int ((0 : Int) + (i : Int) * 1) t := hv
    refine AllObj.cons (fun oI hoI => AllObj.nil (fun NI => ?_))
    have hI : L + 1 < I := lI (L + 1, o) (List.Mem.head _)
    have N2 : News h₀ L h ((L + 1, o') :: (I, oI) :: newsX) := cb_drop NI (fun p hp => by
      simp only [List.cons_append, List.nil_append, List.mem_cons] at hp ⊢
      rcases hp with hp | hp | hp
      · exact Or.inr (Or.inl hp)
      · exact Or.inl hp
      · exact Or.inr (Or.inr hp))
    have hX2 : ∀ p ∈ (I, oI) :: newsX, p.1 ≠ L + 1 := fun p hp => by
      rcases List.mem_cons.mp hp with rfl | hp
      · exact Nat.ne_of_gt hI
      · exact hX p hp
    refine wpAny_assign_Name (store_cell Fm N2 hX2 (by rfl) hv' (fun h2 o2 F2 N3 ho2 => ?_) (by rfl) (by rfl))
    refine in_turn w loose mean mg mb h₀ L fa cd B X T nm hnm hlen ((0 : Int) + (i : Int) * 1) (by omega) (by omega) ((I, oI) :: newsX) hX2 o2 _ ho2 m' tn ((hm' _ (by decide)).trans hname) _ F2 N3 _ _ ?_
    intro h3 tk3 m3 hm3 F3 N4
    refine ⟨h3, tk3, m3, (L + 1, o2) :: newsX, rfl, F3, cb_drop N4 (fun p hp => ?_), (fun p hp q hq => ?_), o2, _, rfl, ho2, (fun y hy => (hm3 y hy).trans (hm' y hy)), fun z hz => hxs z (.tail _ hz)⟩
    · simp only [List.cons_append, List.nil_append, List.mem_cons] at hp ⊢
      rcases hp with hp | hp | hp
      · exact Or.inr (Or.inl hp)
      · exact Or.inl hp
      · exact Or.inr (Or.inr hp)
    · rw [List.mem_singleton.mp hq]
      rcases List.mem_cons.mp hp with rfl | hp
      · exact Nat.ne_of_lt hI
      · exact Nat.ne_of_lt (lI p (List.mem_cons_of_mem _ hp))
  · rintro m' n' h tk ⟨o', v', rfl, hv', hm', _⟩ Fm Nm
    exact post h tk m' o' v' hm' Fm Nm hv'
  · obtain ⟨i, hi, rfl⟩ := List.mem_map.mp hz
    exact ⟨i, List.mem_range.mp hi, rfl⟩
end Mine


namespace Mine
def ob0 : Stmt := match outBody with | s :: _ => s | [] => .Pass default
def ob1 : Stmt := match outBody.drop 1 with | s :: _ => s | [] => .Pass default
theorem outBody_eq : outBody = [ob0, ob1, moreFor] := rfl
local macro_rules | `(tactic| walk_at "subscriptTail Name Slice ref ref") => `(tactic| (k_here; (with_reducible show wpAny _ _ (subscriptTail _ (PySem.Expr.Slice _ _ none _) (Value.ref _) (Value.ref _)) _ _ _); k_dflt (refine' slice_take ?F ?N ?l ?e ?z ?_ ?s ?t); (case F => k_dflt k_asm); (case N => k_dflt k_asm); (case l => (repeat' (first | with_reducible assumption | refine List.mem_cons_of_mem _ ?_))); (case e => k_dflt assumption); (case z => k_dflt assumption); (case s => k_dflt (with_unfolding_all rfl)); (case t => k_dflt (intro _; with_unfolding_all rfl)); intro D' h' F' N' l1))
local macro_rules | `(tactic| walk_at "call builtin:str.join") => `(tactic| (k_here; k_dflt (refine' join_texts _ _ ?N ?l ?y ?b ?n ?_); (case N => k_dflt k_asm); (case l => k_dflt k_mem); (case y => k_dflt assumption); (case b => (intro c9 _; k_dflt (exact sentL_len _ _))); (case n => k_dflt assumption); (intro _ _)))
local macro_rules | `(tactic| walk_at "call ref") => `(tactic| (k_here; k_dflt (refine' gv_use (strip_rows_gv _ _ _ ?a1 ?a2) ?k1 ?k2 ?k3 ?k4 ?k5 ?kK ?kd ?ku ?_); (case a1 => k_dflt assumption); (case a2 => k_dflt assumption); (case k1 => k_dflt k_asm); (case k2 => k_dflt k_asm); (case k3 => k_dflt k_asm); (case k4 => k_dflt k_asm); (case k5 => k_dflt k_asm); (case kK => k_dflt (first | exact rfl | assumption)); (case kd => k_dflt ktr_room); (case ku => k_dflt ktr_units); (intro t9 h9 tk9 F9 N9; (try dsimp only); (try k_fold))))
local macro_rules | `(tactic| walk_at "call ref") => `(tactic| (k_here; k_dflt (refine' told_use2 ?p1 ?p2 ?k1 ?k2 ?k3 ?k4 ?k5 ?kK ?kd ?ku ?hl ?hD ?hs ?_); (case k1 => k_dflt k_asm); (case k2 => k_dflt k_asm); (case k3 => k_dflt k_asm); (case k4 => k_dflt k_asm); (case k5 => k_dflt k_asm); (case kK => k_dflt (first | exact rfl | assumption)); (case kd => k_dflt ktr_room); (case ku => k_dflt ktr_units); (case hl => k_dflt k_mem); (case hD => k_dflt assumption); (case p1 => k_dflt assumption); (case p2 => k_dflt assumption); (case hs => (intro p9 hp9; (repeat' (first | with_reducible assumption | refine List.mem_cons_of_mem _ ?_)))); (intro t9 h9 tk9 F9 N9; (try dsimp only); (try k_fold))))
set_option maxRecDepth 100000 in
set_option maxHeartbeats 2000000 in
theorem out_turn (w : World) (loose : List Str) (mean : ExcName → Option Value) (mg mb : Str → Option Value) (h₀ : Heap) (L fa : Addr) (cd : Value) (B : Below callerA h₀ [] h₀) (X : (hd.heap_39 w.params).In h₀) (T : Top hd.view_39 loose mean mg mb h₀)
    (rows : List Pr) (hrows : ∀ p ∈ rows, p.Ok) (hrl : rows.length ≤ 13) (R S : Addr) (rv sv : List Value) (n1 n2 : Nat) (newsX : List (Addr × Obj)) (hX : ∀ p ∈ newsX, p.1 ≠ L + 1) (hR : (R, listOf rv.toArray n1) ∈ newsX) (hS : (S, listOf sv.toArray n2) ∈ newsX)
    (hD : DatAll newsX rv (rows.map pd)) (hsv : StrsAre sv (rows.map fun p => txt (sentL p.1 p.2))) (o : Obj) (v0 : Option Value) (ho : o.data = .cell v0) (e : Int) (he : 0 ≤ e) (te : Tok)
    (m : Str → Option Value) (hend : m (Str.ofString "end") = some (.int e te)) (hrow : m (Str.ofString "row") = some (.ref R)) (hsent : m (Str.ofString "sent") = some (.ref S)) (s : Shared) (F : Fr h₀ L s.heap m) (N : News h₀ L s.heap ((L + 1, o) :: newsX)) (Q : Flow → Shared → Prop) (E : Value → Shared → Prop)
    (hE : PassesOwn (model PySem.Challenge.rw_ij0070_01.row.prog w) (callerA.deeper (envOfC (Str.ofString "law") lawScope L fa cd)) (envOfC (Str.ofString "law") lawScope L fa cd) E)
    (post : ∀ h tk m' o' v', (∀ y, y ≠ Str.ofString "again" → y ≠ Str.ofString "name" → m' y = m y) → Fr h₀ L h m' → News h₀ L h ((L + 1, o') :: newsX) → o'.data = .cell v' → Q .next { s with heap := h, toks := tk }) :
    wpAny (model PySem.Challenge.rw_ij0070_01.row.prog w) (callerA.deeper (envOfC (Str.ofString "law") lawScope L fa cd)) (execs outBody (envOfC (Str.ofString "law") lawScope L fa cd)) Q E s := by
  rw [outBody_eq]
  conv in (occs := *) lawScope => all_goals whnf
  conv in ob0 => whnf
  conv in ob1 => whnf
  revert X
  w_top off
  k_fill
  intro X
  have hF := F
  rw [fr_as hend, fr_as hrow, fr_as hsent] at hF
  clear F
  have hsvl : sv.length ≤ sizeLine := by rw [StrsAre.length hsv, List.length_map, sizeLine_eq]; omega
  have hrvl : rv.length ≤ sizeLine := by
    have := hD.length
    rw [List.length_map] at this
    rw [this, sizeLine_eq]; omega
  have hsvT : StrsAre (sv.take e.toNat) ((rows.take e.toNat).map fun p => txt (sentL p.1 p.2)) := by rw [List.map_take]; exact StrsAre.take' hsv _
  have hDT : DatAll newsX (rv.take e.toNat) ((rows.take e.toNat).map pd) := by rw [List.map_take]; exact datAll_take _ hD
  have hokT : ∀ p ∈ rows.take e.toNat, Pr.Ok p := fun p hp => hrows p (List.mem_of_mem_take hp)
  have hl0 : (rows.take e.toNat).length ≤ 13 := Nat.le_trans (List.length_take_le' _ _) hrl
  have hl1 : (rows.take e.toNat).length ≤ 1000 := by omega
  have hl4 : (rows.take e.toNat).length ≤ 4096 := by omega
  clear hsv hD
  (try k_fold)
  k_steps
  · rename (_ != _) = true => ha
    simp at ha
  · refine more_for w loose mean mg mb h₀ L fa cd B X T (told [] (rows.take e.toNat)) (told_lt _ _ hokT (fun _ h => nomatch h)) ?hl newsX hX o v0 ho _ ?tn ?hn _ (by assumption) (cb_drop (by assumption) (fun p hp => List.mem_cons_of_mem _ (List.mem_cons_of_mem _ hp))) _ _ hE ?hp
    case hl =>
      have := told_len (rows.take e.toNat) []
      simp only [List.length_nil] at this
      omega
    case hn => rfl
    intro h3 tk3 m3 o3 v3 hm3 F3 N3 ho3
    refine wpAny_execs_nil ?_
    refine post h3 tk3 m3 o3 v3 (fun y hy1 hy2 => (hm3 y hy1).trans ?_) F3 N3 ho3
    show (if y = _ then _ else (if y = _ then _ else (if y = _ then _ else (if y = _ then _ else m y)))) = m y
    rw [if_neg hy2]
    (repeat' split) <;> (first | rfl | (rename y = _ => hq; rw [hq]; first | exact hend.symm | exact hrow.symm | exact hsent.symm))
end Mine


namespace Mine
theorem end_turns (w : World) (loose : List Str) (mean : ExcName → Option Value) (mg mb : Str → Option Value) (h₀ : Heap) (L fa : Addr) (cd : Value) (B : Below callerA h₀ [] h₀) (X : (hd.heap_39 w.params).In h₀) (T : Top hd.view_39 loose mean mg mb h₀)
    (rows : List Pr) (hrows : ∀ p ∈ rows, p.Ok) (hrl : rows.length ≤ 13) (R S : Addr) (rv sv : List Value) (n1 n2 : Nat) (newsX : List (Addr × Obj)) (hX : ∀ p ∈ newsX, p.1 ≠ L + 1) (hR : (R, listOf rv.toArray n1) ∈ newsX) (hS : (S, listOf sv.toArray n2) ∈ newsX)
    (hD : DatAll newsX rv (rows.map pd)) (hsv : StrsAre sv (rows.map fun p => txt (sentL p.1 p.2))) (o : Obj) (v0 : Option Value) (ho : o.data = .cell v0)
    (Td : Addr) (to : Obj) (a b : Int) (ta tb : Tok) (n : Nat) (hTL : L + 1 < Td) (ha : 0 ≤ a) (hb : 0 ≤ b) (htc : to.cls = .type "tuple") (htd : to.data = .seq #[.int a ta, .int b tb] n)
    (m : Str → Option Value) (hrow : m (Str.ofString "row") = some (.ref R)) (hsent : m (Str.ofString "sent") = some (.ref S)) (s : Shared) (F : Fr h₀ L s.heap m) (pD : Addr × Obj) (N0 : News h₀ L s.heap ((Td, to) :: pD :: (L + 1, o) :: newsX)) (px : Pos) (Q : Flow → Shared → Prop) (E : Value → Shared → Prop)
    (hE : PassesOwn (model PySem.Challenge.rw_ij0070_01.row.prog w) (callerA.deeper (envOfC (Str.ofString "law") lawScope L fa cd)) (envOfC (Str.ofString "law") lawScope L fa cd) E)
    (post : ∀ h tk m' o', Fr h₀ L h m' → News h₀ L h ((L + 1, o') :: newsX) → Q .next { s with heap := h, toks := tk }) :
    wpAny (model PySem.Challenge.rw_ij0070_01.row.prog w) (callerA.deeper (envOfC (Str.ofString "law") lawScope L fa cd)) (pyIter (.ref Td)) (fun it s₂ => TurnsAt PySem.Challenge.rw_ij0070_01.row.prog w (callerA.deeper (envOfC (Str.ofString "law") lawScope L fa cd)) h₀ (envOfC (Str.ofString "law") lawScope L fa cd) (.Name (Str.ofString "end") px) outBody Q E it s₂) E s := by
  have N : News h₀ L s.heap ((Td, to) :: (L + 1, o) :: newsX) := cb_drop N0 (fun p hp => by
    rcases List.mem_cons.mp hp with hp | hp
    · exact List.mem_cons.mpr (Or.inl hp)
    · exact List.mem_cons_of_mem _ (List.mem_cons_of_mem _ hp))
  have perm : ∀ (o₁ o₂ : Addr × Obj) (l : List (Addr × Obj)), ∀ p ∈ o₁ :: o₂ :: l, p ∈ o₂ :: o₁ :: l := fun o₁ o₂ l p hp => by
    simp only [List.mem_cons] at hp ⊢
    rcases hp with hp | hp | hp
    · exact Or.inr (Or.inl hp)
    · exact Or.inl hp
    · exact Or.inr (Or.inr hp)
  refine iter_tupTurns (lo := to) (vs := [.int a ta, .int b tb]) (n := n) (by rfl) F (cb_drop N (perm _ _ _)) (List.mem_cons_of_mem _ (List.Mem.head _)) htc htd ?_
  intro I lI
  have hI : L + 1 < I := lI (L + 1, o) (List.Mem.head _)
  have hXY : ∀ p ∈ (Td, to) :: newsX, p.1 ≠ L + 1 := fun p hp => by
    rcases List.mem_cons.mp hp with rfl | hp
    · exact Nat.ne_of_gt hTL
    · exact hX p hp
  have hIY : ∀ p ∈ (Td, to) :: newsX, p.1 < I := fun p hp => by
    rcases List.mem_cons.mp hp with rfl | hp
    · exact lI (Td, to) (List.mem_cons_of_mem _ (List.Mem.head _))
    · exact lI p (List.mem_cons_of_mem _ (List.mem_cons_of_mem _ hp))
  refine items_ind (fun x m' n' => ∃ o' v', n' = (L + 1, o') :: (Td, to) :: newsX ∧ o'.data = .cell v' ∧ (∀ y, y ≠ Str.ofString "again" → y ≠ Str.ofString "name" → y ≠ Str.ofString "end" → m' y = m y) ∧ ∀ z ∈ x, ∃ (e : Int) (t : Tok), 0 ≤ e ∧ z = .val (.int e t)) ?_ ?_ ?_ _ _ _ ⟨o, v0, rfl, ho, fun _ _ _ _ => rfl, fun z hz => ?_⟩
  · rintro x m' n' ⟨o', v', rfl, _⟩
    exact ⟨List.mem_cons_of_mem _ (List.Mem.head _), trivial⟩
  · rintro x r m' n' ⟨o', v', rfl, hv', hm', hxs⟩ v h tk hv Fm
    obtain ⟨e, t, he, rfl⟩ := hxs x (.head _)
    obtain rfl : v = .int e t := hv
    refine AllObj.cons (fun oI hoI => AllObj.nil (fun NI => ?_))
    have N2 : News h₀ L h ((L + 1, o') :: (I, oI) :: (Td, to) :: newsX) := cb_drop NI (perm _ _ _)
    have hX2 : ∀ p ∈ (I, oI) :: (Td, to) :: newsX, p.1 ≠ L + 1 := fun p hp => by
      rcases List.mem_cons.mp hp with rfl | hp
      · exact Nat.ne_of_gt hI
      · exact hXY p hp
    refine wpAny_assign_Name (storeX_L Fm N2 (fun h2 F2 N3 => ?_) (by rfl) (by rfl))
    refine out_turn w loose mean mg mb h₀ L fa cd B X T rows hrows hrl R S rv sv n1 n2 ((I, oI) :: (Td, to) :: newsX) hX2 (List.mem_cons_of_mem _ (List.mem_cons_of_mem _ hR)) (List.mem_cons_of_mem _ (List.mem_cons_of_mem _ hS))
      (DatAll.mono (fun p hp => List.mem_cons_of_mem _ (List.mem_cons_of_mem _ hp)) hD) hsv o' v' hv' e he t _ (if_pos rfl) ((if_neg (by decide)).trans ((hm' _ (by decide) (by decide) (by decide)).trans hrow)) ((if_neg (by decide)).trans ((hm' _ (by decide) (by decide) (by decide)).trans hsent)) _ F2 N3 _ _ hE ?_
    intro h3 tk3 m3 o3 v3 hm3 F3 N4 ho3
    refine ⟨h3, tk3, m3, (L + 1, o3) :: (Td, to) :: newsX, rfl, F3, cb_drop N4 (perm _ _ _), (fun p hp q hq => ?_), o3, v3, rfl, ho3, (fun y hy1 hy2 hy3 => (hm3 y hy1 hy2).trans ((if_neg hy3).trans (hm' y hy1 hy2 hy3))), fun z hz => hxs z (.tail _ hz)⟩
    rw [List.mem_singleton.mp hq]
    rcases List.mem_cons.mp hp with rfl | hp
    · exact Nat.ne_of_lt hI
    · exact Nat.ne_of_lt (hIY p hp)
  · rintro m' n' h tk ⟨o', v', rfl, hv', hm', _⟩ Fm Nm
    exact post h tk m' o' Fm (cb_drop Nm fun p hp => (perm _ _ _ p (List.mem_cons_of_mem _ hp)))
  · simp only [List.map_cons, List.map_nil, List.mem_cons, List.not_mem_nil, or_false] at hz
    rcases hz with rfl | rfl
    · exact ⟨a, ta, ha, rfl⟩
    · exact ⟨b, tb, hb, rfl⟩
local macro_rules | `(tactic| walk_at "call builtin:len") => `(tactic| (k_here; (with_reducible show wpAny _ _ (call (Value.builtin "len") [Value.ref _]) _ _ _); k_dflt (refine' kd_len ?N ?m ?d ?f ?_); (case N => k_dflt k_asm); (case m => (repeat' (first | with_reducible assumption | refine List.mem_cons_of_mem _ ?_))); (case d => k_dflt assumption); (case f => k_dflt assumption)))
set_option maxRecDepth 100000 in
set_option maxHeartbeats 2000000 in
theorem law_tail (w : World) (loose : List Str) (mean : ExcName → Option Value) (mg mb : Str → Option Value) (h₀ : Heap) (L fa : Addr) (cd : Value) (B : Below callerA h₀ [] h₀) (X : (hd.heap_39 w.params).In h₀) (T : Top hd.view_39 loose mean mg mb h₀)
    (sc : Addr) (vs : List Value) (ns : List Int) (hsc : h₀.IsList sc vs.toArray) (hns : IntsAre vs ns) (h63 : ns.length ≤ 63)
    (rows : List Pr) (hrows : ∀ p ∈ rows, p.Ok) (hrl : rows.length ≤ 13) (R S : Addr) (rv sv : List Value) (n1 n2 : Nat) (newsX : List (Addr × Obj)) (hX : ∀ p ∈ newsX, p.1 ≠ L + 1) (hR : (R, listOf rv.toArray n1) ∈ newsX) (hS : (S, listOf sv.toArray n2) ∈ newsX)
    (hD : DatAll newsX rv (rows.map pd)) (hsv : StrsAre sv (rows.map fun p => txt (sentL p.1 p.2))) (o : Obj) (v0 : Option Value) (ho : o.data = .cell v0)
    (m : Str → Option Value) (hscript : m (Str.ofString "script") = some (.ref sc)) (hrow : m (Str.ofString "row") = some (.ref R)) (hsent : m (Str.ofString "sent") = some (.ref S)) (s : Shared) (F : Fr h₀ L s.heap m) (N : News h₀ L s.heap ((L + 1, o) :: newsX)) (Q : Flow → Shared → Prop) (E : Value → Shared → Prop)
    (hE : PassesOwn (model PySem.Challenge.rw_ij0070_01.row.prog w) (callerA.deeper (envOfC (Str.ofString "law") lawScope L fa cd)) (envOfC (Str.ofString "law") lawScope L fa cd) E)
    (post : ∀ h tk m' o', Fr h₀ L h m' → News h₀ L h ((L + 1, o') :: newsX) → Q (.ret (.bool true)) { s with heap := h, toks := tk }) :
    wpAny (model PySem.Challenge.rw_ij0070_01.row.prog w) (callerA.deeper (envOfC (Str.ofString "law") lawScope L fa cd)) (execs (lawBody.drop 3) (envOfC (Str.ofString "law") lawScope L fa cd)) Q E s := by
  conv in (occs := *) lawScope => all_goals whnf
  conv in (List.drop 3 lawBody) => whnf
  revert X
  w_top off
  k_fill
  intro X
  have hF := F
  rw [fr_as hscript, fr_as hrow, fr_as hsent] at hF
  clear F
  have hf : ((rows.map pd).length : Int) < 2 ^ 63 := by rw [List.length_map]; omega
  refine wpAny_execs_cons ?_
  refine For_turns hF ?_ (by intro _; rfl) hE
  k_steps
  rename Fr _ _ _ _ => F1
  rename News _ _ _ _ => N1
  rename _ ∧ _ ∧ AllLt _ _ => lT
  refine end_turns w loose mean mg mb h₀ L fa cd B X T rows hrows hrl R S rv sv n1 n2 newsX hX hR hS hD hsv o v0 ho _ _ ?za ?zb ?zta ?ztb ?zn lT.2.1 ?ha ?hb ?hc ?hd _ ?hr ?hs _ F1 _ N1 _ _ _ hE ?hp
  case hc => rfl
  case hd => rfl
  case ha => exact Int.natCast_nonneg _
  case hb => exact Int.natCast_nonneg _
  case hr => rfl
  case hs => rfl
  intro h3 tk3 m3 o3 F3 N3
  (try dsimp only)
  k_steps
  all_goals exact post _ _ _ _ F3 N3
end Mine


namespace Mine
theorem datAll_pd_mono {news news' : List (Addr × Obj)} (hs : ∀ p ∈ news, (∀ v, p.2.data ≠ .cell v) → p ∈ news') : ∀ {vs : List Value} {ps : List Pr}, DatAll news vs (ps.map pd) → DatAll news' vs (ps.map pd)
  | vs, [], h => by cases h; exact .nil
  | vs, (c, k) :: ps, h => by
    cases h with
    | cons h1 h2 =>
      refine .cons ?_ (datAll_pd_mono hs h2)
      cases h1 with
      | tuple hm hall =>
        refine .tuple (hs _ hm (fun v q => by cases q)) ?_
        cases hall with
        | cons a1 r1 =>
          cases a1
          cases r1 with
          | cons a2 r2 =>
            cases a2
            cases r2
            exact .cons (.int _ _) (.cons (.int _ _) .nil)
theorem law_tail2 (w : World) (loose : List Str) (mean : ExcName → Option Value) (mg mb : Str → Option Value) (h₀ : Heap) (L fa : Addr) (cd : Value) (B : Below callerA h₀ [] h₀) (X : (hd.heap_39 w.params).In h₀) (T : Top hd.view_39 loose mean mg mb h₀)
    (sc : Addr) (vs : List Value) (ns : List Int) (hsc : h₀.IsList sc vs.toArray) (hns : IntsAre vs ns) (h63 : ns.length ≤ 63)
    (rows : List Pr) (hrows : ∀ p ∈ rows, p.Ok) (hrl : rows.length ≤ 13) (R S : Addr) (rv sv : List Value) (n1 : Nat) (e3 e4 e5 : Addr × Obj) (tl : List (Addr × Obj)) (o : Obj)
    (hRL : R ≠ L + 1) (hSL : S ≠ L + 1) (h3 : e3.1 ≠ L + 1) (h4 : e4.1 ≠ L + 1) (h5 : e5.1 ≠ L + 1) (htl : ∀ p ∈ tl, p.1 ≠ L + 1)
    (hD : DatAll (e3 :: e4 :: e5 :: (L + 1, o) :: tl) rv (rows.map pd)) (hsv : StrsAre sv (rows.map fun p => txt (sentL p.1 p.2))) (v0 : Option Value) (ho : o.data = .cell v0)
    (m : Str → Option Value) (hscript : m (Str.ofString "script") = some (.ref sc)) (hrow : m (Str.ofString "row") = some (.ref R)) (hsent : m (Str.ofString "sent") = some (.ref S)) (s : Shared) (F : Fr h₀ L s.heap m)
    (N : News h₀ L s.heap ((S, LCg.lst sv) :: (R, listOf rv.toArray n1) :: e3 :: e4 :: e5 :: (L + 1, o) :: tl)) (Q : Flow → Shared → Prop) (E : Value → Shared → Prop)
    (hE : PassesOwn (model PySem.Challenge.rw_ij0070_01.row.prog w) (callerA.deeper (envOfC (Str.ofString "law") lawScope L fa cd)) (envOfC (Str.ofString "law") lawScope L fa cd) E)
    (post : ∀ h tk m' news', Fr h₀ L h m' → News h₀ L h news' → Q (.ret (.bool true)) { s with heap := h, toks := tk }) :
    wpAny (model PySem.Challenge.rw_ij0070_01.row.prog w) (callerA.deeper (envOfC (Str.ofString "law") lawScope L fa cd)) (execs (lawBody.drop 3) (envOfC (Str.ofString "law") lawScope L fa cd)) Q E s := by
  refine law_tail w loose mean mg mb h₀ L fa cd B X T sc vs ns hsc hns h63 rows hrows hrl R S rv sv n1 sv.length ((S, LCg.lst sv) :: (R, listOf rv.toArray n1) :: e3 :: e4 :: e5 :: tl) ?_ (List.mem_cons_of_mem _ (List.Mem.head _)) (List.Mem.head _) (datAll_pd_mono ?_ hD) hsv o v0 ho m hscript hrow hsent s F (cb_drop N ?_) Q E hE (fun h tk m' o' F' N' => post h tk m' _ F' N')
  · intro p hp
    simp only [List.mem_cons] at hp
    rcases hp with rfl | rfl | rfl | rfl | rfl | hp
    · exact hSL
    · exact hRL
    · exact h3
    · exact h4
    · exact h5
    · exact htl p hp
  · intro p hp hc
    simp only [List.mem_cons] at hp ⊢
    rcases hp with hp | hp | hp | hp | hp
    · exact Or.inr (Or.inr (Or.inl hp))
    · exact Or.inr (Or.inr (Or.inr (Or.inl hp)))
    · exact Or.inr (Or.inr (Or.inr (Or.inr (Or.inl hp))))
    · exact absurd (by rw [hp]; exact ho) (hc v0)
    · exact Or.inr (Or.inr (Or.inr (Or.inr (Or.inr hp))))
  · intro p hp
    simp only [List.mem_cons] at hp ⊢
    rcases hp with hp | hp | hp | hp | hp | hp | hp
    · exact Or.inr (Or.inr (Or.inr (Or.inr (Or.inr (Or.inl hp)))))
    · exact Or.inl hp
    · exact Or.inr (Or.inl hp)
    · exact Or.inr (Or.inr (Or.inl hp))
    · exact Or.inr (Or.inr (Or.inr (Or.inl hp)))
    · exact Or.inr (Or.inr (Or.inr (Or.inr (Or.inl hp))))
    · exact Or.inr (Or.inr (Or.inr (Or.inr (Or.inr (Or.inr hp)))))
end Mine


section
open Mine
local macro_rules | `(tactic| walk_at "exec For Name BinOp cons nil") => `(tactic| (kst_has; k_here; (rename Fr _ _ _ _ => lF'); (with_unfolding_all refine' For_invVF lF' ?k1 ?k2 ?_; (case k1 => exact rfl); (case k2 => exact rfl); k_whole)))
local macro_rules | `(tactic| walk_at "call ref") => `(tactic| (k_here; k_dflt (first | refine' gv_use (code_gv _ _ _ (num_lo _) (num_hi _)) ?k1 ?k2 ?k3 ?k4 ?k5 ?kK ?kd ?ku ?_ | refine' gv_use (sent_gv _ _ _ _ _ (by assumption)) ?k1 ?k2 ?k3 ?k4 ?k5 ?kK ?kd ?ku ?_); (case k1 => k_dflt k_asm); (case k2 => k_dflt k_asm); (case k3 => k_dflt k_asm); (case k4 => k_dflt k_asm); (case k5 => k_dflt k_asm); (case kK => k_dflt (first | exact rfl | assumption)); (case kd => k_dflt ktr_room); (case ku => k_dflt ktr_units); (intro t9 h9 tk9 F9 N9; (try dsimp only); (try k_fold))))
local macro_rules | `(tactic| walk_at "exec Assign cons ListComp") => `(tactic| (k_here; k_dflt (refine LCp.Assign_ListComp_P (F₀ := by k_asm) (by rfl) (by with_unfolding_all rfl) (by with_unfolding_all rfl) (by decide) (by rfl) (by decide) (by rfl) (by rfl) (by decide) (by rfl) (by rfl) ?_)))
local macro_rules | `(tactic| walk_at "SrcLP") => `(tactic| (fail "mine"))
local macro_rules | `(tactic| walk_at "call builtin:chr") => `(tactic| (k_here; k_dflt (refine chrN (by omega) ?_); intro _))
set_option maxRecDepth 100000 in
set_option maxHeartbeats 4000000 in
theorem PySem.Challenge.cw_ij0070_01_holds : PySem.Challenge.rw_ij0070_01.Holds := by
  (k_with "pyIter ref" => (k_of "cell" => k_dat (fun pre out => out = pre.map (fun x => pd (rowP x))) "row*"))
  refine Mine.hd ?_
  k_go0
  all_goals try k_fold
  k_steps
  rename Fr _ _ _ _ => F1
  rename News _ _ _ _ => N1
  rename DatAll _ _ _ => D1
  refine LCp.SrcLP.ledger (by rfl) F1 N1 (by k_mem) ?_ ?_
  · have e9 := D1.length
    have e8 := List.length_take_le 6 (by assumption : List Int)
    rw [List.size_toArray, e9, sizeLine_eq]
    simp only [List.length_map, List.length_append, List.length_cons, List.length_nil, List.length_take]
    omega
  intro g1
  refine sent_rest _ (by rw [List.map_map]; exact DatAll.mono (fun p hp => List.Mem.tail _ hp) D1) ?_ ?_
  · intro c k t u I oI C oC D m₂ ys h tk E' hp hC hx hx2 F N off ne
    obtain ⟨x0, _, hx0⟩ := List.mem_map.mp hp
    have hok := rowP_ok x0
    rw [hx0] at hok
    have hc : c < 1114112 := hok.1
    have hk0 : 0 ≤ k := hok.2.1
    have hk5 : k < 5 := hok.2.2
    (try k_fold)
    k_steps
    all_goals (exact LCg.CompEnd.intro (by assumption) (by assumption) _ (fun p hp => hp) off (Or.inr ⟨_, List.Mem.head _, rfl, _, rfl⟩) ⟨rfl, _, rfl⟩)
  · intro ys hys
    unfold LCg.FinA
    intro D h tk F N off1
    (try dsimp only)
    refine law_tail2 _ ?zlo ?zme ?zmg ?zmb _ _ _ _ ?B ?X ?T ?zsc ?zvs ?zns ?hsc ?hns ?h63 _ ?hrows ?hrl _ _ _ _ _ _ _ _ _ _ ?hRL ?hSL ?h3 ?h4 ?h5 ?htl ?hD hys ?zv0 ?ho _ ?hscript ?hrow ?hsent _ F N _ _ ?hE ?hp
    case B => k_dflt assumption
    case X => k_dflt assumption
    case T => k_dflt assumption
    case hsc => k_dflt assumption
    case hns => k_dflt assumption
    case h63 => omega
    case hrows =>
      intro p hp
      obtain ⟨x0, _, rfl⟩ := List.mem_map.mp hp
      exact rowP_ok x0
    case hrl =>
      simp only [List.length_map, List.length_append, List.length_cons, List.length_nil, List.length_take]
      omega
    case hRL => (refine neN ?_; (try dsimp only); omega)
    case h3 => (refine neN ?_; (try dsimp only); omega)
    case h4 => (refine neN ?_; (try dsimp only); omega)
    case h5 => (refine neN ?_; (try dsimp only); omega)
    case hSL =>
      simp only [LCg.Off1] at off1
      exact fun q => absurd q.symm off1.2.2.2.2.1
    case htl =>
      rename OwnOff _ _ => hO
      exact fun p hp => hO p hp _ (by k_memK)
    case hD =>
      rw [List.map_map]
      exact D1
    case ho => k_dflt assumption
    case hscript => rfl
    case hrow => rfl
    case hsent => rfl
    case hE => passes_own
    intro h9 tk9 m9 news9 F9 N9
    (try dsimp only)
    k_steps
end
