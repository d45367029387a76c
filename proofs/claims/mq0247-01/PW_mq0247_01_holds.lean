import PyProof.Rows.All
import Wide.All
import OpenK.AllK
import Wide.FinOn
import PySem.Challenge.RW_mq0247_01
set_option Elab.async false
namespace Mine
open PySem PySem.StrLaws PySem.Builtin PySem.Builtin.Str

/-! ## Words, joined by blanks -/
abbrev W := List Nat
def dots : W := [46, 46, 46]

def jn : List W → List Nat
  | [] => []
  | [w] => w
  | w :: v :: r => w ++ 32 :: jn (v :: r)
def enc : List W → List Nat
  | [] => []
  | w :: r => w ++ 32 :: enc r

theorem jn_enc : ∀ r : List W, r ≠ [] → jn r ++ [32] = enc r
  | [], h => absurd rfl h
  | [w], _ => rfl
  | w :: v :: r, _ => by
    have := jn_enc (v :: r) (by simp)
    simp only [jn, enc, List.append_assoc, List.cons_append] at this ⊢
    rw [this]
theorem enc_append (a b : List W) : enc (a ++ b) = enc a ++ enc b := by
  induction a with
  | nil => rfl
  | cons w r ih => simp [enc, ih, List.append_assoc]

theorem blank_cut : ∀ (v : W) (X g rest : List Nat), 32 ∉ v → v ++ 32 :: X = g ++ 32 :: rest →
    (g = v ∧ X = rest) ∨ ∃ g', g = v ++ 32 :: g' ∧ X = g' ++ 32 :: rest
  | [], X, g, rest, _, e => by
    cases g with
    | nil => simp at e; exact .inl ⟨rfl, e⟩
    | cons c g' => simp at e; obtain ⟨rfl, e⟩ := e; exact .inr ⟨g', rfl, e⟩
  | c :: v, X, g, rest, hv, e => by
    simp only [List.mem_cons, not_or] at hv
    cases g with
    | nil => simp at e; exact absurd e.1.symm hv.1
    | cons d g' =>
      simp only [List.cons_append, List.cons.injEq] at e
      obtain ⟨rfl, e⟩ := e
      rcases blank_cut v X g' rest hv.2 e with ⟨rfl, h⟩ | ⟨g'', rfl, h⟩
      · exact .inl ⟨rfl, h⟩
      · exact .inr ⟨g'', rfl, h⟩
theorem blank_cut1 {v w : W} {a b : List Nat} (hv : 32 ∉ v) (hw : 32 ∉ w) (e : v ++ 32 :: a = w ++ 32 :: b) : v = w ∧ a = b := by
  rcases blank_cut v a w b hv e with ⟨h1, h2⟩ | ⟨g', h1, _⟩
  · exact ⟨h1.symm, h2⟩
  · exact absurd (by rw [h1]; simp) hw

theorem enc_prefix : ∀ (L row : List W) (rest : List Nat), (∀ w ∈ L, 32 ∉ w) → (∀ w ∈ row, 32 ∉ w) → enc row = enc L ++ rest →
    ∃ row', row = L ++ row' ∧ rest = enc row'
  | [], row, rest, _, _, e => ⟨row, rfl, e.symm⟩
  | w :: L, row, rest, hL, hr, e => by
    cases row with
    | nil => simp [enc] at e
    | cons v row1 =>
      have e' : v ++ 32 :: enc row1 = w ++ 32 :: (enc L ++ rest) := by simpa [enc, List.append_assoc] using e
      obtain ⟨rfl, e2⟩ := blank_cut1 (hr v (by simp)) (hL w (by simp)) e'
      obtain ⟨row', rfl, h⟩ := enc_prefix L row1 rest (fun x hx => hL x (by simp [hx])) (fun x hx => hr x (by simp [hx])) e2
      exact ⟨row', rfl, h⟩
theorem enc_gap : ∀ (row : List W) (g rest : List Nat), (∀ w ∈ row, 32 ∉ w) → enc row = g ++ 32 :: rest →
    ∃ s row', s ≠ [] ∧ row = s ++ row' ∧ g ++ [32] = enc s ∧ rest = enc row'
  | [], g, rest, _, e => by simp [enc] at e
  | v :: row1, g, rest, hr, e => by
    have e' : v ++ 32 :: enc row1 = g ++ 32 :: rest := e
    rcases blank_cut v _ g rest (hr v (by simp)) e' with ⟨rfl, h⟩ | ⟨g', rfl, h⟩
    · exact ⟨[g], row1, by simp, rfl, rfl, h.symm⟩
    · obtain ⟨s, row', _, rfl, h2, h3⟩ := enc_gap row1 g' rest (fun x hx => hr x (by simp [hx])) h
      exact ⟨v :: s, row', by simp, rfl, by simp [enc, ← h2], h3⟩

theorem enc_inj {a b : List W} (ha : ∀ w ∈ a, 32 ∉ w) (hb : ∀ w ∈ b, 32 ∉ w) (e : enc a = enc b) : a = b := by
  obtain ⟨r, h1, h2⟩ := enc_prefix b a [] hb ha (by simpa using e)
  cases r with
  | nil => simpa using h1
  | cons w r => simp [enc] at h2
theorem jn_inj {a b : List W} (ha : ∀ w ∈ a, 32 ∉ w ∧ w ≠ []) (hb : ∀ w ∈ b, 32 ∉ w ∧ w ≠ []) (e : jn a = jn b) : a = b := by
  have ne : ∀ r : List W, (∀ w ∈ r, 32 ∉ w ∧ w ≠ []) → r ≠ [] → jn r ≠ [] := by
    intro r hr h
    match r, h with
    | [w], _ => exact (hr w (by simp)).2
    | w :: v :: r, _ => simp [jn]
  by_cases h1 : a = []
  · by_cases h2 : b = []
    · rw [h1, h2]
    · subst h1; exact absurd e.symm (ne b hb h2)
  · by_cases h2 : b = []
    · subst h2; exact absurd e (ne a ha h1)
    · exact enc_inj (fun w hw => (ha w hw).1) (fun w hw => (hb w hw).1) (by rw [← jn_enc a h1, ← jn_enc b h2, e])

/-! ## Patterns -/
/-- the runs of words behind the first: each after a gap of one or more words -/
def FitS : List (List W) → List W → Prop
  | [], r => r = []
  | L :: Ls, r => ∃ s r', s ≠ [] ∧ r = s ++ (L ++ r') ∧ FitS Ls r'
/-- texts, each after any gap -/
def Gap : List (List Nat) → List Nat → Prop
  | [], t => t = []
  | p :: ps, t => ∃ g t', t = g ++ (p ++ t') ∧ Gap ps t'

theorem gap_enc : ∀ (Ls : List (List W)) (row : List W), (∀ L ∈ Ls, ∀ w ∈ L, 32 ∉ w) → (∀ w ∈ row, 32 ∉ w) →
    (Gap (Ls.map fun L => 32 :: enc L) (enc row) ↔ FitS Ls row)
  | [], row, _, _ => by
    constructor
    · intro h
      cases row with
      | nil => rfl
      | cons w r => simp [Gap, enc] at h
    · intro h; have h' : row = [] := h; subst h'; rfl
  | L :: Ls, row, hL, hr => by
    constructor
    · rintro ⟨g, t', e, h⟩
      obtain ⟨s, row1, hs, rfl, _, h2⟩ := enc_gap row g (enc L ++ t') hr (by simpa using e)
      obtain ⟨row2, rfl, rfl⟩ := enc_prefix L row1 t' (hL L (by simp)) (fun x hx => hr x (by simp [hx])) h2.symm
      exact ⟨s, row2, hs, rfl, (gap_enc Ls row2 (fun K hK => hL K (by simp [hK])) (fun x hx => hr x (by simp [hx]))).mp h⟩
    · rintro ⟨s, row2, hs, rfl, h⟩
      refine ⟨jn s, enc row2, ?_, (gap_enc Ls row2 (fun K hK => hL K (by simp [hK])) (fun x hx => hr x (by simp [hx]))).mpr h⟩
      rw [enc_append, enc_append, ← jn_enc s hs]
      simp

/-- the pieces but the last are looked for in the window, the last stands at the end -/
def MidT : List (List Nat) → List Nat → Prop
  | [], _ => True
  | p :: ps, t => ∃ g t', t = g ++ (p ++ t') ∧ MidT ps t'
theorem gap_last (pk : List Nat) : ∀ (mids : List (List Nat)) (t : List Nat), Gap (mids ++ [pk]) t ↔ ∃ t0, t = t0 ++ pk ∧ MidT mids t0
  | [], t => by
    constructor
    · rintro ⟨g, t', e, h⟩
      have h' : t' = [] := h
      subst h'
      exact ⟨g, by simpa using e, trivial⟩
    · rintro ⟨t0, e, _⟩
      exact ⟨t0, [], by simpa using e, rfl⟩
  | p :: mids, t => by
    constructor
    · rintro ⟨g, t', rfl, h⟩
      obtain ⟨t0, rfl, h2⟩ := (gap_last pk mids t').mp h
      exact ⟨g ++ (p ++ t0), by simp, g, t0, rfl, h2⟩
    · rintro ⟨t0, rfl, g, t', rfl, h⟩
      exact ⟨g, t' ++ pk, by simp, (gap_last pk mids _).mpr ⟨t', rfl, h⟩⟩
theorem midT_mono : ∀ (ps : List (List Nat)) (g t : List Nat), MidT ps t → MidT ps (g ++ t)
  | [], _, _, _ => trivial
  | p :: ps, g, t, ⟨g', t', e, h⟩ => ⟨g ++ g', t', by rw [e]; simp, h⟩
theorem midT_nil_snoc : ∀ (ps : List (List Nat)) (t : List Nat), MidT (ps ++ [[]]) t ↔ MidT ps t
  | [], t => ⟨fun _ => trivial, fun _ => ⟨[], t, by simp, trivial⟩⟩
  | p :: ps, t => by
    constructor
    · rintro ⟨g, t', e, h⟩; exact ⟨g, t', e, (midT_nil_snoc ps t').mp h⟩
    · rintro ⟨g, t', e, h⟩; exact ⟨g, t', e, (midT_nil_snoc ps t').mpr h⟩
theorem midT_nil_cons (ps : List (List Nat)) (t : List Nat) : MidT ([] :: ps) t ↔ MidT ps t := by
  constructor
  · rintro ⟨g, t', e, h⟩; rw [e]; exact midT_mono ps g _ (by simpa using h)
  · intro h; exact ⟨[], t, by simp, h⟩

/-! ## The search, as the program makes it -/
def dotsS : Str := ⟨dots.toArray⟩
def find4 (x y : Str) (lo hi : Nat) : Option Nat := (occurrences x y lo hi 1).head?
def ellLoop (got : Str) (ep : Nat) : List Str → Nat → Bool
  | [], _ => true
  | w :: ws, sp => match find4 got w sp ep with
    | none => false
    | some q => ellLoop got ep ws (q + w.length)
def ell3 (got : Str) (ws : List Str) (sp ep : Nat) : Bool := if ep < sp then false else ellLoop got ep ws sp
def ell2 (got : Str) (ws : List Str) (sp : Nat) : Bool :=
  if (ws.getLastD Str.empty).length = 0 then ell3 got ws sp got.length
  else if Txt.endswith got (ws.getLastD Str.empty) = true then ell3 got ws.dropLast sp (got.length - (ws.getLastD Str.empty).length) else false
def ell1 (got : Str) (ws : List Str) : Bool :=
  if (ws.headD Str.empty).length = 0 then ell2 got ws 0
  else if Txt.startswith got (ws.headD Str.empty) = true then ell2 got ws.tail (ws.headD Str.empty).length else false
def ellM (want got : Str) : Bool := if Txt.contains want dotsS = false then decide (want = got) else ell1 got (Txt.split want dotsS)

def cl (x : Str) : List Nat := x.cps.toList
theorem cl_len (x : Str) : (cl x).length = x.length := by simp [cl, Str.length]
theorem cl_inj {x y : Str} (h : cl x = cl y) : x = y := by
  apply Str.ext'; exact Array.toList_inj.mp h

theorem at_iff {x y : Str} {hi i : Nat} (hhi : hi ≤ x.length) : At x y hi i ↔ i + y.length ≤ hi ∧ ∃ t', (cl x).drop i = cl y ++ t' := by
  clear hhi
  unfold At
  rw [subAt_eq]
  refine and_congr_right fun h => ?_
  simp only [beq_iff_eq]
  constructor
  · intro e
    refine ⟨(x.cps.toList.drop i).drop y.length, ?_⟩
    show x.cps.toList.drop i = y.cps.toList ++ _
    rw [← e, List.take_append_drop]
  · rintro ⟨t', e⟩
    have e' : x.cps.toList.drop i = y.cps.toList ++ t' := e
    rw [e', List.take_append_of_le_length (by simp [Str.length])]
    exact List.take_of_length_le (by simp [Str.length])

/-- the first place in the window, or none -/
theorem find4_spec (x y : Str) (lo hi : Nat) : (find4 x y lo hi = none ∧ ∀ i, lo ≤ i → ¬ At x y hi i) ∨ ∃ q, find4 x y lo hi = some q ∧ lo ≤ q ∧ At x y hi q ∧ ∀ k, lo ≤ k → k < q → ¬ At x y hi k := by
  have hhead : ∀ arr : Array Nat, arr.toList.head? = arr[0]? := fun arr => by rw [List.head?_eq_getElem?, Array.getElem?_toList]
  unfold find4
  rw [occ_eq, hhead]
  have mem : ∀ i, lo ≤ i → At x y hi i → i ∈ List.range' lo (hi + 1 - lo) := fun i h1 h2 => by
    rw [List.mem_range'_1]; have := h2.1; omega
  rcases occ_first x y hi 1 (Nat.le_refl _) (List.range' lo (hi + 1 - lo)) lo (fun i h => (List.mem_range'_1.mp h).1) with ⟨h0, hn⟩ | ⟨pre, q, post, e, h0, hq, hn⟩
  · left
    refine ⟨by rw [h0]; rfl, fun i h1 h2 => hn i (mem i h1 h2) h2⟩
  · right
    obtain ⟨h1, h2⟩ := range'_split_from e
    exact ⟨q, h0, h1, hq, fun k hk hlt => hn k (h2 k hk hlt)⟩

/-- the window -/
def win (x : Str) (sp ep : Nat) : List Nat := ((cl x).take ep).drop sp

theorem win_drop {x : Str} {sp q ep : Nat} (h : sp ≤ q) : win x q ep = (win x sp ep).drop (q - sp) := by
  unfold win; rw [List.drop_drop]; congr 1; omega
theorem at_win {x y : Str} {sp ep q : Nat} (hep : ep ≤ x.length) (hq : sp ≤ q) : At x y ep q ↔ sp ≤ ep ∧ q ≤ ep ∧ ∃ t', win x sp ep = (win x sp ep).take (q - sp) ++ (cl y ++ t') := by
  rw [at_iff hep]
  have hl : (cl x).length = x.length := cl_len x
  have hy : (cl y).length = y.length := cl_len y
  constructor
  · rintro ⟨h1, t', e⟩
    refine ⟨by omega, by omega, t'.take (ep - q - y.length), ?_⟩
    have : win x q ep = cl y ++ t'.take (ep - q - y.length) := by
      unfold win
      rw [List.drop_take, e, List.take_append, hy]
      rw [List.take_of_length_le (by omega)]
    rw [win_drop hq] at this
    rw [← this, List.take_append_drop]
  · rintro ⟨h0, h1, t', e⟩
    have hd : win x q ep = cl y ++ t' := by
      rw [win_drop hq]
      have hlen : (win x sp ep).length = ep - sp := by unfold win; simp; omega
      have := congrArg (List.drop (q - sp)) e
      rw [this]
      exact List.drop_left' (by rw [List.length_take, hlen]; omega)
    unfold win at hd
    rw [List.drop_take] at hd
    have hlen := congrArg List.length hd
    simp at hlen
    rw [hy] at hlen
    refine ⟨by omega, t' ++ ((cl x).drop q).drop (ep - q), ?_⟩
    rw [← List.append_assoc, ← hd, List.take_append_drop]

theorem ellLoop_iff (x : Str) (ep : Nat) (hep : ep ≤ x.length) : ∀ (ws : List Str) (sp : Nat), sp ≤ ep → (ellLoop x ep ws sp = true ↔ MidT (ws.map cl) (win x sp ep))
  | [], _, _ => by simp [ellLoop, MidT]
  | w :: ws, sp, hsp => by
    have hlen : (win x sp ep).length = ep - sp := by have := cl_len x; unfold win; simp; omega
    have hw := cl_len w
    rcases find4_spec x w sp ep with ⟨h0, hn⟩ | ⟨q, h0, hq, hA, hn⟩
    · simp only [ellLoop, h0, Bool.false_eq_true, false_iff, List.map_cons]
      rintro ⟨g, t', e, _⟩
      have hl := congrArg List.length e
      simp [hw, hlen] at hl
      refine hn (sp + g.length) (by omega) ((at_win hep (by omega)).mpr ⟨hsp, by omega, t', ?_⟩)
      have : sp + g.length - sp = g.length := by omega
      rw [this, e]; simp
    · have hqe : q + w.length ≤ ep := hA.1
      simp only [ellLoop, h0, List.map_cons]
      rw [ellLoop_iff x ep hep ws (q + w.length) hqe]
      obtain ⟨_, _, t', e⟩ := (at_win hep hq).mp hA
      have hl := congrArg List.length e
      simp [hw, hlen] at hl
      have hwin : win x (q + w.length) ep = t' := by
        rw [win_drop (sp := sp) (by omega), e, ← List.append_assoc, List.drop_append_of_le_length (by simp [hw, hlen]; omega)]
        rw [List.drop_of_length_le (by simp [hw, hlen]; omega)]; simp
      rw [hwin]
      constructor
      · intro h; exact ⟨_, t', e, h⟩
      · rintro ⟨g, t2, e2, h⟩
        have hl2 := congrArg List.length e2
        simp [hw, hlen] at hl2
        have hqg : q ≤ sp + g.length := by
          refine Nat.le_of_not_lt fun hlt => hn (sp + g.length) (by omega) hlt ((at_win hep (by omega)).mpr ⟨hsp, by omega, t2, ?_⟩)
          have : sp + g.length - sp = g.length := by omega
          rw [this, e2]; simp
        have ht2 : t2 = t'.drop (sp + g.length - q) := by
          have h1 : win x (sp + g.length + w.length) ep = t2 := by
            rw [win_drop (sp := sp) (by omega), e2, ← List.append_assoc, List.drop_append_of_le_length (by simp [hw]; omega)]
            rw [List.drop_of_length_le (by simp [hw]; omega)]; simp
          rw [← h1, ← hwin, win_drop (sp := q + w.length) (by omega)]
          congr 1; omega
        rw [← List.take_append_drop (sp + g.length - q) t', ← ht2]
        exact midT_mono _ _ _ h

theorem win_whole {x : Str} {a b : List Nat} {sp ep : Nat} {t0 : List Nat} (e : cl x = a ++ (t0 ++ b)) (h1 : a.length = sp) (h2 : x.length = ep + b.length) : win x sp ep = t0 := by
  have hl := congrArg List.length e
  rw [cl_len] at hl
  simp at hl
  unfold win
  rw [e, ← List.append_assoc, List.take_append_of_le_length (by simp; omega), List.take_of_length_le (by simp; omega), List.drop_append_of_le_length (by omega), List.drop_of_length_le (by omega)]
  simp

theorem startswith_iff (x y : Str) : Txt.startswith x y = true ↔ ∃ t, cl x = cl y ++ t := by
  have h := at_iff (x := x) (y := y) (hi := x.length) (i := 0) (Nat.le_refl _)
  have e : Txt.startswith x y = true ↔ At x y x.length 0 := by unfold Txt.startswith At; simp
  rw [e, h]
  constructor
  · rintro ⟨_, t, ht⟩; exact ⟨t, by simpa using ht⟩
  · rintro ⟨t, ht⟩
    have := congrArg List.length ht
    simp [cl_len] at this
    exact ⟨by omega, t, by simpa using ht⟩
theorem endswith_iff (x y : Str) : Txt.endswith x y = true ↔ ∃ t, cl x = t ++ cl y := by
  have h := at_iff (x := x) (y := y) (hi := x.length) (i := x.length - y.length) (Nat.le_refl _)
  have hy := cl_len y
  have hx := cl_len x
  have e : Txt.endswith x y = true ↔ y.length ≤ x.length ∧ subAt x y (x.length - y.length) = true := by unfold Txt.endswith; simp
  rw [e]
  have e2 : (y.length ≤ x.length ∧ subAt x y (x.length - y.length) = true) ↔ y.length ≤ x.length ∧ At x y x.length (x.length - y.length) := by
    unfold At; constructor
    · rintro ⟨a, b⟩; exact ⟨a, by omega, b⟩
    · rintro ⟨a, _, b⟩; exact ⟨a, b⟩
  rw [e2, h]
  constructor
  · rintro ⟨h0, _, t, ht⟩
    have hl := congrArg List.length ht
    simp [hx, hy] at hl
    have : t = [] := List.length_eq_zero_iff.mp (by omega)
    subst this
    refine ⟨(cl x).take (x.length - y.length), ?_⟩
    have := List.take_append_drop (x.length - y.length) (cl x)
    rw [ht] at this
    simpa using this.symm
  · rintro ⟨t, ht⟩
    have hl := congrArg List.length ht
    simp [hx, hy] at hl
    refine ⟨by omega, by omega, [], ?_⟩
    rw [ht, List.drop_append_of_le_length (by omega), List.drop_of_length_le (by omega)]; simp

end Mine

namespace Mine
open PySem PySem.StrLaws PySem.Builtin PySem.Builtin.Str

theorem ell2_iff {got b : Str} {mids : List Str} {sp : Nat} {a t : List Nat} (e : cl got = a ++ t) (ha : a.length = sp) :
    ell2 got (mids ++ [b]) sp = true ↔ ∃ t0, t = t0 ++ cl b ∧ MidT (mids.map cl) t0 := by
  have hg := cl_len got
  have hb := cl_len b
  have hl := congrArg List.length e
  simp [hg] at hl
  have hlast : (mids ++ [b]).getLastD Str.empty = b := by simp
  unfold ell2
  rw [hlast]
  split
  · rename_i h0
    have hbn : cl b = [] := List.length_eq_zero_iff.mp (by omega)
    unfold ell3
    rw [if_neg (by omega), ellLoop_iff got _ (Nat.le_refl _) _ _ (by omega), win_whole (b := []) (t0 := t) (by simpa using e) ha (by simp), List.map_append]
    simp only [List.map_cons, List.map_nil, hbn]
    rw [midT_nil_snoc]
    simp
  · rename_i h0
    split
    · rename_i hw
      obtain ⟨u, hu⟩ := (endswith_iff got b).mp hw
      have hul := congrArg List.length hu
      simp [hg, hb] at hul
      unfold ell3
      rw [List.dropLast_concat]
      split
      · rename_i hlt
        simp only [Bool.false_eq_true, false_iff]
        rintro ⟨t0, rfl, _⟩
        simp at hl
        omega
      · rename_i hge
        have htl : t = t.take (t.length - b.length) ++ cl b := by
          have h1 : a ++ t = u ++ cl b := e ▸ hu
          rcases List.append_eq_append_iff.mp h1 with ⟨c, h2, h3⟩ | ⟨c, h2, h3⟩
          · rw [h3, List.length_append, hb, Nat.add_sub_cancel, List.take_left]
          · have : c = [] := List.length_eq_zero_iff.mp (by have := congrArg List.length h2; simp at this; omega)
            subst this
            simp at h3
            rw [← h3, hb, Nat.sub_self]; simp
        have hw2 : win got sp (got.length - b.length) = t.take (t.length - b.length) := win_whole (b := cl b) (by rw [e, ← htl]) ha (by omega)
        rw [ellLoop_iff got _ (by omega) _ _ (by omega), hw2]
        constructor
        · intro h; exact ⟨_, htl, h⟩
        · rintro ⟨t0, h3, h4⟩
          have : t.take (t.length - b.length) = t0 := by
            conv => lhs; rw [h3]
            rw [List.length_append, hb, Nat.add_sub_cancel, List.take_left]
          rw [this]; exact h4
    · rename_i hw
      simp only [Bool.false_eq_true, false_iff]
      rintro ⟨t0, rfl, _⟩
      exact hw ((endswith_iff got b).mpr ⟨a ++ t0, by rw [e]; simp⟩)

theorem ell1_iff {got a b : Str} {mids : List Str} :
    ell1 got (a :: (mids ++ [b])) = true ↔ ∃ t, cl got = cl a ++ t ∧ Gap ((mids ++ [b]).map cl) t := by
  have ha := cl_len a
  show (if a.length = 0 then ell2 got (a :: (mids ++ [b])) 0 else if Txt.startswith got a = true then ell2 got (mids ++ [b]) a.length else false) = true ↔ _
  by_cases h0 : a.length = 0
  · rw [if_pos h0]
    have han : cl a = [] := List.length_eq_zero_iff.mp (by omega)
    have h := ell2_iff (got := got) (b := b) (mids := a :: mids) (sp := 0) (a := []) (t := cl got) (by simp) rfl
    rw [List.cons_append] at h
    rw [h, han]
    simp only [List.nil_append, List.map_append, List.map_cons, List.map_nil, gap_last, han, midT_nil_cons]
    constructor
    · intro h; exact ⟨_, rfl, h⟩
    · rintro ⟨t, rfl, h⟩; exact h
  · rw [if_neg h0]
    by_cases hs : Txt.startswith got a = true
    · rw [if_pos hs]
      obtain ⟨t, ht⟩ := (startswith_iff got a).mp hs
      rw [ell2_iff ht ha]
      simp only [List.map_append, List.map_cons, List.map_nil, gap_last]
      constructor
      · intro h; exact ⟨t, ht, h⟩
      · rintro ⟨t', h1, h2⟩
        rw [ht] at h1
        rw [List.append_cancel_left h1]; exact h2
    · rw [if_neg hs]
      simp only [Bool.false_eq_true, false_iff]
      rintro ⟨t, ht, _⟩
      exact hs ((startswith_iff got a).mpr ⟨t, ht⟩)

/-! ## The split -/
def NoD (p : List Nat) : Prop := ∀ k t, p.drop k ≠ dots ++ t
def EndOk (p : List Nat) : Prop := p = [] ∨ ∃ q c, p = q ++ [c] ∧ c ≠ 46

theorem noD_short {v r t : List Nat} (h : v ++ 32 :: r = dots ++ t) : ∃ t', v = dots ++ t' := by
  match v, h with
  | [], h => simp [dots] at h
  | [_], h => simp [dots] at h
  | [_, _], h => simp [dots] at h
  | a :: b :: c :: v, h => simp [dots] at h; obtain ⟨rfl, rfl, rfl, _⟩ := h; exact ⟨v, rfl⟩
theorem noD_cat {w r : List Nat} (hw : NoD w) (hr : NoD r) : NoD (w ++ 32 :: r) := by
  intro k t e
  by_cases hk : k ≤ w.length
  · rw [List.drop_append_of_le_length hk] at e
    obtain ⟨t', h⟩ := noD_short e
    exact hw k t' h
  · have : (w ++ 32 :: r).drop k = r.drop (k - (w.length + 1)) := by
      rw [show w ++ 32 :: r = (w ++ [32]) ++ r by simp, List.drop_append, List.drop_of_length_le (by simp; omega)]; simp
    rw [this] at e
    exact hr _ t e
theorem noD_nil : NoD [] := by intro k t e; simp [dots] at e
theorem noD_enc : ∀ L : List W, (∀ w ∈ L, NoD w) → NoD (enc L)
  | [], _ => noD_nil
  | w :: L, h => noD_cat (h w (by simp)) (noD_enc L fun x hx => h x (by simp [hx]))
theorem noD_sp (L : List W) (h : ∀ w ∈ L, NoD w) : NoD (32 :: enc L) := noD_cat (w := []) noD_nil (noD_enc L h)
theorem noD_dropLast {p : List Nat} (h : NoD p) : NoD p.dropLast := by
  intro k t e
  by_cases hp : p = []
  · subst hp; simp [dots] at e
  · have h1 := List.dropLast_concat_getLast hp
    have hk : k ≤ p.dropLast.length := by
      refine Nat.le_of_not_lt fun hlt => ?_
      rw [List.drop_of_length_le (by omega)] at e
      simp [dots] at e
    refine h k (t ++ [p.getLast hp]) ?_
    conv => lhs; rw [← h1]
    rw [List.drop_append_of_le_length hk, e]; simp
theorem endOk_enc : ∀ L : List W, EndOk (enc L)
  | [] => .inl rfl
  | w :: L => by
    right
    rcases endOk_enc L with h | ⟨q, c, h, hc⟩
    · exact ⟨w, 32, by simp [enc, h], by decide⟩
    · exact ⟨w ++ 32 :: q, c, by simp [enc, h], hc⟩
theorem endOk_sp (L : List W) : EndOk (32 :: enc L) := by
  rcases endOk_enc L with h | ⟨q, c, h, hc⟩
  · exact .inr ⟨[], 32, by simp [h], by decide⟩
  · exact .inr ⟨32 :: q, c, by simp [h], hc⟩

theorem first_dots {p r t : List Nat} {k : Nat} (hp : NoD p) (he : EndOk p) (e : (p ++ (dots ++ r)).drop k = dots ++ t) : p.length ≤ k := by
  refine Nat.le_of_not_lt fun hk => ?_
  rw [List.drop_append_of_le_length (by omega)] at e
  have hlast : ∃ q c, p.drop k = q ++ [c] ∧ c ≠ 46 := by
    rcases he with rfl | ⟨q, c, rfl, hc⟩
    · simp at hk
    · refine ⟨q.drop k, c, ?_, hc⟩
      rw [List.drop_append_of_le_length (by simp at hk; omega)]
  obtain ⟨q, c, hq, hc⟩ := hlast
  rw [hq] at e
  match q, e, hq with
  | [], e, _ => simp [dots] at e; exact hc e.1
  | [_], e, _ => simp [dots] at e; exact hc e.2.1
  | [_, _], e, _ => simp [dots] at e; exact hc e.2.2.1
  | x :: y :: z :: q, e, hq =>
    simp [dots] at e
    obtain ⟨rfl, rfl, rfl, _⟩ := e
    exact hp k (q ++ [c]) (by rw [hq]; rfl)

def txt : List (List Nat) → List Nat
  | [] => []
  | p :: ps => dots ++ (p ++ txt ps)
def mk (l : List Nat) : Str := ⟨l.toArray⟩
theorem cl_mk (l : List Nat) : cl (mk l) = l := by simp [cl, mk]
theorem mk_cl (x : Str) : mk (cl x) = x := by simp [cl, mk]
theorem mk_inj {a b : List Nat} (h : mk a = mk b) : a = b := by rw [← cl_mk a, h, cl_mk]
theorem len_mk (l : List Nat) : (mk l).length = l.length := by rw [← cl_len, cl_mk]
theorem dotsS_len : dotsS.length = 3 := rfl
theorem cl_dotsS : cl dotsS = dots := rfl
theorem sub_eq (x : Str) (i j : Nat) : strSub x i j = mk (((cl x).drop i).take (j - i)) := by
  apply cl_inj; rw [cl_mk]; exact strSub_toList x i j

def AllP : List (List Nat) → Prop
  | [] => True
  | [p] => NoD p
  | p :: q :: r => (NoD p ∧ EndOk p) ∧ AllP (q :: r)

theorem chain_parts (x : Str) : ∀ (ps : List (List Nat)) (p : List Nat) (a : Nat) (cuts : List Nat) (f : Nat), AllP (p :: ps) → a ≤ x.length → (cl x).drop a = p ++ txt ps →
    ChainG x dotsS x.length a cuts f → (∀ k, f ≤ k → ¬ At x dotsS x.length k) → partsFrom x 3 a cuts = (p :: ps).map mk
  | [], p, a, cuts, f, hp, ha, e, hc, hn => by
    have hx := cl_len x
    have e' : (cl x).drop a = p := by simpa [txt] using e
    cases cuts with
    | nil =>
      show [strSub x a x.length] = [mk p]
      rw [sub_eq, e', List.take_of_length_le (by rw [← e', List.length_drop, hx]; omega)]
    | cons c r =>
      obtain ⟨h1, h2, _⟩ := hc
      obtain ⟨_, t', ht⟩ := (at_iff (Nat.le_refl _)).mp h2
      have hp' : NoD p := hp
      refine absurd ?_ (hp' (c - a) t')
      rw [← e', List.drop_drop, show a + (c - a) = c by omega, ht, cl_dotsS]
  | p' :: ps, p, a, cuts, f, hp, ha, e, hc, hn => by
    have hx := cl_len x
    have hl := congrArg List.length e
    simp [hx, txt, dots] at hl
    have hA : At x dotsS x.length (a + p.length) := by
      refine (at_iff (Nat.le_refl _)).mpr ⟨by rw [dotsS_len]; omega, p' ++ txt ps, ?_⟩
      rw [← List.drop_drop, e, List.drop_left]; rfl
    cases cuts with
    | nil =>
      have hf : f = a := hc
      exact absurd hA (hn _ (by omega))
    | cons c r =>
      obtain ⟨h1, h2, h3, h4⟩ := hc
      have hle : c ≤ a + p.length := Nat.le_of_not_lt fun hlt => h3 _ (by omega) hlt hA
      obtain ⟨_, t', ht⟩ := (at_iff (Nat.le_refl _)).mp h2
      have hge : p.length ≤ c - a := by
        refine first_dots (r := p' ++ txt ps) (t := t') hp.1.1 hp.1.2 ?_
        have : p ++ (dots ++ (p' ++ txt ps)) = (cl x).drop a := e.symm
        rw [this, List.drop_drop, show a + (c - a) = c by omega, ht, cl_dotsS]
      obtain rfl : c = a + p.length := by omega
      show strSub x a (a + p.length) :: partsFrom x 3 (a + p.length + 3) r = mk p :: (p' :: ps).map mk
      rw [sub_eq, e, Nat.add_sub_cancel_left, List.take_left]
      congr 1
      refine chain_parts x ps p' (a + p.length + 3) r f hp.2 (by omega) ?_ h4 hn
      rw [← List.drop_drop, ← List.drop_drop, e, List.drop_left]
      rfl

theorem kind_pos (x : Str) : ¬ PySem.Builtin.Str.strKind x < PySem.Builtin.Str.strKind dotsS := by
  have : PySem.Builtin.Str.strKind dotsS = 1 := by decide +kernel
  rw [this]; unfold PySem.Builtin.Str.strKind; split
  · omega
  · split <;> omega
theorem contains_iff (x : Str) : Txt.contains x dotsS = true ↔ ∃ i, At x dotsS x.length i := found_iff x dotsS
theorem split_eq {x : Str} {p p' : List Nat} {ps : List (List Nat)} (e : cl x = p ++ txt (p' :: ps)) (hp : AllP (p :: p' :: ps)) :
    Txt.contains x dotsS = true ∧ Txt.split x dotsS = (p :: p' :: ps).map mk := by
  have hx := cl_len x
  have hl := congrArg List.length e
  simp [hx, txt, dots] at hl
  have hA : At x dotsS x.length p.length := (at_iff (Nat.le_refl _)).mpr ⟨by rw [dotsS_len]; omega, p' ++ txt ps, by rw [e, List.drop_left]; rfl⟩
  refine ⟨(contains_iff x).mpr ⟨_, hA⟩, ?_⟩
  obtain ⟨f, h1, h2⟩ := occ_tight x dotsS (by rw [dotsS_len]; omega)
  have key := chain_parts x (p' :: ps) p 0 _ f hp (by omega) (by simpa using e) h1 h2
  unfold Txt.split
  rw [if_neg (by simp only [Bool.or_eq_true, decide_eq_true_eq, not_or]; exact ⟨by rw [dotsS_len]; omega, kind_pos x⟩), if_neg, partsBetween_eq]
  · exact key
  · intro h
    have h0 : occurrences x dotsS 0 x.length (x.length + 1) = [] := List.isEmpty_iff.mp h
    rw [h0] at h1
    have : f = 0 := h1
    exact h2 _ (by omega) hA
theorem contains_no {x : Str} (h : NoD (cl x)) : Txt.contains x dotsS = false := by
  refine Bool.eq_false_iff.mpr fun hc => ?_
  obtain ⟨i, hi⟩ := (contains_iff x).mp hc
  obtain ⟨_, t, ht⟩ := (at_iff (Nat.le_refl _)).mp hi
  exact h i t (by rw [ht, cl_dotsS])

/-! ## The pattern's text -/
def pcs : List (List W) → List (List Nat)
  | [] => []
  | [L] => [(32 :: enc L).dropLast]
  | L :: K :: r => (32 :: enc L) :: pcs (K :: r)
def wordsP (L0 : List W) (Ls : List (List W)) : List W := L0 ++ Ls.flatMap fun L => dots :: L

theorem enc_ne : ∀ L : List W, ∃ q, 32 :: enc L = q ++ [32]
  | [] => ⟨[], rfl⟩
  | w :: L => by
    obtain ⟨q, h⟩ := enc_ne L
    exact ⟨32 :: w ++ q, by simp [enc, h]⟩
theorem pcs_txt : ∀ (L : List W) (Ls : List (List W)), txt (pcs (L :: Ls)) ++ [32] = (L :: Ls).flatMap fun L => dots ++ 32 :: enc L
  | L, [] => by
    obtain ⟨q, h⟩ := enc_ne L
    simp [pcs, txt, h]
  | L, K :: r => by
    have := pcs_txt K r
    simp only [pcs, txt, List.append_assoc, List.flatMap_cons] at this ⊢
    rw [this]
theorem enc_words : ∀ (L0 : List W) (Ls : List (List W)), enc (wordsP L0 Ls) = enc L0 ++ Ls.flatMap fun L => dots ++ 32 :: enc L := by
  intro L0 Ls
  unfold wordsP
  rw [enc_append]
  congr 1
  induction Ls with
  | nil => rfl
  | cons L r ih => simp [enc, enc_append, ih]
theorem jn_words (L0 : List W) (L : List W) (Ls : List (List W)) : jn (wordsP L0 (L :: Ls)) = enc L0 ++ txt (pcs (L :: Ls)) := by
  have h := jn_enc (wordsP L0 (L :: Ls)) (by simp [wordsP])
  rw [enc_words, ← pcs_txt, ← List.append_assoc] at h
  exact List.append_cancel_right h

def Good (w : W) : Prop := 32 ∉ w ∧ w ≠ [] ∧ NoD w
theorem allP_pcs : ∀ (L : List W) (Ls : List (List W)) (p : List Nat), NoD p → EndOk p → (∀ K ∈ L :: Ls, ∀ w ∈ K, NoD w) → AllP (p :: pcs (L :: Ls))
  | L, [], p, h1, h2, h => ⟨⟨h1, h2⟩, noD_dropLast (noD_sp L (h L (by simp)))⟩
  | L, K :: r, p, h1, h2, h => ⟨⟨h1, h2⟩, allP_pcs K r _ (noD_sp L (h L (by simp))) (endOk_sp L) fun M hM => h M (by simp [hM])⟩

theorem pcs_ne (L : List W) (Ls : List (List W)) : ∃ p ps, pcs (L :: Ls) = p :: ps := by
  cases Ls <;> exact ⟨_, _, rfl⟩
theorem gap_sent : ∀ (L : List W) (Ls : List (List W)) (t : List Nat), Gap (pcs (L :: Ls)) t ↔ Gap ((L :: Ls).map fun L => 32 :: enc L) (t ++ [32])
  | L, [], t => by
    obtain ⟨q, h⟩ := enc_ne L
    simp only [pcs, List.map_cons, List.map_nil, h, List.dropLast_concat, Gap]
    constructor
    · rintro ⟨g, t', rfl, rfl⟩; exact ⟨g, [], by simp, rfl⟩
    · rintro ⟨g, t', e, rfl⟩
      refine ⟨g, [], ?_, rfl⟩
      simp only [List.append_nil, ← List.append_assoc] at e ⊢
      exact List.append_cancel_right e
  | L, K :: r, t => by
    simp only [pcs, List.map_cons, Gap]
    constructor
    · rintro ⟨g, t', rfl, h⟩
      exact ⟨g, t' ++ [32], by simp, (gap_sent K r t').mp h⟩
    · rintro ⟨g, t', e, h⟩
      have hne : ∃ t2, t' = t2 ++ [32] := by
        by_cases hn : t' = []
        · exfalso; subst hn
          obtain ⟨g2, t3, e3, _⟩ := h
          simp at e3
        · refine ⟨t'.dropLast, ?_⟩
          have h1 := List.dropLast_concat_getLast hn
          have h2 : t'.getLast hn = 32 := by
            have := congrArg List.getLast? e
            rw [← h1] at this
            simp [← List.append_assoc] at this
            rw [← List.cons_append, List.getLast?_concat] at this
            simpa using this.symm
          rw [h2] at h1; exact h1.symm
      obtain ⟨t2, rfl⟩ := hne
      refine ⟨g, t2, ?_, (gap_sent K r t2).mpr h⟩
      simp only [← List.append_assoc] at e
      exact (List.append_cancel_right e).trans (by simp)

def Fit (L0 : List W) (Ls : List (List W)) (row : List W) : Prop := ∃ r, row = L0 ++ r ∧ FitS Ls r

theorem ellM_iff {L0 : List W} {Ls : List (List W)} {row : List W} (h0 : ∀ w ∈ L0, Good w) (hs : ∀ L ∈ Ls, ∀ w ∈ L, Good w) (hr : ∀ w ∈ row, 32 ∉ w ∧ w ≠ []) :
    ellM (mk (jn (wordsP L0 Ls))) (mk (jn row)) = true ↔ Fit L0 Ls row ∨ (L0 = [] ∧ Ls = [[]] ∧ row = []) := by
  cases Ls with
  | nil =>
    have hw : wordsP L0 [] = L0 := by simp [wordsP]
    rw [hw]
    have hnd : NoD (cl (mk (jn L0))) := by
      rw [cl_mk]
      by_cases hn : L0 = []
      · subst hn; exact noD_nil
      · have h1 := jn_enc L0 hn
        have h2 := noD_dropLast (noD_enc L0 fun w hw => (h0 w hw).2.2)
        rw [← h1, List.dropLast_concat] at h2
        exact h2
    unfold ellM
    rw [if_pos (contains_no hnd), decide_eq_true_eq]
    constructor
    · intro e
      have := jn_inj (fun w hw => ⟨(h0 w hw).1, (h0 w hw).2.1⟩) hr (mk_inj e)
      exact .inl ⟨[], by simpa using this.symm, rfl⟩
    · rintro (⟨r, h1, h2⟩ | ⟨_, h2, _⟩)
      · have h3 : r = [] := h2
        rw [h1, h3]; simp
      · cases h2
  | cons L Ls =>
    have hsp := split_eq (x := mk (jn (wordsP L0 (L :: Ls)))) (p := enc L0) (p' := (pcs (L :: Ls)).headD []) (ps := (pcs (L :: Ls)).tail) (by
        rw [cl_mk, jn_words]
        obtain ⟨p, ps, e⟩ := pcs_ne L Ls
        rw [e]; rfl) (by
        have := allP_pcs L Ls (enc L0) (noD_enc L0 fun w hw => (h0 w hw).2.2) (endOk_enc L0) fun K hK w hw => (hs K hK w hw).2.2
        obtain ⟨p, ps, e⟩ := pcs_ne L Ls
        rw [e] at this ⊢; exact this)
    have hcons : (pcs (L :: Ls)).headD [] :: (pcs (L :: Ls)).tail = pcs (L :: Ls) := by
      obtain ⟨p, ps, e⟩ := pcs_ne L Ls
      rw [e]; rfl
    rw [hcons] at hsp
    unfold ellM
    rw [if_neg (by rw [hsp.1]; simp), hsp.2]
    have hlast : ∃ mids b, pcs (L :: Ls) = mids ++ [b] := by
      obtain ⟨p, ps, e⟩ := pcs_ne L Ls
      exact ⟨(pcs (L :: Ls)).dropLast, (pcs (L :: Ls)).getLast (by rw [e]; simp), (List.dropLast_concat_getLast _).symm⟩
    obtain ⟨mids, b, hmb⟩ := hlast
    have key : ell1 (mk (jn row)) ((enc L0 :: pcs (L :: Ls)).map mk) = true ↔ ∃ t, jn row = enc L0 ++ t ∧ Gap (pcs (L :: Ls)) t := by
      rw [List.map_cons, hmb, List.map_append, List.map_cons, List.map_nil, ell1_iff]
      simp only [cl_mk, List.map_append, List.map_map, List.map_cons, List.map_nil]
      have : (mids.map (cl ∘ mk)) = mids := by
        conv => rhs; rw [← List.map_id mids]
        exact List.map_congr_left fun x _ => cl_mk x
      rw [this]
    rw [key]
    have hr1 : ∀ w ∈ row, 32 ∉ w := fun w hw => (hr w hw).1
    have hs1 : ∀ K ∈ L :: Ls, ∀ w ∈ K, 32 ∉ w := fun K hK w hw => (hs K hK w hw).1
    by_cases hrow : row = []
    · subst hrow
      constructor
      · rintro ⟨t, e, hg⟩
        have e' : enc L0 ++ t = [] := e.symm
        obtain ⟨e1, e2⟩ := List.append_eq_nil_iff.mp e'
        subst e2
        have hL0 : L0 = [] := by cases L0 with
          | nil => rfl
          | cons w r => simp [enc] at e1
        right
        refine ⟨hL0, ?_, rfl⟩
        cases Ls with
        | nil =>
          obtain ⟨g, t', e3, h3⟩ := hg
          have e4 : (32 :: enc L).dropLast = [] := by
            have := List.append_eq_nil_iff.mp e3.symm
            exact (List.append_eq_nil_iff.mp this.2).1
          cases L with
          | nil => rfl
          | cons w r => have := congrArg List.length e4; simp [enc] at this
        | cons K r =>
          obtain ⟨g, t', e3, h3⟩ := hg
          simp at e3
      · rintro (⟨r, e, hf⟩ | ⟨rfl, h2, _⟩)
        · obtain ⟨e1, e2⟩ := List.append_eq_nil_iff.mp e.symm
          subst e2
          obtain ⟨s, r', hs', e3, _⟩ := hf
          exact absurd (List.append_eq_nil_iff.mp e3.symm).1 hs'
        · cases h2
          exact ⟨[], rfl, [], [], rfl, rfl⟩
    · have hj := jn_enc row hrow
      constructor
      · rintro ⟨t, e, hg⟩
        left
        rw [gap_sent] at hg
        have e2 : enc row = enc L0 ++ (t ++ [32]) := by rw [← hj, e]; simp
        obtain ⟨r, rfl, e3⟩ := enc_prefix L0 row _ (fun w hw => (h0 w hw).1) hr1 e2
        rw [e3] at hg
        exact ⟨r, rfl, (gap_enc _ r hs1 fun w hw => hr1 w (by simp [hw])).mp hg⟩
      · rintro (⟨r, rfl, hf⟩ | ⟨_, _, h⟩)
        · have hg := (gap_enc _ r hs1 fun w hw => hr1 w (by simp [hw])).mpr hf
          have hrn : r ≠ [] := by
            intro hn; subst hn
            obtain ⟨s, r', hs', e3, _⟩ := hf
            exact absurd (List.append_eq_nil_iff.mp e3.symm).1 hs'
          refine ⟨jn r, ?_, (gap_sent L Ls _).mpr (by rw [jn_enc r hrn]; exact hg)⟩
          have : jn (L0 ++ r) ++ [32] = enc L0 ++ jn r ++ [32] := by
            rw [hj, enc_append, List.append_assoc, jn_enc r hrn]
          exact List.append_cancel_right this
        · exact absurd h hrow
end Mine

namespace Mine
open PySem PySem.StrLaws PySem.Builtin PySem.Builtin.Str

/-! ## Tokens and the table -/
abbrev Tk := Int × W
def isW (n : Int) : Bool := decide (n > 255) || decide (n = 52)

def FitN : List Int → List Int → Prop
  | [], r => r = []
  | n :: p, r => if isW n = true then ∃ s r', s ≠ [] ∧ r = s ++ r' ∧ FitN p r' else ∃ r', r = n :: r' ∧ FitN p r'

theorem fitN_snoc (n : Int) : ∀ (p r : List Int), FitN (p ++ [n]) r ↔ if isW n = true then ∃ r0 s, s ≠ [] ∧ r = r0 ++ s ∧ FitN p r0 else ∃ r0, r = r0 ++ [n] ∧ FitN p r0
  | [], r => by
    simp only [List.nil_append, FitN]
    split
    · constructor
      · rintro ⟨s, r', hs, rfl, rfl⟩; exact ⟨[], s, hs, by simp, rfl⟩
      · rintro ⟨r0, s, hs, rfl, rfl⟩; exact ⟨s, [], hs, by simp, rfl⟩
    · constructor
      · rintro ⟨r', rfl, rfl⟩; exact ⟨[], rfl, rfl⟩
      · rintro ⟨r0, rfl, rfl⟩; exact ⟨[], rfl, rfl⟩
  | m :: p, r => by
    simp only [List.cons_append, FitN]
    by_cases hm : isW m = true
    · simp only [if_pos hm]
      by_cases hn : isW n = true
      · simp only [if_pos hn]
        constructor
        · rintro ⟨s, r', hs, rfl, h⟩
          obtain ⟨r0, s2, hs2, rfl, h2⟩ := by simpa only [if_pos hn] using (fitN_snoc n p r').mp h
          exact ⟨s ++ r0, s2, hs2, by simp, s, r0, hs, rfl, h2⟩
        · rintro ⟨r0, s2, hs2, rfl, s, r1, hs, rfl, h2⟩
          exact ⟨s, r1 ++ s2, hs, by simp, (fitN_snoc n p _).mpr (by rw [if_pos hn]; exact ⟨r1, s2, hs2, rfl, h2⟩)⟩
      · simp only [if_neg hn]
        constructor
        · rintro ⟨s, r', hs, rfl, h⟩
          obtain ⟨r0, rfl, h2⟩ := by simpa only [if_neg hn] using (fitN_snoc n p r').mp h
          exact ⟨s ++ r0, by simp, s, r0, hs, rfl, h2⟩
        · rintro ⟨r0, rfl, s, r1, hs, rfl, h2⟩
          exact ⟨s, r1 ++ [n], hs, by simp, (fitN_snoc n p _).mpr (by rw [if_neg hn]; exact ⟨r1, rfl, h2⟩)⟩
    · simp only [if_neg hm]
      by_cases hn : isW n = true
      · simp only [if_pos hn]
        constructor
        · rintro ⟨r', rfl, h⟩
          obtain ⟨r0, s2, hs2, rfl, h2⟩ := by simpa only [if_pos hn] using (fitN_snoc n p r').mp h
          exact ⟨m :: r0, s2, hs2, by simp, r0, rfl, h2⟩
        · rintro ⟨r0, s2, hs2, rfl, r1, rfl, h2⟩
          exact ⟨r1 ++ s2, by simp, (fitN_snoc n p _).mpr (by rw [if_pos hn]; exact ⟨r1, s2, hs2, rfl, h2⟩)⟩
      · simp only [if_neg hn]
        constructor
        · rintro ⟨r', rfl, h⟩
          obtain ⟨r0, rfl, h2⟩ := by simpa only [if_neg hn] using (fitN_snoc n p r').mp h
          exact ⟨m :: r0, by simp, r0, rfl, h2⟩
        · rintro ⟨r0, rfl, r1, rfl, h2⟩
          exact ⟨r1 ++ [n], by simp, (fitN_snoc n p _).mpr (by rw [if_neg hn]; exact ⟨r1, rfl, h2⟩)⟩

def row0 (row : List Int) : List Bool := (List.range (row.length + 1)).map fun j => decide (j = 0)
def fitRow (row : List Int) (last : List Bool) (n : Int) : List Bool :=
  (List.range (row.length + 1)).map fun j => if isW n = true then (last.take j).contains true else decide (0 < j) && last.getD (j - 1) false && decide (row.getD (j - 1) 0 = n)
def tl (row form : List Int) : List Bool := form.foldl (fitRow row) (row0 row)

def Rep (row : List Int) (last : List Bool) (p : List Int) : Prop :=
  last.length = row.length + 1 ∧ ∀ j, j ≤ row.length → (last.getD j false = true ↔ FitN p (row.take j))

theorem rep0 (row : List Int) : Rep row (row0 row) [] := by
  refine ⟨by simp [row0], fun j hj => ?_⟩
  rw [row0, List.getD_eq_getElem?_getD, List.getElem?_map, List.getElem?_range (by omega)]
  simp only [Option.map_some, Option.getD_some, decide_eq_true_eq, FitN, List.take_eq_nil_iff]
  constructor
  · intro h; exact .inl h
  · rintro (h | h)
    · exact h
    · subst h; simpa using hj
theorem fitRow_rep {row : List Int} {last : List Bool} {p : List Int} {n : Int} (h : Rep row last p) : Rep row (fitRow row last n) (p ++ [n]) := by
  refine ⟨by simp [fitRow], fun j hj => ?_⟩
  rw [fitRow, List.getD_eq_getElem?_getD, List.getElem?_map, List.getElem?_range (by omega)]
  simp only [Option.map_some, Option.getD_some]
  rw [fitN_snoc]
  split
  · rw [List.contains_iff_mem, List.mem_iff_getElem?]
    constructor
    · rintro ⟨k, hk⟩
      have hkj : k < j := by
        have := (List.getElem?_eq_some_iff.mp hk).1
        simp at this; omega
      rw [List.getElem?_take_of_lt hkj] at hk
      refine ⟨row.take k, (row.take j).drop k, ?_, ?_, (h.2 k (by omega)).mp (by rw [List.getD_eq_getElem?_getD, hk]; rfl)⟩
      · intro e
        have := congrArg List.length e
        simp at this; omega
      · conv => lhs; rw [← List.take_append_drop k (row.take j)]
        rw [List.take_take, Nat.min_eq_left (by omega)]
    · rintro ⟨r0, s, hs, e, hf⟩
      have hl := congrArg List.length e
      have hsl : 0 < s.length := List.length_pos_iff.mpr hs
      simp at hl
      have hr0 : row.take r0.length = r0 := by
        have := congrArg (List.take r0.length) e
        rw [List.take_take, Nat.min_eq_left (by omega), List.take_left] at this
        exact this
      have := (h.2 r0.length (by omega)).mpr (by rw [hr0]; exact hf)
      refine ⟨r0.length, ?_⟩
      rw [List.getElem?_take_of_lt (by omega)]
      have hlt : r0.length < last.length := by rw [h.1]; omega
      rw [List.getD_eq_getElem?_getD, List.getElem?_eq_getElem hlt] at this
      rw [List.getElem?_eq_getElem hlt]
      simpa using this
  · simp only [Bool.and_eq_true, decide_eq_true_eq]
    constructor
    · rintro ⟨⟨hj0, h1⟩, h2⟩
      refine ⟨row.take (j - 1), ?_, (h.2 (j - 1) (by omega)).mp h1⟩
      have hlt : j - 1 < row.length := by omega
      rw [List.getD_eq_getElem?_getD, List.getElem?_eq_getElem hlt] at h2
      have : row.take j = row.take (j - 1 + 1) := by congr 1; omega
      rw [this, List.take_succ_eq_append_getElem hlt]
      simp at h2
      rw [h2]
    · rintro ⟨r0, e, hf⟩
      have hl := congrArg List.length e
      simp at hl
      have hj0 : 0 < j := by omega
      have hlt : j - 1 < row.length := by omega
      have hr : r0.length = j - 1 := by omega
      have h1 : row.take (j - 1) = r0 := by
        have := congrArg (List.take (j - 1)) e
        rw [List.take_take, Nat.min_eq_left (by omega), ← hr, List.take_left] at this
        rw [← hr]; exact this
      refine ⟨⟨hj0, (h.2 (j - 1) (by omega)).mpr (by rw [h1]; exact hf)⟩, ?_⟩
      have h2 := congrArg (fun l => l[j - 1]?) e
      simp only [List.getElem?_take_of_lt (show j - 1 < j by omega)] at h2
      rw [← hr] at h2 ⊢
      rw [List.getD_eq_getElem?_getD, h2]; simp
theorem foldl_rep {row : List Int} : ∀ (form p : List Int) (last : List Bool), Rep row last p → Rep row (form.foldl (fitRow row) last) (p ++ form)
  | [], p, last, h => by simpa using h
  | n :: form, p, last, h => by
    have := foldl_rep form (p ++ [n]) _ (fitRow_rep (n := n) h)
    simpa using this
theorem tl_rep (row form : List Int) : Rep row (tl row form) form := by
  have := foldl_rep form [] _ (rep0 row)
  rw [List.nil_append] at this
  exact this

/-! ## Tokens: numbers and words -/
def FitT : List Tk → List Tk → Prop
  | [], r => r = []
  | a :: p, r => if isW a.1 = true then ∃ s r', s ≠ [] ∧ r = s ++ r' ∧ FitT p r' else ∃ b r', r = b :: r' ∧ b.1 = a.1 ∧ FitT p r'
theorem fitN_T : ∀ (p r : List Tk), FitN (p.map (·.1)) (r.map (·.1)) ↔ FitT p r
  | [], r => by simp [FitN, FitT]
  | a :: p, r => by
    simp only [List.map_cons, FitN, FitT]
    split
    · constructor
      · rintro ⟨s, r', hs, e, h⟩
        obtain ⟨s', r2, rfl, rfl, rfl⟩ := List.map_eq_append_iff.mp e
        exact ⟨s', r2, by rintro rfl; exact hs rfl, rfl, (fitN_T p r2).mp h⟩
      · rintro ⟨s, r', hs, rfl, h⟩
        exact ⟨s.map (·.1), r'.map (·.1), by simpa using hs, by simp, (fitN_T p r').mpr h⟩
    · constructor
      · rintro ⟨r', e, h⟩
        obtain ⟨b, r2, rfl, hb, rfl⟩ := List.map_eq_cons_iff.mp e
        exact ⟨b, r2, rfl, hb, (fitN_T p r2).mp h⟩
      · rintro ⟨b, r', rfl, hb, h⟩
        exact ⟨r'.map (·.1), by simp [hb], (fitN_T p r').mpr h⟩

def cutT : List Tk → List W × List (List W)
  | [] => ([], [])
  | a :: p => if isW a.1 = true then ([], (cutT p).1 :: (cutT p).2) else (a.2 :: (cutT p).1, (cutT p).2)

def litTab : List (Int × W) := [
  (54, [33]), (28, [33, 61]), (24, [37]), (40, [37, 61]), (19, [38]), (41, [38, 61]), (7, [40]), (8, [41]), (16, [42]), (35, [42, 42]), (46, [42, 42, 61]), (38, [42, 61]), (14, [43]), (36, [43, 61]), (12, [44]), (15, [45]),
  (37, [45, 61]), (51, [45, 62]), (23, [46]), (17, [47]), (47, [47, 47]), (48, [47, 47, 61]), (39, [47, 61]), (11, [58]), (53, [58, 61]), (13, [59]), (20, [60]), (33, [60, 60]), (44, [60, 60, 61]), (29, [60, 61]), (22, [61]), (27, [61, 61]),
  (21, [62]), (30, [62, 61]), (34, [62, 62]), (45, [62, 62, 61]), (49, [64]), (50, [64, 61]), (9, [91]), (10, [93]), (32, [94]), (43, [94, 61]), (25, [123]), (18, [124]), (42, [124, 61]), (26, [125]), (31, [126]),
  (250, [50, 53, 48]), (251, [50, 53, 49]), (252, [50, 53, 50]), (253, [50, 53, 51]), (254, [50, 53, 52]), (255, [50, 53, 53])]
def OkT (t : Tk) : Prop := (isW t.1 = true ∧ t.2 = dots) ∨ t ∈ litTab
def litOk (t : Tk) : Bool := !isW t.1 && !t.2.contains 32 && decide (t.2 ≠ []) && decide (t.2.length ≤ 3) && decide (t.2 ≠ dots)
theorem litTab_ok : litTab.all litOk = true := by decide +kernel
theorem litTab_inj : (litTab.all fun a => litTab.all fun b => decide (a.1 = b.1) == decide (a.2 = b.2)) = true := by decide +kernel

theorem noD_of_short {w : W} (h : w.length ≤ 3) (hd : w ≠ dots) : NoD w := by
  intro k t e
  have hl := congrArg List.length e
  simp [dots] at hl
  have hk : k = 0 := by omega
  subst hk
  have ht : t = [] := List.length_eq_zero_iff.mp (by omega)
  subst ht
  exact hd (by simpa using e)
theorem lit_facts {t : Tk} (h : t ∈ litTab) : isW t.1 = false ∧ Good t.2 ∧ t.2.length ≤ 3 ∧ t.2 ≠ dots := by
  have := List.all_eq_true.mp litTab_ok t h
  simp only [litOk, Bool.and_eq_true, Bool.not_eq_true', decide_eq_true_eq, List.contains_eq_mem, decide_eq_false_iff_not] at this
  obtain ⟨⟨⟨⟨h1, h2⟩, h3⟩, h4⟩, h5⟩ := this
  exact ⟨h1, ⟨h2, h3, noD_of_short h4 h5⟩, h4, h5⟩
theorem lit_inj {a b : Tk} (ha : a ∈ litTab) (hb : b ∈ litTab) : a.1 = b.1 ↔ a.2 = b.2 := by
  have := List.all_eq_true.mp (List.all_eq_true.mp litTab_inj a ha) b hb
  rw [beq_iff_eq] at this
  constructor
  · intro h; rw [decide_eq_true h] at this; exact of_decide_eq_true this.symm
  · intro h; rw [decide_eq_true h] at this; exact of_decide_eq_true this
theorem ok_word {t : Tk} (h : OkT t) : 32 ∉ t.2 ∧ t.2 ≠ [] := by
  rcases h with ⟨_, h⟩ | h
  · rw [h]; decide
  · exact ⟨(lit_facts h).2.1.1, (lit_facts h).2.1.2.1⟩
theorem ok_len {t : Tk} (h : OkT t) : t.2.length ≤ 3 := by
  rcases h with ⟨_, h⟩ | h
  · rw [h]; decide
  · exact (lit_facts h).2.2.1
theorem ok_lit {t : Tk} (h : OkT t) (hn : ¬ isW t.1 = true) : t ∈ litTab := h.resolve_left fun x => hn x.1
theorem ok_same {a b : Tk} (ha : OkT a) (hb : OkT b) (hn : ¬ isW a.1 = true) : b.1 = a.1 ↔ b.2 = a.2 := by
  have ha' := ok_lit ha hn
  rcases hb with ⟨h1, h2⟩ | hb
  · constructor
    · intro e; rw [e] at h1; exact absurd h1 hn
    · intro e; rw [h2] at e; exact absurd e.symm (lit_facts ha').2.2.2
  · exact lit_inj hb ha'

theorem cut_words : ∀ p : List Tk, (∀ t ∈ p, OkT t) → wordsP (cutT p).1 (cutT p).2 = p.map (·.2)
  | [], _ => rfl
  | a :: p, h => by
    have ih := cut_words p fun t ht => h t (by simp [ht])
    unfold cutT
    split
    · rename_i hw
      have : a.2 = dots := by
        rcases h a (by simp) with ⟨_, h2⟩ | h2
        · exact h2
        · rw [(lit_facts h2).1] at hw; cases hw
      simp only [wordsP, List.nil_append, List.flatMap_cons, List.map_cons, this, List.cons_append, List.cons.injEq, true_and]
      exact ih
    · simp only [wordsP, List.cons_append, List.map_cons, List.cons.injEq, true_and]
      exact ih
theorem cut_good : ∀ p : List Tk, (∀ t ∈ p, OkT t) → (∀ w ∈ (cutT p).1, Good w) ∧ ∀ L ∈ (cutT p).2, ∀ w ∈ L, Good w
  | [], _ => ⟨by simp [cutT], by simp [cutT]⟩
  | a :: p, h => by
    have ih := cut_good p fun t ht => h t (by simp [ht])
    unfold cutT
    split
    · refine ⟨by simp, ?_⟩
      intro L hL
      rcases List.mem_cons.mp hL with rfl | hL
      · exact ih.1
      · exact ih.2 L hL
    · rename_i hn
      refine ⟨?_, ih.2⟩
      intro w hw
      rcases List.mem_cons.mp hw with rfl | hw
      · exact (lit_facts (ok_lit (h a (by simp)) hn)).2.1
      · exact ih.1 w hw
theorem fit_T : ∀ (p r : List Tk), (∀ t ∈ p, OkT t) → (∀ t ∈ r, OkT t) → (Fit (cutT p).1 (cutT p).2 (r.map (·.2)) ↔ FitT p r)
  | [], r, _, _ => by simp [Fit, FitT, cutT, FitS]
  | a :: p, r, h, hr => by
    have hp : ∀ t ∈ p, OkT t := fun t ht => h t (by simp [ht])
    unfold cutT FitT
    split
    · constructor
      · rintro ⟨r1, e, s, r', hs, rfl, hf⟩
        obtain ⟨s', r2, rfl, rfl, e2⟩ := List.map_eq_append_iff.mp (by simpa using e : r.map (·.2) = s ++ ((cutT p).1 ++ r'))
        exact ⟨s', r2, by rintro rfl; exact hs rfl, rfl, (fit_T p r2 hp fun t ht => hr t (by simp [ht])).mp ⟨r', e2, hf⟩⟩
      · rintro ⟨s, r', hs, rfl, hf⟩
        obtain ⟨r1, e, hf⟩ := (fit_T p r' hp fun t ht => hr t (by simp [ht])).mpr hf
        exact ⟨_, rfl, s.map (·.2), r1, by simpa using hs, by simp [e], hf⟩
    · rename_i hn
      constructor
      · rintro ⟨r1, e, hf⟩
        obtain ⟨b, r2, rfl, hb, e2⟩ := List.map_eq_cons_iff.mp (by simpa using e : r.map (·.2) = a.2 :: ((cutT p).1 ++ r1))
        exact ⟨b, r2, rfl, (ok_same (h a (by simp)) (hr b (by simp)) hn).mpr hb, (fit_T p r2 hp fun t ht => hr t (by simp [ht])).mp ⟨r1, e2, hf⟩⟩
      · rintro ⟨b, r', rfl, hb, hf⟩
        obtain ⟨r1, e, hf⟩ := (fit_T p r' hp fun t ht => hr t (by simp [ht])).mpr hf
        exact ⟨r1, by simp [e, (ok_same (h a (by simp)) (hr b (by simp)) hn).mp hb], hf⟩
theorem cut_one {p : List Tk} (h : ∀ t ∈ p, OkT t) : ((cutT p).1 = [] ∧ (cutT p).2 = [[]]) ↔ p.map (·.2) = [dots] := by
  rw [← cut_words p h]
  constructor
  · rintro ⟨h1, h2⟩; rw [h1, h2]; rfl
  · intro e
    have hg := cut_good p h
    generalize (cutT p).1 = L0 at e hg ⊢
    generalize (cutT p).2 = Ls at e hg ⊢
    have hnd : ∀ w, Good w → w ≠ dots := fun w hw e => hw.2.2 0 [] (by simp [e])
    cases L0 with
    | cons w r =>
      simp [wordsP] at e
      exact absurd e.1 (hnd w (hg.1 w (by simp)))
    | nil =>
      refine ⟨rfl, ?_⟩
      cases Ls with
      | nil => simp [wordsP] at e
      | cons L r =>
        simp only [wordsP, List.nil_append, List.flatMap_cons, List.cons_append, List.cons.injEq, List.append_eq_nil_iff, true_and] at e
        obtain ⟨rfl, e⟩ := e
        cases r with
        | nil => rfl
        | cons K r => simp at e

def front (l : List Tk) : Str := mk (jn (l.map (·.2)))
theorem front_dots {p : List Tk} (h : ∀ t ∈ p, OkT t) : front p = dotsS ↔ p.map (·.2) = [dots] := by
  constructor
  · intro e
    have e' : jn (p.map (·.2)) = jn [dots] := mk_inj (e.trans rfl)
    refine jn_inj ?_ ?_ e'
    · intro w hw
      obtain ⟨t, ht, rfl⟩ := List.mem_map.mp hw
      exact ok_word (h t ht)
    · intro w hw
      rw [List.mem_singleton.mp hw]; decide
  · intro e; unfold front; rw [e]; rfl

theorem law_plain {p r : List Tk} (hp : ∀ t ∈ p, OkT t) (hr : ∀ t ∈ r, OkT t) :
    ellM (front p) (front r) = true ↔ FitN (p.map (·.1)) (r.map (·.1)) ∨ (r = [] ∧ front p = dotsS) := by
  have hg := cut_good p hp
  have h := ellM_iff (row := r.map (·.2)) hg.1 hg.2 (by
    intro w hw
    obtain ⟨t, ht, rfl⟩ := List.mem_map.mp hw
    exact ok_word (hr t ht))
  rw [cut_words p hp] at h
  unfold front at *
  rw [h, fit_T p r hp hr, fitN_T]
  refine or_congr Iff.rfl ?_
  have h2 := front_dots hp
  unfold front at h2
  rw [h2, ← cut_one hp]
  constructor
  · rintro ⟨h1, h2, h3⟩; exact ⟨by simpa using h3, h1, h2⟩
  · rintro ⟨h1, h2, h3⟩; exact ⟨h2, h3, by simpa using h1⟩

theorem law_at {p r : List Tk} (hp : ∀ t ∈ p, OkT t) (hr : ∀ t ∈ r, OkT t) {i j : Nat} (hj : j ≤ r.length) :
    ellM (front (p.take i)) (front (r.take j)) = ((tl (r.map (·.1)) ((p.map (·.1)).take i)).getD j false || (decide (j = 0) && decide (front (p.take i) = dotsS))) := by
  rw [Bool.eq_iff_iff, law_plain (fun t ht => hp t (List.mem_of_mem_take ht)) fun t ht => hr t (List.mem_of_mem_take ht)]
  rw [Bool.or_eq_true, Bool.and_eq_true, decide_eq_true_eq, decide_eq_true_eq, (tl_rep _ _).2 j (by simpa using hj), ← List.map_take, ← List.map_take]
  refine or_congr Iff.rfl (and_congr_left fun _ => ?_)
  rw [List.take_eq_nil_iff]
  constructor
  · rintro (h | h)
    · exact h
    · subst h; simpa using hj
  · intro h; exact .inl h

end Mine

namespace Mine
open PySem PySem.Calls PyProof.Rows

/-! ## What a call knows of the state -/
def KeepsH (h h' : Heap) : Prop := ∀ b o, h.get? b = some o → h'.get? b = some o
theorem KeepsH.refl (h : Heap) : KeepsH h h := fun _ _ e => e
theorem KeepsH.trans {a b c : Heap} (x : KeepsH a b) (y : KeepsH b c) : KeepsH a c := fun d o e => y d o (x d o e)
def Rest (s s' : Shared) : Prop := s'.gens = s.gens ∧ s'.drawn = s.drawn ∧ s'.os = s.os
theorem Rest.refl (s : Shared) : Rest s s := ⟨rfl, rfl, rfl⟩
theorem Rest.trans {a b c : Shared} (x : Rest a b) (y : Rest b c) : Rest a c := ⟨y.1.trans x.1, y.2.1.trans x.2.1, y.2.2.trans x.2.2⟩
def Ext (s s' : Shared) : Prop := Rest s s' ∧ KeepsH s.heap s'.heap
theorem Ext.refl (s : Shared) : Ext s s := ⟨Rest.refl s, KeepsH.refl _⟩
theorem Ext.trans {a b c : Shared} (x : Ext a b) (y : Ext b c) : Ext a c := ⟨x.1.trans y.1, x.2.trans y.2⟩
theorem ext_of {s : Shared} {h' : Heap} {t : Tok} (k : KeepsH s.heap h') : Ext s { s with heap := h', toks := t } := ⟨⟨rfl, rfl, rfl⟩, k⟩
theorem ext_toks (s : Shared) (t : Tok) : Ext s { s with toks := t } := ⟨⟨rfl, rfl, rfl⟩, KeepsH.refl _⟩
theorem keeps_push (h : Heap) (o : Obj) : KeepsH h (h.push o) := fun _ _ e => Heap.get?_push_of_some o e
theorem fresh_size (h : Heap) : h.get? h.objs.size = none := by
  cases e : h.get? h.objs.size with
  | none => rfl
  | some o => exact absurd (Heap.lt_size e) (Nat.lt_irrefl _)

/-- what is owned: an address and what is known of the object there -/
abbrev Own := List (Addr × (Obj → Prop))
def NsP (l : List (Str × Value)) (h : Heap) (L : Addr) : Prop := ∃ m, h.Ns L m ∧ ∀ x v, l.lookup x = some v → m x = some v

structure Sat (s₀ : Shared) (N : Heap) (L : Addr) (l : List (Str × Value)) (own : Own) (s : Shared) : Prop where
  rest : Rest s₀ s
  base : KeepsH s₀.heap s.heap
  keep : KeepsH N s.heap
  disj : ∀ a o, N.get? a = some o → s₀.heap.get? a = none
  ns : NsP l s.heap L
  frame : s₀.heap.get? L = none ∧ N.get? L = none
  owns : ∀ p ∈ own, (s₀.heap.get? p.1 = none ∧ N.get? p.1 = none) ∧ p.1 ≠ L ∧ ∃ o, s.heap.get? p.1 = some o ∧ p.2 o
  nd : own.Pairwise fun a b => a.1 ≠ b.1

section
variable {s₀ s s' : Shared} {N N' N₂ : Heap} {L a : Addr} {l l' : List (Str × Value)} {own own' : Own} {P P' : Obj → Prop}

theorem NsP.keeps {h h' : Heap} (x : NsP l h L) (k : KeepsH h h') : NsP l h' L := let ⟨m, h1, h2⟩ := x; ⟨m, h1.keeps k, h2⟩
theorem NsP.there {h : Heap} (x : NsP l h L) : ∃ o, h.get? L = some o := let ⟨_, ⟨o, _, _, h1, _⟩, _⟩ := x; ⟨o, h1⟩
theorem NsP.mono {h : Heap} (x : NsP l h L) (hl : ∀ y v, l'.lookup y = some v → l.lookup y = some v) : NsP l' h L := let ⟨m, h1, h2⟩ := x; ⟨m, h1, fun y v e => h2 y v (hl y v e)⟩

theorem Sat.toExt (S : Sat s₀ N L l own s) : Ext s₀ s := ⟨S.rest, S.base⟩
theorem Sat.ext (S : Sat s₀ N L l own s) (e : Ext s s') : Sat s₀ N L l own s' where
  rest := S.rest.trans e.1
  base := S.base.trans e.2
  keep := S.keep.trans e.2
  disj := S.disj
  ns := S.ns.keeps e.2
  frame := S.frame
  owns := fun p hp => let ⟨h1, h2, o, h3, h4⟩ := S.owns p hp; ⟨h1, h2, o, e.2 _ _ h3, h4⟩
  nd := S.nd
theorem Sat.locals (S : Sat s₀ N L l own s) (hl : ∀ y v, l'.lookup y = some v → l.lookup y = some v) : Sat s₀ N L l' own s := { S with ns := S.ns.mono hl }

theorem exists_sub (h : Heap) (bad : List Addr) : ∃ M : Heap, KeepsH M h ∧ (∀ a ∈ bad, M.get? a = none) ∧ ∀ a o, a ∉ bad → h.get? a = some o → M.get? a = some o :=
  ⟨W.hideAll h bad, fun _ _ e => W.of_hideAll bad e, fun _ ha => W.hideAll_none bad ha, fun _ _ hn e => W.hideAll_get bad e hn⟩

def badOf (s₀ : Shared) (L : Addr) (own : Own) : List Addr := L :: (own.map (·.1) ++ (List.range s₀.heap.objs.size).filter fun a => (s₀.heap.get? a).isSome)
theorem not_bad (h1 : a ≠ L) (h2 : ∀ p ∈ own, p.1 ≠ a) (h3 : s₀.heap.get? a = none) : a ∉ badOf s₀ L own := by
  unfold badOf
  intro h
  rcases List.mem_cons.mp h with h | h
  · exact h1 h
  · rcases List.mem_append.mp h with h | h
    · obtain ⟨p, hp, e⟩ := List.mem_map.mp h
      exact h2 p hp e
    · have := (List.mem_filter.mp h).2
      rw [h3] at this; cases this
theorem bad_base (e : ∃ o, s₀.heap.get? a = some o) : a ∈ badOf s₀ L own := by
  obtain ⟨o, e⟩ := e
  unfold badOf
  refine List.mem_cons_of_mem _ (List.mem_append_right _ (List.mem_filter.mpr ⟨List.mem_range.mpr (Heap.lt_size e), ?_⟩))
  rw [e]; rfl

/-- all that is new and not owned may be taken as lasting -/
theorem Sat.all (S : Sat s₀ N L l own s) : ∃ N', KeepsH N N' ∧ Sat s₀ N' L l own s ∧ ∀ a o, s.heap.get? a = some o → s₀.heap.get? a = none → a ≠ L → (∀ p ∈ own, p.1 ≠ a) → N'.get? a = some o := by
  obtain ⟨M, h1, h2, h3⟩ := exists_sub s.heap (badOf s₀ L own)
  refine ⟨M, fun b o e => h3 b o (not_bad ?_ ?_ (S.disj b o e)) (S.keep b o e), ⟨S.rest, S.base, h1, ?_, S.ns, ⟨S.frame.1, h2 L (List.mem_cons_self ..)⟩, ?_, S.nd⟩,
    fun b o e hb hL ho => h3 b o (not_bad hL ho hb) e⟩
  · rintro rfl; rw [S.frame.2] at e; cases e
  · rintro p hp rfl; rw [(S.owns p hp).1.2] at e; cases e
  · intro b o e
    cases hb : s₀.heap.get? b with
    | none => rfl
    | some o' => rw [h2 b (bad_base ⟨o', hb⟩)] at e; cases e
  · intro p hp
    obtain ⟨g1, g2, g3⟩ := S.owns p hp
    exact ⟨⟨g1.1, h2 _ (List.mem_cons_of_mem _ (List.mem_append_left _ (List.mem_map.mpr ⟨p, hp, rfl⟩)))⟩, g2, g3⟩

theorem Sat.ne_of_new (S : Sat s₀ N L l own s) (h : s.heap.get? a = none) : s₀.heap.get? a = none ∧ a ≠ L ∧ ∀ p ∈ own, p.1 ≠ a := by
  refine ⟨?_, ?_, ?_⟩
  · cases e : s₀.heap.get? a with
    | none => rfl
    | some o => rw [S.base _ _ e] at h; cases h
  · rintro rfl; obtain ⟨o, e⟩ := S.ns.there; rw [e] at h; cases h
  · rintro p hp rfl; obtain ⟨_, _, o, e, _⟩ := S.owns p hp; rw [e] at h; cases h

theorem Sat.grow (S : Sat s₀ N L l own s) (e : Ext s s') (h2 : KeepsH N₂ s'.heap) (hd : ∀ a o, N₂.get? a = some o → s.heap.get? a = none) :
    ∃ N', KeepsH N N' ∧ KeepsH N₂ N' ∧ Sat s₀ N' L l own s' := by
  obtain ⟨N', k, S', f⟩ := (S.ext e).all
  refine ⟨N', k, fun b o x => ?_, S'⟩
  obtain ⟨g1, g2, g3⟩ := S.ne_of_new (hd b o x)
  exact f b o (h2 b o x) g1 g2 g3

/-- a new object, lasting -/
theorem Sat.newN {o : Obj} (S : Sat s₀ N L l own s) (e : Ext s s') (h : s'.heap.get? a = some o) (hn : s.heap.get? a = none) : ∃ N', KeepsH N N' ∧ N'.get? a = some o ∧ Sat s₀ N' L l own s' := by
  obtain ⟨N', k, S', f⟩ := (S.ext e).all
  obtain ⟨g1, g2, g3⟩ := S.ne_of_new hn
  exact ⟨N', k, f _ _ h g1 g2 g3, S'⟩
/-- a new object, owned -/
theorem Sat.newO {o : Obj} (S : Sat s₀ N L l own s) (e : Ext s s') (h : s'.heap.get? a = some o) (hn : s.heap.get? a = none) (hP : P o) : Sat s₀ N L l ((a, P) :: own) s' := by
  obtain ⟨g1, g2, g3⟩ := S.ne_of_new hn
  have S' := S.ext e
  refine { S' with owns := ?_, nd := ?_ }
  · intro p hp
    rcases List.mem_cons.mp hp with rfl | hp
    · refine ⟨⟨g1, ?_⟩, g2, o, h, hP⟩
      cases x : N.get? a with
      | none => rfl
      | some o' => rw [S.keep _ _ x] at hn; cases hn
    · exact S'.owns p hp
  · exact List.pairwise_cons.mpr ⟨fun p hp => Ne.symm (g3 p hp), S.nd⟩
/-- the first owned object becomes lasting -/
theorem Sat.freeze (S : Sat s₀ N L l ((a, P) :: own) s) : ∃ N' o, KeepsH N N' ∧ N'.get? a = some o ∧ P o ∧ Sat s₀ N' L l own s := by
  obtain ⟨g1, g2, o, g3, g4⟩ := S.owns _ (List.mem_cons_self ..)
  have nd := List.pairwise_cons.mp S.nd
  have S₁ : Sat s₀ N L l own s := { S with owns := fun p hp => S.owns p (List.mem_cons_of_mem _ hp), nd := nd.2 }
  obtain ⟨N', k, S', f⟩ := S₁.all
  exact ⟨N', o, k, f _ _ g3 g1.1 g2 fun p hp => Ne.symm (nd.1 p hp), g4, S'⟩
theorem Sat.drop (S : Sat s₀ N L l ((a, P) :: own) s) : Sat s₀ N L l own s :=
  { S with owns := fun p hp => S.owns p (List.mem_cons_of_mem _ hp), nd := (List.pairwise_cons.mp S.nd).2 }
theorem Sat.swap {p q : Addr × (Obj → Prop)} (S : Sat s₀ N L l (p :: q :: own) s) : Sat s₀ N L l (q :: p :: own) s := by
  obtain ⟨h1, h2⟩ := List.pairwise_cons.mp S.nd
  obtain ⟨h3, h4⟩ := List.pairwise_cons.mp h2
  refine { S with owns := fun x hx => S.owns x (by simp only [List.mem_cons] at hx ⊢; rcases hx with h | h | h <;> simp [h]), nd := ?_ }
  refine List.pairwise_cons.mpr ⟨fun x hx => ?_, List.pairwise_cons.mpr ⟨fun x hx => h1 x (List.mem_cons_of_mem _ hx), h4⟩⟩
  rcases List.mem_cons.mp hx with rfl | hx
  · exact Ne.symm (h1 q (List.mem_cons_self ..))
  · exact h3 x hx

/-- the object at a changes, all else stays -/
theorem Sat.upd0 (S : Sat s₀ N L l ((a, P) :: own) s) (hr : Rest s s') (hb : Heap.ExtBut a s.heap s'.heap) (h : ∃ o, s'.heap.get? a = some o ∧ P' o) : Sat s₀ N L l ((a, P') :: own) s' := by
  obtain ⟨g1, g2, o, g3, g4⟩ := S.owns _ (List.mem_cons_self ..)
  have nd := List.pairwise_cons.mp S.nd
  refine ⟨S.rest.trans hr, fun b o e => hb b o ?_ (S.base b o e), fun b o e => hb b o ?_ (S.keep b o e), S.disj, ?_, S.frame, ?_, ?_⟩
  · rintro rfl; rw [g1.1] at e; cases e
  · rintro rfl; rw [g1.2] at e; cases e
  · obtain ⟨m, ⟨o, es, ep, h1, h2⟩, h3⟩ := S.ns
    exact ⟨m, ⟨o, es, ep, hb _ _ (Ne.symm g2) h1, h2⟩, h3⟩
  · intro p hp
    rcases List.mem_cons.mp hp with rfl | hp
    · exact ⟨g1, g2, h⟩
    · obtain ⟨k1, k2, o', k3, k4⟩ := S.owns p (List.mem_cons_of_mem _ hp)
      exact ⟨k1, k2, o', hb _ _ (Ne.symm (nd.1 p hp)) k3, k4⟩
  · exact List.pairwise_cons.mpr ⟨nd.1, nd.2⟩
theorem Sat.upd1 {p : Addr × (Obj → Prop)} (S : Sat s₀ N L l (p :: (a, P) :: own) s) (hr : Rest s s') (hb : Heap.ExtBut a s.heap s'.heap) (h : ∃ o, s'.heap.get? a = some o ∧ P' o) : Sat s₀ N L l (p :: (a, P') :: own) s' :=
  (S.swap.upd0 hr hb h).swap
/-- the frame's names -/
theorem Sat.store {x : Str} {v : Value} {m : Str → Option Value} (S : Sat s₀ N L l own s) (hr : Rest s s') (hb : Heap.ExtBut L s.heap s'.heap) (h2 : ∀ y u, l.lookup y = some u → m y = some u) (h : s'.heap.Ns L (fun y => if y = x then some v else m y)) :
    Sat s₀ N L ((x, v) :: l) own s' := by
  refine ⟨S.rest.trans hr, fun b o e => hb b o ?_ (S.base b o e), fun b o e => hb b o ?_ (S.keep b o e), S.disj, ?_, S.frame, ?_, S.nd⟩
  · rintro rfl; rw [S.frame.1] at e; cases e
  · rintro rfl; rw [S.frame.2] at e; cases e
  · refine ⟨_, h, fun y u e => ?_⟩
    rw [List.lookup_cons] at e
    by_cases hy : y = x
    · subst hy
      simp only [beq_self_eq_true] at e
      simpa using e
    · rw [if_neg hy]
      rw [show (y == x) = false from beq_eq_false_iff_ne.mpr hy] at e
      exact h2 y u e
  · intro p hp
    obtain ⟨k1, k2, o', k3, k4⟩ := S.owns p hp
    exact ⟨k1, k2, o', hb _ _ k2 k3, k4⟩
/-- the first owned object goes its way, all else stays -/
theorem Sat.leave (S : Sat s₀ N L l ((a, P) :: own) s) (hr : Rest s s') (hb : Heap.ExtBut a s.heap s'.heap) : Sat s₀ N L l own s' := by
  obtain ⟨g1, g2, o, g3, g4⟩ := S.owns _ (List.mem_cons_self ..)
  have nd := List.pairwise_cons.mp S.nd
  refine ⟨S.rest.trans hr, fun b o e => hb b o ?_ (S.base b o e), fun b o e => hb b o ?_ (S.keep b o e), S.disj, ?_, S.frame, ?_, nd.2⟩
  · rintro rfl; rw [g1.1] at e; cases e
  · rintro rfl; rw [g1.2] at e; cases e
  · obtain ⟨m, ⟨o, es, ep, h1, h2⟩, h3⟩ := S.ns
    exact ⟨m, ⟨o, es, ep, hb _ _ (Ne.symm g2) h1, h2⟩, h3⟩
  · intro p hp
    obtain ⟨k1, k2, o', k3, k4⟩ := S.owns p (List.mem_cons_of_mem _ hp)
    exact ⟨k1, k2, o', hb _ _ (Ne.symm (nd.1 p hp)) k3, k4⟩
theorem Sat.upd2 {p q : Addr × (Obj → Prop)} (S : Sat s₀ N L l (p :: q :: (a, P) :: own) s) (hr : Rest s s') (hb : Heap.ExtBut a s.heap s'.heap) (h : ∃ o, s'.heap.get? a = some o ∧ P' o) : Sat s₀ N L l (p :: q :: (a, P') :: own) s' := by
  obtain ⟨h1, h2⟩ := List.pairwise_cons.mp S.nd
  have S₁ : Sat s₀ N L l (q :: (a, P) :: own) s := S.drop
  have S₂ := S₁.upd1 (P' := P') hr hb h
  obtain ⟨g1, g2, o, g3, g4⟩ := S.owns p (List.mem_cons_self ..)
  have hpa : p.1 ≠ a := h1 _ (List.mem_cons_of_mem _ (List.mem_cons_self ..))
  refine { S₂ with owns := ?_, nd := ?_ }
  · intro x hx
    rcases List.mem_cons.mp hx with rfl | hx
    · exact ⟨g1, g2, o, hb _ _ hpa g3, g4⟩
    · exact S₂.owns x hx
  · refine List.pairwise_cons.mpr ⟨fun x hx => ?_, S₂.nd⟩
    rcases List.mem_cons.mp hx with rfl | hx
    · exact h1 _ (List.mem_cons_self ..)
    · rcases List.mem_cons.mp hx with rfl | hx
      · exact hpa
      · exact h1 _ (List.mem_cons_of_mem _ (List.mem_cons_of_mem _ hx))
theorem Sat.upd3 {p q r : Addr × (Obj → Prop)} (S : Sat s₀ N L l (p :: q :: r :: (a, P) :: own) s) (hr : Rest s s') (hb : Heap.ExtBut a s.heap s'.heap) (h : ∃ o, s'.heap.get? a = some o ∧ P' o) : Sat s₀ N L l (p :: q :: r :: (a, P') :: own) s' := by
  obtain ⟨h1, h2⟩ := List.pairwise_cons.mp S.nd
  have S₁ : Sat s₀ N L l (q :: r :: (a, P) :: own) s := S.drop
  have S₂ := S₁.upd2 (P' := P') hr hb h
  obtain ⟨g1, g2, o, g3, g4⟩ := S.owns p (List.mem_cons_self ..)
  have hpa : p.1 ≠ a := h1 (a, P) (by simp)
  refine { S₂ with owns := ?_, nd := ?_ }
  · intro x hx
    rcases List.mem_cons.mp hx with rfl | hx
    · exact ⟨g1, g2, o, hb _ _ hpa g3, g4⟩
    · exact S₂.owns x hx
  · refine List.pairwise_cons.mpr ⟨fun x hx => ?_, S₂.nd⟩
    simp only [List.mem_cons] at hx
    rcases hx with rfl | rfl | rfl | hx
    · exact h1 _ (by simp)
    · exact h1 _ (by simp)
    · exact hpa
    · exact h1 _ (by simp [hx])

theorem Sat.get0 (S : Sat s₀ N L l ((a, P) :: own) s) : ∃ o, s.heap.get? a = some o ∧ P o := (S.owns _ (List.mem_cons_self ..)).2.2
theorem Sat.get1 {p : Addr × (Obj → Prop)} (S : Sat s₀ N L l (p :: (a, P) :: own) s) : ∃ o, s.heap.get? a = some o ∧ P o := S.swap.get0
end

/-! ## What a called def hands back -/
def Ret (s : Shared) (Post : Value → Heap → Prop) (Q : Value → Shared → Prop) : Prop :=
  ∀ v s' M, Ext s s' → KeepsH M s'.heap → (∀ a o, M.get? a = some o → s.heap.get? a = none) → Post v M → Q v s'
theorem Sat.ret {s₀ s : Shared} {N : Heap} {L : Addr} {l : List (Str × Value)} {own : Own} {Post : Value → Heap → Prop} {Q : Value → Shared → Prop} {v : Value} (S : Sat s₀ N L l own s) (h : Ret s₀ Post Q) (hp : Post v N) : Q v s :=
  h v s N S.toExt S.keep S.disj hp

abbrev noE : Value → Shared → Prop := fun _ _ => False
def OkA (A : Around) (k : Nat) : Prop := A.handled = none ∧ A.depth + k < recursionLimit ∧ A.units + 8 * k < 800
theorem OkA.deeper {A : Around} {k : Nat} (h : OkA A (k + 1)) (env : Env) : OkA (A.deeper env) k :=
  ⟨h.1, by have := h.2.1; show A.depth + 1 + k < _; omega, by have := h.2.2; show A.units + 3 + 8 * k < _; omega⟩
theorem OkA.mono {A : Around} {k j : Nat} (h : OkA A k) (hj : j ≤ k) : OkA A j := ⟨h.1, by have := h.2.1; omega, by have := h.2.2; omega⟩

end Mine

namespace Mine
open PySem PySem.Calls PyProof.Rows

section
variable {M : Model} {prog : Program} {w : World} {A : Around} {E : Value → Shared → Prop} {s₀ s : Shared} {N : Heap} {l : List (Str × Value)} {own : Own} {env : Env} {x : Str} {pos : Pos} {v : Value}

/-! ## Names -/
theorem ldn (S : Sat s₀ N env.locals l own s) (hv : l.lookup x = some v) (hl : env.kindOf x = some .local) (hk : env.scope.kind = .function) {Q : Value → Shared → Prop} (h : Q v s) : wpAny M A (loadName env x) Q E s :=
  let ⟨_, h1, h2⟩ := S.ns; wpAny_loadName_local hk hl h1 (h2 x v hv) h
theorem ldL (S : Sat s₀ N env.locals l own s) (hv : l.lookup x = some v) (hl : env.kindOf x = some .local) (hk : env.scope.kind = .function) {Q : Value → Shared → Prop} (h : Q v s)
    (hd : (x == ("__debug__" : Str)) = false) : wpAny M A (eval (.Name x pos) env) Q E s := wpAny_Name (ldn S hv hl hk h) hd
theorem stL (S : Sat s₀ N env.locals l own s) (hl : env.kindOf x = some .local) (hk : env.scope.kind = .function) {Q : Unit → Shared → Prop} (h : ∀ s', Sat s₀ N env.locals ((x, v) :: l) own s' → Q () s') :
    wpAny M A (storeName env x v) Q E s :=
  let ⟨_, h1, h2⟩ := S.ns
  wpAny_storeName_local hl h1 (fun _ hn hs => h _ (S.store ⟨rfl, rfl, rfl⟩ hs.extBut h2 hn)) (by rw [hk]; rfl)

def CellP (v : Option Value) : Obj → Prop := fun o => o.data = .cell v
theorem ldC {c : Addr} (hv : s.heap.IsCell c (some v)) (hc : env.cells.lookup x = some c) (hl : env.kindOf x = some .cell) (hk : env.scope.kind = .function) {Q : Value → Shared → Prop} (h : Q v s)
    (hd : (x == ("__debug__" : Str)) = false) : wpAny M A (eval (.Name x pos) env) Q E s := wpAny_Name (wpAny_loadName_cell hk hl hc hv h) hd
theorem Sat.cell {L c : Addr} {v : Option Value} (S : Sat s₀ N L l own s) (h : (c, CellP v) ∈ own) : s.heap.IsCell c v := let ⟨_, _, o, h1, h2⟩ := S.owns _ h; ⟨o, h1, h2⟩
theorem stC {c : Addr} {v₀ : Option Value} (hv : s.heap.IsCell c v₀) (hc : env.cells.lookup x = some c) (hl : env.kindOf x = some .cell) (hk : env.scope.kind = .function) {Q : Unit → Shared → Prop}
    (h : ∀ s', Rest s s' → Heap.ExtBut c s.heap s'.heap → (∃ o, s'.heap.get? c = some o ∧ CellP (some v) o) → Q () s') : wpAny M A (storeName env x v) Q E s :=
  wpAny_storeName_cell hk hl hc hv fun _ h1 h2 => h _ ⟨rfl, rfl, rfl⟩ h2.extBut h1

theorem cInt {i : Int} {k : Nat} {Q : Value → Shared → Prop} (h : ∀ t s', Ext s s' → Q (.int i t) s') : wpAny M A (eval (.Constant (.int i) k pos) env) Q E s := wpAny_Constant_int (h _ _ (ext_toks _ _))
theorem cStr {y : Str} {k : Nat} {Q : Value → Shared → Prop} (h : ∀ t s', Ext s s' → Q (.str y t) s') : wpAny M A (eval (.Constant (.str y) k pos) env) Q E s := wpAny_Constant_str (h _ _ (ext_toks _ _))

/-! ## Globals -/
def gTab : List (Str × Value) := [("_ellipsis_match", .ref 21), ("EXACT_TOKEN_TYPES", .ref 22), ("ISNONTERMINAL", .ref 31), ("_law_other", .ref 38), ("_law_token", .ref 45), ("_law_rows", .ref 50), ("_law_fits", .ref 55), ("_law_fronts", .ref 60)]
def bTab : List (Str × Value) := [("len", .builtin "len"), ("range", .type "range"), ("list", .type "list"), ("str", .type "str"), ("sum", .builtin "sum")]
def defAt (i : Nat) : Str × Arguments × List Stmt × Scope := match PySem.Challenge.pw_mq0247_01.main.body[i]? with
  | some (.FunctionDef name args body _ _ _ scope _ _ _) => (name, args, body, scope)
  | _ => default
def fdAt (i : Nat) (cd : Addr) (pm : Value) : FuncData :=
  { name := (defAt i).1, qualname := (defAt i).1, params := (defAt i).2.1, body := .stmts (defAt i).2.2.1, scope := (defAt i).2.2.2, globals := 3, closure := [], defaults := .none, kwdefaults := .none, pyModule := pm, code := .ref cd }
/-- a def of the text stands there -/
def FnAt (i : Nat) (f : Addr) (h : Heap) : Prop := ∃ cd pm o, h.get? f = some o ∧ o.data = .func (fdAt i cd pm) ∧ h.CodeRec (.ref cd) (defAt i).1
theorem FnAt.keeps {i : Nat} {f : Addr} {h h' : Heap} (x : FnAt i f h) (k : KeepsH h h') : FnAt i f h' := let ⟨cd, pm, o, h1, h2, h3⟩ := x; ⟨cd, pm, o, k _ _ h1, h2, h3.keeps k⟩

/-- the table of the operators, as the law needs it -/
def TabRel (kvs : List (Str × Value)) : Prop := kvs.length = 48 ∧ (∀ (i : Nat) (k : Str) (v : Value), kvs[i]? = some (k, v) → ∃ n wd t, v = Value.int n t ∧ k = mk wd ∧ OkT (n, wd)) ∧
  (∃ t, PySem.valueAt kvs (Str.ofString "+") = some (Value.int 14 t)) ∧ (∃ t, PySem.valueAt kvs (Str.ofString ".") = some (Value.int 23 t)) ∧ ∃ t, PySem.valueAt kvs (Str.ofString "...") = some (Value.int 52 t)
structure Gl (prog : Program) (w : World) (h : Heap) : Prop where
  tab : ∃ kvs, h.DictOf (PySem.strKind prog w) 22 kvs ∧ TabRel kvs
  ns : ∃ mg mb, h.Ns mainGlobals mg ∧ h.Ns 0 mb ∧ (∀ x v, gTab.lookup x = some v → mg x = some v) ∧ (∀ x v, bTab.lookup x = some v → mg x = none ∧ mb x = some v) ∧
    (∃ t, mg "ELLIPSIS_MARKER" = some (.str dotsS t)) ∧ ∃ t, mg "NT_OFFSET" = some (.int 256 t)
  lim : h.NoLimit
  fns : FnAt 2 21 h ∧ FnAt 54 31 h ∧ FnAt 56 38 h ∧ FnAt 57 45 h ∧ FnAt 58 50 h ∧ FnAt 59 55 h ∧ FnAt 60 60 h
theorem Gl.keeps {h h' : Heap} (G : Gl prog w h) (k : KeepsH h h') : Gl prog w h' where
  tab := let ⟨kvs, h1, h2⟩ := G.tab; ⟨kvs, h1.keep k, h2⟩
  ns := let ⟨mg, mb, h1, h2, r⟩ := G.ns; ⟨mg, mb, h1.keeps k, h2.keeps k, r⟩
  lim := G.lim.keeps k
  fns := let ⟨a, b, c, d, e, f, g⟩ := G.fns; ⟨a.keeps k, b.keeps k, c.keeps k, d.keeps k, e.keeps k, f.keeps k, g.keeps k⟩
theorem ldG (G : Gl prog w s.heap) (hv : gTab.lookup x = some v) (hg : env.globals = mainGlobals) (hl : env.kindOf x = some .globalImplicit) (hk : env.scope.kind = .function) {Q : Value → Shared → Prop} (h : Q v s)
    (hd : (x == ("__debug__" : Str)) = false) : wpAny M A (eval (.Name x pos) env) Q E s :=
  let ⟨_, _, h1, _, h3, _⟩ := G.ns
  Name_function_global hk hl (loadGlobal_global (by rw [hg]; exact h1) (h3 _ _ hv) h) hd
theorem ldB (G : Gl prog w s.heap) (hv : bTab.lookup x = some v) (hg : env.globals = mainGlobals) (hb : env.builtins = 0) (hl : env.kindOf x = some .globalImplicit) (hk : env.scope.kind = .function) {Q : Value → Shared → Prop} (h : Q v s)
    (hd : (x == ("__debug__" : Str)) = false) : wpAny M A (eval (.Name x pos) env) Q E s :=
  let ⟨_, _, h1, h2, _, h4, _⟩ := G.ns
  Name_function_global hk hl (loadGlobal_builtin (by rw [hg]; exact h1) (h4 _ _ hv).1 (by rw [hb]; exact h2) (h4 _ _ hv).2 h) hd

/-! ## A def of the text is called -/
def N0 : Heap := ⟨#[], {}⟩
theorem n0 (a : Addr) : N0.get? a = none := by simp [N0, Heap.get?]

theorem fn_run {i : Nat} {f : Addr} {vals : List Value} {binds : List (Str × Value)} {body : List Stmt} {Q : Value → Shared → Prop} {k : Nat} (hA : OkA A (k + 1)) (G : Gl prog w s.heap) (hf : FnAt i f s.heap)
    (hbind : ∀ cd pm, bindArgs (fdAt i cd pm) ⟨vals, []⟩ = pure binds) (hbody : (defAt i).2.2.1 = body)
    (hcell : ∀ x ∈ (defAt i).2.2.2.names, x.2 ≠ .cell) (hloc : ∀ x ∈ binds, (defAt i).2.2.2.names.lookup x.1 = some .local)
    (hco : (defAt i).2.2.2.isCoroutine = false) (hgen : (defAt i).2.2.2.isGenerator = false) (hk : (defAt i).2.2.2.kind = .function)
    (h : ∀ cd pm L s₁, OkA (A.deeper (callEnv (fdAt i cd pm) L f)) k → Gl prog w s₁.heap → Sat s N0 L binds.reverse [] s₁ →
      wpAny (model prog w) (A.deeper (callEnv (fdAt i cd pm) L f)) (execs body (callEnv (fdAt i cd pm) L f)) (fun fl s' => Q (match fl with | .ret v => v | _ => .none) s') noE s₁) :
    wpAny (model prog w) A (call (.ref f) vals) Q E s := by
  obtain ⟨cd, pm, o, h1, h2, h3⟩ := hf
  refine wpAny_call (codeAny_call_def (by have := hA.2.1; omega) h1 h2 G.lim h3 (by show FuncBody.stmts _ = _; rw [hbody]) (BindsTo.of_eq (hbind cd pm)) hcell hloc (fun h₀ hns hkeep => ?_) hco hgen hk)
  have e : Ext s { s with heap := h₀, toks := s.toks + binds.length } := ext_of hkeep
  refine wpAny_mono (h cd pm s.heap.objs.size _ (hA.deeper _) (G.keeps hkeep) ⟨e.1, e.2, fun b o e => (by rw [n0] at e; cases e), fun b o e => (by rw [n0] at e; cases e), ⟨_, hns, fun _ _ e => e⟩, ⟨fresh_size _, n0 _⟩, fun p hp => (by cases hp), List.Pairwise.nil⟩) (fun _ _ q => q) fun _ _ q => q.elim

theorem fn_runC {i : Nat} {f : Addr} {vals : List Value} {binds : List (Str × Value)} {body : List Stmt} {Q : Value → Shared → Prop} {k : Nat} (hA : OkA A (k + 1)) (G : Gl prog w s.heap) (hf : FnAt i f s.heap)
    (hbind : ∀ cd pm, bindArgs (fdAt i cd pm) ⟨vals, []⟩ = pure binds) (hbody : (defAt i).2.2.1 = body)
    (hkind : ∀ n, ∀ x ∈ binds, (defAt i).2.2.2.names.lookup x.1 = some .local ∨ ((defAt i).2.2.2.names.lookup x.1 = some .cell ∧ ((cellsFrom n (defAt i).2.2.2.names []).lookup x.1).isSome = true))
    (hnd : ∀ n, ((cellsFrom n (defAt i).2.2.2.names []).map (·.1)).Nodup)
    (hco : (defAt i).2.2.2.isCoroutine = false) (hgen : (defAt i).2.2.2.isGenerator = false) (hk : (defAt i).2.2.2.kind = .function)
    (h : ∀ cd pm L s₁ m, OkA (A.deeper (callEnvC (fdAt i cd pm) L f)) k → Gl prog w s₁.heap → (m = bindL (callEnvC (fdAt i cd pm) L f).kindOf binds fun _ => none) → (∀ l : List (Str × Value), (∀ y u, l.lookup y = some u → m y = some u) →
        Sat s N0 L l ((cellsFrom (L + 1) (defAt i).2.2.2.names []).map fun p => (p.2, CellP (bindC (callEnvC (fdAt i cd pm) L f).kindOf binds (fun _ => none) p.1))) s₁) →
      wpAny (model prog w) (A.deeper (callEnvC (fdAt i cd pm) L f)) (execs body (callEnvC (fdAt i cd pm) L f)) (fun fl s' => Q (match fl with | .ret v => v | _ => .none) s') noE s₁) :
    wpAny (model prog w) A (call (.ref f) vals) Q E s := by
  obtain ⟨cd, pm, o, h1, h2, h3⟩ := hf
  refine wpAny_call (codeAny_call_cells (by have := hA.2.1; omega) h1 h2 G.lim h3 (by show FuncBody.stmts _ = _; rw [hbody]) (hbind cd pm) rfl (hkind _) (fun s₁ x => ?_) hco hgen hk)
  obtain ⟨hh, tk, e⟩ := x.toInCall.same
  have e' : Ext s s₁ := by
    have k := x.toInCall.keep
    subst e; exact ext_of k
  refine wpAny_mono (h cd pm s.heap.objs.size s₁ _ (hA.deeper _) (G.keeps e'.2) rfl fun l hl => ⟨e'.1, e'.2, fun b o e => (by rw [n0] at e; cases e), fun b o e => (by rw [n0] at e; cases e), ⟨_, x.toInCall.ns, hl⟩, ⟨fresh_size _, n0 _⟩, ?_, ?_⟩) (fun _ _ q => q) fun _ _ q => q.elim
  · intro p hp
    obtain ⟨q, hq, rfl⟩ := List.mem_map.mp hp
    have hL := x.above q.1 q.2 hq
    have hL' : s.heap.objs.size < q.2 := hL
    refine ⟨⟨?_, n0 _⟩, Nat.ne_of_gt hL', ?_⟩
    · cases e : s.heap.get? q.2 with
      | none => rfl
      | some o => have h9 := Heap.lt_size e; exact absurd hL' (Nat.not_lt.mpr (Nat.le_of_lt h9))
    · have hlk : ∀ (cs : List (Str × Addr)), (cs.map (·.1)).Nodup → q ∈ cs → cs.lookup q.1 = some q.2 := by
        intro cs
        induction cs with
        | nil => intro _ h; cases h
        | cons r cs ih =>
          intro hnd hm
          rw [List.map_cons, List.nodup_cons] at hnd
          rw [show r = (r.1, r.2) from rfl, List.lookup_cons]
          rcases List.mem_cons.mp hm with rfl | hm
          · simp
          · have : (q.1 == r.1) = false := beq_eq_false_iff_ne.mpr fun e => hnd.1 (e ▸ List.mem_map.mpr ⟨q, hm, rfl⟩)
            rw [this]; exact ih hnd.2 hm
      obtain ⟨o, ho, hd⟩ := x.cell q.1 q.2 (hlk _ (hnd _) hq)
      exact ⟨o, ho, hd⟩
  · have := x.apart
    exact List.pairwise_map.mpr this

/-! ## Sources of a loop -/
structure Src (prog : Program) (w : World) (A : Around) (K : Heap) (s s₂ : Shared) (it : Addr) (n : Nat) (P : Nat → Value → Prop) (fp : List Addr) (St : Nat → Heap → Prop) : Prop where
  ext : Ext s s₂
  new : s.heap.get? it = none
  walks : Walks prog w A it fp [it] n P St
  start : St 0 s₂.heap
  live : ∀ i h, St i h → ∃ o, h.get? it = some o
  foot : ∀ b ∈ fp, b = it ∨ ∃ o, K.get? b = some o
  go : ∀ i (s : Shared) (target : Expr) (v : Value) (Q : Unit → Shared → Prop) (E : Value → Shared → Prop), St i s.heap → Q () s → wpAny (model prog w) A (letOwnedTupleGo target (.ref it) v) Q E s

theorem go_of {it : Addr} {o : Obj} {nm : String} {target : Expr} {v : Value} {Q : Unit → Shared → Prop} (ho : s.heap.get? it = some o) (hc : o.cls = .type nm)
    (hn : ["enumerate", "zip", "dict_itemiterator", "dict_reverseitemiterator", "odict_iterator", "itertools.zip_longest", "itertools.pairwise"].contains nm = false) (hQ : Q () s) :
    wpAny (model prog w) A (letOwnedTupleGo target (.ref it) v) Q E s := by
  cases target <;> first | exact wpAny_pure hQ | skip
  all_goals
    cases v <;> first | exact wpAny_pure hQ | skip
    unfold letOwnedTupleGo
    refine wpAny_bind (wpAny_load ho ?_)
    rw [hc]
    split
    · rename_i h1 _
      cases h1
      rw [hn, Bool.false_and, if_neg Bool.false_ne_true]
      exact wpAny_pure hQ
    · exact wpAny_pure hQ

theorem list_src {K : Heap} {ax : Addr} {items : Array Value} (hh : A.handled = none) (hl : K.IsList ax items) (hk : KeepsH K s.heap) {Q : Value → Shared → Prop}
    (h : ∀ it s₂, Src prog w A K s s₂ it items.size (fun i v => items[i]? = some v) [it, ax] (fun i h => h.IsListIter it ax i ∧ h.IsList ax items) → Q (.ref it) s₂) : wpAny (model prog w) A (pyIter (.ref ax)) Q E s := by
  obtain ⟨o, ho, hc, hd⟩ := hl
  have hl' : s.heap.IsList ax items := ⟨o, hk _ _ ho, hc, hd⟩
  have hne : ax ≠ s.heap.objs.size := Nat.ne_of_lt (Heap.lt_size (hk _ _ ho))
  refine wpAny_pyIter_list hl' (h _ _ ⟨ext_of (keeps_push _ _), fresh_size _, Walks.list hh _ ax hne items, ⟨⟨_, Heap.get?_push_size _ rfl, rfl, rfl⟩, hl'.push _⟩, fun i h st => let ⟨o, ho, _⟩ := st.1; ⟨o, ho⟩, ?_, ?_⟩)
  · intro b hb
    rcases List.mem_cons.mp hb with rfl | hb
    · exact .inl rfl
    · rw [List.mem_singleton.mp hb]; exact .inr ⟨o, ho⟩
  · rintro i s' target v Q E ⟨⟨o', ho', hc', _⟩, _⟩ hQ
    exact go_of ho' hc' (by decide) hQ

theorem range_src {K : Heap} {n : Nat} {t : Tok} (hh : A.handled = none) (hn : n < 2 ^ 62) {Q : Value → Shared → Prop}
    (h : ∀ it s₁ s₂, Ext s s₁ → Src prog w A K s₁ s₂ it n (fun i v => ∃ t, v = .int (i : Int) t) [it] (fun i h => IsRangeIter h it (0 + (i : Nat) * 1) ((n : Int) - (i : Nat)) 1) → Q (.ref it) s₂) :
    wpAny (model prog w) A (call (.type "range") [.int (n : Int) t]) (fun xv s₁ => wpAny (model prog w) A (pyIter xv) Q E s₁) E s := by
  refine call_range_1 ?_
  refine wpAny_pyIter_range (IsRange.new ..) (small_one (by decide) (by decide) (by omega) (by omega)) ?_
  have hsz : Builtin.Range.rangeSize 0 (n : Int) 1 = (n : Int) := by rw [rangeSize_one]; split <;> omega
  have W := Walks.range (prog := prog) (w := w) (A := A) hh (s.heap.push { cls := .type "range", data := .fields #[.int 0 s.toks, .int n t, .int 1 (s.toks + 1)] }).objs.size 0 1 n
  refine h _ _ _ (ext_of (keeps_push _ _)) ⟨⟨⟨rfl, rfl, rfl⟩, keeps_push _ _⟩, fresh_size _, ⟨W.sub, W.frame, ?_, W.done, W.self⟩, ?_, fun i h st => ⟨_, st⟩, fun b hb => .inl (List.mem_singleton.mp hb), ?_⟩
  · intro i s' Q E hi st hQ
    exact W.item i s' Q E hi st fun v h' tk hv hst hk => hQ v h' tk (by obtain ⟨t, e⟩ := hv; exact ⟨t, by simpa using e⟩) hst hk
  · show IsRangeIter _ _ _ _ _
    rw [show (0 + ((0 : Nat) : Int) * 1) = 0 by simp, show ((n : Int) - ((0 : Nat) : Int)) = Builtin.Range.rangeSize 0 n 1 by rw [hsz]; simp]
    exact Heap.get?_push_size _ rfl
  · intro i s' target v Q E st hQ
    exact go_of st rfl (by decide) hQ

/-! ## A for -/
theorem for_walk {target : Expr} {body : List Stmt} {it L : Addr} {n : Nat} {P : Nat → Value → Prop} {fp : List Addr} {St : Nat → Heap → Prop} {R : Result → Shared → Prop} {s₁ : Shared} {K : Heap}
    (X : Src prog w A K s₁ s it n P fp St) (S : Sat s₀ N L l own s₁) (hK : KeepsH K s₀.heap ∨ KeepsH K N)
    (J : Nat → Heap → List (Str × Value) → Own → Prop) (hJ : J 0 N l own)
    (turn : ∀ i v N' l' own' o s₁, i < n → P i v → KeepsH N N' → J i N' l' own' → Sat s₀ N' L l' ((it, (· = o)) :: own') s₁ →
      wpAny (model prog w) A (assign target env v) (fun _ s₂ => wpAny (model prog w) A (execs body env) (fun f s₃ => match f with
        | .next | .cont => ∃ N'' l'' own'', KeepsH N' N'' ∧ J (i + 1) N'' l'' own'' ∧ Sat s₀ N'' L l'' ((it, (· = o)) :: own'') s₃
        | .brk => R (.ok .next) s₃
        | .ret v => R (.ok (.ret v)) s₃) noE s₂) noE s₁)
    (done : ∀ N' l' own' s₁, KeepsH N N' → J n N' l' own' → Sat s₀ N' L l' own' s₁ → R (.ok .next) s₁) :
    codeAny (model prog w) A (.forLoop target (.ref it) body [] env) R s := by
  have lift : ∀ {α : Type} {t : Sem α} {Q : α → Shared → Prop} {F : Value → Shared → Prop} {s : Shared}, wpAny (model prog w) A t Q noE s → wpAny (model prog w) A t Q F s :=
    fun h => wpAny_mono h (fun _ _ q => q) fun _ _ q => q.elim
  obtain ⟨o₀, ho₀⟩ := X.live 0 _ X.start
  have S₁ : Sat s₀ N L l ((it, (· = o₀)) :: own) s := S.newO X.ext ho₀ X.new rfl
  refine codeAny_forLoop_any (fun k s' => ∃ i N' l' own' o, k = n - i ∧ i ≤ n ∧ St i s'.heap ∧ KeepsH N N' ∧ J i N' l' own' ∧ Sat s₀ N' L l' ((it, (· = o)) :: own') s') ?_ n ⟨0, N, l, own, o₀, by omega, by omega, X.start, KeepsH.refl _, hJ, S₁⟩
  rintro k s' ⟨i, N', l', own', o, rfl, hi, hst, hN, hJ', S'⟩
  by_cases hin : i = n
  · subst hin
    refine X.walks.done s' _ _ hst fun h' tk hk => wpAny_execs_nil ?_
    exact done N' l' own' _ hN hJ' (S'.leave ⟨rfl, rfl, rfl⟩ fun b o hb e => hk b o (by simpa using hb) e)
  · refine X.walks.item i s' _ _ (by omega) hst fun v h' tk hv hst' hk => ?_
    obtain ⟨o', ho'⟩ := X.live _ _ hst'
    have S₂ : Sat s₀ N' L l' ((it, (· = o')) :: own') { s' with heap := h', toks := tk } := S'.upd0 ⟨rfl, rfl, rfl⟩ (fun b o hb e => hk b o (by simpa using hb) e) ⟨o', ho', rfl⟩
    refine X.go (i + 1) _ target v _ _ hst' ?_
    refine lift (wpAny_mono (turn i v N' l' own' o' _ (by omega) hv hN hJ' S₂) (fun _ s₂ h₂ => lift (wpAny_mono h₂ (fun f s₃ h₃ => ?_) fun _ _ q => q)) fun _ _ q => q)
    have next : (∃ N'' l'' own'', KeepsH N' N'' ∧ J (i + 1) N'' l'' own'' ∧ Sat s₀ N'' L l'' ((it, (· = o')) :: own'') s₃) →
        ∃ m, m < n - i ∧ ∃ i N' l' own' o, m = n - i ∧ i ≤ n ∧ St i s₃.heap ∧ KeepsH N N' ∧ J i N' l' own' ∧ Sat s₀ N' L l' ((it, (· = o)) :: own') s₃ := by
      rintro ⟨N'', l'', own'', k1, k2, k3⟩
      refine ⟨n - (i + 1), by omega, i + 1, N'', l'', own'', o', rfl, by omega, ?_, hN.trans k1, k2, k3⟩
      refine X.walks.frame _ _ _ hst' fun b hb o e => ?_
      rcases X.foot b hb with rfl | ⟨ob, hob⟩
      · obtain ⟨o'', g1, g2⟩ := k3.get0
        have e' : h'.get? b = some o := e
        rw [ho'] at e'; cases e'; rw [g1, g2]
      · rcases hK with hK | hK
        · have e1 := S₂.base _ _ (hK _ _ hob)
          have e' : h'.get? b = some o := e
          have e1' : h'.get? b = some ob := e1
          rw [e1'] at e'; cases e'
          exact k3.base _ _ (hK _ _ hob)
        · have e1 := S₂.keep _ _ (hN _ _ (hK _ _ hob))
          have e' : h'.get? b = some o := e
          have e1' : h'.get? b = some ob := e1
          rw [e1'] at e'; cases e'
          exact k3.keep _ _ (k1 _ _ (hN _ _ (hK _ _ hob)))
    cases f with
    | next => exact next h₃
    | cont => exact next h₃
    | brk => exact h₃
    | ret v => exact h₃
end
end Mine

namespace Mine
open PySem PySem.Calls PyProof.Rows

/-- a list of exactly these -/
def PL (ys : Array Value) : Obj → Prop := fun o => ∃ n, o = { cls := .type "list", data := .seq ys n }
section
variable {M : Model} {prog : Program} {w : World} {A : Around} {E : Value → Shared → Prop} {s₀ s : Shared} {N : Heap} {l : List (Str × Value)} {own : Own} {env : Env}

theorem comp_loop {R : Result → Shared → Prop} {elt target iter : Expr} {scope : Scope} {pos : Pos} {it acc : Value} {env : Env} (I : Nat → Shared → Prop)
    (turn : ∀ n s, I n s → wpAny (model prog w) A (pyNext it) (fun r s₁ => match r with
      | none => R (.ok .next) s₁
      | some v => wpAny (model prog w) A (letOwnedTupleGo target it v) (fun _ s₁' => wpAny (model prog w) A (assign target env v) (fun _ s₂ => wpAny (model prog w) A (eval elt env) (fun x s₃ =>
          wpAny (model prog w) A (call (.builtin "list.append") [acc, x]) (fun _ s₄ => ∃ m, m < n ∧ I m s₄) noE s₃) noE s₂) noE s₁') noE s₁) noE s)
    (n : Nat) (h : I n s) : codeAny (model prog w) A (.compLoop (.ListComp elt [⟨target, iter, [], 0⟩] scope pos) 0 it acc env) R s := by
  have lift : ∀ {α : Type} {t : Sem α} {Q : α → Shared → Prop} {F : Value → Shared → Prop} {s : Shared}, wpAny (model prog w) A t Q noE s → wpAny (model prog w) A t Q F s :=
    fun h => wpAny_mono h (fun _ _ q => q) fun _ _ q => q.elim
  refine codeAny_loop rfl I (fun n s hI => ?_) n h
  show wpAny _ A ((compTurn (.ListComp elt [⟨target, iter, [], 0⟩] scope pos) 0 it acc env).onRaise (fun x => do noteFrame x env; theTreesLotGoes x)) _ _ s
  refine wpAny_noted ?_
  rw [compTurn_list1]
  refine wpAny_bind (wpAny_standAt (wpAny_bind (lift (wpAny_mono (turn n s hI) (fun r s₁ h₁ => ?_) fun _ _ h' => h'))))
  cases r with
  | none => exact wpAny_pure h₁
  | some v =>
    refine wpAny_bind (lift (wpAny_mono h₁ (fun _ s₁' h₁' => ?_) fun _ _ q => q))
    exact wpAny_bind (lift (wpAny_mono h₁' (fun _ s₂ h₂ => wpAny_bind (wpAny_bind (lift (wpAny_mono h₂ (fun x s₃ h₃ => wpAny_bind (lift (wpAny_mono h₃
      (fun _ s₄ h₄ => wpAny_pure (wpAny_pure ⟨rfl, h₄⟩)) fun _ _ h' => h'))) fun _ _ h' => h')))) fun _ _ h' => h'))

structure CompIn (prog : Program) (w : World) (A : Around) (env : Env) (scope : Scope) (cl : List (Str × Addr)) (target elt : Expr) (Q : Value → Shared → Prop) (K : Heap) (s₁ s₂ : Shared) (it : Addr) (n : Nat) (P : Nat → Value → Prop)
    (fp : List Addr) (St : Nat → Heap → Prop) (J : Nat → Heap → Array Value → Prop) : Prop where
  src : Src prog w A K s₁ s₂ it n P fp St
  sub : KeepsH K s₁.heap
  size : n ≤ sizeLine
  len : ∀ i N ys, J i N ys → ys.size = i
  start : J 0 N0 #[]
  turn : ∀ C i v N' ys l' own o s₃, i < n → P i v → J i N' ys → Sat s₁ N' C l' own s₃ → (it, (· = o)) ∈ own →
    wpAny (model prog w) A (assign target (compEnvC scope cl C env) v) (fun _ s₄ => wpAny (model prog w) A (eval elt (compEnvC scope cl C env)) (fun y s₅ => ∃ N'' l'', KeepsH N' N'' ∧ J (i + 1) N'' (ys.push y) ∧ Sat s₁ N'' C l'' own s₅) noE s₄) noE s₃
  done : ∀ D N₁ N₂ ys s', J n N₁ ys → KeepsH N₁ N₂ → N₂.PlainList D ys → Ext s₁ s' → KeepsH N₂ s'.heap → (∀ a o, N₂.get? a = some o → s₁.heap.get? a = none) → Q (.ref D) s'

theorem comp_walk {s : Shared} {elt target iter : Expr} {scope : Scope} {cl : List (Str × Addr)} {pos : Pos} {Q : Value → Shared → Prop}
    (hclos : closureFor scope env = pure cl) (hcell : ∀ y ∈ scope.names, y.2 ≠ .cell) (hkind : scope.kind = .function)
    (hnames : ∀ y ∈ scope.names, y.2 = .local → scope.names.lookup y.1 = some .local)
    (h : wpAny (model prog w) A (eval iter env) (fun xv s₁ => wpAny (model prog w) A (pyIter xv) (fun itv s₂ => ∃ it s₁ K n P fp St J, itv = .ref it ∧ CompIn prog w A env scope cl target elt Q K s₁ s₂ it n P fp St J) E s₁) E s)
    (hs : ∀ x, foldedSetIterable iter env x = pure x) :
    wpAny (model prog w) A (eval (.ListComp elt [⟨target, iter, [], 0⟩] scope pos) env) Q E s := by
  have lift : ∀ {α : Type} {t : Sem α} {Q : α → Shared → Prop} {F : Value → Shared → Prop} {s : Shared}, wpAny (model prog w) A t Q noE s → wpAny (model prog w) A t Q F s :=
    fun h => wpAny_mono h (fun _ _ q => q) fun _ _ q => q.elim
  rw [eval_ListComp]
  refine wpAny_comprehension_free (use := none) rfl hs hclos hkind hnames (wpAny_mono h (fun xv _ h₁ => wpAny_mono h₁ (fun itv s₂ h₂ => ?_) fun _ _ e => e) fun _ _ e => e)
  obtain ⟨it, s₁, K, n, P, fp, St, J, rfl, X⟩ := h₂
  have Y := X.src
  refine wpAny_newObj_type (wpAny_newFunctionEnv hcell (by intro y hy; simp at hy) (fun h₁ hns₁ hsb₁ => ?_) hkind)
  dsimp only at hns₁ hsb₁ ⊢
  generalize hH2 : s₂.heap.push { cls := .type "list", dict := none, data := .seq ([] : List Value).toArray } = H2 at hns₁ hsb₁ ⊢
  have hC : H2.objs.size = s₂.heap.objs.size + 1 := by rw [← hH2, Heap.size_push]
  have hDC : s₂.heap.objs.size ≠ H2.objs.size := by rw [hC]; exact Nat.ne_of_lt (Nat.lt_succ_self _)
  have old : KeepsH s₂.heap h₁ := fun b o e => hsb₁.extBut b o (by have := Heap.lt_size e; rw [hC]; exact Nat.ne_of_lt (Nat.lt_succ_of_lt this)) (Heap.get?_push_of_some _ (hH2 ▸ Heap.get?_push_of_some _ e))
  obtain ⟨o₀, ho₀⟩ := Y.live 0 _ Y.start
  have below : ∀ a, s₂.heap.objs.size ≤ a → s₁.heap.get? a = none := fun a ha => by
    cases e : s₁.heap.get? a with
    | none => rfl
    | some o' => exact absurd (Heap.lt_size (Y.ext.2 _ _ e)) (Nat.not_lt.mpr ha)
  have hitlt : it < s₂.heap.objs.size := Heap.lt_size ho₀
  have S₁ : Sat s₁ N0 H2.objs.size [] [(s₂.heap.objs.size, PL #[]), (it, (· = o₀))] { s₂ with heap := h₁, toks := s₂.toks + ([] : List (Str × Value)).length } := by
    refine ⟨Y.ext.1, Y.ext.2.trans old, fun b o e => (by rw [n0] at e; cases e), fun b o e => (by rw [n0] at e; cases e), ⟨_, hns₁, fun _ _ e => (by cases e)⟩, ⟨below _ (by rw [hC]; exact Nat.le_succ _), n0 _⟩, ?_, ?_⟩
    · intro p hp
      rcases List.mem_cons.mp hp with rfl | hp
      · exact ⟨⟨below _ (Nat.le_refl _), n0 _⟩, hDC, _, hsb₁.extBut _ _ hDC (Heap.get?_push_of_some _ (hH2 ▸ Heap.get?_push_size _ rfl)), 0, rfl⟩
      · rw [List.mem_singleton.mp hp]
        exact ⟨⟨Y.new, n0 _⟩, by rw [hC]; exact Nat.ne_of_lt (Nat.lt_succ_of_lt hitlt), o₀, old _ _ ho₀, rfl⟩
    · refine List.pairwise_cons.mpr ⟨fun p hp => ?_, List.pairwise_singleton ..⟩
      rw [List.mem_singleton.mp hp]; exact Nat.ne_of_gt hitlt
  have hst₁ : St 0 h₁ := Y.walks.frame _ _ _ Y.start fun b _ o e => old b o e
  generalize hCC : H2.objs.size = C at S₁ hDC ⊢
  generalize hDD : s₂.heap.objs.size = D at S₁ hDC ⊢
  have loop : ∀ s₃ : Shared, Sat s₁ N0 C [] [(D, PL #[]), (it, (· = o₀))] s₃ → St 0 s₃.heap →
      codeAny (model prog w) A (.compLoop (.ListComp elt [⟨target, iter, [], 0⟩] scope pos) 0 (.ref it) (.ref D) (compEnvC scope cl C env)) (compPost (model prog w) A E none Q (.ref D) C) s₃ := by
    intro s₃ S₃ hst₃
    refine comp_loop (fun k s' => ∃ i N' ys l' o, k = n - i ∧ i ≤ n ∧ St i s'.heap ∧ J i N' ys ∧ Sat s₁ N' C l' [(D, PL ys), (it, (· = o))] s') ?_ n ⟨0, N0, #[], [], o₀, by omega, by omega, hst₃, X.start, S₃⟩
    rintro k s' ⟨i, N', ys, l', o, rfl, hi, hst, hJ, S'⟩
    by_cases hin : i = n
    · subst hin
      refine Y.walks.done s' _ _ hst fun h' tk hk => ?_
      have S₄ : Sat s₁ N' C l' [(D, PL ys)] { s' with heap := h', toks := tk } := S'.swap.leave ⟨rfl, rfl, rfl⟩ fun b o hb e => hk b o (by simpa using hb) e
      obtain ⟨N₂, oD, k1, k2, ⟨nD, rfl⟩, S₅⟩ := S₄.freeze
      obtain ⟨m, hm, _⟩ := S₅.ns
      refine ⟨m, hm, fun h'' hs'' => X.done D N' N₂ ys _ hJ k1 ⟨nD, k2⟩ ⟨S₅.rest, fun b o e => hs''.extBut b o ?_ (S₅.base b o e)⟩ (fun b o e => hs''.extBut b o ?_ (S₅.keep b o e)) S₅.disj⟩
      · rintro rfl; rw [S₅.frame.1] at e; cases e
      · rintro rfl; rw [S₅.frame.2] at e; cases e
    · refine Y.walks.item i s' _ _ (by omega) hst fun v h' tk hv hst' hk => ?_
      obtain ⟨o', ho'⟩ := Y.live _ _ hst'
      have S₂ : Sat s₁ N' C l' [(D, PL ys), (it, (· = o'))] { s' with heap := h', toks := tk } := S'.upd1 ⟨rfl, rfl, rfl⟩ (fun b o hb e => hk b o (by simpa using hb) e) ⟨o', ho', rfl⟩
      refine Y.go (i + 1) _ target v _ _ hst' ?_
      refine lift (wpAny_mono (X.turn C i v N' ys l' _ o' _ (by omega) hv hJ S₂ (by simp)) (fun _ s₂ h₂ => lift (wpAny_mono h₂ (fun y s₅ h₅ => ?_) fun _ _ q => q)) fun _ _ q => q)
      obtain ⟨N'', l'', k1, k2, k3⟩ := h₅
      obtain ⟨oD, gD, nD, rfl⟩ := k3.get0
      refine wpAny_list_append_plain (hsz := by rw [X.len i N' ys hJ]; exact Nat.le_trans (by omega) X.size) ⟨nD, gD⟩ fun h₆ hp₆ hs₆ => ?_
      obtain ⟨nD', hD'⟩ := hp₆
      have S₆ : Sat s₁ N'' C l'' [(D, PL (ys.push y)), (it, (· = o'))] { s₅ with heap := h₆ } := k3.upd0 ⟨rfl, rfl, rfl⟩ hs₆.extBut ⟨_, hD', nD', rfl⟩
      refine ⟨n - (i + 1), by omega, i + 1, N'', ys.push y, l'', o', rfl, by omega, ?_, k2, S₆⟩
      refine Y.walks.frame _ _ _ hst' fun b hb o e => ?_
      rcases Y.foot b hb with rfl | ⟨ob, hob⟩
      · obtain ⟨o'', g1, g2⟩ := S₆.get1
        have e' : h'.get? b = some o := e
        rw [ho'] at e'; cases e'
        show h₆.get? b = _
        have g1' : h₆.get? b = some o'' := g1
        rw [g1', g2]
      · have e1 := S₂.base _ _ (X.sub _ _ hob)
        have e' : h'.get? b = some o := e
        have e1' : h'.get? b = some ob := e1
        rw [e1'] at e'; cases e'
        exact S₆.base _ _ (X.sub _ _ hob)
  exact codeAny_compStart_list (loop _ S₁ hst₁) (Y.walks.self 0 _ _ _ hst₁ (loop _ S₁ hst₁))
end
end Mine

namespace Mine
open PySem PySem.Calls PyProof.Rows

section
variable {M : Model} {prog : Program} {w : World} {A : Around} {E : Value → Shared → Prop} {s₀ s : Shared} {N B : Heap} {L : Addr} {l : List (Str × Value)} {own : Own} {env : Env} {pos : Pos} {a b : Int} {t u : Tok} {Q : Value → Shared → Prop}

theorem ext_heap {s : Shared} {h' : Heap} (k : KeepsH s.heap h') : Ext s { s with heap := h' } := ⟨⟨rfl, rfl, rfl⟩, k⟩
theorem kInt (S : Sat s₀ N L l own s) {i : Int} {k : Nat} (h : ∀ t s', Sat s₀ N L l own s' → Q (.int i t) s') : wpAny M A (eval (.Constant (.int i) k pos) env) Q E s := cInt fun t s' e => h t s' (S.ext e)
theorem kStr (S : Sat s₀ N L l own s) {y : Str} {k : Nat} (h : ∀ t s', Sat s₀ N L l own s' → Q (.str y t) s') : wpAny M A (eval (.Constant (.str y) k pos) env) Q E s := cStr fun t s' e => h t s' (S.ext e)
theorem iAdd (S : Sat s₀ N L l own s) (h : ∀ t s', Sat s₀ N L l own s' → Q (.int (a + b) t) s') : wpAny (model prog w) A (binaryOp .Add (.int a t) (.int b u)) Q E s := add_int (h _ _ (S.ext (ext_toks _ _)))
theorem iSub (S : Sat s₀ N L l own s) (h : ∀ t s', Sat s₀ N L l own s' → Q (.int (a - b) t) s') : wpAny (model prog w) A (binaryOp .Sub (.int a t) (.int b u)) Q E s := sub_int (h _ _ (S.ext (ext_toks _ _)))
theorem iiAdd (S : Sat s₀ N L l own s) (h : ∀ t s', Sat s₀ N L l own s' → Q (.int (a + b) t) s') : wpAny (model prog w) A (inplaceOp .Add (.int a t) (.int b u)) Q E s := iadd_int (h _ _ (S.ext (ext_toks _ _)))
theorem iiSub (S : Sat s₀ N L l own s) (h : ∀ t s', Sat s₀ N L l own s' → Q (.int (a - b) t) s') : wpAny (model prog w) A (inplaceOp .Sub (.int a t) (.int b u)) Q E s := isub_int (h _ _ (S.ext (ext_toks _ _)))
theorem iMod (S : Sat s₀ N L l own s) (hb : 0 < b) (h : ∀ t s', Sat s₀ N L l own s' → Q (.int (a % b) t) s') : wpAny (model prog w) A (binaryOp .Mod (.int a t) (.int b u)) Q E s := by
  refine mod_int' (by omega) ?_
  rw [Int.fmod_eq_emod_of_nonneg _ (by omega)]
  exact h _ _ (S.ext (ext_toks _ _))
theorem iDiv (S : Sat s₀ N L l own s) (hb : 0 < b) (hp : b.natAbs < 1073741824) (h : ∀ t s', Sat s₀ N L l own s' → Q (.int (a / b) t) s') : wpAny (model prog w) A (binaryOp .FloorDiv (.int a t) (.int b u)) Q E s := by
  refine floordiv_int (by omega) ?_ (.inl (PyProof.noPylong_small hp))
  rw [Int.fdiv_eq_ediv_of_nonneg _ (by omega)]
  exact h _ _ (S.ext (ext_toks _ _))
theorem iNeg (S : Sat s₀ N L l own s) (h : ∀ t s', Sat s₀ N L l own s' → Q (.int (-a) t) s') : wpAny (model prog w) A (unaryOp .USub (.int a t)) Q E s := neg_int (h _ _ (S.ext (ext_toks _ _)))
theorem strInt (S : Sat s₀ N L l own s) (ha : a.natAbs.log2 < 1920) (h : ∀ t s', Sat s₀ N L l own s' → Q (.str (Str.ofString (toString a)) t) s') : wpAny (model prog w) A (call (.type "str") [.int a t]) Q E s :=
  PySem.P.str_of_int ha (h _ _ (S.ext (ext_toks _ _)))

theorem gG {x : Str} {v : Value} (S : Sat s₀ N L l own s) (G : Gl prog w s₀.heap) (hv : gTab.lookup x = some v) (hg : env.globals = mainGlobals) (hl : env.kindOf x = some .globalImplicit) (hk : env.scope.kind = .function) (h : Q v s)
    (hd : (x == ("__debug__" : Str)) = false) : wpAny M A (eval (.Name x pos) env) Q E s := ldG (G.keeps S.base) hv hg hl hk h hd
theorem gB {x : Str} {v : Value} (S : Sat s₀ N L l own s) (G : Gl prog w s₀.heap) (hv : bTab.lookup x = some v) (hg : env.globals = mainGlobals) (hb : env.builtins = 0) (hl : env.kindOf x = some .globalImplicit) (hk : env.scope.kind = .function)
    (h : Q v s) (hd : (x == ("__debug__" : Str)) = false) : wpAny M A (eval (.Name x pos) env) Q E s := ldB (G.keeps S.base) hv hg hb hl hk h hd
theorem callF {i : Nat} {f : Addr} {e : Expr} {rest : List Expr} (hf : FnAt i f B) (h : wpAny M A (spliced (backTo pos (starEach (e :: rest) env))) (fun vs s₁ => KeepsH B s₁.heap ∧ wpAny M A (call (.ref f) vs) Q E s₁) E s)
    (he : starEach (e :: rest) env = (false, eval e env) :: starEach rest env) : wpAny M A (callWith pos (.ref f) [] (backTo pos (starEach (e :: rest) env)) []) Q E s :=
  let ⟨_, _, o, h1, h2, _⟩ := hf
  callWith_def (o := o) h2 (wpAny_mono h (fun _ _ q => ⟨q.1 _ _ h1, q.2⟩) fun _ _ q => q) he

theorem tupE {elts : List Expr} {k : Nat} (s₀ : Shared) (L : Addr) (h : wpAny M A (spliced (backTo pos (starEach elts env))) (fun vs s₁ => ∃ N l own, Sat s₀ N L l own s₁ ∧ vs.length ≤ sizeLine ∧
      ∀ a N' s', KeepsH N N' → N'.IsTuple a vs.toArray → Sat s₀ N' L l own s' → Q (.ref a) s') E s) : wpAny M A (eval (.Tuple elts k pos) env) Q E s := by
  refine wpAny_Tuple (wpAny_mono h (fun vs s₁ h₁ => ?_) fun _ _ q => q)
  obtain ⟨N, l, own, S, hsz, h₁⟩ := h₁
  obtain ⟨N', k, hn, S'⟩ := S.newN (s' := { s₁ with heap := s₁.heap.push { cls := .type "tuple", data := .seq vs.toArray } }) (ext_heap (keeps_push _ _)) (Heap.get?_push_size _ rfl) (fresh_size _)
  exact ⟨hsz, h₁ _ N' _ k ⟨_, hn, rfl, 0, rfl⟩ S'⟩
theorem lstE {elts : List Expr} (s₀ : Shared) (L : Addr) (h : wpAny M A (spliced (backTo pos (starEach elts env))) (fun vs s₁ => ∃ N l own, Sat s₀ N L l own s₁ ∧ vs.length ≤ sizeLine ∧
      ∀ a N' s', KeepsH N N' → N'.PlainList a vs.toArray → Sat s₀ N' L l own s' → Q (.ref a) s') E s) : wpAny M A (eval (.List elts pos) env) Q E s := by
  refine wpAny_List (wpAny_mono h (fun vs s₁ h₁ => ?_) fun _ _ q => q)
  obtain ⟨N, l, own, S, hsz, h₁⟩ := h₁
  obtain ⟨N', k, hn, S'⟩ := S.newN (s' := { s₁ with heap := s₁.heap.push { cls := .type "list", data := .seq vs.toArray } }) (ext_heap (keeps_push _ _)) (Heap.get?_push_size _ rfl) (fresh_size _)
  exact ⟨hsz, h₁ _ N' _ k ⟨0, hn⟩ S'⟩
theorem lstO {elts : List Expr} (s₀ : Shared) (L : Addr) (h : wpAny M A (spliced (backTo pos (starEach elts env))) (fun vs s₁ => ∃ N l own, Sat s₀ N L l own s₁ ∧ vs.length ≤ sizeLine ∧
      ∀ a s', Sat s₀ N L l ((a, PL vs.toArray) :: own) s' → Q (.ref a) s') E s) : wpAny M A (eval (.List elts pos) env) Q E s := by
  refine wpAny_List (wpAny_mono h (fun vs s₁ h₁ => ?_) fun _ _ q => q)
  obtain ⟨N, l, own, S, hsz, h₁⟩ := h₁
  exact ⟨hsz, h₁ _ _ (S.newO (s' := { s₁ with heap := s₁.heap.push { cls := .type "list", data := .seq vs.toArray } }) (ext_heap (keeps_push _ _)) (Heap.get?_push_size _ rfl) (fresh_size _) ⟨0, rfl⟩)⟩
theorem small2 {n : Nat} (h : n ≤ 1000) : n ≤ sizeLine := by rw [sizeLine_eq]; omega
theorem keeps_size {h h' : Heap} (x : Heap.ExtBut h.objs.size h h') : KeepsH h h' := fun b o e => x b o (Nat.ne_of_lt (Heap.lt_size e)) e
theorem unp {a : Addr} {items : Array Value} {Q : List Value → Shared → Prop} (S : Sat s₀ N L l own s) (hh : A.handled = none) (ht : s.heap.IsTuple a items) (h : ∀ s', Sat s₀ N L l own s' → Q items.toList s') :
    wpAny (model prog w) A (unpackItems (.ref a) items.size none) Q E s := wpAny_unpackItems_tuple hh ht fun _ x => h _ (S.ext (ext_heap (keeps_size x)))
theorem tup_keeps {h h' : Heap} {a : Addr} {items : Array Value} (x : h.IsTuple a items) (k : KeepsH h h') : h'.IsTuple a items := let ⟨o, h1, r⟩ := x; ⟨o, k _ _ h1, r⟩
theorem pl_keeps {h h' : Heap} {a : Addr} {items : Array Value} (x : h.PlainList a items) (k : KeepsH h h') : h'.PlainList a items := let ⟨n, h1⟩ := x; ⟨n, k _ _ h1⟩
theorem lst_keeps {h h' : Heap} {a : Addr} {items : Array Value} (x : h.IsList a items) (k : KeepsH h h') : h'.IsList a items := let ⟨o, h1, r⟩ := x; ⟨o, k _ _ h1, r⟩

/-- two names at once, by the swapped stores -/
theorem asg2S {elts : List Expr} {k : Nat} {tpos : Pos} {value : Expr} {x y : Str} {Q : Flow → Shared → Prop} (s₀ : Shared) (hh : A.handled = none)
    (hs : swapsWithSole [.Tuple elts k tpos] value pos.line env = pure false) (hw : swappedStores [.Tuple elts k tpos] value env = pure (some [x, y]))
    (hx : env.kindOf x = some .local) (hy : env.kindOf y = some .local) (hk : env.scope.kind = .function)
    (h : wpAny (model prog w) A (eval value env) (fun v s₁ => ∃ N l own a v1 v2, v = .ref a ∧ Sat s₀ N env.locals l own s₁ ∧ s₁.heap.IsTuple a #[v1, v2] ∧
      ∀ s', Sat s₀ N env.locals ((x, v1) :: (y, v2) :: l) own s' → Q .next s') E s) : wpAny (model prog w) A (exec (.Assign [.Tuple elts k tpos] value pos) env) Q E s := by
  refine Assign_Tuple_swapped (names := [x, y]) (wpAny_mono h (fun v s₁ h₁ => ?_) fun _ _ q => q) hs hw
  obtain ⟨N, l, own, a, v1, v2, rfl, S, hT, h₁⟩ := h₁
  refine unp (items := #[v1, v2]) S hh hT fun s₁ S => ?_
  refine wpAny_assignInOrder_more (t := bindName env y) (ts := [bindName env x]) (x := v2) (xs := [v1]) (wpAny_bindName (stL S hy hk fun s₂ S => ?_))
  exact wpAny_assignInOrder_more (t := bindName env x) (ts := []) (x := v1) (xs := []) (wpAny_bindName (stL S hx hk fun s₂ S => wpAny_assignInOrder_none (h₁ _ S)))
/-- two names at once, in order -/
theorem asg2 {x y : Str} {px py : Pos} {k : Nat} {tpos : Pos} {value : Expr} {Q : Flow → Shared → Prop} (s₀ : Shared) (hh : A.handled = none)
    (hs : swapsWithSole [.Tuple [.Name x px, .Name y py] k tpos] value pos.line env = pure false) (hw : swappedStores [.Tuple [.Name x px, .Name y py] k tpos] value env = pure none)
    (hx : env.kindOf x = some .local) (hk : env.scope.kind = .function)
    (h : wpAny (model prog w) A (eval value env) (fun v s₁ => ∃ N l own a v1 v2, v = .ref a ∧ Sat s₀ N env.locals l own s₁ ∧ s₁.heap.IsTuple a #[v1, v2] ∧
      ∀ s', Sat s₀ N env.locals ((x, v1) :: l) own s' → wpAny (model prog w) A (storeName env y v2) (fun _ => Q .next) E s') E s) :
    wpAny (model prog w) A (exec (.Assign [.Tuple [.Name x px, .Name y py] k tpos] value pos) env) Q E s := by
  refine Assign_Tuple (wpAny_mono h (fun v s₁ h₁ => ?_) fun _ _ q => q) hs hw
  obtain ⟨N, l, own, a, v1, v2, rfl, S, hT, h₁⟩ := h₁
  refine wpAny_assign_Tuple (items := #[v1, v2]) hh hT rfl rfl fun h' e => ?_
  have S' := S.ext (ext_heap (keeps_size e))
  refine wpAny_assignInOrder_more (t := assign (.Name x px) env) (ts := [assign (.Name y py) env]) (x := v1) (xs := [v2]) (wpAny_assign_Name (stL S' hx hk fun s₂ S => ?_))
  exact wpAny_assignInOrder_more (t := assign (.Name y py) env) (ts := []) (x := v2) (xs := []) (wpAny_assign_Name (wpAny_mono (h₁ _ S) (fun _ _ q => wpAny_assignInOrder_none q) fun _ _ q => q))
/-- the same as a loop's target -/
theorem tgt2 {x y : Str} {px py : Pos} {k : Nat} {tpos : Pos} {a : Addr} {v1 v2 : Value} {Q : Unit → Shared → Prop} (hh : A.handled = none) (hx : env.kindOf x = some .local) (hy : env.kindOf y = some .local) (hk : env.scope.kind = .function)
    (S : Sat s₀ N env.locals l own s) (hT : s.heap.IsTuple a #[v1, v2]) (h : ∀ s', Sat s₀ N env.locals ((y, v2) :: (x, v1) :: l) own s' → Q () s') :
    wpAny (model prog w) A (assign (.Tuple [.Name x px, .Name y py] k tpos) env (.ref a)) Q E s := by
  refine wpAny_assign_Tuple (items := #[v1, v2]) hh hT rfl rfl fun h' e => ?_
  have S' := S.ext (ext_heap (keeps_size e))
  refine wpAny_assignInOrder_more (t := assign (.Name x px) env) (ts := [assign (.Name y py) env]) (x := v1) (xs := [v2]) (wpAny_assign_Name (stL S' hx hk fun s₂ S => ?_))
  exact wpAny_assignInOrder_more (t := assign (.Name y py) env) (ts := []) (x := v2) (xs := []) (wpAny_assign_Name (stL S hy hk fun s₂ S => wpAny_assignInOrder_none (h _ S)))

/-- a token as the law makes it: a pair of its number and its word -/
def Tkv (h : Heap) (v : Value) (tk : Tk) : Prop := ∃ a t1 t2, v = .ref a ∧ h.IsTuple a #[.int tk.1 t1, .str (mk tk.2) t2]
theorem Tkv.keeps {h h' : Heap} {v : Value} {tk : Tk} (x : Tkv h v tk) (k : KeepsH h h') : Tkv h' v tk := let ⟨a, t1, t2, e, h1⟩ := x; ⟨a, t1, t2, e, tup_keeps h1 k⟩
def TkPost (v : Value) (h : Heap) : Prop := ∃ tk, OkT tk ∧ Tkv h v tk

theorem isnt_spec {x : Int} (hA : OkA A 1) (G : Gl prog w s.heap) (h : ∀ s', Ext s s' → Q (.bool (decide (256 ≤ x))) s') : wpAny (model prog w) A (call (.ref 31) [.int x t]) Q E s := by
  refine fn_run (i := 54) (binds := [("x", .int x t)]) (k := 0) hA G G.fns.2.1 (fun _ _ => rfl) rfl (by decide) (locs rfl) rfl rfl rfl ?_
  intro cd pm L s₁ hA₁ G₁ S
  refine wpAny_execs_cons (wpAny_Return_some (wpAny_Compare1 ?_ rfl))
  refine ldL S rfl rfl rfl ?_ rfl
  obtain ⟨mg, mb, g1, g2, g3, g4, g5, t', g6⟩ := G₁.ns
  refine Name_function_global rfl rfl (loadGlobal_global g1 g6 ?_) rfl
  refine ge_int ?_
  exact h _ S.toExt

theorem dec_tok (x : Int) (h1 : 250 ≤ x) (h2 : x < 256) : Str.ofString (toString x) = mk (litTab.getD (47 + (x - 250).toNat) (0, [])).2 ∧ (x, (litTab.getD (47 + (x - 250).toNat) (0, [])).2) ∈ litTab := by
  have : x = 250 ∨ x = 251 ∨ x = 252 ∨ x = 253 ∨ x = 254 ∨ x = 255 := by omega
  rcases this with rfl | rfl | rfl | rfl | rfl | rfl <;> exact ⟨by decide +kernel, by decide +kernel⟩

theorem other_spec {x : Int} (hx : 250 ≤ x) (hx2 : x < 1000) (hA : OkA A 2) (G : Gl prog w s.heap) (h : Ret s TkPost Q) : wpAny (model prog w) A (call (.ref 38) [.int x t]) Q E s := by
  refine fn_run (i := 56) (binds := [("number", .int x t)]) (k := 1) hA G G.fns.2.2.1 (fun _ _ => rfl) rfl (by decide) (locs rfl) rfl rfl rfl ?_
  intro cd pm L s₁ hA₁ G₁ S
  refine wpAny_execs_cons (wpAny_Return_some (tupE s L (args_cons ?_ rfl)))
  refine ldL S rfl rfl rfl ?_ rfl
  refine args_cons (wpAny_IfExp (wpAny_isTrue_value (wpAny_Call_NameR ?_) rfl)) rfl
  refine gG S G rfl rfl rfl rfl ?_ rfl
  refine callF G.fns.2.1 (args_cons ?_ rfl) rfl
  refine ldL S rfl rfl rfl (args_nil ⟨S.base, ?_⟩) rfl
  refine isnt_spec hA₁ (G.keeps S.base) fun s₂ e => ?_
  replace S := S.ext e
  refine wpAny_truthy_bool ?_
  by_cases h256 : 256 ≤ x
  · rw [if_pos (decide_eq_true h256)]
    refine kStr S fun t₁ s₃ S => args_nil ⟨_, _, _, S, small2 (by simp), fun a N' s' _ hT S => ?_⟩
    refine S.ret h ⟨(x, dots), .inl ⟨?_, rfl⟩, a, _, _, rfl, hT⟩
    simp only [isW, Bool.or_eq_true, decide_eq_true_eq]; omega
  · rw [if_neg (by simpa using h256)]
    refine wpAny_Call_NameR ?_
    refine gB S G rfl rfl rfl rfl rfl ?_ rfl
    refine callWith_type1 (args_cons ?_ rfl) rfl rfl
    refine ldL S rfl rfl rfl (args_nil ?_) rfl
    refine strInt S ?_ fun t₁ s₃ S => args_nil ⟨_, _, _, S, small2 (by simp), fun a N' s' _ hT S => ?_⟩
    · have h0 : x.natAbs ≠ 0 := by omega
      exact Nat.lt_trans ((Nat.log2_lt h0).mpr (show x.natAbs < 2 ^ 10 by omega)) (by decide)
    · obtain ⟨e1, e2⟩ := dec_tok x hx (by omega)
      rw [e1] at hT
      exact S.ret h ⟨_, .inr e2, a, _, _, rfl, hT⟩
end
end Mine

namespace Mine
open PySem PySem.Calls PyProof.Rows

section
variable {M : Model} {prog : Program} {w : World} {A : Around} {E : Value → Shared → Prop} {s₀ s : Shared} {N B : Heap} {L : Addr} {l : List (Str × Value)} {own : Own} {env : Env} {pos : Pos} {a b : Int} {t u : Tok} {Q : Value → Shared → Prop}

theorem valueAt_of {k : Str} {v : Value} : ∀ {kvs : List (Str × Value)} {i : Nat}, (kvs.map (·.1)).Nodup → kvs[i]? = some (k, v) → PySem.valueAt kvs k = some v
  | [], _, _, h => by simp at h
  | p :: r, 0, _, h => by
    simp only [List.getElem?_cons_zero, Option.some.injEq] at h
    subst h
    simp [PySem.valueAt]
  | p :: r, i + 1, hn, h => by
    rw [List.map_cons, List.nodup_cons] at hn
    rw [List.getElem?_cons_succ] at h
    have ih := valueAt_of hn.2 h
    have hp : p.1 ≠ k := by
      rintro rfl
      exact hn.1 (List.mem_map.mpr ⟨(p.1, v), List.mem_of_getElem? h, rfl⟩)
    unfold PySem.valueAt at ih ⊢
    rw [List.find?_cons_of_neg (by simpa using hp)]
    exact ih

/-- an item of the table -/
theorem tabItem {k : Str} {v : Value} {kvs : List (Str × Value)} {value slice : Expr} (S : Sat s₀ N L l own s) (hd : s₀.heap.DictOf (PySem.strKind prog w) 22 kvs) (hv : PySem.valueAt kvs k = some v)
    (hs : ∀ o i, subscripted slice false o i = operate [o, i] (getItem o i)) (h : ∀ s', Sat s₀ N L l own s' → Q v s') : wpAny (model prog w) A (subscriptTail value slice (.ref 22) (.str k t)) Q E s := by
  have hD : s.heap.DictOf (PySem.strKind prog w) 22 kvs := hd.keep S.base
  refine tail_any (ops := [.ref 22, .str k t]) hD.typeIs slot_dict_getitem.lookup (wpAny_getItem_of (strKind_is _ _ _ _) hD.mapOf hv (h _ (S.ext (ext_toks _ _)))) (hs _ _)

theorem lenTab {kvs : List (Str × Value)} (S : Sat s₀ N L l own s) (hd : s₀.heap.DictOf (PySem.strKind prog w) 22 kvs) (hl : kvs.length = 48) (h : ∀ t s', Sat s₀ N L l own s' → Q (.int 48 t) s') :
    wpAny (model prog w) A (call (.builtin "len") [.ref 22]) Q E s := by
  refine call_len_dict (by decide) (hd.keep S.base) (by rw [hl]; decide) ?_
  rw [hl]
  exact h _ _ (S.ext (ext_toks _ _))
theorem listTab {kvs : List (Str × Value)} (S : Sat s₀ N L l own s) (hh : A.handled = none) (hd : s₀.heap.DictOf (PySem.strKind prog w) 22 kvs) (hl : kvs.length = 48)
    (h : ∀ D ys N' s', KeepsH N N' → Sat s₀ N' L l own s' → N'.IsList D ys → ys.size = 48 → (∀ (j : Nat) (v : Value), ys[j]? = some v → ∃ (k : Str) (x : Value) (t : Tok), kvs[j]? = some (k, x) ∧ v = Value.str k t) → Q (.ref D) s') :
    wpAny (model prog w) A (call (.type "list") [.ref 22]) Q E s := by
  obtain ⟨ep, hat⟩ := (hd.keep S.base).dictAt
  refine W.kdl_call (W.kdl_dict (knd := PySem.strKind prog w) (kvs := kvs) (ep := ep) (by decide)) hh hat (by rw [hl, sizeLine_eq]; decide) fun h' tk acc' c' hk hD hacc => ?_
  obtain ⟨N', k1, k2, S'⟩ := S.newN (ext_of (t := tk) hk) hD (fresh_size _)
  refine h _ acc' N' _ k1 S' ⟨_, k2, rfl, c', rfl⟩ (by rw [hacc.1, hl]) fun j v e => ?_
  obtain ⟨k, x, hx, hkv⟩ := hacc.2 j v e
  obtain ⟨t, rfl⟩ := Value.isStrOf_shape hkv
  exact ⟨k, x, t, hx, rfl⟩
theorem subL {value slice : Expr} {D : Addr} {ys : Array Value} {k : Int} {v : Value} (hl : s.heap.IsList D ys) (h0 : 0 ≤ k) (hhi : k < 2 ^ 63) (hx : ys[k.toNat]? = some v)
    (hs : ∀ o i, subscripted slice false o i = operate [o, i] (getItem o i)) (h : Q v s) : wpAny (model prog w) A (subscriptTail value slice (.ref D) (.int k t)) Q E s :=
  tail_any (ops := [.ref D, .int k t]) hl.typeIs slot_list_getitem.lookup (wpAny_getItem_list hl h0 hhi hx h) (hs _ _)
theorem subS {value slice : Expr} {x : Str} {k : Int} (S : Sat s₀ N L l own s) (hr : fitsSsize k = true) (hin : (Txt.charAt x k).isSome = true)
    (hs : ∀ o i, subscripted slice false o i = operate [o, i] (getItem o i)) (h : ∀ t s', Sat s₀ N L l own s' → Q (.str (Txt.item x k) t) s') : wpAny (model prog w) A (subscriptTail value slice (.str x u) (.int k t)) Q E s :=
  tail_any (ops := [.str x u, .int k t]) (typeIs_str _ _ _) F.slot_str_getitem.lookup (SB.getItem hr hin (h _ _ (S.ext (ext_toks _ _)))) (hs _ _)

set_option maxHeartbeats 400000 in
theorem token_spec {n : Int} (hA : OkA A 3) (G : Gl prog w s.heap) (h : Ret s TkPost Q) : wpAny (model prog w) A (call (.ref 45) [.int n t]) Q E s := by
  refine fn_run (i := 57) (binds := [("n", .int n t)]) (k := 2) hA G G.fns.2.2.2.1 (fun _ _ => rfl) rfl (by decide) (locs rfl) rfl rfl rfl ?_
  intro cd pm L s₁ hA₁ G₁ S
  obtain ⟨kvs, hD, hlen, hrel, hplus, hdot, _⟩ := G.tab
  have hnd : (kvs.map (·.1)).Nodup := by obtain ⟨_, _, _, _, _, _, _, _, h⟩ := hD; exact h
  refine wpAny_execs_cons (asg2S (x := "kind") (y := "rest") s hA₁.1 rfl rfl rfl rfl rfl (tupE s L (args_cons (wpAny_BinOp ?_) rfl)))
  refine ldL S rfl rfl rfl (kInt S fun t₁ s₁ S => iMod S (by decide) fun t₂ s₁ S => ?_) rfl
  refine args_cons (wpAny_BinOp (ldL S rfl rfl rfl (kInt S fun t₁ s₁ S => iDiv S (by decide) (by decide) fun t₂ s₁ S => args_nil ⟨_, _, _, S, small2 (by simp), fun a N' s₁ _ hT S => ⟨_, _, _, a, _, _, rfl, S, tup_keeps hT S.keep, fun s₁ S => ?_⟩⟩) rfl)) rfl
  -- if kind == 3
  refine wpAny_execs_cons (wpAny_If (wpAny_isTrue_Compare1 (ldL S rfl rfl rfl (kInt S fun t₁ s₁ S => eq_int (wpAny_truthy_bool ?_)) rfl) rfl))
  by_cases h3 : n % 4 = 3
  · rw [if_pos (by simpa using h3)]
    refine wpAny_execs_cons (wpAny_Return_some (wpAny_Call_NameR (gG S G rfl rfl rfl rfl ?_ rfl)))
    refine callF G.fns.2.2.1 (args_cons (wpAny_BinOp (kInt S fun t₁ s₁ S => wpAny_BinOp (ldL S rfl rfl rfl (kInt S fun t₁ s₁ S => iMod S (by decide) fun t₁ s₁ S => iAdd S fun t₁ s₁ S => args_nil ⟨S.base, ?_⟩) rfl))) rfl) rfl
    refine other_spec (by omega) (by omega) hA₁ (G.keeps S.base) fun v s' M e k d p => ?_
    obtain ⟨N'', k1, k2, S⟩ := S.grow e k d
    obtain ⟨tk, p1, p2⟩ := p
    exact S.ret h ⟨tk, p1, p2.keeps k2⟩
  · rw [if_neg (by simpa using h3)]
    refine wpAny_execs_nil (wpAny_execs_cons (wpAny_If (wpAny_isTrue_Compare1 (ldL S rfl rfl rfl (kInt S fun t₁ s₁ S => eq_int (wpAny_truthy_bool ?_)) rfl) rfl)))
    by_cases h2 : n % 4 = 2
    · rw [if_pos (by simpa using h2)]
      refine wpAny_execs_cons (wpAny_Assign_Name (Subscript_ (wpAny_Call_NameR (gB S G rfl rfl rfl rfl rfl ?_ rfl))) rfl)
      refine callWith_type1 (args_cons (gG S G rfl rfl rfl rfl (args_nil ?_) rfl) rfl) rfl rfl
      refine listTab S hA₁.1 hD hlen fun D ys N₂ s₁ _ S hL hsz hys => ?_
      refine wpAny_BinOp (ldL S rfl rfl rfl (wpAny_Call_NameR (gB S G rfl rfl rfl rfl rfl (callWith_builtin1 (args_cons (gG S G rfl rfl rfl rfl (args_nil ?_) rfl) rfl) rfl rfl) rfl)) rfl)
      refine lenTab S hD hlen fun t₁ s₁ S => iMod S (by decide) fun t₁ s₁ S => ?_
      have hlt : (n / 4 % 48).toNat < ys.size := by omega
      obtain ⟨k, x, tk, hk, hv⟩ := hys _ _ (Array.getElem?_eq_getElem hlt)
      obtain ⟨m, wd, tm, rfl, rfl, hok⟩ := hrel _ _ _ hk
      refine subL (lst_keeps hL S.keep) (by omega) (by omega) (Array.getElem?_eq_getElem hlt) (fun _ _ => rfl) ?_
      rw [hv]
      refine stL S rfl rfl fun s₁ S => wpAny_execs_nil ?_
      refine wpAny_execs_cons (wpAny_Return_some (tupE s L (args_cons (Subscript_ (gG S G rfl rfl rfl rfl (ldL S rfl rfl rfl ?_ rfl) rfl)) rfl)))
      refine tabItem S hD (valueAt_of hnd hk) (fun _ _ => rfl) fun s₁ S => args_cons (ldL S rfl rfl rfl (args_nil ⟨_, _, _, S, small2 (by simp), fun a N' s₁ _ hT S => ?_⟩) rfl) rfl
      exact S.ret h ⟨(m, wd), hok, a, _, _, rfl, hT⟩
    · rw [if_neg (by simpa using h2)]
      have key : ∃ m wd tm, PySem.valueAt kvs (mk wd) = some (Value.int m tm) ∧ OkT (m, wd) ∧ Txt.item (Str.ofString "+.") (n % 4) = mk wd ∧ (Txt.charAt (Str.ofString "+.") (n % 4)).isSome = true ∧ fitsSsize (n % 4) = true := by
        have : n % 4 = 0 ∨ n % 4 = 1 := by omega
        rcases this with e | e
        · obtain ⟨tm, htm⟩ := hplus
          exact ⟨14, [43], tm, htm, .inr (by decide), by rw [e]; decide +kernel, by rw [e]; decide +kernel, by rw [e]; decide +kernel⟩
        · obtain ⟨tm, htm⟩ := hdot
          exact ⟨23, [46], tm, htm, .inr (by decide), by rw [e]; decide +kernel, by rw [e]; decide +kernel, by rw [e]; decide +kernel⟩
      obtain ⟨m, wd, tm, k1, k2, k3, k4, k5⟩ := key
      refine wpAny_execs_cons (wpAny_Assign_Name (Subscript_ (kStr S fun t₁ s₁ S => ldL S rfl rfl rfl (subS S k5 k4 (fun _ _ => rfl) fun t₁ s₁ S => ?_) rfl)) rfl)
      rw [k3]
      refine stL S rfl rfl fun s₁ S => wpAny_execs_nil ?_
      refine wpAny_execs_cons (wpAny_Return_some (tupE s L (args_cons (Subscript_ (gG S G rfl rfl rfl rfl (ldL S rfl rfl rfl ?_ rfl) rfl)) rfl)))
      refine tabItem S hD k1 (fun _ _ => rfl) fun s₁ S => args_cons (ldL S rfl rfl rfl (args_nil ⟨_, _, _, S, small2 (by simp), fun a N' s₁ _ hT S => ?_⟩) rfl) rfl
      exact S.ret h ⟨(m, wd), k2, a, _, _, rfl, hT⟩
end
end Mine

namespace Mine
open PySem PySem.Calls PyProof.Rows
open PySem.Builtin PySem.Builtin.Str

theorem lk {x y : Str} {u v : Value} {l : List (Str × Value)} (h : (y == x) = false) (e : l.lookup y = some v) : ((x, u) :: l).lookup y = some v := by rw [List.lookup_cons, h]; exact e

theorem gives_find4 (x y : Str) (i j : Nat) (t u v v' : Tok) : Gives («str.find» ⟨[.str x t, .str y u, .int i v, .int j v'], []⟩) (.int (match occurrences x y i (min j x.length) 1 with | k :: _ => (k : Int) | [] => -1)) := by
  have hi : fromIndex x.length (i : Int) = i := by unfold fromIndex; rw [if_neg (by omega)]; omega
  have hj : fromIndex x.length (j : Int) = j := by unfold fromIndex; rw [if_neg (by omega)]; omega
  have key : Gives («str.find» ⟨[.str x t, .str y u, .int i v, .int j v'], []⟩) (.int (match occurrences x y (fromIndex x.length (i : Int)) (min (fromIndex x.length (j : Int)) x.length) 1 with | k :: _ => (k : Int) | [] => -1)) := by
    show Gives (match occurrences x y (fromIndex x.length (i : Int)) (min (fromIndex x.length (j : Int)) x.length) 1 with | k :: _ => retInt k | [] => (do rule "str.find.not-found"; retInt (-1))) _
    cases occurrences x y (fromIndex x.length (i : Int)) (min (fromIndex x.length (j : Int)) x.length) 1 with
    | nil => exact .rule (.of_eq rfl)
    | cons k _ => exact .of_eq rfl
  rw [hi, hj] at key
  exact key

section
variable {M : Model} {prog : Program} {w : World} {A : Around} {E : Value → Shared → Prop} {s₀ s : Shared} {N B : Heap} {L : Addr} {l : List (Str × Value)} {own : Own} {env : Env} {pos : Pos} {t u : Tok} {Q : Value → Shared → Prop}

theorem find4E {x y : Str} {i j : Nat} {v v' : Tok} (S : Sat s₀ N L l own s) (hj : j ≤ x.length) (h : ∀ t s', Sat s₀ N L l own s' → Q (.int (match find4 x y i j with | some q => (q : Int) | none => -1) t) s') :
    wpAny (model prog w) A (call (.builtin "str.find") [.str x t, .str y u, .int i v, .int j v']) Q E s := by
  refine call_gives F.slot_str_find (typeIs_str _ _ _) F.entry_str_find (F.args_str_find_4 _ _ _ _) (gives_find4 x y i j t u v v') ?_
  have e : (match occurrences x y i (min j x.length) 1 with | k :: _ => (k : Int) | [] => -1) = (match find4 x y i j with | some q => (q : Int) | none => -1) := by
    unfold find4
    rw [Nat.min_eq_left hj]
    cases occurrences x y i j 1 <;> rfl
  rw [e]
  exact h _ _ (S.ext (ext_toks _ _))

theorem splitE {x : Str} (S : Sat s₀ N L l own s) (hc : Txt.contains x dotsS = true) (hx : x.length ≤ 900) (h : ∀ D lw s', lw.map (·.1) = Txt.split x dotsS → Sat s₀ N L l ((D, PL (strValues lw).toArray) :: own) s' → Q (.ref D) s') :
    wpAny (model prog w) A (call (.builtin "str.split") [.str x t, .str dotsS u]) Q E s := by
  obtain ⟨i, hi⟩ := (contains_iff x).mp hc
  have hlen : 3 ≤ x.length := by have := hi.1; rw [dotsS_len] at this; omega
  have h1 : (decide (x.length < dotsS.length) || decide (strKind x < strKind dotsS)) = false := by
    rw [Bool.or_eq_false_iff]; exact ⟨decide_eq_false (by rw [dotsS_len]; omega), decide_eq_false (kind_pos x)⟩
  have hf : (occurrences x dotsS 0 x.length (x.length + 1)).isEmpty = false := by
    refine Bool.eq_false_iff.mpr fun he => ?_
    obtain ⟨f, k1, k2⟩ := StrLaws.occ_tight x dotsS (by rw [dotsS_len]; omega)
    rw [List.isEmpty_iff.mp he] at k1
    have : f = 0 := k1
    exact k2 i (by omega) hi
  have hn : (partsBetween x (occurrences x dotsS 0 x.length (x.length + 1)) dotsS.length).length ≤ sizeLine := by
    have := StrLaws.occ_length_le_len x dotsS 0 x.length (x.length + 1)
    simp only [partsBetween, List.length_map, List.length_zip, List.length_cons, List.length_append, List.length_nil]
    exact small2 (by omega)
  refine call_meets F.slot_str_split (typeIs_str _ _ _) F.entry_str_split (F.args_str_split_2 _ _) (meets_str_split_sep x dotsS t u h1 (by rw [dotsS_len]; rfl) hf (small2 (by omega)) hn) ?_
  rw [strsFrom_eq]
  refine h _ _ _ ?_ (S.newO (ext_of (keeps_push _ _)) (Heap.get?_push_size _ rfl) (fresh_size _) ⟨0, rfl⟩)
  rw [numbered_texts]
  unfold Txt.split
  rw [h1, if_neg Bool.false_ne_true, hf, if_neg Bool.false_ne_true]

theorem mStr {o : Expr} {name : Str} {apos : Pos} {args : List Expr} {id : String} (slot : Slot "str" name id) (hty : typeOf (.builtin id) = pure (.type "method_descriptor"))
    (hbase : attributeBase o name env (eval o env) = eval o env)
    (hfew : ((backTo pos (starEach args env)).all (fun x => !x.1) && (backToKw pos (keywordEach [] env)).all (fun x => x.1.isSome)
      && decide (args.length + ([] : List Keyword).length + (if ([] : List Keyword).isEmpty then 0 else 1) < 30)) = true)
    (hline : (apos.endLine == pos.line) = true)
    (h : wpAny (model prog w) A (eval o env) (fun ov s₁ => ∃ x t, ov = .str x t ∧ wpAny (model prog w) A (callWith pos (.builtin id) [.str x t] (backTo pos (starEach args env)) []) Q E s₁) E s) :
    wpAny (model prog w) A (eval (.Call (.Attribute o name apos) args [] pos) env) Q E s := by
  refine wpAny_Call_method hbase hfew hline F.plainAttrs_str slot hty (wpAny_mono h (fun ov s₁ h₁ => ?_) fun _ _ q => q)
  obtain ⟨x, t, rfl, h₁⟩ := h₁
  exact ⟨typeIs_str _ _ _, (fun a e => by cases e), h₁⟩
theorem lenS {x : Str} (S : Sat s₀ N L l own s) (hx : x.length ≤ 1000) (h : ∀ t s', Sat s₀ N L l own s' → Q (.int (x.length : Int) t) s') : wpAny (model prog w) A (call (.builtin "len") [.str x t]) Q E s :=
  PySem.P.len_str (by omega) (h _ _ (S.ext (ext_toks _ _)))
theorem lenL {D : Addr} {ys : Array Value} (S : Sat s₀ N L l own s) (hl : s.heap.IsList D ys) (hx : ys.size ≤ 1000) (h : ∀ t s', Sat s₀ N L l own s' → Q (.int (ys.size : Int) t) s') : wpAny (model prog w) A (call (.builtin "len") [.ref D]) Q E s :=
  Calls.call_len_list hl (by omega) (h _ _ (S.ext (ext_toks _ _)))
theorem truS {x : Str} {Q : Bool → Shared → Prop} (S : Sat s₀ N L l own s) (hx : x.length ≤ 1000) (h : ∀ s', Sat s₀ N L l own s' → Q ((x.length : Int) != 0) s') : wpAny (model prog w) A (truthy (.str x t)) Q E s :=
  PySem.P.truthy_str (by omega) (h _ (S.ext (ext_toks _ _)))
theorem PL.isList {h : Heap} {D : Addr} {ys : Array Value} (x : ∃ o, h.get? D = some o ∧ PL ys o) : h.IsList D ys := let ⟨_, h1, n, e⟩ := x; ⟨_, h1, by rw [e], n, by rw [e]⟩
theorem PL.plain {h : Heap} {D : Addr} {ys : Array Value} (x : ∃ o, h.get? D = some o ∧ PL ys o) : h.PlainList D ys := let ⟨_, h1, n, e⟩ := x; ⟨n, by rw [h1, e]⟩
/-- the start's name, as the program holds it -/
theorem gEll (S : Sat s₀ N L l own s) (G : Gl prog w s₀.heap) (hg : env.globals = mainGlobals) (hl : env.kindOf "ELLIPSIS_MARKER" = some .globalImplicit) (hk : env.scope.kind = .function) (h : ∀ t, Q (.str dotsS t) s) :
    wpAny M A (eval (.Name "ELLIPSIS_MARKER" pos) env) Q E s := by
  obtain ⟨mg, mb, g1, g2, g3, g4, ⟨t, g5⟩, g6⟩ := (G.keeps S.base).ns
  exact Name_function_global hk hl (loadGlobal_global (by rw [hg]; exact g1) g5 (h t)) rfl
end
end Mine

namespace Mine
open PySem PySem.Calls PyProof.Rows
open PySem.Builtin PySem.Builtin.Str

abbrev Lk (l : List (Str × Value)) (x : Str) (v : Value) : Prop := l.lookup x = some v
theorem find4_le {x y : Str} {lo hi q : Nat} (h : find4 x y lo hi = some q) : q + y.length ≤ hi := by
  rcases find4_spec x y lo hi with ⟨e, _⟩ | ⟨i, e, _, hA, _⟩
  · rw [e] at h; cases h
  · rw [e] at h; cases h; exact hA.1
theorem strV_get {lw : List (Str × Tok)} {i : Nat} {v : Value} (h : (strValues lw).toArray[i]? = some v) : ∃ wd tw, lw[i]? = some (wd, tw) ∧ v = .str wd tw := by
  simp only [strValues, List.getElem?_toArray, List.getElem?_map, Option.map_eq_some_iff] at h
  obtain ⟨p, h1, rfl⟩ := h
  exact ⟨p.1, p.2, h1, rfl⟩
theorem strV_size (lw : List (Str × Tok)) : (strValues lw).toArray.size = lw.length := by simp [strValues]
theorem erase_first (p : Str × Tok) (r : List (Str × Tok)) : (strValues (p :: r)).toArray.eraseIdxIfInBounds 0 = (strValues r).toArray := by
  simp [strValues, Array.eraseIdxIfInBounds, List.eraseIdx_toArray]
theorem erase_last (p : Str × Tok) (r : List (Str × Tok)) : (strValues (r ++ [p])).toArray.eraseIdxIfInBounds r.length = (strValues r).toArray := by
  rw [Array.eraseIdxIfInBounds, dif_pos (by simp [strValues]), List.eraseIdx_toArray]
  congr 1
  simp only [strValues, List.map_append, List.map_cons, List.map_nil]
  rw [List.eraseIdx_append_of_length_le (by simp)]
  simp

section
variable {prog : Program} {w : World} {A : Around} {E : Value → Shared → Prop} {s₀ s : Shared} {N : Heap} {L : Addr} {l : List (Str × Value)} {Q : Value → Shared → Prop} {cd D : Addr} {pm : Value} {got : Str} {lw : List (Str × Tok)} {sp ep : Nat} {t1 t2 t3 : Tok}

set_option maxHeartbeats 1000000 in
theorem ellS8 (hA : OkA A 0) (G : Gl prog w s₀.heap) (S : Sat s₀ N L l [(D, PL (strValues lw).toArray)] s) (hlw : ∀ p ∈ lw, p.1.length ≤ 1000) (hep : ep ≤ got.length)
    (l1 : Lk l "startpos" (.int sp t1)) (l2 : Lk l "endpos" (.int ep t2)) (l3 : Lk l "ws" (.ref D)) (l4 : Lk l "got" (.str got t3))
    (h : ∀ s', Ext s₀ s' → Q (.bool (ell3 got (lw.map (·.1)) sp ep)) s') :
    wpAny (model prog w) A (execs ((defAt 2).2.2.1.drop 8) (callEnv (fdAt 2 cd pm) L 21)) (fun fl s' => Q (match fl with | .ret v => v | _ => .none) s') noE s := by
  refine wpAny_execs_cons (wpAny_If (wpAny_isTrue_Compare1 (ldL S l1 rfl rfl (ldL S l2 rfl rfl (gt_int (wpAny_truthy_bool ?_)) rfl) rfl) rfl))
  unfold ell3 at h
  by_cases hlt : ep < sp
  · rw [if_pos (by simpa using hlt)]
    rw [if_pos hlt] at h
    exact wpAny_execs_cons (wpAny_Return_some (wpAny_Constant_bool (h _ S.toExt)))
  · rw [if_neg (by simpa using hlt)]
    rw [if_neg hlt] at h
    refine wpAny_execs_nil (wpAny_execs_cons (wpAny_For (ldL S l3 rfl rfl ?_ rfl) (fun _ => rfl)))
    obtain ⟨N', oD, kN, hoD, ⟨nD, rfl⟩, S⟩ := S.freeze
    refine list_src (K := N') hA.1 ⟨_, hoD, rfl, nD, rfl⟩ S.keep fun it s₂ X => ?_
    refine for_walk X S (.inr (KeepsH.refl _)) (fun i _ l' own' => own' = [] ∧ ∃ (sp' : Nat) (t1 t2 t3 : Tok), Lk l' "startpos" (.int sp' t1) ∧ Lk l' "endpos" (.int ep t2) ∧ Lk l' "got" (.str got t3) ∧ sp' ≤ ep ∧
      ellLoop got ep (lw.map (·.1)) sp = ellLoop got ep ((lw.map (·.1)).drop i) sp') ⟨rfl, sp, t1, t2, t3, l1, l2, l4, by omega, rfl⟩ ?_ ?_
    · rintro i v N₁ l' own' o s₁ hi hv hN₁ ⟨rfl, sp', t1, t2, t3, m1, m2, m3, hsp', he⟩ S
      obtain ⟨wd, tw, hwd, rfl⟩ := strV_get hv
      have hwl := hlw _ (List.mem_of_getElem? hwd)
      have hdrop : (lw.map (·.1)).drop i = wd :: (lw.map (·.1)).drop (i + 1) := by
        have hlt : i < (lw.map (·.1)).length := by rw [List.length_map]; exact (List.getElem?_eq_some_iff.mp hwd).1
        rw [List.drop_eq_getElem_cons hlt]
        congr 1
        rw [List.getElem_map]
        have := (List.getElem?_eq_some_iff.mp hwd).2
        rw [this]
      rw [hdrop] at he
      refine wpAny_assign_Name (stL S rfl rfl fun s₁ S => ?_)
      refine wpAny_execs_cons (wpAny_Assign_Name (mStr F.slot_str_find F.type_str_find rfl rfl rfl (ldL S (lk rfl m3) rfl rfl ⟨_, _, rfl, ?_⟩ rfl)) rfl)
      refine callWith_method1 (args_cons (ldL S rfl rfl rfl (args_cons (ldL S (lk rfl m1) rfl rfl (args_cons (ldL S (lk rfl m2) rfl rfl (args_nil ?_) rfl) rfl) rfl) rfl) rfl) rfl) rfl rfl
      refine find4E S hep fun t₄ s₁ S => stL S rfl rfl fun s₁ S => ?_
      refine wpAny_execs_cons (wpAny_If (wpAny_isTrue_Compare1 (ldL S rfl rfl rfl (kInt S fun t₅ s₁ S => lt_int (wpAny_truthy_bool ?_)) rfl) rfl))
      simp only [ellLoop] at he
      cases hq : find4 got wd sp' ep with
      | none =>
        rw [hq] at he
        rw [if_pos (by simp)]
        refine wpAny_execs_cons (wpAny_Return_some (wpAny_Constant_bool ?_))
        rw [he] at h
        exact h _ S.toExt
      | some q =>
        rw [hq] at he S
        rw [if_neg (by simp)]
        refine wpAny_execs_nil (wpAny_execs_cons (wpAny_AugAssign_Name (ldn S rfl rfl rfl (wpAny_Call_NameR (gB S G rfl rfl rfl rfl rfl (callWith_builtin1 (args_cons (ldL S (lk rfl rfl) rfl rfl (args_nil ?_) rfl) rfl) rfl rfl) rfl)))))
        refine lenS S hwl fun t₅ s₁ S => iiAdd S fun t₆ s₁ S => stL S rfl rfl fun s₁ S => wpAny_execs_nil ?_
        refine ⟨N₁, _, _, KeepsH.refl _, ⟨rfl, q + wd.length, t₆, t2, t3, by rw [Int.natCast_add]; rfl, lk rfl (lk rfl (lk rfl m2)), lk rfl (lk rfl (lk rfl m3)), find4_le hq, he⟩, S⟩
    · rintro N₁ l' own' s₁ hN₁ ⟨rfl, sp', t1, t2, t3, m1, m2, m3, hsp', he⟩ S
      rw [strV_size, List.drop_of_length_le (by simp)] at he
      refine wpAny_execs_cons (wpAny_Return_some (wpAny_Constant_bool ?_))
      rw [he] at h
      exact h _ S.toExt
end
end Mine

namespace Mine
open PySem PySem.Calls PyProof.Rows
open PySem.Builtin PySem.Builtin.Str

theorem split_parts {x : Str} (hc : Txt.contains x dotsS = true) : 2 ≤ (Txt.split x dotsS).length ∧ ∀ p ∈ Txt.split x dotsS, p.length ≤ x.length := by
  obtain ⟨i, hi⟩ := (contains_iff x).mp hc
  have hlen : 3 ≤ x.length := by have := hi.1; rw [dotsS_len] at this; omega
  have h1 : (decide (x.length < dotsS.length) || decide (strKind x < strKind dotsS)) = false := by
    rw [Bool.or_eq_false_iff]; exact ⟨decide_eq_false (by rw [dotsS_len]; omega), decide_eq_false (kind_pos x)⟩
  have hf : (occurrences x dotsS 0 x.length (x.length + 1)).isEmpty = false := by
    refine Bool.eq_false_iff.mpr fun he => ?_
    obtain ⟨f, k1, k2⟩ := StrLaws.occ_tight x dotsS (by rw [dotsS_len]; omega)
    rw [List.isEmpty_iff.mp he] at k1
    have : f = 0 := k1
    exact k2 i (by omega) hi
  unfold Txt.split
  rw [h1, if_neg Bool.false_ne_true, hf, if_neg Bool.false_ne_true]
  refine ⟨?_, ?_⟩
  · cases hcs : occurrences x dotsS 0 x.length (x.length + 1) with
    | nil => rw [hcs] at hf; cases hf
    | cons c r => simp [partsBetween]
  · intro p hp
    simp only [partsBetween, List.mem_map] at hp
    obtain ⟨q, _, rfl⟩ := hp
    rw [sub_eq, len_mk]
    exact Nat.le_trans (List.length_take_le' ..) (by rw [List.length_drop, cl_len]; omega)

section
variable {prog : Program} {w : World} {A : Around} {E : Value → Shared → Prop} {s₀ s : Shared} {N : Heap} {L : Addr} {l : List (Str × Value)} {own : Own} {Q : Value → Shared → Prop} {cd D : Addr} {pm : Value} {want got : Str} {lw : List (Str × Tok)} {sp ep : Nat} {t t1 t2 t3 u : Tok}

theorem delO {ys : Array Value} {i : Int} {k : Nat} {Q : Unit → Shared → Prop} (S : Sat s₀ N L l ((D, PL ys) :: own) s) (hfit : Builtin.List.listFitsIndex i = true) (hk : seqIndex? i ys.size = some k) (hsz : ys.size ≤ 1000)
    (h : ∀ s', Sat s₀ N L l ((D, PL (ys.eraseIdxIfInBounds k)) :: own) s' → Q () s') : wpAny (model prog w) A (delItem (.ref D) (.int i u)) Q E s := by
  refine wpAny_delItem_plain (hsz := small2 hsz) (PL.plain S.get0) hfit hk fun h' hp hs => h _ (S.upd0 ⟨rfl, rfl, rfl⟩ hs.extBut ?_)
  obtain ⟨n, e⟩ := hp
  exact ⟨_, e, n, rfl⟩
theorem subN {value slice : Expr} {ys : Array Value} {v : Value} (hl : s.heap.IsList D ys) (h0 : 0 < ys.size) (hx : ys[ys.size - 1]? = some v)
    (hs : ∀ o i, subscripted slice false o i = operate [o, i] (getItem o i)) (h : Q v s) : wpAny (model prog w) A (subscriptTail value slice (.ref D) (.int (-1) t)) Q E s := by
  refine tail_any (ops := [.ref D, .int (-1) t]) hl.typeIs slot_list_getitem.lookup (wpAny_getItem_list_neg hl (by decide) (by omega) (by decide) ?_ h) (hs _ _)
  rw [show ((-1 : Int) + ys.size).toNat = ys.size - 1 by omega]; exact hx

set_option maxHeartbeats 1000000 in
theorem ellS6 (hA : OkA A 0) (G : Gl prog w s₀.heap) (S : Sat s₀ N L l [(D, PL (strValues lw).toArray)] s) (hlw : ∀ p ∈ lw, p.1.length ≤ 1000) (hn : lw ≠ []) (hsz : lw.length ≤ 1000)
    (l1 : Lk l "startpos" (.int sp t1)) (l2 : Lk l "endpos" (.int got.length t2)) (l3 : Lk l "ws" (.ref D)) (l4 : Lk l "got" (.str got t3))
    (h : ∀ s', Ext s₀ s' → Q (.bool (ell2 got (lw.map (·.1)) sp)) s') :
    wpAny (model prog w) A (execs ((defAt 2).2.2.1.drop 6) (callEnv (fdAt 2 cd pm) L 21)) (fun fl s' => Q (match fl with | .ret v => v | _ => .none) s') noE s := by
  obtain ⟨r, p, rfl⟩ : ∃ r p, lw = r ++ [p] := ⟨lw.dropLast, lw.getLast hn, (List.dropLast_concat_getLast hn).symm⟩
  have hpl := hlw p (by simp)
  have hlast : ((r ++ [p]).map (·.1)).getLastD Str.empty = p.1 := by simp
  have hdl : ((r ++ [p]).map (·.1)).dropLast = r.map (·.1) := by simp
  have hsz' : (strValues (r ++ [p])).toArray.size = r.length + 1 := by rw [strV_size]; simp
  have hget : (strValues (r ++ [p])).toArray[(strValues (r ++ [p])).toArray.size - 1]? = some (.str p.1 p.2) := by
    rw [hsz']; simp [strValues]
  simp only [ell2, hlast, hdl] at h
  refine wpAny_execs_cons (wpAny_Assign_Name (Subscript_ (ldL S l3 rfl rfl (wpAny_UnaryOp (kInt S fun t₁ s₁ S => iNeg S fun t₁ s₁ S => subN (PL.isList S.get0) (by rw [hsz']; omega) hget (fun _ _ => rfl) ?_)) rfl)) rfl)
  refine stL S rfl rfl fun s₁ S => wpAny_execs_cons (wpAny_If (wpAny_isTrue_value (ldL S rfl rfl rfl (truS S hpl fun s₁ S => ?_) rfl) rfl))
  by_cases h0 : p.1.length = 0
  · rw [if_neg (by simp [h0])]
    rw [if_pos h0] at h
    refine wpAny_execs_nil ?_
    exact ellS8 hA G S hlw (Nat.le_refl _) (lk rfl l1) (lk rfl l2) (lk rfl l3) (lk rfl l4) h
  · rw [if_pos (by simpa using h0)]
    rw [if_neg h0] at h
    refine wpAny_execs_cons (wpAny_If (wpAny_isTrue_value (mStr F.slot_str_endswith F.type_str_endswith rfl rfl rfl (ldL S (lk rfl l4) rfl rfl ⟨_, _, rfl, ?_⟩ rfl)) rfl))
    refine callWith_method1 (args_cons (ldL S rfl rfl rfl (args_nil (SC.endswith (wpAny_truthy_bool ?_))) rfl) rfl) rfl rfl
    by_cases he : Txt.endswith got p.1 = true
    · rw [if_pos he]
      rw [if_pos he] at h
      have hle : p.1.length ≤ got.length := by
        obtain ⟨t', e⟩ := (endswith_iff got p.1).mp he
        have := congrArg List.length e
        simp [cl_len] at this; omega
      refine wpAny_execs_cons (wpAny_AugAssign_Name (ldn S (lk rfl l2) rfl rfl (wpAny_Call_NameR (gB S G rfl rfl rfl rfl rfl (callWith_builtin1 (args_cons (ldL S rfl rfl rfl (args_nil ?_) rfl) rfl) rfl rfl) rfl))))
      refine lenS S hpl fun t₅ s₁ S => iiSub S fun t₆ s₁ S => stL S rfl rfl fun s₁ S => ?_
      refine wpAny_execs_cons (wpAny_Delete (wpAny_deleteEach_cons (wpAny_delete_Subscript (ldL S (lk rfl (lk rfl l3)) rfl rfl (wpAny_UnaryOp (kInt S fun t₁ s₁ S => iNeg S fun t₁ s₁ S => ?_)) rfl))))
      refine delO (k := r.length) S (by decide) ?_ (by rw [hsz']; simp at hsz; omega) fun s₁ S => wpAny_deleteEach_nil (wpAny_execs_nil (wpAny_execs_nil ?_))
      · rw [hsz', StrLaws.seqIndex_neg (by decide) (by omega)]; congr 1; omega
      · rw [erase_last] at S
        have e1 : ((got.length : Int) - (p.1.length : Int)) = ((got.length - p.1.length : Nat) : Int) := by omega
        rw [e1] at S
        exact ellS8 hA G S (fun q hq => hlw q (by simp [hq])) (by omega) (lk rfl (lk rfl l1)) rfl (lk rfl (lk rfl l3)) (lk rfl (lk rfl l4)) h
    · rw [if_neg he]
      rw [if_neg he] at h
      exact wpAny_execs_cons (wpAny_Return_some (wpAny_Constant_bool (h _ S.toExt)))

set_option maxHeartbeats 1000000 in
theorem ell_spec (hw : want.length ≤ 900) (hg : got.length ≤ 900) (hA : OkA A 1) (G : Gl prog w s.heap) (h : ∀ s', Ext s s' → Q (.bool (ellM want got)) s') :
    wpAny (model prog w) A (call (.ref 21) [.str want t, .str got u]) Q E s := by
  refine fn_run (i := 2) (binds := [("want", .str want t), ("got", .str got u)]) (k := 0) hA G G.fns.1 (fun _ _ => rfl) rfl (by decide) (locs rfl) rfl rfl rfl ?_
  intro cd pm L s₁ hA₁ G₁ S
  unfold ellM at h
  refine wpAny_execs_cons (wpAny_If (wpAny_isTrue_Compare1 (gEll S G rfl rfl rfl fun t₁ => ldL S rfl rfl rfl (SB.notContains (wpAny_truthy_bool ?_)) rfl) rfl))
  by_cases hc : Txt.contains want dotsS = false
  · rw [if_pos (by rw [hc]; rfl)]
    rw [if_pos hc] at h
    refine wpAny_execs_cons (wpAny_Return_some (wpAny_Compare1 (ldL S rfl rfl rfl (ldL S rfl rfl rfl (PySem.P.eq_str ?_) rfl) rfl) rfl))
    have e : (want.cps.toList == got.cps.toList) = decide (want = got) := by
      rw [Bool.eq_iff_iff, beq_iff_eq, decide_eq_true_eq]
      exact ⟨fun e => cl_inj e, fun e => by rw [e]⟩
    rw [e]
    exact h _ S.toExt
  · have hc' : Txt.contains want dotsS = true := by simpa using hc
    rw [if_neg (by rw [hc']; simp)]
    rw [if_neg hc] at h
    obtain ⟨hp2, hple⟩ := split_parts hc'
    refine wpAny_execs_nil (wpAny_execs_cons (wpAny_Assign_Name (mStr F.slot_str_split F.type_str_split rfl rfl rfl (ldL S rfl rfl rfl ⟨_, _, rfl, ?_⟩ rfl)) rfl))
    refine callWith_method1 (args_cons (gEll S G rfl rfl rfl fun t₁ => args_nil ?_) rfl) rfl rfl
    refine splitE S hc' hw fun D lw s₁ hlw S => stL S rfl rfl fun s₁ S => ?_
    have hlen : lw.length = (Txt.split want dotsS).length := by rw [← hlw]; simp
    have hsz : lw.length ≤ 1000 := by
      rw [hlen]
      unfold Txt.split
      have := StrLaws.occ_length_le_len want dotsS 0 want.length (want.length + 1)
      split
      · simp
      · split
        · simp
        · simp only [partsBetween, List.length_map, List.length_zip, List.length_cons, List.length_append, List.length_nil]; omega
    have hlwl : ∀ p ∈ lw, p.1.length ≤ 1000 := fun p hp => Nat.le_trans (hple p.1 (by rw [← hlw]; exact List.mem_map.mpr ⟨p, hp, rfl⟩)) (by omega)
    refine wpAny_execs_cons (wpAny_Assert_holds (wpAny_isTrue_Compare1 (wpAny_Call_NameR (gB S G rfl rfl rfl rfl rfl (callWith_builtin1 (args_cons (ldL S rfl rfl rfl (args_nil ?_) rfl) rfl) rfl rfl) rfl)) rfl))
    refine lenL S (PL.isList S.get0) (by rw [strV_size]; exact hsz) fun t₂ s₁ S => kInt S fun t₃ s₁ S => ge_int (wpAny_truthy_bool ⟨decide_eq_true (by rw [strV_size, hlen]; omega), ?_⟩)
    refine wpAny_execs_cons (asg2S (x := "startpos") (y := "endpos") s hA₁.1 rfl rfl rfl rfl rfl (tupE s L (args_cons (kInt S fun t₄ s₁ S => ?_) rfl)))
    refine args_cons (wpAny_Call_NameR (gB S G rfl rfl rfl rfl rfl (callWith_builtin1 (args_cons (ldL S rfl rfl rfl (args_nil ?_) rfl) rfl) rfl rfl) rfl)) rfl
    refine lenS S (by omega) fun t₅ s₁ S => args_nil ⟨_, _, _, S, small2 (by simp), fun a N' s₁ _ hT S => ⟨_, _, _, a, _, _, rfl, S, tup_keeps hT S.keep, fun s₁ S => ?_⟩⟩
    cases lw with
    | nil => simp at hlen; omega
    | cons p r =>
      have hr : r ≠ [] := by rintro rfl; simp at hlen; omega
      have hsz' : (strValues (p :: r)).toArray.size = r.length + 1 := by rw [strV_size]; simp
      have hh : (Txt.split want dotsS).headD Str.empty = p.1 := by rw [← hlw]; rfl
      have ht : (Txt.split want dotsS).tail = r.map (·.1) := by rw [← hlw]; rfl
      have hpl := hlwl p (by simp)
      simp only [ell1, hh, ht] at h
      refine wpAny_execs_cons (wpAny_Assign_Name (Subscript_ (ldL S rfl rfl rfl (kInt S fun t₁ s₁ S => subL (v := .str p.1 p.2) (PL.isList S.get0) (by decide) (by decide) rfl (fun _ _ => rfl) ?_) rfl)) rfl)
      refine stL S rfl rfl fun s₁ S => wpAny_execs_cons (wpAny_If (wpAny_isTrue_value (ldL S rfl rfl rfl (truS S hpl fun s₁ S => ?_) rfl) rfl))
      by_cases h0 : p.1.length = 0
      · rw [if_neg (by simp [h0])]
        rw [if_pos h0, ← hlw] at h
        exact wpAny_execs_nil (ellS6 (sp := 0) hA₁ G S hlwl (by simp) hsz rfl rfl rfl rfl h)
      · rw [if_pos (by simpa using h0)]
        rw [if_neg h0] at h
        refine wpAny_execs_cons (wpAny_If (wpAny_isTrue_value (mStr F.slot_str_startswith F.type_str_startswith rfl rfl rfl (ldL S rfl rfl rfl ⟨_, _, rfl, ?_⟩ rfl)) rfl))
        refine callWith_method1 (args_cons (ldL S rfl rfl rfl (args_nil (SC.startswith (wpAny_truthy_bool ?_))) rfl) rfl) rfl rfl
        by_cases he : Txt.startswith got p.1 = true
        · rw [if_pos he]
          rw [if_pos he] at h
          refine wpAny_execs_cons (wpAny_Assign_Name (wpAny_Call_NameR (gB S G rfl rfl rfl rfl rfl (callWith_builtin1 (args_cons (ldL S rfl rfl rfl (args_nil ?_) rfl) rfl) rfl rfl) rfl)) rfl)
          refine lenS S hpl fun t₅ s₁ S => stL S rfl rfl fun s₁ S => ?_
          refine wpAny_execs_cons (wpAny_Delete (wpAny_deleteEach_cons (wpAny_delete_Subscript (ldL S rfl rfl rfl (kInt S fun t₁ s₁ S => ?_) rfl))))
          refine delO (k := 0) S (by decide) (by rw [hsz', StrLaws.seqIndex_nonneg (by decide) (by omega)]; rfl) (by rw [hsz']; simp at hsz; omega) fun s₁ S => wpAny_deleteEach_nil (wpAny_execs_nil (wpAny_execs_nil ?_))
          rw [erase_first] at S
          exact ellS6 hA₁ G S (fun q hq => hlwl q (by simp [hq])) hr (by simp at hsz; omega) rfl rfl rfl rfl h
        · rw [if_neg he]
          rw [if_neg he] at h
          exact wpAny_execs_cons (wpAny_Return_some (wpAny_Constant_bool (h _ S.toExt)))
end
end Mine

namespace Mine
open PySem PySem.Calls PyProof.Rows
open PySem.Builtin PySem.Builtin.Str

def joinS (ws : List Str) : Str := mk (jn (ws.map cl))
theorem join_eq : ∀ ws : List Str, Txt.join (Str.ofString " ") ws = joinS ws := by
  have key : ∀ ws : List Str, cl (Str.join (Str.ofString " ") ws) = jn (ws.map cl) := by
    intro ws
    match ws with
    | [] => rfl
    | [x] => rfl
    | x :: y :: r =>
      have ih := join_aux (y :: r)
      show cl (x ++ Str.ofString " " ++ Str.join (Str.ofString " ") (y :: r)) = cl x ++ 32 :: jn ((y :: r).map cl)
      rw [← ih]
      simp [cl, Str.cps_append, show (Str.ofString " ").cps = #[32] by decide +kernel]
  intro ws
  have h : Txt.join (Str.ofString " ") ws = Str.join (Str.ofString " ") ws := StrLaws.glued_eq_join _ ws
  rw [h]
  unfold joinS
  rw [← key, mk_cl]
where
  join_aux : ∀ ws : List Str, cl (Str.join (Str.ofString " ") ws) = jn (ws.map cl)
    | [] => rfl
    | [x] => rfl
    | x :: y :: r => by
      have ih := join_aux (y :: r)
      show cl (x ++ Str.ofString " " ++ Str.join (Str.ofString " ") (y :: r)) = cl x ++ 32 :: jn ((y :: r).map cl)
      rw [← ih]
      simp [cl, Str.cps_append, show (Str.ofString " ").cps = #[32] by decide +kernel]

section
variable {M : Model} {prog : Program} {w : World} {A : Around} {E : Value → Shared → Prop} {s₀ s : Shared} {N : Heap} {L : Addr} {l : List (Str × Value)} {own : Own} {env : Env} {pos p : Pos} {Q : Value → Shared → Prop} {t u : Tok}

theorem sliceTo {value e : Expr} (s₀ : Shared) (L : Addr) (h : wpAny (model prog w) A (eval value env) (fun o s₁ => wpAny (model prog w) A (eval e env) (fun v s₂ => ∃ N l own D items, ∃ (k : Nat) (t : Tok), o = .ref D ∧ v = .int (k : Int) t ∧ Sat s₀ N L l own s₂ ∧ s₂.heap.IsList D items ∧
      k ≤ items.size ∧ items.size ≤ 1000 ∧ ∀ D' N' s', KeepsH N N' → N'.IsList D' (items.toList.take k).toArray → Sat s₀ N' L l own s' → Q (.ref D') s') E s₁) E s)
    (ht : ∀ o r, letTemporaryGo value o r = pure ()) :
    wpAny (model prog w) A (eval (.Subscript value (.Slice none (some e) none p) pos) env) Q E s := by
  refine wpAny_Subscript_list_slice (wpAny_mono h (fun o s₁ h₁ => wpAny_evalPart_none (wpAny_evalPart_some (wpAny_mono h₁ (fun v s₂ h₂ => ?_) fun _ _ q => q))) fun _ _ q => q) ht
  obtain ⟨N, l, own, D, items, k, t, rfl, rfl, S, hl, hk, hsz, h₂⟩ := h₂
  refine ⟨D, items, none, some (k : Int), rfl, hl, small2 hsz, .none, .int _ _, ?_⟩
  have e1 : Ext s₂ { s₂ with heap := s₂.heap.push { cls := .type "slice", data := .fields #[.none, .int k t, .none] } } := ext_heap (keeps_push _ _)
  have S1 := S.ext e1
  obtain ⟨N', k1, k2, S2⟩ := S1.newN (s' := { s₂ with heap := (s₂.heap.push { cls := .type "slice", data := .fields #[.none, .int k t, .none] }).push { cls := .type "list", data := .seq (slicePick items none (some (k : Int)) none) } })
    ⟨⟨rfl, rfl, rfl⟩, keeps_push _ _⟩ (Heap.get?_push_size _ rfl) (fresh_size _)
  have hsz2 : (s₂.heap.push { cls := .type "slice", data := .fields #[.none, .int k t, .none] }).objs.size = s₂.heap.objs.size + 1 := Heap.size_push ..
  rw [← hsz2]
  refine h₂ _ N' _ k1 ?_ S2
  rw [← slicePick_upto items k hk]
  exact ⟨_, k2, rfl, 0, rfl⟩

theorem joinE {D : Addr} {lw : List (Str × Tok)} (S : Sat s₀ N L l own s) (hl : s.heap.IsList D (strValues lw).toArray) (hn : lw.length ≤ 100) (hw : ∀ q ∈ lw, q.1.length ≤ 3)
    (h : ∀ t s', Sat s₀ N L l own s' → Q (.str (joinS (lw.map (·.1))) t) s') : wpAny (model prog w) A (call (.builtin "str.join") [.str (Str.ofString " ") t, .ref D]) Q E s := by
  have hfit := StrLaws.joinFits (sep := Str.ofString " ") (texts := lw.map (·.1)) (B := 3) (fun y hy => by
    obtain ⟨q, hq, rfl⟩ := List.mem_map.mp hy
    exact hw q hq) (by
    have : (Str.ofString " ").length = 1 := by decide +kernel
    rw [this, List.length_map]; omega)
  refine SC.join hl rfl (by unfold JoinOk; rw [hfit]; rfl) fun t' k => ?_
  rw [join_eq]; exact h _ _ (S.ext (ext_toks _ _))

/-- all the fronts, joined -/
def FrontsPost (ws : List Str) (v : Value) (h : Heap) : Prop := ∃ D lf, v = .ref D ∧ h.IsList D (strValues lf).toArray ∧ lf.map (·.1) = (List.range (ws.length + 1)).map fun k => joinS (ws.take k)

set_option maxHeartbeats 1000000 in
set_option maxRecDepth 100000 in
theorem fronts_spec {W : Addr} {lw : List (Str × Tok)} (hA : OkA A 1) (G : Gl prog w s.heap) (hl : s.heap.IsList W (strValues lw).toArray) (hn : lw.length ≤ 100) (hw : ∀ q ∈ lw, q.1.length ≤ 3)
    (h : Ret s (FrontsPost (lw.map (·.1))) Q) : wpAny (model prog w) A (call (.ref 60) [.ref W]) Q E s := by
  refine fn_runC (i := 60) (binds := [("words", .ref W)]) (k := 0) hA G G.fns.2.2.2.2.2.2 (fun _ _ => rfl) rfl ?_ (fun n => by show List.Nodup [Str.ofString "words"]; decide) rfl rfl rfl ?_
  · intro n x hx
    rw [List.mem_singleton.mp hx]
    exact .inr ⟨rfl, rfl⟩
  intro cd pm L s₁ m hA₁ G₁ hm hS
  have S : Sat s N0 L [] [(L + 1, CellP (some (.ref W)))] s₁ := hS [] (fun _ _ e => by cases e)
  clear hS
  have hsz : (strValues lw).toArray.size = lw.length := strV_size lw
  refine wpAny_execs_cons (wpAny_Return_some (comp_walk (cl := [("words", L + 1)]) rfl (by decide) rfl (by decide) ?_ (fun _ => rfl)))
  refine wpAny_Call_NameR (gB S G rfl rfl rfl rfl rfl (callWith_type1 (args_cons (wpAny_BinOp (wpAny_Call_NameR (gB S G rfl rfl rfl rfl rfl (callWith_builtin1 (args_cons (ldC (S.cell (.head _)) rfl rfl rfl (args_nil ?_) rfl) rfl) rfl rfl) rfl))) rfl) rfl rfl) rfl)
  refine lenL S (lst_keeps hl S.base) (by omega) fun t₁ s₁ S => kInt S fun t₂ s₁ S => iAdd S fun t₃ s₁ S => args_nil ?_
  have e1 : (((strValues lw).toArray.size : Int) + 1) = ((lw.length + 1 : Nat) : Int) := by rw [hsz]; omega
  rw [e1]
  refine range_src (K := N0) hA₁.1 (by omega) fun it s₂ s₃ hext X => ⟨it, s₂, N0, _, _, _, _, fun i _ ys => ∃ lf : List (Str × Tok), ys = (strValues lf).toArray ∧ lf.length = i ∧ lf.map (·.1) = (List.range i).map fun k => joinS ((lw.map (·.1)).take k), rfl, X, ?_, ?_, ?_, ?_, ?_, ?_⟩
  · intro b o e; rw [n0] at e; cases e
  · exact small2 (by omega)
  · rintro i M ys ⟨lf, rfl, h1, _⟩; rw [strV_size]; exact h1
  · exact ⟨[], rfl, rfl, rfl⟩
  · rintro C i v N' ys l' own o s₄ hi ⟨t₄, rfl⟩ ⟨lf, rfl, h1, h2⟩ S₄ _
    have Sb := S.ext hext
    have hcell : s₂.heap.IsCell (L + 1) (some (.ref W)) := Sb.cell (.head _)
    have hlb : s₂.heap.IsList W (strValues lw).toArray := lst_keeps hl Sb.base
    refine wpAny_assign_Name (stL S₄ rfl rfl fun s₅ S₅ => ?_)
    refine mStr F.slot_str_join F.type_str_join rfl rfl rfl (kStr S₅ fun t₅ s₅ S₅ => ⟨_, _, rfl, callWith_method1 (args_cons ?_ rfl) rfl rfl⟩)
    refine sliceTo s₂ C (ldC (hcell.keeps S₅.base) rfl rfl rfl (ldL S₅ rfl rfl rfl ?_ rfl) rfl) (fun _ _ => rfl)
    refine ⟨_, _, _, W, _, i, t₄, rfl, rfl, S₅, lst_keeps hlb S₅.base, by omega, by omega, fun D' N'' s₆ k1 hl' S₆ => args_nil ?_⟩
    have e2 : ((strValues lw).toArray.toList.take i).toArray = (strValues (lw.take i)).toArray := by simp [strValues]
    rw [e2] at hl'
    refine joinE S₆ (lst_keeps hl' S₆.keep) (by rw [List.length_take]; omega) (fun q hq => hw q (List.mem_of_mem_take hq)) fun t₆ s₇ S₇ => ?_
    refine ⟨N'', _, k1, ⟨lf ++ [(joinS ((lw.map (·.1)).take i), t₆)], ?_, by simp [h1], ?_⟩, S₇⟩
    · simp [strValues]
    · rw [List.map_append, h2, List.range_succ, List.map_append]; rfl
  · rintro D N₁ N₂ ys s' ⟨lf, rfl, h1, h2⟩ k1 hD he hk hd
    have Sb := S.ext hext
    refine h _ s' N₂ (Sb.toExt.trans he) hk ?_ ⟨D, lf, rfl, hD.isList, ?_⟩
    · intro a o e
      cases q : s.heap.get? a with
      | none => rfl
      | some o' => have := hd a o e; rw [Sb.base _ _ q] at this; cases this
    · rw [h2, List.length_map]
end
end Mine

namespace Mine
open PySem PySem.Calls PyProof.Rows

def intValues (l : List (Int × Tok)) : List Value := l.map fun p => .int p.1 p.2
def boolValues (l : List Bool) : List Value := l.map .bool
theorem intV_get {lw : List (Int × Tok)} {i : Nat} {v : Value} (h : (intValues lw).toArray[i]? = some v) : ∃ n t, lw[i]? = some (n, t) ∧ v = .int n t := by
  simp only [intValues, List.getElem?_toArray, List.getElem?_map, Option.map_eq_some_iff] at h
  obtain ⟨p, h1, rfl⟩ := h
  exact ⟨p.1, p.2, h1, rfl⟩
theorem intV_size (lw : List (Int × Tok)) : (intValues lw).toArray.size = lw.length := by simp [intValues]
theorem boolV_size (lw : List Bool) : (boolValues lw).toArray.size = lw.length := by simp [boolValues]

section
variable {M : Model} {prog : Program} {w : World} {A : Around} {E : Value → Shared → Prop} {s₀ s : Shared} {N : Heap} {L : Addr} {l : List (Str × Value)} {own : Own} {env : Env} {pos p : Pos} {Q : Value → Shared → Prop} {t u : Tok}

theorem and3 {x y z : Expr} (h : wpAny M A (eval x env) (fun v s₁ => wpAny M A (truthy v) (fun t s₂ => if t then wpAny M A (eval (.BoolOp .And [y, z] pos) env) Q E s₂ else Q v s₂) E s₁) E s) :
    wpAny M A (eval (.BoolOp .And [x, y, z] pos) env) Q E s := by
  show wpAny M A (boolOp pos .And (eval x env :: [eval y env, eval z env])) Q E s
  rw [boolOp]
  · refine wpAny_bind (wpAny_mono h (fun v s₁ h₁ => wpAny_bind (wpAny_standAt (wpAny_bind (wpAny_holding (wpAny_mono h₁ (fun t s₂ h₂ => ?_) fun _ _ q => q))))) fun _ _ q => q)
    cases t with
    | false => exact wpAny_pure h₂
    | true => exact h₂
  · simp

theorem inB {D : Addr} {bs : List Bool} (hl : s.heap.IsList D (boolValues bs).toArray) (h : Q (.bool (bs.contains true)) s) : wpAny (model prog w) A (compareOp .In (.bool true) (.ref D)) Q E s := by
  refine SeqAt.in_listAt (fun v => match v with | .bool b => b | _ => false) hl (fun y hy => ?_) ?_
  · simp only [boolValues, List.mem_toArray, List.mem_map] at hy
    obtain ⟨b, _, rfl⟩ := hy
    have := SeqAt.EqAt.bool_bool (A := A.in1) (s := s) b true
    rwa [show (b == true) = b by cases b <;> rfl] at this
  · have : ((boolValues bs).toArray.any fun v => match v with | .bool b => b | _ => false) = bs.contains true := by
      rw [← Array.any_toList]
      show (boolValues bs).any _ = _
      unfold boolValues
      rw [List.any_map]
      exact any_bools bs
    rw [this]; exact h
where
  any_bools : ∀ bs : List Bool, (bs.any ((fun v => match v with | Value.bool b => b | _ => false) ∘ Value.bool)) = bs.contains true
    | [] => rfl
    | true :: r => by simp
    | false :: r => by
      have := any_bools r
      rw [List.any_cons, List.contains_cons, this]; rfl

theorem boolComp {elt iter : Expr} {scope : Scope} {cl : List (Str × Addr)} {x : Str} {px : Pos} (n : Nat) (f : Nat → Bool) (S : Sat s₀ N L l own s) (hh : A.handled = none) (hn : n ≤ 1000)
    (hclos : closureFor scope env = pure cl) (hcell : ∀ y ∈ scope.names, y.2 ≠ .cell) (hkind : scope.kind = .function)
    (hnames : ∀ y ∈ scope.names, y.2 = .local → scope.names.lookup y.1 = some .local) (hx : scope.names.lookup x = some .local)
    (hs : ∀ x, foldedSetIterable iter env x = pure x)
    (hiter : ∀ Q', (∀ s' t, Sat s₀ N L l own s' → wpAny (model prog w) A (call (.type "range") [.int (n : Int) t]) Q' noE s') → wpAny (model prog w) A (eval iter env) Q' noE s)
    (helt : ∀ s₂ C (j : Nat) t N' l' own' s₄, Sat s₀ N L l own s₂ → j < n → Sat s₂ N' C ((x, .int (j : Int) t) :: l') own' s₄ →
      wpAny (model prog w) A (eval elt (compEnvC scope cl C env)) (fun y s₅ => y = .bool (f j) ∧ ∃ N'', KeepsH N' N'' ∧ Sat s₂ N'' C ((x, .int (j : Int) t) :: l') own' s₅) noE s₄)
    (h : ∀ D N' s', KeepsH N N' → N'.IsList D (boolValues ((List.range n).map f)).toArray → Sat s₀ N' L l own s' → Q (.ref D) s') :
    wpAny (model prog w) A (eval (.ListComp elt [⟨.Name x px, iter, [], 0⟩] scope pos) env) Q noE s := by
  clear S
  refine comp_walk hclos hcell hkind hnames (hiter _ fun s₁ t S₁ => ?_) hs
  refine range_src (K := N0) hh (by omega) fun it s₂ s₃ hext X => ⟨it, s₂, N0, _, _, _, _, fun i _ ys => ys = (boolValues ((List.range i).map f)).toArray, rfl, X, ?_, ?_, ?_, ?_, ?_, ?_⟩
  · intro b o e; rw [n0] at e; cases e
  · exact small2 hn
  · rintro i M ys rfl; rw [boolV_size]; simp
  · rfl
  · rintro C i v N' ys l' own' o s₄ hi ⟨t₄, rfl⟩ rfl S₄ _
    have Sb := S₁.ext hext
    have hkj : (compEnvC scope cl C env).kindOf x = some .local := lookup_relabel_local (env := env) hx
    refine wpAny_assign_Name (stL (env := compEnvC scope cl C env) S₄ hkj hkind fun s₅ S₅ => ?_)
    refine wpAny_mono (helt s₂ C i t₄ N' l' own' s₅ Sb hi S₅) (fun y s₆ h₆ => ?_) fun _ _ q => q
    obtain ⟨rfl, N'', k1, S₆⟩ := h₆
    refine ⟨N'', _, k1, ?_, S₆⟩
    rw [List.range_succ, List.map_append]
    simp [boolValues]
  · rintro D N₁ N₂ ys s' rfl k1 hD he hk hd
    have Sb := S₁.ext hext
    obtain ⟨N', g1, g2, S'⟩ := Sb.grow he hk hd
    exact h D N' s' g1 (lst_keeps hD.isList g2) S'

theorem mLst {o : Expr} {name : Str} {apos : Pos} {args : List Expr} {id : String} (slot : Slot "list" name id) (hty : typeOf (.builtin id) = pure (.type "method_descriptor"))
    (hbase : attributeBase o name env (eval o env) = eval o env)
    (hfew : ((backTo pos (starEach args env)).all (fun x => !x.1) && (backToKw pos (keywordEach [] env)).all (fun x => x.1.isSome)
      && decide (args.length + ([] : List Keyword).length + (if ([] : List Keyword).isEmpty then 0 else 1) < 30)) = true)
    (hline : (apos.endLine == pos.line) = true)
    (h : wpAny (model prog w) A (eval o env) (fun ov s₁ => ∃ D ys, ov = .ref D ∧ s₁.heap.PlainList D ys ∧ wpAny (model prog w) A (callWith pos (.builtin id) [.ref D] (backTo pos (starEach args env)) []) Q E s₁) E s) :
    wpAny (model prog w) A (eval (.Call (.Attribute o name apos) args [] pos) env) Q E s := by
  refine wpAny_Call_method hbase hfew hline F.plainAttrs_list slot hty (wpAny_mono h (fun ov s₁ h₁ => ?_) fun _ _ q => q)
  obtain ⟨D, ys, rfl, ⟨n, hD⟩, h₁⟩ := h₁
  exact ⟨⟨_, hD, rfl⟩, (fun a e => by cases e; exact ⟨_, hD, rfl⟩), h₁⟩

/-- the table's rows so far -/
def TabIs (h : Heap) (row form : List Int) (i : Nat) (items : Array Value) : Prop := items.size = i + 1 ∧ ∀ k, k ≤ i → ∃ a, items[k]? = some (.ref a) ∧ h.IsList a (boolValues (tl row (form.take k))).toArray
theorem TabIs.keeps {h h' : Heap} {row form : List Int} {i : Nat} {items : Array Value} (x : TabIs h row form i items) (k : KeepsH h h') : TabIs h' row form i items :=
  ⟨x.1, fun j hj => let ⟨a, h1, h2⟩ := x.2 j hj; ⟨a, h1, lst_keeps h2 k⟩⟩
theorem TabIs.push {h : Heap} {row form : List Int} {i : Nat} {items : Array Value} {a : Addr} {n : Int} (x : TabIs h row form i items) (hn : form[i]? = some n) (ha : h.IsList a (boolValues (fitRow row (tl row (form.take i)) n)).toArray) :
    TabIs h row form (i + 1) (items.push (.ref a)) := by
  refine ⟨by rw [Array.size_push, x.1], fun k hk => ?_⟩
  by_cases hki : k ≤ i
  · obtain ⟨b, h1, h2⟩ := x.2 k hki
    have hlt : k < items.size := by rw [x.1]; omega
    refine ⟨b, ?_, h2⟩
    rw [Array.getElem?_push_lt hlt]
    rw [Array.getElem?_eq_getElem hlt] at h1
    exact h1
  · obtain rfl : k = i + 1 := by omega
    refine ⟨a, by rw [← x.1]; simp, ?_⟩
    have hlt := (List.getElem?_eq_some_iff.mp hn).1
    have e : form.take (i + 1) = form.take i ++ [n] := by
      rw [List.take_succ_eq_append_getElem hlt, (List.getElem?_eq_some_iff.mp hn).2]
    rw [e, tl, List.foldl_append]
    exact ha
def FitsPost (row form : List Int) (v : Value) (h : Heap) : Prop := ∃ D items, v = .ref D ∧ h.IsList D items ∧ TabIs h row form form.length items
end
end Mine

namespace Mine
open PySem PySem.Calls PyProof.Rows

section
variable {prog : Program} {w : World} {A : Around} {E : Value → Shared → Prop} {s₀ s : Shared} {N : Heap} {L : Addr} {l : List (Str × Value)} {own : Own} {env : Env} {pos p : Pos} {Q : Value → Shared → Prop} {t u : Tok}

theorem isW_or (n : Int) : isW n = (decide (n > 255) || (n == 52)) := by
  unfold isW; congr 1

theorem or2 {x y : Expr} {b1 b2 : Bool} {Q : Bool → Shared → Prop} (h1 : ∀ Q' : Bool → Shared → Prop, (∀ s', Sat s₀ N L l own s' → Q' b1 s') → wpAny (model prog w) A (isTrue x env (eval x env)) Q' noE s)
    (h2 : ∀ s, Sat s₀ N L l own s → ∀ Q' : Bool → Shared → Prop, (∀ s', Sat s₀ N L l own s' → Q' b2 s') → wpAny (model prog w) A (isTrue y env (eval y env)) Q' noE s)
    (h : ∀ s', Sat s₀ N L l own s' → Q (b1 || b2) s') : wpAny (model prog w) A (allTrue .Or [x, y] env) Q noE s := by
  refine wpAny_allTrue_Or_cons (h1 _ fun s₁ S₁ => ?_)
  cases b1 with
  | true => exact h _ S₁
  | false =>
    refine wpAny_allTrue_Or_cons (h2 _ S₁ _ fun s₂ S₂ => ?_)
    cases b2 with
    | true => exact h _ S₂
    | false => exact wpAny_allTrue_Or_nil (h _ S₂)

set_option maxHeartbeats 2000000 in
set_option maxRecDepth 100000 in
theorem fits_spec {F R : Addr} {fv rv : List (Int × Tok)} (hA : OkA A 1) (G : Gl prog w s.heap) (hF : s.heap.IsList F (intValues fv).toArray) (hR : s.heap.IsList R (intValues rv).toArray) (hf : fv.length ≤ 100) (hr : rv.length ≤ 100)
    (h : Ret s (FitsPost (rv.map (·.1)) (fv.map (·.1))) Q) : wpAny (model prog w) A (call (.ref 55) [.ref F, .ref R]) Q E s := by
  refine fn_runC (i := 59) (binds := [("form", .ref F), ("row", .ref R)]) (k := 0) hA G G.fns.2.2.2.2.2.1 (fun _ _ => rfl) rfl ?_ (fun n => by show List.Nodup [Str.ofString "last", Str.ofString "number", Str.ofString "row"]; decide) rfl rfl rfl ?_
  · intro n x hx
    rcases List.mem_cons.mp hx with rfl | hx
    · exact .inl rfl
    · rw [List.mem_singleton.mp hx]
      exact .inr ⟨rfl, rfl⟩
  intro cd pm L s₁ m hA₁ G₁ hm hS
  have S : Sat s N0 L [("form", .ref F)] [(L + 3, CellP none), (L + 2, CellP none), (L + 1, CellP (some (.ref R)))] s₁ := hS [("form", .ref F)] (fun y v e => by
    rw [hm]
    rw [List.lookup_cons] at e
    by_cases hy : y = "form"
    · subst hy
      simp only [beq_self_eq_true, Option.some.injEq] at e
      subst e; rfl
    · rw [show (y == ("form" : Str)) = false from beq_eq_false_iff_ne.mpr hy] at e; cases e)
  clear hS
  have hszR : (intValues rv).toArray.size = rv.length := intV_size rv
  have hlen : ((intValues rv).toArray.size : Int) + 1 = ((rv.length + 1 : Nat) : Int) := by rw [hszR]; omega
  -- table = [[..]]
  refine wpAny_execs_cons (wpAny_Assign_Name (lstO s L (args_cons ?_ rfl)) rfl)
  refine boolComp (cl := []) (rv.length + 1) (fun j => decide (j = 0)) S hA₁.1 (by omega) rfl (by decide) rfl (by decide) rfl (fun _ => rfl) ?_ ?_ ?_
  · intro Q' hQ'
    refine wpAny_Call_NameR (gB S G rfl rfl rfl rfl rfl (callWith_type1 (args_cons (wpAny_BinOp (wpAny_Call_NameR (gB S G rfl rfl rfl rfl rfl (callWith_builtin1 (args_cons (ldC (S.cell (.tail _ (.tail _ (.head _)))) rfl rfl rfl (args_nil ?_) rfl) rfl) rfl rfl) rfl))) rfl) rfl rfl) rfl)
    refine lenL S (lst_keeps hR S.base) (by omega) fun t₁ s₁ S => kInt S fun t₂ s₁ S => iAdd S fun t₃ s₁ S => args_nil ?_
    rw [hlen]
    exact hQ' _ _ S
  · intro s₂ C j t N' l' own' s₄ Sb hj S₄
    refine wpAny_Compare1 (ldL S₄ rfl rfl rfl (kInt S₄ fun t₁ s₅ S₅ => eq_int ⟨?_, N', KeepsH.refl _, S₅⟩) rfl) rfl
    congr 1
    rw [Bool.eq_iff_iff, beq_iff_eq, decide_eq_true_eq]; omega
  intro D0 N1 s₂ _ hD0 S
  refine args_nil ⟨_, _, _, S, small2 (by simp), fun T s₂ S => stL S rfl rfl fun s₂ S => ?_⟩
  -- for number in form
  refine wpAny_execs_cons (wpAny_For (ldL S rfl rfl rfl ?_ rfl) (fun _ => rfl))
  refine list_src (K := s.heap) hA₁.1 hF S.base fun it s₂ X => ?_
  refine for_walk X S (.inl (KeepsH.refl _)) (fun i N' l' own' => ∃ items vl vn, own' = [(T, PL items), (L + 3, CellP vl), (L + 2, CellP vn), (L + 1, CellP (some (.ref R)))] ∧ Lk l' "table" (.ref T) ∧ TabIs N' (rv.map (·.1)) (fv.map (·.1)) i items)
    ⟨_, none, none, rfl, rfl, rfl, ?_⟩ ?_ ?_
  · intro k hk
    obtain rfl : k = 0 := by omega
    refine ⟨D0, rfl, ?_⟩
    have e : (fv.map (·.1)).take 0 = [] := rfl
    rw [e]
    show N1.IsList D0 (boolValues (row0 (rv.map (·.1)))).toArray
    rw [row0, List.length_map]; exact hD0
  · rintro i v N' l' own' o s₂ hi hv hN ⟨items, vl, vn, rfl, lt, hT⟩ S
    obtain ⟨n, tn, hn, rfl⟩ := intV_get hv
    have hn' : (fv.map (·.1))[i]? = some n := by rw [List.getElem?_map, hn]; rfl
    have hcl : ∀ {v s'}, Sat s N' L l' [(it, fun x => x = o), (T, PL items), (L + 3, CellP vl), (L + 2, CellP v), (L + 1, CellP (some (.ref R)))] s' → s'.heap.IsCell (L + 3) vl := fun S => S.cell (.tail _ (.tail _ (.head _)))
    refine wpAny_assign_Name (stC (S.cell (.tail _ (.tail _ (.tail _ (.head _))))) rfl rfl rfl fun s₃ r1 r2 r3 => ?_)
    replace S := S.upd3 (P' := CellP (some (.int n tn))) r1 r2 r3
    -- last = table[-1]
    obtain ⟨a, ha, hla⟩ := hT.2 i (Nat.le_refl _)
    refine wpAny_execs_cons (wpAny_Assign_Name (Subscript_ (ldL S lt rfl rfl (wpAny_UnaryOp (kInt S fun t₁ s₁ S => iNeg S fun t₁ s₁ S => subN (PL.isList S.get1) (by rw [hT.1]; omega) (by rw [hT.1]; exact ha) (fun _ _ => rfl) ?_)) rfl)) rfl)
    refine stC (S.cell (.tail _ (.tail _ (.head _)))) rfl rfl rfl fun s₃ r1 r2 r3 => ?_
    replace S := S.upd2 (P' := CellP (some (.ref a))) r1 r2 r3
    have hlsz : (boolValues (tl (rv.map (·.1)) ((fv.map (·.1)).take i))).toArray.size = rv.length + 1 := by
      rw [boolV_size, (tl_rep _ _).1, List.length_map]
    -- the source of both comprehensions
    have hiter : ∀ {Q' : Value → Shared → Prop} {l s₃ p1 p2 p3 p4 p5 p6 p7}, Sat s N' L l [(it, fun x => x = o), (T, PL items), (L + 3, CellP (some (.ref a))), (L + 2, CellP (some (.int n tn))), (L + 1, CellP (some (.ref R)))] s₃ →
        (∀ s' t, Sat s N' L l [(it, fun x => x = o), (T, PL items), (L + 3, CellP (some (.ref a))), (L + 2, CellP (some (.int n tn))), (L + 1, CellP (some (.ref R)))] s' → wpAny (model prog w) (A.deeper (callEnvC (fdAt 59 cd pm) L 55)) (call (.type "range") [.int ((rv.length + 1 : Nat) : Int) t]) Q' noE s') →
        wpAny (model prog w) (A.deeper (callEnvC (fdAt 59 cd pm) L 55)) (eval (.Call (.Name "range" p1) [.BinOp (.Call (.Name "len" p2) [.Name "row" p3] [] p4) .Add (.Constant (.int 1) 0 p5) p6] [] p7) (callEnvC (fdAt 59 cd pm) L 55)) Q' noE s₃ := by
      intro Q' l s₃ p1 p2 p3 p4 p5 p6 p7 S hQ'
      refine wpAny_Call_NameR (gB S G rfl rfl rfl rfl rfl (callWith_type1 (args_cons (wpAny_BinOp (wpAny_Call_NameR (gB S G rfl rfl rfl rfl rfl (callWith_builtin1 (args_cons (ldC (S.cell (.tail _ (.tail _ (.tail _ (.tail _ (.head _)))))) rfl rfl rfl (args_nil ?_) rfl) rfl) rfl rfl) rfl))) rfl) rfl rfl) rfl)
      refine lenL S (lst_keeps hR S.base) (by omega) fun t₁ s₁ S => kInt S fun t₂ s₁ S => iAdd S fun t₃ s₁ S => args_nil ?_
      rw [hlen]
      exact hQ' _ _ S
    have fin : ∀ D' N2 l' s₃, KeepsH N' N2 → Lk l' "table" (.ref T) → N2.IsList D' (boolValues (fitRow (rv.map (·.1)) (tl (rv.map (·.1)) ((fv.map (·.1)).take i)) n)).toArray →
        Sat s N2 L l' [(it, fun x => x = o), (T, PL items), (L + 3, CellP (some (.ref a))), (L + 2, CellP (some (.int n tn))), (L + 1, CellP (some (.ref R)))] s₃ →
        wpAny (model prog w) (A.deeper (callEnvC (fdAt 59 cd pm) L 55)) (call (.builtin "list.append") [.ref T, .ref D']) (fun _ s₃ => ∃ N'' l'' own'', KeepsH N' N'' ∧
          (∃ items vl vn, own'' = [(T, PL items), (L + 3, CellP vl), (L + 2, CellP vn), (L + 1, CellP (some (.ref R)))] ∧ Lk l'' "table" (.ref T) ∧ TabIs N'' (rv.map (·.1)) (fv.map (·.1)) (i + 1) items) ∧ Sat s N'' L l'' ((it, fun x => x = o) :: own'') s₃) noE s₃ := by
      intro D' N2 l' s₃ k1 lt' hD' S
      refine wpAny_list_append_plain (hsz := small2 (by rw [hT.1]; rw [intV_size] at hi; omega)) (PL.plain S.get1) fun h' hp hs => ?_
      obtain ⟨nn, e⟩ := hp
      exact ⟨N2, l', _, k1, ⟨_, _, _, rfl, lt', (hT.keeps k1).push hn' hD'⟩, S.upd1 ⟨rfl, rfl, rfl⟩ hs.extBut ⟨_, e, nn, rfl⟩⟩
    refine wpAny_execs_cons (wpAny_If (wpAny_isTrue_BoolOp (or2 (b1 := decide (n > 255)) (b2 := (n == 52)) (fun Q' hQ' => wpAny_isTrue_Compare1 (ldC (S.cell (.tail _ (.tail _ (.tail _ (.head _))))) rfl rfl rfl (kInt S fun t₁ s₁ S => gt_int (wpAny_truthy_bool (hQ' _ S))) rfl) rfl)
      (fun s₁ S Q' hQ' => wpAny_isTrue_Compare1 (ldC (S.cell (.tail _ (.tail _ (.tail _ (.head _))))) rfl rfl rfl (kInt S fun t₁ s₁ S => eq_int (wpAny_truthy_bool (hQ' _ S))) rfl) rfl) fun s₃ S => ?_)))
    rw [← isW_or]
    have hlb : ∀ {l s'}, Sat s N' L l [(it, fun x => x = o), (T, PL items), (L + 3, CellP (some (.ref a))), (L + 2, CellP (some (.int n tn))), (L + 1, CellP (some (.ref R)))] s' → s'.heap.IsList a (boolValues (tl (rv.map (·.1)) ((fv.map (·.1)).take i))).toArray :=
      fun S => lst_keeps hla S.keep
    by_cases hw : isW n = true
    · rw [if_pos hw]
      refine wpAny_execs_cons (wpAny_Expr_any (mLst PySem.F.slot_list_append PySem.F.type_list_append rfl rfl rfl (ldL S lt rfl rfl ⟨T, items, rfl, PL.plain S.get1, callWith_method1 (args_cons ?_ rfl) rfl rfl⟩ rfl)) rfl rfl)
      refine boolComp (cl := [("last", L + 3)]) (rv.length + 1) (fun j => ((tl (rv.map (·.1)) ((fv.map (·.1)).take i)).take j).contains true) S hA₁.1 (by omega) rfl (by decide) rfl (by decide) rfl (fun _ => rfl) (fun Q' hQ' => hiter S hQ') ?_ ?_
      · intro s₂ C j t N₂ l' own' s₄ Sb hj S₄
        refine wpAny_Compare1 (wpAny_Constant_bool (sliceTo s₂ C (ldC ((Sb.cell (.tail _ (.tail _ (.head _)))).keeps S₄.base) rfl rfl rfl (ldL S₄ rfl rfl rfl ?_ rfl) rfl) (fun _ _ => rfl))) rfl
        refine ⟨_, _, _, a, _, j, t, rfl, rfl, S₄, lst_keeps (hlb Sb) S₄.base, by rw [hlsz]; omega, by rw [hlsz]; omega, fun D' N₃ s₅ k1 hl' S₅ => ?_⟩
        refine inB (bs := (tl (rv.map (·.1)) ((fv.map (·.1)).take i)).take j) (lst_keeps (by simpa [boolValues] using hl') S₅.keep) ⟨rfl, N₃, k1, S₅⟩
      · intro D' N2 s₄ k1 hD' S
        refine args_nil ?_
        refine wpAny_mono (fin D' N2 _ s₄ k1 lt ?_ S) (fun _ _ q => wpAny_execs_nil (wpAny_execs_nil q)) fun _ _ q => q
        rw [fitRow, List.length_map]
        simp only [hw, if_true]
        exact hD'
    · rw [if_neg hw]
      refine wpAny_execs_cons (wpAny_Expr_any (mLst PySem.F.slot_list_append PySem.F.type_list_append rfl rfl rfl (ldL S lt rfl rfl ⟨T, items, rfl, PL.plain S.get1, callWith_method1 (args_cons ?_ rfl) rfl rfl⟩ rfl)) rfl rfl)
      refine boolComp (cl := [("row", L + 1), ("number", L + 2), ("last", L + 3)]) (rv.length + 1) (fun j => decide (0 < j) && (tl (rv.map (·.1)) ((fv.map (·.1)).take i)).getD (j - 1) false && decide ((rv.map (·.1)).getD (j - 1) 0 = n)) S hA₁.1 (by omega) rfl (by decide) rfl (by decide) rfl (fun _ => rfl)
        (fun Q' hQ' => hiter S hQ') ?_ ?_
      · intro s₂ C j t N₂ l' own' s₄ Sb hj S₄
        refine and3 (wpAny_Compare1 (ldL S₄ rfl rfl rfl (kInt S₄ fun t₁ s₅ S₅ => gt_int (wpAny_truthy_bool ?_)) rfl) rfl)
        by_cases hj0 : 0 < j
        · rw [if_pos (by simpa using hj0)]
          have e1 : ((j : Int) - 1).toNat = j - 1 := by omega
          have hlt1 : j - 1 < (tl (rv.map (·.1)) ((fv.map (·.1)).take i)).length := by rw [(tl_rep _ _).1, List.length_map]; omega
          have hg1 : (boolValues (tl (rv.map (·.1)) ((fv.map (·.1)).take i))).toArray[((j : Int) - 1).toNat]? = some (.bool ((tl (rv.map (·.1)) ((fv.map (·.1)).take i)).getD (j - 1) false)) := by
            rw [e1]; simp [boolValues, List.getElem?_eq_getElem hlt1, List.getD_eq_getElem?_getD]
          refine wpAny_And2 (Subscript_ (ldC ((Sb.cell (.tail _ (.tail _ (.head _)))).keeps S₅.base) rfl rfl rfl (wpAny_BinOp (ldL S₅ rfl rfl rfl (kInt S₅ fun t₁ s₅ S₅ => iSub S₅ fun t₁ s₅ S₅ => ?_) rfl)) rfl))
          refine subL (lst_keeps (hlb Sb) S₅.base) (by omega) (by omega) hg1 (fun _ _ => rfl) (wpAny_truthy_bool ?_)
          by_cases hb : (tl (rv.map (·.1)) ((fv.map (·.1)).take i)).getD (j - 1) false = true
          · rw [if_pos hb]
            have hlt2 : j - 1 < rv.length := by omega
            have hg2 : (intValues rv).toArray[((j : Int) - 1).toNat]? = some (.int rv[j - 1].1 rv[j - 1].2) := by
              rw [e1]; simp [intValues, List.getElem?_eq_getElem hlt2]
            refine wpAny_Compare1 (Subscript_ (ldC ((Sb.cell (.tail _ (.tail _ (.tail _ (.tail _ (.head _)))))).keeps S₅.base) rfl rfl rfl (wpAny_BinOp (ldL S₅ rfl rfl rfl (kInt S₅ fun t₁ s₅ S₅ => iSub S₅ fun t₁ s₅ S₅ => ?_) rfl)) rfl)) rfl
            refine subL (lst_keeps hR (Sb.base.trans S₅.base)) (by omega) (by omega) hg2 (fun _ _ => rfl) ?_
            refine ldC ((Sb.cell (.tail _ (.tail _ (.tail _ (.head _))))).keeps S₅.base) rfl rfl rfl (eq_int ⟨?_, N₂, KeepsH.refl _, S₅⟩) rfl
            have hg3 : (rv.map (·.1)).getD (j - 1) 0 = rv[j - 1].1 := by simp [List.getD_eq_getElem?_getD, List.getElem?_eq_getElem hlt2]
            rw [hb, hg3, decide_eq_true hj0]
            congr 1
          · rw [if_neg hb]
            have hb' : (tl (rv.map (·.1)) ((fv.map (·.1)).take i)).getD (j - 1) false = false := by simpa using hb
            refine ⟨?_, N₂, KeepsH.refl _, S₅⟩
            rw [hb']; simp
        · rw [if_neg (by simpa using hj0)]
          refine ⟨?_, N₂, KeepsH.refl _, S₅⟩
          obtain rfl : j = 0 := by omega
          rfl
      · intro D' N2 s₄ k1 hD' S
        refine args_nil ?_
        refine wpAny_mono (fin D' N2 _ s₄ k1 lt ?_ S) (fun _ _ q => wpAny_execs_nil (wpAny_execs_nil q)) fun _ _ q => q
        rw [fitRow, List.length_map]
        simp only [hw]
        exact hD'
  · rintro N' l' own' s₂ hN ⟨items, vl, vn, rfl, lt, hT⟩ S
    rw [intV_size] at hT
    refine wpAny_execs_cons (wpAny_Return_some (ldL S lt rfl rfl ?_ rfl))
    obtain ⟨N2, oT, k1, k2, ⟨nT, rfl⟩, S⟩ := S.freeze
    refine S.ret h ⟨T, items, rfl, ⟨_, k2, rfl, nT, rfl⟩, ?_⟩
    rw [List.length_map]
    exact hT.keeps k1
end
end Mine

namespace Mine
open PySem PySem.Calls PyProof.Rows

section
variable {prog : Program} {w : World} {A : Around} {E : Value → Shared → Prop} {s₀ s : Shared} {N : Heap} {L : Addr} {l : List (Str × Value)} {own own' : Own} {env : Env} {pos p : Pos} {Q : Value → Shared → Prop} {t u : Tok}

theorem Sat.sub (S : Sat s₀ N L l own s) (h : own'.Sublist own) : Sat s₀ N L l own' s := { S with owns := fun p hp => S.owns p (h.subset hp), nd := S.nd.sublist h }

theorem addL {D B : Addr} {xs ys : Array Value} (S : Sat s₀ N L l own s) (hl : s.heap.PlainList D xs) (hb : s.heap.PlainList B ys) (hsz : xs.size + ys.size ≤ 1000)
    (h : ∀ C N' s', KeepsH N N' → N'.PlainList C (xs ++ ys) → Sat s₀ N' L l own s' → Q (.ref C) s') : wpAny (model prog w) A (binaryOp .Add (.ref D) (.ref B)) Q E s := by
  obtain ⟨n, ho⟩ := hl
  obtain ⟨n2, ho2⟩ := hb
  refine concat_meets ⟨_, ho, rfl⟩ ⟨_, ho2, rfl⟩ noFill_list_add seq_list_add PySem.F.slot_list_add PySem.F.entry_list_add (PySem.F.args_list_add_2 _ _) (list_addW D B xs ys n n2 none none #[] #[] (small2 hsz)) ⟨ho, ho2, ?_⟩
  obtain ⟨N', k1, k2, S'⟩ := S.newN (s' := { s with heap := s.heap.push { cls := .type "list", data := .seq (xs ++ ys) } }) (ext_heap (keeps_push _ _)) (Heap.get?_push_size _ rfl) (fresh_size _)
  exact h _ N' _ k1 ⟨0, k2⟩ S'

theorem extO {D B : Addr} {xs ys : Array Value} {p : Addr × (Obj → Prop)} (S : Sat s₀ N L l (p :: (D, PL xs) :: own) s) (hb : s.heap.PlainList B ys) (hsz : xs.size + ys.size ≤ 1000)
    (h : ∀ s', Sat s₀ N L l (p :: (D, PL (xs ++ ys)) :: own) s' → Q .none s') : wpAny (model prog w) A (call (.builtin "list.extend") [.ref D, .ref B]) Q E s := by
  obtain ⟨n, ho⟩ := PL.plain S.get1
  obtain ⟨n2, ho2⟩ := hb
  have hc0 : ¬(!xs.isEmpty && Builtin.List.listTooLong (xs.size + ys.size)) = true := by
    intro hh
    have := (Bool.and_eq_true_iff.mp hh).2
    unfold Builtin.List.listTooLong at this
    rw [decide_eq_true_eq, sizeLine_eq] at this; omega
  refine call_meets PySem.F.slot_list_extend ⟨_, ho, rfl⟩ PySem.F.entry_list_extend (PySem.F.args_list_extend_2 _ _) (AutoSeq1.list_extend_list_list_0 D xs n B ys n2 hc0 (small2 (by omega)) (Nat.le_succ_of_le (small2 hsz))) ⟨ho, ho2, ?_⟩
  refine h _ (S.upd1 ⟨rfl, rfl, rfl⟩ (Heap.SameBut.update _ _ _).extBut ?_)
  exact ⟨_, Heap.get?_update_self _ ho rfl, _, rfl⟩

theorem sumE {D : Addr} {lw : List (Int × Tok)} (S : Sat s₀ N L l own s) (hh : A.handled = none) (hl : s.heap.IsList D (intValues lw).toArray) (h : ∀ z t s', Sat s₀ N L l own s' → Q (.int z t) s') :
    wpAny (model prog w) A (call (.builtin "sum") [.ref D]) Q E s :=
  sum_intListG (xs := lw.toArray) hh (by rw [show intItems lw.toArray = (intValues lw).toArray by simp [intItems, intValues]]; exact hl) fun h' tk t' hk => h _ _ _ (S.ext (ext_of hk))

/-- a list's items are these tokens -/
def Toks (h : Heap) (items : Array Value) (tks : List Tk) : Prop := items.size = tks.length ∧ (∀ (i : Nat) (v : Value), items[i]? = some v → ∃ tk, tks[i]? = some tk ∧ Tkv h v tk) ∧ ∀ tk ∈ tks, OkT tk
theorem Toks.keeps {h h' : Heap} {items : Array Value} {tks : List Tk} (x : Toks h items tks) (k : KeepsH h h') : Toks h' items tks := ⟨x.1, fun i v e => let ⟨tk, h1, h2⟩ := x.2.1 i v e; ⟨tk, h1, h2.keeps k⟩, x.2.2⟩
theorem Toks.nil {h : Heap} : Toks h #[] [] := ⟨rfl, fun i v e => by simp at e, fun _ h => by cases h⟩
theorem Toks.push {h : Heap} {items : Array Value} {tks : List Tk} {v : Value} {tk : Tk} (x : Toks h items tks) (hv : Tkv h v tk) (ho : OkT tk) : Toks h (items.push v) (tks ++ [tk]) := by
  refine ⟨by simp [x.1], fun i u e => ?_, fun q hq => ?_⟩
  · by_cases hi : i < items.size
    · rw [Array.getElem?_push_lt hi, ← Array.getElem?_eq_getElem hi] at e
      obtain ⟨tk', h1, h2⟩ := x.2.1 i u e
      exact ⟨tk', by rw [List.getElem?_append_left (by rw [← x.1]; exact hi)]; exact h1, h2⟩
    · have hi2 : i = items.size := by
        have := (Array.getElem?_eq_some_iff.mp e).1
        rw [Array.size_push] at this; omega
      subst hi2
      rw [Array.getElem?_push_size] at e
      cases e
      exact ⟨tk, by rw [x.1]; simp, hv⟩
  · rcases List.mem_append.mp hq with hq | hq
    · exact x.2.2 q hq
    · rw [List.mem_singleton.mp hq]; exact ho
theorem Toks.append {h : Heap} {xs ys : Array Value} {as bs : List Tk} (x : Toks h xs as) (y : Toks h ys bs) : Toks h (xs ++ ys) (as ++ bs) := by
  refine ⟨by simp [x.1, y.1], fun i u e => ?_, fun q hq => ?_⟩
  · by_cases hi : i < xs.size
    · rw [Array.getElem?_append_left hi] at e
      obtain ⟨tk, h1, h2⟩ := x.2.1 i u e
      exact ⟨tk, by rw [List.getElem?_append_left (by rw [← x.1]; exact hi)]; exact h1, h2⟩
    · rw [Array.getElem?_append_right (by omega)] at e
      obtain ⟨tk, h1, h2⟩ := y.2.1 _ u e
      exact ⟨tk, by rw [List.getElem?_append_right (by rw [← x.1]; omega), ← x.1]; exact h1, h2⟩
  · rcases List.mem_append.mp hq with hq | hq
    · exact x.2.2 q hq
    · exact y.2.2 q hq

def RowsPost (v : Value) (h : Heap) : Prop := ∃ a F R fi ri ft rt, v = .ref a ∧ h.IsTuple a #[.ref F, .ref R] ∧ h.IsList F fi ∧ h.IsList R ri ∧ Toks h fi ft ∧ Toks h ri rt ∧ ft.length ≤ 50 ∧ rt.length ≤ 50
end
end Mine

namespace Mine
open PySem PySem.Calls PyProof.Rows

section
variable {prog : Program} {w : World} {A : Around} {E : Value → Shared → Prop} {s₀ s : Shared} {N : Heap} {L : Addr} {l : List (Str × Value)} {own own' : Own} {env : Env} {pos p : Pos} {Q : Value → Shared → Prop} {t u : Tok}

theorem Sat.get2 {p q : Addr × (Obj → Prop)} {a : Addr} {P : Obj → Prop} (S : Sat s₀ N L l (p :: q :: (a, P) :: own) s) : ∃ o, s.heap.get? a = some o ∧ P o := (S.owns (a, P) (by simp)).2.2
theorem app2 {p q : Addr × (Obj → Prop)} {D : Addr} {xs : Array Value} {v : Value} (S : Sat s₀ N L l (p :: q :: (D, PL xs) :: own) s) (hsz : xs.size ≤ 1000) (h : ∀ s', Sat s₀ N L l (p :: q :: (D, PL (xs.push v)) :: own) s' → Q .none s') :
    wpAny (model prog w) A (call (.builtin "list.append") [.ref D, v]) Q E s := by
  refine wpAny_list_append_plain (hsz := small2 hsz) (PL.plain S.get2) fun h' hp hs => h _ (S.upd2 ⟨rfl, rfl, rfl⟩ hs.extBut ?_)
  obtain ⟨n, e⟩ := hp; exact ⟨_, e, n, rfl⟩
theorem app1 {p : Addr × (Obj → Prop)} {D : Addr} {xs : Array Value} {v : Value} (S : Sat s₀ N L l (p :: (D, PL xs) :: own) s) (hsz : xs.size ≤ 1000) (h : ∀ s', Sat s₀ N L l (p :: (D, PL (xs.push v)) :: own) s' → Q .none s') :
    wpAny (model prog w) A (call (.builtin "list.append") [.ref D, v]) Q E s := by
  refine wpAny_list_append_plain (hsz := small2 hsz) (PL.plain S.get1) fun h' hp hs => h _ (S.upd1 ⟨rfl, rfl, rfl⟩ hs.extBut ?_)
  obtain ⟨n, e⟩ := hp; exact ⟨_, e, n, rfl⟩

set_option maxHeartbeats 2000000 in
set_option maxRecDepth 100000 in
theorem rowsS3 {Sc B F cd : Addr} {pm vp : Value} {sv : List (Int × Tok)} {ri fi : Array Value} {ft rt : List Tk} {ptk : Tk} {vn : Option Value} (hA : OkA A 3) (G : Gl prog w s₀.heap) (hSc : s₀.heap.IsList Sc (intValues sv).toArray) (hsv : sv.length ≤ 5)
    (S : Sat s₀ N L l [(B, PL ri), (F, PL fi), (L + 1, CellP vn)] s) (l1 : Lk l "script" (.ref Sc)) (l2 : Lk l "form" (.ref F)) (l3 : Lk l "row" (.ref B)) (l4 : Lk l "plus" vp) (hp : Tkv N vp ptk) (hpo : OkT ptk)
    (hf : Toks N fi ft) (hr : Toks N ri rt) (hfl : ft.length ≤ 2) (hrl : rt.length ≤ 1) (h : Ret s₀ RowsPost Q) :
    wpAny (model prog w) A (execs ((defAt 58).2.2.1.drop 3) (callEnvC (fdAt 58 cd pm) L 50)) (fun fl s' => Q (match fl with | .ret v => v | _ => .none) s') noE s := by
  refine wpAny_execs_cons (wpAny_For (ldL S l1 rfl rfl ?_ rfl) (fun _ => rfl))
  refine list_src (K := s₀.heap) hA.1 hSc S.base fun it s₂ X => ?_
  refine for_walk X S (.inl (KeepsH.refl _)) (fun i N' l' own' => ∃ fi ri ft rt vn, own' = [(B, PL ri), (F, PL fi), (L + 1, CellP vn)] ∧ Lk l' "form" (.ref F) ∧ Lk l' "row" (.ref B) ∧ Lk l' "plus" vp ∧ Toks N' fi ft ∧ Toks N' ri rt ∧
    ft.length ≤ 2 + i ∧ rt.length ≤ 1 + 2 * i) ⟨fi, ri, ft, rt, vn, rfl, l2, l3, l4, hf, hr, hfl, hrl⟩ ?_ ?_
  · rintro i v N' l' own' o s₂ hi hv hN ⟨fi, ri, ft, rt, vn, rfl, m2, m3, m4, hf, hr, hfl, hrl⟩ S
    obtain ⟨x, tx, hx, rfl⟩ := intV_get hv
    rw [intV_size] at hi
    have hfsz := hf.1
    have hrsz := hr.1
    refine wpAny_assign_Name (stL S rfl rfl fun s₂ S => ?_)
    refine wpAny_execs_cons (asg2 (x := "kind") (y := "n") s₀ hA.1 rfl rfl rfl rfl (tupE s₀ L (args_cons (wpAny_BinOp ?_) rfl)))
    refine ldL S rfl rfl rfl (kInt S fun t₁ s₁ S => iMod S (by decide) fun t₂ s₁ S => ?_) rfl
    refine args_cons (wpAny_BinOp (ldL S rfl rfl rfl (kInt S fun t₁ s₁ S => iDiv S (by decide) (by decide) fun t₂ s₁ S => args_nil ⟨_, _, _, S, small2 (by simp), fun a N₁ s₁ kN₁ hT S => ⟨_, _, _, a, _, _, rfl, S, tup_keeps hT S.keep, fun s₁ S => ?_⟩⟩) rfl)) rfl
    refine stC (S.cell (.tail _ (.tail _ (.tail _ (.head _))))) rfl rfl rfl fun s₃ r1 r2 r3 => ?_
    replace S := S.upd3 (P' := CellP (some (.int (x / 4) t₂))) r1 r2 r3
    replace hf := hf.keeps kN₁
    replace hr := hr.keeps kN₁
    refine wpAny_execs_cons (wpAny_If (wpAny_isTrue_Compare1 (ldL S rfl rfl rfl (kInt S fun t₁ s₁ S => eq_int (wpAny_truthy_bool ?_)) rfl) rfl))
    by_cases h1 : x % 4 = 1
    · rw [if_pos (by simpa using h1)]
      -- form.append(_law_other(256 + n % 50))
      refine wpAny_execs_cons (wpAny_Expr_any (mLst PySem.F.slot_list_append PySem.F.type_list_append rfl rfl rfl (ldL S (lk rfl (lk rfl m2)) rfl rfl ⟨F, fi, rfl, PL.plain S.get2, callWith_method1 (args_cons ?_ rfl) rfl rfl⟩ rfl)) rfl rfl)
      refine wpAny_Call_NameR (gG S G rfl rfl rfl rfl (callF G.fns.2.2.1 (args_cons (wpAny_BinOp (kInt S fun t₁ s₁ S => wpAny_BinOp (ldC (S.cell (.tail _ (.tail _ (.tail _ (.head _))))) rfl rfl rfl (kInt S fun t₁ s₁ S => iMod S (by decide) fun t₁ s₁ S => iAdd S fun t₁ s₁ S => args_nil ⟨S.base, ?_⟩) rfl))) rfl) rfl) rfl)
      refine other_spec (by omega) (by omega) (hA.mono (by omega)) (G.keeps S.base) fun v s' M e k d p => ?_
      obtain ⟨N₂, k1, k2, S⟩ := S.grow e k d
      obtain ⟨tk, p1, p2⟩ := p
      replace hf := (hf.keeps k1).push (p2.keeps k2) p1
      replace hr := hr.keeps k1
      refine args_nil (app2 S (by omega) fun s₃ S => ?_)
      -- row.extend(..)
      refine wpAny_execs_cons (wpAny_Expr_any (mLst PySem.F.slot_list_extend PySem.F.type_list_extend rfl rfl rfl (ldL S (lk rfl (lk rfl m3)) rfl rfl ⟨B, ri, rfl, PL.plain S.get1, callWith_method1 (args_cons ?_ rfl) rfl rfl⟩ rfl)) rfl rfl)
      refine comp_walk (cl := [("n", L + 1)]) rfl (by decide) rfl (by decide) ?_ (fun _ => rfl)
      refine wpAny_Call_NameR (gB S G rfl rfl rfl rfl rfl (callWith_type1 (args_cons (wpAny_BinOp (ldC (S.cell (.tail _ (.tail _ (.tail _ (.head _))))) rfl rfl rfl (kInt S fun t₁ s₁ S => iMod S (by decide) fun t₁ s₁ S => args_nil ?_) rfl)) rfl) rfl rfl) rfl)
      have e3 : x / 4 % 3 = (((x / 4 % 3).toNat : Nat) : Int) := by omega
      rw [e3]
      refine range_src (K := N0) hA.1 (by omega) fun it₂ s₄ s₅ hext X₂ => ⟨it₂, s₄, N0, _, _, _, _, fun i M ys => ∃ tks, Toks M ys tks ∧ tks.length = i, rfl, X₂, ?_, ?_, ?_, ?_, ?_, ?_⟩
      · intro b o e; rw [n0] at e; cases e
      · exact small2 (by omega)
      · rintro i M ys ⟨tks, q1, q2⟩; rw [q1.1, q2]
      · exact ⟨[], .nil, rfl⟩
      · rintro C j v M ys l₂ own₂ o₂ s₆ hj ⟨t₆, rfl⟩ ⟨tks, q1, q2⟩ S₆ _
        have Sb := S.ext hext
        refine wpAny_assign_Name (stL S₆ rfl rfl fun s₇ S₇ => ?_)
        have Gb : Gl prog w s₄.heap := G.keeps Sb.base
        refine wpAny_Call_NameR (gG S₇ Gb rfl rfl rfl rfl (callF Gb.fns.2.2.2.1 (args_cons (wpAny_BinOp (wpAny_BinOp (ldC ((Sb.cell (.tail _ (.tail _ (.tail _ (.head _))))).keeps S₇.base) rfl rfl rfl (kInt S₇ fun t₁ s₁ S₇ => iDiv S₇ (by decide) (by decide) fun t₁ s₁ S₇ => ?_) rfl))) rfl) rfl) rfl)
        refine ldL S₇ rfl rfl rfl (iAdd S₇ fun t₁ s₁ S₇ => args_nil ⟨S₇.base, ?_⟩) rfl
        refine token_spec hA (Gb.keeps S₇.base) fun v s' M' e k d p => ?_
        obtain ⟨N₃, k1, k2, S₇⟩ := S₇.grow e k d
        obtain ⟨tk, p1, p2⟩ := p
        exact ⟨N₃, _, k1, ⟨tks ++ [tk], (q1.keeps k1).push (p2.keeps k2) p1, by simp [q2]⟩, S₇⟩
      · rintro D N₃ N₄ ys s' ⟨tks, q1, q2⟩ k1' hD he hk hd
        have Sb := S.ext hext
        obtain ⟨N₅, g1, g2, S⟩ := Sb.grow he hk hd
        have hq1 := (q1.keeps k1').keeps g2
        have hysz := hq1.1
        refine args_nil (extO S (pl_keeps (pl_keeps hD g2) S.keep) (by omega) fun s₈ S => ?_)
        refine wpAny_execs_nil (wpAny_execs_nil ⟨N₅, _, _, (kN₁.trans k1).trans g1, ⟨_, _, _, _, _, rfl, lk rfl (lk rfl m2), lk rfl (lk rfl m3), lk rfl (lk rfl m4), hf.keeps g1, (hr.keeps g1).append hq1, ?_, ?_⟩, S⟩)
        · rw [List.length_append]; simp; omega
        · rw [List.length_append]; omega
    · rw [if_neg (by simpa using h1)]
      -- token = _law_token(n)
      refine wpAny_execs_cons (wpAny_Assign_Name (wpAny_Call_NameR (gG S G rfl rfl rfl rfl (callF G.fns.2.2.2.1 (args_cons (ldC (S.cell (.tail _ (.tail _ (.tail _ (.head _))))) rfl rfl rfl (args_nil ⟨S.base, ?_⟩) rfl) rfl) rfl) rfl)) rfl)
      refine token_spec hA (G.keeps S.base) fun v s' M e k d p => ?_
      obtain ⟨N₂, k1, k2, S⟩ := S.grow e k d
      obtain ⟨tk, p1, p2⟩ := p
      replace hf := hf.keeps k1
      replace hr := hr.keeps k1
      replace p2 := p2.keeps k2
      refine stL S rfl rfl fun s₃ S => ?_
      -- the two ifs
      refine wpAny_execs_cons (wpAny_If (wpAny_isTrue_Compare1 (ldL S rfl rfl rfl (kInt S fun t₁ s₁ S => ne_int (wpAny_truthy_bool ?_)) rfl) rfl))
      by_cases h3 : x % 4 = 3
      · rw [if_neg (by simp [h3])]
        refine wpAny_execs_nil (wpAny_execs_cons (wpAny_If (wpAny_isTrue_Compare1 (ldL S rfl rfl rfl (kInt S fun t₁ s₁ S => ne_int (wpAny_truthy_bool ?_)) rfl) rfl)))
        rw [if_pos (by simp [h3])]
        refine wpAny_execs_cons (wpAny_Expr_any (mLst PySem.F.slot_list_append PySem.F.type_list_append rfl rfl rfl (ldL S (lk rfl (lk rfl (lk rfl m3))) rfl rfl ⟨B, ri, rfl, PL.plain S.get1, callWith_method1 (args_cons (ldL S rfl rfl rfl (args_nil ?_) rfl) rfl) rfl rfl⟩ rfl)) rfl rfl)
        refine app1 S (by omega) fun s₃ S => wpAny_execs_nil (wpAny_execs_nil (wpAny_execs_nil ⟨N₂, _, _, kN₁.trans k1, ⟨_, _, _, _, _, rfl, lk rfl (lk rfl (lk rfl m2)), lk rfl (lk rfl (lk rfl m3)), lk rfl (lk rfl (lk rfl m4)), hf, hr.push p2 p1, by omega, ?_⟩, S⟩))
        rw [List.length_append]; simp; omega
      · rw [if_pos (by simpa using h3)]
        refine wpAny_execs_cons (wpAny_Expr_any (mLst PySem.F.slot_list_append PySem.F.type_list_append rfl rfl rfl (ldL S (lk rfl (lk rfl (lk rfl m2))) rfl rfl ⟨F, fi, rfl, PL.plain S.get2, callWith_method1 (args_cons (ldL S rfl rfl rfl (args_nil ?_) rfl) rfl) rfl rfl⟩ rfl)) rfl rfl)
        refine app2 S (by omega) fun s₃ S => wpAny_execs_nil ?_
        refine wpAny_execs_cons (wpAny_If (wpAny_isTrue_Compare1 (ldL S rfl rfl rfl (kInt S fun t₁ s₁ S => ne_int (wpAny_truthy_bool ?_)) rfl) rfl))
        by_cases h2 : x % 4 = 2
        · rw [if_neg (by simp [h2])]
          refine wpAny_execs_nil (wpAny_execs_nil (wpAny_execs_nil ⟨N₂, _, _, kN₁.trans k1, ⟨_, _, _, _, _, rfl, lk rfl (lk rfl (lk rfl m2)), lk rfl (lk rfl (lk rfl m3)), lk rfl (lk rfl (lk rfl m4)), hf.push p2 p1, hr, ?_, by omega⟩, S⟩))
          rw [List.length_append]; simp; omega
        · rw [if_pos (by simpa using h2)]
          refine wpAny_execs_cons (wpAny_Expr_any (mLst PySem.F.slot_list_append PySem.F.type_list_append rfl rfl rfl (ldL S (lk rfl (lk rfl (lk rfl m3))) rfl rfl ⟨B, ri, rfl, PL.plain S.get1, callWith_method1 (args_cons (ldL S rfl rfl rfl (args_nil ?_) rfl) rfl) rfl rfl⟩ rfl)) rfl rfl)
          refine app1 S (by omega) fun s₃ S => wpAny_execs_nil (wpAny_execs_nil (wpAny_execs_nil ⟨N₂, _, _, kN₁.trans k1, ⟨_, _, _, _, _, rfl, lk rfl (lk rfl (lk rfl m2)), lk rfl (lk rfl (lk rfl m3)), lk rfl (lk rfl (lk rfl m4)), hf.push p2 p1, hr.push p2 p1, ?_, ?_⟩, S⟩))
          · rw [List.length_append]; simp; omega
          · rw [List.length_append]; simp; omega
  · rintro N' l' own' s₂ hN ⟨fi, ri, ft, rt, vn, rfl, m2, m3, m4, hf, hr, hfl, hrl⟩ S
    rw [intV_size] at hfl hrl
    have hfsz := hf.1
    have hrsz := hr.1
    replace hp := hp.keeps hN
    refine wpAny_execs_cons (wpAny_Return_some (tupE s₀ L (args_cons (wpAny_BinOp (ldL S m2 rfl rfl (lstE s₀ L (args_cons (ldL S m4 rfl rfl (args_nil ⟨_, _, _, S, small2 (by simp), fun P1 N₁ s₁ k1 hP1 S => ?_⟩) rfl) rfl)) rfl)) rfl)))
    refine addL S (PL.plain S.get1) (pl_keeps hP1 S.keep) (by simp; omega) fun C1 N₂ s₁ k2 hC1 S => ?_
    refine args_cons (wpAny_BinOp (ldL S m3 rfl rfl (lstE s₀ L (args_cons (ldL S m4 rfl rfl (args_nil ⟨_, _, _, S, small2 (by simp), fun P2 N₃ s₁ k3 hP2 S => ?_⟩) rfl) rfl)) rfl)) rfl
    refine addL S (PL.plain S.get0) (pl_keeps hP2 S.keep) (by simp; omega) fun C2 N₄ s₁ k4 hC2 S => ?_
    refine args_nil ⟨_, _, _, S, small2 (by simp), fun a N₅ s₁ k5 hT S => ?_⟩
    have k25 : KeepsH N₂ N₅ := (k3.trans k4).trans k5
    have k05 : KeepsH N' N₅ := (k1.trans k2).trans k25
    refine S.ret h ⟨a, C1, C2, _, _, ft ++ [ptk], rt ++ [ptk], rfl, hT, (pl_keeps hC1 k25).isList, (pl_keeps hC2 k5).isList, ?_, ?_, ?_, ?_⟩
    · have := (hf.keeps k05).push (hp.keeps k05) hpo
      rwa [show fi.push vp = fi ++ #[vp] from rfl] at this
    · have := (hr.keeps k05).push (hp.keeps k05) hpo
      rwa [show ri.push vp = ri ++ #[vp] from rfl] at this
    · simp; omega
    · simp; omega
end
end Mine

namespace Mine
open PySem PySem.Calls PyProof.Rows

theorem plus_eq : Str.ofString "+" = mk [43] := by decide +kernel
theorem dots_eq : Str.ofString "..." = mk dots := by decide +kernel

section
variable {prog : Program} {w : World} {A : Around} {E : Value → Shared → Prop} {s₀ s : Shared} {N : Heap} {L : Addr} {l : List (Str × Value)} {own own' : Own} {env : Env} {pos p : Pos} {Q : Value → Shared → Prop} {t u : Tok}

set_option maxHeartbeats 2000000 in
set_option maxRecDepth 100000 in
theorem rows_spec {Sc : Addr} {sv : List (Int × Tok)} (hA : OkA A 4) (G : Gl prog w s.heap) (hSc : s.heap.IsList Sc (intValues sv).toArray) (hsv : sv.length ≤ 5) (h : Ret s RowsPost Q) :
    wpAny (model prog w) A (call (.ref 50) [.ref Sc]) Q E s := by
  refine fn_runC (i := 58) (binds := [("script", .ref Sc)]) (k := 3) hA G G.fns.2.2.2.2.1 (fun _ _ => rfl) rfl ?_ (fun n => by show List.Nodup [Str.ofString "n"]; decide) rfl rfl rfl ?_
  · intro n x hx
    rw [List.mem_singleton.mp hx]
    exact .inl rfl
  intro cd pm L s₁ m hA₁ G₁ hm hS
  have S : Sat s N0 L [("script", .ref Sc)] [(L + 1, CellP none)] s₁ := hS [("script", .ref Sc)] (fun y v e => by
    rw [hm]
    rw [List.lookup_cons] at e
    by_cases hy : y = "script"
    · subst hy
      simp only [beq_self_eq_true, Option.some.injEq] at e
      subst e; rfl
    · rw [show (y == ("script" : Str)) = false from beq_eq_false_iff_ne.mpr hy] at e; cases e)
  clear hS
  obtain ⟨kvs, hD, hlen, hrel, ⟨tp, hplus⟩, _, td, hdots⟩ := G.tab
  -- plus
  refine wpAny_execs_cons (wpAny_Assign_Name (tupE s L (args_cons (Subscript_ (gG S G rfl rfl rfl rfl (kStr S fun t₁ s₁ S => tabItem S hD hplus (fun _ _ => rfl) fun s₁ S => ?_) rfl)) rfl)) rfl)
  refine args_cons (kStr S fun t₂ s₁ S => args_nil ⟨_, _, _, S, small2 (by simp), fun aP N₁ s₁ _ hP S => stL S rfl rfl fun s₁ S => ?_⟩) rfl
  rw [plus_eq] at hP
  -- dots
  refine wpAny_execs_cons (wpAny_Assign_Name (tupE s L (args_cons (Subscript_ (gG S G rfl rfl rfl rfl (kStr S fun t₁ s₁ S => tabItem S hD hdots (fun _ _ => rfl) fun s₁ S => ?_) rfl)) rfl)) rfl)
  refine args_cons (kStr S fun t₂ s₁ S => args_nil ⟨_, _, _, S, small2 (by simp), fun aD N₂ s₁ k₂ hDt S => stL S rfl rfl fun s₁ S => ?_⟩) rfl
  rw [dots_eq] at hDt
  have tP : Tkv N₂ (.ref aP) (14, [43]) := ⟨aP, _, _, rfl, tup_keeps hP k₂⟩
  have tD : Tkv N₂ (.ref aD) (52, dots) := ⟨aD, _, _, rfl, hDt⟩
  have oP : OkT (14, [43]) := .inr (by decide)
  have oD : OkT (52, dots) := .inl ⟨by decide, rfl⟩
  -- form, row = ..
  refine wpAny_execs_cons (asg2 (x := "form") (y := "row") s hA₁.1 rfl rfl rfl rfl (Subscript_ (lstE s L (args_cons (tupE s L (args_cons (lstO s L (args_cons (ldL S rfl rfl rfl (args_cons (ldL S rfl rfl rfl (args_nil ⟨_, _, _, S, small2 (by simp), fun A1 s₁ S => ?_⟩) rfl) rfl) rfl) rfl)) rfl)) rfl))))
  refine args_cons (lstO s L (args_cons (ldL S rfl rfl rfl (args_nil ⟨_, _, _, S, small2 (by simp), fun B1 s₁ S => args_nil ⟨_, _, _, S, small2 (by simp), fun T1 N₃ s₁ k₃ hT1 S => ?_⟩⟩) rfl) rfl)) rfl
  refine args_cons (tupE s L (args_cons (lstO s L (args_cons (ldL S rfl rfl rfl (args_nil ⟨_, _, _, S, small2 (by simp), fun A2 s₁ S => ?_⟩) rfl) rfl)) rfl)) rfl
  refine args_cons (lstO s L (args_nil ⟨_, _, _, S, small2 (by simp), fun B2 s₁ S => args_nil ⟨_, _, _, S, small2 (by simp), fun T2 N₄ s₁ k₄ hT2 S => ?_⟩⟩)) rfl
  refine args_cons (tupE s L (args_cons (lstO s L (args_nil ⟨_, _, _, S, small2 (by simp), fun A3 s₁ S => ?_⟩)) rfl)) rfl
  refine args_cons (lstO s L (args_nil ⟨_, _, _, S, small2 (by simp), fun B3 s₁ S => args_nil ⟨_, _, _, S, small2 (by simp), fun T3 N₅ s₁ k₅ hT3 S => ?_⟩⟩)) rfl
  refine args_nil ⟨_, _, _, S, small2 (by simp), fun O N₆ s₁ k₆ hO S => ?_⟩
  refine wpAny_BinOp (wpAny_Call_NameR (gB S G rfl rfl rfl rfl rfl (callWith_builtin1 (args_cons (ldL S rfl rfl rfl (args_nil ?_) rfl) rfl) rfl rfl) rfl))
  refine sumE S hA₁.1 (lst_keeps hSc S.base) fun z t₃ s₁ S => kInt S fun t₄ s₁ S => iMod S (by decide) fun t₅ s₁ S => ?_
  have k26 : KeepsH N₂ N₆ := ((k₃.trans k₄).trans k₅).trans k₆
  have tP6 := tP.keeps k26
  have tD6 := tD.keeps k26
  have hz : (z % 3).toNat = 0 ∨ (z % 3).toNat = 1 ∨ (z % 3).toNat = 2 := by omega
  have hsub : ∀ {v : Value}, (#[Value.ref T1, .ref T2, .ref T3])[(z % 3).toNat]? = some v → ∀ {value slice : Expr} {Q : Value → Shared → Prop}, (∀ o i, subscripted slice false o i = operate [o, i] (getItem o i)) → Q v s₁ →
      wpAny (model prog w) (A.deeper (callEnvC (fdAt 58 cd pm) L 50)) (subscriptTail value slice (.ref O) (.int (z % 3) t₅)) Q noE s₁ :=
    fun hv _ _ _ hs hq => subL (lst_keeps hO.isList S.keep) (by omega) (by omega) hv hs hq
  rcases hz with hz | hz | hz
  · refine hsub (v := .ref T1) (by rw [hz]; rfl) (fun _ _ => rfl) ⟨_, _, _, T1, _, _, rfl, S, tup_keeps (tup_keeps hT1 ((k₄.trans k₅).trans k₆)) S.keep, fun s₂ S => stL S rfl rfl fun s₂ S => ?_⟩
    refine rowsS3 (ft := [(14, [43]), (52, dots)]) (rt := [(14, [43])]) hA₁ G hSc hsv (S.sub (own' := [(B1, PL #[.ref aP]), (A1, PL #[.ref aP, .ref aD]), (L + 1, CellP none)]) ?_) rfl rfl rfl rfl tP6 oP ?_ ?_ (by simp) (by simp) h
    · exact .cons _ (.cons _ (.cons _ (.cons _ (.cons_cons _ (.cons_cons _ (.cons_cons _ .slnil))))))
    · exact (Toks.nil.push tP6 oP).push tD6 oD
    · exact Toks.nil.push tP6 oP
  · refine hsub (v := .ref T2) (by rw [hz]; rfl) (fun _ _ => rfl) ⟨_, _, _, T2, _, _, rfl, S, tup_keeps (tup_keeps hT2 (k₅.trans k₆)) S.keep, fun s₂ S => stL S rfl rfl fun s₂ S => ?_⟩
    refine rowsS3 (ft := [(52, dots)]) (rt := []) hA₁ G hSc hsv (S.sub (own' := [(B2, PL #[]), (A2, PL #[.ref aD]), (L + 1, CellP none)]) ?_) rfl rfl rfl rfl tP6 oP ?_ ?_ (by simp) (by simp) h
    · exact .cons _ (.cons _ (.cons_cons _ (.cons_cons _ (.cons _ (.cons _ (.cons_cons _ .slnil))))))
    · exact Toks.nil.push tD6 oD
    · exact Toks.nil
  · refine hsub (v := .ref T3) (by rw [hz]; rfl) (fun _ _ => rfl) ⟨_, _, _, T3, _, _, rfl, S, tup_keeps (tup_keeps hT3 k₆) S.keep, fun s₂ S => stL S rfl rfl fun s₂ S => ?_⟩
    refine rowsS3 (ft := []) (rt := []) hA₁ G hSc hsv (S.sub (own' := [(B3, PL #[]), (A3, PL #[]), (L + 1, CellP none)]) ?_) rfl rfl rfl rfl tP6 oP ?_ ?_ (by simp) (by simp) h
    · exact .cons_cons _ (.cons_cons _ (.cons _ (.cons _ (.cons _ (.cons _ (.cons_cons _ .slnil))))))
    · exact Toks.nil
    · exact Toks.nil
end
end Mine

namespace Mine
open PySem PySem.Calls PyProof.Rows

theorem slicePick_any (items : Array Value) (k : Nat) : slicePick items none (some (k : Int)) none = (items.toList.take k).toArray := by
  by_cases hk : k ≤ items.size
  · exact slicePick_upto items k hk
  · have e : sliceBounds none (some (k : Int)) none items.size = sliceBounds none (some (items.size : Int)) none items.size := by
      have h1 : ¬ ((k : Int) < 0) := by omega
      have h2 : ¬ ((items.size : Int) < 0) := by omega
      have h3 : min (k : Int) (items.size : Int) = min (items.size : Int) (items.size : Int) := by omega
      simp only [sliceBounds, Option.getD_none, if_neg h1, if_neg h2, h3]
      rfl
    have e2 : slicePick items none (some (k : Int)) none = slicePick items none (some (items.size : Int)) none := by unfold slicePick; rw [e]
    rw [e2, slicePick_upto items items.size (Nat.le_refl _), List.take_of_length_le (by simp), List.take_of_length_le (by simp; omega)]

theorem jn_len : ∀ ws : List W, (∀ w ∈ ws, w.length ≤ 3) → (jn ws).length ≤ 4 * ws.length
  | [], _ => by simp [jn]
  | [w], h => by have := h w (by simp); simp [jn]; omega
  | w :: v :: r, h => by
    have h1 := h w (by simp)
    have ih := jn_len (v :: r) fun x hx => h x (by simp [hx])
    simp only [jn, List.length_append, List.length_cons] at ih ⊢
    omega
theorem front_len {ts : List Tk} (h : ∀ t ∈ ts, OkT t) : (front ts).length ≤ 4 * ts.length := by
  unfold front
  rw [len_mk]
  have := jn_len (ts.map (·.2)) fun w hw => by
    obtain ⟨t, ht, rfl⟩ := List.mem_map.mp hw
    exact ok_len (h t ht)
  simpa using this
theorem join_front (ts : List Tk) (k : Nat) : joinS ((ts.map fun t => mk t.2).take k) = front (ts.take k) := by
  unfold joinS front
  congr 2
  rw [← List.map_take, List.map_map]
  exact List.map_congr_left fun t _ => cl_mk t.2

section
variable {M : Model} {prog : Program} {w : World} {A : Around} {E : Value → Shared → Prop} {s₀ s : Shared} {N : Heap} {L : Addr} {l : List (Str × Value)} {own own' : Own} {env : Env} {pos p : Pos} {Q : Value → Shared → Prop} {t u : Tok}

theorem sliceAny {value e : Expr} (s₀ : Shared) (L : Addr) (h : wpAny (model prog w) A (eval value env) (fun o s₁ => wpAny (model prog w) A (eval e env) (fun v s₂ => ∃ N l own D items, ∃ (k : Nat) (t : Tok), o = .ref D ∧ v = .int (k : Int) t ∧ Sat s₀ N L l own s₂ ∧ s₂.heap.IsList D items ∧
      items.size ≤ 1000 ∧ ∀ D' N' s', KeepsH N N' → N'.IsList D' (items.toList.take k).toArray → Sat s₀ N' L l own s' → Q (.ref D') s') E s₁) E s)
    (ht : ∀ o r, letTemporaryGo value o r = pure ()) :
    wpAny (model prog w) A (eval (.Subscript value (.Slice none (some e) none p) pos) env) Q E s := by
  refine wpAny_Subscript_list_slice (wpAny_mono h (fun o s₁ h₁ => wpAny_evalPart_none (wpAny_evalPart_some (wpAny_mono h₁ (fun v s₂ h₂ => ?_) fun _ _ q => q))) fun _ _ q => q) ht
  obtain ⟨N, l, own, D, items, k, t, rfl, rfl, S, hl, hsz, h₂⟩ := h₂
  refine ⟨D, items, none, some (k : Int), rfl, hl, small2 hsz, .none, .int _ _, ?_⟩
  have e1 : Ext s₂ { s₂ with heap := s₂.heap.push { cls := .type "slice", data := .fields #[.none, .int k t, .none] } } := ext_heap (keeps_push _ _)
  have S1 := S.ext e1
  obtain ⟨N', k1, k2, S2⟩ := S1.newN (s' := { s₂ with heap := (s₂.heap.push { cls := .type "slice", data := .fields #[.none, .int k t, .none] }).push { cls := .type "list", data := .seq (slicePick items none (some (k : Int)) none) } })
    ⟨⟨rfl, rfl, rfl⟩, keeps_push _ _⟩ (Heap.get?_push_size _ rfl) (fresh_size _)
  have hsz2 : (s₂.heap.push { cls := .type "slice", data := .fields #[.none, .int k t, .none] }).objs.size = s₂.heap.objs.size + 1 := Heap.size_push ..
  rw [← hsz2]
  refine h₂ _ N' _ k1 ?_ S2
  rw [← slicePick_any items k]
  exact ⟨_, k2, rfl, 0, rfl⟩

/-- one part of each token, as a list -/
theorem tokComp {scope : Scope} {z : Str} {p1 p2 p3 p4 p5 : Pos} {k : Nat} {F : Addr} {items : Array Value} {ft : List Tk} (x : Str) (f : Tk → Tok → Tok → Value) (S : Sat s₀ N env.locals l own s) (hh : A.handled = none)
    (hl : N.IsList F items) (hT : Toks N items ft) (hsz : ft.length ≤ 100)
    (hclos : closureFor scope env = pure []) (hcell : ∀ y ∈ scope.names, y.2 ≠ .cell) (hkind : scope.kind = .function)
    (hnames : ∀ y ∈ scope.names, y.2 = .local → scope.names.lookup y.1 = some .local) (h1 : scope.names.lookup (Str.ofString "number") = some .local) (h2 : scope.names.lookup (Str.ofString "word") = some .local)
    (hz : Lk l z (.ref F)) (hzk : env.kindOf z = some .local) (hk : env.scope.kind = .function) (hzd : (z == ("__debug__" : Str)) = false) (hs : ∀ v, foldedSetIterable (.Name z p5) env v = pure v)
    (hx : scope.names.lookup x = some .local) (hxd : (x == ("__debug__" : Str)) = false)
    (hf : ∀ (tk : Tk) t1 t2, List.lookup x [(("word" : Str), Value.str (mk tk.2) t2), ("number", Value.int tk.1 t1)] = some (f tk t1 t2))
    (h : ∀ D ys N' s', KeepsH N N' → N'.IsList D ys → ys.size = ft.length → (∀ (i : Nat) (tk : Tk), ft[i]? = some tk → ∃ t1 t2, ys[i]? = some (f tk t1 t2)) → Sat s₀ N' env.locals l own s' → Q (.ref D) s') :
    wpAny (model prog w) A (eval (.ListComp (.Name x p1) [⟨.Tuple [.Name "number" p2, .Name "word" p3] k p4, .Name z p5, [], 0⟩] scope pos) env) Q noE s := by
  refine comp_walk hclos hcell hkind hnames (ldL S hz hzk hk ?_ hzd) hs
  refine list_src (K := N) hh hl S.keep fun it s₂ X => ⟨it, s, N, _, _, _, _, fun i _ ys => ys.size = i ∧ ∀ (j : Nat) (tk : Tk), j < i → ft[j]? = some tk → ∃ t1 t2, ys[j]? = some (f tk t1 t2), rfl, X, S.keep, ?_, ?_, ?_, ?_, ?_⟩
  · rw [hT.1]; exact small2 (by omega)
  · intro i M ys hys; exact hys.1
  · exact ⟨rfl, fun j tk hj => by omega⟩
  · rintro C i v N' ys l' own' o s₃ hi hv ⟨q1, q2⟩ S₃ _
    obtain ⟨tk, htk, a, t1, t2, rfl, hTup⟩ := hT.2.1 i v hv
    have hk1 : (compEnvC scope [] C env).kindOf "number" = some .local := lookup_relabel_local (env := env) h1
    have hk2 : (compEnvC scope [] C env).kindOf "word" = some .local := lookup_relabel_local (env := env) h2
    have hk3 : (compEnvC scope [] C env).kindOf x = some .local := lookup_relabel_local (env := env) hx
    refine tgt2 (env := compEnvC scope [] C env) hh hk1 hk2 hkind S₃ (tup_keeps hTup (S.keep.trans S₃.base)) fun s₄ S₄ => ?_
    have hlk : List.lookup x ((("word" : Str), Value.str (mk tk.2) t2) :: (("number" : Str), Value.int tk.1 t1) :: l') = some (f tk t1 t2) := by
      have := hf tk t1 t2
      simp only [List.lookup_cons, List.lookup_nil] at this ⊢
      split <;> rename_i h9
      · rw [h9] at this; exact this
      · rw [h9] at this
        split <;> rename_i h8
        · rw [h8] at this; exact this
        · rw [h8] at this; cases this
    refine ldL (env := compEnvC scope [] C env) S₄ hlk hk3 hkind ⟨N', _, KeepsH.refl _, ⟨by simp [q1], fun j tk' hj htk' => ?_⟩, S₄⟩ hxd
    by_cases hji : j < i
    · obtain ⟨u1, u2, e⟩ := q2 j tk' hji htk'
      refine ⟨u1, u2, ?_⟩
      rw [Array.getElem?_push_lt (by rw [q1]; exact hji), ← Array.getElem?_eq_getElem]
      exact e
    · obtain rfl : j = i := by omega
      rw [htk] at htk'; cases htk'
      exact ⟨t1, t2, by rw [← q1]; simp⟩
  · rintro D N₁ N₂ ys s' ⟨q1, q2⟩ k1 hD he hk' hd
    obtain ⟨N', g1, g2, S'⟩ := S.grow he hk' hd
    refine h D ys N' s' g1 (lst_keeps hD.isList g2) (by rw [q1, hT.1]) (fun i tk htk => q2 i tk ?_ htk) S'
    rw [hT.1]; exact (List.getElem?_eq_some_iff.mp htk).1

theorem dueE {x y z : Expr} {p1 p2 : Pos} {b1 b2 b3 : Bool} (S : Sat s₀ N L l own s) (h1 : ∀ Q' : Value → Shared → Prop, (∀ s', Sat s₀ N L l own s' → Q' (.bool b1) s') → wpAny (model prog w) A (eval x env) Q' noE s)
    (h2 : ∀ s, Sat s₀ N L l own s → ∀ Q' : Value → Shared → Prop, (∀ s', Sat s₀ N L l own s' → Q' (.bool b2) s') → wpAny (model prog w) A (eval y env) Q' noE s)
    (h3 : ∀ s, Sat s₀ N L l own s → ∀ Q' : Value → Shared → Prop, (∀ s', Sat s₀ N L l own s' → Q' (.bool b3) s') → wpAny (model prog w) A (eval z env) Q' noE s)
    (h : ∀ s', Sat s₀ N L l own s' → Q (.bool (b1 || (b2 && b3))) s') : wpAny (model prog w) A (eval (.BoolOp .Or [x, .BoolOp .And [y, z] p2] p1) env) Q noE s := by
  clear S
  refine wpAny_Or2 (h1 _ fun s₁ S₁ => wpAny_truthy_bool ?_)
  cases b1 with
  | true => exact h _ S₁
  | false =>
    refine wpAny_And2 (h2 _ S₁ _ fun s₂ S₂ => wpAny_truthy_bool ?_)
    cases b2 with
    | false => exact h _ S₂
    | true => exact h3 _ S₂ _ fun s₃ S₃ => h _ S₃
end
end Mine

namespace Mine
open PySem PySem.Calls PyProof.Rows

def asI : Option Value → Int × Tok
  | some (.int n t) => (n, t)
  | _ => (0, 0)
def asS : Option Value → Str × Tok
  | some (.str n t) => (n, t)
  | _ => (Str.empty, 0)
/-- ints, as the comprehension's list gives them -/
theorem ints_of {ys : Array Value} {ft : List Tk} (hs : ys.size = ft.length) (h : ∀ (i : Nat) (tk : Tk), ft[i]? = some tk → ∃ t1 t2 : Tok, ys[i]? = some ((fun (tk : Tk) (t1 _ : Tok) => Value.int tk.1 t1) tk t1 t2)) :
    ∃ nv : List (Int × Tok), ys = (intValues nv).toArray ∧ nv.map (·.1) = ft.map (·.1) := by
  have key : ∀ i, i < ft.length → ∃ t1, ys[i]? = some (.int (ft.getD i (0, [])).1 t1) := fun i hi => by
    obtain ⟨t1, t2, e⟩ := h i ft[i] (List.getElem?_eq_getElem hi)
    exact ⟨t1, by rw [e, List.getD_eq_getElem?_getD, List.getElem?_eq_getElem hi]; rfl⟩
  refine ⟨(List.range ft.length).map fun i => asI ys[i]?, ?_, ?_⟩
  · apply Array.ext'
    apply List.ext_getElem?
    intro i
    by_cases hi : i < ft.length
    · obtain ⟨t1, e⟩ := key i hi
      rw [Array.getElem?_toList, e]
      simp [intValues, hi, e, asI]
    · rw [Array.getElem?_toList, Array.getElem?_eq_none (by omega), List.getElem?_eq_none]
      simp [intValues]; omega
  · apply List.ext_getElem?
    intro i
    by_cases hi : i < ft.length
    · obtain ⟨t1, e⟩ := key i hi
      simp [hi, e, asI, List.getD_eq_getElem?_getD]
    · rw [List.getElem?_eq_none, List.getElem?_eq_none] <;> simp <;> omega
theorem strs_of {ys : Array Value} {ft : List Tk} (hs : ys.size = ft.length) (h : ∀ (i : Nat) (tk : Tk), ft[i]? = some tk → ∃ t1 t2 : Tok, ys[i]? = some ((fun (tk : Tk) (_ t2 : Tok) => Value.str (mk tk.2) t2) tk t1 t2)) :
    ∃ nv : List (Str × Tok), ys = (strValues nv).toArray ∧ nv.map (·.1) = ft.map fun t => mk t.2 := by
  have key : ∀ i, i < ft.length → ∃ t1, ys[i]? = some (.str (mk (ft.getD i (0, [])).2) t1) := fun i hi => by
    obtain ⟨t1, t2, e⟩ := h i ft[i] (List.getElem?_eq_getElem hi)
    exact ⟨t2, by rw [e, List.getD_eq_getElem?_getD, List.getElem?_eq_getElem hi]; rfl⟩
  refine ⟨(List.range ft.length).map fun i => asS ys[i]?, ?_, ?_⟩
  · apply Array.ext'
    apply List.ext_getElem?
    intro i
    by_cases hi : i < ft.length
    · obtain ⟨t1, e⟩ := key i hi
      rw [Array.getElem?_toList, e]
      simp [strValues, hi, e, asS]
    · rw [Array.getElem?_toList, Array.getElem?_eq_none (by omega), List.getElem?_eq_none]
      simp [strValues]; omega
  · apply List.ext_getElem?
    intro i
    by_cases hi : i < ft.length
    · obtain ⟨t1, e⟩ := key i hi
      simp [hi, e, asS, List.getD_eq_getElem?_getD]
    · rw [List.getElem?_eq_none, List.getElem?_eq_none] <;> simp <;> omega
theorem words_small {nv : List (Str × Tok)} {ft : List Tk} (e : nv.map (·.1) = ft.map fun t => mk t.2) (h : ∀ t ∈ ft, OkT t) : ∀ q ∈ nv, q.1.length ≤ 3 := by
  intro q hq
  have : q.1 ∈ ft.map fun t => mk t.2 := by rw [← e]; exact List.mem_map.mpr ⟨q, hq, rfl⟩
  obtain ⟨t, ht, e2⟩ := List.mem_map.mp this
  rw [← e2, len_mk]; exact ok_len (h t ht)
theorem front_get {lf : List (Str × Tok)} {nv : List (Str × Tok)} {ft : List Tk} (e1 : nv.map (·.1) = ft.map fun t => mk t.2) (e2 : lf.map (·.1) = (List.range ((nv.map (·.1)).length + 1)).map fun k => joinS ((nv.map (·.1)).take k)) {i : Nat} (hi : i ≤ ft.length) :
    ∃ t, (strValues lf).toArray[i]? = some (.str (front (ft.take i)) t) := by
  have hlen : nv.length = ft.length := by have := congrArg List.length e1; simpa using this
  have hl : lf.length = ft.length + 1 := by have := congrArg List.length e2; simpa [hlen] using this
  have hlt : i < lf.length := by omega
  have h3 : (lf.map (·.1))[i]? = some (joinS ((nv.map (·.1)).take i)) := by
    rw [e2, List.getElem?_map, List.getElem?_range (by simp [hlen]; omega)]; rfl
  rw [List.getElem?_map, List.getElem?_eq_getElem hlt] at h3
  simp only [Option.map_some, Option.some.injEq] at h3
  rw [e1, join_front] at h3
  refine ⟨lf[i].2, ?_⟩
  simp [strValues, List.getElem?_eq_getElem hlt, h3]

section
variable {prog : Program} {w : World} {A : Around} {E : Value → Shared → Prop} {s₀ s : Shared} {N : Heap} {L : Addr} {l : List (Str × Value)} {own own' : Own} {pos p : Pos} {t u : Tok}

set_option maxHeartbeats 2000000 in
set_option maxRecDepth 100000 in
theorem law_loop {T W V fa : Addr} {cdv : Value} {items : Array Value} {lw lv : List (Str × Tok)} {nw nv : List (Str × Tok)} {ft rt : List Tk} {Qf : Flow → Shared → Prop} (hA : OkA A 4) (G : Gl prog w s₀.heap) (S : Sat s₀ N L l [] s)
    (l1 : Lk l "table" (.ref T)) (l2 : Lk l "wants" (.ref W)) (l3 : Lk l "gots" (.ref V)) (hT : N.IsList T items) (hW : N.IsList W (strValues lw).toArray) (hV : N.IsList V (strValues lv).toArray)
    (hTab : TabIs N (rt.map (·.1)) (ft.map (·.1)) (ft.map (·.1)).length items)
    (e1 : nw.map (·.1) = ft.map fun t => mk t.2) (e2 : lw.map (·.1) = (List.range ((nw.map (·.1)).length + 1)).map fun k => joinS ((nw.map (·.1)).take k))
    (e3 : nv.map (·.1) = rt.map fun t => mk t.2) (e4 : lv.map (·.1) = (List.range ((nv.map (·.1)).length + 1)).map fun k => joinS ((nv.map (·.1)).take k))
    (hf : ∀ t ∈ ft, OkT t) (hr : ∀ t ∈ rt, OkT t) (hfl : ft.length ≤ 50) (hrl : rt.length ≤ 50)
    (h : ∀ s', Ext s₀ s' → Qf (.ret (.bool true)) s') :
    wpAny (model prog w) A (execs ((defAt 61).2.2.1.drop 4) (envOf (defAt 61).1 (defAt 61).2.2.2 L fa cdv)) Qf noE s := by
  have hlw : lw.length = ft.length + 1 := by have h1 := congrArg List.length e1; have h2 := congrArg List.length e2; simp at h1 h2; omega
  have hlv : lv.length = rt.length + 1 := by have h1 := congrArg List.length e3; have h2 := congrArg List.length e4; simp at h1 h2; omega
  refine wpAny_execs_cons (wpAny_For (wpAny_Call_NameR (gB S G rfl rfl rfl rfl rfl (callWith_type1 (args_cons (wpAny_Call_NameR (gB S G rfl rfl rfl rfl rfl (callWith_builtin1 (args_cons (ldL S l2 rfl rfl (args_nil ?_) rfl) rfl) rfl rfl) rfl)) rfl) rfl rfl) rfl)) (fun _ => rfl))
  refine lenL S (lst_keeps hW S.keep) (by rw [strV_size]; omega) fun t₁ s₁ S => args_nil ?_
  refine range_src (K := N0) hA.1 (by rw [strV_size]; omega) fun it s₂ s₃ hext X => ?_
  replace S := S.ext hext
  refine for_walk X S (.inr (fun b o e => by rw [n0] at e; cases e)) (fun _ _ l' own' => own' = [] ∧ Lk l' "table" (.ref T) ∧ Lk l' "wants" (.ref W) ∧ Lk l' "gots" (.ref V)) ⟨rfl, l1, l2, l3⟩ ?_ ?_
  · rintro i v N' l' own' o s₂ hi ⟨ti, rfl⟩ hN ⟨rfl, m1, m2, m3⟩ S
    rw [strV_size] at hi
    refine wpAny_assign_Name (stL S rfl rfl fun s₂ S => ?_)
    refine wpAny_execs_cons (wpAny_For (wpAny_Call_NameR (gB S G rfl rfl rfl rfl rfl (callWith_type1 (args_cons (wpAny_Call_NameR (gB S G rfl rfl rfl rfl rfl (callWith_builtin1 (args_cons (ldL S (lk rfl m3) rfl rfl (args_nil ?_) rfl) rfl) rfl rfl) rfl)) rfl) rfl rfl) rfl)) (fun _ => rfl))
    refine lenL S (lst_keeps hV (hN.trans S.keep)) (by rw [strV_size]; omega) fun t₁ s₁ S => args_nil ?_
    refine range_src (K := N0) hA.1 (by rw [strV_size]; omega) fun it₂ s₂ s₃ hext X₂ => ?_
    replace S := S.ext hext
    refine for_walk X₂ S (.inr (fun b o e => by rw [n0] at e; cases e)) (fun _ _ l' own' => own' = [(it, fun x => x = o)] ∧ Lk l' "table" (.ref T) ∧ Lk l' "wants" (.ref W) ∧ Lk l' "gots" (.ref V) ∧ Lk l' "i" (.int (i : Int) ti))
      ⟨rfl, lk rfl m1, lk rfl m2, lk rfl m3, rfl⟩ ?_ ?_
    · rintro j v N₂ l₂ own₂ o₂ s₂ hj ⟨tj, rfl⟩ hN₂ ⟨rfl, q1, q2, q3, q4⟩ S
      rw [strV_size] at hj
      have kN : KeepsH N N₂ := hN.trans hN₂
      refine wpAny_assign_Name (stL S rfl rfl fun s₂ S => ?_)
      obtain ⟨a, ha, hla⟩ := hTab.2 i (by rw [List.length_map]; omega)
      obtain ⟨tw, hw⟩ := front_get e1 e2 (i := i) (by omega)
      obtain ⟨tv, hv⟩ := front_get e3 e4 (i := j) (by omega)
      have hrow : (boolValues (tl (rt.map (·.1)) ((ft.map (·.1)).take i))).toArray[((j : Nat) : Int).toNat]? = some (.bool ((tl (rt.map (·.1)) ((ft.map (·.1)).take i)).getD j false)) := by
        have hlt : j < (tl (rt.map (·.1)) ((ft.map (·.1)).take i)).length := by rw [(tl_rep _ _).1, List.length_map]; omega
        simp [boolValues, List.getElem?_eq_getElem hlt, List.getD_eq_getElem?_getD]
      refine wpAny_execs_cons (wpAny_Assign_Name (dueE (b1 := (tl (rt.map (·.1)) ((ft.map (·.1)).take i)).getD j false) (b2 := decide (j = 0)) (b3 := decide (front (ft.take i) = dotsS)) S ?_ ?_ ?_ fun s₂ S => stL S rfl rfl fun s₂ S => ?_) rfl)
      · intro Q' hQ'
        refine Subscript_ (Subscript_ (ldL S (lk rfl q1) rfl rfl (ldL S (lk rfl q4) rfl rfl ?_ rfl) rfl))
        refine subL (lst_keeps hT (kN.trans S.keep)) (by omega) (by omega) (by rw [Int.toNat_natCast]; exact ha) (fun _ _ => rfl) ?_
        refine ldL S rfl rfl rfl (subL (lst_keeps hla (kN.trans S.keep)) (by omega) (by omega) hrow (fun _ _ => rfl) (hQ' _ S)) rfl
      · intro s₂ S Q' hQ'
        refine wpAny_Compare1 (ldL S rfl rfl rfl (kInt S fun t₁ s₅ S₅ => eq_int ?_) rfl) rfl
        have : (((j : Nat) : Int) == 0) = decide (j = 0) := by rw [Bool.eq_iff_iff, beq_iff_eq, decide_eq_true_eq]; omega
        rw [this]; exact hQ' _ S₅
      · intro s₂ S Q' hQ'
        refine wpAny_Compare1 (Subscript_ (ldL S (lk rfl q2) rfl rfl (ldL S (lk rfl q4) rfl rfl ?_ rfl) rfl)) rfl
        refine subL (lst_keeps hW (kN.trans S.keep)) (by omega) (by omega) (by rw [Int.toNat_natCast]; exact hw) (fun _ _ => rfl) (kStr S fun t₁ s₅ S₅ => PySem.P.eq_str ?_)
        have : ((front (ft.take i)).cps.toList == (Str.ofString "...").cps.toList) = decide (front (ft.take i) = dotsS) := by
          rw [Bool.eq_iff_iff, beq_iff_eq, decide_eq_true_eq, show Str.ofString "..." = dotsS by decide +kernel]
          exact ⟨fun e => cl_inj e, fun e => by rw [e]⟩
        rw [this]; exact hQ' _ S₅
      · refine wpAny_execs_cons (wpAny_If (wpAny_isTrue_Compare1 (wpAny_Call_NameR (gG S G rfl rfl rfl rfl (callF G.fns.1 (args_cons (Subscript_ (ldL S (lk rfl (lk rfl q2)) rfl rfl (ldL S (lk rfl (lk rfl q4)) rfl rfl ?_ rfl) rfl)) rfl) rfl) rfl)) rfl))
        refine subL (lst_keeps hW (kN.trans S.keep)) (by omega) (by omega) (by rw [Int.toNat_natCast]; exact hw) (fun _ _ => rfl) ?_
        refine args_cons (Subscript_ (ldL S (lk rfl (lk rfl q3)) rfl rfl (ldL S rfl rfl rfl ?_ rfl) rfl)) rfl
        refine subL (lst_keeps hV (kN.trans S.keep)) (by omega) (by omega) (by rw [Int.toNat_natCast]; exact hv) (fun _ _ => rfl) (args_nil ⟨S.base, ?_⟩)
        have hlf : (front (ft.take i)).length ≤ 900 := by
          have := front_len (ts := ft.take i) fun t ht => hf t (List.mem_of_mem_take ht)
          rw [List.length_take] at this; omega
        have hlr : (front (rt.take j)).length ≤ 900 := by
          have := front_len (ts := rt.take j) fun t ht => hr t (List.mem_of_mem_take ht)
          rw [List.length_take] at this; omega
        refine ell_spec hlf hlr (hA.mono (by omega)) (G.keeps S.base) fun s₄ e => ?_
        replace S := S.ext e
        refine ldL S rfl rfl rfl (ne_bool (wpAny_truthy_bool ?_)) rfl
        rw [law_at hf hr (by omega), bne_self_eq_false, if_neg Bool.false_ne_true]
        exact wpAny_execs_nil (wpAny_execs_nil ⟨N₂, _, _, KeepsH.refl _, ⟨rfl, lk rfl (lk rfl q1), lk rfl (lk rfl q2), lk rfl (lk rfl q3), lk rfl (lk rfl q4)⟩, S⟩)
    · rintro N₂ l₂ own₂ s₂ hN₂ ⟨rfl, q1, q2, q3, q4⟩ S
      exact wpAny_execs_nil ⟨N₂, _, _, hN₂, ⟨rfl, q1, q2, q3⟩, S⟩
  · rintro N' l' own' s₂ hN ⟨rfl, m1, m2, m3⟩ S
    exact wpAny_execs_cons (wpAny_Return_some (wpAny_Constant_bool (h _ S.toExt)))
end
end Mine

namespace Mine
open PySem PySem.Calls PyProof.Rows

section
variable {prog : Program} {w : World} {A : Around} {E : Value → Shared → Prop} {s₀ s : Shared} {N : Heap} {L : Addr} {l : List (Str × Value)} {own own' : Own} {pos p : Pos} {t u : Tok}

set_option maxHeartbeats 2000000 in
set_option maxRecDepth 100000 in
theorem law_body {Sc fa : Addr} {cdv : Value} {sv : List (Int × Tok)} {Qf : Flow → Shared → Prop} (hA : OkA A 4) (G : Gl prog w s₀.heap) (hSc : s₀.heap.IsList Sc (intValues sv).toArray) (hsv : sv.length ≤ 1000) (S : Sat s₀ N0 L [("script", .ref Sc)] [] s)
    (h : ∀ s', Ext s₀ s' → Qf (.ret (.bool true)) s') : wpAny (model prog w) A (execs (defAt 61).2.2.1 (envOf (defAt 61).1 (defAt 61).2.2.2 L fa cdv)) Qf noE s := by
  refine wpAny_execs_cons (asg2 (x := "form") (y := "row") s₀ hA.1 rfl rfl rfl rfl (wpAny_Call_NameR (gG S G rfl rfl rfl rfl (callF G.fns.2.2.2.2.1 (args_cons (sliceAny s₀ L (ldL S rfl rfl rfl (kInt S fun t₁ s₁ S => ?_) rfl) (fun _ _ => rfl)) rfl) rfl) rfl)))
  refine ⟨_, _, _, Sc, _, 5, t₁, rfl, rfl, S, lst_keeps hSc S.base, by rw [intV_size]; exact hsv, fun D' N₁ s₁ k₁ hl' S => args_nil ⟨S.base, ?_⟩⟩
  have e2 : ((intValues sv).toArray.toList.take 5).toArray = (intValues (sv.take 5)).toArray := by simp [intValues]
  rw [e2] at hl'
  refine rows_spec hA (G.keeps S.base) (lst_keeps hl' S.keep) (by rw [List.length_take]; omega) fun v s' M e k d p => ?_
  obtain ⟨N₂, k1, k2, S⟩ := S.grow e k d
  obtain ⟨a, F, R, fi, ri, ft, rt, rfl, p1, p2, p3, p4, p5, p6, p7⟩ := p
  refine ⟨_, _, _, a, _, _, rfl, S, tup_keeps p1 (k2.trans S.keep), fun s₂ S => stL S rfl rfl fun s₂ S => ?_⟩
  replace p2 := lst_keeps p2 k2
  replace p3 := lst_keeps p3 k2
  replace p4 := p4.keeps k2
  replace p5 := p5.keeps k2
  -- table
  refine wpAny_execs_cons (wpAny_Assign_Name (wpAny_Call_NameR (gG S G rfl rfl rfl rfl (callF G.fns.2.2.2.2.2.1 (args_cons ?_ rfl) rfl) rfl)) rfl)
  refine tokComp "number" (fun tk t1 _ => .int tk.1 t1) S hA.1 p2 p4 (by omega) rfl (by decide) rfl (by decide) rfl rfl rfl rfl rfl rfl (fun _ => rfl) rfl rfl (fun _ _ _ => rfl) fun D1 ys N₃ s₂ k3 hD1 hs1 hy1 S => ?_
  replace p2 := lst_keeps p2 k3
  replace p3 := lst_keeps p3 k3
  replace p4 := p4.keeps k3
  replace p5 := p5.keeps k3
  refine args_cons ?_ rfl
  refine tokComp "number" (fun tk t1 _ => .int tk.1 t1) S hA.1 p3 p5 (by omega) rfl (by decide) rfl (by decide) rfl rfl rfl rfl rfl rfl (fun _ => rfl) rfl rfl (fun _ _ _ => rfl) fun D2 ys2 N₄ s₂ k4 hD2 hs2 hy2 S => args_nil ⟨S.base, ?_⟩
  replace p2 := lst_keeps p2 k4
  replace p3 := lst_keeps p3 k4
  replace p4 := p4.keeps k4
  replace p5 := p5.keeps k4
  obtain ⟨fv, rfl, efv⟩ := ints_of hs1 hy1
  obtain ⟨rv, rfl, erv⟩ := ints_of hs2 hy2
  have hfv : fv.length = ft.length := by have := congrArg List.length efv; simpa using this
  have hrv : rv.length = rt.length := by have := congrArg List.length erv; simpa using this
  refine fits_spec (hA.mono (by omega)) (G.keeps S.base) (lst_keeps (lst_keeps hD1 k4) S.keep) (lst_keeps hD2 S.keep) (by omega) (by omega) fun v s' M e k d p => ?_
  obtain ⟨N₅, k5, k6, S⟩ := S.grow e k d
  obtain ⟨T, items, rfl, q1, q2⟩ := p
  rw [efv, erv] at q2
  replace q1 := lst_keeps q1 k6
  replace q2 := q2.keeps k6
  replace p2 := lst_keeps p2 k5
  replace p3 := lst_keeps p3 k5
  replace p4 := p4.keeps k5
  replace p5 := p5.keeps k5
  refine stL S rfl rfl fun s₂ S => ?_
  -- wants
  refine wpAny_execs_cons (wpAny_Assign_Name (wpAny_Call_NameR (gG S G rfl rfl rfl rfl (callF G.fns.2.2.2.2.2.2 (args_cons ?_ rfl) rfl) rfl)) rfl)
  refine tokComp "word" (fun tk _ t2 => .str (mk tk.2) t2) S hA.1 p2 p4 (by omega) rfl (by decide) rfl (by decide) rfl rfl rfl rfl rfl rfl (fun _ => rfl) rfl rfl (fun _ _ _ => rfl) fun D3 ys3 N₆ s₂ k7 hD3 hs3 hy3 S => args_nil ⟨S.base, ?_⟩
  obtain ⟨nw, rfl, enw⟩ := strs_of hs3 hy3
  have hnw : nw.length = ft.length := by have := congrArg List.length enw; simpa using this
  refine fronts_spec (hA.mono (by omega)) (G.keeps S.base) (lst_keeps hD3 S.keep) (by omega) (words_small enw p4.2.2) fun v s' M e k d p => ?_
  obtain ⟨N₇, k8, k9, S⟩ := S.grow e k d
  obtain ⟨Wd, lw, rfl, w1, w2⟩ := p
  replace w1 := lst_keeps w1 k9
  have k57 : KeepsH N₅ N₇ := k7.trans k8
  replace q1 := lst_keeps q1 k57
  replace q2 := q2.keeps k57
  replace p3 := lst_keeps p3 k57
  replace p5 := p5.keeps k57
  refine stL S rfl rfl fun s₂ S => ?_
  -- gots
  refine wpAny_execs_cons (wpAny_Assign_Name (wpAny_Call_NameR (gG S G rfl rfl rfl rfl (callF G.fns.2.2.2.2.2.2 (args_cons ?_ rfl) rfl) rfl)) rfl)
  refine tokComp "word" (fun tk _ t2 => .str (mk tk.2) t2) S hA.1 p3 p5 (by omega) rfl (by decide) rfl (by decide) rfl rfl rfl rfl rfl rfl (fun _ => rfl) rfl rfl (fun _ _ _ => rfl) fun D4 ys4 N₈ s₂ k10 hD4 hs4 hy4 S => args_nil ⟨S.base, ?_⟩
  obtain ⟨nv, rfl, env'⟩ := strs_of hs4 hy4
  have hnv : nv.length = rt.length := by have := congrArg List.length env'; simpa using this
  refine fronts_spec (hA.mono (by omega)) (G.keeps S.base) (lst_keeps hD4 S.keep) (by omega) (words_small env' p5.2.2) fun v s' M e k d p => ?_
  obtain ⟨N₉, k11, k12, S⟩ := S.grow e k d
  obtain ⟨Vd, lv, rfl, v1, v2⟩ := p
  replace v1 := lst_keeps v1 k12
  have k79 : KeepsH N₇ N₉ := k10.trans k11
  refine stL S rfl rfl fun s₂ S => ?_
  exact law_loop hA G S rfl rfl rfl (lst_keeps q1 k79) (lst_keeps w1 k79) v1 (q2.keeps k79) enw w2 env' v2 p4.2.2 p5.2.2 p6 p7 h
end
end Mine

namespace Mine
open PySem PySem.Calls PyProof.Rows

/-- the operators' table, in its own order -/
def etab : List Tk := litTab.take 19 ++ [(52, dots)] ++ (litTab.drop 19).take 28
theorem etab_len : etab.length = 48 := by decide +kernel
def okB (t : Tk) : Bool := (isW t.1 && decide (t.2 = dots)) || decide (t ∈ litTab)
theorem etab_ok : etab.all okB = true := by decide +kernel
theorem etab_nd : (etab.map (·.2)).Nodup := by decide +kernel
theorem etab_okT {t : Tk} (h : t ∈ etab) : OkT t := by
  have := List.all_eq_true.mp etab_ok t h
  simp only [okB, Bool.or_eq_true, Bool.and_eq_true, decide_eq_true_eq] at this
  exact this
def keyS : Value → Str
  | .str s _ => s
  | _ => Str.empty
def numI : Value → Int
  | .int n _ => n
  | _ => 0
def AllE (P : Params) : List DictEntry → Prop
  | [] => True
  | e :: r => (∃ s t n u, e = { hash := PyData.keyHash P s, key := .str s t, val := .int n u }) ∧ AllE P r
theorem AllE.mem {P : Params} : ∀ {es : List DictEntry}, AllE P es → ∀ e ∈ es, ∃ s t n u, e = { hash := PyData.keyHash P s, key := .str s t, val := .int n u }
  | [], _, _, h => by cases h
  | _ :: _, h, e, he => by
    rcases List.mem_cons.mp he with rfl | he
    · exact h.1
    · exact AllE.mem h.2 e he
theorem pairs_of {prog : Program} {w : World} : ∀ {es : List DictEntry}, (∀ e ∈ es, ∃ s t n u, e = { hash := PyData.keyHash w.params s, key := .str s t, val := .int n u }) → Pairs (PySem.strKind prog w) es (es.map fun e => (keyS e.key, e.val))
  | [], _ => .nil
  | e :: r, h => by
    obtain ⟨s, t, n, u, rfl⟩ := h e (by simp)
    exact .cons (strKind_is _ _ _ _) rfl (pairs_of fun x hx => h x (by simp [hx]))

theorem tab_of {prog : Program} {w : World} {h : Heap} {o : Obj} {es : Array DictEntry} {ep : Nat} (ho : h.get? 22 = some o) (hx : o.ExactDict) (hd : o.data = .dict es ep) (hk : AllE w.params es.toList)
    (hm : (es.toList.map fun e => (keyS e.key, numI e.val)) = etab.map fun tk => (mk tk.2, tk.1)) : ∃ kvs, h.DictOf (PySem.strKind prog w) 22 kvs ∧ TabRel kvs := by
  have hk' := AllE.mem hk
  have hnd : ((es.toList.map fun e => (keyS e.key, e.val)).map (·.1)).Nodup := by
    have e : ((es.toList.map fun e => (keyS e.key, e.val)).map (·.1)) = (etab.map (·.2)).map mk := by
      have := congrArg (List.map (·.1)) hm
      simpa [List.map_map, Function.comp_def] using this
    rw [e]
    exact List.Pairwise.map mk (fun a b hab e => hab (mk_inj e)) etab_nd
  have hlen : es.toList.length = 48 := by have := congrArg List.length hm; rw [List.length_map, List.length_map, etab_len] at this; exact this
  have key : ∀ (i : Nat) (k : Str) (v : Value), (es.toList.map fun e => (keyS e.key, e.val))[i]? = some (k, v) → ∃ tk t, etab[i]? = some tk ∧ v = .int tk.1 t ∧ k = mk tk.2 := by
    intro i k v hi
    rw [List.getElem?_map, Option.map_eq_some_iff] at hi
    obtain ⟨e, he, hke⟩ := hi
    have h2 := congrArg (fun l => l[i]?) hm
    simp only [List.getElem?_map, he, Option.map_some] at h2
    obtain ⟨tk, htk, e3⟩ := Option.map_eq_some_iff.mp h2.symm
    obtain ⟨s, t, n, u, rfl⟩ := hk' e (List.mem_of_getElem? he)
    simp only [Prod.mk.injEq, keyS, numI] at hke e3
    exact ⟨tk, u, htk, by rw [← hke.2, ← e3.2], by rw [← hke.1, ← e3.1]⟩
  have at' : ∀ (i : Nat) (tk : Tk), etab[i]? = some tk → ∃ t, PySem.valueAt (es.toList.map fun e => (keyS e.key, e.val)) (mk tk.2) = some (.int tk.1 t) := by
    intro i tk htk
    have hi : i < es.toList.length := by rw [hlen, ← etab_len]; exact (List.getElem?_eq_some_iff.mp htk).1
    have hg : (es.toList.map fun e => (keyS e.key, e.val))[i]? = some (keyS es.toList[i].key, es.toList[i].val) := by rw [List.getElem?_map, List.getElem?_eq_getElem hi]; rfl
    obtain ⟨tk', t, h1, h2, h3⟩ := key i _ _ hg
    rw [htk] at h1; cases h1
    rw [h2, h3] at hg
    exact ⟨t, valueAt_of hnd hg⟩
  refine ⟨_, ⟨o, es, ep, ho, hx, hd, fun e he => ?_, pairs_of hk', hnd⟩, by rw [List.length_map]; exact hlen, fun i k v hi => ?_, ?_, ?_, ?_⟩
  · obtain ⟨s, t, n, u, rfl⟩ := hk' e (by simpa using he)
    exact ⟨s, strKind_is _ _ _ _, rfl⟩
  · obtain ⟨tk, t, h1, h2, h3⟩ := key i k v hi
    exact ⟨tk.1, tk.2, t, h2, h3, etab_okT (List.mem_of_getElem? h1)⟩
  · rw [plus_eq]; exact at' 12 (14, [43]) (by decide +kernel)
  · rw [show Str.ofString "." = mk [46] by decide +kernel]; exact at' 18 (23, [46]) (by decide +kernel)
  · rw [dots_eq]; exact at' 19 (52, dots) (by decide +kernel)

theorem lookup_all {f : Str → Option Value} : ∀ {tab : List (Str × Value)}, (∀ p ∈ tab, f p.1 = some p.2) → ∀ x v, tab.lookup x = some v → f x = some v
  | [], _, _, _, e => by cases e
  | p :: r, h, x, v, e => by
    rw [show p = (p.1, p.2) from rfl, List.lookup_cons] at e
    by_cases hx : x = p.1
    · subst hx
      simp only [beq_self_eq_true, Option.some.injEq] at e
      rw [← e]; exact h p (by simp)
    · rw [show (x == p.1) = false from beq_eq_false_iff_ne.mpr hx] at e
      exact lookup_all (fun q hq => h q (by simp [hq])) x v e

/-- what the run of the top has left, as the walk needs it -/
theorem gl_of {prog p : Program} {w : World} {loose : List Str} {mean : ExcName → Option Value} {mg mb : Str → Option Value} {h : Heap} {K : W.Frag} {o3 : Obj} {es : Array DictEntry} {ep : Nat} {t1 t2 : Tok}
    (X : K.In h) (T : Top p loose mean mg mb h) (e3 : K.lookup 3 = some o3) (d3 : o3.data = .dict es ep)
    (hg : ∀ q ∈ gTab, nsFind es q.1 = some q.2) (hb : ∀ q ∈ bTab, nsFind es q.1 = none ∧ bootBuiltins q.1 = some q.2)
    (he : nsFind es "ELLIPSIS_MARKER" = some (.str dotsS t1)) (hn : nsFind es "NT_OFFSET" = some (.int 256 t2))
    (fns : FnAt 2 21 h ∧ FnAt 54 31 h ∧ FnAt 56 38 h ∧ FnAt 57 45 h ∧ FnAt 58 50 h ∧ FnAt 59 55 h ∧ FnAt 60 60 h)
    (tab : ∃ kvs, h.DictOf (PySem.strKind prog w) 22 kvs ∧ TabRel kvs) : Gl prog w h := by
  obtain ⟨o, es', ep', h1, h2, h3, h4⟩ := T.g
  have e : h.get? mainGlobals = some o3 := X _ _ e3
  rw [e] at h1; cases h1
  rw [d3] at h2; cases h2
  refine ⟨tab, ⟨mg, mb, T.g, T.b, fun x v hx => ?_, fun x v hx => ?_, ⟨t1, by rw [← h4]; exact he⟩, ⟨t2, by rw [← h4]; exact hn⟩⟩, T.nolimit, fns⟩
  · rw [← h4]; exact lookup_all hg x v hx
  · have hne : x ≠ "__name__" := by
      rintro rfl
      have : bTab.lookup (Str.ofString "__name__") = none := by decide +kernel
      rw [this] at hx; cases hx
    refine ⟨?_, ?_⟩
    · rw [← h4]
      have key : ∀ {tab : List (Str × Value)}, (∀ q ∈ tab, nsFind es q.1 = none) → ∀ v, tab.lookup x = some v → nsFind es x = none := by
        intro tab
        induction tab with
        | nil => intro _ v e; cases e
        | cons q r ih =>
          intro hq v e
          rw [show q = (q.1, q.2) from rfl, List.lookup_cons] at e
          by_cases hx' : x = q.1
          · rw [hx']; exact hq q (by simp)
          · rw [show (x == q.1) = false from beq_eq_false_iff_ne.mpr hx'] at e
            exact ih (fun y hy => hq y (by simp [hy])) v e
      exact key (fun q hq => (hb q hq).1) v hx
    · rw [T.builtins x hne]; exact lookup_all (fun q hq => (hb q hq).2) x v hx
theorem ints_values {vs : List Value} {ns : List Int} (h : IntsAre vs ns) : ∃ sv : List (Int × Tok), vs = intValues sv ∧ sv.length = ns.length := by
  induction h with
  | nil => exact ⟨[], rfl, rfl⟩
  | cons n t _ ih => obtain ⟨sv, e, hl⟩ := ih; exact ⟨(n, t) :: sv, by rw [e]; rfl, by simp [hl]⟩
theorem okA_caller : OkA callerA 5 := ⟨rfl, by decide, by decide⟩
end Mine

open PySem PySem.W PyProof.Rows
set_option maxRecDepth 100000 in
set_option maxHeartbeats 8000000 in
theorem PySem.Challenge.cw_mq0247_01_holds : PySem.Challenge.rw_mq0247_01.Holds := by
  w_on; o_law; k_head; (case hw => w_witness2)
  k_go0
  rename Frag.In _ _ => KX
  rename Top _ _ _ _ _ _ => T
  rename IntsAre _ _ => hI
  rename Heap.IsList _ _ _ => hL
  rename Fr _ _ _ _ => F
  rename _ = #[] => hg
  rename ¬ _ < _ => hcond
  have f2 : Mine.FnAt 2 21 _ := ⟨20, _, _, KX 21 _ rfl, rfl, W.codeRec_of KX rfl⟩
  have f54 : Mine.FnAt 54 31 _ := ⟨30, _, _, KX 31 _ rfl, rfl, W.codeRec_of KX rfl⟩
  have f56 : Mine.FnAt 56 38 _ := ⟨37, _, _, KX 38 _ rfl, rfl, W.codeRec_of KX rfl⟩
  have f57 : Mine.FnAt 57 45 _ := ⟨44, _, _, KX 45 _ rfl, rfl, W.codeRec_of KX rfl⟩
  have f58 : Mine.FnAt 58 50 _ := ⟨49, _, _, KX 50 _ rfl, rfl, W.codeRec_of KX rfl⟩
  have f59 : Mine.FnAt 59 55 _ := ⟨54, _, _, KX 55 _ rfl, rfl, W.codeRec_of KX rfl⟩
  have f60 : Mine.FnAt 60 60 _ := ⟨59, _, _, KX 60 _ rfl, rfl, W.codeRec_of KX rfl⟩
  have tab := Mine.tab_of (prog := Challenge.rw_mq0247_01.row.prog) (KX 22 _ rfl) ⟨rfl, rfl, rfl⟩ rfl (by repeat' (first | exact trivial | refine ⟨⟨_, _, _, _, rfl⟩, ?_⟩)) (by kernel_rfl)
  have G : Mine.Gl Challenge.rw_mq0247_01.row.prog _ _ := Mine.gl_of KX T rfl rfl
    (by intro q hq; simp only [Mine.gTab, List.mem_cons, List.not_mem_nil, or_false] at hq; rcases hq with rfl | rfl | rfl | rfl | rfl | rfl | rfl | rfl <;> kernel_rfl)
    (by intro q hq; simp only [Mine.bTab, List.mem_cons, List.not_mem_nil, or_false] at hq; rcases hq with rfl | rfl | rfl | rfl | rfl <;> exact ⟨by kernel_rfl, by kernel_rfl⟩)
    rfl rfl ⟨f2, f54, f56, f57, f58, f59, f60⟩ tab
  obtain ⟨sv, rfl, hsv⟩ := Mine.ints_values hI
  refine wpAny_mono (Mine.law_body (sv := sv) (Mine.okA_caller.deeper _) G hL (by omega) ⟨⟨rfl, rfl, rfl⟩, F.keep, ?_, ?_, ⟨_, F.ns, fun _ _ e => e⟩, ⟨Mine.fresh_size _, Mine.n0 _⟩, ?_, .nil⟩ fun s' e => ?_) (fun _ _ q => q) fun _ _ q => q.elim
  · intro b o e; rw [Mine.n0] at e; cases e
  · intro b o e; rw [Mine.n0] at e; cases e
  · intro p hp; cases hp
  · exact ⟨.inl ⟨_, .bool true, [], rfl, fun _ => rfl, .bool true, postW_of rfl (w_eq_bool (w_res rfl) w_lit) rfl, fun _ => ⟨.nil, fun _ h => by cases h⟩⟩, e.2, e.1.2.2, e.1.1.trans hg⟩
