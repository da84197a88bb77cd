import PyProof.Rows.All
import Wide.All
import OpenK.AllK
import Wide.FinOn
import PySem.Challenge.RW_gq5002_01
open PySem PySem.W PyProof.Rows
set_option Elab.async false
set_option maxRecDepth 100000
set_option maxHeartbeats 8000000
namespace Mine
open_top hd for PySem.Challenge.rw_gq5002_01
end Mine

namespace Mine
section PartM1
theorem freshM1 : True := by
  w_top off
  k_with_none
  trivial
/-! Duval's walk, over a sequence u of ints -/
def SufGt (u : Nat → Int) (a b s : Nat) : Prop := ∃ e, s + e < b ∧ (∀ f, f < e → u (s + f) = u (a + f)) ∧ u (a + e) < u (s + e)
def Lyn (u : Nat → Int) (a b : Nat) : Prop := a < b ∧ ∀ s, a < s → s < b → SufGt u a b s
def Per (u : Nat → Int) (a j p : Nat) : Prop := ∀ t, a ≤ t → t + p < j → u (t + p) = u t
def PLe (u : Nat → Int) (c d h i : Nat) : Prop :=
  (∃ e, c + e < d ∧ h + e < i ∧ (∀ f, f < e → u (c + f) = u (h + f)) ∧ u (c + e) < u (h + e)) ∨ (d - c ≤ i - h ∧ ∀ f, f < d - c → u (c + f) = u (h + f))
def Bnd (u : Nat → Int) (n h i : Nat) : Prop := ∀ b, i < b → b ≤ n → PLe u i b h i
inductive Chain (u : Nat → Int) : List (Nat × Nat) → Nat → Prop
  | nil : Chain u [] 0
  | one {i : Nat} : Lyn u 0 i → Chain u [(0, i)] i
  | snoc {ps : List (Nat × Nat)} {g h i : Nat} : Chain u (ps ++ [(g, h)]) h → Lyn u h i → PLe u h i g h → Chain u (ps ++ [(g, h)] ++ [(h, i)]) i

structure OutInv (u : Nat → Int) (n : Nat) (ps : List (Nat × Nat)) (i : Nat) : Prop where
  le : i ≤ n
  ch : Chain u ps i
  bnd : ∀ qs g, ps = qs ++ [(g, i)] → Bnd u n g i
structure InInv (u : Nat → Int) (n i j k : Nat) : Prop where
  ik : i ≤ k
  kj : k < j
  jn : j ≤ n
  ly : Lyn u i (i + (j - k))
  pe : Per u i j (j - k)
structure EmInv (u : Nat → Int) (n : Nat) (ps : List (Nat × Nat)) (i j k : Nat) : Prop where
  kj : k < j
  jn : j ≤ n
  ij : i ≤ j
  ex : j = n ∨ u j < u k
  ch : Chain u ps i
  pe : Per u i j (j - k)
  ly : i ≤ k → Lyn u i (i + (j - k))
  lo : ∀ qs g, ps = qs ++ [(g, i)] → i ≤ k → PLe u i (i + (j - k)) g i
  hi : ∀ qs g, ps = qs ++ [(g, i)] → k < i → Bnd u n g i

theorem out_start (u : Nat → Int) (n : Nat) : OutInv u n [] 0 := ⟨Nat.zero_le _, .nil, fun qs g e => absurd e (by simp)⟩
theorem in_start {u : Nat → Int} {n i : Nat} (h : i < n) : InInv u n i (i + 1) i where
  ik := Nat.le_refl _
  kj := Nat.lt_succ_self _
  jn := h
  ly := ⟨by omega, fun s h1 h2 => by omega⟩
  pe := fun t h1 h2 => by omega
/-- the periods shifted back q times -/
theorem per_mul {u : Nat → Int} {a j p : Nat} (h : Per u a j p) : ∀ (q t : Nat), a ≤ t → t + q * p < j → u (t + q * p) = u t
  | 0, t, _, _ => by simp
  | q + 1, t, h1, h2 => by
    have e : (q + 1) * p = q * p + p := Nat.succ_mul q p
    have e1 : t + (q + 1) * p = t + q * p + p := by omega
    rw [e1, h _ (by omega) (by omega)]
    exact per_mul h q t h1 (by omega)

theorem in_lt {u : Nat → Int} {n i j k : Nat} (I : InInv u n i j k) (hj : j < n) (hl : u k < u j) : InInv u n i (j + 1) i := by
  obtain ⟨ik, kj, jn, ly, pe⟩ := I
  refine ⟨Nat.le_refl _, by omega, hj, ⟨by omega, ?_⟩, fun t h1 h2 => by omega⟩
  have e0 : i + (j + 1 - i) = j + 1 := by omega
  rw [e0]
  intro s h1 h2
  obtain ⟨p, hp⟩ : ∃ p, p = j - k := ⟨_, rfl⟩
  rw [← hp] at ly pe
  have hp0 : 0 < p := by omega
  -- s = i + q p + r
  obtain ⟨q, r, hr, hs⟩ : ∃ q r, r < p ∧ s = i + q * p + r := by
    refine ⟨(s - i) / p, (s - i) % p, Nat.mod_lt _ hp0, ?_⟩
    have := Nat.div_add_mod (s - i) p
    rw [Nat.mul_comm] at this
    omega
  have hk : k + p = j := by omega
  -- back by q periods
  have back : ∀ x, i ≤ x → x + q * p < j → u (x + q * p) = u x := fun x hx hx2 => per_mul pe q x hx hx2
  by_cases hr0 : r = 0
  · subst hr0
    have hq : 1 ≤ q := by
      rcases Nat.eq_zero_or_pos q with h | h
      · subst h; simp at hs; omega
      · exact h
    have hqp : p ≤ q * p := Nat.le_mul_of_pos_left p hq
    refine ⟨j - s, by omega, fun f hf => ?_, ?_⟩
    · have e1 : s + f = i + f + q * p := by omega
      rw [e1]; exact back _ (by omega) (by omega)
    · have e1 : s + (j - s) = j := by omega
      rw [e1]
      have e2 : u (i + (j - s)) = u k := by
        have e3 : k = (i + (j - s)) + (q - 1) * p := by
          have : q * p = (q - 1) * p + p := by
            have := Nat.succ_mul (q - 1) p
            rw [show (q - 1).succ = q by omega] at this
            exact this
          omega
        rw [e3]
        exact (per_mul pe (q - 1) _ (by omega) (by omega)).symm
      rw [e2]; exact hl
  · obtain ⟨e, he1, he2, he3⟩ := ly.2 (i + r) (by omega) (by omega)
    -- the mismatch of w's own suffix
    by_cases hlt : s + e < j
    · refine ⟨e, by omega, fun f hf => ?_, ?_⟩
      · have e1 : s + f = i + r + f + q * p := by omega
        rw [e1, back _ (by omega) (by omega)]
        exact he2 f hf
      · have e1 : s + e = i + r + e + q * p := by omega
        rw [e1, back _ (by omega) (by omega)]
        exact he3
    · have hq : 1 ≤ q := by
        rcases Nat.eq_zero_or_pos q with h | h
        · subst h; simp at hs; omega
        · exact h
      have hqp : p ≤ q * p := Nat.le_mul_of_pos_left p hq
      refine ⟨j - s, by omega, fun f hf => ?_, ?_⟩
      · have e1 : s + f = i + r + f + q * p := by omega
        rw [e1, back _ (by omega) (by omega)]
        exact he2 f (by omega)
      · have e1 : s + (j - s) = j := by omega
        rw [e1]
        have e2 : u (i + r + (j - s)) = u k := by
          have e3 : k = (i + r + (j - s)) + (q - 1) * p := by
            have : q * p = (q - 1) * p + p := by
              have := Nat.succ_mul (q - 1) p
              rw [show (q - 1).succ = q by omega] at this
              exact this
            omega
          rw [e3]
          exact (per_mul pe (q - 1) _ (by omega) (by omega)).symm
        have e3 : u (i + (j - s)) ≤ u (i + r + (j - s)) := by
          rcases Nat.lt_or_ge (j - s) e with h | h
          · exact Int.le_of_eq (he2 _ h).symm
          · have : j - s = e := by omega
            rw [this]; exact Int.le_of_lt he3
        omega

theorem in_eq {u : Nat → Int} {n i j k : Nat} (I : InInv u n i j k) (hj : j < n) (he : u k = u j) : InInv u n i (j + 1) (k + 1) := by
  obtain ⟨ik, kj, jn, ly, pe⟩ := I
  have e : j + 1 - (k + 1) = j - k := by omega
  refine ⟨by omega, by omega, hj, by rw [e]; exact ly, ?_⟩
  rw [e]
  intro t h1 h2
  rcases Nat.lt_or_ge (t + (j - k)) j with h | h
  · exact pe t h1 h
  · have e1 : t + (j - k) = j := by omega
    have e2 : t = k := by omega
    rw [e1, e2]; exact he.symm

theorem em_start {u : Nat → Int} {n i j k : Nat} {ps : List (Nat × Nat)} (O : OutInv u n ps i) (I : InInv u n i j k) (hx : ¬ (j < n ∧ u k ≤ u j)) : EmInv u n ps i j k where
  kj := I.kj
  jn := I.jn
  ij := by have := I.ik; have := I.kj; omega
  ex := by
    have := I.jn
    rcases Nat.lt_or_ge j n with h | h
    · right
      have : ¬ (u k ≤ u j) := fun e => hx ⟨h, e⟩
      omega
    · left; omega
  ch := O.ch
  pe := I.pe
  ly := fun _ => I.ly
  lo := fun qs g e _ => O.bnd qs g e _ (by have := I.kj; omega) (by have := I.ik; have := I.kj; have := I.jn; omega)
  hi := fun _ _ _ h => by have := I.ik; omega

theorem chain_last {u : Nat → Int} {ps : List (Nat × Nat)} {i : Nat} (h : Chain u ps i) : (ps = [] ∧ i = 0) ∨ ∃ qs g, ps = qs ++ [(g, i)] := by
  cases h with
  | nil => exact .inl ⟨rfl, rfl⟩
  | one _ => exact .inr ⟨[], 0, rfl⟩
  | snoc _ _ _ => exact .inr ⟨_, _, rfl⟩

theorem em_step {u : Nat → Int} {n i j k : Nat} {ps : List (Nat × Nat)} (M : EmInv u n ps i j k) (hk : i ≤ k) : EmInv u n (ps ++ [(i, i + (j - k))]) (i + (j - k)) j k := by
  obtain ⟨kj, jn, ij, ex, ch, pe, ly, lo, hi⟩ := M
  obtain ⟨p, hp⟩ : ∃ p, p = j - k := ⟨_, rfl⟩
  rw [← hp] at pe ly lo ⊢
  have last : ∀ qs g, ps ++ [(i, i + p)] = qs ++ [(g, i + p)] → g = i := by
    intro qs g e
    have := List.append_inj_right' e rfl
    simp at this
    exact this.symm
  refine ⟨kj, jn, by omega, ex, ?_, ?_, ?_, ?_, ?_⟩
  · rcases chain_last ch with ⟨h, h0⟩ | ⟨qs, g, h⟩
    · subst h h0
      exact .one (by simpa using ly (by omega))
    · subst h
      exact .snoc ch (ly hk) (lo qs g rfl hk)
  · intro t h1 h2
    rw [← hp]
    exact pe t (by omega) (by omega)
  · intro h
    rw [← hp]
    obtain ⟨l1, l2⟩ := ly hk
    refine ⟨by omega, fun s h1 h2 => ?_⟩
    obtain ⟨e, e1, e2, e3⟩ := l2 (s - p) (by omega) (by omega)
    have sh : ∀ x, i ≤ x → x < i + p → u (x + p) = u x := fun x h1 h2 => pe x h1 (by omega)
    refine ⟨e, by omega, fun f hf => ?_, ?_⟩
    · have a1 : s + f = (s - p + f) + p := by omega
      have a2 : i + p + f = (i + f) + p := by omega
      rw [a1, a2, sh _ (by omega) (by omega), sh _ (by omega) (by omega)]
      exact e2 f hf
    · have a1 : s + e = (s - p + e) + p := by omega
      have a2 : i + p + e = (i + e) + p := by omega
      rw [a1, a2, sh _ (by omega) (by omega), sh _ (by omega) (by omega)]
      exact e3
  · intro qs g e h
    have := last qs g e
    subst this
    rw [← hp]
    right
    refine ⟨by omega, fun f hf => ?_⟩
    have a2 : g + p + f = (g + f) + p := by omega
    rw [a2]
    exact pe _ (by omega) (by omega)
  · intro qs g e h
    have := last qs g e
    subst this
    intro b hb1 hb2
    rcases Nat.lt_or_ge j b with hjb | hjb
    · left
      have hjk : u j < u k := by
        rcases ex with h' | h'
        · omega
        · exact h'
      refine ⟨j - (g + p), by omega, by omega, fun f hf => ?_, ?_⟩
      · have a2 : g + p + f = (g + f) + p := by omega
        rw [a2]
        exact pe _ (by omega) (by omega)
      · have a1 : g + p + (j - (g + p)) = j := by omega
        have a2 : g + (j - (g + p)) = k := by omega
        rw [a1, a2]; exact hjk
    · right
      refine ⟨by omega, fun f hf => ?_⟩
      have a2 : g + p + f = (g + f) + p := by omega
      rw [a2]
      exact pe _ (by omega) (by omega)

theorem em_done {u : Nat → Int} {n i j k : Nat} {ps : List (Nat × Nat)} (M : EmInv u n ps i j k) (hk : k < i) : OutInv u n ps i :=
  ⟨by have := M.ij; have := M.jn; omega, M.ch, fun qs g e => M.hi qs g e hk⟩
end PartM1
end Mine

namespace Mine
section PartC1
theorem freshC1 : True := by
  w_top off
  k_with_none
  trivial
def scmp (a b : List Nat) : Int := b2i (decide (b < a)) - b2i (decide (a < b))

/-- a def's contract: from any state that bears the ledger `news`, the call hands on what Ret asks -/
abbrev Contract (w : World) (mean : ExcName → Option Value) (mg mb : Str → Option Value) (f : Addr) (news : List (Addr × Obj)) (vs : List Value)
    (Ret : (h₀ : Heap) → (L : Addr) → (m : Str → Option Value) → (s : Shared) → (Q : Value → Shared → Prop) → Prop) : Prop :=
  ∀ (dp un : Nat) (gd : Option (List Code)) (cn : Str) (cs : Scope) (a : Addr) (ccd : Value) (cl : List (Str × Addr)) (outer : List Env) (A₀ : Around) (base h₀ : Heap) (L : Addr) (m : Str → Option Value) (s : Shared) (Q E : Value → Shared → Prop),
    Below A₀ base outer h₀ → Fr h₀ L s.heap m → (hd.heap_39 w.params).In h₀ → News h₀ L s.heap news → Top hd.view_39 (looseW hd.view_39 []) mean mg mb h₀ → cs.kind = .function →
    dp + 5 < recursionLimit → un + 40 < cLine → Ret h₀ L m s Q →
      wpAny (model PySem.Challenge.rw_gq5002_01.row.prog w) (ktrTop dp un gd cn cs L a ccd cl outer) (call (.ref f) vs) Q E s

theorem strcoll_ok (w : World) (mean : ExcName → Option Value) (mg mb : Str → Option Value) (news : List (Addr × Obj)) (a b : Str) (t u : Tok) :
   CbClaim PySem.Challenge.rw_gq5002_01.row.prog w (hd.heap_39 w.params) hd.view_39 (looseW hd.view_39 []) mean mg mb 21 news [] True [.str a t, .str b u] (fun t => .int (scmp a.cps.toList b.cps.toList) t) := by
  k_fill
  dsimp only [CbClaim, CbLists, CbRet]
  intro dp un gd cn cs fa ccd cl outer A₀ base h₀ L m s Q E B F X N T hk _ hd hu hret
  refine wpAny_call ?_
  k_dflt cell_enter
  k_steps
  refine hret _ _ _ (by k_asm) (by k_asm)

theorem strcoll_use {w : World} {mean : ExcName → Option Value} {mg mb : Str → Option Value} {news : List (Addr × Obj)} {a b : Str} {t u : Tok}
   {dp un : Nat} {gd : Option (List Code)} {cn : Str} {cs : Scope} {fa : Addr} {ccd : Value} {cl : List (Str × Addr)} {outer : List Env} {A₀ : Around} {base h₀ : Heap} {L : Addr} {m : Str → Option Value} {s : Shared} {Q E : Value → Shared → Prop}
   (B : Below A₀ base outer h₀) (F : Fr h₀ L s.heap m) (X : (hd.heap_39 w.params).In h₀) (N : News h₀ L s.heap news) (T : Top hd.view_39 (looseW hd.view_39 []) mean mg mb h₀) (hk : cs.kind = .function)
   (hd : dp + 1 < recursionLimit) (hu : un + 8 < cLine)
   (h : ∀ (t : Tok) (h' : Heap) (tk' : Nat), Fr h₀ L h' m → News h₀ L h' news → Q (.int (scmp a.cps.toList b.cps.toList) t) { s with heap := h', toks := tk' }) :
   wpAny (model PySem.Challenge.rw_gq5002_01.row.prog w) (ktrTop dp un gd cn cs L fa ccd cl outer) (call (.ref 21) [.str a t, .str b u]) Q E s :=
  strcoll_ok w mean mg mb news a b t u dp un gd cn cs fa ccd cl outer A₀ base h₀ L m s Q E B F X N T hk trivial hd hu h

local macro_rules | `(tactic| walk_at "call ref") => `(tactic| (k_here; (with_reducible show wpAny _ _ (call (Value.ref 21) _) _ _ _); k_dflt (refine' strcoll_use ?k1 ?k2 ?k3 ?k4 ?k5 ?kK ?kd ?ku ?_; (case k1 => k_asm); (case k2 => k_asm); (case k3 => k_asm); (case k4 => k_asm); (case k5 => k_asm); (case kK => first | exact rfl | assumption); (case kd => ktr_room); (case ku => ktr_units); k_whole); intro t9 h9 tk9 F9 N9; (try dsimp only); (try k_sweep); (try k_fold)))

local macro_rules | `(tactic| walk_at "STOPC1") => `(tactic| (with_reducible show wpAny _ _ (pyIter (Value.ref _)) (fun it s₂ => LoopAtV _ _ _ _ _ _ _ _ _ it s₂) _ _))
local macro_rules | `(tactic| walk_at "STEPSC1") => `(tactic| repeat' (first | (k_unfold; (try dsimp only)) | ((fail_if_success walk_at "STOPC1"); first | (k_end; wrow_close) | walk1 | (dsimp only; walk1) | (leave1; walk_say "STEP leave1"; try dsimp only)) | fail "no step"))
local macro_rules | `(tactic| walk_at "exec For Name Call cons nil") => `(tactic| (k_here; (rename Fr _ _ _ _ => lF'); k_dflt (with_unfolding_all refine' For_invVF lF' ?k1 ?k2 ?_; (case k1 => exact rfl); (case k2 => exact rfl); k_whole)))

def rot (l : List Nat) (r : Nat) : List Nat := l.drop r ++ l.take r
def lynR (l : List Nat) : Bool := (List.range l.length).all (fun r => r == 0 || scmp l (rot l r) == -1) && decide (0 < l.length)
theorem slice_ss {x : Str} {i j : Int} (h0 : 0 ≤ i) (h1 : i ≤ j) (h2 : j ≤ x.cps.toList.length) : (Txt.slice x (some i) (some j)).cps.toList = (x.cps.toList.drop i.toNat).take (j - i).toNat := by
  have e : Txt.slice x (some i) (some j) = _ := StrLaws.sliceText_plain ⟨h0, h1, h2⟩
  rw [e]
theorem slice_sn {x : Str} {i : Int} (h0 : 0 ≤ i) (h1 : i ≤ x.cps.toList.length) : (Txt.slice x (some i) none).cps.toList = x.cps.toList.drop i.toNat := by
  have e : Txt.slice x (some i) none = _ := StrLaws.sliceText_from ⟨h0, h1⟩
  rw [e]
  show (x.cps.toList.drop i.toNat).take _ = _
  rw [List.take_of_length_le]
  rw [List.length_drop]; omega
theorem slice_ns {x : Str} {j : Int} (h0 : 0 ≤ j) (h1 : j ≤ x.cps.toList.length) : (Txt.slice x none (some j)).cps.toList = x.cps.toList.take j.toNat := by
  have e : Txt.slice x none (some j) = _ := StrLaws.sliceText_to ⟨h0, h1⟩
  rw [e]
  show (x.cps.toList.drop 0).take _ = _
  rw [List.drop_zero, Int.sub_zero]
theorem cps_add (a b : Str) : (a ++ b).cps.toList = a.cps.toList ++ b.cps.toList := by
  rw [Str.cps_append]; simp
theorem rot_slice {a : Str} {k : Int} (h0 : 0 ≤ k) (h1 : k ≤ a.cps.toList.length) : (Txt.slice a (some k) none ++ Txt.slice a none (some k)).cps.toList = rot a.cps.toList k.toNat := by
  rw [cps_add, slice_sn h0 h1, slice_ns h0 h1]; rfl
theorem lynR_false {a : Str} {k : Int} (h1 : 1 ≤ k) (h2 : k < a.length) (h : scmp a.cps.toList (Txt.slice a (some k) none ++ Txt.slice a none (some k)).cps.toList ≠ -1) : lynR a.cps.toList = false := by
  have hl : a.cps.toList.length = a.length := by simp [Str.length]
  rw [rot_slice (by omega) (by omega)] at h
  unfold lynR
  rw [Bool.and_eq_false_iff]
  left
  rw [List.all_eq_false]
  refine ⟨k.toNat, List.mem_range.mpr (by omega), ?_⟩
  have e : ¬ (k.toNat = 0) := by omega
  simp [e, h]
theorem lynR_true {a : Str} (h : ∀ r ∈ rangeKs 1 ((a.length : Int) - 1).toNat, scmp a.cps.toList (rot a.cps.toList r.toNat) = -1) : decide (0 < (a.length : Int)) = lynR a.cps.toList := by
  have hl : a.cps.toList.length = a.length := by simp [Str.length]
  unfold lynR
  have e : (List.range a.cps.toList.length).all (fun r => r == 0 || scmp a.cps.toList (rot a.cps.toList r) == -1) = true := by
    rw [List.all_eq_true]
    intro r hr
    have hr' := List.mem_range.mp hr
    by_cases h0 : r = 0
    · simp [h0]
    · have := h (r : Int) (by
        unfold rangeKs
        refine List.mem_map.mpr ⟨r - 1, List.mem_range.mpr (by omega), by omega⟩)
      simp only [Int.toNat_natCast] at this
      simp [this]
  rw [e, Bool.true_and, hl]
  simp only [decide_eq_decide]
  omega

theorem turn_ok (w : World) (mean : ExcName → Option Value) (mg mb : Str → Option Value) (news : List (Addr × Obj)) (a : Str) (t : Tok) (hlen : a.length ≤ 100) :
   Contract w mean mg mb 29 news [.str a t] (fun h₀ L m s Q => CbRet h₀ L m news s Q (fun _ => .bool (lynR a.cps.toList))) := by
  k_fill
  intro dp un gd cn cs fa ccd cl outer A₀ base h₀ L m s Q E B F X N T hk hd hu hret
  refine wpAny_call ?_
  k_dflt cell_enter
  walk_at "STEPSC1"
  rename Fr _ _ _ _ => lF'
  rename News _ _ _ _ => lN'
  rename IsRange _ _ _ _ _ _ _ _ => rgX
  with_unfolding_all refine' kst_range (σ := Unit) (fun _ => news) (fun _ => []) (fun _ => True) [] (fun pre _ => ∀ r ∈ pre, scmp a.cps.toList (rot a.cps.toList r.toNat) = -1) () (by rfl) rgX ?sm ?rs lF' lN' trivial (fun _ h => nomatch h) (fun _ h => nomatch h) ?turn ?done
  case sm => exact small_one (by omega) (by omega) (by omega) (by omega)
  case rs => exact rangeSize_nat _ _
  all_goals (try clear lF' lN')
  case turn =>
    intro kc kpre kk kt ku kh ktk kown kEq kLt kOff kFacts kInv kFr kNews
    (try k_fold)
    walk_at "STEPSC1"
    · rename (scmp _ _ ≠ -1) => hne
      rw [lynR_false (k := kk) (by omega) (by omega) hne] at hret
      exact hret 0 _ _ (by k_asm) (kst_newsOf (by assumption) (fun p hp => List.mem_append_left _ hp))
    · rename (scmp _ _ = -1) => heq
      refine kst_end () (by assumption) (by assumption) (fun p hp => List.mem_append_left _ hp) (fun p hp => List.mem_append_right _ hp) rfl trivial (fun _ h => nomatch h) (fun z hz _ _ => by simp [hz, kstB]) ?_
      rw [rot_slice (by omega) (by show _ ≤ ((a.cps.toList.length : Nat) : Int); simp only [Array.length_toList]; show _ ≤ ((a.length : Nat) : Int); omega)] at heq
      intro r hr
      rcases List.mem_append.mp hr with h | h
      · exact kInv r h
      · rw [List.mem_singleton.mp h]; exact heq
  case done =>
    intro kc ku kh ktk kFacts kInv kFr kNews
    (try k_fold)
    walk_at "STEPSC1"
    rw [lynR_true kInv]
    exact hret 0 _ _ (by k_asm) (by k_asm)
end PartC1
end Mine

namespace Mine
section PartD1
theorem freshD1 : True := by
  w_top off
  k_with_none
  trivial
local macro_rules | `(tactic| walk_at "STOPD1") => `(tactic| first | (with_reducible show wpAny _ _ (pyIter (Value.ref _)) (fun it s₂ => LoopAtV _ _ _ _ _ _ _ _ _ it s₂) _ _) | (with_reducible show wpAny _ _ (exec (Stmt.While _ _ _ _) _) _ _ _))
local macro_rules | `(tactic| walk_at "STEPSD1") => `(tactic| repeat' (first | (k_unfold; (try dsimp only)) | ((fail_if_success walk_at "STOPD1"); first | (k_end; wrow_close) | walk1 | (dsimp only; walk1) | (leave1; walk_say "STEP leave1"; try dsimp only)) | fail "no step"))
local macro_rules | `(tactic| walk_at "exec For Name Call cons nil") => `(tactic| (k_here; (rename Fr _ _ _ _ => lF'); k_dflt (with_unfolding_all refine' For_invVF lF' ?k1 ?k2 ?_; (case k1 => exact rfl); (case k2 => exact rfl); k_whole)))

local macro_rules | `(tactic| k_mem) => `(tactic| first | with_reducible assumption | exact List.mem_append_right _ (by with_reducible assumption))
local macro_rules | `(tactic| k_memK) => `(tactic| with_reducible assumption)
structure DS where
  i : Nat
  t : Tok
  ts : List (Addr × Obj)
  ps : List (Nat × Nat)
  ep : Nat
structure IS where
  j : Nat
  k : Nat
  tj : Tok
  tk : Tok
def tup2 (x y : Int) (t u : Tok) (n : Nat) : Obj := { cls := .type "tuple", data := .seq #[.int x t, .int y u] n }
def PairsAre (ts : List (Addr × Obj)) (ps : List (Nat × Nat)) : Prop := ts.length = ps.length ∧ ∀ (k : Nat) (p : Nat × Nat), ps[k]? = some p → ∃ a t u n, ts[k]? = some (a, tup2 p.1 p.2 t u n)
abbrev refsOf (ts : List (Addr × Obj)) : List Value := ts.map (fun p => Value.ref p.1)
abbrev seqAt (ns : List Int) : Nat → Int := fun t => ns.getD t 0

theorem refs_push (ts : List (Addr × Obj)) (q : Addr × Obj) : (refsOf (ts ++ [q])).toArray = (refsOf ts).toArray.push (.ref q.1) := by
  simp [refsOf]
theorem em_led {l' D' : Addr} {ts news : List (Addr × Obj)} {o : Obj} {ep : Nat} : ∀ p ∈ (l', W.listOf (refsOf (ts ++ [(D', o)])).toArray (ep + 1)) :: ((ts ++ [(D', o)]) ++ news), p ∈ (D', o) :: (l', W.listOf ((refsOf ts).toArray.push (.ref D')) (ep + 1)) :: (ts ++ news) := by
  intro p hp
  rw [refs_push] at hp
  simp only [List.mem_cons, List.mem_append, List.not_mem_nil, or_false] at hp ⊢
  rcases hp with h | (h | h) | h
  · exact .inr (.inl h)
  · exact .inr (.inr (.inl h))
  · exact .inl h
  · exact .inr (.inr (.inr h))
theorem pairs_snoc {ts : List (Addr × Obj)} {ps : List (Nat × Nat)} {D' : Addr} {o : Obj} (h : PairsAre ts ps) (x y : Nat) (ho : ∃ t u n, o = tup2 x y t u n) : PairsAre (ts ++ [(D', o)]) (ps ++ [(x, y)]) := by
  obtain ⟨h1, h2⟩ := h
  refine ⟨by simp [h1], fun k p hk => ?_⟩
  rcases Nat.lt_trichotomy k ps.length with h | h | h
  · rw [List.getElem?_append_left (by omega)] at hk ⊢
    exact h2 k p hk
  · rw [List.getElem?_append_right (by omega)] at hk ⊢
    subst h
    simp only [Nat.sub_self, List.getElem?_cons_zero, Option.some.injEq, h1] at hk ⊢
    subst hk
    obtain ⟨t, u, n, rfl⟩ := ho
    exact ⟨_, t, u, n, rfl⟩
  · rw [List.getElem?_append_right (by omega)] at hk
    have : (1 : Nat) ≤ k - ps.length := by omega
    rw [List.getElem?_eq_none (by simpa using this)] at hk
    cases hk
theorem chain_len {u : Nat → Int} {ps : List (Nat × Nat)} {i : Nat} (h : Chain u ps i) : ps.length ≤ i := by
  induction h with
  | nil => simp
  | one l => have := l.1; simp; omega
  | snoc _ l _ ih => have := l.1; simp only [List.length_append, List.length_cons, List.length_nil] at ih ⊢; omega

theorem duval_ok (w : World) (mean : ExcName → Option Value) (mg mb : Str → Option Value) (news : List (Addr × Obj)) (D : Addr) (ws : List Value) (ns : List Int) (ep : Nat)
   (hm : (D, W.listOf ws.toArray ep) ∈ news) (hi : IntsAre ws ns) (hlen : ns.length ≤ 100) :
   Contract w mean mg mb 36 news [.ref D] (fun h₀ L m s Q => ∀ r (ts : List (Addr × Obj)) (ps : List (Nat × Nat)) e h' tk', OutInv (seqAt ns) ns.length ps ns.length → PairsAre ts ps →
      Fr h₀ L h' m → News h₀ L h' ((r, W.listOf (refsOf ts).toArray e) :: (ts ++ news)) → Q (.ref r) { s with heap := h', toks := tk' }) := by
  unfold Contract; k_fill
  intro dp un gd cn cs fa ccd cl outer A₀ base h₀ L m s Q E B F X N T hk hd hu hret
  refine wpAny_call ?_
  k_dflt cell_enter
  have hMk := kstMark
  walk_at "STEPSD1"
  rename ∀ p ∈ news, p.1 < _ => hlt
  rename Fr _ _ _ _ => lF'
  rename News _ _ _ _ => lN'
  rename_i l' _ _ _
  with_unfolding_all refine' ksw_while (σ := DS) (fun c => (l', W.listOf (refsOf c.ts).toArray c.ep) :: (c.ts ++ news)) (fun c => [(Str.ofString "i", Value.int (c.i : Int) c.t)]) (fun c => PairsAre c.ts c.ps ∧ ∀ p ∈ c.ts, p.1 ≠ l') [Str.ofString "j", Str.ofString "k"] (fun c => OutInv (seqAt ns) ns.length c.ps c.i) (fun c => ns.length - c.i) ⟨0, _, [], [], 0⟩ lF' ?kn ?kf ?kk ?kp ?_
  case kn => exact lN'
  case kf => exact ⟨⟨rfl, fun k p h => by simp at h⟩, fun p h => nomatch h⟩
  case kk => intro p hp; rw [List.mem_singleton.mp hp]; rfl
  case kp => exact out_start _ _
  clear lF' lN'
  intro c u h tk kFacts kInv kFr kNews
  (try k_fold)
  walk_at "STEPSD1"
  rotate_left
  · rename ¬ _ => hge
    obtain ⟨kf1, kf2⟩ := kFacts
    have hn : c.i = ns.length := by have := kInv.le; omega
    rw [hn] at kInv
    exact hret _ _ _ _ _ _ kInv kf1 (by k_asm) (by k_asm)
  rename (c.i : Int) < _ => hlt2
  rename Fr _ _ _ _ => lF'
  rename News _ _ _ _ => lN'
  have hin := in_start (u := seqAt ns) (n := ns.length) (i := c.i) (by omega)
  with_unfolding_all refine' ksw_while (σ := IS) (fun _ => (l', W.listOf (refsOf c.ts).toArray c.ep) :: (c.ts ++ news)) (fun d => [(Str.ofString "j", Value.int (d.j : Int) d.tj), (Str.ofString "k", Value.int (d.k : Int) d.tk)]) (fun _ => True) [] (fun d => InInv (seqAt ns) ns.length c.i d.j d.k) (fun d => ns.length - d.j) ⟨c.i + 1, c.i, _, _⟩ lF' ?kn ?kf ?kk ?kp ?_
  case kn => exact lN'
  case kf => trivial
  case kk => intro p hp; rcases List.mem_cons.mp hp with rfl | hp; rfl; rw [List.mem_singleton.mp hp]; rfl
  case kp => exact hin
  clear lF' lN'
  intro d u2 h2 tk2 kF2 kI2 kFr2 kNews2
  have q1 := kI2.kj
  have q2 := kI2.ik
  have q3 := kI2.jn
  (try k_fold)
  walk_at "STEPSD1"
  · rename ns.getD _ _ < _ => hl
    refine' ksw_end ⟨d.j + 1, c.i, _, _⟩ (by assumption) (by assumption) (fun p hp => hp) trivial ?ka ?kb (in_lt kI2 (by omega) (by simpa using hl)) (by dsimp only; omega)
    case ka => intro p hp; rcases List.mem_cons.mp hp with rfl | hp; rfl; rw [List.mem_singleton.mp hp]; rfl
    case kb => (intro z h2 h3; have a1 := h2 _ (.head _); have a2 := h2 _ (.tail _ (.head _)); simp only [ne_eq] at a1 a2; simp [kstB, a1, a2])
  · rename ¬ (ns.getD _ _ < _) => hl
    rename ns.getD _ _ ≤ _ => hl2
    refine' ksw_end ⟨d.j + 1, d.k + 1, _, _⟩ (by assumption) (by assumption) (fun p hp => hp) trivial ?kc ?kd (in_eq kI2 (by omega) (by simp at hl hl2 ⊢; omega)) (by dsimp only; omega)
    case kc => intro p hp; rcases List.mem_cons.mp hp with rfl | hp; rfl; rw [List.mem_singleton.mp hp]; rfl
    case kd => (intro z h2 h3; have a1 := h2 _ (.head _); have a2 := h2 _ (.tail _ (.head _)); simp only [ne_eq] at a1 a2; simp [kstB, a1, a2])
  all_goals (
    have hx : ¬ (d.j < ns.length ∧ seqAt ns d.k ≤ seqAt ns d.j) := by
      intro hx
      first
        | (rename ¬ (ns.getD _ _ ≤ _) => hl; exact hl (by simpa using hx.2))
        | (rename ¬ ((d.j : Int) < _) => hl; omega)
    have hE := em_start kInv kI2 hx
    rename Fr _ _ _ _ => lF'
    rename News _ _ _ _ => lN'
    with_unfolding_all refine' ksw_while (σ := DS) (fun c => (l', W.listOf (refsOf c.ts).toArray c.ep) :: (c.ts ++ news)) (fun c => [(Str.ofString "i", Value.int (c.i : Int) c.t)]) (fun c => PairsAre c.ts c.ps ∧ ∀ p ∈ c.ts, p.1 ≠ l') [] (fun c => EmInv (seqAt ns) ns.length c.ps c.i d.j d.k) (fun c => ns.length - c.i) ⟨c.i, _, c.ts, c.ps, c.ep⟩ lF' ?kn ?kf ?ke ?kp ?_
    case kn => exact lN'
    case kf => exact kFacts
    case ke => intro p hp; rw [List.mem_singleton.mp hp]; rfl
    case kp => exact hE
    clear lF' lN'
    intro e u3 h3 tk3 kF3 kI3 kFr3 kNews3
    (try k_fold)
    walk_at "STEPSD1"
    · rename (e.i : Int) ≤ _ => hle
      rename _ ∧ AllLt _ _ => l1
      have hle' : e.i ≤ d.k := by omega
      have hch := chain_len kI3.ch
      have hne : ∀ p ∈ e.ts ++ news, p.1 ≠ l' := fun p hp => (List.mem_append.mp hp).elim (kF3.2 p) fun h => Nat.ne_of_lt (hlt p h)
      refine' append_K (by assumption) (by assumption) (Upd.tail ?u1 (Upd.head ?u2)) ?_ ?u3
      case u1 => exact (Nat.ne_of_lt l1.1).symm
      case u2 => exact hne
      case u3 =>
        rw [PySem.sizeLine_eq]; simp only [List.size_toArray, List.length_map]; have := kF3.1.1; omega
      intro h4 F4 N4
      (try k_sweep)
      walk_at "STEPSD1"
      have hst := em_step kI3 hle'
      refine' ksw_end ⟨e.i + (d.j - d.k), _, e.ts ++ [(_, _)], e.ps ++ [(e.i, e.i + (d.j - d.k))], e.ep + 1⟩ (by assumption) (by assumption) em_led ⟨pairs_snoc kF3.1 _ _ ?ki, ?kj⟩ ?kk ?kl hst (by dsimp only; omega)
      case ki => exact ⟨_, _, _, by
        have hcast : ((e.i : Int) + (d.j : Int) - (d.k : Int)) = ((e.i + (d.j - d.k) : Nat) : Int) := by omega
        rw [← hcast]; rfl⟩
      case kj =>
        intro p hp
        rcases List.mem_append.mp hp with hp | hp
        · exact kF3.2 p hp
        · rw [List.mem_singleton.mp hp]; exact (Nat.ne_of_lt l1.1).symm
      case kk =>
        intro p hp; rw [List.mem_singleton.mp hp]
        show some (Value.int _ _) = some (Value.int _ _)
        refine congrArg some ?_
        have hcast : ((e.i : Int) + ((d.j : Int) - (d.k : Int))) = ((e.i + (d.j - d.k) : Nat) : Int) := by omega
        rw [← hcast]
      case kl => (intro z h2 h3; have a1 := h2 _ (.head _); simp only [ne_eq] at a1; simp [kstB, a1])
    · rename ¬ ((e.i : Int) ≤ _) => hgt
      have hgt' : d.k < e.i := by omega
      refine' ksw_end e (by assumption) (by assumption) (fun p hp => hp) kF3 ?kg ?kh (em_done kI3 hgt') (by omega)
      case kg => intro p hp; rw [List.mem_singleton.mp hp]; rfl
      case kh =>
        intro z h2 h3
        have a1 := h2 _ (.head _)
        simp only [List.contains_cons, List.contains_nil, Bool.or_false, Bool.or_eq_false_iff, beq_eq_false_iff_ne, ne_eq] at a1 h3
        simp [kstB, a1, h3.1, h3.2])
end PartD1
end Mine

namespace Mine
section PartG1
theorem freshG1 : True := by
  w_top off
  k_with_none
  trivial
/-- the rows of a square table: the i-th row lies at ta i and bears V i 0 .. V i (k-1) -/
def gridLed (k : Nat) (ta : Nat → Addr) (V : Nat → Nat → Value) : List (Addr × Obj) := (List.range k).map fun i => (ta i, W.listOf ((List.range k).map (V i)).toArray 0)
abbrev rowRefs (k : Nat) (ta : Nat → Addr) : List Value := (List.range k).map fun i => Value.ref (ta i)
def updV (V : Nat → Nat → Value) (i j : Nat) (v : Value) : Nat → Nat → Value := fun a b => if a = i ∧ b = j then v else V a b

theorem grid_mem {k : Nat} {ta : Nat → Addr} {V : Nat → Nat → Value} {i : Nat} (hi : i < k) : (ta i, W.listOf ((List.range k).map (V i)).toArray 0) ∈ gridLed k ta V :=
  List.mem_map.mpr ⟨i, List.mem_range.mpr hi, rfl⟩

section
variable {prog : Program} {w : World} {A : Around} {E : Value → Shared → Prop} {s : Shared} {h₀ : Heap} {L : Addr} {m : Str → Option Value} {news : List (Addr × Obj)} {k : Nat} {ta wa : Nat → Addr} {V VT VW : Nat → Nat → Value}
theorem any_item {value slice : PySem.Expr} {l : Addr} {vs : List Value} {e : Nat} {x : Int} {u : Tok} {v : Value} {Q : Value → Shared → Prop}
    (N : News h₀ L s.heap news) (hm : (l, W.listOf vs.toArray e) ∈ news) (h0 : 0 ≤ x) (hhi : x < 2 ^ 63) (hx : vs[x.toNat]? = some v) (h : Q v s)
    (hs : subscripted slice false (.ref l) (.int x u) = operate [.ref l, .int x u] (getItem (.ref l) (.int x u)) := by with_unfolding_all rfl) :
    wpAny (model prog w) A (subscriptTail value slice (.ref l) (.int x u)) Q E s :=
  have hl : s.heap.IsList l vs.toArray := PySem.IsL.isList (n := e) (N _ hm).1
  tail_any hl.typeIs slot_list_getitem.lookup (wpAny_getItem_list hl h0 hhi (by simpa using hx) h) hs
theorem grid_outer {value slice : PySem.Expr} {tb : Addr} {e : Nat} {x : Int} {u : Tok} {Q : Value → Shared → Prop}
    (N : News h₀ L s.heap news) (hm : (tb, W.listOf (rowRefs k ta).toArray e) ∈ news) (h0 : 0 ≤ x) (h1 : x < k) (hk : k ≤ 1000) (h : Q (.ref (ta x.toNat)) s)
    (hs : subscripted slice false (.ref tb) (.int x u) = operate [.ref tb, .int x u] (getItem (.ref tb) (.int x u)) := by with_unfolding_all rfl) :
    wpAny (model prog w) A (subscriptTail value slice (.ref tb) (.int x u)) Q E s :=
  any_item N hm h0 (by omega) (by
    have : x.toNat < k := by omega
    simp [rowRefs, this]) h hs
theorem grid_inner {value slice : PySem.Expr} {i : Nat} {x : Int} {u : Tok} {Q : Value → Shared → Prop}
    (N : News h₀ L s.heap news) (hm : ∀ p ∈ gridLed k ta V, p ∈ news) (hi : i < k) (h0 : 0 ≤ x) (h1 : x < k) (hk : k ≤ 1000) (h : Q (V i x.toNat) s)
    (hs : subscripted slice false (.ref (ta i)) (.int x u) = operate [.ref (ta i), .int x u] (getItem (.ref (ta i)) (.int x u)) := by with_unfolding_all rfl) :
    wpAny (model prog w) A (subscriptTail value slice (.ref (ta i)) (.int x u)) Q E s :=
  any_item N (hm _ (grid_mem hi)) h0 (by omega) (by
    have : x.toNat < k := by omega
    simp [this]) h hs
/-- one cell of one row is stored; the ledger news' bears the new row in the old one's place -/
theorem row_set {l : Addr} {its : List Value} {e : Nat} {x : Int} {u : Tok} {v : Value} {news' : List (Addr × Obj)} {Q : Unit → Shared → Prop}
    (F : Fr h₀ L s.heap m) (N : News h₀ L s.heap news) (hm : (l, W.listOf its.toArray e) ∈ news) (h0 : 0 ≤ x) (hhi : x < 2 ^ 63) (hx : x < its.length)
    (hs : ∀ p ∈ news', (p.1 ≠ l ∧ p ∈ news) ∨ p = (l, W.listOf (its.set x.toNat v).toArray e))
    (h : ∀ h', Fr h₀ L h' m → News h₀ L h' news' → Q () { s with heap := h' }) :
    wpAny (model prog w) A (setItem (.ref l) (.int x u) v) Q E s := by
  have z := N _ hm
  have hsz : x < (its.toArray.size : Nat) := by rw [List.size_toArray]; exact hx
  have hb : Heap.SameBut l s.heap (s.heap.update l (Obj.mapSeq (·.setIfInBounds x.toNat v))) := Heap.SameBut.update ..
  refine ki_setAt z.1 h0 hhi hsz (h _ (F.change hb z.2.1 z.2.2) fun p hp => ?_)
  rcases hs p hp with ⟨hne, hp'⟩ | rfl
  · have q := N p hp'
    exact ⟨(hb.2 p.1 hne).trans q.1, q.2⟩
  · refine ⟨?_, z.2⟩
    have q := PySem.IsL.update z.1 (·.setIfInBounds x.toNat v)
    have e1 : its.toArray.setIfInBounds x.toNat v = (its.set x.toNat v).toArray := by
      apply Array.toList_inj.mp
      simp
    rw [e1] at q
    rw [q]
    simp
theorem row_upd {i j : Nat} {v : Value} (hj : j < k) : ((List.range k).map (V i)).set j v = (List.range k).map (updV V i j v i) := by
  apply List.ext_getElem?
  intro b
  rw [List.getElem?_set]
  by_cases hb : j = b
  · subst hb
    simp [hj, updV]
  · by_cases hbk : b < k
    · simp [hb, hbk, updV, Ne.symm hb]
    · simp [hb, hbk]
theorem grid_upd {i j : Nat} {v : Value} (inj : ∀ a, a < k → ∀ b, b < k → ta a = ta b → a = b) (hi : i < k) (hj : j < k) :
    ∀ p ∈ gridLed k ta (updV V i j v), (p.1 ≠ ta i ∧ p ∈ gridLed k ta V) ∨ p = (ta i, W.listOf (((List.range k).map (V i)).set j v).toArray 0) := by
  intro p hp
  obtain ⟨a, ha, rfl⟩ := List.mem_map.mp hp
  have ha' := List.mem_range.mp ha
  by_cases e : a = i
  · subst e
    right
    rw [row_upd hj]
  · left
    refine ⟨fun q => e (inj _ ha' _ hi q), ?_⟩
    have e2 : updV V i j v a = V a := by
      funext b; unfold updV; rw [if_neg (fun q => e q.1)]
    rw [e2]
    exact grid_mem ha'
theorem grid_fst {p : Addr × Obj} (hp : p ∈ gridLed k ta V) : ∃ i, i < k ∧ p.1 = ta i := by
  obtain ⟨a, ha, rfl⟩ := List.mem_map.mp hp
  exact ⟨a, List.mem_range.mp ha, rfl⟩

structure Apart (k : Nat) (ta wa : Nat → Addr) (fix : List (Addr × Obj)) : Prop where
  injT : ∀ a, a < k → ∀ b, b < k → ta a = ta b → a = b
  injW : ∀ a, a < k → ∀ b, b < k → wa a = wa b → a = b
  dis : ∀ a, a < k → ∀ b, b < k → ta a ≠ wa b
  offT : ∀ p ∈ fix, ∀ a, a < k → p.1 ≠ ta a
  offW : ∀ p ∈ fix, ∀ a, a < k → p.1 ≠ wa a
abbrev gLed (k : Nat) (ta wa : Nat → Addr) (fix : List (Addr × Obj)) (VT VW : Nat → Nat → Value) : List (Addr × Obj) := fix ++ (gridLed k ta VT ++ gridLed k wa VW)
variable {fix own : List (Addr × Obj)}
theorem set_T {i : Nat} {x : Int} {u : Tok} {v : Value} {Q : Unit → Shared → Prop} (P : Apart k ta wa fix) (F : Fr h₀ L s.heap m) (N : News h₀ L s.heap (gLed k ta wa fix VT VW ++ own))
    (hown : ∀ p ∈ own, ∀ a, a < k → p.1 ≠ ta a) (hi : i < k) (h0 : 0 ≤ x) (h1 : x < k) (hk : k ≤ 1000)
    (h : ∀ h', Fr h₀ L h' m → News h₀ L h' (gLed k ta wa fix (updV VT i x.toNat v) VW ++ own) → Q () { s with heap := h' }) :
    wpAny (model prog w) A (setItem (.ref (ta i)) (.int x u) v) Q E s := by
  refine row_set F N (List.mem_append_left _ (List.mem_append_right _ (List.mem_append_left _ (grid_mem hi)))) h0 (by omega) (by simpa using h1) ?_ h
  intro p hp
  rcases List.mem_append.mp hp with hp | hp
  · rcases List.mem_append.mp hp with hp | hp
    · exact .inl ⟨P.offT p hp i hi, List.mem_append_left _ (List.mem_append_left _ hp)⟩
    · rcases List.mem_append.mp hp with hp | hp
      · rcases grid_upd P.injT hi (by omega) p hp with ⟨a, b⟩ | e
        · exact .inl ⟨a, List.mem_append_left _ (List.mem_append_right _ (List.mem_append_left _ b))⟩
        · exact .inr e
      · obtain ⟨b, hb, e⟩ := grid_fst hp
        exact .inl ⟨by rw [e]; exact fun q => P.dis i hi b hb q.symm, List.mem_append_left _ (List.mem_append_right _ (List.mem_append_right _ hp))⟩
  · exact .inl ⟨hown p hp i hi, List.mem_append_right _ hp⟩
theorem set_W {i : Nat} {x : Int} {u : Tok} {v : Value} {Q : Unit → Shared → Prop} (P : Apart k ta wa fix) (F : Fr h₀ L s.heap m) (N : News h₀ L s.heap (gLed k ta wa fix VT VW ++ own))
    (hown : ∀ p ∈ own, ∀ a, a < k → p.1 ≠ wa a) (hi : i < k) (h0 : 0 ≤ x) (h1 : x < k) (hk : k ≤ 1000)
    (h : ∀ h', Fr h₀ L h' m → News h₀ L h' (gLed k ta wa fix VT (updV VW i x.toNat v) ++ own) → Q () { s with heap := h' }) :
    wpAny (model prog w) A (setItem (.ref (wa i)) (.int x u) v) Q E s := by
  refine row_set F N (List.mem_append_left _ (List.mem_append_right _ (List.mem_append_right _ (grid_mem hi)))) h0 (by omega) (by simpa using h1) ?_ h
  intro p hp
  rcases List.mem_append.mp hp with hp | hp
  · rcases List.mem_append.mp hp with hp | hp
    · exact .inl ⟨P.offW p hp i hi, List.mem_append_left _ (List.mem_append_left _ hp)⟩
    · rcases List.mem_append.mp hp with hp | hp
      · obtain ⟨b, hb, e⟩ := grid_fst hp
        exact .inl ⟨by rw [e]; exact P.dis b hb i hi, List.mem_append_left _ (List.mem_append_right _ (List.mem_append_left _ hp))⟩
      · rcases grid_upd P.injW hi (by omega) p hp with ⟨a, b⟩ | e
        · exact .inl ⟨a, List.mem_append_left _ (List.mem_append_right _ (List.mem_append_right _ b))⟩
        · exact .inr e
  · exact .inl ⟨hown p hp i hi, List.mem_append_right _ hp⟩
end
end PartG1
end Mine

namespace Mine
section PartG2
theorem freshG2 : True := by
  w_top off
  k_with_none
  trivial
def lawBody : List Stmt := match PySem.Challenge.rw_gq5002_01.prog.main.body with
  | [_, _, _, _, _, _, .FunctionDef _ _ b _ _ _ _ _ _ _] => b
  | _ => []
def lawScope : Scope := match PySem.Challenge.rw_gq5002_01.prog.main.body with
  | [_, _, _, _, _, _, .FunctionDef _ _ _ _ _ _ s _ _ _] => s
  | _ => default
def lawFor : Stmt := match lawBody with
  | [_, _, _, _, _, _, s, _, _, _, _, _, _, _] => s
  | _ => .Pass ⟨0, 0, 0, 0⟩

theorem turn_use {w : World} {mean : ExcName → Option Value} {mg mb : Str → Option Value} {news : List (Addr × Obj)} {a : Str} {t : Tok}
   {dp un : Nat} {gd : Option (List Code)} {cn : Str} {cs : Scope} {fa : Addr} {ccd : Value} {cl : List (Str × Addr)} {outer : List Env} {A₀ : Around} {base h₀ : Heap} {L : Addr} {m : Str → Option Value} {s : Shared} {Q E : Value → Shared → Prop}
   (B : Below A₀ base outer h₀) (F : Fr h₀ L s.heap m) (X : (hd.heap_39 w.params).In h₀) (N : News h₀ L s.heap news) (T : Top hd.view_39 (looseW hd.view_39 []) mean mg mb h₀) (hk : cs.kind = .function)
   (hd : dp + 5 < recursionLimit) (hu : un + 40 < cLine) (hlen : a.length ≤ 100)
   (h : ∀ (h' : Heap) (tk' : Nat), Fr h₀ L h' m → News h₀ L h' news → Q (.bool (lynR a.cps.toList)) { s with heap := h', toks := tk' }) :
   wpAny (model PySem.Challenge.rw_gq5002_01.row.prog w) (ktrTop dp un gd cn cs L fa ccd cl outer) (call (.ref 29) [.str a t]) Q E s :=
  turn_ok w mean mg mb news a t hlen dp un gd cn cs fa ccd cl outer A₀ base h₀ L m s Q E B F X N T hk hd hu fun _ h' tk' F' N' => h h' tk' F' N'
theorem duval_use {w : World} {mean : ExcName → Option Value} {mg mb : Str → Option Value} {news : List (Addr × Obj)} {D : Addr} {ws : List Value} {ns : List Int} {ep : Nat} (hm : (D, W.listOf ws.toArray ep) ∈ news) (hi : IntsAre ws ns) (hlen : ns.length ≤ 100)
   {dp un : Nat} {gd : Option (List Code)} {cn : Str} {cs : Scope} {fa : Addr} {ccd : Value} {cl : List (Str × Addr)} {outer : List Env} {A₀ : Around} {base h₀ : Heap} {L : Addr} {m : Str → Option Value} {s : Shared} {Q E : Value → Shared → Prop}
   (B : Below A₀ base outer h₀) (F : Fr h₀ L s.heap m) (X : (hd.heap_39 w.params).In h₀) (N : News h₀ L s.heap news) (T : Top hd.view_39 (looseW hd.view_39 []) mean mg mb h₀) (hk : cs.kind = .function)
   (hd : dp + 5 < recursionLimit) (hu : un + 40 < cLine)
   (h : ∀ r (ts : List (Addr × Obj)) (ps : List (Nat × Nat)) e h' tk', OutInv (seqAt ns) ns.length ps ns.length → PairsAre ts ps →
      Fr h₀ L h' m → News h₀ L h' ((r, W.listOf (refsOf ts).toArray e) :: (ts ++ news)) → Q (.ref r) { s with heap := h', toks := tk' }) :
   wpAny (model PySem.Challenge.rw_gq5002_01.row.prog w) (ktrTop dp un gd cn cs L fa ccd cl outer) (call (.ref 36) [.ref D]) Q E s :=
  duval_ok w mean mg mb news D ws ns ep hm hi hlen dp un gd cn cs fa ccd cl outer A₀ base h₀ L m s Q E B F X N T hk hd hu h
theorem own_off {own led : List (Addr × Obj)} {k : Nat} {ta : Nat → Addr} (V : Nat → Nat → Value) (h : OwnOff own (led.map (·.1))) (hs : ∀ p ∈ gridLed k ta V, p ∈ led) : ∀ p ∈ own, ∀ a, a < k → p.1 ≠ ta a :=
  fun p hp _ ha => h p hp _ (List.mem_map.mpr ⟨_, hs _ (grid_mem ha), rfl⟩)

abbrev VB (T : Nat → Nat → Bool) : Nat → Nat → Value := fun a b => .bool (T a b)
abbrev VI (W : Nat → Nat → Int) (t : Nat → Nat → Tok) : Nat → Nat → Value := fun a b => .int (W a b) (t a b)
def updF {α : Type} (f : Nat → Nat → α) (i j : Nat) (x : α) : Nat → Nat → α := fun a b => if a = i ∧ b = j then x else f a b
theorem updF_self {α : Type} (f : Nat → Nat → α) (i j : Nat) (x : α) : updF f i j x i j = x := by simp [updF]
theorem updF_ne {α : Type} (f : Nat → Nat → α) {i j a b : Nat} (x : α) (h : ¬ (a = i ∧ b = j)) : updF f i j x a b = f a b := by simp [updF, h]
theorem updV_B (T : Nat → Nat → Bool) (i j : Nat) (x : Bool) : updV (VB T) i j (.bool x) = VB (updF T i j x) := by
  funext a b; simp only [updV, updF, VB]; split <;> rfl
theorem updV_I (W : Nat → Nat → Int) (t : Nat → Nat → Tok) (i j : Nat) (x : Int) (u : Tok) : updV (VI W t) i j (.int x u) = VI (updF W i j x) (updF t i j u) := by
  funext a b; simp only [updV, updF, VI]; split <;> rfl
section
variable {prog : Program} {w : World} {A : Around} {E : Value → Shared → Prop} {s : Shared} {h₀ : Heap} {L : Addr} {m : Str → Option Value} {news : List (Addr × Obj)} {k : Nat} {ta wa : Nat → Addr} {V VT VW : Nat → Nat → Value}
variable {fix own : List (Addr × Obj)} {T : Nat → Nat → Bool} {Wf : Nat → Nat → Int} {t : Nat → Nat → Tok}
theorem grid_outerN {value slice : PySem.Expr} {tb : Addr} {e : Nat} {i : Nat} {u : Tok} {Q : Value → Shared → Prop}
    (N : News h₀ L s.heap news) (hm : (tb, W.listOf (rowRefs k ta).toArray e) ∈ news) (h1 : i < k) (hk : k ≤ 1000) (h : Q (.ref (ta i)) s)
    (hs : subscripted slice false (.ref tb) (.int i u) = operate [.ref tb, .int i u] (getItem (.ref tb) (.int i u)) := by with_unfolding_all rfl) :
    wpAny (model prog w) A (subscriptTail value slice (.ref tb) (.int i u)) Q E s := grid_outer (x := (i : Int)) N hm (by omega) (by omega) hk h hs
theorem grid_innerN {value slice : PySem.Expr} {i j : Nat} {u : Tok} {Q : Value → Shared → Prop}
    (N : News h₀ L s.heap news) (hm : ∀ p ∈ gridLed k ta V, p ∈ news) (hi : i < k) (h1 : j < k) (hk : k ≤ 1000) (h : Q (V i j) s)
    (hs : subscripted slice false (.ref (ta i)) (.int j u) = operate [.ref (ta i), .int j u] (getItem (.ref (ta i)) (.int j u)) := by with_unfolding_all rfl) :
    wpAny (model prog w) A (subscriptTail value slice (.ref (ta i)) (.int j u)) Q E s := grid_inner (x := (j : Int)) N hm hi (by omega) (by omega) hk h hs
theorem set_TN {i j : Nat} {u : Tok} {x : Bool} {Q : Unit → Shared → Prop} (P : Apart k ta wa fix) (F : Fr h₀ L s.heap m) (N : News h₀ L s.heap (gLed k ta wa fix (VB T) VW ++ own))
    (hown : ∀ p ∈ own, ∀ a, a < k → p.1 ≠ ta a) (hi : i < k) (h1 : j < k) (hk : k ≤ 1000)
    (h : ∀ h', Fr h₀ L h' m → News h₀ L h' (gLed k ta wa fix (VB (updF T i j x)) VW ++ own) → Q () { s with heap := h' }) :
    wpAny (model prog w) A (setItem (.ref (ta i)) (.int j u) (.bool x)) Q E s :=
  set_T (x := (j : Int)) P F N hown hi (by omega) (by omega) hk fun h' F' N' => h h' F' (by rw [← updV_B]; exact N')
theorem set_WN {i j : Nat} {u u' : Tok} {x : Int} {Q : Unit → Shared → Prop} (P : Apart k ta wa fix) (F : Fr h₀ L s.heap m) (N : News h₀ L s.heap (gLed k ta wa fix VT (VI Wf t) ++ own))
    (hown : ∀ p ∈ own, ∀ a, a < k → p.1 ≠ wa a) (hi : i < k) (h1 : j < k) (hk : k ≤ 1000)
    (h : ∀ h', Fr h₀ L h' m → News h₀ L h' (gLed k ta wa fix VT (VI (updF Wf i j x) (updF t i j u')) ++ own) → Q () { s with heap := h' }) :
    wpAny (model prog w) A (setItem (.ref (wa i)) (.int j u) (.int x u')) Q E s :=
  set_W (x := (j : Int)) P F N hown hi (by omega) (by omega) hk fun h' F' N' => h h' F' (by rw [← updV_I]; exact N')
end
/-! the table's plain meaning -/
def seg (u : List Nat) (i j : Nat) : List Nat := (u.drop i).take (j - i)
structure MOk (u : List Nat) (Mf : Nat → Nat → Bool) : Prop where
  zero : ∀ j, 0 < j → j ≤ u.length → Mf 0 j = lynR (seg u 0 j)
  no : ∀ i j, i < j → j ≤ u.length → lynR (seg u i j) = false → Mf i j = false
  step : ∀ i j, 0 < i → i < j → j ≤ u.length → lynR (seg u i j) = true → (Mf i j = true ↔ ∃ h, h < i ∧ Mf h i = true ∧ 0 ≤ scmp (seg u h i) (seg u i j))
  uniq : ∀ h h' i, Mf h i = true → Mf h' i = true → h = h'
def Done (j i a b : Nat) : Prop := b < j ∨ (b = j ∧ a < i)
/-- column j is filled up to row i; the cell (i, j) of ways bears x -/
structure Col (u : List Nat) (Mf : Nat → Nat → Bool) (j i : Nat) (T : Nat → Nat → Bool) (W : Nat → Nat → Int) (x : Int) : Prop where
  ok : ∀ a b, a < b → b ≤ u.length → Done j i a b → T a b = lynR (seg u a b) ∧ W a b = (Mf a b).toInt
  rest : ∀ a b, a < b → b ≤ u.length → ¬ Done j i a b → ¬ (a = i ∧ b = j) → W a b = 0
  at' : i < j → j ≤ u.length → W i j = x
theorem col_start {u : List Nat} {Mf : Nat → Nat → Bool} {T : Nat → Nat → Bool} {W : Nat → Nat → Int} (h : ∀ a b, W a b = 0) : Col u Mf 1 0 T W 0 where
  ok := fun a b h1 h2 h3 => by rcases h3 with h3 | h3 <;> omega
  rest := fun a b _ _ _ _ => h a b
  at' := fun _ _ => h _ _
/-- the column is full: on to the next -/
theorem col_next {u : List Nat} {Mf : Nat → Nat → Bool} {j : Nat} {T : Nat → Nat → Bool} {W : Nat → Nat → Int} {x : Int} (C : Col u Mf j j T W x) : Col u Mf (j + 1) 0 T W 0 where
  ok := fun a b h1 h2 h3 => C.ok a b h1 h2 (by rcases h3 with h3 | h3; (rcases Nat.lt_or_ge b j with h | h; exact .inl h; exact .inr ⟨by omega, by omega⟩); exact absurd h3.2 (Nat.not_lt_zero _))
  rest := fun a b h1 h2 h3 _ => C.rest a b h1 h2 (fun q => h3 (by rcases q with q | q; exact .inl (by omega); exact .inl (by omega))) (by omega)
  at' := fun h1 h2 => C.rest 0 (j + 1) h1 h2 (fun q => by rcases q with q | q <;> omega) (by omega)
theorem col_T {u : List Nat} {Mf : Nat → Nat → Bool} {j i : Nat} {T : Nat → Nat → Bool} {W : Nat → Nat → Int} {x : Int} (C : Col u Mf j i T W x) (y : Bool) : Col u Mf j i (updF T i j y) W x where
  ok := fun a b h1 h2 h3 => by
    rw [updF_ne T y (by rintro ⟨rfl, rfl⟩; rcases h3 with h3 | h3 <;> omega)]
    exact C.ok a b h1 h2 h3
  rest := C.rest
  at' := C.at'
theorem col_W {u : List Nat} {Mf : Nat → Nat → Bool} {j i : Nat} {T : Nat → Nat → Bool} {W : Nat → Nat → Int} {x : Int} (C : Col u Mf j i T W x) (y : Int) : Col u Mf j i T (updF W i j y) y where
  ok := fun a b h1 h2 h3 => by
    rw [updF_ne W y (by rintro ⟨rfl, rfl⟩; rcases h3 with h3 | h3 <;> omega)]
    exact C.ok a b h1 h2 h3
  rest := fun a b h1 h2 h3 h4 => by rw [updF_ne W y h4]; exact C.rest a b h1 h2 h3 h4
  at' := fun _ _ => updF_self ..
/-- the cell (i, j) is done: on to the next row -/
theorem col_down {u : List Nat} {Mf : Nat → Nat → Bool} {j i : Nat} {T : Nat → Nat → Bool} {W : Nat → Nat → Int} {x : Int} (C : Col u Mf j i T W x) (hi : i < j) (hj : j ≤ u.length) (hT : T i j = lynR (seg u i j)) (hx : x = (Mf i j).toInt) : Col u Mf j (i + 1) T W 0 where
  ok := fun a b h1 h2 h3 => by
    by_cases q : a = i ∧ b = j
    · obtain ⟨rfl, rfl⟩ := q
      exact ⟨hT, by rw [C.at' hi hj, hx]⟩
    · exact C.ok a b h1 h2 (by rcases h3 with h3 | h3; exact .inl h3; exact .inr ⟨h3.1, by omega⟩)
  rest := fun a b h1 h2 h3 h4 => C.rest a b h1 h2 (fun q => h3 (by rcases q with q | q; exact .inl q; exact .inr ⟨q.1, by omega⟩)) (by
    rintro ⟨rfl, rfl⟩
    exact h3 (.inr ⟨rfl, by omega⟩))
  at' := fun h1 h2 => C.rest (i + 1) j h1 h2 (fun q => by rcases q with q | q <;> omega) (by omega)
theorem seg_slice {x : Str} {i j : Nat} (h1 : i ≤ j) (h2 : j ≤ x.cps.toList.length) : (Txt.slice x (some (i : Int)) (some (j : Int))).cps.toList = seg x.cps.toList i j := by
  rw [slice_ss (by omega) (by omega) (by omega)]
  unfold seg
  have e1 : ((i : Int)).toNat = i := by omega
  have e2 : ((j : Int) - (i : Int)).toNat = j - i := by omega
  rw [e1, e2]
theorem gridLed_fst {k : Nat} {ta : Nat → Addr} {V : Nat → Nat → Value} : (gridLed k ta V).map (·.1) = (List.range k).map ta := by
  unfold gridLed; rw [List.map_map]; rfl
theorem gLed_fst {k : Nat} {ta wa : Nat → Addr} {fix : List (Addr × Obj)} {VT VW VT' VW' : Nat → Nat → Value} : (gLed k ta wa fix VT VW).map (·.1) = (gLed k ta wa fix VT' VW').map (·.1) := by
  simp only [gLed, List.map_append, gridLed_fst]
theorem gLed_fst2 {k : Nat} {ta wa : Nat → Addr} {fix own : List (Addr × Obj)} {VT VW VT' VW' : Nat → Nat → Value} : (gLed k ta wa fix VT VW ++ own).map (·.1) = (gLed k ta wa fix VT' VW' ++ own).map (·.1) := by
  simp only [gLed, List.map_append, gridLed_fst]
theorem sub_l {a b c : List (Addr × Obj)} : ∀ p ∈ a ++ b, p ∈ a ++ (b ++ c) := fun p hp => (List.mem_append.mp hp).elim (fun h => List.mem_append_left _ h) fun h => List.mem_append_right _ (List.mem_append_left _ h)
theorem sub_r {a b c : List (Addr × Obj)} : ∀ p ∈ c, p ∈ a ++ (b ++ c) := fun _ hp => List.mem_append_right _ (List.mem_append_right _ hp)
/-- what the h-loop has counted so far -/
noncomputable def cnt (u : List Nat) (Mf : Nat → Nat → Bool) (i j h : Nat) : Int := open Classical in if ∃ g, g < h ∧ Mf g i = true ∧ 0 ≤ scmp (seg u g i) (seg u i j) then 1 else 0
theorem cnt_zero (u : List Nat) (Mf : Nat → Nat → Bool) (i j : Nat) : cnt u Mf i j 0 = 0 := by
  unfold cnt; rw [if_neg]; rintro ⟨g, hg, _⟩; exact Nat.not_lt_zero _ hg
theorem cnt_hit {u : List Nat} {Mf : Nat → Nat → Bool} (M : MOk u Mf) {i j h : Nat} (h1 : Mf h i = true) (h2 : 0 ≤ scmp (seg u h i) (seg u i j)) : cnt u Mf i j (h + 1) = cnt u Mf i j h + 1 := by
  unfold cnt
  rw [if_pos ⟨h, Nat.lt_succ_self _, h1, h2⟩, if_neg]
  · rfl
  · rintro ⟨g, hg, hM, _⟩
    exact absurd (M.uniq _ _ _ hM h1) (Nat.ne_of_lt hg)
theorem cnt_miss {u : List Nat} {Mf : Nat → Nat → Bool} {i j h : Nat} (hn : ¬ (Mf h i = true ∧ 0 ≤ scmp (seg u h i) (seg u i j))) : cnt u Mf i j (h + 1) = cnt u Mf i j h := by
  unfold cnt
  have e : (∃ g, g < h + 1 ∧ Mf g i = true ∧ 0 ≤ scmp (seg u g i) (seg u i j)) ↔ ∃ g, g < h ∧ Mf g i = true ∧ 0 ≤ scmp (seg u g i) (seg u i j) := by
    constructor
    · rintro ⟨g, hg, q⟩
      rcases Nat.lt_or_ge g h with hh | hh
      · exact ⟨g, hh, q⟩
      · obtain rfl : g = h := by omega
        exact absurd q hn
    · rintro ⟨g, hg, q⟩
      exact ⟨g, by omega, q⟩
  simp only [e]
theorem cnt_end {u : List Nat} {Mf : Nat → Nat → Bool} (M : MOk u Mf) {i j : Nat} (h0 : 0 < i) (h1 : i < j) (h2 : j ≤ u.length) (hl : lynR (seg u i j) = true) : cnt u Mf i j i = (Mf i j).toInt := by
  have e := M.step i j h0 h1 h2 hl
  unfold cnt
  cases hM : Mf i j with
  | true =>
    rw [if_pos (e.mp hM)]; rfl
  | false =>
    rw [if_neg]
    · rfl
    · intro q
      rw [e.mpr q] at hM
      cases hM
end PartG2
end Mine

namespace Mine
section PartL3
theorem freshL3 : True := by
  w_top off
  k_with_none
  trivial
local macro_rules | `(tactic| walk_at "STOPL3") => `(tactic| first | (with_reducible show wpAny _ _ (pyIter (Value.ref _)) (fun it s₂ => LoopAtV _ _ _ _ _ _ _ _ _ it s₂) _ _) | (with_reducible show wpAny _ _ (exec (Stmt.While _ _ _ _) _) _ _ _))
local macro_rules | `(tactic| walk_at "STEPSL3") => `(tactic| repeat' (first | (k_unfold; (try dsimp only)) | ((fail_if_success walk_at "STOPL3"); first | (k_end; wrow_close) | walk1 | (dsimp only; walk1) | (leave1; walk_say "STEP leave1"; try dsimp only)) | fail "no step"))
local macro_rules | `(tactic| walk_at "exec For Name Call cons nil") => `(tactic| (k_here; (rename Fr _ _ _ _ => lF'); k_dflt (with_unfolding_all refine' For_invVF lF' ?k1 ?k2 ?_; (case k1 => exact rfl); (case k2 => exact rfl); k_whole)))
local macro_rules | `(tactic| k_mem) => `(tactic| first | with_reducible assumption | (refine List.mem_append_left _ ?_; k_mem) | (refine List.mem_append_right _ ?_; k_mem))
local macro_rules | `(tactic| k_memK) => `(tactic| first | with_reducible assumption | (refine List.mem_append_left _ ?_; k_memK) | (refine List.mem_append_right _ ?_; k_memK))
local macro_rules | `(tactic| walk_at "call ref") => `(tactic| (k_here; (with_reducible show wpAny _ _ (call (Value.ref 21) _) _ _ _); k_dflt (refine' strcoll_use ?k1 ?k2 ?k3 ?k4 ?k5 ?kK ?kd ?ku ?_; (case k1 => k_asm); (case k2 => k_asm); (case k3 => k_asm); (case k4 => k_asm); (case k5 => k_asm); (case kK => first | exact rfl | assumption); (case kd => ktr_room); (case ku => ktr_units); k_whole); intro t9 h9 tk9 F9 N9; (try dsimp only); (try k_sweep); (try k_fold)))
local macro_rules | `(tactic| walk_at "call ref") => `(tactic| (k_here; (with_reducible show wpAny _ _ (call (Value.ref 29) _) _ _ _); k_dflt (refine' turn_use ?k1 ?k2 ?k3 ?k4 ?k5 ?kK ?kd ?ku ?kl ?_; (case k1 => k_asm); (case k2 => k_asm); (case k3 => k_asm); (case k4 => k_asm); (case k5 => k_asm); (case kK => first | exact rfl | assumption); (case kd => ktr_room); (case ku => ktr_units); (case kl => omega); k_whole); intro h9 tk9 F9 N9; (try dsimp only); (try k_sweep); (try k_fold)))
local macro_rules | `(tactic| walk_at "subscriptTail") => `(tactic| (k_here; (with_reducible show wpAny _ _ (subscriptTail _ _ (Value.ref _) (Value.int _ _)) _ _ _); k_dflt (k_extra "cell")))
local macro_rules | `(tactic| walk_at "setItem ref int") => `(tactic| (k_here; (with_reducible show wpAny _ _ (setItem (Value.ref _) (Value.int _ _) _) _ _ _); k_dflt (k_extra "store")))
local macro_rules | `(tactic| walk_at "GSUBL3") => `(tactic| first | with_reducible assumption | (refine List.mem_append_left _ ?_; walk_at "GSUBL3") | (refine List.mem_append_right _ ?_; walk_at "GSUBL3"))
structure GS where
  T : Nat → Nat → Bool
  W : Nat → Nat → Int
  t : Nat → Nat → Tok

abbrev lawCl (cA cS cT cW : Addr) : List (Str × Addr) := [(Str.ofString "ways", cW), (Str.ofString "table", cT), (Str.ofString "size", cS), (Str.ofString "alphabet", cA)]

theorem loop3 (w : World) (mean : ExcName → Option Value) (mg mb : Str → Option Value) (n k : Nat) (hkn : k = n + 1) (hn : n ≤ 20) (wd : Str) (tw tS : Tok) (hwd : wd.length = n) (fix : List (Addr × Obj)) (ta wa : Nat → Addr) (cA cS cT cW tb wy : Addr) (oS oT oW : Obj) (eT eW : Nat)
    (hS : (cS, oS) ∈ fix) (dS : oS.data = .cell (some (.int (n : Int) tS))) (hT : (cT, oT) ∈ fix) (dT : oT.data = .cell (some (.ref tb))) (hW : (cW, oW) ∈ fix) (dW : oW.data = .cell (some (.ref wy)))
    (htb : (tb, PySem.W.listOf (rowRefs k ta).toArray eT) ∈ fix) (hwy : (wy, PySem.W.listOf (rowRefs k wa).toArray eW) ∈ fix) (P : Apart k ta wa fix) (Mf : Nat → Nat → Bool) (M : MOk wd.cps.toList Mf)
    (T0 : Nat → Nat → Bool) (W0 : Nat → Nat → Int) (t0 : Nat → Nat → Tok) (hW0 : ∀ a b, W0 a b = 0)
    (dp un : Nat) (gd : Option (List Code)) (L a : Addr) (ccd : Value) (outer : List Env) (A₀ : Around) (base h₀ : Heap) (m₀ : Str → Option Value) (s : Shared) (Q : Flow → Shared → Prop) (E : Value → Shared → Prop)
    (B : Below A₀ base outer h₀) (F : Fr h₀ L s.heap (fun y => if y = Str.ofString "word" then some (.str wd tw) else m₀ y)) (X : (hd.heap_39 w.params).In h₀) (N : News h₀ L s.heap (gLed k ta wa fix (VB T0) (VI W0 t0)))
    (Tp : Top hd.view_39 (looseW hd.view_39 []) mean mg mb h₀) (hdp : dp + 10 < recursionLimit) (hu : un + 80 < cLine) (hE : PassesOwn (model PySem.Challenge.rw_gq5002_01.row.prog w) (ktrTop dp un gd (Str.ofString "law") lawScope L a ccd (lawCl cA cS cT cW) outer) (envX (Str.ofString "law") lawScope L a ccd (lawCl cA cS cT cW)) E)
    (h : ∀ (c : GS) (u : Str → Option Value) h' tk', (∀ a b, a < b → b ≤ n → c.T a b = lynR (seg wd.cps.toList a b) ∧ c.W a b = (Mf a b).toInt) →
      Fr h₀ L h' (fun y => if y = Str.ofString "j" then u y else kstB (fun z => if [Str.ofString "i", Str.ofString "h"].contains z then u z else if z = Str.ofString "word" then some (.str wd tw) else m₀ z) [] y) → News h₀ L h' (gLed k ta wa fix (VB c.T) (VI c.W c.t)) → Q .next { s with heap := h', toks := tk' }) :
    wpAny (model PySem.Challenge.rw_gq5002_01.row.prog w) (ktrTop dp un gd (Str.ofString "law") lawScope L a ccd (lawCl cA cS cT cW) outer) (exec lawFor (envX (Str.ofString "law") lawScope L a ccd (lawCl cA cS cT cW))) Q E s := by
  have hMk := kstMark
  have hul : wd.cps.toList.length = n := by rw [← hwd]; simp [Str.length]
  have hfill : (PySem.Challenge.rw_gq5002_01 = PySem.Challenge.rw_gq5002_01 ∧ hd.heap_39 = hd.heap_39) := by k_fill; exact ⟨rfl, rfl⟩
  clear hfill
  dsimp only [lawFor, lawBody, PySem.Challenge.rw_gq5002_01, PySem.Challenge.pw_gq5002_01]
  show wpAny (model PySem.Challenge.rw_gq5002_01.row.prog w) _ _ _ _ _
  (try k_fold)
  walk_at "STEPSL3"
  rename Fr _ _ _ _ => lF'
  rename News _ _ _ _ => lN'
  rename IsRange _ _ _ _ _ _ _ _ => rgX
  with_unfolding_all refine' kst_range (σ := GS) (fun c => gLed k ta wa fix (VB c.T) (VI c.W c.t)) (fun _ => []) (fun _ => True) [Str.ofString "i", Str.ofString "h"] (fun pre c => Col wd.cps.toList Mf (pre.length + 1) 0 c.T c.W 0) ⟨T0, W0, t0⟩ (by rfl) rgX ?sm ?rs lF' lN' trivial (fun _ h => nomatch h) (col_start hW0) ?turn ?done
  case sm => exact small_one (by omega) (by omega) (by omega) (by omega)
  case rs => exact rangeSize_nat _ _
  all_goals (try clear lF' lN')
  case done =>
    intro c ku kh ktk kFacts kInv kFr kNews
    refine h c ku kh ktk (fun a b h1 h2 => ?_) kFr kNews
    have hul : wd.cps.toList.length = n := by rw [← hwd]; simp [Str.length]
    have e : (rangeKs 1 ((n : Int) + 1 - 1).toNat).length + 1 = n + 1 := by rw [rangeKs_length]; omega
    rw [e] at kInv
    exact kInv.ok a b h1 (by omega) (.inl (by omega))
  case turn =>
    intro c kpre kk kt ku kh ktk kown kEq kLt kOff kFacts kInv kFr kNews
    obtain ⟨j, hj⟩ : ∃ j : Nat, j = kpre.length + 1 := ⟨_, rfl⟩
    have hkk : kk = (j : Int) := by omega
    subst hkk
    rw [← hj] at kInv
    have hjn : j ≤ n := by omega
    have hj1 : 1 ≤ j := by omega
    (try k_fold)
    walk_at "STEPSL3"
    rename Fr _ _ _ _ => lF'
    rename News _ _ _ _ => lN'
    rename IsRange _ _ _ _ _ _ _ _ => rgX
    with_unfolding_all refine' kst_range (σ := GS) (fun c => gLed k ta wa fix (VB c.T) (VI c.W c.t) ++ kown) (fun _ => []) (fun _ => True) [Str.ofString "h"] (fun pre c => Col wd.cps.toList Mf j pre.length c.T c.W 0) c (by rfl) rgX ?sm ?rs lF' lN' trivial (fun _ h => nomatch h) kInv ?turn ?done
    case sm => exact small_one (by omega) (by omega) (by omega) (by omega)
    case rs => exact rangeSize_nat _ _
    all_goals (try clear lF' lN')
    case done =>
      intro c2 ku2 kh2 ktk2 kFacts2 kInv2 kFr2 kNews2
      (try k_fold)
      walk_at "STEPSL3"
      rw [rangeKs_length, show ((j : Int) - 0).toNat = j by omega] at kInv2
      refine kst_end c2 (by assumption) (by assumption) (fun p hp => List.mem_append_left _ hp) (fun p hp => List.mem_append_right _ hp) gLed_fst trivial (fun _ h => nomatch h) ?_ (by
        rw [List.length_append, List.length_singleton, ← hj]; exact col_next kInv2)
      intro z hz _ h3
      simp only [List.contains_cons, List.contains_nil, Bool.or_false, Bool.or_eq_false_iff, beq_eq_false_iff_ne, ne_eq] at hz h3
      simp [kstB, hz, h3.1, h3.2]
    case turn =>
      intro c2 kpre2 kk2 kt2 ku2 kh2 ktk2 kown2 kEq2 kLt2 kOff2 kFacts2 kInv2 kFr2 kNews2
      obtain ⟨i, hi⟩ : ∃ i : Nat, i = kpre2.length := ⟨_, rfl⟩
      have hkk2 : kk2 = (i : Int) := by omega
      subst hkk2
      rw [← hi] at kInv2
      have hij : i < j := by omega
      have hsl := seg_slice (x := wd) (i := i) (j := j) (by omega) (by omega)
      have hoT : ∀ p ∈ kown ++ kown2, ∀ b, b < k → p.1 ≠ ta b := fun p hp => (List.mem_append.mp hp).elim (own_off (VB T0) kOff (fun p hp => List.mem_append_right _ (List.mem_append_left _ hp)) p) (own_off (VB c.T) kOff2 (fun p hp => List.mem_append_left _ (List.mem_append_right _ (List.mem_append_left _ hp))) p)
      have hoW : ∀ p ∈ kown ++ kown2, ∀ b, b < k → p.1 ≠ wa b := fun p hp => (List.mem_append.mp hp).elim (own_off (VI W0 t0) kOff (fun p hp => List.mem_append_right _ (List.mem_append_right _ hp)) p) (own_off (VI c.W c.t) kOff2 (fun p hp => List.mem_append_left _ (List.mem_append_right _ (List.mem_append_right _ hp))) p)
      rw [List.append_assoc] at kNews2
      k_with "cell" => first
        | (refine' grid_innerN (ta := ta) (V := VB _) ?g1 ?g2 ?g3 ?g4 ?g5 ?_ ?g6; (case g1 => k_asm); (case g2 => (intro p hp; walk_at "GSUBL3")); (case g3 => omega); (case g4 => omega); (case g5 => omega); (case g6 => with_unfolding_all rfl); k_whole)
        | (refine' grid_innerN (ta := wa) (V := VI _ _) ?g1 ?g2 ?g3 ?g4 ?g5 ?_ ?g6; (case g1 => k_asm); (case g2 => (intro p hp; walk_at "GSUBL3")); (case g3 => omega); (case g4 => omega); (case g5 => omega); (case g6 => with_unfolding_all rfl); k_whole)
        | (refine' grid_outerN ?g1 ?g2 ?g4 ?g5 ?_ ?g6; (case g1 => k_asm); (case g2 => k_mem); (case g4 => omega); (case g5 => omega); (case g6 => with_unfolding_all rfl); k_whole)
      k_with "store" => first
        | (refine' set_TN P ?g1 ?g2 hoT ?g3 ?g4 ?g5 ?_; (case g1 => k_asm); (case g2 => k_asm); (case g3 => omega); (case g4 => omega); (case g5 => omega); k_whole; intro h' F' N'; (try k_sweep))
        | (refine' set_WN P ?g1 ?g2 hoW ?g3 ?g4 ?g5 ?_; (case g1 => k_asm); (case g2 => k_asm); (case g3 => omega); (case g4 => omega); (case g5 => omega); k_whole; intro h' F' N'; (try k_sweep))
      (try k_fold)
      walk_at "STEPSL3"
      · rename updF _ _ _ _ _ _ = true => hT
        rename (i : Int) = 0 => h0
        have h0' : i = 0 := by omega
        rw [updF_self, hsl] at hT
        refine kst_end ⟨updF c2.T i j (lynR (Txt.slice wd (some (i : Int)) (some (j : Int))).cps.toList), updF c2.W i j 1, updF c2.t i j _⟩ (by assumption) (by assumption) sub_l sub_r gLed_fst2 trivial (fun _ h => nomatch h) ?_ ?_
        · intro z hz _ h3
          simp only [List.contains_cons, List.contains_nil, Bool.or_false, Bool.or_eq_false_iff, beq_eq_false_iff_ne, ne_eq] at hz h3
          simp [kstB, hz, h3]
        · rw [List.length_append, List.length_singleton, ← hi]
          refine col_down (col_W (col_T kInv2 _) 1) hij (by omega) (by show updF _ _ _ _ _ _ = _; rw [updF_self, hsl]) ?_
          subst h0'
          rw [M.zero j (by omega) (by omega), hT]; rfl
      · rename updF _ _ _ _ _ _ = true => hT
        rename (i : Int) ≠ 0 => h0
        have h0' : 0 < i := by omega
        rw [updF_self, hsl] at hT
        rename Fr _ _ _ _ => lF'
        rename News _ _ _ _ => lN'
        rename IsRange _ _ _ _ _ _ _ _ => rgX
        with_unfolding_all refine' kst_range (σ := GS) (fun c => gLed k ta wa fix (VB c.T) (VI c.W c.t) ++ (kown ++ kown2)) (fun _ => []) (fun _ => True) [] (fun pre c => Col wd.cps.toList Mf j i c.T c.W (cnt wd.cps.toList Mf i j pre.length) ∧ c.T i j = lynR (seg wd.cps.toList i j)) ⟨updF c2.T i j (lynR (Txt.slice wd (some (i : Int)) (some (j : Int))).cps.toList), c2.W, c2.t⟩ (by rfl) rgX ?sm ?rs lF' lN' trivial (fun _ h => nomatch h) ?kp3 ?turn ?done
        case kp3 => exact ⟨by rw [List.length_nil, cnt_zero]; exact col_T kInv2 _, by show updF _ _ _ _ _ _ = _; rw [updF_self, hsl]⟩
        case sm => exact small_one (by omega) (by omega) (by omega) (by omega)
        case rs => exact rangeSize_nat _ _
        all_goals (try clear lF' lN')
        case done =>
          intro c3 ku3 kh3 ktk3 kFacts3 kInv3 kFr3 kNews3
          (try k_fold)
          walk_at "STEPSL3"
          rw [rangeKs_length, show ((i : Int) - 0).toNat = i by omega] at kInv3
          refine kst_end c3 (by assumption) (by assumption) sub_l sub_r gLed_fst2 trivial (fun _ h => nomatch h) ?_ ?_
          · intro z hz _ h3
            simp only [List.contains_cons, List.contains_nil, Bool.or_false, beq_eq_false_iff_ne, ne_eq] at hz h3
            simp [kstB, hz, h3]
          · rw [List.length_append, List.length_singleton, ← hi]
            exact col_down kInv3.1 hij (by omega) kInv3.2 (cnt_end M h0' hij (by omega) hT)
        case turn =>
          intro c3 kpre3 kk3 kt3 ku3 kh3 ktk3 kown3 kEq3 kLt3 kOff3 kFacts3 kInv3 kFr3 kNews3
          obtain ⟨g, hg⟩ : ∃ g : Nat, g = kpre3.length := ⟨_, rfl⟩
          have hkk3 : kk3 = (g : Int) := by omega
          subst hkk3
          rw [← hg] at kInv3
          have hgi : g < i := by omega
          have hsl1 := seg_slice (x := wd) (i := g) (j := i) (by omega) (by omega)
          have hWg := (kInv3.1.ok g i hgi (by omega) (.inl hij)).2
          have hWij := kInv3.1.at' hij (by omega)
          have hoW3 : ∀ p ∈ (kown ++ kown2) ++ kown3, ∀ b, b < k → p.1 ≠ wa b := fun p hp => (List.mem_append.mp hp).elim (hoW p) (own_off (VI c2.W c2.t) kOff3 (fun p hp => List.mem_append_left _ (List.mem_append_right _ (List.mem_append_right _ hp))) p)
          rw [List.append_assoc] at kNews3
          k_with "store" => (refine' set_WN P ?g1 ?g2 hoW3 ?g3 ?g4 ?g5 ?_; (case g1 => k_asm); (case g2 => k_asm); (case g3 => omega); (case g4 => omega); (case g5 => omega); k_whole; intro h' F' N'; (try k_sweep))
          (try k_fold)
          walk_at "STEPSL3"
          · rename 0 < c3.W g i => hpos
            rename 0 ≤ scmp _ _ => hge
            rw [hsl, hsl1] at hge
            have hM : Mf g i = true := by
              rw [hWg] at hpos
              cases hq : Mf g i with
              | true => rfl
              | false => rw [hq] at hpos; exact absurd hpos (by decide)
            refine kst_end ⟨c3.T, updF c3.W i j (c3.W i j + c3.W g i), updF c3.t i j _⟩ (by assumption) (by assumption) sub_l sub_r gLed_fst2 trivial (fun _ h => nomatch h) ?_ ?_
            · intro z hz _ h3
              simp only [ne_eq] at hz
              simp [kstB, hz]
            · rw [List.length_append, List.length_singleton, ← hg]
              refine ⟨?_, kInv3.2⟩
              have e : c3.W i j + c3.W g i = cnt wd.cps.toList Mf i j (g + 1) := by
                rw [cnt_hit M hM hge, hWij, hWg, hM]; rfl
              rw [← e]
              exact col_W kInv3.1 _
          all_goals (
            have hmiss : ¬ (Mf g i = true ∧ 0 ≤ scmp (seg wd.cps.toList g i) (seg wd.cps.toList i j)) := by
              rintro ⟨q1, q2⟩
              first
                | (rename ¬ 0 ≤ scmp _ _ => hlt; rw [hsl, hsl1] at hlt; exact hlt q2)
                | (rename ¬ 0 < c3.W g i => hlt; rw [hWg, q1] at hlt; exact hlt (by decide))
            refine kst_end c3 (by assumption) (by assumption) sub_l sub_r gLed_fst2 trivial (fun _ h => nomatch h) ?_ ?_
            · intro z hz _ h3
              simp only [ne_eq] at hz
              simp [kstB, hz]
            · rw [List.length_append, List.length_singleton, ← hg, cnt_miss hmiss]
              exact kInv3)
      · rename updF _ _ _ _ _ _ = false => hT
        rw [updF_self, hsl] at hT
        refine kst_end ⟨updF c2.T i j (lynR (Txt.slice wd (some (i : Int)) (some (j : Int))).cps.toList), c2.W, c2.t⟩ (by assumption) (by assumption) sub_l sub_r gLed_fst2 trivial (fun _ h => nomatch h) ?_ ?_
        · intro z hz _ h3
          simp only [List.contains_cons, List.contains_nil, Bool.or_false, Bool.or_eq_false_iff, beq_eq_false_iff_ne, ne_eq] at hz h3
          simp [kstB, hz, h3]
        · rw [List.length_append, List.length_singleton, ← hi]
          refine col_down (col_T kInv2 _) hij (by omega) (by show updF _ _ _ _ _ _ = _; rw [updF_self, hsl]) ?_
          rw [M.no i j hij (by omega) hT]; rfl
end PartL3
end Mine

namespace Mine
section PartK1
theorem freshK1 : True := by
  w_top off
  k_with_none
  trivial
section
variable {prog : Program} {w : World} {A : Around} {h₀ : Heap} {L : Addr} {m : Str → Option Value} {env : Env} {elt : PySem.Expr} {x : Str} {scope : Scope} {cl : List (Str × Addr)} {s : Shared} {S : List (Addr × Obj) → Prop} {Fin : List Value → List (Addr × Obj) → Prop} {news : List (Addr × Obj)}
/-- a comprehension over a range whose element is a new object each time -/
theorem kgr_range {n : Nat} {a : Int} (Rel : Obj → Prop)
    (turn : ∀ k t I oI C oC D m₂ ys h tk (made : List (Addr × Obj)) (E' : Value → Shared → Prop), a ≤ k → k < a + (n : Int) → LCg.NsObj oC m₂ → m₂ x = some (.int k t) → Fr h₀ L h m → News h₀ L h ((I, oI) :: (C, oC) :: (D, LCg.lst ys) :: (made ++ news)) → (∀ p ∈ made ++ news, p.1 ≠ I ∧ p.1 ≠ C ∧ p.1 ≠ D) → ((@Ne Nat I C) ∧ (@Ne Nat I D) ∧ (@Ne Nat C D)) →
      wpAny (model prog w) A (eval elt (compEnvC scope cl C env)) (LCg.CompEnd h₀ L m { s with heap := h, toks := tk } I oI C oC D (LCg.lst ys) S (fun y news' => ∃ r o, y = .ref r ∧ news' = (r, o) :: (made ++ news) ∧ Rel o ∧ ∀ p ∈ made ++ news, p.1 ≠ r)) E' { s with heap := h, toks := tk })
    (fin : ∀ made : List (Addr × Obj), made.length = n → (∀ p ∈ made, Rel p.2) → (made.map (·.1)).Nodup → (∀ p ∈ made, ∀ q ∈ news, q.1 ≠ p.1) → Fin (made.reverse.map fun p => Value.ref p.1) (made ++ news)) :
    LCg.CompRest prog w A h₀ L m env elt x scope cl s S (fun i v => ∃ t, v = .int (a + (i : Int)) t) Fin n 0 [] news := by
  have key : ∀ (j i : Nat) (made : List (Addr × Obj)), i + j = n → made.length = i → (∀ p ∈ made, Rel p.2) → (made.map (·.1)).Nodup → (∀ p ∈ made, ∀ q ∈ news, q.1 ≠ p.1) →
      LCg.CompRest prog w A h₀ L m env elt x scope cl s S (fun i v => ∃ t, v = .int (a + (i : Int)) t) Fin j i (made.reverse.map fun p => Value.ref p.1) (made ++ news) := by
    intro j
    induction j with
    | zero =>
      intro i made hi hl hr hn hd
      exact LCg.CompRest.zero (fin made (by omega) hr hn hd)
    | succ j ih =>
      intro i made hi hl hr hn hd
      refine LCg.CompRest.succ ?_
      intro v I oI C oC D m₂ h tk E' hv hC hx F N off ne
      obtain ⟨t, hv'⟩ := hv
      rw [hv'] at hx
      refine wpAny_mono (turn _ t I oI C oC D m₂ _ h tk made E' (by omega) (by omega) hC hx F N (fun p hp => off.mem p hp) ne) (fun y s₂ hq => ?_) fun _ _ e => e
      obtain ⟨h', tk', nw, e, F', N', off', hS, r, o, hy, hn', hRel, hnew⟩ := hq
      rw [hn'] at N' off' hS
      refine ⟨h', tk', _, e, F', N', off', hS, ?_⟩
      have e2 : (made.reverse.map fun p => Value.ref p.1) ++ [y] = (((r, o) :: made).reverse.map fun p => Value.ref p.1) := by
        rw [hy]; simp
      dsimp only
      rw [e2]
      refine ih (i + 1) ((r, o) :: made) (by omega) (by simp [hl]) ?_ ?_ ?_
      · intro p hp
        rcases List.mem_cons.mp hp with rfl | hp
        · exact hRel
        · exact hr p hp
      · rw [List.map_cons, List.nodup_cons]
        refine ⟨fun q => ?_, hn⟩
        obtain ⟨p, hp, e⟩ := List.mem_map.mp q
        exact hnew p (List.mem_append_left _ hp) e
      · intro p hp q hq
        rcases List.mem_cons.mp hp with rfl | hp
        · exact hnew q (List.mem_append_right _ hq)
        · exact hd p hp q hq
  simpa using key n 0 [] (by omega) rfl (fun _ h => nomatch h) List.nodup_nil (fun _ h => nomatch h)
end
end PartK1
end Mine

namespace Mine
section PartK1b
theorem freshK1b : True := by
  w_top off
  k_with_none
  trivial
/-- the i-th row's address, of rows kept newest first -/
def adr (made : List (Addr × Obj)) (i : Nat) : Addr := (made.reverse.getD i (0, { cls := .none })).1
theorem adr_mem {made : List (Addr × Obj)} {i : Nat} (hi : i < made.length) : ∃ o, (adr made i, o) ∈ made ∧ made.reverse[i]? = some (adr made i, o) := by
  have h : i < made.reverse.length := by simpa using hi
  have e : made.reverse[i]? = some made.reverse[i] := List.getElem?_eq_getElem h
  refine ⟨(made.reverse[i]).2, ?_, ?_⟩
  · have e2 : (adr made i, (made.reverse[i]).2) = made.reverse[i] := by
      unfold adr; rw [List.getD_eq_getElem?_getD, e]; rfl
    rw [e2]
    exact List.mem_reverse.mp (List.getElem_mem h)
  · rw [e]; unfold adr; rw [List.getD_eq_getElem?_getD, e]; rfl
theorem refs_adr {made : List (Addr × Obj)} {k : Nat} (hl : made.length = k) : (made.reverse.map fun p => Value.ref p.1) = rowRefs k (adr made) := by
  apply List.ext_getElem?
  intro i
  rw [List.getElem?_map]
  by_cases hi : i < k
  · obtain ⟨o, _, e⟩ := adr_mem (made := made) (i := i) (by omega)
    rw [e]
    simp [rowRefs, hi]
  · rw [List.getElem?_eq_none (by simp; omega), List.getElem?_eq_none (by simp [rowRefs]; omega)]; rfl
theorem grid_made {made : List (Addr × Obj)} {k : Nat} (hl : made.length = k) (V : Nat → Nat → Value) (hV : ∀ i o, i < k → made.reverse[i]? = some (adr made i, o) → o = W.listOf ((List.range k).map (V i)).toArray 0) : ∀ p ∈ gridLed k (adr made) V, p ∈ made := by
  intro p hp
  obtain ⟨i, hi, rfl⟩ := List.mem_map.mp hp
  have hi' := List.mem_range.mp hi
  obtain ⟨o, ho, e⟩ := adr_mem (made := made) (i := i) (by omega)
  rw [← hV i o hi' e]
  exact ho
theorem adr_inj {made : List (Addr × Obj)} {k : Nat} (hl : made.length = k) (hnd : (made.map (·.1)).Nodup) : ∀ a, a < k → ∀ b, b < k → adr made a = adr made b → a = b := by
  have hr : (made.reverse.map (·.1)).Nodup := by rw [List.map_reverse]; exact (List.pairwise_reverse.mpr (hnd.imp fun h => h.symm))
  have key : ∀ a b, a < k → b < k → a < b → adr made a ≠ adr made b := by
    intro a b ha hb hab e
    obtain ⟨oa, _, ea⟩ := adr_mem (made := made) (i := a) (by omega)
    obtain ⟨ob, _, eb⟩ := adr_mem (made := made) (i := b) (by omega)
    have h1 : (made.reverse.map (·.1))[a]? = some (adr made a) := by rw [List.getElem?_map, ea]; rfl
    have h2 : (made.reverse.map (·.1))[b]? = some (adr made b) := by rw [List.getElem?_map, eb]; rfl
    have la : a < (made.reverse.map (·.1)).length := by simp; omega
    have lb : b < (made.reverse.map (·.1)).length := by simp; omega
    rw [List.getElem?_eq_getElem la] at h1
    rw [List.getElem?_eq_getElem lb] at h2
    have h3 := List.pairwise_iff_getElem.mp hr a b la lb hab
    exact h3 (by rw [Option.some.inj h1, Option.some.inj h2, e])
  intro a ha b hb e
  rcases Nat.lt_trichotomy a b with h | h | h
  · exact absurd e (key a b ha hb h)
  · exact h
  · exact absurd e.symm (key b a hb ha h)
theorem off1_mem {D : Addr} : ∀ {l : List (Addr × Obj)}, LCg.Off1 D l → ∀ p ∈ l, p.1 ≠ D
  | [], _, _, h => nomatch h
  | _ :: _, x, p, h => by
    rcases List.mem_cons.mp h with rfl | h
    · exact x.1
    · exact off1_mem x.2 p h
theorem adr_off {made : List (Addr × Obj)} {k : Nat} (hl : made.length = k) {D : Addr} (h : ∀ p ∈ made, p.1 ≠ D) : ∀ a, a < k → D ≠ adr made a := by
  intro a ha e
  obtain ⟨o, ho, _⟩ := adr_mem (made := made) (i := a) (by omega)
  exact h _ ho e.symm
theorem rows_B {made : List (Addr × Obj)} {k : Nat} (hrel : ∀ p ∈ made, p.2 = W.listOf (List.replicate k (Value.bool false)).toArray 0) : ∀ i o, i < k → made.reverse[i]? = some (adr made i, o) → o = W.listOf ((List.range k).map (VB (fun _ _ => false) i)).toArray 0 := by
  intro i o _ e
  have : o = _ := hrel _ (List.mem_reverse.mp (List.mem_of_getElem? e))
  rw [this]
  have e2 : List.replicate k (Value.bool false) = (List.range k).map (VB (fun _ _ => false) i) := by
    show _ = (List.range k).map (fun _ => Value.bool false)
    rw [List.map_const', List.length_range]
  rw [e2]
theorem rows_I {made : List (Addr × Obj)} {k : Nat} (hl : made.length = k) (hrel : ∀ p ∈ made, ∃ t, p.2 = W.listOf (List.replicate k (Value.int 0 t)).toArray 0) : ∃ t0 : Nat → Nat → Tok, ∀ i o, i < k → made.reverse[i]? = some (adr made i, o) → o = W.listOf ((List.range k).map (VI (fun _ _ => 0) t0 i)).toArray 0 := by
  have h : ∀ i : Nat, ∃ t : Tok, ∀ o, i < k → made.reverse[i]? = some (adr made i, o) → o = W.listOf (List.replicate k (Value.int 0 t)).toArray 0 := by
    intro i
    by_cases hi : i < k
    · obtain ⟨o, ho, e⟩ := adr_mem (made := made) (i := i) (by omega)
      obtain ⟨t, ht⟩ := hrel _ ho
      refine ⟨t, fun o' _ e' => ?_⟩
      rw [e] at e'
      have : o = o' := by
        have := Option.some.inj e'
        exact congrArg Prod.snd this
      rw [← this]; exact ht
    · exact ⟨0, fun _ h => absurd h hi⟩
  refine ⟨fun i _ => Classical.choose (h i), fun i o hi e => ?_⟩
  have := Classical.choose_spec (h i) o hi e
  rw [this]
  have e2 : List.replicate k (Value.int 0 (Classical.choose (h i))) = (List.range k).map (VI (fun _ _ => 0) (fun i _ => Classical.choose (h i)) i) := by
    show _ = (List.range k).map (fun _ => Value.int 0 (Classical.choose (h i)))
    rw [List.map_const', List.length_range]
  rw [e2]
theorem flat_one (v : Value) (n : Nat) : (List.replicate n [v]).flatten = List.replicate n v := by
  induction n with
  | zero => rfl
  | succ n ih => rw [List.replicate_succ, List.flatten_cons, ih, List.replicate_succ]; rfl
/-- a comprehension's turn that made one more object -/
theorem grow_end {h₀ : Heap} {L I C D : Addr} {m : Str → Option Value} {s₁ : Shared} {oI oC oD : Obj} {S : List (Addr × Obj) → Prop} {news junk : List (Addr × Obj)} {Rel : Obj → Prop} {h' : Heap} {tk : Nat} {r : Addr} {o : Obj}
    (F : Fr h₀ L h' m) (N : News h₀ L h' ((r, o) :: (junk ++ ((I, oI) :: (C, oC) :: (D, oD) :: news)))) (hlt : ∀ p ∈ junk ++ ((I, oI) :: (C, oC) :: (D, oD) :: news), p.1 < r) (off : ∀ p ∈ news, p.1 ≠ I ∧ p.1 ≠ C ∧ p.1 ≠ D) (hS : S ((r, o) :: news)) (hR : Rel o) :
    LCg.CompEnd h₀ L m s₁ I oI C oC D oD S (fun y news' => ∃ r o, y = .ref r ∧ news' = (r, o) :: news ∧ Rel o ∧ ∀ p ∈ news, p.1 ≠ r) (.ref r) { s₁ with heap := h', toks := tk } := by
  have mI : (I, oI) ∈ junk ++ ((I, oI) :: (C, oC) :: (D, oD) :: news) := List.mem_append_right _ (.head _)
  have mC : (C, oC) ∈ junk ++ ((I, oI) :: (C, oC) :: (D, oD) :: news) := List.mem_append_right _ (.tail _ (.head _))
  have mD : (D, oD) ∈ junk ++ ((I, oI) :: (C, oC) :: (D, oD) :: news) := List.mem_append_right _ (.tail _ (.tail _ (.head _)))
  have mN : ∀ p ∈ news, p ∈ junk ++ ((I, oI) :: (C, oC) :: (D, oD) :: news) := fun p hp => List.mem_append_right _ (.tail _ (.tail _ (.tail _ hp)))
  refine LCg.CompEnd.intro F N ((r, o) :: news) (fun p hp => ?_) ?_ hS ⟨r, o, rfl, rfl, hR, fun p hp => Nat.ne_of_lt (hlt p (mN p hp))⟩
  · rcases List.mem_cons.mp hp with rfl | hp
    · exact .tail _ mI
    · rcases List.mem_cons.mp hp with rfl | hp
      · exact .tail _ mC
      · rcases List.mem_cons.mp hp with rfl | hp
        · exact .tail _ mD
        · rcases List.mem_cons.mp hp with rfl | hp
          · exact .head _
          · exact .tail _ (mN p hp)
  · exact ⟨⟨(Nat.ne_of_lt (hlt _ mI)).symm, (Nat.ne_of_lt (hlt _ mC)).symm, (Nat.ne_of_lt (hlt _ mD)).symm⟩, LCg.Off3.of off⟩
section
variable {prog : Program} {w : World} {A : Around} {E : Value → Shared → Prop} {s : Shared} {env : Env} {h₀ : Heap} {target : PySem.Expr} {body : List Stmt} {Q : Flow → Shared → Prop}
/-- a loop over a made list of whatever, by an invariant over the frame's map; the ledger stays -/
theorem items_inv {I ax : Addr} {lo : Obj} {news : List (Addr × Obj)} (hm : (ax, lo) ∈ news) (hlt : ∀ p ∈ news, p.1 < I) (J : (Str → Option Value) → Prop) (vs : List Value)
    (turn : ∀ v ∈ vs, ∀ oI m₁ h tk, J m₁ → Fr h₀ env.locals h m₁ → News h₀ env.locals h ((I, oI) :: news) →
      wpAny (model prog w) A (assign target env v) (fun _ s₂ => wpAny (model prog w) A (execs body env) (UnrPostW h₀ env.locals { s with heap := h, toks := tk } [(I, oI)] (fun m' n' => n' = news ∧ J m') Q) E s₂) E { s with heap := h, toks := tk })
    (done : ∀ m₁ h tk, J m₁ → Fr h₀ env.locals h m₁ → News h₀ env.locals h news → Q .next { s with heap := h, toks := tk }) :
    ∀ m₀, J m₀ → ItemsRest prog w A E h₀ env target body Q s [(I, "list_iterator")] [(ax, lo)] (vs.map .val) m₀ news := by
  induction vs with
  | nil => exact fun m₀ hJ => ItemsRest.zero fun h tk F N => done m₀ h tk hJ F N
  | cons v r ih =>
    intro m₀ hJ
    refine ItemsRest.val fun h tk F => AllObj.cons fun oI _ => AllObj.nil fun N => ?_
    refine wpAny_mono (turn v (.head _) oI m₀ h tk hJ F N) (fun _ s₂ q => wpAny_mono q (fun f s₃ p => ?_) fun _ _ e => e) fun _ _ e => e
    have fin : UnrEndW h₀ env.locals { s with heap := h, toks := tk } [(I, oI)] (fun m' n' => n' = news ∧ J m') s₃ →
        UnrEndW h₀ env.locals { s with heap := h, toks := tk } [(I, oI)] (fun m' n' => SubL [(ax, lo)] n' ∧ ItemsRest prog w A E h₀ env target body Q s [(I, "list_iterator")] [(ax, lo)] (r.map .val) m' n') s₃ := by
      rintro ⟨h', tk', m', n', e, F', N', off, rfl, hJ'⟩
      exact ⟨h', tk', m', n', e, F', N', off, ⟨hm, trivial⟩, ih (fun v hv => turn v (.tail _ hv)) m' hJ'⟩
    cases f with
    | ret v => exact p
    | brk => exact p
    | next => exact fin p
    | cont => exact fin p
theorem items_end {I : Addr} {oI : Obj} {news : List (Addr × Obj)} {J : (Str → Option Value) → Prop} {s₁ : Shared} {L : Addr} {h' : Heap} {tk : Nat} {m' : Str → Option Value}
    (F : Fr h₀ L h' m') (N : News h₀ L h' ((I, oI) :: news)) (hlt : ∀ p ∈ news, p.1 < I) (hJ : J m') : UnrEndW h₀ L s₁ [(I, oI)] (fun m' n' => n' = news ∧ J m') { s₁ with heap := h', toks := tk } :=
  ⟨h', tk, m', news, rfl, F, N, fun p hp q hq => by rw [List.mem_singleton.mp hq]; exact Nat.ne_of_lt (hlt p hp), rfl, hJ⟩
end
end PartK1b
end Mine

namespace Mine
section PartK4
theorem freshK4 : True := by
  w_top off
  k_with_none
  trivial
local macro_rules | `(tactic| walk_at "STOPK4") => `(tactic| first | (with_reducible show wpAny _ _ (pyIter (Value.ref _)) (fun it s₂ => LoopAtV _ _ _ _ _ _ _ _ _ it s₂) _ _) | (with_reducible show wpAny _ _ (pyIter (Value.ref _)) (fun it s₂ => TurnsAt _ _ _ _ _ _ _ _ _ it s₂) _ _) | (with_reducible show wpAny _ _ (exec (Stmt.While _ _ _ _) _) _ _ _) | (with_reducible show LCg.CompSrc _ _ _ _ _ _ _ _ _ _ _ _ _ _) | (with_reducible show LCt.CompSrcT _ _ _ _ _ _ _ _ _ _ _ _ _ _ _) | (with_reducible show wpAny _ _ (exec (Stmt.For _ _ _ _ _) _) _ _ _) | (with_reducible show LCg.CompEnd _ _ _ _ _ _ _ _ _ _ _ _ _ _))
local macro_rules | `(tactic| walk_at "STEPSK4") => `(tactic| repeat' (first | (k_unfold; (try dsimp only)) | ((fail_if_success walk_at "STOPK4"); first | (k_end; wrow_close) | walk1 | (dsimp only; walk1) | (leave1; walk_say "STEP leave1"; try dsimp only)) | fail "no step"))
local macro_rules | `(tactic| k_mem) => `(tactic| first | with_reducible assumption | (refine List.mem_append_left _ ?_; k_mem) | (refine List.mem_append_right _ ?_; k_mem))
local macro_rules | `(tactic| walk_at "call ref") => `(tactic| (k_here; (with_reducible show wpAny _ _ (call (Value.ref 21) _) _ _ _); k_dflt (refine' strcoll_use ?k1 ?k2 ?k3 ?k4 ?k5 ?kK ?kd ?ku ?_; (case k1 => k_asm); (case k2 => k_asm); (case k3 => k_asm); (case k4 => k_asm); (case k5 => k_asm); (case kK => first | exact rfl | assumption); (case kd => ktr_room); (case ku => ktr_units); k_whole); intro t9 h9 tk9 F9 N9; (try dsimp only); (try k_sweep); (try k_fold)))
local macro_rules | `(tactic| walk_at "subscriptTail") => `(tactic| (k_here; first
  | ((with_reducible show wpAny _ _ (subscriptTail _ _ (Value.ref _) (Value.int ((Nat.cast _ : Int)) _)) _ _ _); k_dflt (k_extra "cell"))
  | ((with_reducible show wpAny _ _ (subscriptTail _ _ (Value.ref _) (Value.int (-1) _)) _ _ _); k_dflt (k_extra "neg"))
  | ((with_reducible show wpAny _ _ (subscriptTail _ _ (Value.ref _) (Value.int 0 _)) _ _ _); k_dflt (k_extra "zero"))
  | ((with_reducible show wpAny _ _ (subscriptTail _ _ (Value.ref _) (Value.int _ _)) _ _ _); k_dflt (k_extra "open"))))
local macro_rules | `(tactic| walk_at "eval ListComp") => `(tactic| (k_here; (with_reducible show wpAny _ _ (eval (Expr.ListComp _ [Comprehension.mk _ _ [_] _] _ _) _) _ _ _); k_dflt (refine LCt.ListComp_T (F₀ := by k_asm) (by with_unfolding_all rfl) (by decide) (by rfl) (by decide) (by rfl) ?_)))
local macro_rules | `(tactic| walk_at "GSUBK4") => `(tactic| first | with_reducible assumption | (refine List.mem_append_left _ ?_; walk_at "GSUBK4") | (refine List.mem_append_right _ ?_; walk_at "GSUBK4") | (refine List.Mem.tail _ ?_; walk_at "GSUBK4"))

structure Plain (u : List Nat) (n : Nat) (Mf : Nat → Nat → Bool) (ps : List (Nat × Nat)) : Prop where
  parts : ∀ p ∈ ps, p.1 < p.2 ∧ p.2 ≤ n ∧ Mf p.1 p.2 = true
  last : ∃ a, ps.getLast? = some (a, n) ∧ a < n ∧ ∀ k, k < n → scmp (u.drop a) (u.drop k) ≠ 1
  first : ∃ b, ps.head? = some (0, b) ∧ 0 < b ∧ b ≤ n ∧ lynR (seg u 0 b) = true ∧ ∀ j, b < j → j ≤ n → lynR (seg u 0 j) = false

theorem sum_eq {n : Nat} {W : Nat → Nat → Int} {g : Nat → Int} (h : ∀ i, i < n → W i n = g i) : (List.map (fun (i : Int) => W i.toNat n) (rangeKs 0 n)) = (List.range n).map g := by
  unfold rangeKs
  rw [List.map_map]
  apply List.map_congr_left
  intro i hi
  have := List.mem_range.mp hi
  show W ((0 : Int) + (i : Int)).toNat n = g i
  rw [show ((0 : Int) + (i : Int)).toNat = i by omega]
  exact h i this
theorem pairs_at {ts : List (Addr × Obj)} {ps : List (Nat × Nat)} (h : PairsAre ts ps) {v : Value} (hv : v ∈ refsOf ts) : ∃ a x y t u e, v = .ref a ∧ (a, tup2 (x : Nat) (y : Nat) t u e) ∈ ts ∧ (x, y) ∈ ps := by
  obtain ⟨p, hp, rfl⟩ := List.mem_map.mp hv
  obtain ⟨k, hk, e⟩ := List.mem_iff_getElem.mp hp
  have hk' : k < ps.length := by rw [← h.1]; exact hk
  obtain ⟨a, t, u, n, e2⟩ := h.2 k ps[k] (List.getElem?_eq_getElem hk')
  rw [List.getElem?_eq_getElem hk, e] at e2
  have e3 := Option.some.inj e2
  subst e3
  exact ⟨a, _, _, t, u, n, rfl, hp, List.getElem_mem hk'⟩

theorem drop_slice {x : Str} {i : Nat} (h : i ≤ x.cps.toList.length) : (Txt.slice x (some (i : Int)) none).cps.toList = x.cps.toList.drop i := by
  rw [slice_sn (by omega) (by omega)]; rfl
theorem filt_mem {p : Int → Bool} {k : Int} : ∀ (ks acc : List Int), (k ∈ ks.foldl (fun l k => if p k = true then l ++ [k] else l) acc ↔ k ∈ acc ∨ (k ∈ ks ∧ p k = true))
  | [], acc => by simp
  | x :: r, acc => by
    rw [List.foldl_cons, filt_mem r]
    by_cases h : p x = true
    · rw [if_pos h]
      simp only [List.mem_append, List.mem_cons, List.not_mem_nil, or_false]
      constructor
      · rintro ((q | rfl) | q)
        · exact .inl q
        · exact .inr ⟨.inl rfl, h⟩
        · exact .inr ⟨.inr q.1, q.2⟩
      · rintro (q | ⟨rfl | q, q2⟩)
        · exact .inl (.inl q)
        · exact .inl (.inr rfl)
        · exact .inr ⟨q, q2⟩
    · rw [if_neg h]
      simp only [List.mem_cons]
      constructor
      · rintro (q | q)
        · exact .inl q
        · exact .inr ⟨.inr q.1, q.2⟩
      · rintro (q | ⟨rfl | q, q2⟩)
        · exact .inl q
        · exact absurd q2 h
        · exact .inr ⟨q, q2⟩
theorem pairs_get {ts : List (Addr × Obj)} {ps : List (Nat × Nat)} (h : PairsAre ts ps) {k : Nat} {x y : Nat} (hk : ps[k]? = some (x, y)) : ∃ a t u e, (refsOf ts)[k]? = some (.ref a) ∧ (a, tup2 (x : Nat) (y : Nat) t u e) ∈ ts := by
  obtain ⟨a, t, u, n, e2⟩ := h.2 k _ hk
  exact ⟨a, t, u, n, by rw [List.getElem?_map, e2]; rfl, List.mem_of_getElem? e2⟩
theorem last_item {prog : Program} {w : World} {A : Around} {E : Value → Shared → Prop} {s : Shared} {h₀ : Heap} {L : Addr} {news : List (Addr × Obj)} {value slice : PySem.Expr} {l : Addr} {vs : List Value} {e : Nat} {u : Tok} {v : Value} {Q : Value → Shared → Prop}
    (N : News h₀ L s.heap news) (hm : (l, PySem.W.listOf vs.toArray e) ∈ news) (hx : vs[vs.length - 1]? = some v) (h : Q v s)
    (hs : subscripted slice false (.ref l) (.int (-1) u) = operate [.ref l, .int (-1) u] (getItem (.ref l) (.int (-1) u)) := by with_unfolding_all rfl) :
    wpAny (model prog w) A (subscriptTail value slice (.ref l) (.int (-1) u)) Q E s := by
  have hl : s.heap.IsList l vs.toArray := PySem.IsL.isList (n := e) (N _ hm).1
  have hpos : 0 < vs.length := by
    rcases Nat.eq_zero_or_pos vs.length with h | h
    · have : vs = [] := List.length_eq_zero_iff.mp h
      rw [this] at hx; cases hx
    · exact h
  refine tail_any hl.typeIs slot_list_getitem.lookup (wpAny_getItem_list_neg hl (by decide) (by rw [List.size_toArray]; omega) (by decide) ?_ h) hs
  rw [List.size_toArray, show ((-1 : Int) + (vs.length : Int)).toNat = vs.length - 1 by omega]
  simpa using hx

theorem law_rest3 (w : World) (mean : ExcName → Option Value) (mg mb : Str → Option Value) (wd : Str) (tw : Tok) (nums : List Int) (ws : List Value) (Dn : Addr) (eN : Nat) (hI : IntsAre ws nums) (hn3 : 3 ≤ nums.length) (hn11 : nums.length ≤ 11) (n k : Nat) (hwl : wd.length = n) (hnl : nums.length = n) (hkn : k = n + 1)
    (fix : List (Addr × Obj)) (ta wa : Nat → Addr) (cA cS cT cW tb wy : Addr) (oS oT oW : Obj) (eT eW : Nat) (tS : Tok)
    (hS : (cS, oS) ∈ fix) (dS : oS.data = .cell (some (.int (n : Int) tS))) (hT : (cT, oT) ∈ fix) (dT : oT.data = .cell (some (.ref tb))) (hW : (cW, oW) ∈ fix) (dW : oW.data = .cell (some (.ref wy)))
    (htb : (tb, PySem.W.listOf (rowRefs k ta).toArray eT) ∈ fix) (hwy : (wy, PySem.W.listOf (rowRefs k wa).toArray eW) ∈ fix) (hDn : (Dn, PySem.W.listOf ws.toArray eN) ∈ fix) (P : Apart k ta wa fix) (Mf : Nat → Nat → Bool)
    (T : Nat → Nat → Bool) (W : Nat → Nat → Int) (t : Nat → Nat → Tok) (hTW : ∀ a b, a < b → b ≤ n → T a b = lynR (seg wd.cps.toList a b) ∧ W a b = (Mf a b).toInt)
    (hsum : ((List.range n).map fun i => (Mf i n).toInt).sum = 1) (hPl : ∀ ps, OutInv (seqAt nums) nums.length ps nums.length → Plain wd.cps.toList n Mf ps)
    (dp un : Nat) (gd : Option (List Code)) (L a : Addr) (ccd : Value) (outer : List Env) (A₀ : Around) (base h₀ : Heap) (m₀ : Str → Option Value) (hm1 : m₀ (Str.ofString "word") = some (.str wd tw)) (hm2 : m₀ (Str.ofString "numbers") = some (.ref Dn)) (s : Shared) (Q : Flow → Shared → Prop) (E : Value → Shared → Prop)
    (B : Below A₀ base outer h₀) (F : Fr h₀ L s.heap m₀) (X : (hd.heap_39 w.params).In h₀)
    (N : News h₀ L s.heap (gLed k ta wa fix (VB T) (VI W t)))
    (Tp : Top hd.view_39 (looseW hd.view_39 []) mean mg mb h₀) (hdp : dp + 20 < recursionLimit) (hu : un + 160 < cLine) (hE : PassesOwn (model PySem.Challenge.rw_gq5002_01.row.prog w) (ktrTop dp un gd (Str.ofString "law") lawScope L a ccd (lawCl cA cS cT cW) outer) (envX (Str.ofString "law") lawScope L a ccd (lawCl cA cS cT cW)) E)
    (h : ∀ m' h' tk', Fr h₀ L h' m' → Q (.ret (.bool true)) { s with heap := h', toks := tk' }) :
    wpAny (model PySem.Challenge.rw_gq5002_01.row.prog w) (ktrTop dp un gd (Str.ofString "law") lawScope L a ccd (lawCl cA cS cT cW) outer) (execs (lawBody.drop 7) (envX (Str.ofString "law") lawScope L a ccd (lawCl cA cS cT cW))) Q E s := by
  have hMk := kstMark
  have hfill : (PySem.Challenge.rw_gq5002_01 = PySem.Challenge.rw_gq5002_01 ∧ hd.heap_39 = hd.heap_39) := by k_fill; exact ⟨rfl, rfl⟩
  clear hfill
  have hul : wd.cps.toList.length = n := by rw [← hwl]; simp [Str.length]
  obtain ⟨m, rfl⟩ : ∃ m : Str → Option Value, m₀ = fun y => if y = Str.ofString "word" then some (.str wd tw) else if y = Str.ofString "numbers" then some (.ref Dn) else m y := ⟨m₀, by
    funext y; by_cases hy : y = Str.ofString "word"
    · rw [if_pos hy, hy, hm1]
    · rw [if_neg hy]; by_cases hy : y = Str.ofString "numbers"
      · rw [if_pos hy, hy, hm2]
      · rw [if_neg hy]⟩
  clear hm1 hm2
  obtain ⟨sc, hsc⟩ : ∃ sc, sc = lawScope := ⟨_, rfl⟩
  rw [← hsc] at hE ⊢
  dsimp only [lawScope, PySem.Challenge.rw_gq5002_01, PySem.Challenge.pw_gq5002_01] at hsc
  subst hsc
  dsimp only [lawBody, PySem.Challenge.rw_gq5002_01, PySem.Challenge.pw_gq5002_01, List.drop]
  show wpAny (model PySem.Challenge.rw_gq5002_01.row.prog w) _ _ _ _ _
  k_with "cell" => first
    | (refine' grid_innerN (ta := ta) (V := VB _) ?g1 ?g2 ?g3 ?g4 ?g5 ?_ ?g6; (case g1 => k_asm); (case g2 => (intro p hp; walk_at "GSUBK4")); (case g3 => omega); (case g4 => omega); (case g5 => omega); (case g6 => with_unfolding_all rfl); k_whole)
    | (refine' grid_innerN (ta := wa) (V := VI _ _) ?g1 ?g2 ?g3 ?g4 ?g5 ?_ ?g6; (case g1 => k_asm); (case g2 => (intro p hp; walk_at "GSUBK4")); (case g3 => omega); (case g4 => omega); (case g5 => omega); (case g6 => with_unfolding_all rfl); k_whole)
    | (refine' grid_outerN ?g1 ?g2 ?g4 ?g5 ?_ ?g6; (case g1 => k_asm); (case g2 => k_mem); (case g4 => omega); (case g5 => omega); (case g6 => with_unfolding_all rfl); k_whole)
  (try k_fold)
  walk_at "STEPSK4"
  rename Fr _ _ _ _ => lF'
  rename News _ _ _ _ => lN'
  rename IsRange _ _ _ _ _ _ _ _ => rgX
  refine LCg.CompSrc.range (n := n) (by rfl) lF' lN' rgX ?sm ?rs ?sz ?_
  case sm => exact small_one (by omega) (by omega) (by omega) (by omega)
  case rs => rw [rangeSize_nat]; omega
  case sz => (rw [PySem.sizeLine_eq]; omega)
  intro g'
  refine' kcf_range (fun i => W i.toNat n) (fun k' t' I' oI' C' oC' D' m' ys' h' tk' E' hlo' hhi' hC' hx' F' N' off' ne' hMark' => ?turn) ?fin
  case turn =>
    clear lF' lN' rgX
    obtain ⟨i, rfl⟩ := Int.eq_ofNat_of_zero_le hlo'
    (try k_fold)
    walk_at "STEPSK4"
    rename Fr _ _ _ _ => F9
    rename News _ _ _ _ => N9
    exact LCg.CompEnd.intro F9 N9 _ (fun p hp => hp) off' trivial ⟨rfl, _, rfl⟩
  case fin =>
    clear lF' lN' rgX
    intro ys hys
    walk_at "STEPSK4"
    · rename _ ≠ (1 : Int) => hne
      rw [sum_eq (g := fun i => (Mf i n).toInt) (fun i hi => (hTW i n hi (by omega)).2)] at hne
      exact absurd hsum hne
    rename Fr _ _ _ _ => lF'
    rename News _ _ _ _ => lN'
    k_dflt (refine' duval_use (hm := ?k0) hI (by omega) ?k1 ?k2 ?k3 ?k4 ?k5 ?kK ?kd ?ku ?_)
    case k1 => k_asm
    case k2 => exact lF'
    case k3 => k_asm
    case k4 => exact lN'
    case k0 => exact .tail _ (List.mem_append_left _ hDn)
    case k5 => k_asm
    case kK => rfl
    case kd => ktr_room
    case ku => ktr_units
    intro r ts ps eP h7 tk7 hOut hPairs F7 N7
    obtain ⟨aL, hlast, haL, hmin⟩ := (hPl ps hOut).last
    obtain ⟨bF, hfirst, hb0, hbn, hbl, hlong⟩ := (hPl ps hOut).first
    rw [List.getLast?_eq_getElem?] at hlast
    rw [List.head?_eq_getElem?] at hfirst
    obtain ⟨pL, tL, uL, eL, hgL, hmL⟩ := pairs_get hPairs hlast
    obtain ⟨pF, tF, uF, eF, hgF, hmF⟩ := pairs_get hPairs hfirst
    rw [← hPairs.1, ← show (refsOf ts).length = ts.length from List.length_map ..] at hgL
    dsimp only [tup2] at hmL hmF
    k_with "zero" => (refine' grid_outerN (i := 0) ?g1 ?g2 ?g4 ?g5 ?_ ?g6; (case g1 => k_asm); (case g2 => k_mem); (case g4 => omega); (case g5 => omega); (case g6 => with_unfolding_all rfl); k_whole)
    k_with "open" => (refine' grid_inner (ta := ta) (V := VB _) ?g1 ?g2 ?g3 ?g0 ?g4 ?g5 ?_ ?g6; (case g1 => k_asm); (case g2 => (intro p hp; walk_at "GSUBK4")); (case g3 => omega); (case g0 => omega); (case g4 => omega); (case g5 => omega); (case g6 => with_unfolding_all rfl); k_whole)
    k_with "neg" => (refine' last_item ?g1 ?g2 hgL ?_ ?g6; (case g1 => k_asm); (case g2 => k_mem); (case g6 => with_unfolding_all rfl); k_whole)
    k_with "zero" => (refine' any_item ?g1 ?g2 (by decide) (by decide) hgF ?_ ?g6; (case g1 => k_asm); (case g2 => k_mem); (case g6 => with_unfolding_all rfl); k_whole)
    clear lF' lN'
    (try k_fold)
    walk_at "STEPSK4"
    rename Fr _ _ _ _ => lF'
    with_unfolding_all refine' For_turns lF' ?_
    (try k_fold)
    walk_at "STEPSK4"
    rename Fr _ _ _ _ => lF'
    rename News _ _ _ _ => lN'
    refine iter_listTurns (by rfl) lF' lN' (.head _) rfl rfl ?_
    intro I hltI
    refine items_inv (.head _) hltI (fun m₁ => ∃ u : Str → Option Value, m₁ = fun y => if [Str.ofString "i", Str.ofString "j"].contains y then u y else if y = Str.ofString "parts" then some (.ref r) else if y = Str.ofString "word" then some (.str wd tw) else if y = Str.ofString "numbers" then some (.ref Dn) else m y) (refsOf ts) ?turn ?done _ ⟨fun y => if y = Str.ofString "parts" then some (.ref r) else if y = Str.ofString "word" then some (.str wd tw) else if y = Str.ofString "numbers" then some (.ref Dn) else m y, ?ini⟩
    case ini => exact funext fun y => (ite_self _).symm
    all_goals (clear lF' lN')
    case turn =>
      rintro v hv oI m₁ h8 tk8 ⟨u, rfl⟩ F8 N8
      obtain ⟨a8, x8, y8, t8, u8, e8, rfl, hm8, hp8⟩ := pairs_at hPairs hv
      obtain ⟨b1, b2, b3⟩ := (hPl ps hOut).parts _ hp8
      dsimp only at b1 b2 b3
      (try k_fold)
      walk_at "STEPSK4"
      · rename W x8 y8 ≠ 1 => hne
        exact absurd (by rw [(hTW x8 y8 b1 b2).2, b3]; rfl) hne
      · refine items_end (by assumption) (by assumption) hltI ⟨fun y => if y = Str.ofString "j" then some (.int (y8 : Int) u8) else if y = Str.ofString "i" then some (.int (x8 : Int) t8) else u y, ?_⟩
        funext y
        by_cases q1 : y = Str.ofString "j"
        · subst q1; rfl
        · by_cases q2 : y = Str.ofString "i"
          · subst q2; rfl
          · have q3 : [Str.ofString "i", Str.ofString "j"].contains y = false := by simp [q1, q2]
            simp only [q1, q2, q3, if_false, Bool.false_eq_true]
    case done =>
      rintro m₁ h8 tk8 ⟨u, rfl⟩ F8 N8
      (try k_fold)
      walk_at "STEPSK4"
      rename Fr _ _ _ _ => lF'
      k_dflt (with_unfolding_all refine' For_invVF lF' ?k1 ?k2 ?_; (case k1 => exact rfl); (case k2 => exact rfl); k_whole)
      (try k_fold)
      walk_at "STEPSK4"
      rename Fr _ _ _ _ => lF'
      rename News _ _ _ _ => lN'
      rename IsRange _ _ _ _ _ _ _ _ => rgX
      with_unfolding_all refine' kst_range (σ := Unit) (fun _ => (r, PySem.W.listOf (refsOf ts).toArray eP) :: (ts ++ gLed k ta wa fix (VB T) (VI W t))) (fun _ => []) (fun _ => True) [] (fun _ _ => True) () (by rfl) rgX ?sm9 ?rs9 lF' ?kn9 trivial (fun _ h => nomatch h) trivial ?turn9 ?done9
      case kn9 =>
        refine kst_newsOf lN' fun p hp => ?_
        rcases List.mem_cons.mp hp with h | h
        · exact h ▸ .head _
        · rcases List.mem_append.mp h with h | h
          · exact .tail _ (List.mem_append_left _ h)
          · exact .tail _ (List.mem_append_right _ (.tail _ h))
      case sm9 => exact small_one (by omega) (by omega) (by omega) (by omega)
      case rs9 => exact rangeSize_nat _ _
      all_goals (try clear lF' lN')
      case turn9 =>
        intro kc kpre kk kt ku kh ktk kown kEq kLt kOff kFacts kInv kFr kNews
        obtain ⟨q, hq⟩ : ∃ q : Nat, q = kpre.length := ⟨_, rfl⟩
        have hkk : kk = (q : Int) := by omega
        subst hkk
        have hqn : q < n := by omega
        (try k_fold)
        walk_at "STEPSK4"
        · rename scmp _ _ = 1 => hbad
          rw [drop_slice (by omega), drop_slice (by omega)] at hbad
          exact absurd hbad (hmin q hqn)
        · refine kst_end () (by assumption) (by assumption) (fun p hp => List.mem_append_left _ hp) (fun p hp => List.mem_append_right _ hp) rfl trivial (fun _ h => nomatch h) ?_ trivial
          intro z hz _ h3
          simp only [ne_eq] at hz
          simp [kstB, hz]
      case done9 =>
        intro kc ku kh ktk kFacts kInv kFr kNews
        (try k_fold)
        walk_at "STEPSK4"
        rename Fr _ _ _ _ => lF'
        rename News _ _ _ _ => lN'
        rename IsRange _ _ _ _ _ _ _ _ => rgX
        refine LCt.CompSrcT.range (n := n) (by rfl) lF' lN' rgX ?sm7 ?rs7 ?sz7 ?_
        case sm7 => exact small_one (by omega) (by omega) (by omega) (by omega)
        case rs7 => rw [rangeSize_nat]; omega
        case sz7 => (rw [PySem.sizeLine_eq]; omega)
        intro g''
        refine' kci_range (fun l k => if T 0 k.toNat = true then l ++ [k] else l) (fun k' t' I' oI' C' oC' D' m' ys' l' h' tk' E' hlo' hhi' hI' hC' hx' F' N' off' ne' hMark' => ?turn7) ?fin7 ?grow7
        case grow7 =>
          intro l k'
          dsimp only
          split
          · simp
          · omega
        case turn7 =>
          clear lF' lN' rgX
          (try k_fold)
          walk_at "STEPSK4"
          · rename T 0 _ = true => hTt
            rename Fr _ _ _ _ => F9
            rename News _ _ _ _ => N9
            exact LCg.CompEnd.intro F9 N9 _ (fun p hp => hp) off' trivial ⟨rfl, k', t', rfl, if_pos hTt⟩
          · rename T 0 _ = false => hTt
            rename Fr _ _ _ _ => F9
            rename News _ _ _ _ => N9
            exact LCg.CompEnd.intro F9 N9 _ (fun p hp => hp) off' trivial ⟨rfl, if_neg (by rw [hTt]; exact Bool.false_ne_true)⟩
        case fin7 =>
          clear lF' lN' rgX
          intro ys hys hyl
          have hbm : (bF : Int) ∈ (rangeKs 1 n).foldl (fun l k => if T 0 k.toNat = true then l ++ [k] else l) [] := by
            rw [filt_mem (p := fun k => T 0 k.toNat)]
            refine .inr ⟨?_, ?_⟩
            · unfold rangeKs
              exact List.mem_map.mpr ⟨bF - 1, List.mem_range.mpr (by omega), by omega⟩
            · rw [Int.toNat_natCast, (hTW 0 bF hb0 hbn).1]; exact hbl
          walk_at "STEPSK4"
          rename Fr _ _ _ _ => lF'
          rename News _ _ _ _ => lN'
          k_dflt (refine' max_list_N (by rfl) lF' lN' (News.isList lN' (.head _)) hys (List.length_pos_of_mem hbm) ?_)
          intro h9 M9 t9 tk9 F9 N9 hM hMax
          have hMb : M9 = (bF : Int) := by
            rw [filt_mem (p := fun k => T 0 k.toNat)] at hM
            rcases hM with q | ⟨q1, q2⟩
            · cases q
            · have q3 := mem_rangeKs q1
              have q4 := hMax _ hbm
              rw [(hTW 0 M9.toNat (by omega) (by omega)).1] at q2
              by_cases hlt : (bF : Int) < M9
              · rw [hlong M9.toNat (by omega) (by omega)] at q2; cases q2
              · omega
          subst hMb
          clear lF' lN' hM hMax
          (try k_fold)
          walk_at "STEPSK4"
          rw [show ((n : Int) == (n : Int)) = true from beq_self_eq_true _]
          exact h _ _ _ (by k_asm)
end PartK4
end Mine

namespace Mine
section PartK3
theorem freshK3 : True := by
  w_top off
  k_with_none
  trivial
local macro_rules | `(tactic| walk_at "STOPK3") => `(tactic| first | (with_reducible show wpAny _ _ (pyIter (Value.ref _)) (fun it s₂ => LoopAtV _ _ _ _ _ _ _ _ _ it s₂) _ _) | (with_reducible show wpAny _ _ (exec (Stmt.While _ _ _ _) _) _ _ _) | (with_reducible show LCg.CompSrc _ _ _ _ _ _ _ _ _ _ _ _ _ _) | (with_reducible show wpAny _ _ (exec (Stmt.For _ _ _ _ _) _) _ _ _) | (with_reducible show LCg.CompEnd _ _ _ _ _ _ _ _ _ _ _ _ _ _))
local macro_rules | `(tactic| walk_at "STEPSK3") => `(tactic| repeat' (first | (k_unfold; (try dsimp only)) | ((fail_if_success walk_at "STOPK3"); first | (k_end; wrow_close) | walk1 | (dsimp only; walk1) | (leave1; walk_say "STEP leave1"; try dsimp only)) | fail "no step"))
local macro_rules | `(tactic| walk_at "exec For Name Call cons nil") => `(tactic| (k_here; (rename Fr _ _ _ _ => lF'); k_dflt (with_unfolding_all refine' For_invVF lF' ?k1 ?k2 ?_; (case k1 => exact rfl); (case k2 => exact rfl); k_whole)))

local macro_rules | `(tactic| k_mem) => `(tactic| first | with_reducible assumption | (refine List.mem_append_left _ ?_; k_mem) | (refine List.mem_append_right _ ?_; k_mem))
local macro_rules | `(tactic| walk_at "binaryOp Mult ref int") => `(tactic| (k_here; (with_reducible show wpAny _ _ (binaryOp Operator.Mult (Value.ref _) (Value.int _ _)) _ _ _); k_dflt (refine' KMa.mul ?F ?N ?l ?lo ?hi ?z ?e ?_; (case F => k_asm); (case N => k_asm); (case l => exact News.isList (by k_asm) (List.Mem.head _)); (case lo => omega); (case hi => omega); (case z => (simp only [List.length_cons, List.length_nil]; omega)); (case e => exact flat_one _ _); k_whole); intro D' h' F' N' l2; (replace l2 := allLt_of l2); (try k_sweep)))
theorem reorder1 {h₀ h : Heap} {L : Addr} {made : List (Addr × Obj)} {p1 p2 p3 p4 p5 p6 : Addr × Obj} (N : News h₀ L h (p1 :: (made ++ [p2, p3, p4, p5, p6]))) : News h₀ L h (p4 :: ([p5, p3, p6, p2, p1] ++ made)) := by
  refine kst_newsOf N fun p hp => ?_
  simp only [List.mem_cons, List.mem_append, List.not_mem_nil, or_false] at hp ⊢
  rcases hp with h | (h | h | h | h | h) | h <;> simp [h]
/-- p1 the new list; p4 table's cell, p5 size's, p3 ways', p6 alphabet's, p2 the numbers, q the table's list -/
theorem reorder2 {h₀ h : Heap} {L : Addr} {made made' : List (Addr × Obj)} {p1 p2 p3 p4 p5 p6 q : Addr × Obj} (N : News h₀ L h (p1 :: (made' ++ (p4 :: ([p5, p3, p6, p2, q] ++ made))))) : News h₀ L h (p3 :: ([p4, p5, p6, p2, q, p1] ++ (made ++ made'))) := by
  refine kst_newsOf N fun p hp => ?_
  simp only [List.mem_cons, List.mem_append, List.not_mem_nil, or_false] at hp ⊢
  rcases hp with h | (h | h | h | h | h | h) | h | h <;> simp [h]

theorem to_gLed {h₀ h : Heap} {L : Addr} {k : Nat} {ta wa : Nat → Addr} {VT VW : Nat → Nat → Value} {made1 made2 : List (Addr × Obj)} {pW pT pS pA pN p1 p2 : Addr × Obj} (N : News h₀ L h (pW :: ([pT, pS, pA, pN, p1, p2] ++ (made1 ++ made2))))
    (g1 : ∀ p ∈ gridLed k ta VT, p ∈ made1) (g2 : ∀ p ∈ gridLed k wa VW, p ∈ made2) : News h₀ L h (gLed k ta wa [pW, pT, pS, pA, pN, p1, p2] VT VW) := by
  refine kst_newsOf N fun p hp => ?_
  rcases List.mem_append.mp hp with hp | hp
  · rcases List.mem_cons.mp hp with h | hp
    · exact h ▸ .head _
    · exact .tail _ (List.mem_append_left _ hp)
  · rcases List.mem_append.mp hp with hp | hp
    · exact .tail _ (List.mem_append_right _ (List.mem_append_left _ (g1 p hp)))
    · exact .tail _ (List.mem_append_right _ (List.mem_append_right _ (g2 p hp)))
theorem apart_addr {k : Nat} {made1 made2 fix : List (Addr × Obj)} (al : List Addr) (hl1 : made1.length = k) (hl2 : made2.length = k) (hn1 : (made1.map (·.1)).Nodup) (hn2 : (made2.map (·.1)).Nodup) (hd : ∀ p ∈ made2, ∀ q ∈ made1, q.1 ≠ p.1)
    (h1 : ∀ a ∈ al, ∀ p ∈ made1, a ≠ p.1) (h2 : ∀ a ∈ al, ∀ p ∈ made2, a ≠ p.1) (hf : ∀ p ∈ fix, p.1 ∈ al) : Apart k (adr made1) (adr made2) fix where
  injT := adr_inj hl1 hn1
  injW := adr_inj hl2 hn2
  dis := fun a ha b hb e => by
    obtain ⟨o1, m1, _⟩ := adr_mem (made := made1) (i := a) (by omega)
    obtain ⟨o2, m2, _⟩ := adr_mem (made := made2) (i := b) (by omega)
    exact hd _ m2 _ m1 e
  offT := fun p hp a ha e => by
    obtain ⟨o1, m1, _⟩ := adr_mem (made := made1) (i := a) (by omega)
    exact h1 _ (hf p hp) _ m1 e
  offW := fun p hp a ha e => by
    obtain ⟨o2, m2, _⟩ := adr_mem (made := made2) (i := a) (by omega)
    exact h2 _ (hf p hp) _ m2 e

theorem law_rest2 (w : World) (mean : ExcName → Option Value) (mg mb : Str → Option Value) (wd : Str) (tw : Tok) (nums : List Int) (ws : List Value) (Dn : Addr) (eN : Nat) (hI : IntsAre ws nums) (hn3 : 3 ≤ nums.length) (hn11 : nums.length ≤ 11)
    (hwl : wd.length = nums.length) (Mf : Nat → Nat → Bool) (M : MOk wd.cps.toList Mf) (hsum : ((List.range wd.length).map fun i => (Mf i wd.length).toInt).sum = 1) (hPl : ∀ ps, OutInv (seqAt nums) nums.length ps nums.length → Plain wd.cps.toList wd.length Mf ps)
    (oA oS oT oW : Obj) (vA v₁ v₂ v₃ : Option Value) (dA : oA.data = .cell vA) (dS : oS.data = .cell v₁) (dT : oT.data = .cell v₂) (dW : oW.data = .cell v₃) (cA cS cT cW : Addr)
    (hap : ((@Ne Nat cW cT) ∧ (@Ne Nat cW cS) ∧ (@Ne Nat cW cA)) ∧ ((@Ne Nat cT cS) ∧ (@Ne Nat cT cA)) ∧ (@Ne Nat cS cA)) (hapN : (@Ne Nat Dn cW) ∧ (@Ne Nat Dn cT) ∧ (@Ne Nat Dn cS) ∧ (@Ne Nat Dn cA))
    (dp un : Nat) (gd : Option (List Code)) (L a : Addr) (ccd : Value) (outer : List Env) (A₀ : Around) (base h₀ : Heap) (m : Str → Option Value) (s : Shared) (Q : Flow → Shared → Prop) (E : Value → Shared → Prop)
    (B : Below A₀ base outer h₀) (F : Fr h₀ L s.heap (fun y => if y = Str.ofString "word" then some (.str wd tw) else if y = Str.ofString "numbers" then some (.ref Dn) else m y)) (X : (hd.heap_39 w.params).In h₀)
    (N : News h₀ L s.heap [(Dn, W.listOf ws.toArray eN), (cW, oW), (cT, oT), (cS, oS), (cA, oA)])
    (Tp : Top hd.view_39 (looseW hd.view_39 []) mean mg mb h₀) (hdp : dp + 20 < recursionLimit) (hu : un + 160 < cLine) (hE : PassesOwn (model PySem.Challenge.rw_gq5002_01.row.prog w) (ktrTop dp un gd (Str.ofString "law") lawScope L a ccd (lawCl cA cS cT cW) outer) (envX (Str.ofString "law") lawScope L a ccd (lawCl cA cS cT cW)) E)
    (h : ∀ m' h' tk', Fr h₀ L h' m' → Q (.ret (.bool true)) { s with heap := h', toks := tk' }) :
    wpAny (model PySem.Challenge.rw_gq5002_01.row.prog w) (ktrTop dp un gd (Str.ofString "law") lawScope L a ccd (lawCl cA cS cT cW) outer) (execs (lawBody.drop 3) (envX (Str.ofString "law") lawScope L a ccd (lawCl cA cS cT cW))) Q E s := by
  have hMk := kstMark
  have hfill : (PySem.Challenge.rw_gq5002_01 = PySem.Challenge.rw_gq5002_01 ∧ hd.heap_39 = hd.heap_39) := by k_fill; exact ⟨rfl, rfl⟩
  clear hfill
  obtain ⟨sc, hsc⟩ : ∃ sc, sc = lawScope := ⟨_, rfl⟩
  rw [← hsc] at hE ⊢
  dsimp only [lawScope, PySem.Challenge.rw_gq5002_01, PySem.Challenge.pw_gq5002_01] at hsc
  subst hsc
  dsimp only [lawBody, PySem.Challenge.rw_gq5002_01, PySem.Challenge.pw_gq5002_01, List.drop]
  show wpAny (model PySem.Challenge.rw_gq5002_01.row.prog w) _ _ _ _ _
  (try k_fold)
  walk_at "STEPSK3"
  -- table
  rename Fr _ _ _ _ => lF'
  rename News _ _ _ _ => lN'
  rename IsRange _ _ _ _ _ _ _ _ => rgX
  refine LCg.CompSrc.range (n := wd.length + 1) (by rfl) lF' lN' rgX ?sm ?rs ?sz ?_
  case sm => exact small_one (by omega) (by omega) (by omega) (by omega)
  case rs => rw [rangeSize_nat]; omega
  case sz => (rw [PySem.sizeLine_eq]; omega)
  intro g'
  refine' kgr_range (fun o => o = W.listOf (List.replicate (wd.length + 1) (Value.bool false)).toArray 0) (fun k' t' I' oI' C' oC' D' m' ys' h' tk' made E' hlo' hhi' hC' hx' F' N' off' ne' => ?turn) ?fin
  case turn =>
    clear lF' lN' rgX
    (try k_fold)
    walk_at "STEPSK3"
    rename Fr _ _ _ _ => F9
    rename News _ _ _ _ => N9
    rename AllLt _ _ => l9
    exact grow_end (junk := [_]) F9 N9 (kst_ltOf l9) off' trivial (by rw [show ((wd.length : Int) + 1).toNat = wd.length + 1 by omega])
  case fin =>
    intro made1 hl1 hrel1 hnd1 hoff1
    intro D1 h1 tk1 F1 N1 ho1
    clear lF' lN' rgX
    replace ho1 := off1_mem ho1
    have N1' := reorder1 N1
    clear N1
    (try k_fold)
    refine storeX_C F1 N1' (by rfl) (UpdF.head ?uT) dT ?_ (by rfl) (by rfl)
    case uT =>
      intro p hp
      rcases List.mem_append.mp hp with hp | hp
      · simp only [List.mem_cons, List.not_mem_nil, or_false] at hp
        rcases hp with rfl | rfl | rfl | rfl | rfl
        · exact hap.2.1.1.symm
        · exact hap.1.1
        · exact hap.2.1.2.symm
        · exact hapN.2.1
        · exact (ho1 (cT, oT) (List.mem_append_right _ (.tail _ (.tail _ (.head _))))).symm
      · exact (hoff1 p hp (cT, oT) (.tail _ (.tail _ (.head _)))).symm
    intro h2 oT' F2 N2 dT'
    clear N1' F1
    (try k_fold)
    walk_at "STEPSK3"
    -- ways
    rename Fr _ _ _ _ => lF'
    rename News _ _ _ _ => lN'
    rename IsRange _ _ _ _ _ _ _ _ => rgX
    refine LCg.CompSrc.range (n := wd.length + 1) (by rfl) lF' lN' rgX ?sm2 ?rs2 ?sz2 ?_
    case sm2 => exact small_one (by omega) (by omega) (by omega) (by omega)
    case rs2 => rw [rangeSize_nat]; omega
    case sz2 => (rw [PySem.sizeLine_eq]; omega)
    intro g''
    refine' kgr_range (fun o => ∃ t, o = W.listOf (List.replicate (wd.length + 1) (Value.int 0 t)).toArray 0) (fun k' t' I' oI' C' oC' D' m' ys' h' tk' made E' hlo' hhi' hC' hx' F' N' off' ne' => ?turn2) ?fin2
    case turn2 =>
      clear lF' lN' rgX
      (try k_fold)
      walk_at "STEPSK3"
      rename Fr _ _ _ _ => F9
      rename News _ _ _ _ => N9
      rename AllLt _ _ => l9
      exact grow_end (junk := [_]) F9 N9 (kst_ltOf l9) off' trivial ⟨_, by rw [show ((wd.length : Int) + 1).toNat = wd.length + 1 by omega]⟩
    case fin2 =>
      intro made2 hl2 hrel2 hnd2 hoff2
      intro D2 h3 tk3 F3 N3 ho2
      clear lF' lN' rgX
      replace ho2 := off1_mem ho2
      have N3' := reorder2 N3
      clear N3
      (try k_fold)
      refine storeX_C F3 N3' (by rfl) (UpdF.head ?uW) dW ?_ (by rfl) (by rfl)
      case uW =>
        intro p hp
        rcases List.mem_append.mp hp with hp | hp
        · simp only [List.mem_cons, List.not_mem_nil, or_false] at hp
          rcases hp with rfl | rfl | rfl | rfl | rfl | rfl
          · exact hap.1.1.symm
          · exact hap.1.2.1.symm
          · exact hap.1.2.2.symm
          · exact hapN.1
          · exact (ho1 (cW, oW) (List.mem_append_right _ (.tail _ (.head _)))).symm
          · exact (ho2 (cW, oW) (List.mem_append_right _ (.tail _ (.tail _ (.head _))))).symm
        · rcases List.mem_append.mp hp with hp | hp
          · exact (hoff1 p hp (cW, oW) (.tail _ (.head _))).symm
          · exact (hoff2 p hp (cW, oW) (.tail _ (.tail _ (.head _)))).symm
      intro h4 oW' F4 N4 dW'
      clear N3' F3
      (try k_fold)
      walk_at "STEPSK3"
      rename Fr _ _ _ _ => lF'
      rename News _ _ _ _ => lN'
      rename (_ : Obj).data = Data.cell (some (Value.int _ _)) => dS'
      obtain ⟨t0, hrows⟩ := rows_I hl2 hrel2
      have hAp : ∀ fix : List (Addr × Obj), (∀ p ∈ fix.map (·.1), p ∈ [cW, cT, cS, cA, Dn, D1, D2]) → Apart (wd.length + 1) (adr made1) (adr made2) fix := by
        intro fix hfix
        refine apart_addr [cW, cT, cS, cA, Dn, D1, D2] hl1 hl2 hnd1 hnd2 (fun p hp q hq => hoff2 p hp q (.tail _ (List.mem_append_right _ hq))) ?_ ?_ ?_
        · intro x hx p hp
          simp only [List.mem_cons, List.not_mem_nil, or_false] at hx
          rcases hx with rfl | rfl | rfl | rfl | rfl | rfl | rfl
          · exact hoff1 p hp _ (.tail _ (.head _))
          · exact hoff1 p hp _ (.tail _ (.tail _ (.head _)))
          · exact hoff1 p hp _ (.tail _ (.tail _ (.tail _ (.head _))))
          · exact hoff1 p hp _ (.tail _ (.tail _ (.tail _ (.tail _ (.head _)))))
          · exact hoff1 p hp _ (.head _)
          · exact (ho1 p (List.mem_append_left _ hp)).symm
          · exact (ho2 p (List.mem_append_right _ (.tail _ (List.mem_append_right _ hp)))).symm
        · intro x hx p hp
          simp only [List.mem_cons, List.not_mem_nil, or_false] at hx
          rcases hx with rfl | rfl | rfl | rfl | rfl | rfl | rfl
          · exact hoff2 p hp _ (.tail _ (.tail _ (.head _)))
          · exact hoff2 p hp _ (.head _)
          · exact hoff2 p hp _ (.tail _ (.head _))
          · exact hoff2 p hp _ (.tail _ (.tail _ (.tail _ (.head _))))
          · exact hoff2 p hp _ (.tail _ (.tail _ (.tail _ (.tail _ (.head _)))))
          · exact hoff2 p hp _ (.tail _ (.tail _ (.tail _ (.tail _ (.tail _ (.head _))))))
          · exact (ho2 p (List.mem_append_left _ hp)).symm
        · exact fun p hp => hfix _ (List.mem_map_of_mem hp)
      refine' loop3 w mean mg mb wd.length (wd.length + 1) rfl (by omega) wd tw _ rfl _ (adr made1) (adr made2) cA cS cT cW D1 D2 _ _ _ (rowRefs (wd.length + 1) (adr made1)).length (rowRefs (wd.length + 1) (adr made2)).length ?hS dS' ?hT dT' ?hW dW' ?htb ?hwy ?P Mf M (fun _ _ => false) (fun _ _ => 0) t0 (fun _ _ => rfl) dp un gd L a ccd outer A₀ base h₀ _ _ _ _ B lF' X ?N Tp (by omega) (by omega) ?hE ?h
      case N => exact to_gLed lN' (grid_made hl1 _ (rows_B hrel1)) (grid_made hl2 _ hrows)
      case hS => exact .tail _ (.tail _ (.head _))
      case hT => exact .tail _ (.head _)
      case hW => exact .head _
      case htb => rw [refs_adr hl1]; exact .tail _ (.tail _ (.tail _ (.tail _ (.tail _ (.head _)))))
      case hwy => rw [refs_adr hl2]; exact .tail _ (.tail _ (.tail _ (.tail _ (.tail _ (.tail _ (.head _))))))
      case P => exact hAp _ (fun p hp => hp)
      case hE => exact hE
      case h =>
        intro c u h5 tk5 hTW F5 N5
        clear lF' lN'
        dsimp only
        refine' law_rest3 w mean mg mb wd tw nums ws Dn eN hI hn3 hn11 wd.length (wd.length + 1) rfl hwl.symm rfl _ (adr made1) (adr made2) cA cS cT cW D1 D2 _ _ _ (rowRefs (wd.length + 1) (adr made1)).length (rowRefs (wd.length + 1) (adr made2)).length _ ?jS dS' ?jT dT' ?jW dW' ?jtb ?jwy ?jDn ?jP Mf c.T c.W c.t hTW hsum hPl dp un gd L a ccd outer A₀ base h₀ _ ?j1 ?j2 _ _ _ B F5 X N5 Tp hdp hu hE ?jh
        case jS => exact .tail _ (.tail _ (.head _))
        case jT => exact .tail _ (.head _)
        case jW => exact .head _
        case jtb => rw [refs_adr hl1]; exact .tail _ (.tail _ (.tail _ (.tail _ (.tail _ (.head _)))))
        case jwy => rw [refs_adr hl2]; exact .tail _ (.tail _ (.tail _ (.tail _ (.tail _ (.tail _ (.head _))))))
        case jDn => exact .tail _ (.tail _ (.tail _ (.tail _ (.head _))))
        case jP => exact hAp _ (fun p hp => hp)
        case j1 => rfl
        case j2 => rfl
        case jh =>
          intro m' h' tk' F'
          exact h m' h' tk' F'
end PartK3
end Mine

namespace Mine
section PartM2
theorem freshM2 : True := by
  w_top off
  k_with_none
  trivial
/-! Lyndon words as lists, by the lists' own order -/
theorem app_lt_iff {c a b : List Nat} : c ++ a < c ++ b ↔ a < b := by
  induction c with
  | nil => simp
  | cons x c ih => rw [List.cons_append, List.cons_append, List.cons_lt_cons_iff, ih]; simp
theorem lt_app {a b x y : List Nat} (h : a < b) (hn : ¬ a <+: b) : a ++ x < b ++ y := by
  induction a generalizing b with
  | nil => exact absurd (List.nil_prefix) hn
  | cons c a ih =>
    cases b with
    | nil => exact absurd h (List.not_lt_nil _)
    | cons d b =>
      rw [List.cons_append, List.cons_append, List.cons_lt_cons_iff]
      rcases List.cons_lt_cons_iff.mp h with h7 | ⟨rfl, h7⟩
      · exact .inl h7
      · refine .inr ⟨rfl, ih h7 fun q => hn ?_⟩
        exact (List.cons_prefix_cons).mpr ⟨rfl, q⟩
theorem lt_tri (a b : List Nat) : a < b ∨ a = b ∨ b < a := by
  by_cases h1 : a < b
  · exact .inl h1
  · by_cases h2 : b < a
    · exact .inr (.inr h2)
    · exact .inr (.inl (List.le_antisymm (List.not_lt.mp h2) (List.not_lt.mp h1)))
theorem not_app_lt (t y : List Nat) : ¬ (t ++ y < t) := by
  intro h
  have h' : t ++ y < t ++ [] := by rw [List.append_nil]; exact h
  exact List.not_lt_nil _ (app_lt_iff.mp h')
def LynS (l : List Nat) : Prop := l ≠ [] ∧ ∀ x v, x ≠ [] → v ≠ [] → l = x ++ v → l < v
theorem scmp_neg {a b : List Nat} : scmp a b = -1 ↔ a < b := by
  unfold scmp
  by_cases h1 : a < b
  · have h2 : ¬ b < a := List.lt_asymm h1
    simp [h1, h2, PyProof.Rows.b2i]
  · by_cases h2 : b < a <;> simp [h1, h2, PyProof.Rows.b2i]
theorem scmp_nonneg {a b : List Nat} : 0 ≤ scmp a b ↔ ¬ a < b := by
  unfold scmp
  by_cases h1 : a < b
  · have h2 : ¬ b < a := List.lt_asymm h1
    simp [h1, h2, PyProof.Rows.b2i]
  · by_cases h2 : b < a <;> simp [h1, h2, PyProof.Rows.b2i]
theorem scmp_one {a b : List Nat} : scmp a b = 1 ↔ b < a := by
  unfold scmp
  by_cases h1 : a < b
  · have h2 : ¬ b < a := List.lt_asymm h1
    simp [h1, h2, PyProof.Rows.b2i]
  · by_cases h2 : b < a <;> simp [h1, h2, PyProof.Rows.b2i]
theorem lynR_iff {l : List Nat} : lynR l = true ↔ LynS l := by
  have e1 : lynR l = true ↔ 0 < l.length ∧ ∀ r, 0 < r → r < l.length → l < rot l r := by
    unfold lynR
    rw [Bool.and_eq_true, List.all_eq_true, decide_eq_true_eq, and_comm]
    refine and_congr_right fun _ => ⟨fun h r h0 h1 => ?_, fun h r hr => ?_⟩
    · have := h r (List.mem_range.mpr h1)
      simp only [Bool.or_eq_true, beq_iff_eq] at this
      rcases this with q | q
      · omega
      · exact scmp_neg.mp q
    · by_cases h0 : r = 0
      · simp [h0]
      · simp only [Bool.or_eq_true, beq_iff_eq]
        exact .inr (scmp_neg.mpr (h r (by omega) (List.mem_range.mp hr)))
  rw [e1]
  have rotx : ∀ x v : List Nat, rot (x ++ v) x.length = v ++ x := by intro x v; simp [rot]
  constructor
  · rintro ⟨h0, h⟩
    refine ⟨(by intro q; rw [q] at h0; simp at h0), fun x v hx hv hl => ?_⟩
    have lx : 0 < x.length := List.length_pos_iff.mpr hx
    have lv : 0 < v.length := List.length_pos_iff.mpr hv
    subst hl
    have h1 := h x.length lx (by rw [List.length_append]; omega)
    rw [rotx] at h1
    by_cases hp : v <+: x ++ v
    · obtain ⟨y, hy⟩ := hp
      have ly : y.length = x.length := by
        have := congrArg List.length hy
        simp only [List.length_append] at this; omega
      have h2 := h v.length lv (by rw [List.length_append]; omega)
      rw [← hy] at h1 h2
      rw [rotx] at h2
      rw [hy] at h2
      have h3 : y < x := app_lt_iff.mp h1
      have h4 : ¬ y <+: x := by
        intro q
        have := q.eq_of_length ly
        rw [this] at h3
        exact List.lt_irrefl _ h3
      exact absurd h2 (List.lt_asymm (lt_app h3 h4))
    · rcases lt_tri (x ++ v) v with q | q | q
      · exact q
      · have := congrArg List.length q
        rw [List.length_append] at this; omega
      · have h3 := lt_app (x := x) (y := []) q hp
        rw [List.append_nil] at h3
        exact absurd h1 (List.lt_asymm h3)
  · rintro ⟨h0, h⟩
    refine ⟨List.length_pos_iff.mpr h0, fun r h1 h2 => ?_⟩
    have hx : l.take r ≠ [] := by
      intro q; have := congrArg List.length q; rw [List.length_take, List.length_nil] at this; omega
    have hv : l.drop r ≠ [] := by
      intro q; have := congrArg List.length q; rw [List.length_drop, List.length_nil] at this; omega
    have h3 := h (l.take r) (l.drop r) hx hv (List.take_append_drop r l).symm
    have h4 : ¬ l <+: l.drop r := by
      intro q; have := q.length_le; rw [List.length_drop] at this; omega
    have h5 := lt_app (x := []) (y := l.take r) h3 h4
    rw [List.append_nil] at h5
    exact h5
/-- x < y, y Lyndon: then xy < y -/
theorem lyn_glue {x y : List Nat} (hy : LynS y) (hx : x ≠ []) (h : x < y) : x ++ y < y := by
  by_cases hp : x <+: y
  · obtain ⟨z, hz⟩ := hp
    have hzn : z ≠ [] := by
      rintro rfl
      rw [List.append_nil] at hz
      rw [hz] at h
      exact List.lt_irrefl _ h
    have h1 := hy.2 x z hx hzn hz.symm
    have h2 : x ++ y < x ++ z := app_lt_iff.mpr h1
    rw [hz] at h2
    exact h2
  · have := lt_app (x := y) (y := []) h hp
    rwa [List.append_nil] at this

section
variable {u : List Nat}
theorem seg_len {i j : Nat} (h : j ≤ u.length) : (seg u i j).length = j - i := by
  unfold seg; rw [List.length_take, List.length_drop]; omega
theorem seg_split {i k j : Nat} (h1 : i ≤ k) (h2 : k ≤ j) : seg u i j = seg u i k ++ seg u k j := by
  unfold seg
  have e1 : j - i = (k - i) + (j - k) := by omega
  rw [e1, List.take_add, List.drop_drop]
  have e2 : i + (k - i) = k := by omega
  rw [e2]
theorem seg_get {i j m : Nat} (hm : m < (seg u i j).length) : (seg u i j)[m] = u.getD (i + m) 0 := by
  have hm' := hm
  unfold seg at hm'
  rw [List.length_take, List.length_drop] at hm'
  have e : (seg u i j)[m]? = u[i + m]? := by unfold seg; rw [List.getElem?_take_of_lt (by omega), List.getElem?_drop]
  rw [List.getElem?_eq_getElem hm] at e
  rw [List.getD_eq_getElem?_getD, ← e]; rfl
theorem seg_ne {i j : Nat} (h1 : i < j) (h : j ≤ u.length) : seg u i j ≠ [] := by
  intro q; have := seg_len (u := u) (i := i) h; rw [q] at this; simp at this; omega
theorem lyn_seg {i j : Nat} (hij : i < j) (h : j ≤ u.length) : LynS (seg u i j) ↔ ∀ k, i < k → k < j → seg u i j < seg u k j := by
  constructor
  · rintro ⟨_, hl⟩ k h1 h2
    exact hl (seg u i k) (seg u k j) (seg_ne h1 (by omega)) (seg_ne h2 h) (seg_split (by omega) (by omega))
  · intro hl
    refine ⟨seg_ne hij h, fun x v hx hv e => ?_⟩
    have lx : 0 < x.length := List.length_pos_iff.mpr hx
    have lv : 0 < v.length := List.length_pos_iff.mpr hv
    have le := congrArg List.length e
    rw [seg_len h, List.length_append] at le
    have e2 := seg_split (u := u) (i := i) (k := i + x.length) (j := j) (by omega) (by omega)
    rw [e2] at e
    have e3 := List.append_inj e (by rw [seg_len (by omega)]; omega)
    rw [← e3.2]
    exact hl _ (by omega) (by omega)
def IsMin (u : List Nat) (i j : Nat) : Prop := i < j ∧ ∀ k, k < j → k ≠ i → seg u i j < seg u k j
theorem min_ex {j : Nat} (h0 : 0 < j) (h : j ≤ u.length) : ∃ i, IsMin u i j := by
  have key : ∀ m, 0 < m → m ≤ j → ∃ i, i < m ∧ ∀ k, k < m → k ≠ i → seg u i j < seg u k j := by
    intro m
    induction m with
    | zero => intro h; omega
    | succ m ih =>
      intro _ hm
      by_cases hm0 : m = 0
      · subst hm0; exact ⟨0, by omega, fun k h1 h2 => by omega⟩
      · obtain ⟨i, hi, hk⟩ := ih (by omega) (by omega)
        rcases lt_tri (seg u i j) (seg u m j) with q | q | q
        · refine ⟨i, by omega, fun k h1 h2 => ?_⟩
          by_cases e : k = m
          · rw [e]; exact q
          · exact hk k (by omega) h2
        · have := congrArg List.length q
          rw [seg_len h, seg_len h] at this; omega
        · refine ⟨m, by omega, fun k h1 h2 => ?_⟩
          by_cases e : k = i
          · rw [e]; exact q
          · exact List.lt_trans q (hk k (by omega) e)
  obtain ⟨i, hi, hk⟩ := key j h0 (Nat.le_refl _)
  exact ⟨i, hi, hk⟩
theorem min_uniq {h h' i : Nat} (a : IsMin u h i) (b : IsMin u h' i) : h = h' := by
  by_cases e : h = h'
  · exact e
  · exact absurd (a.2 h' b.1 (fun q => e q.symm)) (List.lt_asymm (b.2 h a.1 e))
theorem min_lyn {i j : Nat} (h : j ≤ u.length) (a : IsMin u i j) : LynS (seg u i j) := (lyn_seg a.1 h).mpr fun k h1 h2 => a.2 k h2 (by omega)
theorem min_zero {j : Nat} (h0 : 0 < j) (h : j ≤ u.length) : IsMin u 0 j ↔ LynS (seg u 0 j) :=
  ⟨min_lyn h, fun q => ⟨h0, fun k h1 h2 => (lyn_seg h0 h).mp q k (by omega) h1⟩⟩
theorem min_step {i j : Nat} (h0 : 0 < i) (hij : i < j) (h : j ≤ u.length) (hl : LynS (seg u i j)) : IsMin u i j ↔ ∃ g, g < i ∧ IsMin u g i ∧ ¬ (seg u g i < seg u i j) := by
  constructor
  · intro a
    obtain ⟨g, hg⟩ := min_ex (u := u) h0 (by omega)
    refine ⟨g, hg.1, hg, fun q => ?_⟩
    have := lyn_glue hl (seg_ne hg.1 (by omega)) q
    rw [← seg_split (Nat.le_of_lt hg.1) (Nat.le_of_lt hij)] at this
    have hgi := hg.1
    exact List.lt_asymm this (a.2 g (by omega) (by omega))
  · rintro ⟨g, hgi, hg, hn⟩
    refine ⟨hij, fun k h1 h2 => ?_⟩
    rcases Nat.lt_or_ge i k with q | q
    · exact (lyn_seg hij h).mp hl k q h1
    · have hki : k < i := by omega
      rcases lt_tri (seg u i j) (seg u k j) with q | q | q
      · exact q
      · have := congrArg List.length q
        rw [seg_len h, seg_len h] at this; omega
      · exfalso
        rw [seg_split (Nat.le_of_lt hki) (Nat.le_of_lt hij)] at q
        have h3 : ¬ (seg u k i < seg u g i) := by
          by_cases e : k = g
          · rw [e]; exact List.lt_irrefl _
          · exact List.lt_asymm (hg.2 k hki e)
        -- y <= x <= t, ty < y
        have h4 : seg u i j ≤ seg u k i := List.le_trans (List.not_lt.mp hn) (List.not_lt.mp h3)
        have h5 : seg u k i ++ seg u i j < seg u k i := by
          rcases lt_tri (seg u i j) (seg u k i) with r | r | r
          · exact List.lt_trans q r
          · rw [← r]; rw [← r] at q; exact q
          · exact absurd h4 (List.not_le.mpr r)
        exact not_app_lt _ _ h5
end
noncomputable def mfOf (u : List Nat) (i j : Nat) : Bool := @decide (IsMin u i j) (Classical.propDecidable _)
theorem mf_iff {u : List Nat} {i j : Nat} : mfOf u i j = true ↔ IsMin u i j := @decide_eq_true_iff _ (Classical.propDecidable _)
theorem mOk (u : List Nat) : MOk u (mfOf u) where
  zero := fun j h0 h => by
    rw [Bool.eq_iff_iff, mf_iff, lynR_iff]; exact min_zero h0 h
  no := fun i j hij h hl => by
    rw [Bool.eq_false_iff]
    intro q
    rw [lynR_iff.mpr (min_lyn h (mf_iff.mp q))] at hl
    cases hl
  step := fun i j h0 hij h hl => by
    rw [mf_iff, min_step h0 hij h (lynR_iff.mp hl)]
    simp only [mf_iff, scmp_nonneg]
  uniq := fun h h' i a b => min_uniq (mf_iff.mp a) (mf_iff.mp b)
theorem sum_pick (i0 : Nat) : ∀ n, ((List.range n).map fun i => if i = i0 then (1 : Int) else 0).sum = if i0 < n then 1 else 0
  | 0 => by simp
  | n + 1 => by
    rw [List.range_succ, List.map_append, List.sum_append, sum_pick i0 n]
    simp only [List.map_cons, List.map_nil, List.sum_cons, List.sum_nil]
    by_cases h1 : i0 < n
    · rw [if_pos h1, if_neg (by omega), if_pos (by omega)]; rfl
    · by_cases h2 : n = i0
      · rw [if_neg h1, if_pos h2, if_pos (by omega)]; rfl
      · rw [if_neg h1, if_neg h2, if_neg (by omega)]; rfl
theorem mf_sum {u : List Nat} {n : Nat} (h0 : 0 < n) (h : n ≤ u.length) : ((List.range n).map fun i => (mfOf u i n).toInt).sum = 1 := by
  obtain ⟨i0, hi0⟩ := min_ex (u := u) h0 h
  have e : ((List.range n).map fun i => (mfOf u i n).toInt) = (List.range n).map fun i => if i = i0 then (1 : Int) else 0 := by
    apply List.map_congr_left
    intro i _
    by_cases q : i = i0
    · rw [if_pos q, q, mf_iff.mpr hi0]; rfl
    · rw [if_neg q]
      have : mfOf u i n = false := by
        rw [Bool.eq_false_iff]
        intro r
        exact q (min_uniq (mf_iff.mp r) hi0)
      rw [this]; rfl
  rw [e, sum_pick, if_pos hi0.1]
end PartM2
end Mine

namespace Mine
section PartM3
theorem freshM3 : True := by
  w_top off
  k_with_none
  trivial
section
variable {u : List Nat} {v : Nat → Int} {n : Nat} (hn : u.length = n) (hlt : ∀ i j, i < n → j < n → v i < v j → u.getD i 0 < u.getD j 0) (heq : ∀ i j, i < n → j < n → v i = v j → u.getD i 0 = u.getD j 0)
include hn hlt heq
theorem lyn_list {a b : Nat} (l : Lyn v a b) (hb : b ≤ n) : LynS (seg u a b) := by
  refine (lyn_seg l.1 (by omega)).mpr fun k h1 h2 => ?_
  obtain ⟨e, he1, he2, he3⟩ := l.2 k h1 h2
  rw [List.lt_iff_exists]
  refine .inr ⟨e, by rw [seg_len (by omega)]; omega, by rw [seg_len (by omega)]; omega, fun f hf => ?_, ?_⟩
  · rw [seg_get, seg_get]
    exact (heq _ _ (by omega) (by omega) (he2 f hf)).symm
  · rw [seg_get, seg_get]
    exact hlt _ _ (by omega) (by omega) he3
theorem ple_list {c d h i : Nat} (p : PLe v c d h i) (hcd : c < d) (hd : d ≤ n) (hhi : h < i) (hi : i ≤ n) : ¬ (seg u h i < seg u c d) := by
  rcases p with ⟨e, e1, e2, e3, e4⟩ | ⟨e1, e2⟩
  · refine List.lt_asymm ?_
    rw [List.lt_iff_exists]
    refine .inr ⟨e, by rw [seg_len (by omega)]; omega, by rw [seg_len (by omega)]; omega, fun f hf => ?_, ?_⟩
    · rw [seg_get, seg_get]
      exact heq _ _ (by omega) (by omega) (e3 f hf)
    · rw [seg_get, seg_get]
      exact hlt _ _ (by omega) (by omega) e4
  · have e3 : seg u c d = seg u h (h + (d - c)) := by
      apply List.ext_getElem
      · rw [seg_len (by omega), seg_len (by omega)]; omega
      · intro f h1 h2
        rw [seg_get, seg_get]
        rw [seg_len (by omega)] at h1
        exact heq _ _ (by omega) (by omega) (e2 f h1)
    rw [e3, seg_split (u := u) (i := h) (k := h + (d - c)) (j := i) (by omega) (by omega)]
    exact not_app_lt _ _
theorem chain_parts {ps : List (Nat × Nat)} {i : Nat} (c : Chain v ps i) : i ≤ n →
    (∀ p ∈ ps, p.1 < p.2 ∧ p.2 ≤ n ∧ mfOf u p.1 p.2 = true) ∧
    (ps = [] ∨ ∃ b, ps.head? = some (0, b) ∧ 0 < b ∧ b ≤ i ∧ LynS (seg u 0 b) ∧ (∀ g, ps.getLast? = some (g, i) → ¬ (seg u 0 b < seg u g i)) ∧ ∀ j, b < j → j ≤ i → ¬ LynS (seg u 0 j)) := by
  induction c with
  | nil => exact fun _ => ⟨(fun p hp => absurd hp List.not_mem_nil), .inl rfl⟩
  | @one i l =>
    intro hi
    have hl := lyn_list hn hlt heq l hi
    refine ⟨fun p hp => ?_, .inr ⟨i, rfl, l.1, Nat.le_refl _, hl, fun g hg => ?_, fun j h1 h2 => by omega⟩⟩
    · rw [List.mem_singleton.mp hp]
      exact ⟨l.1, hi, mf_iff.mpr ((min_zero l.1 (by omega)).mpr hl)⟩
    · simp only [List.getLast?_singleton, Option.some.injEq, Prod.mk.injEq] at hg
      rw [← hg.1]; exact List.lt_irrefl _
  | @snoc ps g h i c l le ih =>
    intro hi
    have hhi := l.1
    obtain ⟨hA, hB⟩ := ih (by omega)
    have hl := lyn_list hn hlt heq l hi
    have hgh := (hA (g, h) (by simp)).1
    dsimp only at hgh
    have hmg := (hA (g, h) (by simp)).2.2
    dsimp only at hmg
    have hle := ple_list hn hlt heq le hhi hi hgh (by omega)
    refine ⟨fun p hp => ?_, ?_⟩
    · rcases List.mem_append.mp hp with hp | hp
      · exact hA p hp
      · rw [List.mem_singleton.mp hp]
        exact ⟨hhi, hi, mf_iff.mpr ((min_step (by omega) hhi (by omega) hl).mpr ⟨g, hgh, mf_iff.mp hmg, hle⟩)⟩
    · rcases hB with hB | ⟨b, hb1, hb2, hb3, hb4, hb5, hb6⟩
      · simp at hB
      · have hw := hb5 g (by simp)
        have hlast : seg u h i ≤ seg u 0 b := List.le_trans (List.not_lt.mp hle) (List.not_lt.mp hw)
        refine .inr ⟨b, ?_, hb2, by omega, hb4, fun g' hg' => ?_, fun j h1 h2 => ?_⟩
        · rw [List.head?_append, hb1]; rfl
        · simp only [List.getLast?_append, List.getLast?_singleton, Option.some_or, Option.some.injEq, Prod.mk.injEq] at hg'
          rw [← hg'.1]
          exact List.not_lt.mpr hlast
        · rcases Nat.lt_or_ge h j with q | q
          · intro hL
            have s1 := (lyn_seg (u := u) (i := 0) (j := j) (by omega) (by omega)).mp hL h (by omega) q
            have s2 : seg u h j ≤ seg u h i := by
              rw [seg_split (u := u) (i := h) (k := j) (j := i) (by omega) h2]
              exact List.not_lt.mp (not_app_lt _ _)
            have s3 : seg u 0 b ≤ seg u 0 j := by
              rw [seg_split (u := u) (i := 0) (k := b) (j := j) (by omega) (by omega)]
              exact List.not_lt.mp (not_app_lt _ _)
            exact List.not_lt.mpr (List.le_trans (List.le_trans s2 hlast) s3) s1
          · exact hb6 j h1 q
theorem plain_of (h0 : 0 < n) {ps : List (Nat × Nat)} (O : OutInv v n ps n) : Plain u n (mfOf u) ps := by
  obtain ⟨hA, hB⟩ := chain_parts hn hlt heq O.ch (Nat.le_refl _)
  refine ⟨hA, ?_, ?_⟩
  · rcases chain_last O.ch with ⟨_, q⟩ | ⟨qs, g, hq⟩
    · omega
    · subst hq
      have hg := hA (g, n) (by simp)
      dsimp only at hg
      refine ⟨g, by simp, hg.1, fun k hk e => ?_⟩
      have hm := mf_iff.mp hg.2.2
      have hd : ∀ a, seg u a n = u.drop a := by
        intro a; unfold seg; rw [List.take_of_length_le]; rw [List.length_drop]; omega
      have e' := scmp_one.mp e
      by_cases hkg : k = g
      · rw [hkg] at e'; exact List.lt_irrefl _ e'
      · have := hm.2 k hk hkg
        rw [hd, hd] at this
        exact List.lt_asymm this e'
  · rcases hB with q | ⟨b, hb1, hb2, hb3, hb4, _, hb6⟩
    · rcases chain_last O.ch with ⟨_, r⟩ | ⟨qs, g, hq⟩
      · omega
      · rw [q] at hq; simp at hq
    · refine ⟨b, hb1, hb2, hb3, lynR_iff.mpr hb4, fun j h1 h2 => ?_⟩
      rw [Bool.eq_false_iff]
      exact fun r => hb6 j h1 h2 (lynR_iff.mp r)
end
end PartM3
end Mine

namespace Mine
section PartM4
theorem freshM4 : True := by
  w_top off
  k_with_none
  trivial
structure Alph (al : Str) (f : Nat → Nat) : Prop where
  cps : al.cps = #[f 0, f 1, f 2]
  lt1 : f 0 < f 1
  lt2 : f 1 < f 2
theorem item_cps {al : Str} {f : Nat → Nat} (h : Alph al f) {k : Int} (h0 : 0 ≤ k) (h3 : k < 3) : Txt.item al k = ⟨#[f k.toNat]⟩ := by
  have h3' : k = 0 ∨ k = 1 ∨ k = 2 := by omega
  unfold Txt.item Txt.charAt
  rcases h3' with rfl | rfl | rfl <;> simp [h.cps, seqIndex?, Str.length]
theorem join_cps {al : Str} {f : Nat → Nat} (h : Alph al f) {nums : List Int} (hr : ∀ k ∈ nums, 0 ≤ k ∧ k < 3) : (Txt.join (Str.ofString "") (nums.map (Txt.item al))).cps.toList = nums.map fun k => f k.toNat := by
  have e : nums.map (Txt.item al) = (nums.map fun k => f k.toNat).map fun k => (⟨#[k]⟩ : Str) := by
    rw [List.map_map]
    apply List.map_congr_left
    intro k hk
    exact item_cps h (hr k hk).1 (hr k hk).2
  rw [e]
  have e2 : Txt.join (Str.ofString "") ((nums.map fun k => f k.toNat).map fun k => (⟨#[k]⟩ : Str)) = ⟨(nums.map fun k => f k.toNat).toArray⟩ := by
    show Builtin.Str.glued (Str.ofString "") _ = _
    rw [StrLaws.glued_eq_join, show Str.ofString "" = (⟨#[]⟩ : Str) from by decide +kernel]
    exact PyProof.Rows.join_ones _
  rw [e2]
theorem plain_nums {nums : List Int} {f : Nat → Nat} (hf1 : f 0 < f 1) (hf2 : f 1 < f 2) (hr : ∀ k ∈ nums, 0 ≤ k ∧ k < 3) {u : List Nat} (hu : u = nums.map fun k => f k.toNat) (h0 : 0 < nums.length) {n : Nat} (hn : u.length = n) :
    MOk u (mfOf u) ∧ ((List.range n).map fun i => (mfOf u i n).toInt).sum = 1 ∧ ∀ ps, OutInv (seqAt nums) nums.length ps nums.length → Plain u n (mfOf u) ps := by
  have hl : u.length = nums.length := by rw [hu, List.length_map]
  have hg : ∀ i, i < n → u.getD i 0 = f (seqAt nums i).toNat ∧ 0 ≤ seqAt nums i ∧ seqAt nums i < 3 := by
    intro i hi
    have hi' : i < nums.length := by omega
    have e : seqAt nums i = nums[i] := by
      show nums.getD i 0 = _
      rw [List.getD_eq_getElem?_getD, List.getElem?_eq_getElem hi']; rfl
    have e2 : u.getD i 0 = f nums[i].toNat := by
      rw [hu, List.getD_eq_getElem?_getD, List.getElem?_map, List.getElem?_eq_getElem hi']; rfl
    rw [e]
    exact ⟨e2, hr _ (List.getElem_mem hi')⟩
  refine ⟨mOk u, mf_sum (by omega) (by omega), fun ps O => ?_⟩
  rw [← hl, hn] at O
  refine plain_of (v := seqAt nums) hn ?_ ?_ (by omega) O
  · intro i j hi hj hlt
    obtain ⟨e1, a1, a2⟩ := hg i hi
    obtain ⟨e2, b1, b2⟩ := hg j hj
    rw [e1, e2]
    have h1 : seqAt nums i = 0 ∨ seqAt nums i = 1 := by omega
    have h2 : seqAt nums j = 1 ∨ seqAt nums j = 2 := by omega
    rcases h1 with q | q <;> rcases h2 with r | r <;> rw [q, r] at hlt ⊢
    · exact hf1
    · exact Nat.lt_trans hf1 hf2
    · omega
    · exact hf2
  · intro i j hi hj he
    rw [(hg i hi).1, (hg j hj).1, he]
end PartM4
end Mine

namespace Mine
section PartK2
theorem freshK2 : True := by
  w_top off
  k_with_none
  trivial
local macro_rules | `(tactic| walk_at "STOPK2") => `(tactic| first | (with_reducible show wpAny _ _ (pyIter (Value.ref _)) (fun it s₂ => LoopAtV _ _ _ _ _ _ _ _ _ it s₂) _ _) | (with_reducible show LCg.CompSrc _ _ _ _ _ _ _ _ _ _ _ _ _ _) | (with_reducible show wpAny _ _ (exec (Stmt.For _ _ _ _ _) _) _ _ _) | (with_reducible show wpAny _ _ (execs (Stmt.Assign [Expr.Name (Str.ofString "size") _] _ _ :: _) _) _ _ _))
local macro_rules | `(tactic| walk_at "STEPSK2") => `(tactic| repeat' (first | (k_unfold; (try dsimp only)) | ((fail_if_success walk_at "STOPK2"); first | (k_end; wrow_close) | walk1 | (dsimp only; walk1) | (leave1; walk_say "STEP leave1"; try dsimp only)) | fail "no step"))
local macro_rules | `(tactic| walk_at "exec For Name Call cons nil") => `(tactic| (k_here; (rename Fr _ _ _ _ => lF'); k_dflt (with_unfolding_all refine' For_invVF lF' ?k1 ?k2 ?_; (case k1 => exact rfl); (case k2 => exact rfl); k_whole)))
theorem law_rest (w : World) (mean : ExcName → Option Value) (mg mb : Str → Option Value) (al : Str) (tA : Tok) (f : Nat → Nat) (hal : Alph al f) (ns : List Int) (vs : List Value) (l : Addr) (hI : IntsAre vs ns) (hlen : ns.length ≤ 63)
    (oA oS oT oW : Obj) (dA : oA.data = .cell (some (.str al tA))) (v₁ v₂ v₃ : Option Value) (dS : oS.data = .cell v₁) (dT : oT.data = .cell v₂) (dW : oW.data = .cell v₃) (cA cS cT cW : Addr)
    (hap : ((@Ne Nat cW cT) ∧ (@Ne Nat cW cS) ∧ (@Ne Nat cW cA)) ∧ ((@Ne Nat cT cS) ∧ (@Ne Nat cT cA)) ∧ (@Ne Nat cS cA))
    (dp un : Nat) (gd : Option (List Code)) (L a : Addr) (ccd : Value) (outer : List Env) (A₀ : Around) (base h₀ : Heap) (m₀ : Str → Option Value) (hm : m₀ (Str.ofString "script") = some (.ref l)) (s : Shared) (Q : Flow → Shared → Prop) (E : Value → Shared → Prop)
    (hl : h₀.IsList l vs.toArray)
    (B : Below A₀ base outer h₀) (F : Fr h₀ L s.heap m₀) (X : (hd.heap_39 w.params).In h₀) (N : News h₀ L s.heap [(cW, oW), (cT, oT), (cS, oS), (cA, oA)])
    (Tp : Top hd.view_39 (looseW hd.view_39 []) mean mg mb h₀) (hdp : dp + 20 < recursionLimit) (hu : un + 160 < cLine) (hE : PassesOwn (model PySem.Challenge.rw_gq5002_01.row.prog w) (ktrTop dp un gd (Str.ofString "law") lawScope L a ccd (lawCl cA cS cT cW) outer) (envX (Str.ofString "law") lawScope L a ccd (lawCl cA cS cT cW)) E)
    (h : ∀ m' h' tk', Fr h₀ L h' m' → Q (.ret (.bool true)) { s with heap := h', toks := tk' }) :
    wpAny (model PySem.Challenge.rw_gq5002_01.row.prog w) (ktrTop dp un gd (Str.ofString "law") lawScope L a ccd (lawCl cA cS cT cW) outer) (execs (lawBody.drop 1) (envX (Str.ofString "law") lawScope L a ccd (lawCl cA cS cT cW))) Q E s := by
  have hMk := kstMark
  have hfill : (PySem.Challenge.rw_gq5002_01 = PySem.Challenge.rw_gq5002_01 ∧ hd.heap_39 = hd.heap_39) := by k_fill; exact ⟨rfl, rfl⟩
  clear hfill
  obtain ⟨m, rfl⟩ : ∃ m : Str → Option Value, m₀ = fun y => if y = Str.ofString "script" then some (.ref l) else m y := ⟨m₀, by
    funext y; by_cases hy : y = Str.ofString "script"
    · rw [if_pos hy, hy, hm]
    · rw [if_neg hy]⟩
  clear hm
  obtain ⟨sc, hsc⟩ : ∃ sc, sc = lawScope := ⟨_, rfl⟩
  rw [← hsc] at hE ⊢
  dsimp only [lawScope, PySem.Challenge.rw_gq5002_01, PySem.Challenge.pw_gq5002_01] at hsc
  subst hsc
  dsimp only [lawBody, PySem.Challenge.rw_gq5002_01, PySem.Challenge.pw_gq5002_01, List.drop]
  show wpAny (model PySem.Challenge.rw_gq5002_01.row.prog w) _ _ _ _ _
  (try k_fold)
  have hns : ∀ k ∈ (ns.take 8).map (fun (k : Int) => k.fmod 3) ++ [1, 0, 1], 0 ≤ k ∧ k < 3 := by
    intro k hk
    rcases List.mem_append.mp hk with hk | hk
    · obtain ⟨x, _, rfl⟩ := List.mem_map.mp hk
      exact ⟨Int.fmod_nonneg_of_pos _ (by decide), Int.fmod_lt_of_pos _ (by decide)⟩
    · simp only [List.mem_cons, List.not_mem_nil, or_false] at hk
      rcases hk with rfl | rfl | rfl <;> decide
  have hnl : ((ns.take 8).map (fun (k : Int) => k.fmod 3) ++ [1, 0, 1]).length = min 8 ns.length + 3 := by simp
  have hal3 : al.length = 3 := by rw [Str.length, hal.cps]; rfl
  walk_at "STEPSK2"
  rename IntsAre _ (_ ++ [1, 0, 1]) => hIn
  have hnl2 := hIn.length
  refine LCg.CompSrc.ledger (by rfl) (by k_asm) (by k_asm) (by k_mem) ?sz ?_
  case sz => (rw [PySem.sizeLine_eq]; simp only [List.size_toArray]; omega)
  intro g'
  refine' kct_list (fun k => Txt.item al k) hIn (fun k' t' I' oI' C' oC' D' m' ys' h' tk' E' hk' hC' hx' F' N' off' ne' hMark' => ?turn) ?fin
  case turn =>
    obtain ⟨hk0, hk3⟩ := hns _ hk'
    (try k_fold)
    walk_at "STEPSK2"
    rename Fr _ _ _ _ => F9
    rename News _ _ _ _ => N9
    exact LCg.CompEnd.intro F9 N9 _ (fun p hp => hp) off' (Or.inr ⟨_, .head _, rfl, _, rfl⟩) ⟨rfl, _, rfl⟩
  case fin =>
    intro ys hc hl2
    walk_at "STEPSK2"
    rename Fr _ _ _ _ => lF'
    rename News _ _ _ _ => lN'
    rename (Txt.join _ _).length = _ => hjl
    have hP := plain_nums (f := f) hal.lt1 hal.lt2 hns (join_cps hal hns) (by omega) (n := (Txt.join (Str.ofString "") (((ns.take 8).map (fun (k : Int) => k.fmod 3) ++ [1, 0, 1]).map (Txt.item al))).length) (by simp [Str.length])
    refine' law_rest2 w mean mg mb _ _ _ _ _ 0 hIn (by omega) (by omega) hjl _ hP.1 hP.2.1 hP.2.2 oA oS oT oW _ v₁ v₂ v₃ dA dS dT dW cA cS cT cW hap ⟨by omega, by omega, by omega, by omega⟩ dp un gd L a ccd outer A₀ base h₀ _ _ _ _ B lF' X ?N Tp hdp hu hE ?h
    case N =>
      refine kst_newsOf lN' fun p hp => ?_
      simp only [List.mem_cons, List.not_mem_nil, or_false] at hp ⊢
      rcases hp with q | q | q | q | q <;> simp [q]
    case h =>
      intro m' h' tk' F'
      exact h m' h' tk' F'
end PartK2
end Mine

namespace Mine
section PartTop1
theorem freshTop1 : True := by
  w_top off
  k_with_none
  trivial
local macro_rules | `(tactic| walk_at "STOPTop1") => `(tactic| first | (with_reducible show wpAny _ _ (execs (Stmt.Assign [Expr.Name (Str.ofString "numbers") _] _ _ :: _) _) _ _ _) | (with_reducible show Alph _ _))
local macro_rules | `(tactic| walk_at "STEPSTop1") => `(tactic| repeat' (first | (k_unfold; (try dsimp only)) | ((fail_if_success walk_at "STOPTop1"); first | (k_end; wrow_close) | walk1 | (dsimp only; walk1) | (leave1; walk_say "STEP leave1"; try dsimp only)) | fail "no step"))
theorem alph_a : Alph (Str.ofString "abc") (fun i => (Str.ofString "abc").cps.getD i 0) := ⟨by decide +kernel, by decide +kernel, by decide +kernel⟩
theorem alph_b : Alph (Str.ofString "Zaé") (fun i => (Str.ofString "Zaé").cps.getD i 0) := ⟨by decide +kernel, by decide +kernel, by decide +kernel⟩
theorem alph_c : Alph (Str.ofString " €😀") (fun i => (Str.ofString " €😀").cps.getD i 0) := ⟨by decide +kernel, by decide +kernel, by decide +kernel⟩
theorem top : PySem.Challenge.rw_gq5002_01.Holds := hd (by
  w_strict k_go0
  all_goals (try k_fold)
  walk_at "STEPSTop1"
  all_goals (
    rename Fr _ _ _ _ => lF'
    rename News _ _ _ _ => lN'
    refine' law_rest _ _ _ _ _ _ _ ?hal _ _ _ ?hI ?hlen _ _ _ _ ?dA _ _ _ ?dS ?dT ?dW _ _ _ _ ?hap _ _ _ _ _ _ _ _ _ _ _ ?hm _ _ _ ?hl ?B lF' ?X lN' ?Tp ?hdp ?hu ?hE ?h
    case dA => assumption
    case hal => first | exact alph_a | exact alph_b | exact alph_c
    case hl => assumption
    case hI => assumption
    case hlen => omega
    case dS => assumption
    case dT => assumption
    case dW => assumption
    case hap => exact ⟨⟨by omega, by omega, by omega⟩, ⟨by omega, by omega⟩, by omega⟩
    case hm => rfl
    case B => assumption
    case X => assumption
    case Tp => assumption
    case hdp => exact Nat.le_of_ble_eq_true rfl
    case hu => exact Nat.le_of_ble_eq_true rfl
    case hE => passes_own
    case h =>
      intro m' h' tk' F'
      walk_at "STEPSTop1"))
end PartTop1
end Mine

theorem PySem.Challenge.cw_gq5002_01_holds : PySem.Challenge.rw_gq5002_01.Holds :=
  Mine.top
