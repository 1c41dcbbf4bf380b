import PyProof.Rows.All
import Wide.All
import OpenK.AllK
import Wide.FinOn
import PySem.Challenge.RW_rs0159_01
open PySem PySem.W PySem.Calls PyProof.Rows
set_option Elab.async false
set_option maxRecDepth 100000
set_option maxHeartbeats 8000000
set_option linter.all false
namespace Mine

section partHd
open_top hd for PySem.Challenge.rw_rs0159_01
end partHd

section partBis
theorem entry_bisL : entryFor table "_bisect.bisect_left" = some Builtin.«_bisect.bisect_left» := entryFor_of_fast (by kernel_rfl)
theorem entry_bisR : entryFor table "_bisect.bisect_right" = some Builtin.«_bisect.bisect_right» := entryFor_of_fast (by kernel_rfl)
theorem entry_bisLoop : entryFor table "_bisect.bisect_right.loop" = some Builtin.«_bisect.bisect_right.loop» := entryFor_of_fast (by kernel_rfl)
theorem plain_bisL : plainId "_bisect.bisect_left" = true := by decide +kernel
theorem plain_bisR : plainId "_bisect.bisect_right" = true := by decide +kernel
theorem plain_bisLoop : plainId "_bisect.bisect_right.loop" = true := by decide +kernel
theorem kind_bisL : builtinKind "_bisect.bisect_left" = none := by decide +kernel
theorem kind_bisR : builtinKind "_bisect.bisect_right" = none := by decide +kernel
theorem args_bisL (a b : Value) : argsOk "_bisect.bisect_left" ⟨[a, b], []⟩ := by unfold argsOk; kernel_rfl
theorem args_bisR (a b c : Value) : argsOk "_bisect.bisect_right" ⟨[a, b], [("lo", c)]⟩ := by unfold argsOk; kernel_rfl

def bP (right : Bool) (x y : Int) : Bool := if right then decide (y ≤ x) else decide (y < x)

theorem bP_mono {right : Bool} {x y z : Int} (h : z ≤ y) (hy : bP right x y = true) : bP right x z = true := by
  unfold bP at *
  cases right <;> simp_all <;> omega

theorem le_at {ns : List Int} (hs : ns.Pairwise (· ≤ ·)) {i j : Nat} {a b : Int} (h : i ≤ j) (ha : ns[i]? = some a) (hb : ns[j]? = some b) : a ≤ b := by
  obtain ⟨h1, e1⟩ := List.getElem?_eq_some_iff.mp ha
  obtain ⟨h2, e2⟩ := List.getElem?_eq_some_iff.mp hb
  rcases Nat.lt_or_ge i j with h3 | h3
  · rw [← e1, ← e2]; exact List.pairwise_iff_getElem.mp hs i j h1 h2 h3
  · have : i = j := by omega
    subst this
    rw [← e1, ← e2]; exact Int.le_refl _

theorem getitem_call {prog : Program} {w : World} {A : Around} {E : Value → Shared → Prop} {s : Shared} {l : Addr} {items : Array Value} {k : Int} {t : Tok} {x : Value} {Q : Value → Shared → Prop} (hl : s.heap.IsList l items)
    (h0 : 0 ≤ k) (hfit : k < 2 ^ 63) (hx : items[k.toNat]? = some x) (h : Q x s) : wpAny (model prog w) A (call (.builtin "list.__getitem__") [.ref l, .int k t]) Q E s := by
  obtain ⟨o, ho, hc, ne, hd⟩ := id hl
  refine wpAny_call_entry slot_list_getitem hl.typeIs entry_list_getitem ?_ (args_list_getitem _ _)
  show wpAny _ _ (Builtin.List.listSubscript? (.int k t) >>= _) _ _ s
  refine wpAny_bind (wpAny_listSubscript_int (fitsIndex_of h0 hfit) ?_)
  clear hfit
  obtain ⟨j, rfl⟩ := Int.eq_ofNat_of_zero_le h0
  have hx' : items[j]? = some x := hx
  show wpAny _ _ ((seqItemAt l j >>= fun r => pure (r.map (j, ·))) >>= _) _ _ s
  refine wpAny_bind (wpAny_bind (wpAny_seqItemAt ho hd (wpAny_pure ?_)))
  rw [hx']
  first
    | exact wpAny_bind (wpAny_pure (wpAny_pure ⟨x, rfl, h⟩))
    | exact wpAny_pure ⟨x, rfl, h⟩

theorem lt_call {prog : Program} {w : World} {A : Around} {E : Value → Shared → Prop} {s : Shared} {a b : Int} {t u : Tok} {Q : Value → Shared → Prop} (h : Q (.bool (decide (a < b))) s) :
    wpAny (model prog w) A (call (.builtin "int.__lt__") [.int a t, .int b u]) Q E s :=
  call_gives F.slot_int_lt (typeIs_int s a t) F.entry_int_lt (F.args_int_lt_2 _ _) (gives_int_lt a b t u) h

theorem bis_loop {prog : Program} {w : World} {A : Around} {D : Addr} {vs : List Value} {ns : List Int} {x : Int} {t : Tok} {right : Bool} {R : Result → Shared → Prop}
    (hi : IntsAre vs ns) (h64 : ns.length < 64) (hs : ns.Pairwise (· ≤ ·)) :
    ∀ (k lo hi : Nat) (s : Shared), hi - lo = k → lo ≤ hi → hi ≤ ns.length → s.heap.IsList D vs.toArray →
      (∀ i y, i < lo → ns[i]? = some y → bP right x y = true) → (∀ i y, hi ≤ i → ns[i]? = some y → bP right x y = false) →
      (∀ (r : Nat) t' tk', r ≤ ns.length → (∀ i y, i < r → ns[i]? = some y → bP right x y = true) → (∀ i y, r ≤ i → ns[i]? = some y → bP right x y = false) → R (.ok (.ret (.int r t'))) { s with toks := tk' }) →
      codeAny (model prog w) A (.builtin "_bisect.bisect_right.loop" ⟨[.ref D, .int x t, rawInt lo, rawInt hi, .none, .bool right, .bool true, rawInt 0], []⟩) R s := by
  intro k
  induction k using Nat.strongRecOn with
  | ind k ih =>
  intro lo hi' s hk hlh hhn hl hlo hhi hR
  refine codeAny_builtin entry_bisLoop ?_
  rw [Around.under_plainId plain_bisLoop]
  unfold Builtin.«_bisect.bisect_right.loop»
  dsimp only [rawInt]
  refine wpAny_ite ?_
  split
  · rename_i hlt
    have hlt' : lo < hi' := by omega
    refine wpAny_bind (wpAny_mkInt ?_)
    have hm : ((lo : Int) + hi') / 2 = (((lo + hi') / 2 : Nat) : Int) := by omega
    rw [hm]
    generalize hmid : (lo + hi') / 2 = mid
    have h1 : lo ≤ mid := by omega
    have h2 : mid < hi' := by omega
    have hml : mid < ns.length := by omega
    obtain ⟨ty, hty⟩ := hi.get mid ns[mid] (by simp [hml])
    have hy : ns[mid]? = some ns[mid] := by simp [hml]
    generalize ns[mid] = y at hty hy
    refine wpAny_bind (wpAny_callSpecial?_slot (T := "list") (Heap.IsList.typeIs (s := { s with toks := s.toks + 1 }) hl) slot_list_getitem (getitem_call hl (x := .int y ty) (by omega) (by omega) (by simpa using hty) ?_))
    dsimp only
    refine wpAny_bind (wpAny_pure (wpAny_holding ?_))
    cases right
    · simp only [if_true, Bool.false_eq_true, if_false]
      refine wpAny_bind (wpAny_typeOf (typeIs_int _ _ _) (wpAny_bind (wpAny_typeOf (typeIs_int _ _ _) ?_)))
      rw [if_pos (by rfl)]
      refine wpAny_bind (wpAny_of_eq (cRoomFor_of_value rfl) ?_)
      refine wpAny_bind (wpAny_callSpecialIfBound?_slot (T := "int") (typeIs_int _ _ _) F.slot_int_lt (lt_call ?_))
      dsimp only
      refine wpAny_bind (wpAny_of_eq (a := decide (y < x)) (by rfl) (wpAny_bind (wpAny_pure ?_)))
      by_cases hc : y < x
      · rw [decide_eq_true hc, if_neg (by decide)]
        refine wpAny_pure ⟨plainId_quiet plain_bisLoop _, ?_⟩
        refine ih (hi' - (mid + 1)) (by omega) (mid + 1) hi' _ rfl (by omega) hhn hl ?_ hhi hR
        intro i z hiz hz
        refine bP_mono (y := y) ?_ (by simp [bP, hc])
        exact le_at hs (by omega) hz hy
      · rw [decide_eq_false hc, if_pos (by decide)]
        refine wpAny_pure ⟨plainId_quiet plain_bisLoop _, ?_⟩
        refine ih (mid - lo) (by omega) lo mid _ rfl (by omega) (by omega) hl hlo ?_ hR
        intro i z hiz hz
        cases hb : bP false x z
        · rfl
        · have := bP_mono (le_at hs hiz hy hz) hb
          simp [bP, hc] at this
    · simp only [if_true]
      refine wpAny_bind (wpAny_typeOf (typeIs_int _ _ _) (wpAny_bind (wpAny_typeOf (typeIs_int _ _ _) ?_)))
      rw [if_pos (by rfl)]
      refine wpAny_bind (wpAny_of_eq (cRoomFor_of_value rfl) ?_)
      refine wpAny_bind (wpAny_callSpecialIfBound?_slot (T := "int") (typeIs_int _ _ _) F.slot_int_lt (lt_call ?_))
      dsimp only
      refine wpAny_bind (wpAny_of_eq (a := decide (x < y)) (by rfl) (wpAny_bind (wpAny_pure ?_)))
      by_cases hc : x < y
      · rw [decide_eq_true hc, if_pos (by decide)]
        refine wpAny_pure ⟨plainId_quiet plain_bisLoop _, ?_⟩
        refine ih (mid - lo) (by omega) lo mid _ rfl (by omega) (by omega) hl hlo ?_ hR
        intro i z hiz hz
        cases hb : bP true x z
        · rfl
        · have := bP_mono (le_at hs hiz hy hz) hb
          simp [bP] at this
          omega
      · rw [decide_eq_false hc, if_neg (by decide)]
        refine wpAny_pure ⟨plainId_quiet plain_bisLoop _, ?_⟩
        refine ih (hi' - (mid + 1)) (by omega) (mid + 1) hi' _ rfl (by omega) hhn hl ?_ hhi hR
        intro i z hiz hz
        refine bP_mono (y := y) ?_ (by simp [bP]; omega)
        exact le_at hs (by omega) hz hy
  · rename_i hge
    have e : lo = hi' := by omega
    subst e
    refine wpAny_bind (wpAny_mkInt (wpAny_pure ?_))
    exact hR lo _ _ hhn hlo hhi

theorem mro_list_eq : mroOf (.type "list") = pure [.type "list", .type "object"] := by rw [mroOf_type]; kernel_rfl
theorem tnc_list {M : Model} {A : Around} {E : Value → Shared → Prop} {s : Shared} {v : Value} {Q : String → Shared → Prop} (hT : s.TypeIs v "list") (h : ∀ n, Q n s) : wpAny M A (typeNameOfCut 200 v) Q E s := by
  unfold typeNameOfCut shownTypeOf
  refine wpAny_bind (wpAny_bind (wpAny_typeOf hT ?_))
  rw [if_neg (by decide)]
  exact wpAny_pure (wpAny_pure (h _))
theorem run_len {prog : Program} {w : World} {A : Around} {E : Value → Shared → Prop} {s : Shared} {l : Addr} {items : Array Value} {Q : Value → Shared → Prop} (hl : s.heap.IsList l items) (hfit : (items.size : Int) < 2 ^ 63)
    (h : Q (.int items.size (s.toks + 1)) { s with toks := s.toks + 1 + 1 }) : wpAny (model prog w) A (runValue (.builtin "len" ⟨[.ref l], []⟩)) Q E s := by
  refine wpAny_runValue (codeAny_builtin entry_len ?_)
  rw [Around.under_plainId plain_len _]
  exact wpAny_mono (wpAny_len_body_list hl hfit h) (fun fin s' h' => by obtain ⟨r, rfl, hq⟩ := h'; exact hq) fun _ _ e => e

theorem bisL_call {prog : Program} {w : World} {A : Around} {E : Value → Shared → Prop} {s : Shared} {D : Addr} {vs : List Value} {ns : List Int} {x : Int} {t : Tok} {Q : Value → Shared → Prop}
    (hl : s.heap.IsList D vs.toArray) (hi : IntsAre vs ns) (h64 : ns.length < 64) (hs : ns.Pairwise (· ≤ ·))
    (h : ∀ (r : Nat) t' tk', r ≤ ns.length → (∀ i y, i < r → ns[i]? = some y → bP false x y = true) → (∀ i y, r ≤ i → ns[i]? = some y → bP false x y = false) → Q (.int r t') { s with toks := tk' }) :
    wpAny (model prog w) A (call (.builtin "_bisect.bisect_left") [.ref D, .int x t]) Q E s := by
  refine wpAny_call (codeAny_call_builtin plain_bisL entry_bisL ?_)
  have hc : checkBuiltinCall "_bisect.bisect_left" ⟨[.ref D, .int x t], []⟩ = pure () := by kernel_rfl
  have hT : s.TypeIs (.ref D) "list" := hl.typeIs
  have hT2 : Shared.TypeIs { s with toks := s.toks + 1 + 1 } (.ref D) "list" := Heap.IsList.typeIs (s := { s with toks := s.toks + 1 + 1 }) hl
  have hsz : vs.toArray.size = ns.length := by simp [hi.length]
  rw [hc]
  refine wpAny_pure ?_
  unfold Builtin.«_bisect.bisect_left»
  refine wpAny_bind ?_
  refine wpAny_of_eq (a := (.ref D, .int x t, none, none, none)) (by kernel_rfl) ?_
  dsimp only [pure_bind]
  simp only [pure_bind, Bool.false_and, Bool.false_eq_true, if_false, Option.getD_none]
  rw [if_neg (by decide)]
  refine wpAny_holding ?_
  rw [if_neg (by decide)]
  refine wpAny_bind ?_
  wp_delta
  refine wpAny_bind (wpAny_typeOf hT ?_)
  refine wpAny_bind (tnc_list hT ?_)
  intro nm
  refine wpAny_bind (wpAny_of_eq mro_list_eq ?_)
  dsimp only
  rw [if_neg (by decide)]
  rw [if_pos rfl]
  refine wpAny_bind (wpAny_of_eq slot_list_len.lookup ?_)
  rw [if_neg (by decide)]
  rw [if_neg (by decide)]
  refine wpAny_pure ?_
  refine wpAny_bind (run_len hl (by omega) ?_)
  dsimp only
  refine wpAny_bind ?_
  wp_delta
  refine wpAny_bind (wpAny_typeOf hT2 ?_)
  refine wpAny_bind (tnc_list hT2 ?_)
  intro nm
  refine wpAny_bind (wpAny_of_eq mro_list_eq ?_)
  dsimp only
  rw [if_neg (by decide)]
  rw [if_neg (by decide)]
  refine wpAny_bind (wpAny_of_eq slot_list_getitem.lookup ?_)
  rw [if_neg (by decide)]
  rw [if_neg (by decide)]
  refine wpAny_pure ?_
  refine wpAny_pure ⟨plainId_quiet plain_bisLoop _, ?_⟩
  rw [hsz]
  refine bis_loop hi h64 hs ns.length 0 ns.length _ rfl (Nat.zero_le _) (Nat.le_refl _) hl (fun i y hi' => absurd hi' (Nat.not_lt_zero _)) ?_ (fun r t' tk' h1 h2 h3 => h r t' tk' h1 h2 h3)
  intro i y hi' hy
  rw [List.getElem?_eq_none hi'] at hy
  cases hy

theorem ite_neg_intro {c : Prop} [Decidable c] {a b : Prop} (hc : ¬c) (h : b) : if c then a else b := by rw [if_neg hc]; exact h
theorem fits_ok {i : Int} (h0 : 0 ≤ i) (h1 : i < 2 ^ 63) : (!(decide (-(2 ^ 63 : Int) ≤ i) && decide (i < 2 ^ 63))) = false := by
  have h2 : -(2 ^ 63 : Int) ≤ i := by omega
  rw [decide_eq_true h2, decide_eq_true h1]
  rfl

theorem bisR_call {prog : Program} {w : World} {A : Around} {E : Value → Shared → Prop} {s : Shared} {D : Addr} {vs : List Value} {ns : List Int} {x : Int} {t tl : Tok} {lo : Nat} {Q : Value → Shared → Prop}
    (hl : s.heap.IsList D vs.toArray) (hi : IntsAre vs ns) (h64 : ns.length < 64) (hs : ns.Pairwise (· ≤ ·)) (hlo : lo ≤ ns.length)
    (hlo2 : ∀ i y, i < lo → ns[i]? = some y → bP true x y = true)
    (h : ∀ (r : Nat) t' tk', r ≤ ns.length → (∀ i y, i < r → ns[i]? = some y → bP true x y = true) → (∀ i y, r ≤ i → ns[i]? = some y → bP true x y = false) → Q (.int r t') { s with toks := tk' }) :
    wpAny (model prog w) A (call (.builtin "_bisect.bisect_right") [.ref D, .int x t] [("lo", .int lo tl)]) Q E s := by
  refine wpAny_call (codeAny_call_builtin plain_bisR entry_bisR ?_)
  have hc : checkBuiltinCall "_bisect.bisect_right" ⟨[.ref D, .int x t], [("lo", .int lo tl)]⟩ = pure () := by kernel_rfl
  have hT : s.TypeIs (.ref D) "list" := hl.typeIs
  have hT2 : Shared.TypeIs { s with toks := s.toks + 1 + 1 } (.ref D) "list" := Heap.IsList.typeIs (s := { s with toks := s.toks + 1 + 1 }) hl
  have hsz : vs.toArray.size = ns.length := by simp [hi.length]
  rw [hc]
  refine wpAny_pure ?_
  unfold Builtin.«_bisect.bisect_right»
  refine wpAny_bind ?_
  refine wpAny_of_eq (a := ((Value.ref D, Value.int x t, some (Value.int lo tl), (none : Option Value), (none : Option Value)))) ?_ ?_
  · kernel_rfl
  dsimp only [pure_bind]
  simp only [pure_bind, Bool.false_and, Bool.false_eq_true, if_false, Option.getD_none]
  refine wpAny_bind ?_
  refine wpAny_of_eq (a := (lo : Int)) ?_ ?_
  · rfl
  have hfit := fits_ok (i := (lo : Int)) (by omega) (by omega)
  generalize hX : (!_) = bX
  have hb : bX = false := by
    rw [← hX]
    exact hfit
  rw [hb, if_neg (by decide)]
  clear hX hb bX hfit
  refine wpAny_holding ?_
  rw [if_neg (by omega)]
  rw [if_neg (by decide)]
  refine wpAny_bind ?_
  wp_delta
  refine wpAny_bind (wpAny_typeOf hT ?_)
  refine wpAny_bind (tnc_list hT ?_)
  intro nm
  refine wpAny_bind (wpAny_of_eq mro_list_eq ?_)
  dsimp only
  rw [if_neg (by decide)]
  rw [if_pos rfl]
  refine wpAny_bind (wpAny_of_eq slot_list_len.lookup ?_)
  rw [if_neg (by decide)]
  rw [if_neg (by decide)]
  refine wpAny_pure ?_
  refine wpAny_bind (run_len hl (by omega) ?_)
  dsimp only
  refine wpAny_bind ?_
  wp_delta
  refine wpAny_bind (wpAny_typeOf hT2 ?_)
  refine wpAny_bind (tnc_list hT2 ?_)
  intro nm
  refine wpAny_bind (wpAny_of_eq mro_list_eq ?_)
  dsimp only
  rw [if_neg (by decide)]
  rw [if_neg (by decide)]
  refine wpAny_bind (wpAny_of_eq slot_list_getitem.lookup ?_)
  rw [if_neg (by decide)]
  rw [if_neg (by decide)]
  refine wpAny_pure ?_
  refine wpAny_pure ⟨plainId_quiet plain_bisLoop _, ?_⟩
  rw [hsz]
  refine bis_loop hi h64 hs (ns.length - lo) lo ns.length _ rfl hlo (Nat.le_refl _) hl hlo2 ?_ (fun r t' tk' h1 h2 h3 => h r t' tk' h1 h2 h3)
  intro i y hi' hy
  rw [List.getElem?_eq_none hi'] at hy
  cases hy
end partBis

section partFq
open PySem.Float64

theorem V_last : V (infMag - 1) = (2 ^ 53 - 1) * 2 ^ 2045 := by
  have e : infMag - 1 = 2045 * 2 ^ 52 + (2 ^ 53 - 1) := by unfold infMag; omega
  rw [e]
  exact V_at (by omega) (by omega)

theorem exact_of_right {r : UInt64} {neg : Bool} {W D t₀ : Nat} (h : Right r neg W D) (hD : 0 < D) (h0 : t₀ < infMag) (hW : W = D * V t₀) :
    (∃ m e, decode r = .fin neg m e) ∧ val r = sgn neg (V t₀) := by
  obtain ⟨t, rfl, hle, hov, hn⟩ := h
  have hlast : V t₀ ≤ (2 ^ 53 - 1) * 2 ^ 2045 := by rw [← V_last]; exact V_mono (by omega)
  have hlt : t < infMag := by
    rcases Nat.lt_or_ge t infMag with h | h
    · exact h
    · exfalso
      have ht : t = infMag := by omega
      have h1 := hov.mp ht
      rw [hW] at h1
      have h2 : 2 * (D * V t₀) ≤ 2 * (D * ((2 ^ 53 - 1) * 2 ^ 2045)) := Nat.mul_le_mul_left 2 (Nat.mul_le_mul_left D hlast)
      have h3 := Nat.le_trans h1 h2
      have h4 : 0 < (2 : Nat) ^ 2045 := Nat.two_pow_pos _
      generalize (2 : Nat) ^ 2045 = P at *
      have h5 : 2 * (D * ((2 ^ 53 - 1) * P)) = D * ((2 ^ 54 - 2) * P) := by
        rw [Nat.mul_left_comm, ← Nat.mul_assoc 2]
      rw [h5] at h3
      have h6 := Nat.le_of_mul_le_mul_left h3 hD
      have h7 : (2 ^ 54 - 1) * P = (2 ^ 54 - 2) * P + P := by
        have : (2 ^ 54 - 1 : Nat) = (2 ^ 54 - 2) + 1 := by decide
        rw [this, Nat.add_mul, Nat.one_mul]
      omega
  have hd := (hn hlt t₀).1
  have e0 : dist W (D * V t₀) = 0 := by rw [hW]; unfold dist; omega
  rw [e0] at hd
  have e1 : W = D * V t := by unfold dist at hd; omega
  have e2 : V t = V t₀ := Nat.eq_of_mul_eq_mul_left hD (by rw [← e1, hW])
  obtain ⟨m, e, hdec, _⟩ := decode_pack neg hlt
  exact ⟨⟨m, e, hdec⟩, by rw [val_pack neg hlt, e2]⟩

theorem V_quarter (q : Nat) (h : q < 2 ^ 53) : ∃ t, t < infMag ∧ V t = q * 2 ^ 1072 := by
  rcases Nat.eq_zero_or_pos q with h0 | h0
  · refine ⟨0, by decide, ?_⟩
    rw [V_zero, h0, Nat.zero_mul]
  · have hb : q.log2 ≤ 52 := by
      have := (Nat.log2_lt (by omega)).mpr h
      omega
    have h1 : 2 ^ q.log2 ≤ q := Nat.log2_self_le (by omega)
    have h2 : q < 2 ^ (q.log2 + 1) := Nat.lt_log2_self
    generalize q.log2 = b at *
    have e1 : 2 ^ b * 2 ^ (52 - b) = 2 ^ 52 := by rw [← Nat.pow_add]; congr 1; omega
    have e2 : 2 ^ (b + 1) * 2 ^ (52 - b) = 2 ^ 53 := by rw [← Nat.pow_add]; congr 1; omega
    have h3 : 2 ^ 52 ≤ q * 2 ^ (52 - b) := by rw [← e1]; exact Nat.mul_le_mul_right _ h1
    have h4 : q * 2 ^ (52 - b) < 2 ^ 53 := by rw [← e2]; exact Nat.mul_lt_mul_of_pos_right h2 (Nat.two_pow_pos _)
    refine ⟨(1072 - (52 - b)) * 2 ^ 52 + q * 2 ^ (52 - b), ?_, ?_⟩
    · unfold infMag; omega
    · rw [V_at (by omega) (.inl h3), Nat.mul_assoc, ← Nat.pow_add]
      congr 2; omega

def IsQ (x : UInt64) (q : Int) : Prop := (∃ a m e, decode x = .fin a m e) ∧ val x = q * 2 ^ 1072

theorem sgn_int {neg : Bool} {q : Int} (h1 : q < 0 → neg = true) (h2 : 0 < q → neg = false) : sgn neg (q.natAbs * 2 ^ 1072) = q * 2 ^ 1072 := by
  rw [sgn_mul]
  have e : sgn neg q.natAbs = q := by
    unfold sgn
    rcases Int.lt_trichotomy q 0 with h | h | h
    · rw [h1 h, if_pos rfl]; omega
    · subst h; cases neg <;> simp
    · rw [h2 h]; simp; omega
  rw [e]
  congr 1

theorem isq_of_right {r : UInt64} {neg : Bool} {W D : Nat} {q : Int} (h : Right r neg W D) (hD : 0 < D) (hW : W = D * (q.natAbs * 2 ^ 1072)) (hq : q.natAbs < 2 ^ 53)
    (h1 : q < 0 → neg = true) (h2 : 0 < q → neg = false) : IsQ r q := by
  obtain ⟨t₀, h0, hV⟩ := V_quarter q.natAbs hq
  obtain ⟨⟨m, e, hd⟩, hv⟩ := exact_of_right h hD h0 (by rw [hV]; exact hW)
  exact ⟨⟨neg, m, e, hd⟩, by rw [hv, hV, sgn_int h1 h2]⟩

theorem pow_split : (2 : Nat) ^ 1074 = 4 * 2 ^ 1072 := by rw [show (1074 : Nat) = 2 + 1072 from rfl, Nat.pow_add]
theorem P_pos : (0 : Int) < 2 ^ 1072 := by
  have h : (0 : Nat) < 2 ^ 1072 := Nat.two_pow_pos _
  have := Int.ofNat_lt.mpr h
  simpa using this
theorem natP : ((2 ^ 1072 : Nat) : Int) = (2 : Int) ^ 1072 := by simp

theorem isq_ofInt {i : Int} (h : i.natAbs < 2 ^ 50) : IsQ (ofInt i) (4 * i) := by
  refine isq_of_right (ofInt_right i) (by decide) ?_ (by omega) (fun h => by simp; omega) (fun h => by simp; omega)
  rw [pow_split, Nat.one_mul, Int.natAbs_mul, ← Nat.mul_assoc, Nat.mul_comm i.natAbs 4]
  rfl

theorem isq_zero (b : Bool) : IsQ (zero b) 0 := by
  cases b
  · exact ⟨⟨false, 0, -1074, by kernel_rfl⟩, by decide +kernel⟩
  · exact ⟨⟨true, 0, -1074, by kernel_rfl⟩, by decide +kernel⟩

theorem natAbs_P (q : Int) : (q * 2 ^ 1072).natAbs = q.natAbs * 2 ^ 1072 := by
  rw [Int.natAbs_mul, ← natP, Int.natAbs_natCast]

theorem neg_P {q : Int} : q * 2 ^ 1072 < 0 ↔ q < 0 := by
  have := P_pos
  constructor
  · intro h
    rcases Int.lt_or_le q 0 with h1 | h1
    · exact h1
    · have := Int.mul_nonneg h1 (Int.le_of_lt this)
      omega
  · intro h
    exact Int.mul_neg_of_neg_of_pos h this

theorem zero_P {q : Int} : q * 2 ^ 1072 = 0 ↔ q = 0 := by
  have := P_pos
  constructor
  · intro h
    rcases Int.mul_eq_zero.mp h with h1 | h1
    · exact h1
    · omega
  · intro h; rw [h, Int.zero_mul]

theorem isq_add {x y : UInt64} {a b : Int} (hx : IsQ x a) (hy : IsQ y b) (h : (a + b).natAbs < 2 ^ 53) : IsQ (add x y) (a + b) := by
  obtain ⟨⟨s1, m1, e1, d1⟩, v1⟩ := hx
  obtain ⟨⟨s2, m2, e2, d2⟩, v2⟩ := hy
  obtain ⟨hz, hr⟩ := add_right d1 d2
  have hs : val x + val y = (a + b) * 2 ^ 1072 := by rw [v1, v2, Int.add_mul]
  rw [hs] at hz hr
  by_cases h0 : a + b = 0
  · rw [hz (zero_P.mpr h0), h0]; exact isq_zero _
  · have hR := hr (fun h1 => h0 (zero_P.mp h1))
    refine isq_of_right hR (by decide) (by rw [Nat.one_mul, natAbs_P]) h (fun h1 => ?_) (fun h1 => ?_)
    · exact decide_eq_true (neg_P.mpr h1)
    · exact decide_eq_false (fun h2 => by have := neg_P.mp h2; omega)

theorem isq_sub {x y : UInt64} {a b : Int} (hx : IsQ x a) (hy : IsQ y b) (h : (a - b).natAbs < 2 ^ 53) : IsQ (sub x y) (a - b) := by
  obtain ⟨⟨s1, m1, e1, d1⟩, v1⟩ := hx
  obtain ⟨⟨s2, m2, e2, d2⟩, v2⟩ := hy
  obtain ⟨hz, hr⟩ := sub_right d1 d2
  have hs : val x - val y = (a - b) * 2 ^ 1072 := by rw [v1, v2, Int.sub_mul]
  rw [hs] at hz hr
  by_cases h0 : a - b = 0
  · rw [hz (zero_P.mpr h0), h0]; exact isq_zero _
  · have hR := hr (fun h1 => h0 (zero_P.mp h1))
    refine isq_of_right hR (by decide) (by rw [Nat.one_mul, natAbs_P]) h (fun h1 => ?_) (fun h1 => ?_)
    · exact decide_eq_true (neg_P.mpr h1)
    · exact decide_eq_false (fun h2 => by have := neg_P.mp h2; omega)

theorem sgn_neg_of {a : Bool} {n : Nat} {q : Int} (h : sgn a n = q * 2 ^ 1072) : (q < 0 → a = true) ∧ (0 < q → a = false) := by
  constructor
  · intro hq
    have := neg_P.mpr hq
    cases a
    · rw [← h] at this; simp [sgn] at this; omega
    · rfl
  · intro hq
    cases a
    · rfl
    · have h1 : 0 < q * 2 ^ 1072 := Int.mul_pos hq P_pos
      rw [← h] at h1; simp [sgn] at h1; omega
theorem fin_sign {x : UInt64} {a : Bool} {m : Nat} {e : Int} {q : Int} (d : decode x = .fin a m e) (v : val x = q * 2 ^ 1072) : (q < 0 → a = true) ∧ (0 < q → a = false) := by
  rw [val_eq d] at v
  exact sgn_neg_of v

theorem sign_mul {a b : Bool} {x y c k : Int} (h1 : (x < 0 → a = true) ∧ (0 < x → a = false)) (h2 : (y < 0 → b = true) ∧ (0 < y → b = false)) (hk : 0 < k) (h : x * y = k * c) :
    (c < 0 → (a != b) = true) ∧ (0 < c → (a != b) = false) := by
  constructor
  · intro hc
    have : x * y < 0 := by rw [h]; exact Int.mul_neg_of_pos_of_neg hk hc
    rcases Int.lt_trichotomy x 0 with hx | hx | hx
    · rcases Int.lt_trichotomy y 0 with hy | hy | hy
      · have := Int.mul_pos_of_neg_of_neg hx hy; omega
      · subst hy; simp at this
      · rw [h1.1 hx, h2.2 hy]; rfl
    · subst hx; simp at this
    · rcases Int.lt_trichotomy y 0 with hy | hy | hy
      · rw [h1.2 hx, h2.1 hy]; rfl
      · subst hy; simp at this
      · have := Int.mul_pos hx hy; omega
  · intro hc
    have : 0 < x * y := by rw [h]; exact Int.mul_pos hk hc
    rcases Int.lt_trichotomy x 0 with hx | hx | hx
    · rcases Int.lt_trichotomy y 0 with hy | hy | hy
      · rw [h1.1 hx, h2.1 hy]; rfl
      · subst hy; simp at this
      · have := Int.mul_neg_of_neg_of_pos hx hy; omega
    · subst hx; simp at this
    · rcases Int.lt_trichotomy y 0 with hy | hy | hy
      · have := Int.mul_neg_of_pos_of_neg hx hy; omega
      · subst hy; simp at this
      · rw [h1.2 hx, h2.2 hy]; rfl

theorem isq_mul {x y : UInt64} {a b c : Int} (hx : IsQ x a) (hy : IsQ y b) (hc : a * b = 4 * c) (h : c.natAbs < 2 ^ 53) : IsQ (mul x y) c := by
  obtain ⟨⟨s1, m1, e1, d1⟩, v1⟩ := hx
  obtain ⟨⟨s2, m2, e2, d2⟩, v2⟩ := hy
  have hR := mul_right d1 d2
  have hs := sign_mul (fin_sign d1 v1) (fin_sign d2 v2) (by decide) hc
  refine isq_of_right hR (Nat.two_pow_pos _) ?_ h hs.1 hs.2
  have e : a.natAbs * b.natAbs = 4 * c.natAbs := by rw [← Int.natAbs_mul, hc, Int.natAbs_mul]; rfl
  rw [v1, v2, natAbs_P, natAbs_P, pow_split]
  generalize (2 : Nat) ^ 1072 = P
  calc a.natAbs * P * (b.natAbs * P) = (a.natAbs * b.natAbs) * (P * P) := by ac_rfl
    _ = 4 * c.natAbs * (P * P) := by rw [e]
    _ = 4 * P * (c.natAbs * P) := by ac_rfl

theorem isq_div {x y : UInt64} {a b c : Int} (hx : IsQ x a) (hy : IsQ y b) (hb : b ≠ 0) (hc : 4 * a = c * b) (h : c.natAbs < 2 ^ 53) : IsQ (div x y) c := by
  obtain ⟨⟨s1, m1, e1, d1⟩, v1⟩ := hx
  obtain ⟨⟨s2, m2, e2, d2⟩, v2⟩ := hy
  have hvy : val y ≠ 0 := by rw [v2]; exact fun h => hb (zero_P.mp h)
  have hm : m2 ≠ 0 := by
    intro h0
    apply hvy
    rw [val_eq d2, h0, Nat.zero_mul]
    unfold sgn; cases s2 <;> rfl
  have hR := div_right d1 d2 hm
  have hs1 := fin_sign d1 v1
  have hs2 := fin_sign d2 v2
  have hs : (c < 0 → (s1 != s2) = true) ∧ (0 < c → (s1 != s2) = false) := by
    have hbb : 0 < b * b := by
      rcases Int.lt_trichotomy b 0 with hb1 | hb1 | hb1
      · exact Int.mul_pos_of_neg_of_neg hb1 hb1
      · exact absurd hb1 hb
      · exact Int.mul_pos hb1 hb1
    refine sign_mul (x := 4 * a) (y := b) (k := b * b) (c := c) ⟨fun h => hs1.1 (by omega), fun h => hs1.2 (by omega)⟩ hs2 hbb ?_
    rw [hc, Int.mul_assoc, Int.mul_comm]
  have hpos : 0 < (val y).natAbs := by omega
  refine isq_of_right hR hpos ?_ h hs.1 hs.2
  have e : 4 * a.natAbs = c.natAbs * b.natAbs := by rw [← Int.natAbs_mul, ← hc, Int.natAbs_mul]; rfl
  rw [v1, v2, natAbs_P, natAbs_P, pow_split]
  generalize (2 : Nat) ^ 1072 = P
  calc a.natAbs * P * (4 * P) = 4 * a.natAbs * (P * P) := by ac_rfl
    _ = c.natAbs * b.natAbs * (P * P) := by rw [e]
    _ = b.natAbs * P * (c.natAbs * P) := by ac_rfl

theorem isq_half (n : Nat) (h : n < 2 ^ 50) : IsQ (ofFrac false n 2) (2 * (n : Int)) := by
  refine isq_of_right (W := n * 2 ^ 1073) (D := 1) (ofFrac_right (by decide) ?_ (by decide)) (by decide) ?_ (by omega) (fun h => by omega) (fun _ => rfl)
  · rw [Nat.mul_one, Nat.mul_assoc, ← Nat.pow_succ]
  · rw [Nat.one_mul, show (1073 : Nat) = 1 + 1072 from rfl, Nat.pow_add]
    have : (2 * (n : Int)).natAbs = n * 2 := by omega
    rw [this]
    ac_rfl

theorem isq_two : IsQ 4611686018427387904 8 := ⟨⟨false, _, _, (by kernel_rfl : decode 4611686018427387904 = .fin false (2 ^ 52) (-51))⟩, by decide +kernel⟩
theorem isq_one : IsQ 4607182418800017408 4 := ⟨⟨false, _, _, (by kernel_rfl : decode 4607182418800017408 = .fin false (2 ^ 52) (-52))⟩, by decide +kernel⟩

theorem compare_P (a b : Int) : compare (a * 2 ^ 1072) (b * 2 ^ 1072) = compare a b := by
  have hP := P_pos
  rcases Int.lt_trichotomy a b with h | h | h
  · rw [Int.compare_eq_lt.mpr h, Int.compare_eq_lt.mpr (Int.mul_lt_mul_of_pos_right h hP)]
  · subst h; simp
  · rw [Int.compare_eq_gt.mpr h, Int.compare_eq_gt.mpr (Int.mul_lt_mul_of_pos_right h hP)]

theorem isq_cmp {x y : UInt64} {a b : Int} (hx : IsQ x a) (hy : IsQ y b) : cmp x y = some (compare a b) := by
  obtain ⟨⟨s1, m1, e1, d1⟩, v1⟩ := hx
  obtain ⟨⟨s2, m2, e2, d2⟩, v2⟩ := hy
  rw [cmp_right d1 d2, v1, v2, compare_P]

theorem isq_cmpInt {x : UInt64} {a i : Int} (hx : IsQ x a) : cmpInt x i = some (compare a (4 * i)) := by
  obtain ⟨⟨s1, m1, e1, d1⟩, v1⟩ := hx
  rw [cmpInt_right d1, v1]
  have : i * 2 ^ 1074 = (4 * i) * 2 ^ 1072 := by
    rw [show (1074 : Nat) = 2 + 1072 from rfl, Int.pow_add]
    rw [Int.mul_comm 4 i, Int.mul_assoc]
    rfl
  rw [this, compare_P]
end partFq

section partMg
local macro_rules | `(tactic| walk_at "no such key") => `(tactic| skip)
abbrev lw := PySem.Challenge.rw_rs0159_01
theorem fill : lw.prog = lw.prog ∧ hd.heap_39 = hd.heap_39 := by
  k_fill
  exact ⟨rfl, rfl⟩
theorem mine_list {h : Heap} {h₀ : Heap} {L D : Addr} {news : List (Addr × Obj)} {vs : List Value} {k : Nat} (N : News h₀ L h news) (hm : (D, listOf vs.toArray k) ∈ news) : h.IsList D vs.toArray := ⟨_, (N _ hm).1, rfl, k, rfl⟩

def BL (right : Bool) (ns : List Int) (x : Int) (r : Nat) : Prop :=
  r ≤ ns.length ∧ (∀ i y, i < r → ns[i]? = some y → bP right x y = true) ∧ (∀ i y, r ≤ i → ns[i]? = some y → bP right x y = false)

theorem bP_up {x y : Int} (h : bP false x y = true) : bP true x y = true := by
  simp [bP] at *; omega

theorem bisL_BL {prog : Program} {w : World} {A : Around} {E : Value → Shared → Prop} {s : Shared} {D : Addr} {vs : List Value} {ns : List Int} {x : Int} {t : Tok} {Q : Value → Shared → Prop}
    (hl : s.heap.IsList D vs.toArray) (hi : IntsAre vs ns) (h64 : ns.length < 64) (hs : ns.Pairwise (· ≤ ·))
    (h : ∀ (r : Nat) t' tk', BL false ns x r → Q (.int r t') { s with toks := tk' }) :
    wpAny (model prog w) A (call (.builtin "_bisect.bisect_left") [.ref D, .int x t]) Q E s :=
  bisL_call hl hi h64 hs fun r t' tk' a b c => h r t' tk' ⟨a, b, c⟩
theorem bisR_BL {prog : Program} {w : World} {A : Around} {E : Value → Shared → Prop} {s : Shared} {D : Addr} {vs : List Value} {ns : List Int} {x : Int} {t tl : Tok} {lo : Nat} {Q : Value → Shared → Prop}
    (hl : s.heap.IsList D vs.toArray) (hi : IntsAre vs ns) (h64 : ns.length < 64) (hs : ns.Pairwise (· ≤ ·)) (hlo : BL false ns x lo)
    (h : ∀ (r : Nat) t' tk', BL true ns x r → Q (.int r t') { s with toks := tk' }) :
    wpAny (model prog w) A (call (.builtin "_bisect.bisect_right") [.ref D, .int x t] [("lo", .int lo tl)]) Q E s :=
  bisR_call hl hi h64 hs hlo.1 (fun i y h1 h2 => bP_up (hlo.2.1 i y h1 h2)) fun r t' tk' a b c => h r t' tk' ⟨a, b, c⟩

theorem countP_prefix {p : Int → Bool} : ∀ {l : List Int} {r : Nat}, r ≤ l.length → (∀ i y, i < r → l[i]? = some y → p y = true) → (∀ i y, r ≤ i → l[i]? = some y → p y = false) → l.countP p = r
  | [], r, h, _, _ => by simp at h; simp [h]
  | a :: l, 0, _, _, h2 => by
    have ha : p a = false := h2 0 a (Nat.le_refl _) rfl
    have := countP_prefix (l := l) (r := 0) (Nat.zero_le _) (fun i y hi => absurd hi (Nat.not_lt_zero _)) (fun i y _ hy => h2 (i + 1) y (Nat.zero_le _) (by simpa using hy))
    rw [List.countP_cons, this, ha]; simp
  | a :: l, r + 1, h, h1, h2 => by
    have ha : p a = true := h1 0 a (Nat.zero_lt_succ _) rfl
    have := countP_prefix (l := l) (r := r) (by simpa using h) (fun i y hi hy => h1 (i + 1) y (by omega) (by simpa using hy)) (fun i y hi hy => h2 (i + 1) y (by omega) (by simpa using hy))
    rw [List.countP_cons, this, ha]; simp

/-- what median_grouped reads of its data: the middle item, the count below it, the count up to it -/
def MG (ns : List Int) (x : Int) (r1 r2 : Nat) : Prop :=
  x ∈ ns ∧ r1 = ns.countP (fun y => decide (y < x)) ∧ r2 = ns.countP (fun y => decide (y ≤ x)) ∧ r1 ≤ ns.length / 2 ∧ ns.length / 2 < r2

abbrev mid (n' : List Int) : Int := n'.getD (Int.toNat (Int.fdiv (n'.length : Int) 2)) 0

theorem mid_get {n' : List Int} (h0 : 0 < n'.length) : n'[n'.length / 2]? = some (mid n') := by
  have e : Int.toNat (Int.fdiv (n'.length : Int) 2) = n'.length / 2 := by
    rw [Int.fdiv_eq_ediv_of_nonneg _ (by decide)]; omega
  have h : n'.length / 2 < n'.length := by omega
  show n'[n'.length / 2]? = some (n'.getD _ 0)
  rw [e, List.getD_eq_getElem?_getD, List.getElem?_eq_getElem h]; rfl

theorem mg_of {ns n' : List Int} {r1 r2 : Nat} (p : n'.Perm ns) (h0 : 0 < ns.length) (b1 : BL false n' (mid n') r1) (b2 : BL true n' (mid n') r2) : MG ns (mid n') r1 r2 := by
  have hl := p.length_eq
  have hg := mid_get (n' := n') (by omega)
  have c1 := countP_prefix (p := fun y => decide (y < mid n')) b1.1 (fun i y h1 h2 => by simpa [bP] using b1.2.1 i y h1 h2) (fun i y h1 h2 => by simpa [bP] using b1.2.2 i y h1 h2)
  have c2 := countP_prefix (p := fun y => decide (y ≤ mid n')) b2.1 (fun i y h1 h2 => by simpa [bP] using b2.2.1 i y h1 h2) (fun i y h1 h2 => by simpa [bP] using b2.2.2 i y h1 h2)
  refine ⟨p.mem_iff.mp (List.mem_of_getElem? hg), ?_, ?_, ?_, ?_⟩
  · rw [← p.countP_eq, c1]
  · rw [← p.countP_eq, c2]
  · rw [← hl]
    rcases Nat.lt_or_ge (n'.length / 2) r1 with h | h
    · have := b1.2.1 _ _ h hg; simp [bP] at this
    · exact h
  · rw [← hl]
    rcases Nat.lt_or_ge (n'.length / 2) r2 with h | h
    · exact h
    · have := b2.2.2 _ _ h hg; simp [bP] at this

theorem mg_isq {n r1 r2 : Nat} {x iv c : Int} {fI : UInt64} {ng : Bool} {nn dd : Nat} (hI : IsQ fI (4 * iv)) (hx : -100000 ≤ x ∧ x ≤ 100000) (h0 : 0 < iv) (h1 : iv ≤ 1000) (hn : n < 64) (hr : r1 ≤ n) (hr2 : r1 < r2) (hr3 : r2 ≤ n)
    (hc : c * ((r2 : Int) - r1) = iv * (2 * (n : Int) - 4 * r1)) (hcb : c.natAbs < 2 ^ 40) (hng : ng = false) (hnn : nn = n) (hdd : dd = 2) :
    IsQ (Float64.add (Float64.sub (Float64.ofInt x) (Float64.div fI 4611686018427387904)) (Float64.div (Float64.mul fI (Float64.sub (Float64.ofFrac ng nn dd) (Float64.ofInt (r1 : Int)))) (Float64.ofInt ((r2 : Int) - r1))))
      (4 * x - 2 * iv + c) := by
  subst hng hnn hdd
  have q1 : IsQ (Float64.div fI 4611686018427387904) (2 * iv) := isq_div hI isq_two (by decide) (by omega) (by omega)
  have q2 := isq_sub (isq_ofInt (i := x) (by omega)) q1 (by omega)
  have q3 := isq_sub (isq_half nn (by omega)) (isq_ofInt (i := (r1 : Int)) (by omega)) (by omega)
  have hb : (iv * (2 * (nn : Int) - 4 * r1)).natAbs < 2 ^ 40 := by
    rw [Int.natAbs_mul]
    have a1 : iv.natAbs ≤ 1000 := by omega
    have a2 : (2 * (nn : Int) - 4 * r1).natAbs ≤ 1000 := by omega
    have := Nat.mul_le_mul a1 a2
    omega
  have q4 : IsQ (Float64.mul fI (Float64.sub (Float64.ofFrac false nn 2) (Float64.ofInt (r1 : Int)))) (iv * (2 * (nn : Int) - 4 * r1)) :=
    isq_mul hI q3 (by rw [Int.mul_assoc]) (by omega)
  have q5 := isq_ofInt (i := (r2 : Int) - r1) (by omega)
  have q6 := isq_div (c := c) q4 q5 (by omega) (by rw [← hc, Int.mul_left_comm]) (by omega)
  exact isq_add q2 q6 (by omega)
end partMg

section partWsT
theorem fillWt : lw.prog = lw.prog ∧ hd.heap_39 = hd.heap_39 := by
  k_fill
  exact ⟨rfl, rfl⟩

def wsDef : Stmt := match PySem.Challenge.pw_rs0159_01.main.body with
  | [_, _, _, _, _, _, _, .ClassDef _ _ _ (_ :: f :: _) _ _ _ _ _ _ _, _, _] => f
  | _ => .Pass default
def wsScope : Scope := match wsDef with
  | .FunctionDef _ _ _ _ _ _ sc _ _ _ => sc
  | _ => default
def wsLoop : List Stmt := match wsDef with
  | .FunctionDef _ _ [_, _, _, _, .For _ _ b _ _, _, _, _, _] _ _ _ _ _ _ _ => b
  | _ => []

/-- the frame and the ledger as they stand between two turns of the loop over the signs -/
def WsSt (h₀ : Heap) (L : Addr) (kS kT : Tok) (I : Addr) (oI : Obj) (rest : List (Addr × Obj)) (vself : Value) (b n nt : Int) (cs : List Int) (s₁ s₂ : Shared) : Prop :=
  ∃ (h' : Heap) (tk : Nat) (m' : Str → Option Value) (lc : Addr) (k : Nat) (vs : List Value) (tb tn tt : Tok), s₂ = { s₁ with heap := h', toks := tk } ∧ Fr h₀ L h' m' ∧
    News h₀ L h' ((lc, listOf vs.toArray k) :: (I, oI) :: rest) ∧ @Ne Nat I lc ∧ OwnOff rest [lc] ∧ IntsAre vs cs ∧ m' "b" = some (.int b tb) ∧ m' "n" = some (.int n tn) ∧ m' "nt" = some (.int nt tt) ∧ m' "count" = some (.ref lc) ∧
    m' "S" = some (.str " " kS) ∧ m' "T" = some (.str "\t" kT) ∧ m' "self" = some vself

def wsBump (b : Int) (cs : List Int) : List Int := let c2 := if b ≥ cs.length then cs ++ List.replicate (b - cs.length + 1).toNat 0 else cs; c2.set b.toNat (c2.getD b.toNat 0 + 1)

def WsPost (h₀ : Heap) (L : Addr) (kS kT : Tok) (I : Addr) (oI : Obj) (rest : List (Addr × Obj)) (vself : Value) (c : Nat) (b n nt : Int) (cs : List Int) (s₁ : Shared) (f : Flow) (s₂ : Shared) : Prop :=
  match f with
  | .ret _ => False
  | .brk => c ≠ 32 ∧ c ≠ 9 ∧ WsSt h₀ L kS kT I oI rest vself b n nt cs s₁ s₂
  | _ => (c = 32 ∧ WsSt h₀ L kS kT I oI rest vself (b + 1) (n + 1) nt cs s₁ s₂) ∨ (c = 9 ∧ WsSt h₀ L kS kT I oI rest vself 0 (n + 1) (nt + 1) (wsBump b cs) s₁ s₂)

theorem news_drop3 {h₀ h : Heap} {L : Addr} {a b c d : Addr × Obj} {r : List (Addr × Obj)} (N : News h₀ L h (a :: b :: c :: d :: r)) : News h₀ L h (a :: r) := fun q hq => by
  rcases List.mem_cons.mp hq with rfl | hq
  · exact N _ (List.mem_cons_self ..)
  · exact N _ (List.mem_cons_of_mem _ (List.mem_cons_of_mem _ (List.mem_cons_of_mem _ (List.mem_cons_of_mem _ hq))))
theorem ws_one {c d : Nat} (h : ((⟨#[c]⟩ : Str) == ⟨#[d]⟩) = true) : c = d := by
  have h2 : (⟨#[c]⟩ : Str) = ⟨#[d]⟩ := by simpa using h
  injection h2 with h3
  simpa using h3
theorem ws_not {c d : Nat} (h : ((⟨#[c]⟩ : Str) == ⟨#[d]⟩) = false) : c ≠ d := by
  intro e
  subst e
  simp at h
theorem ws_sp : (Str.ofString " ") = ⟨#[32]⟩ := by decide +kernel
theorem ws_tb : (Str.ofString "\t") = ⟨#[9]⟩ := by decide +kernel
theorem ownOff_of : ∀ {d : Addr} {l : List (Addr × Obj)}, AllLt d l → OwnOff l [d]
  | _, [], _ => fun _ hp => nomatch hp
  | d, p :: r, h => fun q hq b hb => by
    rw [List.mem_singleton.mp hb]
    rcases List.mem_cons.mp hq with rfl | hq
    · exact Nat.ne_of_lt h.1
    · exact ownOff_of h.2 q hq d (List.mem_singleton.mpr rfl)
theorem bump_in {b : Int} {ns : List Int} (h : ¬ (ns.length : Int) ≤ b) : wsBump b ns = ns.set b.toNat (ns.getD b.toNat 0 + 1) := by
  unfold wsBump
  rw [if_neg (by omega)]
theorem bump_out {b : Int} {ns : List Int} (h : (ns.length : Int) ≤ b) : wsBump b ns = (ns ++ (List.replicate (b - ns.length + 1).toNat [0]).flatten).set b.toNat ((ns ++ (List.replicate (b - ns.length + 1).toNat [0]).flatten).getD b.toNat 0 + 1) := by
  unfold wsBump
  rw [if_pos (by omega)]
  have : (List.replicate (b - ns.length + 1).toNat [(0 : Int)]).flatten = List.replicate (b - ns.length + 1).toNat 0 := by
    generalize (b - ns.length + 1).toNat = k
    induction k with
    | zero => rfl
    | succ k ih => simp [List.replicate_succ, ih]
  rw [this]

theorem ws_turn {w : World} {p : Program} {loose : List Str} {mean : ExcName → Option Value} {mg mb : Str → Option Value} {rest : List (Addr × Obj)}
    {dp un : Nat} {gd : Option (List Code)} {cn : Str} {cs : Scope} {a : Addr} {ccd : Value} {cl : List (Str × Addr)} {outer outer2 : List Env} {A₀ : Around} {base h₀ : Heap} {L Lc : Addr} {m : Str → Option Value} {s : Shared} {E : Value → Shared → Prop} {cd : Code}
    {c : Nat} {tc tb tn tt kS kT : Tok} {b n nt : Int} {lc I : Addr} {oI : Obj} {vself : Value} {vs : List Value} {ns : List Int} {k : Nat}
    (B : Below A₀ base outer2 h₀) (X : (hd.heap_39 w.params).In h₀) (T : Top p loose mean mg mb h₀)
    (F : Fr h₀ L s.heap (fun y => if y = "ch" then some (.str ⟨#[c]⟩ tc) else if y = "b" then some (.int b tb) else if y = "n" then some (.int n tn) else if y = "nt" then some (.int nt tt) else if y = "count" then some (.ref lc) else
      if y = "S" then some (.str " " kS) else if y = "T" then some (.str "\t" kT) else if y = "self" then some vself else m y))
    (N : News h₀ L s.heap ((lc, listOf vs.toArray k) :: (I, oI) :: rest)) (hI : @Ne Nat I lc) (hlr : OwnOff rest [lc]) (hi : IntsAre vs ns) (hb0 : 0 ≤ b) (hb1 : b ≤ 40) (hl : ns.length ≤ 40) (hc : ∀ x ∈ ns, 0 ≤ x ∧ x ≤ 100)
    (hdp : dp + 1 < recursionLimit) (hun : un + 8 < cLine) :
    wpAny (model lw.prog w) (((ktrTop dp un gd cn cs Lc a ccd cl outer).under cd).deeper (envOf "Whitespace.__init__" wsScope L 94 (.ref 93))) (execs wsLoop (envOf "Whitespace.__init__" wsScope L 94 (.ref 93)))
      (WsPost h₀ L kS kT I oI rest vself c b n nt ns s) E s := by
  dsimp only [wsLoop, wsScope, wsDef, PySem.Challenge.pw_rs0159_01]
  k_fold
  k_steps
  · rename ((Str.mk _ == _) = true) => h9
    rw [ws_sp] at h9
    exact .inl ⟨ws_one h9, _, _, _, _, _, _, _, _, _, rfl, by assumption, by assumption, by assumption, by assumption, by assumption, rfl, rfl, rfl, rfl, rfl, rfl, rfl⟩
  · rename ((Str.mk _ == _) = true) => h9
    rw [ws_tb] at h9
    rename (_ ∧ _) => l9
    refine .inr ⟨ws_one h9, ?_⟩
    rw [bump_out (by assumption)]
    rename News _ _ _ _ => n9
    exact ⟨_, _, _, _, _, _, _, _, _, rfl, by assumption, news_drop3 n9, Nat.ne_of_lt l9.2.2.2.1, ownOff_of l9.2.2.2.2, by assumption, rfl, rfl, rfl, rfl, rfl, rfl, rfl⟩
  · rename ((Str.mk _ == _) = true) => h9
    rw [ws_tb] at h9
    refine .inr ⟨ws_one h9, ?_⟩
    rw [bump_in (by assumption)]
    exact ⟨_, _, _, _, _, _, _, _, _, rfl, by assumption, by assumption, by assumption, by assumption, by assumption, rfl, rfl, rfl, rfl, rfl, rfl, rfl⟩
  · rename ((Str.mk _ == Str.ofString " ") = false) => h8
    rename ((Str.mk _ == Str.ofString "\t") = false) => h9
    rw [ws_sp] at h8
    rw [ws_tb] at h9
    exact ⟨ws_not h8, ws_not h9, _, _, _, _, _, _, _, _, _, rfl, F, N, hI, hlr, hi, rfl, rfl, rfl, rfl, rfl, rfl, rfl⟩
end partWsT

section partWsL
def wsStep (q : Int × Int × Int × List Int) (c : Nat) : Int × Int × Int × List Int :=
  if c = 32 then (q.1 + 1, q.2.1 + 1, q.2.2.1, q.2.2.2) else (0, q.2.1 + 1, q.2.2.1 + 1, wsBump q.1 q.2.2.2)
def isWs (c : Nat) : Bool := c == 32 || c == 9
def wsFold (l : List Nat) : Int × Int × Int × List Int := l.foldl wsStep (0, 0, 0, [])
def wsInv (i : Nat) (q : Int × Int × Int × List Int) : Prop := 0 ≤ q.1 ∧ q.1 ≤ i ∧ q.2.2.2.length ≤ i ∧ ∀ x ∈ q.2.2.2, 0 ≤ x ∧ x ≤ i

theorem bump_len {b : Int} {cs : List Int} {i : Nat} (h1 : b ≤ i) (h2 : cs.length ≤ i) : (wsBump b cs).length ≤ i + 1 := by
  unfold wsBump
  simp only [List.length_set]
  split
  · simp only [List.length_append, List.length_replicate]; omega
  · omega
theorem mem_set_of {x : Int} : ∀ {l : List Int} {k : Nat} {y : Int}, x ∈ l.set k y → x = y ∨ x ∈ l
  | [], _, _, h => by simp at h
  | a :: l, 0, y, h => by
    rcases List.mem_cons.mp (by simpa using h) with h | h
    · exact .inl h
    · exact .inr (List.mem_cons_of_mem _ h)
  | a :: l, k + 1, y, h => by
    rcases List.mem_cons.mp (by simpa using h) with h | h
    · exact .inr (h ▸ List.mem_cons_self ..)
    · rcases mem_set_of h with h | h
      · exact .inl h
      · exact .inr (List.mem_cons_of_mem _ h)
theorem bump_mem {b : Int} {cs : List Int} {i : Nat} (hc : ∀ x ∈ cs, 0 ≤ x ∧ x ≤ (i : Int)) : ∀ x ∈ wsBump b cs, 0 ≤ x ∧ x ≤ ((i + 1 : Nat) : Int) := by
  have key : ∀ l : List Int, (∀ x ∈ l, 0 ≤ x ∧ x ≤ (i : Int)) → ∀ x ∈ l.set b.toNat (l.getD b.toNat 0 + 1), 0 ≤ x ∧ x ≤ ((i + 1 : Nat) : Int) := by
    intro l hl x hx
    rcases mem_set_of hx with h | h
    · have : 0 ≤ l.getD b.toNat 0 ∧ l.getD b.toNat 0 ≤ (i : Int) := by
        rcases Nat.lt_or_ge b.toNat l.length with h3 | h3
        · exact hl _ (by rw [List.getD_eq_getElem?_getD, List.getElem?_eq_getElem h3]; exact List.getElem_mem h3)
        · rw [List.getD_eq_getElem?_getD, List.getElem?_eq_none h3]
          exact ⟨Int.le_refl _, by simp⟩
      rw [h]; push_cast; omega
    · have := hl x h; push_cast; omega
  unfold wsBump
  intro x
  refine key _ ?_ x
  split
  · intro x hx
    rcases List.mem_append.mp hx with h | h
    · exact hc x h
    · rw [(List.mem_replicate.mp h).2]
      exact ⟨Int.le_refl _, by simp⟩
  · exact hc
theorem inv_step {i : Nat} {q : Int × Int × Int × List Int} {c : Nat} (h : wsInv i q) : wsInv (i + 1) (wsStep q c) := by
  obtain ⟨h1, h2, h3, h4⟩ := h
  unfold wsStep
  split
  · refine ⟨by dsimp only; omega, by dsimp only; push_cast; omega, by dsimp only; omega, fun x hx => ?_⟩
    have := h4 x hx; push_cast; omega
  · exact ⟨Int.le_refl _, by push_cast; omega, bump_len h2 h3, bump_mem h4⟩

theorem fold_snoc {l : List Nat} {i c : Nat} (h : l[i]? = some c) : wsFold (l.take (i + 1)) = wsStep (wsFold (l.take i)) c := by
  unfold wsFold
  rw [List.take_add_one, h]; simp

theorem takeWhile_at {l : List Nat} {i c : Nat} (h : l[i]? = some c) (hp : ∀ y ∈ l.take i, isWs y = true) (hc : isWs c = false) : l.takeWhile isWs = l.take i := by
  induction l generalizing i with
  | nil => simp at h
  | cons a l ih =>
    cases i with
    | zero =>
      have e : a = c := by simpa using h
      subst e
      simp [hc]
    | succ i =>
      have ha : isWs a = true := hp a (by simp)
      rw [List.takeWhile_cons, ha, if_pos rfl, List.take_succ_cons]
      congr 1
      exact ih (by simpa using h) (fun y hy => hp y (by simp [hy]))
theorem takeWhile_all {l : List Nat} (hp : ∀ y ∈ l, isWs y = true) : l.takeWhile isWs = l := by
  induction l with
  | nil => rfl
  | cons a l ih =>
    rw [List.takeWhile_cons, hp a (by simp), if_pos rfl, ih fun y hy => hp y (by simp [hy])]

theorem fr_same {h₀ h : Heap} {L : Addr} {m m' : Str → Option Value} (F : Fr h₀ L h m) (e : ∀ y, m y = m' y) : Fr h₀ L h m' := (funext e : m = m') ▸ F

/-- what stands before the i-th sign -/
def WsJ (x : Str) (kS kT : Tok) (rest : List (Addr × Obj)) (vself : Value) (i : Nat) (m₁ : Str → Option Value) (news₁ : List (Addr × Obj)) : Prop :=
  ∃ (lc : Addr) (k : Nat) (vs : List Value) (tb tn tt : Tok), (∀ y ∈ x.cps.toList.take i, isWs y = true) ∧ wsInv i (wsFold (x.cps.toList.take i)) ∧ news₁ = (lc, listOf vs.toArray k) :: rest ∧ OwnOff rest [lc] ∧ IntsAre vs (wsFold (x.cps.toList.take i)).2.2.2 ∧
    m₁ "b" = some (.int (wsFold (x.cps.toList.take i)).1 tb) ∧ m₁ "n" = some (.int (wsFold (x.cps.toList.take i)).2.1 tn) ∧ m₁ "nt" = some (.int (wsFold (x.cps.toList.take i)).2.2.1 tt) ∧ m₁ "count" = some (.ref lc) ∧
    m₁ "S" = some (.str " " kS) ∧ m₁ "T" = some (.str "\t" kT) ∧ m₁ "self" = some vself

theorem ws_loop_any {w : World} {p : Program} {loose : List Str} {mean : ExcName → Option Value} {mg mb : Str → Option Value} {rest : List (Addr × Obj)}
    {dp un : Nat} {gd : Option (List Code)} {cn : Str} {cs : Scope} {a : Addr} {ccd : Value} {cl : List (Str × Addr)} {outer outer2 : List Env} {A₀ : Around} {base h₀ : Heap} {L Lc : Addr} {m : Str → Option Value} {s : Shared} {E : Value → Shared → Prop} {cd : Code}
    {Q : Flow → Shared → Prop} {x : Str} {tx kS kT : Tok} {vself : Value} {lc : Addr} {k : Nat} {tb tn tt : Tok} {I : Addr} {h2 : Heap} {ty : String}
    (B : Below A₀ base outer2 h₀) (X : (hd.heap_39 w.params).In h₀) (T : Top p loose mean mg mb h₀)
    (W : Walks lw.prog w (((ktrTop dp un gd cn cs Lc a ccd cl outer).under cd).deeper (envOf "Whitespace.__init__" wsScope L 94 (.ref 93))) I [I] [I] x.cps.size (SignAt x) (fun i h => h.IsStrIter I ty x tx i))
    (hIL : L < I) (hI0 : h₀.get? I = none) (hst : h2.IsStrIter I ty x tx 0)
    (F : Fr h₀ L h2 m) (N : News h₀ L h2 ((lc, listOf #[] k) :: rest)) (hIr : ∀ q ∈ ((lc, listOf #[] k) :: rest), q.1 ≠ I) (hlr : OwnOff rest [lc])
    (hb : m "b" = some (.int 0 tb)) (hn : m "n" = some (.int 0 tn)) (hnt : m "nt" = some (.int 0 tt)) (hc : m "count" = some (.ref lc)) (hS : m "S" = some (.str " " kS)) (hT : m "T" = some (.str "\t" kT)) (hs : m "self" = some vself)
    (hx : x.cps.size ≤ 40) (hdp : dp + 1 < recursionLimit) (hun : un + 8 < cLine)
    (done : ∀ (h' : Heap) (tk : Nat) (m' : Str → Option Value) (lc : Addr) (k : Nat) (vs : List Value) (tb tn tt : Tok), wsInv 40 (wsFold (x.cps.toList.takeWhile isWs)) → IntsAre vs (wsFold (x.cps.toList.takeWhile isWs)).2.2.2 → OwnOff rest [lc] →
      Fr h₀ L h' (fun y => if y = "b" then some (.int (wsFold (x.cps.toList.takeWhile isWs)).1 tb) else if y = "n" then some (.int (wsFold (x.cps.toList.takeWhile isWs)).2.1 tn) else if y = "nt" then some (.int (wsFold (x.cps.toList.takeWhile isWs)).2.2.1 tt) else
        if y = "count" then some (.ref lc) else if y = "self" then some vself else m' y) → News h₀ L h' ((lc, listOf vs.toArray k) :: rest) → Q .next { s with heap := h', toks := tk }) :
    LoopAtV lw.prog w (((ktrTop dp un gd cn cs Lc a ccd cl outer).under cd).deeper (envOf "Whitespace.__init__" wsScope L 94 (.ref 93))) h₀ (envOf "Whitespace.__init__" wsScope L 94 (.ref 93)) "ch" wsLoop Q E (.ref I) { s with heap := h2 } := by
  have toEnd : ∀ (h' : Heap) (tk : Nat) (m₁ : Str → Option Value) (lc : Addr) (k : Nat) (vs : List Value) (tb tn tt : Tok) (q : Int × Int × Int × List Int), q = wsFold (x.cps.toList.takeWhile isWs) → wsInv 40 q → IntsAre vs q.2.2.2 → OwnOff rest [lc] → Fr h₀ L h' m₁ →
      News h₀ L h' ((lc, listOf vs.toArray k) :: rest) → m₁ "b" = some (.int q.1 tb) → m₁ "n" = some (.int q.2.1 tn) → m₁ "nt" = some (.int q.2.2.1 tt) → m₁ "count" = some (.ref lc) → m₁ "self" = some vself → Q .next { s with heap := h', toks := tk } := by
    intro h' tk m₁ lc k vs tb tn tt q hq hv hi ho F₁ N₁ e1 e2 e3 e4 e5
    subst hq
    refine done h' tk m₁ lc k vs tb tn tt hv hi ho (fr_same F₁ fun y => ?_) N₁
    by_cases g1 : y = "b"
    · rw [g1, e1]; rfl
    by_cases g2 : y = "n"
    · rw [g2, e2]; rfl
    by_cases g3 : y = "nt"
    · rw [g3, e3]; rfl
    by_cases g4 : y = "count"
    · rw [g4, e4]; rfl
    by_cases g5 : y = "self"
    · rw [g5, e5]; rfl
    simp only [if_neg g1, if_neg g2, if_neg g3, if_neg g4, if_neg g5]
  refine ⟨I, [I], [I], x.cps.size, SignAt x, _, m, _, WsJ x kS kT rest vself, rfl, W, ?_, ?_, ?_, hst, F, N, ?_, ?_, ?_⟩
  · intro h; exact Nat.ne_of_lt hIL (List.mem_singleton.mp h)
  · intro b hb; rw [List.mem_singleton.mp hb]; exact hI0
  · intro q hq h; exact hIr q hq (List.mem_singleton.mp h)
  · exact ⟨lc, k, [], tb, tn, tt, by simp, ⟨by simp [wsFold], by simp [wsFold], by simp [wsFold], by simp [wsFold]⟩, rfl, hlr, .nil, hb, hn, hnt, hc, hS, hT, hs⟩
  · rintro i v m₁ news₁ s₁ own ⟨hh, tk, rfl⟩ hin ⟨c, u, hcu, rfl⟩ ⟨lc, k, vs, tb, tn, tt, hws, hinv, rfl, hoff, hi, e1, e2, e3, e4, e5, e6, e7⟩ hnw hownI howng hownA hst₁ F₁ N₁
    obtain ⟨oI, hoI, _⟩ := id hst₁
    have hcl : x.cps.toList[i]? = some c := by simpa using hcu
    have hmem := hownA I (List.mem_singleton.mpr rfl) hI0 oI hoI
    have hne : @Ne Nat I lc := fun e => hnw (lc, listOf vs.toArray k) (List.mem_cons_self ..) (List.mem_singleton.mpr e.symm)
    have N₂ : News h₀ L hh ((lc, listOf vs.toArray k) :: (I, oI) :: rest) := fun q hq => by
      rcases List.mem_cons.mp hq with rfl | hq
      · exact N₁ _ (List.mem_append_right _ (List.mem_cons_self ..))
      · rcases List.mem_cons.mp hq with rfl | hq
        · exact N₁ _ (List.mem_append_left _ hmem)
        · exact N₁ _ (List.mem_append_right _ (List.mem_cons_of_mem _ hq))
    have F₂ : Fr h₀ L hh (fun y => if y = "ch" then some (.str ⟨#[c]⟩ u) else if y = "b" then some (.int (wsFold (x.cps.toList.take i)).1 tb) else if y = "n" then some (.int (wsFold (x.cps.toList.take i)).2.1 tn) else if y = "nt" then some (.int (wsFold (x.cps.toList.take i)).2.2.1 tt) else if y = "count" then some (.ref lc) else
      if y = "S" then some (.str " " kS) else if y = "T" then some (.str "\t" kT) else if y = "self" then some vself else m₁ y) := by
      refine fr_same F₁ fun y => ?_
      by_cases g0 : y = "ch"
      · rw [g0]; rfl
      by_cases g1 : y = "b"
      · rw [g1, e1]; rfl
      by_cases g2 : y = "n"
      · rw [g2, e2]; rfl
      by_cases g3 : y = "nt"
      · rw [g3, e3]; rfl
      by_cases g4 : y = "count"
      · rw [g4, e4]; rfl
      by_cases g5 : y = "S"
      · rw [g5, e5]; rfl
      by_cases g6 : y = "T"
      · rw [g6, e6]; rfl
      by_cases g7 : y = "self"
      · rw [g7, e7]; rfl
      simp only [if_neg g0, if_neg g1, if_neg g2, if_neg g3, if_neg g4, if_neg g5, if_neg g6, if_neg g7]
    have hi40 : i ≤ 39 := by omega
    obtain ⟨v1, v2, v3, v4⟩ := hinv
    refine wpAny_mono (ws_turn (dp := dp) (un := un) B X T F₂ N₂ hne hoff hi v1 (by omega) (by omega) (fun z hz => by have := v4 z hz; omega) hdp hun) (fun f s₂ hp => ?_) fun _ _ e => e
    have step : ∀ s₂ c', c' = c → isWs c = true → WsSt h₀ L kS kT I oI rest vself (wsStep (wsFold (x.cps.toList.take i)) c).1 (wsStep (wsFold (x.cps.toList.take i)) c).2.1 (wsStep (wsFold (x.cps.toList.take i)) c).2.2.1 (wsStep (wsFold (x.cps.toList.take i)) c).2.2.2 { s with heap := hh, toks := tk } s₂ →
        LoopStepU h₀ L [I] own (WsJ x kS kT rest vself (i + 1)) { s with heap := hh, toks := tk } .next s₂ := by
      rintro s₂ c' rfl hw ⟨h', tk', m', lc', k', vs', tb', tn', tt', rfl, F', N', hne', hoff', hi', f1, f2, f3, f4, f5, f6, f7⟩
      refine ⟨rfl, h', tk', m', (lc', listOf vs'.toArray k') :: rest, rfl, F', fun q hq => ?_, fun q hq hqI => ?_, ?_⟩
      · rcases List.mem_append.mp hq with hq | hq
        · have hqI := List.mem_singleton.mp (hownI q hq)
          have hqo := howng q hq
          rw [hqI] at hqo
          rw [hoI] at hqo
          have : q = (I, oI) := Prod.ext hqI (Option.some.inj hqo).symm
          rw [this]
          exact N' _ (List.mem_cons_of_mem _ (List.mem_cons_self ..))
        · rcases List.mem_cons.mp hq with rfl | hq
          · exact N' _ (List.mem_cons_self ..)
          · exact N' _ (List.mem_cons_of_mem _ (List.mem_cons_of_mem _ hq))
      · rcases List.mem_cons.mp hq with rfl | hq
        · exact hne' (List.mem_singleton.mp hqI).symm
        · exact hnw q (List.mem_cons_of_mem _ hq) hqI
      · refine ⟨lc', k', vs', tb', tn', tt', ?_, ?_, rfl, hoff', ?_, ?_, ?_, ?_, f4, f5, f6, f7⟩
        · intro y hy
          rw [List.take_add_one, hcl] at hy
          rcases List.mem_append.mp hy with h | h
          · exact hws y h
          · have : y = c' := by simpa using h
            rw [this]; exact hw
        · rw [fold_snoc hcl]; exact inv_step ⟨v1, v2, v3, v4⟩
        · rw [fold_snoc hcl]; exact hi'
        · rw [fold_snoc hcl]; exact f1
        · rw [fold_snoc hcl]; exact f2
        · rw [fold_snoc hcl]; exact f3
    have both : (c = 32 ∧ WsSt h₀ L kS kT I oI rest vself ((wsFold (x.cps.toList.take i)).1 + 1) ((wsFold (x.cps.toList.take i)).2.1 + 1) (wsFold (x.cps.toList.take i)).2.2.1 (wsFold (x.cps.toList.take i)).2.2.2 { s with heap := hh, toks := tk } s₂) ∨
        (c = 9 ∧ WsSt h₀ L kS kT I oI rest vself 0 ((wsFold (x.cps.toList.take i)).2.1 + 1) ((wsFold (x.cps.toList.take i)).2.2.1 + 1) (wsBump (wsFold (x.cps.toList.take i)).1 (wsFold (x.cps.toList.take i)).2.2.2) { s with heap := hh, toks := tk } s₂) →
        LoopStepU h₀ L [I] own (WsJ x kS kT rest vself (i + 1)) { s with heap := hh, toks := tk } .next s₂ := by
      rintro (⟨e, st⟩ | ⟨e, st⟩)
      · refine step s₂ c rfl (by rw [e]; rfl) ?_
        have : wsStep (wsFold (x.cps.toList.take i)) c = ((wsFold (x.cps.toList.take i)).1 + 1, (wsFold (x.cps.toList.take i)).2.1 + 1, (wsFold (x.cps.toList.take i)).2.2.1, (wsFold (x.cps.toList.take i)).2.2.2) := by rw [e]; rfl
        rw [this]; exact st
      · refine step s₂ c rfl (by rw [e]; rfl) ?_
        have : wsStep (wsFold (x.cps.toList.take i)) c = (0, (wsFold (x.cps.toList.take i)).2.1 + 1, (wsFold (x.cps.toList.take i)).2.2.1 + 1, wsBump (wsFold (x.cps.toList.take i)).1 (wsFold (x.cps.toList.take i)).2.2.2) := by rw [e]; rfl
        rw [this]; exact st
    cases f with
    | ret v => exact hp.elim
    | brk =>
      obtain ⟨n1, n2, h', tk', m', lc', k', vs', tb', tn', tt', rfl, F', N', hne', hoff', hi', f1, f2, f3, f4, f5, f6, f7⟩ := hp
      have hw : isWs c = false := by simp [isWs, n1, n2]
      refine LoopStepV.brk (toEnd h' tk' m' lc' k' vs' tb' tn' tt' _ (by rw [takeWhile_at hcl hws hw]) ⟨v1, by omega, by omega, fun z hz => by have := v4 z hz; omega⟩ hi' hoff' F' (fun q hq => ?_) f1 f2 f3 f4 f7)
      rcases List.mem_cons.mp hq with rfl | hq
      · exact N' _ (List.mem_cons_self ..)
      · exact N' _ (List.mem_cons_of_mem _ (List.mem_cons_of_mem _ hq))
    | next => exact .next (both hp)
    | cont => exact .cont (both hp)
  · rintro h' tk m' news' F' N' _ ⟨lc, k, vs, tb, tn, tt, hws, hinv, rfl, hoff, hi, e1, e2, e3, e4, e5, e6, e7⟩
    have hfull : x.cps.toList.take x.cps.size = x.cps.toList := by rw [List.take_of_length_le (by simp)]
    rw [hfull] at hws hinv hi e1 e2 e3
    obtain ⟨v1, v2, v3, v4⟩ := hinv
    exact toEnd h' tk m' lc k vs tb tn tt _ (by rw [takeWhile_all hws]) ⟨v1, by omega, by omega, fun z hz => by have := v4 z hz; omega⟩ hi hoff F' N' e1 e2 e3 e4 e7
end partWsL

section partWs

theorem ws_loop {w : World} {p : Program} {loose : List Str} {mean : ExcName → Option Value} {mg mb : Str → Option Value} {rest : List (Addr × Obj)}
    {dp un : Nat} {gd : Option (List Code)} {cn : Str} {cs : Scope} {a : Addr} {ccd : Value} {cl : List (Str × Addr)} {outer outer2 : List Env} {A₀ : Around} {base h₀ : Heap} {L Lc : Addr} {m : Str → Option Value} {s : Shared} {E : Value → Shared → Prop} {cd : Code}
    {Q : Flow → Shared → Prop} {x : Str} {tx kS kT : Tok} {vself : Value} {lc : Addr} {k : Nat} {tb tn tt : Tok}
    (B : Below A₀ base outer2 h₀) (X : (hd.heap_39 w.params).In h₀) (T : Top p loose mean mg mb h₀)
    (F : Fr h₀ L s.heap m) (N : News h₀ L s.heap ((lc, listOf #[] k) :: rest)) (hlr : OwnOff rest [lc])
    (hb : m "b" = some (.int 0 tb)) (hn : m "n" = some (.int 0 tn)) (hnt : m "nt" = some (.int 0 tt)) (hc : m "count" = some (.ref lc)) (hS : m "S" = some (.str " " kS)) (hT : m "T" = some (.str "\t" kT)) (hs : m "self" = some vself)
    (hx : x.cps.size ≤ 40) (hdp : dp + 1 < recursionLimit) (hun : un + 8 < cLine)
    (done : ∀ (h' : Heap) (tk : Nat) (m' : Str → Option Value) (lc : Addr) (k : Nat) (vs : List Value) (tb tn tt : Tok), wsInv 40 (wsFold (x.cps.toList.takeWhile isWs)) → IntsAre vs (wsFold (x.cps.toList.takeWhile isWs)).2.2.2 → OwnOff rest [lc] →
      Fr h₀ L h' (fun y => if y = "b" then some (.int (wsFold (x.cps.toList.takeWhile isWs)).1 tb) else if y = "n" then some (.int (wsFold (x.cps.toList.takeWhile isWs)).2.1 tn) else if y = "nt" then some (.int (wsFold (x.cps.toList.takeWhile isWs)).2.2.1 tt) else
        if y = "count" then some (.ref lc) else if y = "self" then some vself else m' y) → News h₀ L h' ((lc, listOf vs.toArray k) :: rest) → Q .next { s with heap := h', toks := tk }) :
    wpAny (model lw.prog w) (((ktrTop dp un gd cn cs Lc a ccd cl outer).under cd).deeper (envOf "Whitespace.__init__" wsScope L 94 (.ref 93))) (pyIter (.str x tx))
      (fun it s₂ => LoopAtV lw.prog w (((ktrTop dp un gd cn cs Lc a ccd cl outer).under cd).deeper (envOf "Whitespace.__init__" wsScope L 94 (.ref 93))) h₀ (envOf "Whitespace.__init__" wsScope L 94 (.ref 93)) "ch" wsLoop Q E it s₂) E s := by
  have hLs : L < s.heap.objs.size := F.ns.lt
  have hI0 : h₀.get? s.heap.objs.size = none := next_is_new F
  have hh : Around.handled (((ktrTop dp un gd cn cs Lc a ccd cl outer).under cd).deeper (envOf "Whitespace.__init__" wsScope L 94 (.ref 93))) = none := rfl
  have fin : ∀ (o : Obj) (ty : String), Walks lw.prog w (((ktrTop dp un gd cn cs Lc a ccd cl outer).under cd).deeper (envOf "Whitespace.__init__" wsScope L 94 (.ref 93))) s.heap.objs.size [s.heap.objs.size] [s.heap.objs.size] x.cps.size (SignAt x) (fun i h => h.IsStrIter s.heap.objs.size ty x tx i) →
      (s.heap.push o).IsStrIter s.heap.objs.size ty x tx 0 →
      LoopAtV lw.prog w (((ktrTop dp un gd cn cs Lc a ccd cl outer).under cd).deeper (envOf "Whitespace.__init__" wsScope L 94 (.ref 93))) h₀ (envOf "Whitespace.__init__" wsScope L 94 (.ref 93)) "ch" wsLoop Q E (.ref s.heap.objs.size) { s with heap := s.heap.push o } := fun o ty W hst =>
    ws_loop_any B X T W hLs hI0 hst (F.push o) (fun q hq => ⟨Heap.get?_push_of_some _ (N q hq).1, (N q hq).2⟩) (fun q hq e => by have := Heap.lt_size (N q hq).1; rw [e] at this; exact Nat.lt_irrefl _ this) hlr hb hn hnt hc hS hT hs hx hdp hun done
  cases ha : x.cps.all (· < 128)
  · exact wpAny_pyIter_wide ha (fin _ _ (Walks.strWide hh _ x tx) ⟨_, Heap.get?_push_size _ rfl, rfl, rfl⟩)
  · exact wpAny_pyIter_ascii ha (fin _ _ (Walks.strAscii hh _ x tx) ⟨_, Heap.get?_push_size _ rfl, rfl, rfl⟩)

theorem ownOff3 {a b c : Addr × Obj} {r : List (Addr × Obj)} {d : Addr} (h : OwnOff (a :: b :: c :: r) [d]) : @Ne Nat a.1 d ∧ @Ne Nat b.1 d ∧ @Ne Nat c.1 d ∧ OwnOff r [d] :=
  ⟨h a (List.mem_cons_self ..) d (List.mem_singleton.mpr rfl), h b (List.mem_cons_of_mem _ (List.mem_cons_self ..)) d (List.mem_singleton.mpr rfl), h c (List.mem_cons_of_mem _ (List.mem_cons_of_mem _ (List.mem_cons_self ..))) d (List.mem_singleton.mpr rfl),
    fun q hq => h q (List.mem_cons_of_mem _ (List.mem_cons_of_mem _ (List.mem_cons_of_mem _ hq)))⟩
theorem inv_len {q : Int × Int × Int × List Int} (h : wsInv 40 q) : q.2.2.2.length ≤ 40 := h.2.2.1
/-- an instance of Whitespace as its __init__ leaves it: what indent_level reads -/
def WsObj (P : Params) (x : Addr) (q : Int × Int × Int × List Int) (own : List (Addr × Obj)) : Prop :=
  ∃ (dx nm ct : Addr) (vs : List Value) (t1 t2 t3 t4 t5 tb tt : Tok) (v1 v2 v5 : Value), IntsAre vs q.2.2.2 ∧
    own = [(nm, { cls := .type "tuple", data := .seq #[.ref ct, .int q.1 tb] }), (ct, { cls := .type "tuple", data := .seq vs.toArray }), (x, instObj 139 dx),
      (dx, dictOf [⟨PyData.keyHash P "raw", .str "raw" t1, v1⟩, ⟨PyData.keyHash P "n", .str "n" t2, v2⟩, ⟨PyData.keyHash P "nt", .str "nt" t3, .int q.2.2.1 tt⟩, ⟨PyData.keyHash P "norm", .str "norm" t4, .ref nm⟩, ⟨PyData.keyHash P "is_simple", .str "is_simple" t5, v5⟩] 5)]
theorem WsObj.mk_ {P : Params} {x dx nm ct : Addr} {q : Int × Int × Int × List Int} {vs : List Value} {t1 t2 t3 t4 t5 tb tt : Tok} {v1 v2 v5 : Value} (h : IntsAre vs q.2.2.2) : WsObj P x q [(nm, { cls := .type "tuple", data := .seq #[.ref ct, .int q.1 tb] }), (ct, { cls := .type "tuple", data := .seq vs.toArray }), (x, instObj 139 dx),
      (dx, dictOf [⟨PyData.keyHash P "raw", .str "raw" t1, v1⟩, ⟨PyData.keyHash P "n", .str "n" t2, v2⟩, ⟨PyData.keyHash P "nt", .str "nt" t3, .int q.2.2.1 tt⟩, ⟨PyData.keyHash P "norm", .str "norm" t4, .ref nm⟩, ⟨PyData.keyHash P "is_simple", .str "is_simple" t5, v5⟩] 5)] :=
  ⟨dx, nm, ct, vs, t1, t2, t3, t4, t5, tb, tt, v1, v2, v5, h, rfl⟩
theorem news_ws {h₀ h : Heap} {L : Addr} {a b c d e f : Addr × Obj} {r : List (Addr × Obj)} (N : News h₀ L h (a :: b :: c :: d :: e :: f :: r)) : News h₀ L h ([a, b, e, f] ++ r) := fun q hq => by
  refine N q ?_
  simp only [List.cons_append, List.nil_append, List.mem_cons] at hq ⊢
  rcases hq with h | h | h | h | h
  · exact .inl h
  · exact .inr (.inl h)
  · exact .inr (.inr (.inr (.inr (.inl h))))
  · exact .inr (.inr (.inr (.inr (.inr (.inl h)))))
  · exact .inr (.inr (.inr (.inr (.inr (.inr h)))))
theorem allLt_mem {d : Addr} {l : List (Addr × Obj)} (h : AllLt d l) (q : Addr × Obj) (hq : q ∈ l) : q.1 < d := by
  induction l with
  | nil => cases hq
  | cons p r ih =>
    rcases List.mem_cons.mp hq with e | hq
    · rw [e]; exact h.1
    · exact ih h.2 hq
theorem off_ws {n1 n2 x dx : Addr} {o1 o2 o3 o4 : Obj} {news : List (Addr × Obj)} (h1 : AllLt n1 news) (h2 : AllLt n2 news) (h3 : ∀ p ∈ news, p.1 < dx) (h4 : dx < x) : OwnOff [(n1, o1), (n2, o2), (x, o3), (dx, o4)] (news.map (·.1)) := by
  intro p hp b hb
  obtain ⟨q, hq, rfl⟩ := List.mem_map.mp hb
  simp only [List.mem_cons, List.not_mem_nil, or_false] at hp
  rcases hp with rfl | rfl | rfl | rfl
  · exact Nat.ne_of_gt (allLt_mem h1 q hq)
  · exact Nat.ne_of_gt (allLt_mem h2 q hq)
  · exact Nat.ne_of_gt (Nat.lt_trans (h3 q hq) h4)
  · exact Nat.ne_of_gt (h3 q hq)
section
local macro_rules | `(tactic| walk_at "pyIter str") => `(tactic| (k_here; (rename Fr _ _ _ _ => lF'); (rename News _ _ _ _ => lN'); (rename (_ ∧ _) => l9'); (with_unfolding_all refine' ws_loop ?k1 ?k2 ?k3 lF' lN' ?k4 ?k5 ?k6 ?k7 ?k8 ?k9 ?k10 ?k11 ?k12 ?k13 ?k14 ?_; (case k1 => k_asm); (case k2 => k_asm); (case k3 => k_asm); (case k4 => exact ownOff_of l9'); (case k5 => rfl); (case k6 => rfl); (case k7 => rfl); (case k8 => rfl); (case k9 => rfl); (case k10 => rfl); (case k11 => rfl); (case k12 => assumption); (case k13 => assumption); (case k14 => assumption)); (clear lF' lN'); intro h' tk' m' lc' k' vs' tb' tn' tt' v' i' o' F' N'; (obtain ⟨z1, z2, z3, z4⟩ := ownOff3 o'); (have vl' := inv_len v'); (have il' := IntsAre.length i')))
local macro_rules | `(tactic| walk_at "call type:tuple") => `(tactic| (k_here; (with_reducible show wpAny _ _ (call (Value.type _) [Value.ref _]) _ _ _); k_dflt (refine' kde_tupleOf ?k1 ?k2 ?k3 ?k4 ?k5 ?_; (case k1 => k_asm); (case k2 => k_asm); (case k3 => exact mine_list (by k_asm) (by k_mem)); (case k4 => (rw [List.size_toArray]; omega)); (case k5 => exact List.toList_toArray)); intro D' h' F' N' l1; (try k_lt l1); (try k_sweep)))
theorem ws_call {w : World} {p : Program} {loose : List Str} {mean : ExcName → Option Value} {mg mb : Str → Option Value} {news : List (Addr × Obj)}
    {dp un : Nat} {gd : Option (List Code)} {cn : Str} {cs : Scope} {a : Addr} {ccd : Value} {cl : List (Str × Addr)} {outer : List Env} {A₀ : Around} {base h₀ : Heap} {L : Addr} {m : Str → Option Value} {s : Shared} {Q E : Value → Shared → Prop}
    {x : Str} {tx : Tok}
    (B : Below A₀ base outer h₀) (F : Fr h₀ L s.heap m) (X : (hd.heap_39 w.params).In h₀) (N : News h₀ L s.heap news) (T : Top p loose mean mg mb h₀) (hk : cs.kind = .function)
    (hx40 : x.cps.size ≤ 40)
    (hdp : dp + 1 < recursionLimit) (hun : un + 8 < cLine)
    (hret : ∀ (y : Addr) (own : List (Addr × Obj)) (h' : Heap) (tk' : Nat), WsObj w.params y (wsFold (x.cps.toList.takeWhile isWs)) own → Fr h₀ L h' m → News h₀ L h' (own ++ news) → OwnOff own (news.map (·.1)) → Q (.ref y) { s with heap := h', toks := tk' }) :
    wpAny (model lw.prog w) (ktrTop dp un gd cn cs L a ccd cl outer) (call (.ref 139) [.str x tx]) Q E s := by
  k_dflt (refine' call_cls ?k1 ?k2 ?k3 ?k4 ?k5 ?k6 ?_; (case k1 => k_asm); (case k2 => k_asm); (case k3 => k_asm); (case k4 => k_is); (case k5 => k_is); (case k6 => k_is); k_whole; intro x' d' h' F' N' l1 l2; (try k_lt l1); (try k_lt2 l2); (try k_sweep))
  k_dflt cell_enter
  k_steps
  (with_reducible rename News h₀ L _ _ => n9); (with_reducible rename (_ ∧ _ ∧ _ ∧ _ ∧ _ ∧ AllLt _ _) => g1); (with_reducible rename (_ ∧ _ ∧ _ ∧ _ ∧ AllLt _ _) => g2); (with_reducible rename IntsAre _ _ => i9)
  exact hret _ _ _ _ (WsObj.mk_ i9) (by assumption) (news_ws n9) (off_ws g1.2.2.2.2.2 g2.2.2.2.2 l1 l2)
end
end partWs

section partIl
local macro_rules | `(tactic| walk_at "no such key") => `(tactic| skip)
theorem mine_tup {h h₀ : Heap} {L D : Addr} {news : List (Addr × Obj)} {vs : List Value} (N : News h₀ L h news) (hm : (D, ({ cls := .type "tuple", data := .seq vs.toArray } : Obj)) ∈ news) : IsTup h D vs.toArray := ⟨_, (N _ hm).1, rfl, 0, rfl⟩
local macro_rules | `(tactic| walk_at "call builtin:len") => `(tactic| (k_here; (with_reducible show wpAny _ _ (call (Value.builtin _) [Value.ref _]) _ _ _); (with_unfolding_all refine' len_tuple (mine_tup ?k1 ?k2) ?k3 ?_; (case k1 => k_asm); (case k2 => k_mem); (case k3 => (rw [List.size_toArray]; omega)))))
def ilSum (d : Int) (ns : List Int) (pre : List Int) : Int := (pre.map (fun i => Int.fdiv i d * ns.getD i.toNat 0)).sum
theorem ilSum_snoc (d : Int) (ns pre : List Int) (i : Int) : ilSum d ns (pre ++ [i]) = ilSum d ns pre + Int.fdiv i d * ns.getD i.toNat 0 := by
  unfold ilSum; simp
theorem getD_ok {ns : List Int} (hc : ∀ y ∈ ns, 0 ≤ y ∧ y ≤ 40) (k : Nat) : 0 ≤ ns.getD k 0 ∧ ns.getD k 0 ≤ 40 := by
  rcases Nat.lt_or_ge k ns.length with h | h
  · exact hc _ (by rw [List.getD_eq_getElem?_getD, List.getElem?_eq_getElem h]; exact List.getElem_mem h)
  · rw [List.getD_eq_getElem?_getD, List.getElem?_eq_none h]
    exact ⟨Int.le_refl _, by decide⟩
theorem mul_getD {ns : List Int} (hc : ∀ y ∈ ns, 0 ≤ y ∧ y ≤ 40) (a : Int) (k : Nat) : IntMulOk a (ns.getD k 0) := by
  have := getD_ok hc k
  exact IntMulOk.of_right (intBits_le_64 (by omega) (by omega))
local macro_rules | `(tactic| walk_at "binaryOp Mult int int") => `(tactic| (k_here; with_reducible refine PyProof.Rows.mul_int ?_ (mul_getD (by assumption) _ _)))
theorem il_call {w : World} {p : Program} {loose : List Str} {mean : ExcName → Option Value} {mg mb : Str → Option Value} {news : List (Addr × Obj)}
    {dp un : Nat} {gd : Option (List Code)} {cn : Str} {cs : Scope} {a : Addr} {ccd : Value} {cl : List (Str × Addr)} {outer : List Env} {A₀ : Around} {base h₀ : Heap} {L : Addr} {m : Str → Option Value} {s : Shared} {Q E : Value → Shared → Prop}
    {x dx nm ct : Addr} {b nt : Int} {ns : List Int} {vs : List Value} {t1 t2 t3 t4 t5 tb tt td : Tok} {v1 v2 v5 : Value} {d : Int}
    (B : Below A₀ base outer h₀) (F : Fr h₀ L s.heap m) (X : (hd.heap_39 w.params).In h₀)
    (N : News h₀ L s.heap ((nm, { cls := .type "tuple", data := .seq #[.ref ct, .int b tb] }) :: (ct, { cls := .type "tuple", data := .seq vs.toArray }) :: (x, instObj 139 dx) ::
      (dx, dictOf [⟨PyData.keyHash w.params "raw", .str "raw" t1, v1⟩, ⟨PyData.keyHash w.params "n", .str "n" t2, v2⟩, ⟨PyData.keyHash w.params "nt", .str "nt" t3, .int nt tt⟩, ⟨PyData.keyHash w.params "norm", .str "norm" t4, .ref nm⟩, ⟨PyData.keyHash w.params "is_simple", .str "is_simple" t5, v5⟩] 5) :: news))
    (T : Top p loose mean mg mb h₀) (hk : cs.kind = .function)
    (hi : IntsAre vs ns) (hl : ns.length ≤ 40) (hc : ∀ y ∈ ns, 0 ≤ y ∧ y ≤ 40) (hd0 : 1 ≤ d) (hd8 : d ≤ 8) (hb : 0 ≤ b ∧ b ≤ 40) (hnt : 0 ≤ nt ∧ nt ≤ 40)
    (hdp : dp + 1 < recursionLimit) (hun : un + 8 < cLine)
    (hret : ∀ (t : Tok) (h' : Heap) (tk' : Nat), Fr h₀ L h' m → News h₀ L h' ((nm, { cls := .type "tuple", data := .seq #[.ref ct, .int b tb] }) :: (ct, { cls := .type "tuple", data := .seq vs.toArray }) :: (x, instObj 139 dx) ::
      (dx, dictOf [⟨PyData.keyHash w.params "raw", .str "raw" t1, v1⟩, ⟨PyData.keyHash w.params "n", .str "n" t2, v2⟩, ⟨PyData.keyHash w.params "nt", .str "nt" t3, .int nt tt⟩, ⟨PyData.keyHash w.params "norm", .str "norm" t4, .ref nm⟩, ⟨PyData.keyHash w.params "is_simple", .str "is_simple" t5, v5⟩] 5) :: news) → Q (.int (b + d * (ilSum d ns (rangeKs d (Int.toNat ((ns.length : Int) - d))) + nt)) t) { s with heap := h', toks := tk' }) :
    wpAny (model lw.prog w) (ktrTop dp un gd cn cs L a ccd cl outer) (call (.ref 108) [.ref x, .int d td]) Q E s := by
  have hlv := IntsAre.length hi
  refine wpAny_call ?_
  k_dflt cell_enter
  k_with "state" => first | rfl | (rw [ilSum_snoc]; simp_all)
  k_with "pyIter ref" => k_state (fun pre il => il = ilSum d ns pre) "il"
  k_steps
  subst kInv
  exact hret _ _ _ (by assumption) (by assumption)
end partIl

section partLc
/-- the items that were read, what was put, and what was made for it -/
inductive Tri (G : Nat → Value → Value → List (Addr × Obj) → Prop) : List Value → List Value → List (Addr × Obj) → Prop
  | nil : Tri G [] [] []
  | snoc {vs ys made v y own} : Tri G vs ys made → G vs.length v y own → Tri G (vs ++ [v]) (ys ++ [y]) (own ++ made)
theorem Tri.len {G : Nat → Value → Value → List (Addr × Obj) → Prop} {vs ys made} (h : Tri G vs ys made) : ys.length = vs.length := by
  induction h with
  | nil => rfl
  | snoc _ _ ih => simp [ih]

theorem Tri.get {G : Nat → Value → Value → List (Addr × Obj) → Prop} {vs ys made} (h : Tri G vs ys made) : ∀ (i : Nat) (v y : Value), vs[i]? = some v → ys[i]? = some y → ∃ own, G i v y own ∧ ∀ p ∈ own, p ∈ made := by
  induction h with
  | nil => intro i v y hv; simp at hv
  | @snoc vs ys made v₀ y₀ own hT hG ih =>
    intro i v y hv hy
    have hl := hT.len
    rcases Nat.lt_trichotomy i vs.length with h | h | h
    · rw [List.getElem?_append_left h] at hv
      rw [List.getElem?_append_left (by omega)] at hy
      obtain ⟨own', g, hs⟩ := ih i v y hv hy
      exact ⟨own', g, fun p hp => List.mem_append_right _ (hs p hp)⟩
    · subst h
      have e1 : v₀ = v := by simpa using hv
      have e2 : y₀ = y := by rw [← hl] at hy; simpa using hy
      subst e1 e2
      exact ⟨own, hG, fun p hp => List.mem_append_left _ hp⟩
    · have : (vs ++ [v₀])[i]? = none := List.getElem?_eq_none (by simp; omega)
      rw [this] at hv; cases hv
theorem Tri.pure {G : Nat → Value → Value → List (Addr × Obj) → Prop} {vs ys made} (h : Tri G vs ys made) (hG : ∀ i v y own, G i v y own → own = []) : made = [] := by
  induction h with
  | nil => rfl
  | snoc _ g ih => rw [ih, hG _ _ _ _ g]; rfl
/-- what was put, where each thing put is an int that its place and its item tell -/
theorem Tri.ints {G : Nat → Value → Value → List (Addr × Obj) → Prop} {vs ys made} {ns : List Int} (h : Tri G vs ys made) (hl : vs.length = ns.length) (hG : ∀ (i : Nat) v y own (k : Int), vs[i]? = some v → ns[i]? = some k → G i v y own → ∃ t : Tok, y = Value.int k t) : IntsAre ys ns := by
  have key : ∀ (ys : List Value) (ns : List Int), ys.length = ns.length → (∀ (j : Nat) (n : Int), ns[j]? = some n → ∃ t : Tok, ys[j]? = some (Value.int n t)) → IntsAre ys ns := by
    intro ys
    induction ys with
    | nil => intro ns hl h; cases ns with
      | nil => exact .nil
      | cons n ns => simp at hl
    | cons v vs ih => intro ns hl h; cases ns with
      | nil => simp at hl
      | cons n ns =>
        obtain ⟨t, e⟩ := h 0 n rfl
        have e' : v = Value.int n t := by simpa using e
        subst e'
        exact .cons n t (ih ns (by simpa using hl) fun j k hj => by simpa using h (j + 1) k (by simpa using hj))
  refine key ys ns (by rw [h.len, hl]) fun j n hj => ?_
  have hjn : j < ns.length := (List.getElem?_eq_some_iff.mp hj).1
  have hv : vs[j]? = some (vs[j]'(by omega)) := by simp [hl, hjn]
  have hy : ys[j]? = some (ys[j]'(by rw [h.len]; omega)) := by simp [h.len, hl, hjn]
  obtain ⟨own, g, _⟩ := h.get j _ _ hv hy
  obtain ⟨t, e⟩ := hG j _ _ own n hv hj g
  exact ⟨t, by rw [hy, e]⟩

def EltOk (prog : Program) (w : World) (A : Around) (h₀ : Heap) (L : Addr) (m : Str → Option Value) (news : List (Addr × Obj)) (env : Env) (scope : Scope) (cl : List (Str × Addr)) (x : Str) (elt : Expr) (P : Nat → Value → Prop) (G : Nat → Value → Value → List (Addr × Obj) → Prop) (s : Shared) : Prop :=
  ∀ i v C m₃ h tk E', P i v → Fr h₀ L h m → News h₀ L h news → h.Ns C m₃ → m₃ x = some v →
    wpAny (model prog w) A (eval elt (compEnvC scope cl C env)) (fun y s₄ => ∃ h' tk' own, s₄ = { s with heap := h', toks := tk' } ∧ Fr h₀ L h' m ∧ (∀ b o, b ≠ L → h.get? b = some o → h'.get? b = some o) ∧
      (∀ p ∈ own, h'.get? p.1 = some p.2 ∧ h.get? p.1 = none) ∧ G i v y own) E' { s with heap := h, toks := tk }

section
variable {prog : Program} {w : World} {A : Around} {E : Value → Shared → Prop} {env : Env} {h₀ : Heap} {L : Addr} {m : Str → Option Value} {news : List (Addr × Obj)}

theorem lc_loop {R : Result → Shared → Prop} {elt iter : Expr} {x : Str} {px : Pos} {scope scope' : Scope} {cl : List (Str × Addr)} {pos : Pos} {I C D : Addr} {fp wr : List Addr} {n : Nat} {P : Nat → Value → Prop} {St : Nat → Heap → Prop} {m₀ : Str → Option Value} {G : Nat → Value → Value → List (Addr × Obj) → Prop} {s₀ : Shared} {h₁ : Heap} {tk₁ : Nat}
    (W : Walks prog w A I fp wr n P St) (hsz : n ≤ sizeLine)
    (hx : (compEnvC scope cl C env).kindOf x = some .local) (hk : scope.kind = .function)
    (hDC : D ≠ C) (hDf : D ∉ fp) (hCf : C ∉ fp) (hLf : L ∉ fp) (hLD : L < D) (hLC : L < C) (hD0 : h₀.get? D = none) (hC0 : h₀.get? C = none) (hw0 : ∀ b ∈ wr, h₀.get? b = none) (hwn : ∀ q ∈ news, q.1 ∉ wr ∧ q.1 ≠ D ∧ q.1 ≠ C)
    (hst : St 0 h₁) (hacc : h₁.PlainList D #[]) (hn : h₁.Ns C m₀) (F : Fr h₀ L h₁ m) (N : News h₀ L h₁ news)
    (helt : EltOk prog w A h₀ L m news env scope cl x elt P G s₀)
    (hlive : ∀ i h, St i h → ∀ b ∈ wr, ∃ o, h.get? b = some o)
    (hR : ∀ h' tk m' c ys (vs : List Value) made, h'.Ns C m' → Fr h₀ L h' m → News h₀ L h' news → h'.get? D = some (listOf ys.toArray c) → vs.length = n → (∀ j v, vs[j]? = some v → P j v) → Tri G vs ys made →
      (∀ p ∈ made, h'.get? p.1 = some p.2 ∧ h₁.get? p.1 = none ∧ p.1 ≠ C ∧ p.1 ≠ D) → R (.ok .next) { s₀ with heap := h', toks := tk }) :
    codeAny (model prog w) A (.compLoop (.ListComp elt [⟨.Name x px, iter, [], 0⟩] scope' pos) 0 (.ref I) (.ref D) (compEnvC scope cl C env)) R { s₀ with heap := h₁, toks := tk₁ } := by
  have hLw : L ∉ wr := fun h => hLf (W.sub _ h)
  have hCw : C ∉ wr := fun h => hCf (W.sub _ h)
  have hDw : D ∉ wr := fun h => hDf (W.sub _ h)
  refine codeAny_compLoop_tests
    (fun k s' => ∃ h' tk m' c ys, ∃ vs : List Value, ∃ made, s' = { s₀ with heap := h', toks := tk } ∧ St vs.length h' ∧ h'.get? D = some (listOf ys.toArray c) ∧ h'.Ns C m' ∧ Fr h₀ L h' m ∧ News h₀ L h' news ∧ (∀ j v, vs[j]? = some v → P j v) ∧
      Tri G vs ys made ∧ vs.length ≤ n ∧ k = n + 1 - vs.length ∧ (∀ p ∈ made, h'.get? p.1 = some p.2 ∧ h₁.get? p.1 = none ∧ p.1 ≠ C ∧ p.1 ≠ D ∧ p.1 ∉ wr ∧ p.1 ≠ L) ∧ (∀ b o, h₁.get? b = some o → ∃ o', h'.get? b = some o')) ?_ (n + 1)
    ⟨h₁, tk₁, m₀, hacc.choose, [], [], [], rfl, hst, hacc.choose_spec, hn, F, N, by simp, .nil, Nat.zero_le _, rfl, by simp, fun b o e => ⟨o, e⟩⟩
  rintro k s' ⟨H, tk, m', c, ys, vs, made, rfl, hst', hacc', hn', F', N', hP, hT, hi, rfl, hmade, hex⟩
  have hp : ((compEnvC scope cl C env).scope.kind == .class || ((compEnvC scope cl C env).scope.kind == .module && (compEnvC scope cl C env).locals != (compEnvC scope cl C env).globals)) = false := by simp [compEnvC, relabel, hk]
  -- what a change of one thing leaves
  have fr_of : ∀ {h h' : Heap}, Fr h₀ L h m → (∀ b o, b ≠ C → b ∉ wr → b ≠ D → h.get? b = some o → h'.get? b = some o) → Fr h₀ L h' m := fun F hk =>
    ⟨F.ns.at' fun o e => hk L o (Nat.ne_of_lt hLC) hLw (Nat.ne_of_lt hLD) e, fun b o e => hk b o (fun h => by rw [h, hC0] at e; cases e) (fun h => by rw [hw0 b h] at e; cases e) (fun h => by rw [h, hD0] at e; cases e) (F.keep b o e), F.above⟩
  have news_of : ∀ {h h' : Heap}, News h₀ L h news → (∀ b o, b ≠ C → b ∉ wr → b ≠ D → h.get? b = some o → h'.get? b = some o) → News h₀ L h' news := fun N hk p hp =>
    ⟨hk p.1 p.2 (hwn p hp).2.2 (hwn p hp).1 (hwn p hp).2.1 (N p hp).1, (N p hp).2⟩
  by_cases hlt : vs.length < n
  · refine W.item vs.length _ _ _ hlt hst' fun v h₂ tk₂ hPv hst₂ hk₂ => ?_
    refine wpAny_assign_Name (wpAny_storeName_local hx (hn'.at' fun o e => hk₂ _ o hCw e) (fun h₃ hn₃ hs₃ => ?_) hp)
    have hs₃' : Heap.SameBut C h₂ h₃ := hs₃
    have up : ∀ b o, b ≠ C → b ∉ wr → b ≠ D → H.get? b = some o → h₃.get? b = some o := fun b o hbC hbw _ e => hs₃'.extBut b o hbC (hk₂ b o hbw e)
    have upD : h₃.get? D = some (listOf ys.toArray c) := hs₃'.extBut D _ hDC (hk₂ D _ hDw hacc')
    have hst₃ : St (vs.length + 1) h₃ := W.frame _ _ _ hst₂ fun b hb o e => hs₃'.extBut b o (fun h => hCf (h ▸ hb)) e
    have F₃ := fr_of F' up
    have N₃ := news_of N' up
    refine wpAny_pure (M := model prog w) (A := A) (a := true) ?_
    rw [if_pos rfl]
    refine wpAny_mono (helt vs.length v C _ h₃ (tk₂ + 1) _ hPv F₃ N₃ hn₃ (by simp)) (fun y s₄ h₄ => ?_) fun _ _ e => e
    obtain ⟨h₄, tk₄, own, rfl, F₄, hk₄, hown, hG⟩ := h₄
    have hacc₄ : h₄.PlainList D ys.toArray := ⟨c, hk₄ D _ (Nat.ne_of_gt hLD) upD⟩
    have hys : ys.toArray.size ≤ sizeLine := by rw [List.size_toArray, hT.len]; omega
    refine wpAny_list_append_plain (hsz := hys) hacc₄ fun h₅ hl₅ hs₅ => ?_
    have liveC : ∀ b o, h₃.get? b = some o → ∀ p ∈ own, p.1 ≠ b := fun b o e p hp h => by have := (hown p hp).2; rw [h, e] at this; cases this
    obtain ⟨oC, _, _, hoC, _⟩ := id hn₃
    have hN₄ : News h₀ L h₄ news := fun p hp => ⟨hk₄ _ _ (N₃ p hp).2.1 (N₃ p hp).1, (N₃ p hp).2⟩
    have up₅ : ∀ b o, b ≠ C → b ∉ wr → b ≠ D → h₄.get? b = some o → h₅.get? b = some o := fun b o _ _ hbD e => hs₅.extBut b o hbD e
    obtain ⟨c', hc'⟩ := hl₅
    have hpush : (ys.toArray.push y) = (ys ++ [y]).toArray := by simp
    rw [hpush] at hc'
    have lv : ∀ b o, H.get? b = some o → ∃ o', h₅.get? b = some o' := by
      intro b o e
      by_cases b1 : b = D
      · exact ⟨_, b1 ▸ hc'⟩
      · by_cases b2 : b = L
        · obtain ⟨oL, _, _, hoL, _⟩ := (fr_of F₄ up₅).ns
          exact ⟨_, b2 ▸ hoL⟩
        · by_cases b3 : b = C
          · exact ⟨_, hs₅.extBut b _ b1 (hk₄ b _ b2 (b3 ▸ hoC))⟩
          · by_cases b4 : b ∈ wr
            · obtain ⟨o', ho'⟩ := hlive _ _ hst₃ b b4
              exact ⟨_, hs₅.extBut b _ b1 (hk₄ b _ b2 ho')⟩
            · exact ⟨_, hs₅.extBut b _ b1 (hk₄ b _ b2 (up b o b3 b4 b1 e))⟩
    refine ⟨n + 1 - (vs.length + 1), by omega, h₅, tk₄, (fun y => if y = x then some v else m' y), c', ys ++ [y], vs ++ [v], own ++ made, rfl, ?_, hc', ?_, fr_of F₄ up₅, news_of hN₄ up₅, ?_, hT.snoc hG, by simp; omega, by simp, ?_, fun b o e => let ⟨o', e'⟩ := hex b o e; lv b o' e'⟩
    · have := W.frame _ _ h₅ hst₃ fun b hb o e => hs₅.extBut b o (fun h => hDf (h ▸ hb)) (hk₄ b o (fun h => hLf (h ▸ hb)) e)
      simpa using this
    · have hn₄ : h₄.Ns C (fun y => if y = x then some v else m' y) := Heap.Ns.at' hn₃ fun o e => hk₄ C o (Nat.ne_of_gt hLC) e
      exact hn₄.sameBut hs₅ (Ne.symm hDC)
    · intro j u hj
      rcases Nat.lt_trichotomy j vs.length with h | h | h
      · exact hP j u (by rwa [List.getElem?_append_left h] at hj)
      · subst h; simp at hj; subst hj; exact hPv
      · have hnone : (vs ++ [v])[j]? = none := List.getElem?_eq_none (by rw [List.length_append, List.length_singleton]; omega)
        rw [hnone] at hj; cases hj
    · intro p hp
      rcases List.mem_append.mp hp with hp | hp
      · have pD : p.1 ≠ D := liveC D _ upD p hp
        refine ⟨hs₅.extBut _ _ pD (hown p hp).1, ?_, liveC C _ hoC p hp, pD, fun h => ?_, fun h => ?_⟩
        · cases e : h₁.get? p.1 with
          | none => rfl
          | some o =>
            obtain ⟨o', e'⟩ := hex _ _ e
            exfalso
            by_cases b1 : p.1 = C
            · exact liveC C _ hoC p hp b1
            · by_cases b4 : p.1 ∈ wr
              · obtain ⟨o2, ho2⟩ := hlive _ _ hst₃ p.1 b4
                exact liveC _ _ ho2 p hp rfl
              · exact liveC _ _ (up _ _ b1 b4 pD e') p hp rfl
        · obtain ⟨o2, ho2⟩ := hlive _ _ hst₃ p.1 h
          exact liveC _ _ ho2 p hp rfl
        · obtain ⟨oL, _, _, hoL, _⟩ := F₃.ns
          exact liveC L _ hoL p hp h
      · obtain ⟨q1, q2, q3, q4, q5, q6⟩ := hmade p hp
        exact ⟨hs₅.extBut _ _ q4 (hk₄ _ _ q6 (up _ _ q3 q5 q4 q1)), q2, q3, q4, q5, q6⟩
  · have hin : vs.length = n := by omega
    refine W.done _ _ _ (hin ▸ hst') fun h₂ tk₂ hk₂ => ?_
    have up : ∀ b o, b ≠ C → b ∉ wr → b ≠ D → H.get? b = some o → h₂.get? b = some o := fun b o _ hbw _ e => hk₂ b o hbw e
    exact hR h₂ tk₂ m' c ys vs made (hn'.at' fun o e => hk₂ _ o hCw e) (fr_of F' up) (news_of N' up) (hk₂ D _ hDw hacc') hin hP hT fun p hp => by
      obtain ⟨q1, q2, q3, q4, q5, q6⟩ := hmade p hp
      exact ⟨hk₂ _ _ q5 q1, q2, q3, q4⟩

/-- what a list comprehension asks of its source's iterator -/
def LcAt (prog : Program) (w : World) (A : Around) (h₀ : Heap) (L : Addr) (m : Str → Option Value) (news : List (Addr × Obj)) (env : Env) (scope : Scope) (cl : List (Str × Addr)) (x : Str) (elt : Expr) (G : Nat → Value → Value → List (Addr × Obj) → Prop)
    (K : List Value → Addr → Nat → List Value → List (Addr × Obj) → Shared → Prop) (it : Value) (s₂ : Shared) : Prop :=
  ∃ I fp wr n P St, it = .ref I ∧ Walks prog w A I fp wr n P St ∧ n ≤ sizeLine ∧ (∀ i h, St i h → ∀ b ∈ wr, ∃ o, h.get? b = some o) ∧ St 0 s₂.heap ∧ (∀ b ∈ fp, b < s₂.heap.objs.size) ∧ L ∉ fp ∧ (∀ b ∈ wr, h₀.get? b = none ∧ ∀ q ∈ news, q.1 ≠ b) ∧
    Fr h₀ L s₂.heap m ∧ News h₀ L s₂.heap news ∧ EltOk prog w A h₀ L m news env scope cl x elt P G s₂ ∧
    ∀ vs D c ys made h' tk, vs.length = n → (∀ j v, vs[j]? = some v → P j v) → Tri G vs ys made → Fr h₀ L h' m → News h₀ L h' ((D, listOf ys.toArray c) :: (made ++ news)) → (∀ q ∈ news, q.1 < D) → OwnOff made (D :: news.map (·.1)) →
      K vs D c ys made { s₂ with heap := h', toks := tk }

theorem lc_block {elt iter : Expr} {x : Str} {px : Pos} {scope : Scope} {cl : List (Str × Addr)} {pos : Pos} {G : Nat → Value → Value → List (Addr × Obj) → Prop} {K : List Value → Addr → Nat → List Value → List (Addr × Obj) → Shared → Prop} {it : Value} {s₂ : Shared} {RR : Value → Addr → Result → Shared → Prop}
    (hcell : ∀ y ∈ scope.names, y.2 ≠ .cell) (hkind : scope.kind = .function) (hx : scope.names.lookup x = some .local) (hL : env.locals = L)
    (h : LcAt prog w A h₀ L m news env scope cl x elt G K it s₂)
    (hRR : ∀ vs D C c ys made h' tk m', h'.Ns C m' → D ≠ C → L ≠ C → (∀ q ∈ news, q.1 ≠ C) → (∀ p ∈ made, p.1 ≠ C) → h₀.get? C = none → K vs D c ys made { s₂ with heap := h', toks := tk } →
      (∀ h'', Heap.SameBut C h' h'' → K vs D c ys made { s₂ with heap := h'', toks := tk }) → RR (.ref D) C (.ok .next) { s₂ with heap := h', toks := tk }) :
    wpAny (model prog w) A (newList []) (fun acc s₃ => wpAny (model prog w) A (newFunctionEnv scope env.globals cl [] env.qual none .none (some env)) (fun cenv s₄ =>
      codeAny (model prog w) A (.compStart (.ListComp elt [⟨.Name x px, iter, [], 0⟩] scope pos) 0 it acc { cenv with scope := relabel scope env }) (RR acc cenv.locals) s₄) E s₃) E s₂ := by
  obtain ⟨I, fp, wr, n, P, St, rfl, W, hsz, hlive, hst, hfp, hLf, hwr, F, N, helt, hK⟩ := h
  refine wpAny_newObj_type (wpAny_newFunctionEnv hcell (by intro y hy; simp at hy) (fun h₁ hns₁ hsb₁ => ?_) hkind)
  dsimp only at hns₁ hsb₁ ⊢
  generalize hH2 : s₂.heap.push { cls := .type "list", dict := none, data := .seq ([] : List Value).toArray } = H2 at hns₁ hsb₁ ⊢
  have hC : H2.objs.size = s₂.heap.objs.size + 1 := by rw [← hH2, Heap.size_push]
  have hDC : s₂.heap.objs.size ≠ H2.objs.size := by rw [hC]; exact Nat.ne_of_lt (Nat.lt_succ_self _)
  have below : ∀ b, b < s₂.heap.objs.size → b ≠ H2.objs.size ∧ b ≠ s₂.heap.objs.size := fun b hb => ⟨by rw [hC]; exact Nat.ne_of_lt (Nat.lt_succ_of_lt hb), Nat.ne_of_lt hb⟩
  have hDf : s₂.heap.objs.size ∉ fp := fun hm => Nat.lt_irrefl _ (hfp _ hm)
  have hCf : H2.objs.size ∉ fp := fun hm => by have := hfp _ hm; rw [hC] at this; exact Nat.lt_irrefl _ (Nat.lt_of_succ_lt this)
  have old : ∀ b o, s₂.heap.get? b = some o → h₁.get? b = some o := fun b o e => hsb₁.extBut b o (below b (Heap.lt_size e)).1 (Heap.get?_push_of_some _ (hH2 ▸ Heap.get?_push_of_some _ e))
  have hacc : h₁.PlainList s₂.heap.objs.size #[] := ⟨_, hsb₁.extBut _ _ hDC (Heap.get?_push_of_some _ (hH2 ▸ Heap.get?_push_size _ rfl))⟩
  have hst₁ : St 0 h₁ := W.frame _ _ _ hst fun b _ o e => old b o e
  have fresh : ∀ a, s₂.heap.objs.size ≤ a → s₂.heap.get? a = none := fun a ha => by
    cases e : s₂.heap.get? a with
    | none => rfl
    | some o' => exact absurd (Heap.lt_size e) (Nat.not_lt.mpr ha)
  have fresh0 : ∀ a, s₂.heap.objs.size ≤ a → h₀.get? a = none := fun a ha => by
    cases e : h₀.get? a with
    | none => rfl
    | some o' => exact absurd (Heap.lt_size (F.keep _ _ e)) (Nat.not_lt.mpr ha)
  have hLs : L < s₂.heap.objs.size := F.ns.lt
  have hnl : ∀ q ∈ news, q.1 < s₂.heap.objs.size := fun q hq => Heap.lt_size (N q hq).1
  have loop : ∀ s₃ : Shared, s₃ = { s₂ with heap := h₁, toks := s₂.toks + ([] : List (Str × Value)).length } →
      codeAny (model prog w) A (.compLoop (.ListComp elt [⟨.Name x px, iter, [], 0⟩] scope pos) 0 (.ref I) (.ref s₂.heap.objs.size) (compEnvC scope cl H2.objs.size env))
        (RR (.ref s₂.heap.objs.size) H2.objs.size) s₃ := by
    rintro s₃ rfl
    refine lc_loop (s₀ := s₂) W hsz (lookup_relabel_local hx) hkind hDC hDf hCf hLf hLs (by rw [hC]; exact Nat.lt_succ_of_lt hLs) (fresh0 _ (Nat.le_refl _)) (fresh0 _ (by rw [hC]; exact Nat.le_succ _)) (fun b hb => (hwr b hb).1)
      (fun q hq => ⟨fun h => (hwr _ h).2 q hq rfl, Nat.ne_of_lt (hnl q hq), by rw [hC]; exact Nat.ne_of_lt (Nat.lt_succ_of_lt (hnl q hq))⟩) hst₁ hacc hns₁ (F.keeps old) (N.grown old) helt hlive fun h' tk m' c ys vs made hn F' N' hD hlen hP hT hmade => ?_
    have kk : ∀ h'', Heap.ExtBut H2.objs.size h' h'' → K vs s₂.heap.objs.size c ys made { s₂ with heap := h'', toks := tk } := by
      intro h'' he
      have hCL : L ≠ H2.objs.size := by rw [hC]; exact Nat.ne_of_lt (Nat.lt_succ_of_lt hLs)
      refine hK vs _ c ys made h'' tk hlen hP hT ?_ ?_ hnl ?_
      · exact ⟨F'.ns.extBut he hCL, fun b o e => he b o (fun h => by rw [h, fresh0 _ (by rw [hC]; exact Nat.le_succ _)] at e; cases e) (F'.keep b o e), F'.above⟩
      · intro p hp
        rcases List.mem_cons.mp hp with rfl | hp
        · exact ⟨he _ _ hDC hD, Nat.ne_of_gt hLs, fresh0 _ (Nat.le_refl _)⟩
        · rcases List.mem_append.mp hp with hp | hp
          · obtain ⟨q1, q2, q3, q4⟩ := hmade p hp
            refine ⟨he _ _ q3 q1, fun h => ?_, ?_⟩
            · obtain ⟨oL, _, _, hoL, _⟩ := (F.keeps old).ns
              rw [h, hoL] at q2; cases q2
            · cases e : h₀.get? p.1 with
              | none => rfl
              | some o => have := (F.keeps old).keep _ _ e; rw [this] at q2; cases q2
          · exact ⟨he _ _ (by rw [hC]; exact Nat.ne_of_lt (Nat.lt_succ_of_lt (hnl p hp))) (N' p hp).1, (N' p hp).2⟩
      · intro p hp b hb e
        obtain ⟨q1, q2, q3, q4⟩ := hmade p hp
        rcases List.mem_cons.mp hb with rfl | hb
        · exact q4 e
        · obtain ⟨q, hq, rfl⟩ := List.mem_map.mp hb
          have := old _ _ (N q hq).1
          rw [← e, q2] at this; cases this
    exact hRR vs _ _ c ys made h' tk m' hn hDC (by rw [hC]; exact Nat.ne_of_lt (Nat.lt_succ_of_lt hLs)) (fun q hq => by rw [hC]; exact Nat.ne_of_lt (Nat.lt_succ_of_lt (hnl q hq))) (fun p hp => (hmade p hp).2.2.1) (fresh0 _ (by rw [hC]; exact Nat.le_succ _)) (kk h' (fun _ _ _ e => e)) fun h'' hs => kk h'' hs.extBut
  exact codeAny_compStart_list (loop _ rfl) (W.self 0 _ _ _ hst₁ (loop _ rfl))

theorem lc_eval {s : Shared} {elt iter : Expr} {x : Str} {px : Pos} {scope : Scope} {cl : List (Str × Addr)} {pos : Pos} {Q : Value → Shared → Prop} (G : Nat → Value → Value → List (Addr × Obj) → Prop) (news : List (Addr × Obj)) (m : Str → Option Value)
    (hL : env.locals = L) (hclos : closureFor scope env = pure cl) (hcell : ∀ y ∈ scope.names, y.2 ≠ .cell) (hkind : scope.kind = .function)
    (hnames : ∀ y ∈ scope.names, y.2 = .local → scope.names.lookup y.1 = some .local) (hx : scope.names.lookup x = some .local)
    (h : wpAny (model prog w) A (eval iter env) (fun xv s₁ => wpAny (model prog w) A (pyIter xv) (fun it s₂ =>
      LcAt prog w A h₀ L m news env scope cl x elt G (fun _ D _ _ _ s' => Q (.ref D) s') it s₂) E s₁) E s)
    (hs : ∀ x, foldedSetIterable iter env x = pure x := by intro _; rfl) :
    wpAny (model prog w) A (eval (.ListComp elt [⟨.Name x px, iter, [], 0⟩] scope pos) env) Q E s := by
  rw [eval_ListComp]
  refine wpAny_comprehension_free (use := none) rfl hs hclos hkind hnames (wpAny_mono h (fun xv s₁ h₁ => wpAny_mono h₁ (fun it s₂ h₂ => ?_) fun _ _ e => e) fun _ _ e => e)
  refine lc_block (RR := fun acc C => compPost (model prog w) A E none Q acc C) hcell hkind hx hL h₂ ?_
  intro vs D C c ys made h' tk m' hn hDC hLC hnC hmC hC0 _ hk
  exact ⟨m', hn, fun h'' hs'' => hk h'' hs''⟩

theorem lc_assign {s : Shared} {elt iter : Expr} {x y : Str} {px py : Pos} {scope : Scope} {cl : List (Str × Addr)} {pos spos : Pos} {Q : Flow → Shared → Prop} (G : Nat → Value → Value → List (Addr × Obj) → Prop) (news : List (Addr × Obj)) (m : Str → Option Value)
    (hsw : swapsWith (.ListComp elt [⟨.Name x px, iter, [], 0⟩] scope pos) (some (.Name y py)) spos.line env = pure true)
    (hL : env.locals = L) (hclos : closureFor scope env = pure cl) (hcell : ∀ z ∈ scope.names, z.2 ≠ .cell) (hkind : scope.kind = .function)
    (hnames : ∀ z ∈ scope.names, z.2 = .local → scope.names.lookup z.1 = some .local) (hx : scope.names.lookup x = some .local)
    (hy : env.kindOf y = some .local) (hp : (env.scope.kind == .class || (env.scope.kind == .module && env.locals != env.globals)) = false)
    (h : wpAny (model prog w) A (eval iter env) (fun xv s₁ => wpAny (model prog w) A (pyIter xv) (fun it s₂ =>
      LcAt prog w A h₀ L m news env scope cl x elt G (fun vs D c ys made s' => Fr h₀ L s'.heap m → News h₀ L s'.heap ((D, listOf ys.toArray c) :: (made ++ news)) →
        ∀ h' tk, Fr h₀ L h' (fun z => if z = y then some (.ref D) else m z) → News h₀ L h' ((D, listOf ys.toArray c) :: (made ++ news)) → Q .next { s' with heap := h', toks := tk }) it s₂) E s₁) E s)
    (hs : ∀ x, foldedSetIterable iter env x = pure x := by intro _; rfl) :
    wpAny (model prog w) A (exec (.Assign [.Name y py] (.ListComp elt [⟨.Name x px, iter, [], 0⟩] scope pos) spos) env) Q E s := by
  rw [exec_Assign_Name_used _ _ _ _ hsw]
  refine wpAny_bind (wpAny_standAt (wpAny_bind ?_))
  show wpAny _ A (do let _ ← comprehension (.ListComp elt [⟨.Name x px, iter, [], 0⟩] scope pos) scope env _ (newList []) false (eval iter env) (some (assign (.Name y py) env))) _ _ s
  refine wpAny_bind (wpAny_mono (wpAny_comprehension_free (use := some (assign (.Name y py) env)) (Q := fun _ s' => Q .next s') rfl hs hclos hkind hnames
    (wpAny_mono h (fun xv s₁ h₁ => wpAny_mono h₁ (fun it s₂ h₂ => ?_) fun _ _ e => e) fun _ _ e => e)) (fun _ s' hq => wpAny_pure (wpAny_pure hq)) fun _ _ e => e)
  -- the frame and the ledger are told again, as the block's own frame goes
  have h₃ : LcAt prog w A h₀ L m news env scope cl x elt G (fun vs D c ys made s' => Fr h₀ L s'.heap m ∧ News h₀ L s'.heap ((D, listOf ys.toArray c) :: (made ++ news)) ∧
        ∀ h' tk, Fr h₀ L h' (fun z => if z = y then some (.ref D) else m z) → News h₀ L h' ((D, listOf ys.toArray c) :: (made ++ news)) → Q .next { s' with heap := h', toks := tk }) it s₂ := by
    obtain ⟨I, fp, wr, n, P, St, e1, e2, e3, e4, e5, e6, e7, e8, e9, e10, e11, e12⟩ := h₂
    exact ⟨I, fp, wr, n, P, St, e1, e2, e3, e4, e5, e6, e7, e8, e9, e10, e11, fun vs D c ys made h' tk g1 g2 g3 g4 g5 g6 g7 => ⟨g4, g5, e12 vs D c ys made h' tk g1 g2 g3 g4 g5 g6 g7 g4 g5⟩⟩
  refine lc_block (RR := fun acc C => compPost (model prog w) A E (some (assign (.Name y py) env)) (fun _ s' => Q .next s') acc C) hcell hkind hx hL h₃ ?_
  intro vs D C c ys made h' tk m' hn hDC hLC hnC hmC hC0 hK _
  obtain ⟨F', N', hQ⟩ := hK
  show wpAny _ A (assign (.Name y py) env (.ref D)) _ _ _
  refine wpAny_assign_Name (wpAny_storeName_local hy (hL ▸ F'.ns) (fun h₂ hn₂ hs₂ => ?_) hp)
  rw [hL] at hn₂ hs₂
  have F₂ : Fr h₀ L h₂ (fun z => if z = y then some (.ref D) else m z) := F'.set hn₂ hs₂
  have N₂ : News h₀ L h₂ ((D, listOf ys.toArray c) :: (made ++ news)) := N'.set hs₂
  refine ⟨m', hn.sameBut hs₂ (Ne.symm hLC), fun h₃ hs₃ => hQ h₃ _ ?_ ?_⟩
  · exact ⟨F₂.ns.sameBut hs₃ hLC, fun b o e => (hs₃.2 b (fun h => by rw [h, hC0] at e; cases e)).trans (F₂.keep b o e), F₂.above⟩
  · intro p hp
    refine ⟨(hs₃.2 p.1 ?_).trans (N₂ p hp).1, (N₂ p hp).2⟩
    rcases List.mem_cons.mp hp with rfl | hp
    · exact hDC
    · rcases List.mem_append.mp hp with hp | hp
      · exact hmC p hp
      · exact hnC p hp

theorem lc_list {s : Shared} {elt : Expr} {x : Str} {scope : Scope} {cl : List (Str × Addr)} {G : Nat → Value → Value → List (Addr × Obj) → Prop} {K : List Value → Addr → Nat → List Value → List (Addr × Obj) → Shared → Prop} {l : Addr} {items : List Value} {k : Nat}
    (hh : A.handled = none) (F : Fr h₀ L s.heap m) (N : News h₀ L s.heap news) (hl : (l, listOf items.toArray k) ∈ news) (hsz : items.length ≤ 16384)
    (helt : ∀ s₂ : Shared, (∃ h, s₂ = { s with heap := h }) → EltOk prog w A h₀ L m news env scope cl x elt (fun i v => items[i]? = some v) G s₂)
    (hK : ∀ D c ys made h' tk, Tri G items ys made → Fr h₀ L h' m → News h₀ L h' ((D, listOf ys.toArray c) :: (made ++ news)) → (∀ q ∈ news, q.1 < D) → OwnOff made (D :: news.map (·.1)) → K items D c ys made { s with heap := h', toks := tk }) :
    wpAny (model prog w) A (pyIter (.ref l)) (fun it s₂ => LcAt prog w A h₀ L m news env scope cl x elt G K it s₂) E s := by
  have hls : s.heap.IsList l items.toArray := ⟨_, (N _ hl).1, rfl, k, rfl⟩
  have hlt : l < s.heap.objs.size := Heap.lt_size (N _ hl).1
  have hLs : L < s.heap.objs.size := F.ns.lt
  refine wpAny_pyIter_list hls ?_
  refine ⟨_, _, _, _, _, _, rfl, Walks.list hh s.heap.objs.size l (Nat.ne_of_lt hlt) items.toArray, ?_, ?_, ⟨⟨_, Heap.get?_push_size _ rfl, rfl, rfl⟩, hls.at fun o e => Heap.get?_push_of_some _ e⟩, ?_, ?_, ?_, F.push _, (fun p hp => ⟨Heap.get?_push_of_some _ (N p hp).1, (N p hp).2⟩), ?_, ?_⟩
  · rw [List.size_toArray, sizeLine_eq]; omega
  · intro i h st b hb
    rw [List.mem_singleton.mp hb]
    obtain ⟨⟨o, ho, _⟩, _⟩ := st
    exact ⟨o, ho⟩
  · intro b hb
    show b < (Heap.push _ _).objs.size
    rw [Heap.size_push]
    rcases List.mem_cons.mp hb with rfl | hb
    · exact Nat.lt_succ_self _
    · rw [List.mem_singleton.mp hb]; exact Nat.lt_succ_of_lt hlt
  · intro hb
    rcases List.mem_cons.mp hb with e | hb
    · exact Nat.ne_of_lt hLs e
    · exact (N _ hl).2.1 (List.mem_singleton.mp hb).symm
  · intro b hb
    rw [List.mem_singleton.mp hb]
    exact ⟨next_is_new F, fun q hq => Nat.ne_of_lt (Heap.lt_size (N q hq).1)⟩
  · have := helt { s with heap := s.heap.push { cls := .type "list_iterator", data := .fields #[.ref l, .int 0 0] } } ⟨_, rfl⟩
    intro i v C m₃ h tk E' hP
    exact this i v C m₃ h tk E' (by simpa using hP)
  · intro vs D c ys made h' tk hlen hP hT F' N' hlt' hoff
    have e : vs = items := by
      refine List.ext_getElem? fun j => ?_
      cases hj : vs[j]? with
      | none =>
        have : items.length ≤ j := by
          have h1 := List.getElem?_eq_none_iff.mp hj
          rw [hlen] at h1; simpa using h1
        rw [List.getElem?_eq_none this]
      | some v => have := hP j v hj; simpa using this.symm
    subst e
    exact hK D c ys made h' tk hT F' N' hlt' hoff

theorem ints_at : ∀ {vs : List Value} {ns : List Int}, vs.length = ns.length → (∀ (j : Nat) (n : Int), ns[j]? = some n → ∃ t : Tok, vs[j]? = some (Value.int n t)) → IntsAre vs ns
  | [], [], _, _ => .nil
  | v :: vs, n :: ns, hl, h => by
    obtain ⟨t, e⟩ := h 0 n rfl
    have e' : v = .int n t := by simpa using e
    subst e'
    exact .cons n t (ints_at (by simpa using hl) fun j k hj => by simpa using h (j + 1) k (by simpa using hj))
  | [], _ :: _, hl, _ => by simp at hl
  | _ :: _, [], hl, _ => by simp at hl

theorem lc_range {s : Shared} {elt : Expr} {x : Str} {scope : Scope} {cl : List (Str × Addr)} {G : Nat → Value → Value → List (Addr × Obj) → Prop} {K : List Value → Addr → Nat → List Value → List (Addr × Obj) → Shared → Prop} {r : Addr} {b₀ : Int} {t u v : Tok} {n : Nat}
    (hh : A.handled = none) (F : Fr h₀ L s.heap m) (N : News h₀ L s.heap news) (hr : IsRange s.heap r 0 b₀ 1 t u v) (hsmall : Builtin.Range.small 0 b₀ 1 = true) (hn : Builtin.Range.rangeSize 0 b₀ 1 = (n : Int)) (hsz : n ≤ 16384)
    (helt : ∀ s₂ : Shared, (∃ h, s₂ = { s with heap := h }) → EltOk prog w A h₀ L m news env scope cl x elt (fun i v => i < n ∧ ∃ t, v = .int (i : Int) t) G s₂)
    (hK : ∀ vs D c ys made h' tk, IntsAre vs ((List.range n).map Int.ofNat) → Tri G vs ys made → Fr h₀ L h' m → News h₀ L h' ((D, listOf ys.toArray c) :: (made ++ news)) → (∀ q ∈ news, q.1 < D) → OwnOff made (D :: news.map (·.1)) → K vs D c ys made { s with heap := h', toks := tk }) :
    wpAny (model prog w) A (pyIter (.ref r)) (fun it s₂ => LcAt prog w A h₀ L m news env scope cl x elt G K it s₂) E s := by
  have hLs : L < s.heap.objs.size := F.ns.lt
  refine wpAny_pyIter_range hr hsmall ?_
  refine ⟨_, _, _, _, _, _, rfl, (Walks.range hh s.heap.objs.size 0 1 n).bound, ?_, ?_, ?_, ?_, ?_, ?_, F.push _, (fun p hp => ⟨Heap.get?_push_of_some _ (N p hp).1, (N p hp).2⟩), ?_, ?_⟩
  · rw [sizeLine_eq]; omega
  · intro i h st b hb
    rw [List.mem_singleton.mp hb]
    exact ⟨_, st⟩
  · show IsRangeIter _ _ _ _ _
    rw [hn]; simpa using Heap.get?_push_size _ rfl
  · intro b hb
    show b < (Heap.push _ _).objs.size
    rw [Heap.size_push, List.mem_singleton.mp hb]
    exact Nat.lt_succ_self _
  · intro hb
    exact Nat.ne_of_lt hLs (List.mem_singleton.mp hb)
  · intro b hb
    rw [List.mem_singleton.mp hb]
    exact ⟨next_is_new F, fun q hq => Nat.ne_of_lt (Heap.lt_size (N q hq).1)⟩
  · have := helt { s with heap := s.heap.push { cls := .type "range_iterator", data := .fields #[rawInt 0, rawInt (Builtin.Range.rangeSize 0 b₀ 1), rawInt 1] } } ⟨_, rfl⟩
    intro i v C m₃ h tk E' hP
    refine this i v C m₃ h tk E' ?_
    obtain ⟨hin, t, e⟩ := hP
    exact ⟨hin, t, by rw [e]; simp⟩
  · intro vs D c ys made h' tk hlen hP hT F' N' hlt' hoff
    refine hK vs D c ys made h' tk (ints_at (by simp [hlen]) fun j k hj => ?_) hT F' N' hlt' hoff
    have hjn : j < n := by
      have := (List.getElem?_eq_some_iff.mp hj).1
      simpa using this
    have hk : k = (j : Int) := by simpa [hjn] using hj.symm
    obtain ⟨v, hv⟩ : ∃ v, vs[j]? = some v := ⟨vs[j]'(by omega), by simp [hlen, hjn]⟩
    obtain ⟨_, t, e⟩ := hP j v hv
    exact ⟨t, by rw [hv, e, hk]; simp⟩
end
end partLc

section partLeads
def lawDef : Stmt := match PySem.Challenge.pw_rs0159_01.main.body with
  | [_, _, _, _, _, _, _, _, _, f] => f
  | _ => .Pass default
def lawScope : Scope := match lawDef with
  | .FunctionDef _ _ _ _ _ _ sc _ _ _ => sc
  | _ => default
def lawBody : List Stmt := match lawDef with
  | .FunctionDef _ _ b _ _ _ _ _ _ _ => b
  | _ => []
def stLeads : Stmt := match lawBody with
  | [_, _, _, _, _, _, s, _, _, _] => s
  | _ => .Pass default
abbrev lawEnv (L a : Addr) (cd : Value) : Env := envOfC "law" lawScope L a cd
/-- all that stands beside the base and the frame -/
def newsAll (h₀ : Heap) (L : Addr) (h : Heap) : List (Addr × Obj) := (List.range h.objs.size).filterMap fun a => if a = L ∨ (h₀.get? a).isSome = true then none else (h.get? a).map fun o => (a, o)
theorem mem_newsAll {h₀ h : Heap} {L b : Addr} {o : Obj} (hb : b ≠ L) (h0 : h₀.get? b = none) (ho : h.get? b = some o) : (b, o) ∈ newsAll h₀ L h :=
  List.mem_filterMap.mpr ⟨b, List.mem_range.mpr (Heap.lt_size ho), by rw [if_neg (by rintro (e | e); exact hb e; rw [h0] at e; cases e), ho]; rfl⟩
theorem news_all {h₀ h : Heap} {L : Addr} : News h₀ L h (newsAll h₀ L h) := by
  intro p hp
  obtain ⟨b, _, e⟩ := List.mem_filterMap.mp hp
  split at e
  · cases e
  · rename_i hn
    cases ho : h.get? b with
    | none => rw [ho] at e; cases e
    | some o =>
      rw [ho] at e
      have e' : (b, o) = p := Option.some.inj e
      subst e'
      refine ⟨ho, fun h => hn (.inl h), ?_⟩
      cases h0 : h₀.get? b with
      | none => rfl
      | some o' => exact absurd (.inr (by rw [h0]; rfl)) hn
theorem keep_all {h₀ h h' : Heap} {L : Addr} {m m' : Str → Option Value} {own : List (Addr × Obj)} (F : Fr h₀ L h m) (F' : Fr h₀ L h' m') (N : News h₀ L h' (own ++ newsAll h₀ L h)) (b : Addr) (o : Obj) (hb : b ≠ L) (e : h.get? b = some o) : h'.get? b = some o := by
  cases h0 : h₀.get? b with
  | none => exact (N _ (List.mem_append_right _ (mem_newsAll hb h0 e))).1
  | some o' =>
    have e1 := F.keep b o' h0
    have e2 := F'.keep b o' h0
    rw [e] at e1
    rw [e2, Option.some.inj e1]
theorem fresh_all {h₀ h h' : Heap} {L : Addr} {m : Str → Option Value} {own : List (Addr × Obj)} (F : Fr h₀ L h m) (N : News h₀ L h' (own ++ newsAll h₀ L h)) (ho : OwnOff own ((newsAll h₀ L h).map (·.1))) (p : Addr × Obj) (hp : p ∈ own) : h'.get? p.1 = some p.2 ∧ h.get? p.1 = none := by
  obtain ⟨n1, n2, n3⟩ := N p (List.mem_append_left _ hp)
  refine ⟨n1, ?_⟩
  cases e : h.get? p.1 with
  | none => rfl
  | some o => exact absurd rfl (ho p hp p.1 (List.mem_map.mpr ⟨(p.1, o), mem_newsAll n2 n3 e, rfl⟩))

/-- the lead of the run rv -/
def wsText (av rv bv : Int) : Str := Txt.mul " " av ++ "\t" ++ Txt.mul " " rv ++ "\t" ++ Txt.mul " " bv ++ "x\t "
def wsQ (av rv bv : Int) : Int × Int × Int × List Int := wsFold ((wsText av rv bv).cps.toList.takeWhile isWs)
def sizesD : List Int := [1, 2, 3, 4, 5, 8]
def colOf (av bv d rv : Int) : Int := (av + d - Int.fmod av d + bv) + rv + d - Int.fmod rv d
def wsChk (av rv bv : Int) : Bool :=
  decide ((wsText av rv bv).cps.size ≤ 40) && decide ((wsQ av rv bv).1 = bv) && decide ((wsQ av rv bv).2.2.1 = 2) && decide ((wsQ av rv bv).2.2.2.length ≤ 40) && (wsQ av rv bv).2.2.2.all (fun y => decide (0 ≤ y) && decide (y ≤ 40)) &&
    sizesD.all fun d => decide ((wsQ av rv bv).1 + d * (ilSum d (wsQ av rv bv).2.2.2 (rangeKs d (Int.toNat (((wsQ av rv bv).2.2.2.length : Int) - d))) + (wsQ av rv bv).2.2.1) = colOf av bv d rv)
theorem ws_chk : ((List.range 3).all fun a => (List.range 10).all fun r => (List.range 3).all fun b => wsChk (a : Int) (r : Int) (b : Int)) = true := by decide +kernel
theorem ws_fact {av rv bv : Int} (ha0 : 0 ≤ av) (ha : av < 3) (hr0 : 0 ≤ rv) (hr : rv < 10) (hb0 : 0 ≤ bv) (hb : bv < 3) : wsChk av rv bv = true := by
  obtain ⟨a, rfl⟩ := Int.eq_ofNat_of_zero_le ha0
  obtain ⟨r, rfl⟩ := Int.eq_ofNat_of_zero_le hr0
  obtain ⟨b, rfl⟩ := Int.eq_ofNat_of_zero_le hb0
  have h1 := List.all_eq_true.mp ws_chk a (List.mem_range.mpr (by omega))
  have h2 := List.all_eq_true.mp h1 r (List.mem_range.mpr (by omega))
  exact List.all_eq_true.mp h2 b (List.mem_range.mpr (by omega))
theorem ws_size {av rv bv : Int} (h : wsChk av rv bv = true) : (wsText av rv bv).cps.size ≤ 40 := by
  simp only [wsChk, Bool.and_eq_true, decide_eq_true_eq] at h
  exact h.1.1.1.1.1
theorem ws_parts {av rv bv : Int} (h : wsChk av rv bv = true) : (wsQ av rv bv).1 = bv ∧ (wsQ av rv bv).2.2.1 = 2 ∧ (wsQ av rv bv).2.2.2.length ≤ 40 ∧ (∀ y ∈ (wsQ av rv bv).2.2.2, 0 ≤ y ∧ y ≤ 40) ∧
    ∀ d ∈ sizesD, (wsQ av rv bv).1 + d * (ilSum d (wsQ av rv bv).2.2.2 (rangeKs d (Int.toNat (((wsQ av rv bv).2.2.2.length : Int) - d))) + (wsQ av rv bv).2.2.1) = colOf av bv d rv := by
  simp only [wsChk, Bool.and_eq_true, decide_eq_true_eq, List.all_eq_true] at h
  exact ⟨h.1.1.1.1.2, h.1.1.1.2, h.1.1.2, h.1.2, h.2⟩

def LeadG (P : Params) (av bv : Int) (i : Nat) (_v y : Value) (own : List (Addr × Obj)) : Prop := i < 10 ∧ ∃ (x : Addr), y = .ref x ∧ WsObj P x (wsQ av (i : Int) bv) own

theorem lcn_local {M : Model} {A : Around} {E : Value → Shared → Prop} {s : Shared} {C : Addr} {scope : Scope} {cl : List (Str × Addr)} {env : Env} {x : Str} {pos : Pos} {v : Value} {m₃ : Str → Option Value} {Q : Value → Shared → Prop} (hn : s.heap.Ns C m₃) (hm : m₃ x = some v) (h : Q v s)
    (hk : (compEnvC scope cl C env).scope.kind = .function) (hx : (compEnvC scope cl C env).kindOf x = some .local) (hb : (x == ("__debug__" : Str)) = false := by decide) :
    wpAny M A (eval (.Name x pos) (compEnvC scope cl C env)) Q E s := wpAny_Name (wpAny_loadName_local hk hx hn hm h) hb
local macro_rules | `(tactic| walk_at "eval Name") => `(tactic| (k_here; (with_reducible show wpAny _ _ (eval (Expr.Name _ _) (compEnvC _ _ _ _)) _ _ _); (with_unfolding_all refine' lcn_local ?hn ?hm ?_ ?a ?b; (case hn => assumption); (case hm => assumption); (case a => rfl); (case b => rfl))))
theorem leads_ok {w : World} {p : Program} {loose : List Str} {mean : ExcName → Option Value} {mg mb : Str → Option Value} {news : List (Addr × Obj)}
    {dp un : Nat} {gd : Option (List Code)} {a : Addr} {cd : Value} {outer : List Env} {A₀ : Around} {base h₀ : Heap} {L : Addr} {m : Str → Option Value} {s : Shared} {Q : Flow → Shared → Prop} {E : Value → Shared → Prop}
    {oa ob : Obj} {av bv : Int} {ta tb : Tok}
    (B : Below A₀ base outer h₀) (F : Fr h₀ L s.heap m) (X : (hd.heap_39 w.params).In h₀) (N : News h₀ L s.heap ((L + 1, oa) :: (L + 1 + 1, ob) :: news)) (T : Top p loose mean mg mb h₀)
    (ha : oa.data = .cell (some (.int av ta))) (hb : ob.data = .cell (some (.int bv tb))) (ha0 : 0 ≤ av) (ha3 : av < 3) (hb0 : 0 ≤ bv) (hb3 : bv < 3)
    (hdp : dp + 1 < recursionLimit) (hun : un + 8 < cLine)
    (hret : ∀ (vs ys : List Value) (made : List (Addr × Obj)) (l : Addr) (c : Nat) (h' : Heap) (tk' : Nat), IntsAre vs ((List.range 10).map Int.ofNat) → Tri (LeadG w.params av bv) vs ys made → Fr h₀ L h' (fun z => if z = "leads" then some (.ref l) else m z) →
      News h₀ L h' ((l, listOf ys.toArray c) :: (made ++ ((L + 1, oa) :: (L + 1 + 1, ob) :: news))) → (∀ q ∈ ((L + 1, oa) :: (L + 1 + 1, ob) :: news), q.1 < l) → OwnOff made (l :: ((L + 1, oa) :: (L + 1 + 1, ob) :: news).map (·.1)) → Q .next { s with heap := h', toks := tk' }) :
    wpAny (model lw.prog w) (ktrTop dp un gd "law" lawScope L a cd (cellsFrom (L + 1) lawScope.names []) outer) (exec stLeads (lawEnv L a cd)) Q E s := by
  dsimp only [stLeads, lawEnv, lawScope, lawBody, lawDef, PySem.Challenge.pw_rs0159_01]

  with_unfolding_all refine' lc_assign (L := L) (h₀ := h₀) (LeadG w.params av bv) ((L + 1, oa) :: (L + 1 + 1, ob) :: news) m ?hsw ?hL ?hclos ?hcell ?hkind ?hnames ?hx ?hy ?hp ?h ?hs
  (case hsw => with_unfolding_all rfl)
  (case hL => rfl)
  (case hclos => with_unfolding_all rfl)
  (case hcell => decide)
  (case hkind => rfl)
  (case hnames => decide)
  (case hx => rfl)
  (case hy => rfl)
  (case hp => rfl)
  (case hs => intro _; with_unfolding_all rfl)
  k_fold
  k_steps
  with_unfolding_all refine' lc_range (n := 10) ?hh ?hF ?hN ?hr ?hs ?hn ?hz ?helt ?hK
  (case hr => assumption)
  (case hh => rfl)
  (case hF => assumption)
  (case hN => assumption)
  (case hs => decide +kernel)
  (case hn => decide +kernel)
  (case hz => decide)
  case helt =>
    rintro s₂ ⟨h2, rfl⟩ i v C m₃ h tk E' ⟨hin, t, rfl⟩ F₁ N₁ hn hm
    k_fold
    k_steps
    have hck := ws_fact (av := av) (rv := (i : Int)) (bv := bv) ha0 ha3 (by omega) (by omega) hb0 hb3
    with_unfolding_all refine' ws_call B F₁ X news_all T ?e1 ?e2 ?e3 ?e4 ?e5
    (case e1 => rfl)
    (case e2 => exact ws_size hck)
    (case e3 => exact hdp)
    (case e4 => exact hun)
    case e5 =>
      intro y own h' tk' hW F' N' hO
      exact ⟨h', tk', own, rfl, F', keep_all F₁ F' N', fresh_all F₁ N' hO, hin, y, rfl, hW⟩
  case hK =>
    intro vs D c ys made h' tk hi hT F' N' hlt hoff _ _ h'' tk'' F'' N''
    exact hret vs ys made D c h'' tk'' hi hT F'' N'' hlt hoff
end partLeads

section partCols
def turnBody : List Stmt := match lawBody with
  | [_, _, _, _, _, _, _, .For _ _ b _ _, _, _] => b
  | _ => []
def eColumns : Expr := match turnBody with
  | .Assign _ e _ :: _ => e
  | _ => default
theorem fr_focus {h₀ h : Heap} {L : Addr} {m : Str → Option Value} {x : Str} {v : Value} (F : Fr h₀ L h m) (e : m x = some v) : Fr h₀ L h (fun y => if y = x then some v else m y) :=
  fr_same F fun y => by by_cases g : y = x <;> simp [g, e]
theorem fr_unfocus {h₀ h : Heap} {L : Addr} {m : Str → Option Value} {x : Str} {v : Value} (F : Fr h₀ L h (fun y => if y = x then some v else m y)) (e : m x = some v) : Fr h₀ L h m :=
  fr_same F fun y => by by_cases g : y = x <;> simp [g, e]
theorem news_add {h₀ h : Heap} {L : Addr} {p : Addr × Obj} {news : List (Addr × Obj)} (N : News h₀ L h news) (hp : p ∈ news) : News h₀ L h (p :: news) := fun q hq => by
  rcases List.mem_cons.mp hq with rfl | hq
  · exact N _ hp
  · exact N _ hq
theorem news_sub {h₀ h : Heap} {L : Addr} {a b : List (Addr × Obj)} (N : News h₀ L h a) (hs : ∀ p ∈ b, p ∈ a) : News h₀ L h b := fun q hq => N q (hs q hq)

/-- the columns of the leads at the size d -/
def colsOf (av bv d : Int) : List Int := (List.range 10).map fun (i : Nat) => colOf av bv d (i : Int)

theorem columns_ok {w : World} {p : Program} {loose : List Str} {mean : ExcName → Option Value} {mg mb : Str → Option Value} {news : List (Addr × Obj)}
    {dp un : Nat} {gd : Option (List Code)} {a : Addr} {cd : Value} {outer : List Env} {A₀ : Around} {base h₀ : Heap} {L : Addr} {m : Str → Option Value} {s : Shared} {Q E : Value → Shared → Prop}
    {od : Obj} {av bv d : Int} {td : Tok} {ll : Addr} {kl : Nat} {ys vs : List Value} {made : List (Addr × Obj)}
    (B : Below A₀ base outer h₀) (F : Fr h₀ L s.heap m) (X : (hd.heap_39 w.params).In h₀) (N : News h₀ L s.heap news) (T : Top p loose mean mg mb h₀)
    (hml : m "leads" = some (.ref ll)) (hnl : (ll, listOf ys.toArray kl) ∈ news) (hnd : (L + 1 + 1 + 1, od) ∈ news) (hd : od.data = .cell (some (.int d td)))
    (ha0 : 0 ≤ av) (ha3 : av < 3) (hb0 : 0 ≤ bv) (hb3 : bv < 3) (hdm : d ∈ sizesD) (hd1 : 1 ≤ d) (hd8 : d ≤ 8)
    (hT : Tri (LeadG w.params av bv) vs ys made) (hvs : vs.length = 10) (hmade : ∀ q ∈ made, q ∈ news)
    (hdp : dp + 2 < recursionLimit) (hun : un + 8 < cLine)
    (hret : ∀ (D : Addr) (c : Nat) (zs : List Value) (h' : Heap) (tk : Nat), IntsAre zs (colsOf av bv d) → Fr h₀ L h' m → News h₀ L h' ((D, listOf zs.toArray c) :: news) → (∀ q ∈ news, q.1 < D) → Q (.ref D) { s with heap := h', toks := tk }) :
    wpAny (model lw.prog w) (ktrTop dp un gd "law" lawScope L a cd (cellsFrom (L + 1) lawScope.names []) outer) (eval eColumns (lawEnv L a cd)) Q E s := by
  have F2 := fr_focus F hml
  have N2 := news_add (news_add N hnl) (List.mem_cons_of_mem _ hnd)
  have hyl : ys.length = 10 := by rw [hT.len, hvs]
  dsimp only [eColumns, turnBody, lawEnv, lawScope, lawBody, lawDef, PySem.Challenge.pw_rs0159_01]
  with_unfolding_all refine' lc_eval (L := L) (h₀ := h₀) (fun i _ y own => own = [] ∧ ∃ t, y = Value.int (colOf av bv d (i : Int)) t) ((L + 1 + 1 + 1, od) :: (ll, listOf ys.toArray kl) :: news) (fun y => if y = "leads" then some (.ref ll) else m y) ?hL ?hclos ?hcell ?hkind ?hnames ?hx ?h ?hs
  (case hL => rfl)
  (case hclos => with_unfolding_all rfl)
  (case hcell => decide)
  (case hkind => rfl)
  (case hnames => decide)
  (case hx => rfl)
  (case hs => intro _; with_unfolding_all rfl)
  clear F N
  k_fold
  k_steps
  with_unfolding_all refine' lc_list (items := ys) ?hh ?hF ?hN ?hl ?hz ?helt ?hK
  (case hh => rfl)
  (case hF => exact F2)
  (case hN => exact N2)
  (case hl => exact List.mem_cons_of_mem _ (List.mem_cons_self ..))
  (case hz => omega)
  case helt =>
    rintro s₂ ⟨h2, rfl⟩ i v C m₃ h tk E' hv F₁ N₁ hn hm
    have hi10 : i < 10 := by have := (List.getElem?_eq_some_iff.mp hv).1; omega
    obtain ⟨own, ⟨_, x, rfl, dx, nm, ct, us, t1, t2, t3, t4, t5, tb, tt, v1, v2, v5, hus, rfl⟩, hsub⟩ := hT.get i (vs[i]'(by omega)) v (by simp [hvs, hi10]) hv
    obtain ⟨q1, q2, q3, q4, q5⟩ := ws_parts (ws_fact (av := av) (rv := (i : Int)) (bv := bv) ha0 ha3 (by omega) (by omega) hb0 hb3)
    have N₂ : News h₀ L h ([(nm, { cls := .type "tuple", data := .seq #[.ref ct, .int (wsQ av (i : Int) bv).1 tb] }), (ct, { cls := .type "tuple", data := .seq us.toArray }), (x, instObj 139 dx),
      (dx, dictOf [⟨PyData.keyHash w.params "raw", .str "raw" t1, v1⟩, ⟨PyData.keyHash w.params "n", .str "n" t2, v2⟩, ⟨PyData.keyHash w.params "nt", .str "nt" t3, .int (wsQ av (i : Int) bv).2.2.1 tt⟩, ⟨PyData.keyHash w.params "norm", .str "norm" t4, .ref nm⟩, ⟨PyData.keyHash w.params "is_simple", .str "is_simple" t5, v5⟩] 5)] ++ [(L + 1 + 1 + 1, od)]) := by
      refine news_sub N₁ fun p hp => ?_
      rcases List.mem_append.mp hp with hp | hp
      · exact List.mem_cons_of_mem _ (List.mem_cons_of_mem _ (hmade p (hsub p hp)))
      · rw [List.mem_singleton.mp hp]; exact List.mem_cons_self ..
    simp only [List.cons_append, List.nil_append] at N₂
    clear N₁
    show wpAny _ _ _ _ _ _
    k_fold
    k_steps
    have N₃ := News.append N₂ (news_all (h₀ := h₀) (L := L) (h := h))
    simp only [List.cons_append, List.nil_append] at N₃
    with_unfolding_all refine' il_call B F₁ X (news := (L + 1 + 1 + 1, od) :: newsAll h₀ L h) N₃ T ?e1 hus q3 q4 hd1 hd8 ?e2 ?e3 ?e4 hun ?e5
    (case e1 => rfl)
    (case e2 => rw [q1]; omega)
    (case e3 => rw [q2]; decide)
    (case e4 => omega)
    case e5 =>
      intro t' h' tk' F' N'
      refine ⟨h', tk', [], rfl, F', keep_all (own := []) F₁ F' (news_sub N' fun p hp => ?_), (fun p hp => nomatch hp), rfl, t', ?_⟩
      · exact List.mem_cons_of_mem _ (List.mem_cons_of_mem _ (List.mem_cons_of_mem _ (List.mem_cons_of_mem _ (List.mem_cons_of_mem _ hp))))
      · rw [q5 d hdm]
  case hK =>
    intro D c zs made' h' tk hT' F' N' hlt hoff
    have hm0 := hT'.pure (fun i v y own g => g.1)
    subst hm0
    have hz : IntsAre zs (colsOf av bv d) := hT'.ints (by simp [colsOf, hyl]) fun i v y own k hv hk g => by
      obtain ⟨_, t, e⟩ := g
      have hi10 : i < 10 := by have := (List.getElem?_eq_some_iff.mp hk).1; simpa [colsOf] using this
      have : k = colOf av bv d (i : Int) := by simpa [colsOf, hi10] using hk.symm
      exact ⟨t, by rw [e, this]⟩
    exact hret D c zs h' tk hz (fr_unfocus F' hml) (news_sub N' fun p hp => by
      rcases List.mem_cons.mp hp with rfl | hp
      · exact List.mem_cons_self ..
      · exact List.mem_cons_of_mem _ (List.mem_cons_of_mem _ (List.mem_cons_of_mem _ hp))) (fun q hq => hlt q (List.mem_cons_of_mem _ (List.mem_cons_of_mem _ hq)))
end partCols

section partLc2
/-- a block whose elements are ints told by a function of the item -/
def PureG (f : Int → Int) : Nat → Value → Value → List (Addr × Obj) → Prop := fun _ v y own => own = [] ∧ ∃ k t t', v = Value.int k t ∧ y = Value.int (f k) t'
def LcF (_ : Int → Int) : Prop := True
theorem lcF (f : Int → Int) : LcF f := trivial

theorem pure_ints {f : Int → Int} {vs ys : List Value} {made : List (Addr × Obj)} {ns : List Int} (h : Tri (PureG f) vs ys made) (hi : IntsAre vs ns) : made = [] ∧ IntsAre ys (ns.map f) := by
  refine ⟨h.pure fun i v y own g => g.1, h.ints (by rw [List.length_map, hi.length]) fun i v y own k hv hk g => ?_⟩
  obtain ⟨_, k', t, t', e1, e2⟩ := g
  obtain ⟨n, t2, e3, e4⟩ := hi.at i v hv
  rw [e1] at e3
  have : k' = n := by injection e3
  subst this
  rw [List.getElem?_map, e4] at hk
  have : f k' = k := by simpa using hk
  exact ⟨t', by rw [e2, this]⟩

section
variable {prog : Program} {w : World} {A : Around} {E : Value → Shared → Prop} {env : Env} {h₀ : Heap} {L : Addr} {m : Str → Option Value} {news : List (Addr × Obj)}
theorem lc_evalF {s : Shared} {f : Int → Int} {elt iter : Expr} {x : Str} {px : Pos} {scope : Scope} {cl : List (Str × Addr)} {pos : Pos} {Q : Value → Shared → Prop} (_sp : LcF f) (_F : Fr h₀ L s.heap m) (_N : News h₀ L s.heap news)
    (hL : env.locals = L) (hclos : closureFor scope env = pure cl) (hcell : ∀ y ∈ scope.names, y.2 ≠ .cell) (hkind : scope.kind = .function)
    (hnames : ∀ y ∈ scope.names, y.2 = .local → scope.names.lookup y.1 = some .local) (hx : scope.names.lookup x = some .local)
    (h : wpAny (model prog w) A (eval iter env) (fun xv s₁ => wpAny (model prog w) A (pyIter xv) (fun it s₂ =>
      LcAt prog w A h₀ L m news env scope cl x elt (PureG f) (fun _ D _ _ _ s' => Q (.ref D) s') it s₂) E s₁) E s)
    (hs : ∀ x, foldedSetIterable iter env x = pure x := by intro _; rfl) :
    wpAny (model prog w) A (eval (.ListComp elt [⟨.Name x px, iter, [], 0⟩] scope pos) env) Q E s := lc_eval (PureG f) news m hL hclos hcell hkind hnames hx h hs
theorem lc_assignF {s : Shared} {f : Int → Int} {elt iter : Expr} {x y : Str} {px py : Pos} {scope : Scope} {cl : List (Str × Addr)} {pos spos : Pos} {Q : Flow → Shared → Prop} (_sp : LcF f) (_F : Fr h₀ L s.heap m) (_N : News h₀ L s.heap news)
    (hsw : swapsWith (.ListComp elt [⟨.Name x px, iter, [], 0⟩] scope pos) (some (.Name y py)) spos.line env = pure true)
    (hL : env.locals = L) (hclos : closureFor scope env = pure cl) (hcell : ∀ z ∈ scope.names, z.2 ≠ .cell) (hkind : scope.kind = .function)
    (hnames : ∀ z ∈ scope.names, z.2 = .local → scope.names.lookup z.1 = some .local) (hx : scope.names.lookup x = some .local)
    (hy : env.kindOf y = some .local) (hp : (env.scope.kind == .class || (env.scope.kind == .module && env.locals != env.globals)) = false)
    (h : wpAny (model prog w) A (eval iter env) (fun xv s₁ => wpAny (model prog w) A (pyIter xv) (fun it s₂ =>
      LcAt prog w A h₀ L m news env scope cl x elt (PureG f) (fun vs D c ys made s' => Fr h₀ L s'.heap m → News h₀ L s'.heap ((D, listOf ys.toArray c) :: (made ++ news)) →
        ∀ h' tk, Fr h₀ L h' (fun z => if z = y then some (.ref D) else m z) → News h₀ L h' ((D, listOf ys.toArray c) :: (made ++ news)) → Q .next { s' with heap := h', toks := tk }) it s₂) E s₁) E s)
    (hs : ∀ x, foldedSetIterable iter env x = pure x := by intro _; rfl) :
    wpAny (model prog w) A (exec (.Assign [.Name y py] (.ListComp elt [⟨.Name x px, iter, [], 0⟩] scope pos) spos) env) Q E s := lc_assign (PureG f) news m hsw hL hclos hcell hkind hnames hx hy hp h hs

/-- where an element's walk ends -/
def EltEnd (h₀ : Heap) (L : Addr) (m : Str → Option Value) (s : Shared) (h : Heap) (z : Int) (y : Value) (s₄ : Shared) : Prop :=
  ∃ h' tk' t', s₄ = { s with heap := h', toks := tk' } ∧ Fr h₀ L h' m ∧ (∀ b o, b ≠ L → h.get? b = some o → h'.get? b = some o) ∧ y = .int z t'
theorem EltEnd.here {h₀ h : Heap} {L : Addr} {m : Str → Option Value} {s : Shared} {z : Int} {t' : Tok} {tk' : Nat} (F : Fr h₀ L h m) : EltEnd h₀ L m s h z (.int z t') { s with heap := h, toks := tk' } := ⟨h, tk', t', rfl, F, fun _ _ _ e => e, rfl⟩
def EltF (prog : Program) (w : World) (A : Around) (h₀ : Heap) (L : Addr) (m : Str → Option Value) (news : List (Addr × Obj)) (env : Env) (scope : Scope) (cl : List (Str × Addr)) (x : Str) (elt : Expr) (R : Nat → Int → Prop) (f : Int → Int) (s : Shared) : Prop :=
  ∀ (i : Nat) (k : Int) (t : Tok) (C : Addr) (m₃ : Str → Option Value) (h : Heap) (tk : Nat) (E' : Value → Shared → Prop), R i k → Fr h₀ L h m → News h₀ L h news → h.Ns C m₃ → m₃ x = some (.int k t) →
    wpAny (model prog w) A (eval elt (compEnvC scope cl C env)) (fun y s₄ => EltEnd h₀ L m s h (f k) y s₄) E' { s with heap := h, toks := tk }

theorem lc_intsF {s : Shared} {f : Int → Int} {elt : Expr} {x : Str} {scope : Scope} {cl : List (Str × Addr)} {K : List Value → Addr → Nat → List Value → List (Addr × Obj) → Shared → Prop} {l : Addr} {items : List Value} {ns : List Int} {k : Nat}
    (hh : A.handled = none) (F : Fr h₀ L s.heap m) (N : News h₀ L s.heap news) (hl : (l, listOf items.toArray k) ∈ news) (hi : IntsAre items ns) (hsz : ns.length ≤ 16384)
    (helt : EltF prog w A h₀ L m news env scope cl x elt (fun i k => ns[i]? = some k) f s)
    (hK : ∀ D c ys h' tk, IntsAre ys (ns.map f) → Fr h₀ L h' m → News h₀ L h' ((D, listOf ys.toArray c) :: news) → (∀ q ∈ news, q.1 < D) → K items D c ys [] { s with heap := h', toks := tk }) :
    wpAny (model prog w) A (pyIter (.ref l)) (fun it s₂ => LcAt prog w A h₀ L m news env scope cl x elt (PureG f) K it s₂) E s := by
  refine lc_list hh F N hl (by rw [hi.length]; exact hsz) ?_ ?_
  · rintro s₂ ⟨h2, rfl⟩ i v C m₃ h tk E' hv F₁ N₁ hn hm
    obtain ⟨n, t, rfl, hk⟩ := hi.at i v hv
    refine wpAny_mono (helt i n t C m₃ h tk E' hk F₁ N₁ hn hm) (fun y s₄ h₄ => ?_) fun _ _ e => e
    obtain ⟨h', tk', t', rfl, F', hk', e⟩ := h₄
    exact ⟨h', tk', [], rfl, F', hk', (fun p hp => nomatch hp), rfl, n, t, t', rfl, e⟩
  · intro D c ys made h' tk hT F' N' hlt _
    obtain ⟨e1, e2⟩ := pure_ints hT hi
    subst e1
    exact hK D c ys h' tk e2 F' N' hlt

theorem lc_rangeF {s : Shared} {f : Int → Int} {elt : Expr} {x : Str} {scope : Scope} {cl : List (Str × Addr)} {K : List Value → Addr → Nat → List Value → List (Addr × Obj) → Shared → Prop} {r : Addr} {b₀ : Int} {t u v : Tok} {n : Nat}
    (hh : A.handled = none) (F : Fr h₀ L s.heap m) (N : News h₀ L s.heap news) (hr : IsRange s.heap r 0 b₀ 1 t u v) (hsmall : Builtin.Range.small 0 b₀ 1 = true) (hn : Builtin.Range.rangeSize 0 b₀ 1 = (n : Int)) (hsz : n ≤ 16384)
    (helt : EltF prog w A h₀ L m news env scope cl x elt (fun i k => 0 ≤ k ∧ k < (n : Int)) f s)
    (hK : ∀ vs D c ys h' tk, IntsAre ys (((List.range n).map Int.ofNat).map f) → Fr h₀ L h' m → News h₀ L h' ((D, listOf ys.toArray c) :: news) → (∀ q ∈ news, q.1 < D) → K vs D c ys [] { s with heap := h', toks := tk }) :
    wpAny (model prog w) A (pyIter (.ref r)) (fun it s₂ => LcAt prog w A h₀ L m news env scope cl x elt (PureG f) K it s₂) E s := by
  refine lc_range hh F N hr hsmall hn hsz ?_ ?_
  · rintro s₂ ⟨h2, rfl⟩ i v C m₃ h tk E' ⟨hin, t, rfl⟩ F₁ N₁ hn hm
    refine wpAny_mono (helt i i t C m₃ h tk E' ⟨by omega, by omega⟩ F₁ N₁ hn hm) (fun y s₄ h₄ => ?_) fun _ _ e => e
    obtain ⟨h', tk', t', rfl, F', hk', e⟩ := h₄
    exact ⟨h', tk', [], rfl, F', hk', (fun p hp => nomatch hp), rfl, i, t, t', rfl, e⟩
  · intro vs D c ys made h' tk hi hT F' N' hlt _
    obtain ⟨e1, e2⟩ := pure_ints hT hi
    subst e1
    exact hK vs D c ys h' tk e2 F' N' hlt
end
end partLc2

section partMc
theorem fr_fo2 {h₀ h : Heap} {L : Addr} {m : Str → Option Value} {a b : Str} {va vb : Value} (F : Fr h₀ L h m) (ea : m a = some va) (eb : m b = some vb) : Fr h₀ L h (fun z => if z = b then some vb else if z = a then some va else m z) := fr_same F fun z => by
  (try (by_cases gb : z = b)) <;> (try (by_cases ga : z = a)) <;> simp_all
theorem fr_un2 {h₀ h : Heap} {L : Addr} {m : Str → Option Value} {a b : Str} {va vb : Value} (F : Fr h₀ L h (fun z => if z = b then some vb else if z = a then some va else m z)) (ea : m a = some va) (eb : m b = some vb) : Fr h₀ L h m := fr_same F fun z => by
  (try (by_cases gb : z = b)) <;> (try (by_cases ga : z = a)) <;> simp_all
theorem fr_fo3 {h₀ h : Heap} {L : Addr} {m : Str → Option Value} {a b c : Str} {va vb vc : Value} (F : Fr h₀ L h m) (ea : m a = some va) (eb : m b = some vb) (ec : m c = some vc) : Fr h₀ L h (fun z => if z = c then some vc else if z = b then some vb else if z = a then some va else m z) := fr_same F fun z => by
  (try (by_cases gc : z = c)) <;> (try (by_cases gb : z = b)) <;> (try (by_cases ga : z = a)) <;> simp_all
theorem fr_un3 {h₀ h : Heap} {L : Addr} {m : Str → Option Value} {a b c : Str} {va vb vc : Value} (F : Fr h₀ L h (fun z => if z = c then some vc else if z = b then some vb else if z = a then some va else m z)) (ea : m a = some va) (eb : m b = some vb) (ec : m c = some vc) : Fr h₀ L h m := fr_same F fun z => by
  (try (by_cases gc : z = c)) <;> (try (by_cases gb : z = b)) <;> (try (by_cases ga : z = a)) <;> simp_all
theorem fr_fo4 {h₀ h : Heap} {L : Addr} {m : Str → Option Value} {a b c d : Str} {va vb vc vd : Value} (F : Fr h₀ L h m) (ea : m a = some va) (eb : m b = some vb) (ec : m c = some vc) (ed : m d = some vd) : Fr h₀ L h (fun z => if z = d then some vd else if z = c then some vc else if z = b then some vb else if z = a then some va else m z) := fr_same F fun z => by
  (try (by_cases gd : z = d)) <;> (try (by_cases gc : z = c)) <;> (try (by_cases gb : z = b)) <;> (try (by_cases ga : z = a)) <;> simp_all
theorem fr_un4 {h₀ h : Heap} {L : Addr} {m : Str → Option Value} {a b c d : Str} {va vb vc vd : Value} (F : Fr h₀ L h (fun z => if z = d then some vd else if z = c then some vc else if z = b then some vb else if z = a then some va else m z)) (ea : m a = some va) (eb : m b = some vb) (ec : m c = some vc) (ed : m d = some vd) : Fr h₀ L h m := fr_same F fun z => by
  (try (by_cases gd : z = d)) <;> (try (by_cases gc : z = c)) <;> (try (by_cases gb : z = b)) <;> (try (by_cases ga : z = a)) <;> simp_all
theorem fr_refocus {h₀ h : Heap} {L : Addr} {m : Str → Option Value} {x y : Str} {u v : Value} (F : Fr h₀ L h (fun z => if z = y then some u else if z = x then some v else m z)) (e : m x = some v) (_ : y ≠ x) : Fr h₀ L h (fun z => if z = y then some u else m z) :=
  fr_same F fun z => by by_cases g : z = y <;> by_cases g' : z = x <;> simp [g, g', e]

theorem lcn_local2 {M : Model} {A : Around} {E : Value → Shared → Prop} {s : Shared} {C : Addr} {scope : Scope} {cl : List (Str × Addr)} {env : Env} {x : Str} {pos : Pos} {v : Value} {m₃ : Str → Option Value} {Q : Value → Shared → Prop} (hn : s.heap.Ns C m₃) (hm : m₃ x = some v) (h : Q v s)
    (hk : (compEnvC scope cl C env).scope.kind = .function) (hx : (compEnvC scope cl C env).kindOf x = some .local) (hb : (x == ("__debug__" : Str)) = false := by decide) :
    wpAny M A (eval (.Name x pos) (compEnvC scope cl C env)) Q E s := wpAny_Name (wpAny_loadName_local hk hx hn hm h) hb
theorem ne_sameK {prog : Program} {w : World} {A : Around} {E : Value → Shared → Prop} {s : Shared} {a b : Addr} {vs us : List Value} {ns ms : List Int} {Q : Value → Shared → Prop} (hl : s.heap.IsList a vs.toArray) (hi : IntsAre vs ns) (hl' : s.heap.IsList b us.toArray) (hi' : IntsAre us ms) (e : ns = ms) (hu : A.units + 64 < cLine)
    (h : Q (.bool false) s) : wpAny (model prog w) A (compareOp .NotEq (.ref a) (.ref b)) Q E s := ne_intsK hl hi hl' hi' hu (by rw [decide_eq_true e]; exact h)
theorem item_M {value slice : Expr} {prog : Program} {w : World} {A : Around} {E : Value → Shared → Prop} {s : Shared} {l : Addr} {vs : List Value} {ns : List Int} {k : Int} {u : Tok} {Q : Value → Shared → Prop} (hl : s.heap.IsList l vs.toArray) (hi : IntsAre vs ns) (hcl : ns.length = 10) (hk : 0 ≤ k ∧ k < 10)
    (h : ∀ t, Q (.int (ns.getD k.toNat 0) t) s)
    (hs : subscripted slice false (.ref l) (.int k u) = operate [.ref l, .int k u] (getItem (.ref l) (.int k u)) := by with_unfolding_all rfl) :
    wpAny (model prog w) A (subscriptTail value slice (.ref l) (.int k u)) Q E s := item_list_intsT hl hi hk.1 (by omega) (by omega) h hs
end partMc

section partP0
local macro_rules | `(tactic| walk_at "no such key") => `(tactic| skip)
def stCells : Stmt := match lawBody with
  | st :: _ => st
  | _ => .Pass default

theorem p0_ok {w : World} {p : Program} {loose : List Str} {mean : ExcName → Option Value} {mg mb : Str → Option Value} {news : List (Addr × Obj)}
    {dp un : Nat} {gd : Option (List Code)} {a : Addr} {cd : Value} {outer : List Env} {A₀ : Around} {base h₀ : Heap} {L : Addr} {m : Str → Option Value} {s : Shared} {E : Value → Shared → Prop} {Q : Flow → Shared → Prop}
    (B : Below A₀ base outer h₀) (F : Fr h₀ L s.heap m) (X : (hd.heap_39 w.params).In h₀) (N : News h₀ L s.heap news) (T : Top p loose mean mg mb h₀)
    (hdp : dp + 2 < recursionLimit) (hun : un + 100 < cLine)
    (hret : ∀ (lc : Addr) (kc : Nat) (cs : List Value) (h' : Heap) (tk : Nat), IntsAre cs [3, 7, 6, 0, 4] → (∀ q ∈ news, q.1 < lc) → Fr h₀ L h' (fun y => if y = "cells" then some (.ref lc) else m y) → News h₀ L h' ((lc, listOf cs.toArray kc) :: news) → Q .next { s with heap := h', toks := tk }) :
    wpAny (model lw.prog w) (ktrTop dp un gd "law" lawScope L a cd (cellsFrom (L + 1) lawScope.names []) outer) (exec stCells (lawEnv L a cd)) Q E s := by
  dsimp only [stCells, lawEnv, lawScope, lawBody, lawDef, PySem.Challenge.pw_rs0159_01]
  k_steps
  all_goals first
    | exact hret _ _ [_, _, _, _, _] _ _ (.cons 3 _ (.cons 7 _ (.cons 6 _ (.cons 0 _ (.cons 4 _ .nil))))) (allLt_mem (by assumption)) (by assumption) (by assumption)
    | exact hret _ _ [_, _, _, _, _] _ _ (.cons 3 _ (.cons 7 _ (.cons 6 _ (.cons 0 _ (.cons 4 _ .nil))))) (by assumption) (by assumption) (by assumption)
end partP0

section partP2
def stN : Stmt := match lawBody with
  | _ :: _ :: st :: _ => st
  | _ => .Pass default

theorem p2_ok {w : World} {p : Program} {loose : List Str} {mean : ExcName → Option Value} {mg mb : Str → Option Value} {news : List (Addr × Obj)}
    {dp un : Nat} {gd : Option (List Code)} {a : Addr} {cd : Value} {outer : List Env} {A₀ : Around} {base h₀ : Heap} {L : Addr} {m : Str → Option Value} {s : Shared} {E : Value → Shared → Prop} {Q : Flow → Shared → Prop}
    {ls : Addr} {vs : List Value} {ns : List Int}
    (B : Below A₀ base outer h₀) (F : Fr h₀ L s.heap m) (X : (hd.heap_39 w.params).In h₀) (N : News h₀ L s.heap news) (T : Top p loose mean mg mb h₀)
    (hms : m "script" = some (.ref ls)) (hl : h₀.IsList ls vs.toArray) (hi : IntsAre vs ns) (h63 : ns.length ≤ 63)
    (hdp : dp + 2 < recursionLimit) (hun : un + 100 < cLine)
    (hret : ∀ (t : Tok) (h' : Heap) (tk : Nat), Fr h₀ L h' (fun y => if y = "n" then some (.int (4 - Int.fmod (ns.length : Int) 4) t) else m y) → News h₀ L h' news → Q .next { s with heap := h', toks := tk }) :
    wpAny (model lw.prog w) (ktrTop dp un gd "law" lawScope L a cd (cellsFrom (L + 1) lawScope.names []) outer) (exec stN (lawEnv L a cd)) Q E s := by
  have F2 := fr_focus F hms
  clear F
  dsimp only [stN, lawEnv, lawScope, lawBody, lawDef, PySem.Challenge.pw_rs0159_01]
  k_steps
  all_goals first
    | exact hret _ _ _ (fr_refocus (by assumption) hms (by decide)) (by assumption)
end partP2

section partP3
def stRuns : Stmt := match lawBody with
  | _ :: _ :: _ :: st :: _ => st
  | _ => .Pass default

section
variable {prog : Program} {w : World} {A : Around} {E : Value → Shared → Prop} {env : Env} {h₀ : Heap} {L : Addr} {m : Str → Option Value} {news : List (Addr × Obj)}
/-- the comprehension's source is a list that its own expression has made -/
theorem lc_listN {s : Shared} {elt : Expr} {x : Str} {scope : Scope} {cl : List (Str × Addr)} {G : Nat → Value → Value → List (Addr × Obj) → Prop} {K : List Value → Addr → Nat → List Value → List (Addr × Obj) → Shared → Prop} {l : Addr} {items : List Value} {k : Nat}
    (hh : A.handled = none) (F : Fr h₀ L s.heap m) (NN : News h₀ L s.heap ((l, listOf items.toArray k) :: news)) (hsz : items.length ≤ 16384)
    (helt : ∀ s₂ : Shared, (∃ h, s₂ = { s with heap := h }) → EltOk prog w A h₀ L m news env scope cl x elt (fun i v => items[i]? = some v) G s₂)
    (hK : ∀ D c ys made h' tk, Tri G items ys made → Fr h₀ L h' m → News h₀ L h' ((D, listOf ys.toArray c) :: (made ++ news)) → (∀ q ∈ news, q.1 < D) → OwnOff made (D :: news.map (·.1)) → K items D c ys made { s with heap := h', toks := tk }) :
    wpAny (model prog w) A (pyIter (.ref l)) (fun it s₂ => LcAt prog w A h₀ L m news env scope cl x elt G K it s₂) E s := by
  have Nl := NN _ (List.mem_cons_self ..)
  have N : News h₀ L s.heap news := fun q hq => NN q (List.mem_cons_of_mem _ hq)
  have hls : s.heap.IsList l items.toArray := ⟨_, Nl.1, rfl, k, rfl⟩
  have hlt : l < s.heap.objs.size := Heap.lt_size Nl.1
  have hLs : L < s.heap.objs.size := F.ns.lt
  refine wpAny_pyIter_list hls ?_
  refine ⟨_, _, _, _, _, _, rfl, Walks.list hh s.heap.objs.size l (Nat.ne_of_lt hlt) items.toArray, ?_, ?_, ⟨⟨_, Heap.get?_push_size _ rfl, rfl, rfl⟩, hls.at fun o e => Heap.get?_push_of_some _ e⟩, ?_, ?_, ?_, F.push _, (fun p hp => ⟨Heap.get?_push_of_some _ (N p hp).1, (N p hp).2⟩), ?_, ?_⟩
  · rw [List.size_toArray, sizeLine_eq]; omega
  · intro i h st b hb
    rw [List.mem_singleton.mp hb]
    obtain ⟨⟨o, ho, _⟩, _⟩ := st
    exact ⟨o, ho⟩
  · intro b hb
    show b < (Heap.push _ _).objs.size
    rw [Heap.size_push]
    rcases List.mem_cons.mp hb with rfl | hb
    · exact Nat.lt_succ_self _
    · rw [List.mem_singleton.mp hb]; exact Nat.lt_succ_of_lt hlt
  · intro hb
    rcases List.mem_cons.mp hb with e | hb
    · exact Nat.ne_of_lt hLs e
    · exact Nl.2.1 (List.mem_singleton.mp hb).symm
  · intro b hb
    rw [List.mem_singleton.mp hb]
    exact ⟨next_is_new F, fun q hq => Nat.ne_of_lt (Heap.lt_size (N q hq).1)⟩
  · have := helt { s with heap := s.heap.push { cls := .type "list_iterator", data := .fields #[.ref l, .int 0 0] } } ⟨_, rfl⟩
    intro i v C m₃ h tk E' hP
    exact this i v C m₃ h tk E' (by simpa using hP)
  · intro vs D c ys made h' tk hlen hP hT F' N' hlt' hoff
    have e : vs = items := by
      refine List.ext_getElem? fun j => ?_
      cases hj : vs[j]? with
      | none =>
        have : items.length ≤ j := by
          have h1 := List.getElem?_eq_none_iff.mp hj
          rw [hlen] at h1; simpa using h1
        rw [List.getElem?_eq_none this]
      | some v => have := hP j v hj; simpa using this.symm
    subst e
    exact hK D c ys made h' tk hT F' N' hlt' hoff
theorem lc_intsN {s : Shared} {f : Int → Int} {elt : Expr} {x : Str} {scope : Scope} {cl : List (Str × Addr)} {K : List Value → Addr → Nat → List Value → List (Addr × Obj) → Shared → Prop} {l : Addr} {items : List Value} {ns : List Int} {k : Nat}
    (hh : A.handled = none) (F : Fr h₀ L s.heap m) (N : News h₀ L s.heap ((l, listOf items.toArray k) :: news)) (hi : IntsAre items ns) (hsz : ns.length ≤ 16384)
    (helt : EltF prog w A h₀ L m news env scope cl x elt (fun i k => ns[i]? = some k) f s)
    (hK : ∀ D c ys h' tk, IntsAre ys (ns.map f) → Fr h₀ L h' m → News h₀ L h' ((D, listOf ys.toArray c) :: news) → (∀ q ∈ news, q.1 < D) → K items D c ys [] { s with heap := h', toks := tk }) :
    wpAny (model prog w) A (pyIter (.ref l)) (fun it s₂ => LcAt prog w A h₀ L m news env scope cl x elt (PureG f) K it s₂) E s := by
  refine lc_listN hh F N (by rw [hi.length]; exact hsz) ?_ ?_
  · rintro s₂ ⟨h2, rfl⟩ i v C m₃ h tk E' hv F₁ N₁ hn hm
    obtain ⟨n, t, rfl, hk⟩ := hi.at i v hv
    refine wpAny_mono (helt i n t C m₃ h tk E' hk F₁ N₁ hn hm) (fun y s₄ h₄ => ?_) fun _ _ e => e
    obtain ⟨h', tk', t', rfl, F', hk', e⟩ := h₄
    exact ⟨h', tk', [], rfl, F', hk', (fun p hp => nomatch hp), rfl, n, t, t', rfl, e⟩
  · intro D c ys made h' tk hT F' N' hlt _
    obtain ⟨e1, e2⟩ := pure_ints hT hi
    subst e1
    exact hK D c ys h' tk e2 F' N' hlt
end
local macro_rules | `(tactic| walk_at "eval Name") => `(tactic| (k_here; (with_reducible show wpAny _ _ (eval (Expr.Name _ _) (compEnvC _ _ _ _)) _ _ _); (with_unfolding_all refine' lcn_local2 ?hn ?hm ?_ ?a ?b; (case hn => assumption); (case hm => assumption); (case a => rfl); (case b => rfl))))
local macro_rules | `(tactic| walk_at "eval ListComp") => `(tactic| (k_here; (with_reducible rename LcF _ => sp'); (rename Fr _ _ _ _ => lF'); (rename News _ _ _ _ => lN'); (with_unfolding_all refine' lc_evalF sp' lF' lN' ?hL ?hclos ?hcell ?hkind ?hnames ?hx ?h ?hs; (case hL => rfl); (case hclos => with_unfolding_all rfl); (case hcell => decide); (case hkind => rfl); (case hnames => decide); (case hx => rfl); (case hs => intro _; with_unfolding_all rfl)); clear sp'; (try k_fold)))
local macro_rules | `(tactic| walk_at "exec Assign cons ListComp") => `(tactic| (k_here; (with_reducible rename LcF _ => sp'); (rename Fr _ _ _ _ => lF'); (rename News _ _ _ _ => lN'); (with_unfolding_all refine' lc_assignF sp' lF' lN' ?hsw ?hL ?hclos ?hcell ?hkind ?hnames ?hx ?hy ?hp ?h ?hs; (case hsw => with_unfolding_all rfl); (case hL => rfl); (case hclos => with_unfolding_all rfl); (case hcell => decide); (case hkind => rfl); (case hnames => decide); (case hx => rfl); (case hy => rfl); (case hp => rfl); (case hs => intro _; with_unfolding_all rfl)); clear sp'; (try k_fold)))
local macro_rules | `(tactic| walk_at "pyIter ref") => `(tactic| (k_here; (with_reducible show wpAny _ _ (pyIter (Value.ref _)) (fun it s₂ => LcAt _ _ _ _ _ _ _ _ _ _ _ _ _ _ it s₂) _ _); first
  | ((with_unfolding_all refine' lc_rangeF (n := 10) ?hh ?hF ?hN ?hr ?hs ?hn ?hz ?helt ?hK; (case hr => assumption); (case hh => rfl); (case hF => k_asm); (case hN => k_asm); (case hs => decide +kernel); (case hn => decide +kernel); (case hz => decide); (case' helt => ((intro i' k' t' C' m' h' tk' E' hr' F' N' hn' hm'); (obtain ⟨hr1', hr2'⟩ := hr'); (show wpAny _ _ _ _ _ _); (try k_fold))); (case' hK => (intro v' D' c' z' h' tk' zi' F' N' l1'; (try dsimp only)))))
  | ((with_unfolding_all refine' lc_intsF ?hh ?hF ?hN ?hl ?hi ?hz ?helt ?hK; (case hh => rfl); (case hF => k_asm); (case hN => k_asm); (case hl => k_mem); (case hi => assumption); (case hz => omega); (case' helt => ((intro i' k' t' C' m' h' tk' E' hr' F' N' hn' hm'); (show wpAny _ _ _ _ _ _); (try k_fold))); (case' hK => (intro D' c' z' h' tk' zi' F' N' l1'; (try dsimp only)))))))
local macro_rules | `(tactic| walk_at "EltEnd") => `(tactic| (with_unfolding_all exact EltEnd.here (by assumption)))

local macro_rules | `(tactic| walk_at "compareOp NotEq ref ref") => `(tactic| (k_here; (with_reducible show wpAny _ _ (compareOp CmpOp.NotEq (Value.ref _) (Value.ref _)) _ _ _); (with_unfolding_all refine' ne_sameK (mine_list ?k1 ?k1m) ?k2 (mine_list ?k3 ?k3m) ?k4 ?k5 ?k6 ?_; (case k1 => k_asm); (case k1m => k_mem); (case k2 => assumption); (case k3 => k_asm); (case k3m => k_mem); (case k4 => assumption); (case k5 => first | assumption | rfl); (case k6 => (show _ + 64 < cLine; dsimp only; omega)))))

local macro_rules | `(tactic| walk_at "subscriptTail") => `(tactic| (k_here; (with_reducible show wpAny _ _ (subscriptTail _ _ (Value.ref _) (Value.int _ _)) _ _ _); (with_unfolding_all refine' item_M (mine_list ?k1 ?k1m) ?k2 ?k3 ?k4 ?_ ?k5; (case k1 => k_asm); (case k1m => k_mem); (case k2 => assumption); (case k3 => assumption); (case k4 => first | exact ⟨by assumption, by assumption⟩ | (with_reducible rename (∀ r ∈ _, 0 ≤ r ∧ r < (10 : Int)) => hq'; exact hq' _ (List.mem_of_getElem? (by assumption)))); (case k5 => with_unfolding_all rfl)); intro t'))


theorem fr_refocus2 {h₀ h : Heap} {L : Addr} {m : Str → Option Value} {x x2 y : Str} {u v v2 : Value} (F : Fr h₀ L h (fun z => if z = y then some u else if z = x2 then some v2 else if z = x then some v else m z)) (e : m x = some v) (e2 : m x2 = some v2) (_ : y ≠ x) (_ : y ≠ x2) : Fr h₀ L h (fun z => if z = y then some u else m z) :=
  fr_same F fun z => by by_cases g : z = y <;> by_cases g2 : z = x2 <;> by_cases g' : z = x <;> simp_all
theorem p3_ok {w : World} {p : Program} {loose : List Str} {mean : ExcName → Option Value} {mg mb : Str → Option Value} {news : List (Addr × Obj)}
    {dp un : Nat} {gd : Option (List Code)} {a : Addr} {cd : Value} {outer : List Env} {A₀ : Around} {base h₀ : Heap} {L : Addr} {m : Str → Option Value} {s : Shared} {E : Value → Shared → Prop} {Q : Flow → Shared → Prop}
    {lc : Addr} {cs : List Value} {cn : List Int} {kc : Nat} {nv : Int} {tn : Tok}
    (B : Below A₀ base outer h₀) (F : Fr h₀ L s.heap m) (X : (hd.heap_39 w.params).In h₀) (N : News h₀ L s.heap news) (T : Top p loose mean mg mb h₀)
    (hmc : m "cells" = some (.ref lc)) (hmn : m "n" = some (.int nv tn)) (hnc : (lc, listOf cs.toArray kc) ∈ news) (hcs : IntsAre cs cn) (h5 : cn.length = 5) (hcb : ∀ c ∈ cn, 0 ≤ c ∧ c ≤ 100000000) (hn1 : 1 ≤ nv) (hn4 : nv ≤ 4)
    (hdp : dp + 2 < recursionLimit) (hun : un + 100 < cLine)
    (hret : ∀ (D : Addr) (c : Nat) (ys : List Value) (h' : Heap) (tk : Nat), IntsAre ys ((cn.take nv.toNat).map fun r => Int.fmod r 8) → (∀ q ∈ news, q.1 < D) → Fr h₀ L h' (fun y => if y = "runs" then some (.ref D) else m y) → News h₀ L h' ((D, listOf ys.toArray c) :: news) → Q .next { s with heap := h', toks := tk }) :
    wpAny (model lw.prog w) (ktrTop dp un gd "law" lawScope L a cd (cellsFrom (L + 1) lawScope.names []) outer) (exec stRuns (lawEnv L a cd)) Q E s := by
  have F2 := fr_fo2 F hmc hmn
  have N2 := news_add N hnc
  clear N F
  have sp := lcF fun r => Int.fmod r 8
  have hkl := IntsAre.length hcs
  dsimp only [stRuns, lawEnv, lawScope, lawBody, lawDef, PySem.Challenge.pw_rs0159_01]
  k_steps
  with_unfolding_all show wpAny _ _ _ _ _ _
  with_unfolding_all refine' lc_intsN ?hh ?hF ?hN ?hi ?hz ?helt ?hK
  (case hh => rfl)
  (case hF => assumption)
  (case hN => assumption)
  (case hi => assumption)
  (case hz => rw [List.length_take]; omega)
  case helt =>
    intro i' k' t' C' m' h' tk' E' hr' F' N' hn' hm'
    have hkb := hcb k' (List.mem_of_mem_take (List.mem_of_getElem? hr'))
    show wpAny _ _ _ _ _ _
    (try k_fold)
    k_steps
  case hK =>
    intro D' c' z' h' tk' zi' F' N' l1' _ _ h'' tk'' F'' N''
    exact hret D' c' z' h'' tk'' zi' (fun q hq => l1' q (List.mem_cons_of_mem _ hq)) (fr_refocus2 F'' hmc hmn (by decide) (by decide)) (news_sub N'' fun q hq => by
      rcases List.mem_cons.mp hq with rfl | hq
      · exact List.mem_cons_self ..
      · exact List.mem_cons_of_mem _ (List.mem_cons_of_mem _ hq))
end partP3

section partP4
def stAhead : Stmt := match lawBody with
  | _ :: _ :: _ :: _ :: st :: _ => st
  | _ => .Pass default

local macro_rules | `(tactic| k_all) => `(tactic| assumption)
theorem p4_ok {w : World} {p : Program} {loose : List Str} {mean : ExcName → Option Value} {mg mb : Str → Option Value} {news : List (Addr × Obj)}
    {dp un : Nat} {gd : Option (List Code)} {a : Addr} {cd : Value} {outer : List Env} {A₀ : Around} {base h₀ : Heap} {L : Addr} {m : Str → Option Value} {s : Shared} {E : Value → Shared → Prop} {Q : Flow → Shared → Prop}
    {oa : Obj} {va : Option Value} {lc : Addr} {cs : List Value} {cn : List Int} {kc : Nat}
    (B : Below A₀ base outer h₀) (F : Fr h₀ L s.heap m) (X : (hd.heap_39 w.params).In h₀) (N : News h₀ L s.heap ((L + 1, oa) :: news)) (T : Top p loose mean mg mb h₀)
    (hmc : m "cells" = some (.ref lc)) (hnc : (lc, listOf cs.toArray kc) ∈ news) (hcs : IntsAre cs cn) (h5 : cn.length = 5) (hc0 : 0 ≤ cn.getD 4 0) (hc1 : cn.getD 4 0 ≤ 100000000)
    (hoff : ∀ q ∈ news, q.1 ≠ L + 1) (hoa : oa.data = .cell va)
    (hdp : dp + 2 < recursionLimit) (hun : un + 100 < cLine)
    (hret : ∀ (oa' : Obj) (t : Tok) (h' : Heap) (tk : Nat), oa'.data = .cell (some (.int (Int.fmod (cn.getD 4 0) 3) t)) → Fr h₀ L h' m → News h₀ L h' ((L + 1, oa') :: news) → Q .next { s with heap := h', toks := tk }) :
    wpAny (model lw.prog w) (ktrTop dp un gd "law" lawScope L a cd (cellsFrom (L + 1) lawScope.names []) outer) (exec stAhead (lawEnv L a cd)) Q E s := by
  have F2 := fr_focus F hmc
  have N2 := news_sub (b := (L + 1, oa) :: (lc, listOf cs.toArray kc) :: news) N fun q hq => by
    rcases List.mem_cons.mp hq with rfl | hq
    · exact List.mem_cons_self ..
    · rcases List.mem_cons.mp hq with rfl | hq
      · exact List.mem_cons_of_mem _ hnc
      · exact List.mem_cons_of_mem _ hq
  clear N F
  have hall : ∀ q ∈ (lc, listOf cs.toArray kc) :: news, q.1 ≠ L + 1 := List.forall_mem_cons.mpr ⟨hoff _ hnc, hoff⟩
  dsimp only [stAhead, lawEnv, lawScope, lawBody, lawDef, PySem.Challenge.pw_rs0159_01]
  k_steps
  all_goals first
    | exact hret _ _ _ _ (by assumption) (fr_unfocus (by assumption) hmc) (news_sub (by assumption) fun q hq => by
        rcases List.mem_cons.mp hq with rfl | hq
        · exact List.mem_cons_self ..
        · exact List.mem_cons_of_mem _ (List.mem_cons_of_mem _ hq))
end partP4

section partP5
local macro_rules | `(tactic| walk_at "no such key") => `(tactic| skip)
def stBehind : Stmt := match lawBody with
  | _ :: _ :: _ :: _ :: _ :: st :: _ => st
  | _ => .Pass default

local macro_rules | `(tactic| k_all) => `(tactic| assumption)
theorem p5_ok {w : World} {p : Program} {loose : List Str} {mean : ExcName → Option Value} {mg mb : Str → Option Value} {news : List (Addr × Obj)}
    {dp un : Nat} {gd : Option (List Code)} {a : Addr} {cd : Value} {outer : List Env} {A₀ : Around} {base h₀ : Heap} {L : Addr} {m : Str → Option Value} {s : Shared} {E : Value → Shared → Prop} {Q : Flow → Shared → Prop}
    {oa : Obj} {va : Option Value} {lc : Addr} {cs : List Value} {cn : List Int} {kc : Nat}
    (B : Below A₀ base outer h₀) (F : Fr h₀ L s.heap m) (X : (hd.heap_39 w.params).In h₀) (N : News h₀ L s.heap ((L + 1 + 1, oa) :: news)) (T : Top p loose mean mg mb h₀)
    (hmc : m "cells" = some (.ref lc)) (hnc : (lc, listOf cs.toArray kc) ∈ news) (hcs : IntsAre cs cn) (h5 : cn.length = 5) (hc0 : 0 ≤ cn.getD 4 0) (hc1 : cn.getD 4 0 ≤ 100000000)
    (hoff : ∀ q ∈ news, q.1 ≠ L + 1 + 1) (hoa : oa.data = .cell va)
    (hdp : dp + 2 < recursionLimit) (hun : un + 100 < cLine)
    (hret : ∀ (oa' : Obj) (t : Tok) (h' : Heap) (tk : Nat), oa'.data = .cell (some (.int (Int.fmod (Int.fdiv (cn.getD 4 0) 3) 3) t)) → Fr h₀ L h' m → News h₀ L h' ((L + 1 + 1, oa') :: news) → Q .next { s with heap := h', toks := tk }) :
    wpAny (model lw.prog w) (ktrTop dp un gd "law" lawScope L a cd (cellsFrom (L + 1) lawScope.names []) outer) (exec stBehind (lawEnv L a cd)) Q E s := by
  have F2 := fr_focus F hmc
  have N2 := news_sub (b := (L + 1 + 1, oa) :: (lc, listOf cs.toArray kc) :: news) N fun q hq => by
    rcases List.mem_cons.mp hq with rfl | hq
    · exact List.mem_cons_self ..
    · rcases List.mem_cons.mp hq with rfl | hq
      · exact List.mem_cons_of_mem _ hnc
      · exact List.mem_cons_of_mem _ hq
  clear N F
  have hall : ∀ q ∈ (lc, listOf cs.toArray kc) :: news, q.1 ≠ L + 1 + 1 := List.forall_mem_cons.mpr ⟨hoff _ hnc, hoff⟩
  dsimp only [stBehind, lawEnv, lawScope, lawBody, lawDef, PySem.Challenge.pw_rs0159_01]
  k_steps
  all_goals first
    | exact hret _ _ _ _ (by assumption) (fr_unfocus (by assumption) hmc) (news_sub (by assumption) fun q hq => by
        rcases List.mem_cons.mp hq with rfl | hq
        · exact List.mem_cons_self ..
        · exact List.mem_cons_of_mem _ (List.mem_cons_of_mem _ hq))
end partP5

section partEn

section
variable {prog : Program} {w : World} {A : Around} {E : Value → Shared → Prop} {s : Shared} {h₀ : Heap} {L : Addr} {m : Str → Option Value} {news : List (Addr × Obj)}
/-- enumerate of a list that the call has made -/
theorem enum_mine {as : List Int} {D : Addr} {vs : List Value} {k : Nat} {Q : Value → Shared → Prop} (hh : A.handled = none) (hi : IntsAre vs as)
    (F : Fr h₀ L s.heap m) (N : News h₀ L s.heap ((D, listOf vs.toArray k) :: news)) (hD : ∀ q ∈ news, q.1 ≠ D)
    (h : ∀ h' e, PairSrcL prog w A E h₀ L ItemKind.int as (.ref e) { s with heap := h' } m news → Q (.ref e) { s with heap := h' }) :
    wpAny (model prog w) A (call (.type "enumerate") [.ref D]) Q E s := by
  have hls := mine_list N (List.mem_cons_self ..)
  obtain ⟨d1, d2, d3⟩ := N _ (List.mem_cons_self ..)
  have N1 : News h₀ L s.heap news := fun q hq => N q (List.mem_cons_of_mem _ hq)
  have hlt : D < s.heap.objs.size := Heap.lt_size d1
  have hLs : L < s.heap.objs.size := F.ns.lt
  have hab : h₀.objs.size ≤ L := F.above
  refine call_enumerate_list hls fun h' he hit hsz hk => ?_
  have F' : Fr h₀ L h' m := ⟨F.ns.keeps hk, fun b o e => hk b o (F.keep b o e), F.above⟩
  have N' : News h₀ L h' news := fun p hp => ⟨hk _ _ (N1 p hp).1, (N1 p hp).2⟩
  refine h h' _ fun env hL => ?_
  subst hL
  refine enumSrc (Draws.list (A := A.in1) hh s.heap.objs.size D (Nat.ne_of_lt hlt) vs.toArray) he ⟨hit, hls.at fun o e => hk D o e⟩ (Nat.succ_ne_self _) ?_ (by simp) ?_
    (Heap.get?_none_of_le (Nat.le_trans hab (Nat.le_of_lt (Nat.lt_succ_of_lt hLs)))) (Heap.get?_none_of_le (Nat.le_trans hab (Nat.le_of_lt hLs))) ?_ (by simp [hi.length]) (fun i x hx => hi.areOf.get i x (by simpa using hx)) F' N'
  · intro hm
    rcases List.mem_cons.mp hm with e | hm
    · exact Nat.succ_ne_self _ e
    · exact Nat.ne_of_gt (Nat.lt_succ_of_lt hlt) (List.mem_singleton.mp hm)
  · intro hm
    rcases List.mem_cons.mp hm with e | hm
    · exact Nat.ne_of_lt (Nat.lt_succ_of_lt hLs) e
    · rcases List.mem_cons.mp hm with e | hm
      · exact Nat.ne_of_lt hLs e
      · exact d2 (List.mem_singleton.mp hm).symm
  · intro b hb q hq e
    have hq1 : q.1 < s.heap.objs.size := Heap.lt_size (N1 q hq).1
    rcases List.mem_cons.mp hb with e1 | hb
    · exact Nat.ne_of_gt (Nat.lt_succ_of_lt hq1) (e1.symm.trans e)
    · rcases List.mem_cons.mp hb with e1 | hb
      · exact Nat.ne_of_gt hq1 (e1.symm.trans e)
      · exact hD q hq (e.symm.trans (List.mem_singleton.mp hb))
end

def stEnum : Stmt := match lawBody with
  | [_, s, _, _, _, _, _, _, _, _] => s
  | _ => .Pass default
def enumBody : List Stmt := match stEnum with
  | .For _ _ b _ _ => b
  | _ => []
theorem getD_mem {ns : List Int} {j : Nat} (h : j < ns.length) : ns.getD j 0 ∈ ns := by
  rw [List.getD_eq_getElem?_getD, List.getElem?_eq_getElem h]
  exact List.getElem_mem h
theorem set_bound {ns : List Int} {i c : Int} {j : Nat} (hb : ∀ c ∈ ns, 0 ≤ c ∧ c ≤ 10 + 1000000 * i) (hc : 0 ≤ c ∧ c ≤ 10 + 1000000 * (i + 1)) : ∀ y ∈ ns.set j c, 0 ≤ y ∧ y ≤ 10 + 1000000 * (i + 1) := fun y hy => by
  rcases List.mem_or_eq_of_mem_set hy with h | h
  · have := hb y h; omega
  · rw [h]; exact hc
theorem cells_turn {w : World} {p : Program} {loose : List Str} {mean : ExcName → Option Value} {mg mb : Str → Option Value} {news : List (Addr × Obj)}
    {dp un : Nat} {gd : Option (List Code)} {a : Addr} {cd : Value} {outer : List Env} {A₀ : Around} {base h₀ : Heap} {L : Addr} {m : Str → Option Value} {s : Shared} {E : Value → Shared → Prop} {Q : Flow → Shared → Prop}
    {lc : Addr} {cs : List Value} {ns : List Int} {kc : Nat} {i : Nat} {x : Int} {ti tx : Tok}
    (B : Below A₀ base outer h₀) (F : Fr h₀ L s.heap m) (X : (hd.heap_39 w.params).In h₀) (N : News h₀ L s.heap ((lc, listOf cs.toArray kc) :: news)) (T : Top p loose mean mg mb h₀)
    (hmc : m "cells" = some (.ref lc)) (hmi : m "i" = some (.int (i : Int) ti)) (hmx : m "x" = some (.int x tx))
    (hoff : ∀ q ∈ news, q.1 ≠ lc) (hi : IntsAre cs ns) (h5 : ns.length = 5) (hb : ∀ c ∈ ns, 0 ≤ c ∧ c ≤ 10 + 1000000 * (i : Int)) (hi6 : i < 64)
    (hdp : dp + 2 < recursionLimit) (hun : un + 100 < cLine)
    (hret : ∀ (cs' : List Value) (ns' : List Int) (h' : Heap) (tk : Nat), IntsAre cs' ns' → ns'.length = 5 → (∀ c ∈ ns', 0 ≤ c ∧ c ≤ 10 + 1000000 * ((i : Int) + 1)) → Fr h₀ L h' m → News h₀ L h' ((lc, listOf cs'.toArray kc) :: news) → Q .next { s with heap := h', toks := tk }) :
    wpAny (model lw.prog w) (ktrTop dp un gd "law" lawScope L a cd (cellsFrom (L + 1) lawScope.names []) outer) (execs enumBody (lawEnv L a cd)) Q E s := by
  have F2 := fr_fo3 F hmx hmi hmc
  clear F
  dsimp only [enumBody, stEnum, turnBody, lawEnv, lawScope, lawBody, lawDef, PySem.Challenge.pw_rs0159_01]
  k_steps
  have hm0 : 0 ≤ Int.fmod (i : Int) 5 := by rw [Int.fmod_eq_emod_of_nonneg _ (by decide)]; omega
  have hm5 : Int.fmod (i : Int) 5 < 5 := by rw [Int.fmod_eq_emod_of_nonneg _ (by decide)]; omega
  have hx0 : 0 ≤ Int.fmod x (10 ^ Int.toNat 6) ∧ Int.fmod x (10 ^ Int.toNat 6) < 1000000 := by
    show 0 ≤ Int.fmod x 1000000 ∧ Int.fmod x 1000000 < 1000000
    rw [Int.fmod_eq_emod_of_nonneg _ (by decide)]; omega
  have hg := hb _ (getD_mem (ns := ns) (j := (Int.fmod (i : Int) 5).toNat) (by omega))
  generalize hk5 : Int.fmod (i : Int) 5 = k5 at *
  generalize hv5 : Int.fmod x (10 ^ Int.toNat 6) = v5 at *
  with_unfolding_all refine' ksa_set ?k1 ?k2 (Upd.head hoff) hi hm0 ?k3 ?k4 ?_
  (case k1 => exact F2)
  (case k2 => exact N)
  (case k3 => omega)
  (case k4 => omega)
  intro h9 F9 N9 i9 l9 s9
  have hb9 := set_bound (i := (i : Int)) (j := k5.toNat) hb (c := List.getD ns k5.toNat 0 + v5) ⟨by omega, by omega⟩
  k_steps
  all_goals first
    | exact hret _ _ _ _ i9 (l9.trans h5) hb9 (fr_un3 F9 hmx hmi hmc) N9
theorem enum_ok {w : World} {p : Program} {loose : List Str} {mean : ExcName → Option Value} {mg mb : Str → Option Value} {news : List (Addr × Obj)}
    {dp un : Nat} {gd : Option (List Code)} {a : Addr} {cd : Value} {outer : List Env} {A₀ : Around} {base h₀ : Heap} {L : Addr} {m : Str → Option Value} {s : Shared} {E : Value → Shared → Prop} {Q : Flow → Shared → Prop}
    {ls lc : Addr} {vs cs : List Value} {ns cn : List Int} {kc : Nat}
    (B : Below A₀ base outer h₀) (F : Fr h₀ L s.heap m) (X : (hd.heap_39 w.params).In h₀) (N : News h₀ L s.heap ((lc, listOf cs.toArray kc) :: news)) (T : Top p loose mean mg mb h₀)
    (hms : m "script" = some (.ref ls)) (hmc : m "cells" = some (.ref lc))
    (hl : h₀.IsList ls vs.toArray) (hi : IntsAre vs ns) (h63 : ns.length ≤ 63)
    (hoff : ∀ q ∈ news, q.1 ≠ lc) (hcs : IntsAre cs cn) (h5 : cn.length = 5) (hb : ∀ c ∈ cn, 0 ≤ c ∧ c ≤ 10)
    (hdp : dp + 2 < recursionLimit) (hun : un + 100 < cLine)
    (hret : ∀ (m' : Str → Option Value) (cs' : List Value) (cn' : List Int) (h' : Heap) (tk : Nat), m' "script" = some (.ref ls) → m' "cells" = some (.ref lc) → IntsAre cs' cn' → cn'.length = 5 → (∀ c ∈ cn', 0 ≤ c ∧ c ≤ 100000000) →
      Fr h₀ L h' m' → News h₀ L h' ((lc, listOf cs'.toArray kc) :: news) → Q .next { s with heap := h', toks := tk }) :
    wpAny (model lw.prog w) (ktrTop dp un gd "law" lawScope L a cd (cellsFrom (L + 1) lawScope.names []) outer) (exec stEnum (lawEnv L a cd)) Q E s := by
  have F2 := fr_fo2 F hms hmc
  clear F
  dsimp only [enumBody, stEnum, turnBody, lawEnv, lawScope, lawBody, lawDef, PySem.Challenge.pw_rs0159_01]
  refine wpAny_noRaise ?_
  k_steps
  with_unfolding_all refine' enum_mine (m := fun z => if z = "cells" then some (Value.ref lc) else if z = "script" then some (Value.ref ls) else m z) (news := (lc, listOf cs.toArray kc) :: news) rfl (by assumption) (by assumption) (by assumption) ?k1 ?_
  case k1 =>
    rename (lc < _ ∧ AllLt _ news) => hlt
    exact List.forall_mem_cons.mpr ⟨Nat.ne_of_lt hlt.1, fun q hq => Nat.ne_of_lt (allLt_mem hlt.2 q hq)⟩
  intro h3 e3 S3
  have S4 := S3.at (lawEnv L a cd) rfl
  with_unfolding_all refine' S4 "i" "x" enumBody Q (fun i m₁ news₁ => m₁ "script" = some (.ref ls) ∧ m₁ "cells" = some (.ref lc) ∧
    ∃ (cs' : List Value) (cn' : List Int), news₁ = (lc, listOf cs'.toArray kc) :: news ∧ IntsAre cs' cn' ∧ cn'.length = 5 ∧ ∀ c ∈ cn', 0 ≤ c ∧ c ≤ 10 + 1000000 * (i : Int)) ?j0 ?step ?done
  case j0 => exact ⟨rfl, rfl, cs, cn, rfl, hcs, h5, fun c hc => by have := hb c hc; omega⟩
  case step =>
    rintro i x tx v m₁ news₁ s₁ own ⟨h₁, tk₁, rfl⟩ hget ⟨t, rfl⟩ ⟨j1, j2, cs₁, cn₁, rfl, j3, j4, j5⟩ hmap hown F₁ N₁
    have hi60 : i < 60 := by
      have := (List.getElem?_eq_some_iff.mp hget).1
      rw [List.length_take] at this; omega
    have hoff₁ : ∀ q ∈ own ++ news, q.1 ≠ lc := fun q hq => by
      rcases List.mem_append.mp hq with hq | hq
      · exact hown q hq _ (List.mem_cons_self ..)
      · exact hoff q hq
    have N₂ : News h₀ L h₁ ((lc, listOf cs₁.toArray kc) :: (own ++ news)) := news_sub N₁ fun q hq => by
      rcases List.mem_cons.mp hq with rfl | hq
      · exact List.mem_append_right _ (List.mem_cons_self ..)
      · rcases List.mem_append.mp hq with hq | hq
        · exact List.mem_append_left _ hq
        · exact List.mem_append_right _ (List.mem_cons_of_mem _ hq)
    with_unfolding_all refine' cells_turn (lc := lc) (i := i) B F₁ X N₂ T ?a1 ?a2 ?a3 hoff₁ j3 j4 j5 ?a4 hdp hun ?a5
    (case a1 => exact j2)
    (case a2 => rfl)
    (case a3 => rfl)
    (case a4 => omega)
    case a5 =>
      intro cs' ns' h' tk' i' l' b' F' N'
      refine ⟨rfl, h', tk', _, (lc, listOf cs'.toArray kc) :: news, rfl, F', news_sub N' fun q hq => ?_, rfl, j1, j2, cs', ns', rfl, i', l', fun c hc => ?_⟩
      · rcases List.mem_append.mp hq with hq | hq
        · exact List.mem_cons_of_mem _ (List.mem_append_left _ hq)
        · rcases List.mem_cons.mp hq with rfl | hq
          · exact List.mem_cons_self ..
          · exact List.mem_cons_of_mem _ (List.mem_append_right _ hq)
      · have := b' c hc; omega
  case done =>
    rintro h' tk' m' news' F' N' _ ⟨j1, j2, cs', cn', rfl, j3, j4, j5⟩
    refine hret m' cs' cn' h' tk' j1 j2 j3 j4 (fun c hc => ?_) F' N'
    have h60 : (List.take 60 ns).length ≤ 60 := by rw [List.length_take]; omega
    have := j5 c hc
    omega
end partEn

section partNc
theorem ncTurn0 (elt t0 i0 t1 i1 : Expr) (ifs : List Expr) (scope : Scope) (pos : Pos) (it acc : Value) (env : Env) :
    compTurn (.ListComp elt [⟨t0, i0, [], 0⟩, ⟨t1, i1, ifs, 0⟩] scope pos) 0 it acc env = (do
      standAt i0.pos
      match ← pyNext it with
      | none => pure (.done .next)
      | some v =>
        letOwnedTupleGo t0 it v
        assign t0 env v
        let mut ok := true
        for c in ([] : List Expr) do
          if ok then ok ← isTrue c env (eval c env)
        if ok then
          let x ← eval i1 env
          standAt i1.pos
          let x ← foldedSetIterable i1 env x
          let _ ← runOwn (.compStart (.ListComp elt [⟨t0, i0, [], 0⟩, ⟨t1, i1, ifs, 0⟩] scope pos) 1 (← holding [x] (pyIter x)) acc env) env
        again (.compLoop (.ListComp elt [⟨t0, i0, [], 0⟩, ⟨t1, i1, ifs, 0⟩] scope pos) 0 it acc env)) := by rfl
theorem ncTurn1 (elt t0 i0 t1 i1 : Expr) (ifs : List Expr) (scope : Scope) (pos : Pos) (it acc : Value) (env : Env) :
    compTurn (.ListComp elt [⟨t0, i0, [], 0⟩, ⟨t1, i1, ifs, 0⟩] scope pos) 1 it acc env = (do
      standAt i1.pos
      match ← pyNext it with
      | none => pure (.done .next)
      | some v =>
        letOwnedTupleGo t1 it v
        assign t1 env v
        let mut ok := true
        for c in ifs do
          if ok then ok ← isTrue c env (eval c env)
        if ok then
          (do let _ ← call (.builtin "list.append") [acc, ← eval elt env])
        again (.compLoop (.ListComp elt [⟨t0, i0, [], 0⟩, ⟨t1, i1, ifs, 0⟩] scope pos) 1 it acc env)) := by rfl
theorem mark_none (A : Around) : A.mark none = A := by cases A; rfl
section
variable {prog : Program} {w : World} {A : Around} {E : Value → Shared → Prop} {R : Result → Shared → Prop} {s : Shared}
theorem nc_outer {elt t0 i0 t1 i1 : Expr} {ifs : List Expr} {scope : Scope} {pos : Pos} {it acc : Value} {env : Env} (I : Nat → Shared → Prop)
    (turn : ∀ n s, I n s → wpAny (model prog w) A (pyNext it) (fun r s₁ => match r with
      | none => R (.ok .next) s₁
      | some v => wpAny (model prog w) A (assign t0 env v) (fun _ s₂ =>
          wpAny (model prog w) A (eval i1 env) (fun x s₃ => wpAny (model prog w) A (pyIter x) (fun it' s₄ =>
            codeAny (model prog w) A (.compStart (.ListComp elt [⟨t0, i0, [], 0⟩, ⟨t1, i1, ifs, 0⟩] scope pos) 1 it' acc env) (fun r s₅ => match r with | .ok _ => ∃ m, m < n ∧ I m s₅ | .error _ => False) s₄)
            (notedBy (model prog w) A env fun e s' => R (.error e) s') s₃) (notedBy (model prog w) A env fun e s' => R (.error e) s') s₂) (notedBy (model prog w) A env fun e s' => R (.error e) s') s₁) (notedBy (model prog w) A env fun e s' => R (.error e) s') s)
    (n : Nat) (h : I n s) (ht : ∀ v, letOwnedTupleGo t0 it v = pure () := by intro _; rfl) (hs : ∀ x, foldedSetIterable i1 env x = pure x := by intro _; rfl) :
    codeAny (model prog w) A (.compLoop (.ListComp elt [⟨t0, i0, [], 0⟩, ⟨t1, i1, ifs, 0⟩] scope pos) 0 it acc env) R s := by
  refine codeAny_loop rfl I (fun n s hI => ?_) n h
  show wpAny _ A ((compTurn (.ListComp elt [⟨t0, i0, [], 0⟩, ⟨t1, i1, ifs, 0⟩] scope pos) 0 it acc env).onRaise (fun x => do noteFrame x env; theTreesLotGoes x)) _ _ s
  refine wpAny_noted ?_
  rw [ncTurn0]
  refine wpAny_bind (wpAny_standAt (wpAny_bind (wpAny_mono (turn n s hI) (fun r s₁ h₁ => ?_) fun _ _ h' => h')))
  cases r with
  | none => exact wpAny_pure h₁
  | some v =>
    refine wpAny_bind (wpAny_of_eq (ht v) ?_)
    refine wpAny_bind (wpAny_mono h₁ (fun _ s₂ h₂ => wpAny_bind (wpAny_pure ?_)) fun _ _ h' => h')
    rw [if_pos rfl]
    refine wpAny_bind (wpAny_mono h₂ (fun x s₃ h₃ => wpAny_bind (wpAny_standAt (wpAny_bind (wpAny_of_eq (hs x) ?_)))) fun _ _ h' => h')
    refine wpAny_bind (wpAny_holding (wpAny_mono h₃ (fun it' s₄ h₄ => ?_) fun _ _ h' => h'))
    refine wpAny_bind (wpAny_runOwn (h := none) ?_ (by intro x; cases x))
    rw [mark_none]
    refine codeAny_mono h₄ fun r s₅ h₅ => ?_
    cases r with
    | ok f => exact wpAny_pure ⟨rfl, h₅⟩
    | error e => exact h₅.elim
theorem nc_start {elt t0 i0 t1 i1 : Expr} {ifs : List Expr} {scope : Scope} {pos : Pos} {it acc : Value} {env : Env}
    (h0 : codeAny (model prog w) A (.compLoop (.ListComp elt [⟨t0, i0, [], 0⟩, ⟨t1, i1, ifs, 0⟩] scope pos) 1 it acc env) R s)
    (h : wpAny (model prog w) A (pyIter it) (fun it' s' => codeAny (model prog w) A (.compLoop (.ListComp elt [⟨t0, i0, [], 0⟩, ⟨t1, i1, ifs, 0⟩] scope pos) 1 it' acc env) R s')
      (notedBy (model prog w) A env fun x s' => R (.error x) s') s) :
    codeAny (model prog w) A (.compStart (.ListComp elt [⟨t0, i0, [], 0⟩, ⟨t1, i1, ifs, 0⟩] scope pos) 1 it acc env) R s := by
  refine codeAny_of_tree ?_
  show wpAny _ _ ((compStart (.ListComp elt [⟨t0, i0, [], 0⟩, ⟨t1, i1, ifs, 0⟩] scope pos) 1 it acc env).onRaise (fun x => do noteFrame x env; standAt theWindowsPlace)) _ _ s
  refine wpAny_notedAt ?_
  unfold compStart
  show wpAny _ _ (ask >>= _) _ _ s
  refine wpAny_bind (wpAny_askSetting (wpAny_ite ?_))
  split
  · first
      | exact wpAny_bind (wpAny_pure (wpAny_pure (And.intro rfl h0)))
      | exact wpAny_pure (And.intro rfl h0)
  · first
      | exact wpAny_bind (wpAny_rule (wpAny_bind (wpAny_standAt (wpAny_bind (wpAny_mono h (fun it' s' h' => wpAny_pure (And.intro rfl h')) fun _ _ x => x)))))
      | (refine wpAny_bind (wpAny_rule ?_); show wpAny _ _ (standAt i1.pos >>= _) _ _ s; exact wpAny_bind (wpAny_standAt (wpAny_bind (wpAny_mono h (fun it' s' h' => wpAny_pure (And.intro rfl h')) fun _ _ x => x))))
theorem nc_inner {elt t0 i0 t1 i1 : Expr} {ifs : List Expr} {scope : Scope} {pos : Pos} {it acc : Value} {env : Env} (I : Nat → Shared → Prop)
    (turn : ∀ n s, I n s → wpAny (model prog w) A (pyNext it) (fun r s₁ => match r with
      | none => R (.ok .next) s₁
      | some v => wpAny (model prog w) A (assign t1 env v) (fun _ s₂ =>
          wpAny (model prog w) A (forIn ifs true fun c r => if r = true then do let ok ← isTrue c env (eval c env); pure (ForInStep.yield ok) else pure (ForInStep.yield r)) (fun ok s₃ =>
            if ok = true then wpAny (model prog w) A (eval elt env) (fun x s₄ =>
              wpAny (model prog w) A (call (.builtin "list.append") [acc, x]) (fun _ s₅ => ∃ m, m < n ∧ I m s₅) (notedBy (model prog w) A env fun e s' => R (.error e) s') s₄) (notedBy (model prog w) A env fun e s' => R (.error e) s') s₃
            else ∃ m, m < n ∧ I m s₃) (notedBy (model prog w) A env fun e s' => R (.error e) s') s₂) (notedBy (model prog w) A env fun e s' => R (.error e) s') s₁) (notedBy (model prog w) A env fun e s' => R (.error e) s') s)
    (n : Nat) (h : I n s) (ht : ∀ v, letOwnedTupleGo t1 it v = pure () := by intro _; rfl) :
    codeAny (model prog w) A (.compLoop (.ListComp elt [⟨t0, i0, [], 0⟩, ⟨t1, i1, ifs, 0⟩] scope pos) 1 it acc env) R s := by
  refine codeAny_loop rfl I (fun n s hI => ?_) n h
  show wpAny _ A ((compTurn (.ListComp elt [⟨t0, i0, [], 0⟩, ⟨t1, i1, ifs, 0⟩] scope pos) 1 it acc env).onRaise (fun x => do noteFrame x env; theTreesLotGoes x)) _ _ s
  refine wpAny_noted ?_
  rw [ncTurn1]
  refine wpAny_bind (wpAny_standAt (wpAny_bind (wpAny_mono (turn n s hI) (fun r s₁ h₁ => ?_) fun _ _ h' => h')))
  cases r with
  | none => exact wpAny_pure h₁
  | some v =>
    refine wpAny_bind (wpAny_of_eq (ht v) ?_)
    refine wpAny_bind (wpAny_mono h₁ (fun _ s₂ h₂ => wpAny_bind (wpAny_mono h₂ (fun ok s₃ h₃ => ?_) fun _ _ h' => h')) fun _ _ h' => h')
    cases ok with
    | false => exact wpAny_pure ⟨rfl, h₃⟩
    | true =>
      exact wpAny_bind (wpAny_bind (wpAny_mono h₃ (fun x s₄ h₄ => wpAny_bind (wpAny_mono h₄ (fun _ s₅ h₅ => wpAny_pure (wpAny_pure ⟨rfl, h₅⟩)) fun _ _ h' => h')) fun _ _ h' => h'))
end
end partNc

section partNc2
theorem ints_app : ∀ {vs us : List Value} {ns ms : List Int}, IntsAre vs ns → IntsAre us ms → IntsAre (vs ++ us) (ns ++ ms)
  | _, _, _, _, .nil, h => h
  | _, _, _, _, .cons n t k, h => .cons n t (ints_app k h)
abbrev NE (x0 x1 : Str) (pe p0 p1 : Pos) (i0 i1 c : Expr) (scope : Scope) (pos : Pos) : Expr := .ListComp (.Name x1 pe) [⟨.Name x0 p0, i0, [], 0⟩, ⟨.Name x1 p1, i1, [c], 0⟩] scope pos
abbrev pick (g : Nat → Bool) (n : Nat) : List Int := ((List.range n).filter g).map Int.ofNat
theorem pick_len (g : Nat → Bool) (n : Nat) : (pick g n).length ≤ n := by
  rw [List.length_map]
  exact Nat.le_trans (List.length_filter_le _ _) (by simp)
theorem pick_succ (g : Nat → Bool) (n : Nat) : pick g (n + 1) = pick g n ++ (if g n = true then [(n : Int)] else []) := by
  unfold pick
  rw [List.range_succ, List.filter_append, List.map_append]
  by_cases h : g n = true <;> simp [h]
section
variable {prog : Program} {w : World} {A : Around} {env : Env} {h₀ : Heap} {L : Addr} {m : Str → Option Value} {news : List (Addr × Obj)}
def NcTest (prog : Program) (w : World) (A : Around) (h₀ : Heap) (L : Addr) (m : Str → Option Value) (news : List (Addr × Obj)) (env : Env) (scope : Scope) (cl : List (Str × Addr)) (x0 x1 : Str) (c : Expr) (v : Value) (g : Nat → Bool) (s₀ : Shared) : Prop :=
  ∀ (j : Nat) (t : Tok) (C : Addr) (m₄ : Str → Option Value) (h : Heap) (tk : Nat) (E' : Value → Shared → Prop), j < 10 → Fr h₀ L h m → News h₀ L h news → h.Ns C m₄ → m₄ x0 = some v → m₄ x1 = some (.int (j : Int) t) →
    wpAny (model prog w) A (PySem.isTrue c (compEnvC scope cl C env) (eval c (compEnvC scope cl C env))) (fun b s₄ => b = g j ∧ ∃ h' tk', s₄ = { s₀ with heap := h', toks := tk' } ∧ Fr h₀ L h' m ∧ (∀ b o, b ≠ L → h.get? b = some o → h'.get? b = some o)) E' { s₀ with heap := h, toks := tk }

theorem nc_in {R : Result → Shared → Prop} {x0 x1 : Str} {pe p0 p1 : Pos} {i0 i1 c : Expr} {scope scope' : Scope} {cl : List (Str × Addr)} {pos : Pos} {I' C D : Addr} {g : Nat → Bool} {v : Value} {ys : List Value} {cc : Nat} {h₂ : Heap} {tk₂ : Nat} {s₀ : Shared} {m₃ : Str → Option Value}
    (hh : A.handled = none) (hx1 : (compEnvC scope cl C env).kindOf x1 = some .local) (hk : scope.kind = .function) (hx01 : x0 ≠ x1) (hxd : (x1 == ("__debug__" : Str)) = false)
    (hDC : D ≠ C) (hDI : D ≠ I') (hCI : C ≠ I') (hLC : L ≠ C) (hLD : L ≠ D) (hLI : L ≠ I') (hC0 : h₀.get? C = none) (hD0 : h₀.get? D = none) (hI0 : h₀.get? I' = none)
    (hwn : ∀ q ∈ news, q.1 ≠ I' ∧ q.1 ≠ D ∧ q.1 ≠ C)
    (hit : IsRangeIter h₂ I' 0 10 1) (hacc : h₂.get? D = some (listOf ys.toArray cc)) (hys : ys.length ≤ 100000)
    (hn : h₂.Ns C m₃) (hv : m₃ x0 = some v) (F : Fr h₀ L h₂ m) (N : News h₀ L h₂ news)
    (htest : NcTest prog w A h₀ L m news env scope cl x0 x1 c v g s₀)
    (hR : ∀ h' tk m' c' zs, h'.Ns C m' → Fr h₀ L h' m → News h₀ L h' news → h'.get? D = some (listOf (ys ++ zs).toArray c') → IntsAre zs (pick g 10) →
      (∀ b o, b ≠ C → b ≠ D → b ≠ I' → b ≠ L → h₂.get? b = some o → h'.get? b = some o) → R (.ok .next) { s₀ with heap := h', toks := tk }) :
    codeAny (model prog w) A (.compStart (NE x0 x1 pe p0 p1 i0 i1 c scope' pos) 1 (.ref I') (.ref D) (compEnvC scope cl C env)) R { s₀ with heap := h₂, toks := tk₂ } := by
  have W := Walks.range (prog := prog) (w := w) hh I' 0 1 10
  have fr_of : ∀ {h h' : Heap}, Fr h₀ L h m → (∀ b o, b ≠ C → b ≠ D → b ≠ I' → h.get? b = some o → h'.get? b = some o) → Fr h₀ L h' m := fun F hk =>
    ⟨F.ns.at' fun o e => hk L o hLC hLD hLI e, fun b o e => hk b o (fun h => by rw [h, hC0] at e; cases e) (fun h => by rw [h, hD0] at e; cases e) (fun h => by rw [h, hI0] at e; cases e) (F.keep b o e), F.above⟩
  have news_of : ∀ {h h' : Heap}, News h₀ L h news → (∀ b o, b ≠ C → b ≠ D → b ≠ I' → b ≠ L → h.get? b = some o → h'.get? b = some o) → News h₀ L h' news := fun N hk p hp =>
    ⟨hk p.1 p.2 (hwn p hp).2.2 (hwn p hp).2.1 (hwn p hp).1 (N p hp).2.1 (N p hp).1, (N p hp).2⟩
  have hp : ((compEnvC scope cl C env).scope.kind == .class || ((compEnvC scope cl C env).scope.kind == .module && (compEnvC scope cl C env).locals != (compEnvC scope cl C env).globals)) = false := by simp [compEnvC, relabel, hk]
  have loop : codeAny (model prog w) A (.compLoop (NE x0 x1 pe p0 p1 i0 i1 c scope' pos) 1 (.ref I') (.ref D) (compEnvC scope cl C env)) R { s₀ with heap := h₂, toks := tk₂ } := by
    refine nc_inner (fun k s' => ∃ h' tk m' c' zs, ∃ j : Nat, s' = { s₀ with heap := h', toks := tk } ∧ IsRangeIter h' I' (0 + (j : Nat) * 1) (((10 : Nat) : Int) - (j : Nat)) 1 ∧ h'.get? D = some (listOf (ys ++ zs).toArray c') ∧ IntsAre zs (pick g j) ∧ h'.Ns C m' ∧ m' x0 = some v ∧
      Fr h₀ L h' m ∧ News h₀ L h' news ∧ (∀ b o, b ≠ C → b ≠ D → b ≠ I' → b ≠ L → h₂.get? b = some o → h'.get? b = some o) ∧ j ≤ 10 ∧ k = 11 - j) ?_ 11
      ⟨h₂, tk₂, m₃, cc, [], 0, rfl, by simpa using hit, by simpa using hacc, .nil, hn, hv, F, N, fun _ _ _ _ _ _ e => e, by omega, rfl⟩
    rintro k s' ⟨H, tk, m', c', zs, j, rfl, hst, hacc', hi, hn', hv', F', N', hkeep, hj, rfl⟩
    by_cases hlt : j < 10
    · refine W.item j _ _ _ hlt hst fun u h₃ tk₃ hPu hst₃ hk₃ => ?_
      obtain ⟨t, rfl⟩ := hPu
      have hk₃' : ∀ b o, b ≠ I' → H.get? b = some o → h₃.get? b = some o := fun b o hb e => hk₃ b o (by simpa using hb) e
      refine wpAny_assign_Name (wpAny_storeName_local hx1 (hn'.at' fun o e => hk₃' _ o hCI e) (fun h₄ hn₄ hs₄ => ?_) hp)
      have hs₄' : Heap.SameBut C h₃ h₄ := hs₄
      have up : ∀ b o, b ≠ C → b ≠ D → b ≠ I' → H.get? b = some o → h₄.get? b = some o := fun b o hbC _ hbI e => hs₄'.extBut b o hbC (hk₃' b o hbI e)
      have F₄ := fr_of F' up
      have N₄ := news_of N' fun b o a1 a2 a3 _ e => up b o a1 a2 a3 e
      have acc₄ : h₄.get? D = some (listOf (ys ++ zs).toArray c') := hs₄'.extBut D _ hDC (hk₃' D _ hDI hacc')
      have st₄ : IsRangeIter h₄ I' (0 + ((j + 1 : Nat) : Nat) * 1) (((10 : Nat) : Int) - ((j + 1 : Nat) : Nat)) 1 := W.frame _ _ _ hst₃ fun b hb o e => hs₄'.extBut b o (fun h => hCI (by rw [← h]; simpa using hb)) e
      have ej : (0 : Int) + (j : Nat) * 1 = (j : Int) := by omega
      rw [ej] at hn₄
      refine wpAny_tests_one (wpAny_mono (htest j t C _ h₄ _ _ hlt F₄ N₄ hn₄ (by rw [if_neg hx01]; exact hv') (by rw [if_pos rfl])) (fun b s₅ h₅ => ?_) fun _ _ e => e)
      obtain ⟨rfl, h₅, tk₅, rfl, F₅, hk₅⟩ := h₅
      have acc₅ : h₅.get? D = some (listOf (ys ++ zs).toArray c') := hk₅ D _ (Ne.symm hLD) acc₄
      have hn₅ : h₅.Ns C _ := Heap.Ns.at' hn₄ fun o e => hk₅ C o (Ne.symm hLC) e
      have N₅ : News h₀ L h₅ news := fun p hp => ⟨hk₅ _ _ (N₄ p hp).2.1 (N₄ p hp).1, (N₄ p hp).2⟩
      have st₅ : IsRangeIter h₅ I' (0 + ((j + 1 : Nat) : Nat) * 1) (((10 : Nat) : Int) - ((j + 1 : Nat) : Nat)) 1 := W.frame _ _ _ st₄ fun b hb o e => hk₅ b o (fun h => hLI (by rw [← h]; simpa using hb)) e
      have keep₅ : ∀ b o, b ≠ C → b ≠ D → b ≠ I' → b ≠ L → h₂.get? b = some o → h₅.get? b = some o := fun b o a1 a2 a3 a4 e => hk₅ b o a4 (up b o a1 a2 a3 (hkeep b o a1 a2 a3 a4 e))
      by_cases hg : g j = true
      · rw [if_pos hg]
        refine wpAny_Name (wpAny_loadName_local (by exact hk) hx1 hn₅ (by rw [if_pos rfl]) ?_) hxd
        have hacc₆ : h₅.PlainList D (ys ++ zs).toArray := ⟨c', acc₅⟩
        have hzl : zs.length ≤ 10 := by rw [hi.length]; exact Nat.le_trans (pick_len g j) hj
        refine wpAny_list_append_plain (hsz := by rw [List.size_toArray, List.length_append, sizeLine_eq]; omega) hacc₆ fun h₆ hl₆ hs₆ => ?_
        obtain ⟨c₆, hc₆⟩ := hl₆
        have hpush : (ys ++ zs).toArray.push (Value.int (j : Int) t) = (ys ++ (zs ++ [Value.int (j : Int) t])).toArray := by simp
        rw [hpush] at hc₆
        have up₆ : ∀ b o, b ≠ D → h₅.get? b = some o → h₆.get? b = some o := fun b o hb e => hs₆.extBut b o hb e
        refine ⟨11 - (j + 1), by omega, h₆, tk₅, _, c₆, zs ++ [.int (j : Int) t], j + 1, rfl, W.frame _ _ _ st₅ fun b hb o e => up₆ b o (fun h => hDI (by rw [← h]; simpa using hb)) e, hc₆, ?_, hn₅.sameBut hs₆ (Ne.symm hDC), by rw [if_neg hx01]; exact hv', fr_of F₅ fun b o _ a2 _ e => up₆ b o a2 e, news_of N₅ fun b o _ a2 _ _ e => up₆ b o a2 e, fun b o a1 a2 a3 a4 e => up₆ b o a2 (keep₅ b o a1 a2 a3 a4 e), by omega, rfl⟩
        rw [pick_succ, if_pos hg]
        exact ints_app hi (.cons _ t .nil)
      · rw [if_neg hg]
        refine ⟨11 - (j + 1), by omega, h₅, tk₅, _, c', zs, j + 1, rfl, st₅, acc₅, ?_, hn₅, by rw [if_neg hx01]; exact hv', F₅, N₅, keep₅, by omega, rfl⟩
        rw [pick_succ, if_neg hg, List.append_nil]
        exact hi
    · have hje : j = 10 := by omega
      subst hje
      refine W.done _ _ _ hst fun h₃ tk₃ hk₃ => ?_
      have hk₃' : ∀ b o, b ≠ I' → H.get? b = some o → h₃.get? b = some o := fun b o hb e => hk₃ b o (by simpa using hb) e
      exact hR h₃ tk₃ m' c' zs (hn'.at' fun o e => hk₃' _ o hCI e) (fr_of F' fun b o _ _ a3 e => hk₃' b o a3 e) (news_of N' fun b o _ _ a3 _ e => hk₃' b o a3 e) (hk₃' D _ hDI hacc') hi fun b o a1 a2 a3 a4 e => hk₃' b o a3 (hkeep b o a1 a2 a3 a4 e)
  exact nc_start loop (W.self 0 _ _ _ (by simpa using hit) loop)
end
end partNc2

section partNc3
abbrev gath (G : Nat → Nat → Bool) (n : Nat) : List Int := (List.range n).flatMap fun i => pick (G i) 10
theorem gath_succ (G : Nat → Nat → Bool) (n : Nat) : gath G (n + 1) = gath G n ++ pick (G n) 10 := by
  unfold gath
  rw [List.range_succ, List.flatMap_append]
  simp
theorem gath_len (G : Nat → Nat → Bool) : ∀ n, (gath G n).length ≤ 10 * n
  | 0 => by simp [gath]
  | n + 1 => by
    rw [gath_succ, List.length_append]
    have := gath_len G n
    have := pick_len (G n) 10
    omega
section
variable {prog : Program} {w : World} {A : Around} {E : Value → Shared → Prop} {env : Env} {h₀ : Heap} {L : Addr} {m : Str → Option Value} {news : List (Addr × Obj)}
/-- the second source, each time: range(10) -/
def NcIter (prog : Program) (w : World) (A : Around) (h₀ : Heap) (L : Addr) (m : Str → Option Value) (news : List (Addr × Obj)) (env : Env) (scope : Scope) (cl : List (Str × Addr)) (i1 : Expr) (s₀ : Shared) : Prop :=
  ∀ (C : Addr) (h : Heap) (tk : Nat) (E' : Value → Shared → Prop), Fr h₀ L h m → News h₀ L h news →
    wpAny (model prog w) A (eval i1 (compEnvC scope cl C env)) (fun x s₄ => ∃ r t u v h' tk', x = Value.ref r ∧ s₄ = { s₀ with heap := h', toks := tk' } ∧ IsRange h' r 0 10 1 t u v ∧ Fr h₀ L h' m ∧ (∀ b o, b ≠ L → h.get? b = some o → h'.get? b = some o)) E' { s₀ with heap := h, toks := tk }

theorem nc_loop {R : Result → Shared → Prop} {x0 x1 : Str} {pe p0 p1 : Pos} {i0 i1 c : Expr} {scope scope' : Scope} {cl : List (Str × Addr)} {pos : Pos} {I C D : Addr} {G : Nat → Nat → Bool} {h₂ : Heap} {tk₂ : Nat} {s₀ : Shared} {m₃ : Str → Option Value}
    {fp wr : List Addr} {n : Nat} {P : Nat → Value → Prop} {St : Nat → Heap → Prop}
    (W : Walks prog w A I fp wr n P St) (hsz : n ≤ 1000)
    (hh : A.handled = none) (hx0 : (compEnvC scope cl C env).kindOf x0 = some .local) (hx1 : (compEnvC scope cl C env).kindOf x1 = some .local) (hk : scope.kind = .function) (hx01 : x0 ≠ x1) (hxd : (x1 == ("__debug__" : Str)) = false)
    (hDC : D ≠ C) (hDf : D ∉ fp) (hCf : C ∉ fp) (hLf : L ∉ fp) (hLC : L ≠ C) (hLD : L ≠ D) (hC0 : h₀.get? C = none) (hD0 : h₀.get? D = none) (hw0 : ∀ b ∈ wr, h₀.get? b = none) (hwn : ∀ q ∈ news, q.1 ∉ wr ∧ q.1 ≠ D ∧ q.1 ≠ C)
    (hst : St 0 h₂) (hacc : h₂.PlainList D #[]) (hn : h₂.Ns C m₃) (F : Fr h₀ L h₂ m) (N : News h₀ L h₂ news)
    (hiter : NcIter prog w A h₀ L m news env scope cl i1 s₀)
    (htest : ∀ i v, P i v → NcTest prog w A h₀ L m news env scope cl x0 x1 c v (G i) s₀)
    (hs : ∀ x, foldedSetIterable i1 (compEnvC scope cl C env) x = pure x)
    (hR : ∀ h' tk m' c' zs, h'.Ns C m' → Fr h₀ L h' m → News h₀ L h' news → h'.get? D = some (listOf zs.toArray c') → IntsAre zs (gath G n) → R (.ok .next) { s₀ with heap := h', toks := tk }) :
    codeAny (model prog w) A (.compLoop (NE x0 x1 pe p0 p1 i0 i1 c scope' pos) 0 (.ref I) (.ref D) (compEnvC scope cl C env)) R { s₀ with heap := h₂, toks := tk₂ } := by
  have hLw : L ∉ wr := fun h => hLf (W.sub _ h)
  have hCw : C ∉ wr := fun h => hCf (W.sub _ h)
  have hDw : D ∉ wr := fun h => hDf (W.sub _ h)
  have fr_of : ∀ {h h' : Heap}, Fr h₀ L h m → (∀ b o, b ≠ C → b ∉ wr → b ≠ D → h.get? b = some o → h'.get? b = some o) → Fr h₀ L h' m := fun F hk =>
    ⟨F.ns.at' fun o e => hk L o hLC hLw hLD e, fun b o e => hk b o (fun h => by rw [h, hC0] at e; cases e) (fun h => by rw [hw0 b h] at e; cases e) (fun h => by rw [h, hD0] at e; cases e) (F.keep b o e), F.above⟩
  have news_of : ∀ {h h' : Heap}, News h₀ L h news → (∀ b o, b ≠ C → b ∉ wr → b ≠ D → b ≠ L → h.get? b = some o → h'.get? b = some o) → News h₀ L h' news := fun N hk p hp =>
    ⟨hk p.1 p.2 (hwn p hp).2.2 (hwn p hp).1 (hwn p hp).2.1 (N p hp).2.1 (N p hp).1, (N p hp).2⟩
  have hp : ((compEnvC scope cl C env).scope.kind == .class || ((compEnvC scope cl C env).scope.kind == .module && (compEnvC scope cl C env).locals != (compEnvC scope cl C env).globals)) = false := by simp [compEnvC, relabel, hk]
  obtain ⟨c0, hacc0⟩ := hacc
  refine nc_outer (fun k s' => ∃ h' tk m' c' zs, ∃ i : Nat, s' = { s₀ with heap := h', toks := tk } ∧ St i h' ∧ h'.get? D = some (listOf zs.toArray c') ∧ IntsAre zs (gath G i) ∧ h'.Ns C m' ∧
      Fr h₀ L h' m ∧ News h₀ L h' news ∧ i ≤ n ∧ k = n + 1 - i) ?_ (n + 1)
      ⟨h₂, tk₂, m₃, c0, [], 0, rfl, hst, hacc0, .nil, hn, F, N, Nat.zero_le _, rfl⟩ (by intro _; rfl) hs
  rintro k s' ⟨H, tk, m', c', zs, i, rfl, hst', hacc', hi, hn', F', N', hin, rfl⟩
  by_cases hlt : i < n
  · refine W.item i _ _ _ hlt hst' fun v h₃ tk₃ hPv hst₃ hk₃ => ?_
    refine wpAny_assign_Name (wpAny_storeName_local hx0 (hn'.at' fun o e => hk₃ _ o hCw e) (fun h₄ hn₄ hs₄ => ?_) hp)
    have hs₄' : Heap.SameBut C h₃ h₄ := hs₄
    have up : ∀ b o, b ≠ C → b ∉ wr → b ≠ D → H.get? b = some o → h₄.get? b = some o := fun b o hbC hbw _ e => hs₄'.extBut b o hbC (hk₃ b o hbw e)
    have F₄ := fr_of F' up
    have N₄ := news_of N' fun b o a1 a2 a3 _ e => up b o a1 a2 a3 e
    have acc₄ : h₄.get? D = some (listOf zs.toArray c') := hs₄'.extBut D _ hDC (hk₃ D _ hDw hacc')
    have st₄ : St (i + 1) h₄ := W.frame _ _ _ hst₃ fun b hb o e => hs₄'.extBut b o (fun h => hCf (h ▸ hb)) e
    refine wpAny_mono (hiter C h₄ _ _ F₄ N₄) (fun x s₅ h₅ => ?_) fun _ _ e => e
    obtain ⟨r, t, u, v', h₅, tk₅, rfl, rfl, hr, F₅, hk₅⟩ := h₅
    have acc₅ : h₅.get? D = some (listOf zs.toArray c') := hk₅ D _ (Ne.symm hLD) acc₄
    have hn₅ : h₅.Ns C _ := Heap.Ns.at' hn₄ fun o e => hk₅ C o (Ne.symm hLC) e
    have N₅ : News h₀ L h₅ news := fun p hp => ⟨hk₅ _ _ (N₄ p hp).2.1 (N₄ p hp).1, (N₄ p hp).2⟩
    have st₅ : St (i + 1) h₅ := W.frame _ _ _ st₄ fun b hb o e => hk₅ b o (fun h => hLf (h ▸ hb)) e
    refine wpAny_pyIter_range hr (by decide +kernel) ?_
    have fresh : ∀ b o, h₅.get? b = some o → b ≠ h₅.objs.size := fun b o e => Nat.ne_of_lt (Heap.lt_size e)
    obtain ⟨oC, _, _, hoC, _⟩ := id hn₅
    have hlen : zs.length ≤ 10 * i := by rw [hi.length]; exact gath_len G i
    have hx0v : (fun y => if y = x0 then some v else m' y) x0 = some v := by simp
    have hsize : Builtin.Range.rangeSize 0 10 1 = (10 : Int) := by decide +kernel
    refine nc_in (s₀ := s₀) hh hx1 hk hx01 hxd hDC (fresh _ _ acc₅) (fresh _ _ hoC) hLC hLD (Nat.ne_of_lt F₅.ns.lt) hC0 hD0 (next_is_new F₅) (fun q hq => ⟨fresh _ _ (N₅ q hq).1, (hwn q hq).2⟩)
      ?hit (Heap.get?_push_of_some _ acc₅) (by omega) (hn₅.at' fun o e => Heap.get?_push_of_some _ e) hx0v (F₅.push _) (fun p hp => ⟨Heap.get?_push_of_some _ (N₅ p hp).1, (N₅ p hp).2⟩) (htest i v hPv) ?_
    case hit =>
      show IsRangeIter _ _ _ _ _
      rw [← hsize]
      exact Heap.get?_push_size _ rfl
    · intro h₆ tk₆ m₆ c₆ us hn₆ F₆ N₆ acc₆ hu hk₆
      refine ⟨n + 1 - (i + 1), by omega, h₆, tk₆, m₆, c₆, zs ++ us, i + 1, rfl, ?_, acc₆, ?_, hn₆, F₆, N₆, by omega, rfl⟩
      · exact W.frame _ _ _ st₅ fun b hb o e => hk₆ b o (fun h => hCf (h ▸ hb)) (fun h => hDf (h ▸ hb)) (fresh _ _ e) (fun h => hLf (h ▸ hb)) (Heap.get?_push_of_some _ e)
      · rw [gath_succ]; exact ints_app hi hu
  · have hie : i = n := by omega
    subst hie
    refine W.done _ _ _ hst' fun h₃ tk₃ hk₃ => ?_
    have up : ∀ b o, b ≠ C → b ∉ wr → b ≠ D → H.get? b = some o → h₃.get? b = some o := fun b o _ hbw _ e => hk₃ b o hbw e
    exact hR h₃ tk₃ m' c' zs (hn'.at' fun o e => hk₃ _ o hCw e) (fr_of F' up) (news_of N' fun b o a1 a2 a3 _ e => up b o a1 a2 a3 e) (hk₃ D _ hDw hacc') hi

theorem nc_assign {s : Shared} {x0 x1 y : Str} {pe p0 p1 py : Pos} {i0 i1 c : Expr} {scope : Scope} {cl : List (Str × Addr)} {pos spos : Pos} {Q : Flow → Shared → Prop} {G : Nat → Nat → Bool} {l : Addr} {items : List Value} {kk : Nat}
    (hh : A.handled = none) (F : Fr h₀ L s.heap m) (N : News h₀ L s.heap news)
    (hsw : swapsWith (NE x0 x1 pe p0 p1 i0 i1 c scope pos) (some (.Name y py)) spos.line env = pure true)
    (hL : env.locals = L) (hclos : closureFor scope env = pure cl) (hcell : ∀ z ∈ scope.names, z.2 ≠ .cell) (hkind : scope.kind = .function)
    (hnames : ∀ z ∈ scope.names, z.2 = .local → scope.names.lookup z.1 = some .local) (hx0 : scope.names.lookup x0 = some .local) (hx1 : scope.names.lookup x1 = some .local) (hx01 : x0 ≠ x1) (hxd : (x1 == ("__debug__" : Str)) = false)
    (hy : env.kindOf y = some .local) (hp : (env.scope.kind == .class || (env.scope.kind == .module && env.locals != env.globals)) = false)
    (hs : ∀ x, foldedSetIterable i0 env x = pure x) (hs1 : ∀ C x, foldedSetIterable i1 (compEnvC scope cl C env) x = pure x)
    (hl : (l, listOf items.toArray kk) ∈ news) (hlen : items.length ≤ 1000)
    (hi0 : ∀ Q' : Value → Shared → Prop, Q' (.ref l) s → wpAny (model prog w) A (eval i0 env) Q' E s)
    (hiter : NcIter prog w A h₀ L m news env scope cl i1 s)
    (htest : ∀ (i : Nat) v, items[i]? = some v → NcTest prog w A h₀ L m news env scope cl x0 x1 c v (G i) s)
    (hret : ∀ (D : Addr) (c' : Nat) (zs : List Value) (h' : Heap) (tk : Nat), IntsAre zs (gath G items.length) → (∀ q ∈ news, q.1 < D) → Fr h₀ L h' (fun z => if z = y then some (.ref D) else m z) → News h₀ L h' ((D, listOf zs.toArray c') :: news) → Q .next { s with heap := h', toks := tk }) :
    wpAny (model prog w) A (exec (.Assign [.Name y py] (NE x0 x1 pe p0 p1 i0 i1 c scope pos) spos) env) Q E s := by
  rw [exec_Assign_Name_used _ _ _ _ hsw]
  refine wpAny_bind (wpAny_standAt (wpAny_bind ?_))
  show wpAny _ A (do let _ ← comprehension (NE x0 x1 pe p0 p1 i0 i1 c scope pos) scope env _ (newList []) false (eval i0 env) (some (assign (.Name y py) env))) _ _ s
  refine wpAny_bind (wpAny_mono (wpAny_comprehension_free (use := some (assign (.Name y py) env)) (Q := fun _ s' => Q .next s') rfl hs hclos hkind hnames
    (hi0 _ ?_)) (fun _ s' hq => wpAny_pure (wpAny_pure hq)) fun _ _ e => e)
  have hls : s.heap.IsList l items.toArray := ⟨_, (N _ hl).1, rfl, kk, rfl⟩
  have hlt : l < s.heap.objs.size := Heap.lt_size (N _ hl).1
  have hLs : L < s.heap.objs.size := F.ns.lt
  refine wpAny_pyIter_list hls ?_
  have W := Walks.list (prog := prog) (w := w) hh s.heap.objs.size l (Nat.ne_of_lt hlt) items.toArray
  generalize hH1 : s.heap.push { cls := .type "list_iterator", data := .fields #[.ref l, .int 0 0] } = H1
  have st0 : H1.IsListIter s.heap.objs.size l 0 ∧ H1.IsList l items.toArray := hH1 ▸ ⟨⟨_, Heap.get?_push_size _ rfl, rfl, rfl⟩, hls.at fun o e => Heap.get?_push_of_some _ e⟩
  have hz1 : H1.objs.size = s.heap.objs.size + 1 := by rw [← hH1, Heap.size_push]
  have up1 : ∀ b o, s.heap.get? b = some o → H1.get? b = some o := fun b o e => hH1 ▸ Heap.get?_push_of_some _ e
  refine wpAny_newObj_type (wpAny_newFunctionEnv hcell (by intro y hy; simp at hy) (fun h₁ hns₁ hsb₁ => ?_) hkind)
  dsimp only at hns₁ hsb₁ ⊢
  generalize hH2 : H1.push { cls := .type "list", dict := none, data := .seq ([] : List Value).toArray } = H2 at hns₁ hsb₁ ⊢
  have hC : H2.objs.size = s.heap.objs.size + 2 := by rw [← hH2, Heap.size_push, hz1]
  have hDC : H1.objs.size ≠ H2.objs.size := by rw [hC, hz1]; exact Nat.ne_of_lt (Nat.lt_succ_self _)
  have old2 : ∀ b o, H1.get? b = some o → h₁.get? b = some o := fun b o e => hsb₁.extBut b o (by rw [hC]; have := Heap.lt_size e; rw [hz1] at this; exact Nat.ne_of_lt (Nat.lt_succ_of_lt this)) (Heap.get?_push_of_some _ (hH2 ▸ Heap.get?_push_of_some _ e))
  have old : ∀ b o, s.heap.get? b = some o → h₁.get? b = some o := fun b o e => old2 b o (up1 b o e)
  have hacc : h₁.PlainList H1.objs.size #[] := ⟨_, hsb₁.extBut _ _ hDC (Heap.get?_push_of_some _ (hH2 ▸ Heap.get?_push_size _ rfl))⟩
  have fresh0 : ∀ a, s.heap.objs.size ≤ a → h₀.get? a = none := fun a ha => by
    cases e : h₀.get? a with
    | none => rfl
    | some o' => exact absurd (Heap.lt_size (F.keep _ _ e)) (Nat.not_lt.mpr ha)
  have hnl : ∀ q ∈ news, q.1 < s.heap.objs.size := fun q hq => Heap.lt_size (N q hq).1
  have st1 := W.frame 0 H1 h₁ st0 fun b _ o e => old2 b o e
  have hLC : L ≠ H2.objs.size := by rw [hC]; exact Nat.ne_of_lt (Nat.lt_succ_of_lt (Nat.lt_succ_of_lt hLs))
  have hLD : L ≠ H1.objs.size := by rw [hz1]; exact Nat.ne_of_lt (Nat.lt_succ_of_lt hLs)
  have big : ∀ b ∈ [s.heap.objs.size, l], b < s.heap.objs.size + 1 := fun b hb => by
    rcases List.mem_cons.mp hb with rfl | hb
    · exact Nat.lt_succ_self _
    · rw [List.mem_singleton.mp hb]; exact Nat.lt_succ_of_lt hlt
  have loop : codeAny (model prog w) A (.compLoop (NE x0 x1 pe p0 p1 i0 i1 c scope pos) 0 (.ref s.heap.objs.size) (.ref H1.objs.size) (compEnvC scope cl H2.objs.size env))
        (compPost (model prog w) A E (some (assign (.Name y py) env)) (fun _ s' => Q .next s') (.ref H1.objs.size) H2.objs.size) { s with heap := h₁, toks := s.toks + ([] : List (Str × Value)).length } := by
    refine nc_loop (s₀ := s) W (by simpa using hlen) hh (lookup_relabel_local hx0) (lookup_relabel_local hx1) hkind hx01 hxd hDC (fun h => by have := big _ h; rw [hz1] at this; exact Nat.lt_irrefl _ this) (fun h => by have := big _ h; rw [hC] at this; exact Nat.lt_irrefl _ (Nat.lt_of_succ_lt this))
      (fun hb => by rcases List.mem_cons.mp hb with e | hb; exact Nat.ne_of_lt hLs e; exact (N _ hl).2.1 (List.mem_singleton.mp hb).symm) hLC hLD
      (fresh0 _ (by rw [hC]; exact Nat.le_succ_of_le (Nat.le_succ _))) (fresh0 _ (by rw [hz1]; exact Nat.le_succ _)) (fun b hb => by rw [List.mem_singleton.mp hb]; exact fresh0 _ (Nat.le_refl _))
      (fun q hq => ⟨fun h => Nat.ne_of_lt (hnl q hq) (List.mem_singleton.mp h), by rw [hz1]; exact Nat.ne_of_lt (Nat.lt_succ_of_lt (hnl q hq)), by rw [hC]; exact Nat.ne_of_lt (Nat.lt_succ_of_lt (Nat.lt_succ_of_lt (hnl q hq)))⟩)
      st1 hacc hns₁ (F.keeps old) (N.grown old) hiter (fun i v hv => htest i v (by simpa using hv)) (hs1 _) fun h' tk m' c' zs hn F' N' hD hz => ?_
    rw [List.size_toArray] at hz
    show wpAny _ A (assign (.Name y py) env (.ref H1.objs.size)) _ _ _
    refine wpAny_assign_Name (wpAny_storeName_local hy (hL ▸ F'.ns) (fun h₂ hn₂ hs₂ => ?_) hp)
    rw [hL] at hn₂ hs₂
    have F₂ : Fr h₀ L h₂ (fun z => if z = y then some (.ref H1.objs.size) else m z) := F'.set hn₂ hs₂
    have ND : News h₀ L h' ((H1.objs.size, listOf zs.toArray c') :: news) := fun p hp => by
      rcases List.mem_cons.mp hp with rfl | hp
      · exact ⟨hD, Ne.symm hLD, fresh0 _ (by rw [hz1]; exact Nat.le_succ _)⟩
      · exact N' p hp
    have N₂ : News h₀ L h₂ ((H1.objs.size, listOf zs.toArray c') :: news) := ND.set hs₂
    refine ⟨m', hn.sameBut hs₂ (Ne.symm hLC), fun h₃ hs₃ => hret H1.objs.size c' zs h₃ _ hz (fun q hq => by rw [hz1]; exact Nat.lt_succ_of_lt (hnl q hq)) ?_ ?_⟩
    · exact ⟨F₂.ns.sameBut hs₃ hLC, fun b o e => (hs₃.2 b (fun h => by rw [h, fresh0 _ (by rw [hC]; exact Nat.le_succ_of_le (Nat.le_succ _))] at e; cases e)).trans (F₂.keep b o e), F₂.above⟩
    · intro p hp
      refine ⟨(hs₃.2 p.1 ?_).trans (N₂ p hp).1, (N₂ p hp).2⟩
      rcases List.mem_cons.mp hp with rfl | hp
      · exact hDC
      · rw [hC]; exact Nat.ne_of_lt (Nat.lt_succ_of_lt (Nat.lt_succ_of_lt (hnl p hp)))
  exact codeAny_compStart_list loop (W.self 0 _ _ _ st1 loop)
end
end partNc3

section partS4
def stAlike : Stmt := match turnBody with
  | _ :: _ :: _ :: _ :: st :: _ => st
  | _ => .Pass default
local macro_rules | `(tactic| walk_at "eval Name") => `(tactic| (k_here; (with_reducible show wpAny _ _ (eval (Expr.Name _ _) (compEnvC _ _ _ _)) _ _ _); (with_unfolding_all refine' lcn_local2 ?hn ?hm ?_ ?a ?b; (case hn => assumption); (case hm => assumption); (case a => rfl); (case b => rfl))))
local macro_rules | `(tactic| walk_at "eval ListComp") => `(tactic| (k_here; (with_reducible rename LcF _ => sp'); (rename Fr _ _ _ _ => lF'); (rename News _ _ _ _ => lN'); (with_unfolding_all refine' lc_evalF sp' lF' lN' ?hL ?hclos ?hcell ?hkind ?hnames ?hx ?h ?hs; (case hL => rfl); (case hclos => with_unfolding_all rfl); (case hcell => decide); (case hkind => rfl); (case hnames => decide); (case hx => rfl); (case hs => intro _; with_unfolding_all rfl)); clear sp'; (try k_fold)))
local macro_rules | `(tactic| walk_at "exec Assign cons ListComp") => `(tactic| (k_here; (with_reducible rename LcF _ => sp'); (rename Fr _ _ _ _ => lF'); (rename News _ _ _ _ => lN'); (with_unfolding_all refine' lc_assignF sp' lF' lN' ?hsw ?hL ?hclos ?hcell ?hkind ?hnames ?hx ?hy ?hp ?h ?hs; (case hsw => with_unfolding_all rfl); (case hL => rfl); (case hclos => with_unfolding_all rfl); (case hcell => decide); (case hkind => rfl); (case hnames => decide); (case hx => rfl); (case hy => rfl); (case hp => rfl); (case hs => intro _; with_unfolding_all rfl)); clear sp'; (try k_fold)))
local macro_rules | `(tactic| walk_at "pyIter ref") => `(tactic| (k_here; (with_reducible show wpAny _ _ (pyIter (Value.ref _)) (fun it s₂ => LcAt _ _ _ _ _ _ _ _ _ _ _ _ _ _ it s₂) _ _); first
  | ((with_unfolding_all refine' lc_rangeF (n := 10) ?hh ?hF ?hN ?hr ?hs ?hn ?hz ?helt ?hK; (case hr => assumption); (case hh => rfl); (case hF => k_asm); (case hN => k_asm); (case hs => decide +kernel); (case hn => decide +kernel); (case hz => decide); (case' helt => ((intro i' k' t' C' m' h' tk' E' hr' F' N' hn' hm'); (obtain ⟨hr1', hr2'⟩ := hr'); (show wpAny _ _ _ _ _ _); (try k_fold))); (case' hK => (intro v' D' c' z' h' tk' zi' F' N' l1'; (try dsimp only)))))
  | ((with_unfolding_all refine' lc_intsF ?hh ?hF ?hN ?hl ?hi ?hz ?helt ?hK; (case hh => rfl); (case hF => k_asm); (case hN => k_asm); (case hl => k_mem); (case hi => assumption); (case hz => omega); (case' helt => ((intro i' k' t' C' m' h' tk' E' hr' F' N' hn' hm'); (show wpAny _ _ _ _ _ _); (try k_fold))); (case' hK => (intro D' c' z' h' tk' zi' F' N' l1'; (try dsimp only)))))))
local macro_rules | `(tactic| walk_at "EltEnd") => `(tactic| (with_unfolding_all exact EltEnd.here (by assumption)))

local macro_rules | `(tactic| walk_at "compareOp NotEq ref ref") => `(tactic| (k_here; (with_reducible show wpAny _ _ (compareOp CmpOp.NotEq (Value.ref _) (Value.ref _)) _ _ _); (with_unfolding_all refine' ne_sameK (mine_list ?k1 ?k1m) ?k2 (mine_list ?k3 ?k3m) ?k4 ?k5 ?k6 ?_; (case k1 => k_asm); (case k1m => k_mem); (case k2 => assumption); (case k3 => k_asm); (case k3m => k_mem); (case k4 => assumption); (case k5 => first | assumption | rfl); (case k6 => (show _ + 64 < cLine; dsimp only; omega)))))

local macro_rules | `(tactic| walk_at "subscriptTail") => `(tactic| (k_here; (with_reducible show wpAny _ _ (subscriptTail _ _ (Value.ref _) (Value.int _ _)) _ _ _); (with_unfolding_all refine' item_M (mine_list ?k1 ?k1m) ?k2 ?k3 ?k4 ?_ ?k5; (case k1 => k_asm); (case k1m => k_mem); (case k2 => assumption); (case k3 => assumption); (case k4 => first | exact ⟨by assumption, by assumption⟩ | (with_reducible rename (∀ r ∈ _, 0 ≤ r ∧ r < (10 : Int)) => hq'; exact hq' _ (List.mem_of_getElem? (by assumption)))); (case k5 => with_unfolding_all rfl)); intro t'))


def eqAt (cols : List Int) (k : Int) (j : Nat) : Bool := decide (cols.getD j 0 = k)
theorem s4_ok {w : World} {p : Program} {loose : List Str} {mean : ExcName → Option Value} {mg mb : Str → Option Value} {news : List (Addr × Obj)}
    {dp un : Nat} {gd : Option (List Code)} {a : Addr} {cd : Value} {outer : List Env} {A₀ : Around} {base h₀ : Heap} {L : Addr} {m : Str → Option Value} {s : Shared} {E : Value → Shared → Prop} {Q : Flow → Shared → Prop}
    {oc : Obj} {lc lk : Addr} {kc kk : Nat} {zs ms : List Value} {cols M : List Int}
    (B : Below A₀ base outer h₀) (F : Fr h₀ L s.heap m) (X : (hd.heap_39 w.params).In h₀) (N : News h₀ L s.heap news) (T : Top p loose mean mg mb h₀)
    (hnc : (L + 1 + 1 + 1 + 1, oc) ∈ news) (hc : oc.data = .cell (some (.ref lc))) (hnl : (lc, listOf zs.toArray kc) ∈ news) (hz : IntsAre zs cols) (hcl : cols.length = 10)
    (hmk : m "marks" = some (.ref lk)) (hnk : (lk, listOf ms.toArray kk) ∈ news) (hk : IntsAre ms M) (hMl : M.length ≤ 4)
    (hdp : dp + 2 < recursionLimit) (hun : un + 100 < cLine)
    (hret : ∀ (D : Addr) (c' : Nat) (us : List Value) (h' : Heap) (tk : Nat), IntsAre us (gath (fun i => eqAt cols (M.getD i 0)) M.length) → (∀ q ∈ news, q.1 < D) → Fr h₀ L h' (fun z => if z = "alike" then some (.ref D) else m z) → News h₀ L h' ((D, listOf us.toArray c') :: news) → Q .next { s with heap := h', toks := tk }) :
    wpAny (model lw.prog w) (ktrTop dp un gd "law" lawScope L a cd (cellsFrom (L + 1) lawScope.names []) outer) (exec stAlike (lawEnv L a cd)) Q E s := by
  have F2 := fr_focus F hmk
  have N2 := news_add (news_add (news_add N hnc) (List.mem_cons_of_mem _ hnl)) (List.mem_cons_of_mem _ (List.mem_cons_of_mem _ hnk))
  clear N F
  have hzl := IntsAre.length hz
  have hkl := IntsAre.length hk
  dsimp only [stAlike, turnBody, lawEnv, lawScope, lawBody, lawDef, PySem.Challenge.pw_rs0159_01]
  with_unfolding_all refine' nc_assign (G := fun i => eqAt cols (M.getD i 0)) ?hh F2 N2 ?hsw ?hL ?hclos ?hcell ?hkind ?hnames ?hx0 ?hx1 ?hx01 ?hxd ?hy ?hp ?hs ?hs1 ?hl ?hlen ?hi0 ?hiter ?htest ?hret
  (case hh => rfl)
  (case hsw => with_unfolding_all rfl)
  (case hL => rfl)
  (case hclos => with_unfolding_all rfl)
  (case hcell => decide)
  (case hkind => rfl)
  (case hnames => decide)
  (case hx0 => rfl)
  (case hx1 => rfl)
  (case hx01 => decide)
  (case hxd => decide)
  (case hy => rfl)
  (case hp => rfl)
  (case hs => intro _; with_unfolding_all rfl)
  (case hs1 => intro _ _; with_unfolding_all rfl)
  (case hl => exact List.mem_cons_self ..)
  (case hlen => omega)
  case hi0 =>
    intro Q' hq
    k_steps
    exact hq
  case hiter =>
    intro C h tk E' F₁ N₁
    have kp := fun h' (F' : Fr h₀ L h' (fun y => if y = "marks" then some (Value.ref lk) else m y)) (N' : News h₀ L h' (newsAll h₀ L h)) => keep_all (own := []) F₁ F' N'
    have N₃ := News.append N₁ (news_all (h₀ := h₀) (L := L) (h := h))
    simp only [List.cons_append] at N₃
    show wpAny _ _ _ _ _ _
    k_fold
    k_steps
    · assumption
    · rename (_ ≠ L) => hb9
      rename (Heap.get? h _ = some _) => he9
      exact kp _ (by assumption) (news_sub (by assumption) fun q hq => by simp [hq]) _ _ hb9 he9
  case htest =>
    intro i v hv j t C m₄ h tk E' hj F₁ N₁ hn h0 h1
    obtain ⟨n, t0, rfl, hMi⟩ := hk.at i v hv
    have N₃ := News.append N₁ (news_all (h₀ := h₀) (L := L) (h := h))
    simp only [List.cons_append] at N₃
    show wpAny _ _ _ _ _ _
    k_fold
    k_steps
    · have hM : M.getD i 0 = n := by simp [List.getD, hMi]
      rw [hM, Int.toNat_natCast]
      unfold eqAt
      by_cases g : cols.getD j 0 = n
      · rw [decide_eq_true g]; exact beq_iff_eq.mpr g
      · rw [decide_eq_false g]; exact beq_eq_false_iff_ne.mpr g
    · exact F₁
  case hret =>
    intro D c' us h' tk hi hlt F' N'
    rw [hkl] at hi
    exact hret D c' us h' tk hi (fun q hq => hlt q (List.mem_cons_of_mem _ (List.mem_cons_of_mem _ (List.mem_cons_of_mem _ hq)))) (fr_refocus F' hmk (by decide)) (news_sub N' fun q hq => by
      rcases List.mem_cons.mp hq with rfl | hq
      · exact List.mem_cons_self ..
      · exact List.mem_cons_of_mem _ (List.mem_cons_of_mem _ (List.mem_cons_of_mem _ (List.mem_cons_of_mem _ hq))))
end partS4

section partMgW

section
local macro_rules | `(tactic| cell_enter) => `(tactic| (refine' code_def ?k1 ?k2 ?k3 ?k4 ?k5 ?kA ?kF ?kK ?k6 ?k7 ?k8 ?k9 ?kB ?_ ?c2 ?c3 ?c4 ?c5; (case kA => exact rfl); (case kF => exact rfl); (case kK => assumption); (case k1 => k_asm); (case k2 => k_asm); (case k3 => k_asm); (case k4 => k_asm); (case k5 => k_asm); (case k6 => k_is); (case k7 => k_is); (case k8 => ktr_room); (case k9 => first | exact BindsTo.of_eq rfl | exact binds_K (by k_in) rfl (by k_is) rfl rfl rfl); (case c5 => decide); (case kB => exact locs rfl); (case c2 => exact rfl); (case c3 => exact rfl); (case c4 => exact rfl); k_whole; intro g' L' h' FG' F' N' B' X' T'; (try dsimp only); (try k_lift B'); (try k_fold)))
local macro_rules | `(tactic| walk_at "call builtin:sorted") => `(tactic| (k_here; (with_unfolding_all refine' kso_sorted ?k1 ?k2 ?k3 ?k4 ?k5 ?_; (case k1 => k_asm); (case k2 => k_asm); (case k3 => exact mine_list (by k_asm) (by k_mem)); (case k4 => assumption); (case k5 => assumption)); intro D' v' n' c' h' F' N' l1 i' e' p' o' b'; clear b'; (try k_lt l1); (try k_sweep)))
local macro_rules | `(tactic| walk_at "call builtin:_bisect.bisect_left") => `(tactic| (k_here; (with_unfolding_all refine' bisL_BL ?k1 ?k2 ?k3 ?k4 ?_; (case k1 => exact mine_list (by k_asm) (by k_mem)); (case k2 => assumption); (case k3 => omega); (case k4 => assumption)); intro r1' t' tk' a1'))
local macro_rules | `(tactic| walk_at "call builtin:_bisect.bisect_right") => `(tactic| (k_here; (show wpAny _ _ (call (Value.builtin _) [Value.ref _, Value.int _ _] [(PySem.Str.ofString "lo", Value.int _ _)]) _ _ _); (with_unfolding_all refine' bisR_BL ?k1 ?k2 ?k3 ?k4 ?k5 ?_; (case k1 => exact mine_list (by k_asm) (by k_mem)); (case k2 => assumption); (case k3 => omega); (case k4 => assumption); (case k5 => assumption)); intro r2' t' tk' a4'))

theorem big_not {k : Nat} (h : k ≤ 100000) (h2 : 2 ^ 1024 - 2 ^ 970 ≤ k) : False := by
  have h3 : (100000 : Nat) < 2 ^ 1024 - 2 ^ 970 := by decide +kernel
  exact Nat.lt_irrefl _ (Nat.lt_of_lt_of_le h3 (Nat.le_trans h2 h))
theorem not_over {i : Int} (h : i.natAbs ≤ 100000) : ¬ Flt.Over i := by
  unfold Flt.Over
  exact fun h2 => big_not h h2

theorem mg_pos {w : World} {p : Program} {loose : List Str} {mean : ExcName → Option Value} {mg mb : Str → Option Value} {news : List (Addr × Obj)}
    {dp un : Nat} {gd : Option (List Code)} {cn : Str} {cs : Scope} {a : Addr} {ccd : Value} {cl : List (Str × Addr)} {outer : List Env} {A₀ : Around} {base h₀ : Heap} {L : Addr} {m : Str → Option Value} {s : Shared} {Q E : Value → Shared → Prop}
    {D : Addr} {vs : List Value} {ns : List Int} {k : Nat} {iv : Int} {tk : Tok}
    (B : Below A₀ base outer h₀) (F : Fr h₀ L s.heap m) (X : (hd.heap_39 w.params).In h₀) (N : News h₀ L s.heap ((D, listOf vs.toArray k) :: news)) (T : Top p loose mean mg mb h₀) (hk : cs.kind = .function)
    (hi : IntsAre vs ns) (h0 : 0 < ns.length) (hl : ns.length < 64) (hb : ∀ x ∈ ns, -100000 ≤ x ∧ x ≤ 100000) (hi0 : 0 < iv) (hi1 : iv ≤ 1000)
    (hdp : dp + 1 < recursionLimit) (hun : un + 8 < cLine)
    (hdiv : ∀ x r1 r2, MG ns x r1 r2 → ∃ c : Int, c * ((r2 : Int) - r1) = iv * (2 * (ns.length : Int) - 4 * r1) ∧ c.natAbs < 2 ^ 40)
    (hret : ∀ (x c : Int) (r1 r2 : Nat) (Z : UInt64) (t : Tok) (h' : Heap) (tk' : Nat), MG ns x r1 r2 → c * ((r2 : Int) - r1) = iv * (2 * (ns.length : Int) - 4 * r1) → IsQ Z (4 * x - 2 * iv + c) →
      Fr h₀ L h' m → News h₀ L h' ((D, listOf vs.toArray k) :: news) → Q (.float Z t) { s with heap := h', toks := tk' }) :
    wpAny (model lw.prog w) (ktrTop dp un gd cn cs L a ccd cl outer) (call (.ref 77) [.ref D, .int iv tk]) Q E s := by
  refine wpAny_call ?_
  k_dflt cell_enter
  k_steps
  all_goals ((rename List.Perm _ _ => p9); (have hl9 := p9.length_eq))
  skip
  all_goals first
    | (exfalso
       rename (2 ^ 1024 - 2 ^ 970 ≤ _) => hbig
       refine big_not ?_ hbig
       have hg9 := mid_get (by rw [hl9]; exact h0)
       have hm9 := hb _ (p9.mem_iff.mp (List.mem_of_getElem? hg9))
       dsimp only [mid] at hm9
       omega)
    | (exfalso
       rename (_ = (0 : Int)) => hz9
       omega)
    | (exfalso
       rename (_ = (0 : Int)) => hz9
       rename BL false _ _ _ => b1; rename BL true _ _ _ => b2
       obtain ⟨z1, z2, z3, z4, z5⟩ := mg_of p9 h0 b1 b2
       omega)
    | (exfalso
       rename Flt.Over _ => ho9
       rename BL false _ _ _ => b1; rename BL true _ _ _ => b2
       have b3 := b1.1; have b4 := b2.1
       exact not_over (by omega) ho9)
    | (rename BL false _ _ _ => b1; rename BL true _ _ _ => b2
       have hMG := mg_of p9 h0 b1 b2
       obtain ⟨c9, hc9, hcb9⟩ := hdiv _ _ _ hMG
       refine' hret _ c9 _ _ _ _ _ _ hMG hc9 ?hq ?hF ?hN
       case hF => assumption
       case hN => (rename News h₀ L _ _ => nn9; exact fun q hq => nn9 q (List.mem_cons_of_mem _ hq))
       case hq => exact mg_isq (n := ns.length) (isq_ofInt (by omega)) (hb _ hMG.1) hi0 hi1 hl (Nat.le_trans hMG.2.2.2.1 (Nat.div_le_self _ _)) (Nat.lt_of_le_of_lt hMG.2.2.2.1 hMG.2.2.2.2) (by rw [← hl9]; exact b2.1) hc9 hcb9 (by simp) (by simp [hl9]) (by simp))


theorem mg_kw {w : World} {p : Program} {loose : List Str} {mean : ExcName → Option Value} {mg mb : Str → Option Value} {news : List (Addr × Obj)}
    {dp un : Nat} {gd : Option (List Code)} {cn : Str} {cs : Scope} {a : Addr} {ccd : Value} {cl : List (Str × Addr)} {outer : List Env} {A₀ : Around} {base h₀ : Heap} {L : Addr} {m : Str → Option Value} {s : Shared} {Q E : Value → Shared → Prop}
    {D : Addr} {vs : List Value} {ns : List Int} {k : Nat} {tk : Tok}
    (B : Below A₀ base outer h₀) (F : Fr h₀ L s.heap m) (X : (hd.heap_39 w.params).In h₀) (N : News h₀ L s.heap ((D, listOf vs.toArray k) :: news)) (T : Top p loose mean mg mb h₀) (hk : cs.kind = .function)
    (hi : IntsAre vs ns) (h0 : 0 < ns.length) (hl : ns.length < 64) (hb : ∀ x ∈ ns, -100000 ≤ x ∧ x ≤ 100000) 
    (hdp : dp + 1 < recursionLimit) (hun : un + 8 < cLine)
    (hdiv : ∀ x r1 r2, MG ns x r1 r2 → ∃ c : Int, c * ((r2 : Int) - r1) = (12 : Int) * (2 * (ns.length : Int) - 4 * r1) ∧ c.natAbs < 2 ^ 40)
    (hret : ∀ (x c : Int) (r1 r2 : Nat) (Z : UInt64) (t : Tok) (h' : Heap) (tk' : Nat), MG ns x r1 r2 → c * ((r2 : Int) - r1) = (12 : Int) * (2 * (ns.length : Int) - 4 * r1) → IsQ Z (4 * x - 2 * (12 : Int) + c) →
      Fr h₀ L h' m → News h₀ L h' ((D, listOf vs.toArray k) :: news) → Q (.float Z t) { s with heap := h', toks := tk' }) :
    wpAny (model lw.prog w) (ktrTop dp un gd cn cs L a ccd cl outer) (call (.ref 77) [.ref D] [("interval", .int 12 tk)]) Q E s := by
  refine wpAny_call ?_
  k_dflt cell_enter
  k_steps
  all_goals ((rename List.Perm _ _ => p9); (have hl9 := p9.length_eq))
  skip
  all_goals first
    | (exfalso
       rename (2 ^ 1024 - 2 ^ 970 ≤ _) => hbig
       refine big_not ?_ hbig
       have hg9 := mid_get (by rw [hl9]; exact h0)
       have hm9 := hb _ (p9.mem_iff.mp (List.mem_of_getElem? hg9))
       dsimp only [mid] at hm9
       omega)
    | (exfalso
       rename (_ = (0 : Int)) => hz9
       omega)
    | (exfalso
       rename (_ = (0 : Int)) => hz9
       rename BL false _ _ _ => b1; rename BL true _ _ _ => b2
       obtain ⟨z1, z2, z3, z4, z5⟩ := mg_of p9 h0 b1 b2
       omega)
    | (exfalso
       rename Flt.Over _ => ho9
       rename BL false _ _ _ => b1; rename BL true _ _ _ => b2
       have b3 := b1.1; have b4 := b2.1
       exact not_over (by omega) ho9)
    | (rename BL false _ _ _ => b1; rename BL true _ _ _ => b2
       have hMG := mg_of p9 h0 b1 b2
       obtain ⟨c9, hc9, hcb9⟩ := hdiv _ _ _ hMG
       refine' hret _ c9 _ _ _ _ _ _ hMG hc9 ?hq ?hF ?hN
       case hF => assumption
       case hN => (rename News h₀ L _ _ => nn9; exact fun q hq => nn9 q (List.mem_cons_of_mem _ hq))
       case hq => exact mg_isq (n := ns.length) (isq_ofInt (i := 12) (by decide)) (hb _ hMG.1) (by decide) (by decide) hl (Nat.le_trans hMG.2.2.2.1 (Nat.div_le_self _ _)) (Nat.lt_of_le_of_lt hMG.2.2.2.1 hMG.2.2.2.2) (by rw [← hl9]; exact b2.1) hc9 hcb9 (by simp) (by simp [hl9]) (by simp))


theorem mg_def {w : World} {p : Program} {loose : List Str} {mean : ExcName → Option Value} {mg mb : Str → Option Value} {news : List (Addr × Obj)}
    {dp un : Nat} {gd : Option (List Code)} {cn : Str} {cs : Scope} {a : Addr} {ccd : Value} {cl : List (Str × Addr)} {outer : List Env} {A₀ : Around} {base h₀ : Heap} {L : Addr} {m : Str → Option Value} {s : Shared} {Q E : Value → Shared → Prop}
    {D : Addr} {vs : List Value} {ns : List Int} {k : Nat} 
    (B : Below A₀ base outer h₀) (F : Fr h₀ L s.heap m) (X : (hd.heap_39 w.params).In h₀) (N : News h₀ L s.heap ((D, listOf vs.toArray k) :: news)) (T : Top p loose mean mg mb h₀) (hk : cs.kind = .function)
    (hi : IntsAre vs ns) (h0 : 0 < ns.length) (hl : ns.length < 64) (hb : ∀ x ∈ ns, -100000 ≤ x ∧ x ≤ 100000) 
    (hdp : dp + 1 < recursionLimit) (hun : un + 8 < cLine)
    (hdiv : ∀ x r1 r2, MG ns x r1 r2 → ∃ c : Int, c * ((r2 : Int) - r1) = (1 : Int) * (2 * (ns.length : Int) - 4 * r1) ∧ c.natAbs < 2 ^ 40)
    (hret : ∀ (x c : Int) (r1 r2 : Nat) (Z : UInt64) (t : Tok) (h' : Heap) (tk' : Nat), MG ns x r1 r2 → c * ((r2 : Int) - r1) = (1 : Int) * (2 * (ns.length : Int) - 4 * r1) → IsQ Z (4 * x - 2 * (1 : Int) + c) →
      Fr h₀ L h' m → News h₀ L h' ((D, listOf vs.toArray k) :: news) → Q (.float Z t) { s with heap := h', toks := tk' }) :
    wpAny (model lw.prog w) (ktrTop dp un gd cn cs L a ccd cl outer) (call (.ref 77) [.ref D]) Q E s := by
  refine wpAny_call ?_
  k_dflt cell_enter
  k_steps
  all_goals ((rename List.Perm _ _ => p9); (have hl9 := p9.length_eq))
  skip
  all_goals first
    | (exfalso
       rename (2 ^ 1024 - 2 ^ 970 ≤ _) => hbig
       refine big_not ?_ hbig
       have hg9 := mid_get (by rw [hl9]; exact h0)
       have hm9 := hb _ (p9.mem_iff.mp (List.mem_of_getElem? hg9))
       dsimp only [mid] at hm9
       omega)
    | (exfalso
       rename (_ = (0 : Int)) => hz9
       omega)
    | (exfalso
       rename (_ = (0 : Int)) => hz9
       rename BL false _ _ _ => b1; rename BL true _ _ _ => b2
       obtain ⟨z1, z2, z3, z4, z5⟩ := mg_of p9 h0 b1 b2
       omega)
    | (exfalso
       rename Flt.Over _ => ho9
       rename BL false _ _ _ => b1; rename BL true _ _ _ => b2
       have b3 := b1.1; have b4 := b2.1
       exact not_over (by omega) ho9)
    | (rename BL false _ _ _ => b1; rename BL true _ _ _ => b2
       have hMG := mg_of p9 h0 b1 b2
       obtain ⟨c9, hc9, hcb9⟩ := hdiv _ _ _ hMG
       refine' hret _ c9 _ _ _ _ _ _ hMG hc9 ?hq ?hF ?hN
       case hF => assumption
       case hN => (rename News h₀ L _ _ => nn9; exact fun q hq => nn9 q (List.mem_cons_of_mem _ hq))
       case hq => exact mg_isq (n := ns.length) isq_one (hb _ hMG.1) (by decide) (by decide) hl (Nat.le_trans hMG.2.2.2.1 (Nat.div_le_self _ _)) (Nat.lt_of_le_of_lt hMG.2.2.2.1 hMG.2.2.2.2) (by rw [← hl9]; exact b2.1) hc9 hcb9 (by simp) (by simp [hl9]) (by simp))

end
end partMgW

section partLc3
/-- an int or a float that is exactly q quarters -/
def NQ (y : Value) (q : Int) : Prop := (∃ k t, y = Value.int k t ∧ q = 4 * k) ∨ (∃ Z t, y = Value.float Z t ∧ IsQ Z q)
def QG (f : Int → Int) : Nat → Value → Value → List (Addr × Obj) → Prop := fun _ v y own => own = [] ∧ ∃ k t, v = Value.int k t ∧ NQ y (f k)
def NQs : List Value → List Int → Prop
  | [], [] => True
  | y :: ys, q :: qs => NQ y q ∧ NQs ys qs
  | _, _ => False
theorem nqs_of : ∀ {ys : List Value} {qs : List Int}, ys.length = qs.length → (∀ (i : Nat) (y : Value) (q : Int), ys[i]? = some y → qs[i]? = some q → NQ y q) → NQs ys qs
  | [], [], _, _ => trivial
  | y :: ys, q :: qs, hl, h => ⟨h 0 y q rfl rfl, nqs_of (by simpa using hl) fun i y' q' h1 h2 => h (i + 1) y' q' (by simpa using h1) (by simpa using h2)⟩
  | [], _ :: _, hl, _ => by simp at hl
  | _ :: _, [], hl, _ => by simp at hl
theorem q_nqs {f : Int → Int} {vs ys : List Value} {made : List (Addr × Obj)} {ns : List Int} (h : Tri (QG f) vs ys made) (hi : IntsAre vs ns) : made = [] ∧ NQs ys (ns.map f) := by
  refine ⟨h.pure fun i v y own g => g.1, nqs_of (by rw [List.length_map, h.len, hi.length]) fun i y q hy hq => ?_⟩
  have hil : i < vs.length := by rw [← h.len]; exact (List.getElem?_eq_some_iff.mp hy).1
  obtain ⟨own, ⟨_, k, t, e1, e2⟩, _⟩ := h.get i (vs[i]'hil) y (by simp [hil]) hy
  obtain ⟨n, t2, e3, e4⟩ := hi.at i (vs[i]'hil) (by simp [hil])
  rw [e1] at e3
  have : k = n := by injection e3
  subst this
  rw [List.getElem?_map, e4] at hq
  have : f k = q := by simpa using hq
  rw [← this]; exact e2
def LcQ (_ : Int → Int) : Prop := True
theorem lcQ (f : Int → Int) : LcQ f := trivial
section
variable {prog : Program} {w : World} {A : Around} {E : Value → Shared → Prop} {env : Env} {h₀ : Heap} {L : Addr} {m : Str → Option Value} {news : List (Addr × Obj)}
theorem lc_assignQ {s : Shared} {f : Int → Int} {elt iter : Expr} {x y : Str} {px py : Pos} {scope : Scope} {cl : List (Str × Addr)} {pos spos : Pos} {Q : Flow → Shared → Prop} (_sp : LcQ f) (_F : Fr h₀ L s.heap m) (_N : News h₀ L s.heap news)
    (hsw : swapsWith (.ListComp elt [⟨.Name x px, iter, [], 0⟩] scope pos) (some (.Name y py)) spos.line env = pure true)
    (hL : env.locals = L) (hclos : closureFor scope env = pure cl) (hcell : ∀ z ∈ scope.names, z.2 ≠ .cell) (hkind : scope.kind = .function)
    (hnames : ∀ z ∈ scope.names, z.2 = .local → scope.names.lookup z.1 = some .local) (hx : scope.names.lookup x = some .local)
    (hy : env.kindOf y = some .local) (hp : (env.scope.kind == .class || (env.scope.kind == .module && env.locals != env.globals)) = false)
    (h : wpAny (model prog w) A (eval iter env) (fun xv s₁ => wpAny (model prog w) A (pyIter xv) (fun it s₂ =>
      LcAt prog w A h₀ L m news env scope cl x elt (QG f) (fun vs D c ys made s' => Fr h₀ L s'.heap m → News h₀ L s'.heap ((D, listOf ys.toArray c) :: (made ++ news)) →
        ∀ h' tk, Fr h₀ L h' (fun z => if z = y then some (.ref D) else m z) → News h₀ L h' ((D, listOf ys.toArray c) :: (made ++ news)) → Q .next { s' with heap := h', toks := tk }) it s₂) E s₁) E s)
    (hs : ∀ x, foldedSetIterable iter env x = pure x := by intro _; rfl) :
    wpAny (model prog w) A (exec (.Assign [.Name y py] (.ListComp elt [⟨.Name x px, iter, [], 0⟩] scope pos) spos) env) Q E s := lc_assign (QG f) news m hsw hL hclos hcell hkind hnames hx hy hp h hs
def EltEndQ (h₀ : Heap) (L : Addr) (m : Str → Option Value) (news : List (Addr × Obj)) (s : Shared) (h : Heap) (q : Int) (y : Value) (s₄ : Shared) : Prop :=
  ∃ h' tk', s₄ = { s with heap := h', toks := tk' } ∧ Fr h₀ L h' m ∧ News h₀ L h' (news ++ newsAll h₀ L h) ∧ NQ y q
theorem EltEndQ.int {h₀ h h' : Heap} {L : Addr} {m : Str → Option Value} {s : Shared} {q z : Int} {t : Tok} {tk' : Nat} (F : Fr h₀ L h' m) (N : News h₀ L h' (news ++ newsAll h₀ L h)) (e : q = 4 * z) : EltEndQ h₀ L m news s h q (.int z t) { s with heap := h', toks := tk' } := ⟨h', tk', rfl, F, N, .inl ⟨z, t, rfl, e⟩⟩
theorem EltEndQ.float {h₀ h h' : Heap} {L : Addr} {m : Str → Option Value} {s : Shared} {q : Int} {Z : UInt64} {t : Tok} {tk' : Nat} (F : Fr h₀ L h' m) (N : News h₀ L h' (news ++ newsAll h₀ L h)) (e : IsQ Z q) : EltEndQ h₀ L m news s h q (.float Z t) { s with heap := h', toks := tk' } := ⟨h', tk', rfl, F, N, .inr ⟨Z, t, rfl, e⟩⟩
theorem lc_intsQ {s : Shared} {f : Int → Int} {elt : Expr} {x : Str} {scope : Scope} {cl : List (Str × Addr)} {K : List Value → Addr → Nat → List Value → List (Addr × Obj) → Shared → Prop} {l : Addr} {items : List Value} {ns : List Int} {k : Nat}
    (hh : A.handled = none) (F : Fr h₀ L s.heap m) (N : News h₀ L s.heap news) (hl : (l, listOf items.toArray k) ∈ news) (hi : IntsAre items ns) (hsz : ns.length ≤ 16384)
    (helt : ∀ (i : Nat) (k : Int) (t : Tok) (C : Addr) (m₃ : Str → Option Value) (h : Heap) (tk : Nat) (E' : Value → Shared → Prop), ns[i]? = some k → Fr h₀ L h m → News h₀ L h (news ++ newsAll h₀ L h) → h.Ns C m₃ → m₃ x = some (.int k t) →
      wpAny (model prog w) A (eval elt (compEnvC scope cl C env)) (fun y s₄ => EltEndQ h₀ L m news s h (f k) y s₄) E' { s with heap := h, toks := tk })
    (hK : ∀ D c ys h' tk, NQs ys (ns.map f) → Fr h₀ L h' m → News h₀ L h' ((D, listOf ys.toArray c) :: news) → (∀ q ∈ news, q.1 < D) → K items D c ys [] { s with heap := h', toks := tk }) :
    wpAny (model prog w) A (pyIter (.ref l)) (fun it s₂ => LcAt prog w A h₀ L m news env scope cl x elt (QG f) K it s₂) E s := by
  refine lc_list hh F N hl (by rw [hi.length]; exact hsz) ?_ ?_
  · rintro s₂ ⟨h2, rfl⟩ i v C m₃ h tk E' hv F₁ N₁ hn hm
    obtain ⟨n, t, rfl, hk⟩ := hi.at i v hv
    refine wpAny_mono (helt i n t C m₃ h tk E' hk F₁ (News.append N₁ news_all) hn hm) (fun y s₄ h₄ => ?_) fun _ _ e => e
    obtain ⟨h', tk', rfl, F', N', e⟩ := h₄
    exact ⟨h', tk', [], rfl, F', keep_all F₁ F' N', (fun p hp => nomatch hp), rfl, n, t, rfl, e⟩
  · intro D c ys made h' tk hT F' N' hlt _
    obtain ⟨e1, e2⟩ := q_nqs hT hi
    subst e1
    exact hK D c ys h' tk e2 F' N' hlt
end
end partLc3

section partS13
def stFilled : Stmt := match turnBody with
  | _ :: _ :: _ :: _ :: _ :: _ :: _ :: _ :: _ :: _ :: _ :: _ :: _ :: st :: _ => st
  | _ => .Pass default

local macro_rules | `(tactic| walk_at "exec Assign cons ListComp") => `(tactic| (k_here; (with_reducible rename LcQ _ => sp'); (rename Fr _ _ _ _ => lF'); (rename News _ _ _ _ => lN'); (with_unfolding_all refine' lc_assignQ sp' lF' lN' ?hsw ?hL ?hclos ?hcell ?hkind ?hnames ?hx ?hy ?hp ?h ?hs; (case hsw => with_unfolding_all rfl); (case hL => rfl); (case hclos => with_unfolding_all rfl); (case hcell => decide); (case hkind => rfl); (case hnames => decide); (case hx => rfl); (case hy => rfl); (case hp => rfl); (case hs => intro _; with_unfolding_all rfl)); clear sp'; (try k_fold)))
local macro_rules | `(tactic| walk_at "pyIter ref") => `(tactic| (k_here; (with_reducible show wpAny _ _ (pyIter (Value.ref _)) (fun it s₂ => LcAt _ _ _ _ _ _ _ _ _ _ _ _ _ _ it s₂) _ _); (with_unfolding_all refine' lc_intsQ ?hh ?hF ?hN ?hl ?hi ?hz ?helt ?hK; (case hh => rfl); (case hF => k_asm); (case hN => k_asm); (case hl => k_mem); (case hi => assumption); (case hz => omega); (case' helt => ((intro i' k' t' C' m' h' tk' E' hr' F' N' hn' hm'); (simp only [List.cons_append] at N'); (show wpAny _ _ _ _ _ _); (try k_fold))); (case' hK => (intro D' c' z' h' tk' zi' F' N' l1'; (try dsimp only))))))

theorem nq_lo {Z : UInt64} {q : Int} (h : IsQ Z q) (e : (Float64.cmpInt Z 0 == some Ordering.lt) = true) : q < 0 := by
  rw [isq_cmpInt h] at e
  have e2 := eq_of_beq e
  have := Option.some.inj e2
  rw [Int.compare_eq_lt] at this
  omega
theorem nq_nlo {Z : UInt64} {q : Int} (h : IsQ Z q) (e : (Float64.cmpInt Z 0 == some Ordering.lt) = false) : 0 ≤ q := by
  refine Int.not_lt.mp fun h2 => ?_
  rw [isq_cmpInt h, Int.compare_eq_lt.mpr (by omega : q < 4 * 0)] at e
  exact absurd e (by decide)
theorem nq_hi {Z : UInt64} {q i : Int} (h : IsQ Z q) (e : (Float64.cmpInt Z i == some Ordering.gt) = true) : 4 * i < q := by
  rw [isq_cmpInt h] at e
  have e2 := eq_of_beq e
  have := Option.some.inj e2
  rw [Int.compare_eq_gt] at this
  omega
theorem nq_nhi {Z : UInt64} {q i : Int} (h : IsQ Z q) (e : (Float64.cmpInt Z i == some Ordering.gt) = false) : q ≤ 4 * i := by
  refine Int.not_lt.mp fun h2 => ?_
  rw [isq_cmpInt h, Int.compare_eq_gt.mpr h2] at e
  exact absurd e (by decide)
/-- what one run's class holds of all that lies ahead of the place, in quarters -/
def fillOf (P mv d k : Int) : Int := if P - 48 * (k - mv - d) < 0 then 0 else if 48 * d < P - 48 * (k - mv - d) then 48 * d else P - 48 * (k - mv - d)
theorem fill_mid {P mv d k : Int} (h1 : 0 ≤ P - 48 * (k - mv - d)) (h2 : P - 48 * (k - mv - d) ≤ 48 * d) : fillOf P mv d k = P - 48 * (k - mv - d) := by unfold fillOf; exact (if_neg (Int.not_lt.mpr h1)).trans (if_neg (Int.not_lt.mpr h2))

theorem s13_ok {w : World} {p : Program} {loose : List Str} {mean : ExcName → Option Value} {mg mb : Str → Option Value} {news : List (Addr × Obj)}
    {dp un : Nat} {gd : Option (List Code)} {a : Addr} {cd : Value} {outer : List Env} {A₀ : Around} {base h₀ : Heap} {L : Addr} {m : Str → Option Value} {s : Shared} {E : Value → Shared → Prop} {Q : Flow → Shared → Prop}
    {op om od : Obj} {Zp : UInt64} {tp : Tok} {mv d P : Int} {tm td : Tok} {lk : Addr} {kk : Nat} {ms : List Value} {M : List Int}
    (B : Below A₀ base outer h₀) (F : Fr h₀ L s.heap m) (X : (hd.heap_39 w.params).In h₀) (N : News h₀ L s.heap news) (T : Top p loose mean mg mb h₀)
    (hmk : m "marks" = some (.ref lk)) (hnk : (lk, listOf ms.toArray kk) ∈ news) (hk : IntsAre ms M) (hMl : M.length ≤ 4) (hMb : ∀ k ∈ M, 0 ≤ k ∧ k < 1000)
    (hnp : (L + 1 + 1 + 1 + 1 + 1 + 1, op) ∈ news) (hp : op.data = .cell (some (.float Zp tp))) (hP : IsQ Zp P) (hPb : P.natAbs < 100000)
    (hnm : (L + 1 + 1 + 1 + 1 + 1, om) ∈ news) (hm : om.data = .cell (some (.int mv tm))) (hnd : (L + 1 + 1 + 1, od) ∈ news) (hd : od.data = .cell (some (.int d td)))
    (hd1 : 1 ≤ d) (hd8 : d ≤ 8) (hm0 : 0 ≤ mv) (hm1 : mv < 100)
    (hdp : dp + 2 < recursionLimit) (hun : un + 100 < cLine)
    (hret : ∀ (D : Addr) (c : Nat) (ys : List Value) (h' : Heap) (tk : Nat), NQs ys (M.map (fillOf P mv d)) → (∀ q ∈ news, q.1 < D) → Fr h₀ L h' (fun y => if y = "filled" then some (.ref D) else m y) → News h₀ L h' ((D, listOf ys.toArray c) :: news) → Q .next { s with heap := h', toks := tk }) :
    wpAny (model lw.prog w) (ktrTop dp un gd "law" lawScope L a cd (cellsFrom (L + 1) lawScope.names []) outer) (exec stFilled (lawEnv L a cd)) Q E s := by
  have F2 := fr_focus F hmk
  have N2 := news_add (news_add (news_add (news_add N hnp) (List.mem_cons_of_mem _ hnd)) (List.mem_cons_of_mem _ (List.mem_cons_of_mem _ hnm))) (List.mem_cons_of_mem _ (List.mem_cons_of_mem _ (List.mem_cons_of_mem _ hnk)))
  clear N F
  have hkl := IntsAre.length hk
  have sp := lcQ (fillOf P mv d)
  have mk9 : ∀ {k : Int}, 0 ≤ k ∧ k < 1000 → IsQ (Float64.sub Zp (Float64.ofInt (12 * (k - mv - d)))) (P - 48 * (k - mv - d)) := fun {k} hk => by
    have h4 := isq_sub hP (isq_ofInt (i := 12 * (k - mv - d)) (by omega)) (by omega)
    rwa [show 4 * (12 * (k - mv - d)) = 48 * (k - mv - d) from by omega] at h4
  dsimp only [stFilled, turnBody, lawEnv, lawScope, lawBody, lawDef, PySem.Challenge.pw_rs0159_01]
  k_steps
  all_goals first
    | exact hret _ _ _ _ _ (by assumption) (fun q hq => (by assumption : ∀ q ∈ _, q.1 < _) q (List.mem_cons_of_mem _ (List.mem_cons_of_mem _ (List.mem_cons_of_mem _ (List.mem_cons_of_mem _ hq))))) (fr_refocus (by assumption) hmk (by decide)) (news_sub (by assumption) fun q hq => by
        rcases List.mem_cons.mp hq with rfl | hq
        · exact List.mem_cons_self ..
        · exact List.mem_cons_of_mem _ (List.mem_cons_of_mem _ (List.mem_cons_of_mem _ (List.mem_cons_of_mem _ (List.mem_cons_of_mem _ hq)))))
    | (rename (M[_]? = some _) => hr9
       have hb9 := hMb _ (List.mem_of_getElem? hr9)
       first
       | (exfalso
          rename (2 ^ 1024 - 2 ^ 970 ≤ _) => hbig
          exact big_not (by omega) hbig)
       | (exfalso
          rename Flt.Over _ => ho9
          exact not_over (by omega) ho9)
       | (rename (_ == some Ordering.lt) = true => hc9
          have h9 := nq_lo (mk9 hb9) hc9
          exact EltEndQ.int (by assumption) (by assumption) (by rw [if_neg (by omega)]; unfold fillOf; rw [if_pos h9]; rfl))
       | (rename (_ == some Ordering.lt) = false => hc9
          rename (_ == some Ordering.gt) = true => hd9
          have h8 := nq_nlo (mk9 hb9) hc9
          have h9 := nq_hi (mk9 hb9) hd9
          exact EltEndQ.int (by assumption) (by assumption) (by unfold fillOf; rw [if_neg (by omega), if_pos (by omega)]; omega))
       | (rename (_ == some Ordering.lt) = false => hc9
          rename (_ == some Ordering.gt) = false => hd9
          have h8 := nq_nlo (mk9 hb9) hc9
          have h9 := nq_nhi (mk9 hb9) hd9
          exact EltEndQ.float (by assumption) (by assumption) (by rw [fill_mid h8 (by omega)]; exact mk9 hb9)))
end partS13

section partLaw
abbrev mvOf (av bv d : Int) : Int := av + d - Int.fmod av d + bv
theorem col_eq {av bv d r : Int} (hd : 1 ≤ d) (hr : 0 ≤ r) : colOf av bv d r = mvOf av bv d + d + d * (r / d) := by
  unfold colOf mvOf
  rw [Int.fmod_eq_emod_of_nonneg r (by omega)]
  have h := Int.mul_ediv_add_emod r d
  generalize d * (r / d) = q at *
  generalize r % d = e at *
  omega
theorem cols_getD {av bv d : Int} (j : Nat) (hj : j < 10) : (colsOf av bv d).getD j 0 = colOf av bv d (j : Int) := by
  unfold colsOf
  simp [List.getD, hj]
abbrev markOf (av bv d r : Int) : Int := mvOf av bv d + d + d * (r / d)
theorem marks_eq {av bv d : Int} {R : List Int} (hd : 1 ≤ d) (hR : ∀ r ∈ R, 0 ≤ r ∧ r < 8) : (R.map fun r => (colsOf av bv d).getD r.toNat 0) = R.map (markOf av bv d) := by
  refine List.map_congr_left fun r hr => ?_
  obtain ⟨h0, h8⟩ := hR r hr
  rw [cols_getD _ (by omega), show ((r.toNat : Nat) : Int) = r from by omega, col_eq hd h0]
abbrev nLt (d : Int) (R : List Int) (K : Int) : Nat := R.countP fun r => decide (r / d < K)
abbrev nEq (d : Int) (R : List Int) (K : Int) : Nat := R.countP fun r => decide (r / d = K)
theorem nLe_eq (d : Int) (K : Int) : ∀ R : List Int, (R.countP fun r => decide (r / d ≤ K)) = nLt d R K + nEq d R K
  | [] => rfl
  | r :: R => by
    unfold nLt nEq
    rw [List.countP_cons, List.countP_cons, List.countP_cons, nLe_eq d K R]
    unfold nLt nEq
    rcases Int.lt_trichotomy (r / d) K with h | h | h
    · rw [if_pos (by simpa using Int.le_of_lt h), if_pos (by simpa using h), if_neg (by simpa using Int.ne_of_lt h)]; omega
    · rw [if_pos (by simpa using Int.le_of_eq h), if_neg (by simp [h]), if_pos (by simpa using h)]; omega
    · rw [if_neg (by simpa using h), if_neg (by simpa using Int.le_of_lt h), if_neg (by simpa using (Int.ne_of_gt h))]; omega
theorem mark_lt {av bv d q K : Int} (hd : 1 ≤ d) : (12 * (mvOf av bv d + d + d * q) < 12 * (mvOf av bv d + d + d * K)) ↔ q < K := by
  constructor
  · intro h
    have h2 : d * q < d * K := by omega
    exact Int.lt_of_mul_lt_mul_left h2 (by omega)
  · intro h
    have := Int.mul_lt_mul_of_pos_left h (show 0 < d by omega)
    omega
theorem mark_le {av bv d q K : Int} (hd : 1 ≤ d) : (12 * (mvOf av bv d + d + d * q) ≤ 12 * (mvOf av bv d + d + d * K)) ↔ q ≤ K := by
  have := mark_lt (av := av) (bv := bv) (q := K) (K := q) hd
  omega
/-- K is the class of the middle -/
def MidK (d : Int) (R : List Int) (K : Int) : Prop := (∃ r ∈ R, r / d = K) ∧ nLt d R K ≤ R.length / 2 ∧ R.length / 2 < nLt d R K + nEq d R K
theorem mid_scaled {av bv d : Int} {R : List Int} (hd : 1 ≤ d) {x : Int} {r1 r2 : Nat} (h : MG ((R.map (markOf av bv d)).map fun r => 12 * r) x r1 r2) :
    ∃ K, MidK d R K ∧ x = 12 * (mvOf av bv d + d + d * K) ∧ r1 = nLt d R K ∧ r2 = nLt d R K + nEq d R K := by
  obtain ⟨hx, h1, h2, h3, h4⟩ := h
  rw [List.map_map] at hx
  obtain ⟨r, hr, rfl⟩ := List.mem_map.mp hx
  rw [List.map_map, List.countP_map] at h1 h2
  simp only [List.length_map] at h3 h4
  have e1 : r1 = nLt d R (r / d) := by
    rw [h1]
    refine List.countP_congr fun q _ => ?_
    simp only [Function.comp, decide_eq_true_eq]
    exact mark_lt hd
  have e2 : r2 = nLt d R (r / d) + nEq d R (r / d) := by
    rw [h2, ← nLe_eq]
    refine List.countP_congr fun q _ => ?_
    simp only [Function.comp, decide_eq_true_eq]
    exact mark_le hd
  exact ⟨r / d, ⟨⟨r, hr, rfl⟩, e1 ▸ h3, e2 ▸ h4⟩, rfl, e1, e2⟩
/-- the runs of a class -/
abbrev clsOf (d k : Int) : List Int := pick (fun j => decide ((j : Int) / d = k)) 10
theorem range_getD {α β : Type} (f : α → List β) (a : α) (l : List α) : ((List.range l.length).flatMap fun i => f (l.getD i a)) = l.flatMap f := by
  have h : (List.range l.length).map (fun i => l.getD i a) = l := by
    refine List.ext_getElem (by simp) fun i h1 h2 => ?_
    simp [List.getD, h2]
  have h2 : ((List.range l.length).flatMap fun i => f (l.getD i a)) = ((List.range l.length).map (fun i => l.getD i a)).flatMap f := by rw [List.flatMap_map]
  rw [h2, h]
theorem fm_congr {α β : Type} {f g : α → List β} : ∀ (l : List α), (∀ x ∈ l, f x = g x) → l.flatMap f = l.flatMap g
  | [], _ => rfl
  | x :: l, h => by
    rw [List.flatMap_cons, List.flatMap_cons, h x (List.mem_cons_self ..), fm_congr l fun y hy => h y (List.mem_cons_of_mem _ hy)]
theorem alike_eq {av bv d : Int} {R : List Int} (hd : 1 ≤ d) (hR : ∀ r ∈ R, 0 ≤ r ∧ r < 8) :
    gath (fun i => eqAt (colsOf av bv d) ((R.map (markOf av bv d)).getD i 0)) (R.map (markOf av bv d)).length = R.flatMap fun r => clsOf d (r / d) := by
  unfold gath
  rw [range_getD (fun x => pick (eqAt (colsOf av bv d) x) 10) 0 (R.map (markOf av bv d)), List.flatMap_map]
  refine fm_congr _ fun r hr => ?_
  unfold clsOf pick
  congr 1
  refine List.filter_congr fun j hj => ?_
  have hj10 : j < 10 := by simpa using hj
  unfold eqAt
  rw [cols_getD _ hj10, col_eq hd (by omega)]
  refine decide_eq_decide.mpr ⟨fun h => ?_, fun h => by rw [h]⟩
  have h2 : d * ((j : Int) / d) = d * (r / d) := by
    have : markOf av bv d r = mvOf av bv d + d + d * (r / d) := rfl
    omega
  exact Int.eq_of_mul_eq_mul_left (by omega) h2
def clsChk (d r p : Int) : Bool :=
  decide ((clsOf d (r / d)).length = d.toNat) && decide (((clsOf d (r / d)).countP fun y => decide (y < p)) = if r / d < p / d then d.toNat else if r / d = p / d then (p % d).toNat else 0) &&
  decide (((clsOf d (r / d)).countP fun y => decide (y ≤ p)) = if r / d < p / d then d.toNat else if r / d = p / d then (p % d + 1).toNat else 0) && (clsOf d (r / d)).all fun y => decide (0 ≤ y) && decide (y < 10) && decide (y / d = r / d)
theorem cls_chk : (sizesD.all fun d => (List.range 8).all fun r => (List.range 10).all fun p => clsChk d (r : Int) (p : Int)) = true := by decide +kernel
theorem cls_fact {d r p : Int} (hd : d ∈ sizesD) (h0 : 0 ≤ r) (h8 : r < 8) (hp0 : 0 ≤ p) (hp : p < 10) : clsChk d r p = true := by
  obtain ⟨r, rfl⟩ := Int.eq_ofNat_of_zero_le h0
  obtain ⟨p, rfl⟩ := Int.eq_ofNat_of_zero_le hp0
  exact List.all_eq_true.mp (List.all_eq_true.mp (List.all_eq_true.mp cls_chk d hd) r (List.mem_range.mpr (by omega))) p (List.mem_range.mpr (by omega))
theorem cls_parts {d r p : Int} (h : clsChk d r p = true) : (clsOf d (r / d)).length = d.toNat ∧ ((clsOf d (r / d)).countP fun y => decide (y < p)) = (if r / d < p / d then d.toNat else if r / d = p / d then (p % d).toNat else 0) ∧
    ((clsOf d (r / d)).countP fun y => decide (y ≤ p)) = (if r / d < p / d then d.toNat else if r / d = p / d then (p % d + 1).toNat else 0) ∧ ∀ y ∈ clsOf d (r / d), 0 ≤ y ∧ y < 10 ∧ y / d = r / d := by
  unfold clsChk at h
  simp only [Bool.and_eq_true, decide_eq_true_eq] at h
  obtain ⟨⟨⟨h1, h2⟩, h3⟩, h4⟩ := h
  refine ⟨h1, h2, h3, fun y hy => ?_⟩
  have := List.all_eq_true.mp h4 y hy
  simp only [Bool.and_eq_true, decide_eq_true_eq] at this
  exact ⟨this.1.1, this.1.2, this.2⟩
theorem cnt_flat {d : Int} {K e : Int} {p : Int → Bool} (he : ∀ r, 0 ≤ r → r < 8 → (clsOf d (r / d)).countP p = if r / d < K then d.toNat else if r / d = K then e.toNat else 0) :
    ∀ R : List Int, (∀ r ∈ R, 0 ≤ r ∧ r < 8) → (R.flatMap fun r => clsOf d (r / d)).countP p = d.toNat * nLt d R K + e.toNat * nEq d R K
  | [], _ => by simp
  | r :: R, hR => by
    have hr := hR r (List.mem_cons_self ..)
    rw [List.flatMap_cons, List.countP_append, cnt_flat he R fun q hq => hR q (List.mem_cons_of_mem _ hq), he r hr.1 hr.2]
    unfold nLt nEq
    rw [List.countP_cons, List.countP_cons]
    rcases Int.lt_trichotomy (r / d) K with h | h | h
    · rw [if_pos h, if_pos (by simpa using h), if_neg (by simpa using Int.ne_of_lt h), Nat.mul_add]; try simp only [Nat.add_zero]
      try omega
    · rw [if_neg (by omega), if_pos h, if_neg (by simp [h]), if_pos (by simpa using h), Nat.mul_add, Nat.mul_add]; try simp only [Nat.add_zero]
      try omega
    · rw [if_neg (by omega), if_neg (by omega), if_neg (by simpa using Int.le_of_lt h), if_neg (by simpa using (Int.ne_of_gt h))]; try simp only [Nat.add_zero]
      try omega
theorem len_flat {d : Int} (hd : d ∈ sizesD) : ∀ R : List Int, (∀ r ∈ R, 0 ≤ r ∧ r < 8) → (R.flatMap fun r => clsOf d (r / d)).length = d.toNat * R.length
  | [], _ => by simp
  | r :: R, hR => by
    have hr := hR r (List.mem_cons_self ..)
    rw [List.flatMap_cons, List.length_append, len_flat hd R fun q hq => hR q (List.mem_cons_of_mem _ hq), (cls_parts (cls_fact hd hr.1 hr.2 (by decide : (0 : Int) ≤ 0) (by decide))).1, List.length_cons, Nat.mul_add]
    omega
/-- the middle of the look-alikes lies in the same class -/
theorem mid_alike {d : Int} {R : List Int} (hd : d ∈ sizesD) (hd1 : 1 ≤ d) (hR : ∀ r ∈ R, 0 ≤ r ∧ r < 8) {x s : Int} (hs : 0 < s) {r1 r2 : Nat} (h : MG ((R.flatMap fun r => clsOf d (r / d)).map fun r => s * r) x r1 r2) :
    ∃ p, 0 ≤ p ∧ p < 10 ∧ x = s * p ∧ MidK d R (p / d) ∧ (r1 : Int) = d * nLt d R (p / d) + (p % d) * nEq d R (p / d) ∧ (r2 : Int) = d * nLt d R (p / d) + (p % d + 1) * nEq d R (p / d) := by
  obtain ⟨hx, h1, h2, h3, h4⟩ := h
  obtain ⟨p, hp, rfl⟩ := List.mem_map.mp hx
  obtain ⟨r, hr, hpr⟩ := List.mem_flatMap.mp hp
  have hr8 := hR r hr
  obtain ⟨hp0, hp10, hpe⟩ := (cls_parts (cls_fact hd hr8.1 hr8.2 (by decide : (0 : Int) ≤ 0) (by decide))).2.2.2 p hpr
  rw [List.countP_map] at h1 h2
  rw [List.length_map, len_flat hd R hR] at h3 h4
  have m0 : 0 ≤ p % d := Int.emod_nonneg _ (by omega)
  have m1 : p % d < d := Int.emod_lt_of_pos _ (by omega)
  have e1 : r1 = d.toNat * nLt d R (p / d) + (p % d).toNat * nEq d R (p / d) := by
    rw [h1, ← cnt_flat (fun q hq0 hq8 => (cls_parts (cls_fact hd hq0 hq8 hp0 hp10)).2.1) R hR]
    refine List.countP_congr fun q _ => ?_
    simp only [Function.comp, decide_eq_true_eq]
    exact ⟨fun h => Int.lt_of_mul_lt_mul_left h (Int.le_of_lt hs), fun h => Int.mul_lt_mul_of_pos_left h hs⟩
  have e2 : r2 = d.toNat * nLt d R (p / d) + (p % d + 1).toNat * nEq d R (p / d) := by
    rw [h2, ← cnt_flat (fun q hq0 hq8 => (cls_parts (cls_fact hd hq0 hq8 hp0 hp10)).2.2.1) R hR]
    refine List.countP_congr fun q _ => ?_
    simp only [Function.comp, decide_eq_true_eq]
    exact ⟨fun h => Int.le_of_mul_le_mul_left h hs, fun h => Int.mul_le_mul_of_nonneg_left h (Int.le_of_lt hs)⟩
  refine ⟨p, hp0, hp10, rfl, ⟨⟨r, hr, hpe.symm⟩, ?_, ?_⟩, ?_, ?_⟩
  · rw [e1] at h3
    generalize nLt d R (p / d) = c at *
    generalize nEq d R (p / d) = f at *
    have : d.toNat * c ≤ d.toNat * R.length / 2 := Nat.le_trans (Nat.le_add_right _ _) h3
    have hdp : 0 < d.toNat := by omega
    have h5 : d.toNat * (2 * c) ≤ d.toNat * R.length := by
      rw [Nat.mul_left_comm]; omega
    have := Nat.le_of_mul_le_mul_left h5 hdp
    omega
  · rw [e2] at h4
    generalize nLt d R (p / d) = c at *
    generalize nEq d R (p / d) = f at *
    have h6 : (p % d + 1).toNat * f ≤ d.toNat * f := Nat.mul_le_mul_right _ (by omega)
    have hdp : 0 < d.toNat := by omega
    have h5 : d.toNat * R.length < d.toNat * (2 * (c + f)) := by
      rw [Nat.mul_left_comm, Nat.mul_add]; omega
    have := Nat.lt_of_mul_lt_mul_left h5
    omega
  · rw [e1]; push_cast; rw [Int.toNat_of_nonneg (by omega), Int.toNat_of_nonneg m0]
  · rw [e2]; push_cast; rw [Int.toNat_of_nonneg (by omega), Int.toNat_of_nonneg (by omega)]
theorem nLt_mono {d K K' : Int} (h : K < K') : ∀ R : List Int, nLt d R K + nEq d R K ≤ nLt d R K'
  | [] => by simp
  | r :: R => by
    have := nLt_mono (d := d) h R
    unfold nLt nEq at *
    rw [List.countP_cons, List.countP_cons, List.countP_cons]
    by_cases h1 : r / d < K
    · rw [if_pos (by simpa using h1), if_neg (by simp; omega), if_pos (by simp; omega)]; omega
    · rw [if_neg (by simpa using h1)]
      by_cases h2 : r / d = K
      · rw [if_pos (by simpa using h2), if_pos (by simp; omega)]; omega
      · rw [if_neg (by simpa using h2)]; omega
theorem midK_unique {d : Int} {R : List Int} {K K' : Int} (h : MidK d R K) (h' : MidK d R K') : K = K' := by
  obtain ⟨_, a1, a2⟩ := h
  obtain ⟨_, b1, b2⟩ := h'
  rcases Int.lt_trichotomy K K' with g | g | g
  · have := nLt_mono (d := d) g R; omega
  · exact g
  · have := nLt_mono (d := d) g R; omega
end partLaw

section partLaw2
theorem midK_exists {d : Int} {R : List Int} {K : Int} (h : MidK d R K) : 1 ≤ nEq d R K := by
  obtain ⟨_, a, b⟩ := h; omega
theorem nEq_le {d : Int} {R : List Int} {K : Int} : nLt d R K + nEq d R K ≤ R.length := by
  rw [← nLe_eq]; exact List.countP_le_length
theorem f_cases {d : Int} {R : List Int} {K : Int} (h : MidK d R K) (hl : R.length ≤ 4) : nEq d R K = 1 ∨ nEq d R K = 2 ∨ nEq d R K = 3 ∨ nEq d R K = 4 := by
  have := midK_exists h
  have := nEq_le (d := d) (R := R) (K := K)
  omega
theorem sizes_cases {d : Int} (h : d ∈ sizesD) : d = 1 ∨ d = 2 ∨ d = 3 ∨ d = 4 ∨ d = 5 ∨ d = 8 := by simpa [sizesD] using h
/-- the division in median_grouped comes out even -/
theorem div12 {f : Nat} (h : f = 1 ∨ f = 2 ∨ f = 3 ∨ f = 4) (z : Int) : ∃ c : Int, c * (f : Int) = 12 * z ∧ c.natAbs ≤ 12 * z.natAbs := by
  rcases h with rfl | rfl | rfl | rfl
  · exact ⟨12 * z, by omega, by omega⟩
  · exact ⟨6 * z, by omega, by omega⟩
  · exact ⟨4 * z, by omega, by omega⟩
  · exact ⟨3 * z, by omega, by omega⟩
theorem div_scaled {av bv d : Int} {R : List Int} (hd1 : 1 ≤ d) (hd8 : d ≤ 8) (hl : R.length ≤ 4) : ∀ x r1 r2, MG ((R.map (markOf av bv d)).map fun r => 12 * r) x r1 r2 →
    ∃ c : Int, c * ((r2 : Int) - r1) = 12 * d * (2 * ((((R.map (markOf av bv d)).map fun r => 12 * r).length : Nat) : Int) - 4 * r1) ∧ c.natAbs < 2 ^ 40 := by
  intro x r1 r2 h
  obtain ⟨K, hK, _, e1, e2⟩ := mid_scaled hd1 h
  rw [List.length_map, List.length_map]
  obtain ⟨c, hc, hb⟩ := div12 (f_cases hK hl) (d * (2 * (R.length : Int) - 4 * r1))
  refine ⟨c, ?_, ?_⟩
  · rw [Int.mul_assoc, ← hc, e1, e2]; congr 1; push_cast; omega
  · have h1 : nLt d R K ≤ R.length / 2 := hK.2.1
    have h2 : (d * (2 * (R.length : Int) - 4 * r1)).natAbs ≤ 8 * 8 := by
      rw [Int.natAbs_mul]
      exact Nat.mul_le_mul (by omega) (by omega)
    omega
abbrev alikeOf (d : Int) (R : List Int) : List Int := R.flatMap fun r => clsOf d (r / d)
theorem alike_len {d : Int} {R : List Int} (hd : d ∈ sizesD) (hd1 : 1 ≤ d) (hR : ∀ r ∈ R, 0 ≤ r ∧ r < 8) : ((alikeOf d R).length : Int) = d * R.length := by
  rw [len_flat hd R hR]; push_cast; rw [Int.toNat_of_nonneg (by omega)]
/-- what the counts of the look-alikes come to -/
theorem alike_core {d n cf f e r1 r2 : Int} (h1 : r1 = d * cf + e * f) (h2 : r2 = d * cf + (e + 1) * f) : r2 - r1 = f ∧ (2 * (d * n) - 4 * r1) = 2 * (d * n) - 4 * (d * cf) - 4 * (e * f) := by
  subst h1 h2
  rw [Int.add_mul]
  constructor <;> omega
theorem div_alike {d : Int} {R : List Int} (hd : d ∈ sizesD) (hd1 : 1 ≤ d) (hd8 : d ≤ 8) (hR : ∀ r ∈ R, 0 ≤ r ∧ r < 8) (hl : R.length ≤ 4) : ∀ x r1 r2, MG ((alikeOf d R).map fun r => 12 * r) x r1 r2 →
    ∃ c : Int, c * ((r2 : Int) - r1) = 12 * (2 * ((((alikeOf d R).map fun r => 12 * r).length : Nat) : Int) - 4 * r1) ∧ c.natAbs < 2 ^ 40 := by
  intro x r1 r2 h
  have hb4 : r1 ≤ ((alikeOf d R).map fun r => 12 * r).length / 2 := h.2.2.2.1
  obtain ⟨p, hp0, hp10, _, hK, e1, e2⟩ := mid_alike hd hd1 hR (by decide) h
  rw [List.length_map] at hb4 ⊢
  have hlen := alike_len hd hd1 hR
  have hn32 : (alikeOf d R).length ≤ 8 * 4 := by
    rw [len_flat hd R hR]; exact Nat.mul_le_mul (by omega) hl
  obtain ⟨c, hc, hb⟩ := div12 (f_cases hK hl) (2 * ((alikeOf d R).length : Int) - 4 * r1)
  refine ⟨c, ?_, by omega⟩
  rw [← hc, (alike_core (n := 0) e1 e2).1]
theorem div_one {d : Int} {R : List Int} (hd : d ∈ sizesD) (hd1 : 1 ≤ d) (hd8 : d ≤ 8) (hR : ∀ r ∈ R, 0 ≤ r ∧ r < 8) (hl : R.length < 3) : ∀ x r1 r2, MG (alikeOf d R) x r1 r2 →
    ∃ c : Int, c * ((r2 : Int) - r1) = (1 : Int) * (2 * (((alikeOf d R).length : Nat) : Int) - 4 * r1) ∧ c.natAbs < 2 ^ 40 := by
  intro x r1 r2 h
  have hb4 : r1 ≤ (alikeOf d R).length / 2 := h.2.2.2.1
  have h' : MG ((alikeOf d R).map fun r => 1 * r) x r1 r2 := by simpa using h
  obtain ⟨p, hp0, hp10, _, hK, e1, e2⟩ := mid_alike hd hd1 hR (by decide) h'
  have hn32 : (alikeOf d R).length ≤ 8 * 2 := by
    rw [len_flat hd R hR]; exact Nat.mul_le_mul (by omega) (by omega)
  have hf := f_cases hK (by omega)
  have hle := nEq_le (d := d) (R := R) (K := p / d)
  rw [(alike_core (n := 0) e1 e2).1]
  rcases (by omega : nEq d R (p / d) = 1 ∨ nEq d R (p / d) = 2) with g | g
  · exact ⟨2 * ((alikeOf d R).length : Int) - 4 * r1, by rw [g]; simp, by omega⟩
  · exact ⟨((alikeOf d R).length : Int) - 2 * r1, by rw [g]; push_cast; omega, by omega⟩
end partLaw2

section partLaw3
/-- the place, in quarters: the class K and how far into it -/
structure PlaceAt (d : Int) (R : List Int) (P K g : Int) : Prop where
  mid : MidK d R K
  eq : P = 48 * (d * K) + g
  tell : g * nEq d R K = 24 * (d * R.length) - 48 * (d * nLt d R K)
  lo : 0 ≤ g
  hi : g < 48 * d
  k0 : 0 ≤ K
  kd : d * K < 10
theorem g_bounds {d : Int} {R : List Int} {K g : Int} (hd1 : 1 ≤ d) (h : MidK d R K) (ht : g * nEq d R K = 24 * (d * R.length) - 48 * (d * nLt d R K)) : 0 ≤ g ∧ g < 48 * d := by
  obtain ⟨_, a, b⟩ := h
  generalize nLt d R K = c at *
  generalize nEq d R K = f at *
  generalize R.length = n at *
  have hf : (0 : Int) < f := by omega
  have e1 : g * f = (24 * ((n : Int) - 2 * c)) * d := by
    rw [ht, Int.mul_assoc, Int.sub_mul, Int.mul_sub, Int.mul_comm d n, Int.mul_comm d c, Int.mul_assoc 2, ← Int.mul_assoc 24 2]; rfl
  constructor
  · refine Int.not_lt.mp fun h => ?_
    have h1 := Int.mul_neg_of_neg_of_pos h hf
    have h2 : 0 ≤ (24 * ((n : Int) - 2 * c)) * d := Int.mul_nonneg (by omega) (by omega)
    omega
  · refine Int.lt_of_mul_lt_mul_right (a := (f : Int)) ?_ (Int.le_of_lt hf)
    rw [e1]
    have h3 : (24 * ((n : Int) - 2 * c)) * d < (48 * (f : Int)) * d := Int.mul_lt_mul_of_pos_right (by omega) (by omega)
    rw [Int.mul_assoc 48 d, Int.mul_comm d f, ← Int.mul_assoc 48]
    exact h3
theorem place_fine {d : Int} {R : List Int} (hd : d ∈ sizesD) (hd1 : 1 ≤ d) (hR : ∀ r ∈ R, 0 ≤ r ∧ r < 8) {x c : Int} {r1 r2 : Nat} (h : MG ((alikeOf d R).map fun r => 12 * r) x r1 r2)
    (hc : c * ((r2 : Int) - r1) = 12 * (2 * ((((alikeOf d R).map fun r => 12 * r).length : Nat) : Int) - 4 * r1)) : ∃ K g, PlaceAt d R (4 * x - 2 * 12 + c + 24) K g := by
  obtain ⟨p, hp0, hp10, hx, hK, e1, e2⟩ := mid_alike hd hd1 hR (by decide) h
  rw [List.length_map, alike_len hd hd1 hR] at hc
  obtain ⟨a1, a2⟩ := alike_core (n := (R.length : Int)) e1 e2
  rw [a1, a2] at hc
  have hpm := Int.mul_ediv_add_emod p d
  have ht : (c + 48 * (p % d)) * nEq d R (p / d) = 24 * (d * R.length) - 48 * (d * nLt d R (p / d)) := by
    rw [Int.add_mul, hc, Int.mul_assoc 48]; omega
  obtain ⟨b1, b2⟩ := g_bounds hd1 hK ht
  refine ⟨p / d, c + 48 * (p % d), ⟨hK, by rw [hx]; omega, ht, b1, b2, Int.ediv_nonneg hp0 (by omega), ?_⟩⟩
  have := Int.emod_nonneg p (show d ≠ 0 by omega)
  omega
theorem coarse_eq {av bv d : Int} {R : List Int} (hd1 : 1 ≤ d) {P K g : Int} (hP : PlaceAt d R P K g) {x c : Int} {r1 r2 : Nat} (h : MG ((R.map (markOf av bv d)).map fun r => 12 * r) x r1 r2)
    (hc : c * ((r2 : Int) - r1) = 12 * d * (2 * ((((R.map (markOf av bv d)).map fun r => 12 * r).length : Nat) : Int) - 4 * r1)) : 4 * x - 2 * (12 * d) + c = P + 4 * (12 * mvOf av bv d) + 4 * (6 * d) := by
  obtain ⟨K', hK', hx, e1, e2⟩ := mid_scaled hd1 h
  have hKK := midK_unique hK' hP.mid
  subst hKK
  rw [List.length_map, List.length_map] at hc
  have hf := midK_exists hK'
  have hcf : c * (nEq d R K' : Int) = g * nEq d R K' := by
    rw [hP.tell, ← Int.mul_assoc 24, ← Int.mul_assoc 48]
    have e3 : ((r2 : Int) - r1) = nEq d R K' := by rw [e1, e2]; push_cast; omega
    rw [e3] at hc
    rw [hc, e1, Int.mul_sub, ← Int.mul_assoc, ← Int.mul_assoc]
    have q1 : 12 * d * 2 = 24 * d := by omega
    have q2 : 12 * d * 4 = 48 * d := by omega
    rw [q1, q2]
  have hcg : c = g := Int.eq_of_mul_eq_mul_right (by omega) hcf
  rw [hcg, hP.eq, hx]
  omega
theorem mg_sorted {M n' : List Int} (hp : n'.Perm M) (hs : n'.Pairwise (· ≤ ·)) (h0 : 0 < M.length) : MG M (mid n') (M.countP fun y => decide (y < mid n')) (M.countP fun y => decide (y ≤ mid n')) := by
  have hl := hp.length_eq
  have hg := mid_get (n' := n') (by omega)
  have hmem := List.mem_of_getElem? hg
  obtain ⟨hlt, hge⟩ := List.getElem?_eq_some_iff.mp hg
  refine ⟨hp.mem_iff.mp hmem, rfl, rfl, ?_, ?_⟩
  · rw [← hp.countP_eq, ← hl]
    have h1 : n'.countP (fun y => decide (y < mid n')) = (n'.take (n'.length / 2)).countP (fun y => decide (y < mid n')) + (n'.drop (n'.length / 2)).countP (fun y => decide (y < mid n')) := by
      rw [← List.countP_append, List.take_append_drop]
    have h2 : (n'.drop (n'.length / 2)).countP (fun y => decide (y < mid n')) = 0 := by
      rw [List.countP_eq_zero]
      intro y hy
      obtain ⟨j, hj, rfl⟩ := List.getElem_of_mem hy
      rw [List.getElem_drop]
      simp only [decide_eq_true_eq, Int.not_lt]
      rw [← hge]
      rcases Nat.eq_or_lt_of_le (Nat.le_add_right (n'.length / 2) j) with e | e
      · simp only [← e]; exact Int.le_refl _
      · exact List.pairwise_iff_getElem.mp hs _ _ _ _ e
    have h3 : (n'.take (n'.length / 2)).countP (fun y => decide (y < mid n')) ≤ (n'.take (n'.length / 2)).length := List.countP_le_length
    rw [List.length_take] at h3
    omega
  · rw [← hp.countP_eq, ← hl]
    have h1 : n'.countP (fun y => decide (y ≤ mid n')) = (n'.take (n'.length / 2 + 1)).countP (fun y => decide (y ≤ mid n')) + (n'.drop (n'.length / 2 + 1)).countP (fun y => decide (y ≤ mid n')) := by
      rw [← List.countP_append, List.take_append_drop]
    have h2 : (n'.take (n'.length / 2 + 1)).countP (fun y => decide (y ≤ mid n')) = (n'.take (n'.length / 2 + 1)).length := by
      rw [List.countP_eq_length]
      intro y hy
      obtain ⟨j, hj, rfl⟩ := List.getElem_of_mem hy
      rw [List.getElem_take]
      simp only [decide_eq_true_eq]
      rw [List.length_take] at hj
      rw [← hge]
      rcases Nat.eq_or_lt_of_le (show j ≤ n'.length / 2 by omega) with e | e
      · simp only [e]; exact Int.le_refl _
      · exact List.pairwise_iff_getElem.mp hs _ _ _ _ e
    rw [List.length_take] at h2
    omega
theorem mg_scale {M : List Int} {x : Int} {r1 r2 : Nat} (h : MG M x r1 r2) : MG (M.map fun r => 12 * r) (12 * x) r1 r2 := by
  obtain ⟨a, b, c, e, f⟩ := h
  refine ⟨List.mem_map.mpr ⟨x, a, rfl⟩, ?_, ?_, by rw [List.length_map]; exact e, by rw [List.length_map]; exact f⟩
  · rw [b, List.countP_map]
    refine List.countP_congr fun q _ => ?_
    simp only [Function.comp, decide_eq_true_eq]; omega
  · rw [c, List.countP_map]
    refine List.countP_congr fun q _ => ?_
    simp only [Function.comp, decide_eq_true_eq]; omega
theorem front_eq {av bv d : Int} {R n' : List Int} (hd1 : 1 ≤ d) {P K g : Int} (hP : PlaceAt d R P K g) (hp : n'.Perm (R.map (markOf av bv d))) (hs : n'.Pairwise (· ≤ ·)) (h0 : 0 < R.length) :
    12 * (mid n' - mvOf av bv d - d) = 12 * (d * K) := by
  obtain ⟨K', hK', hx, _, _⟩ := mid_scaled hd1 (mg_scale (mg_sorted hp hs (by simpa using h0)))
  have hKK := midK_unique hK' hP.mid
  subst hKK
  omega
theorem fill_one {av bv d : Int} {R : List Int} (hd1 : 1 ≤ d) {P K g : Int} (hP : PlaceAt d R P K g) (r : Int) : fillOf P (mvOf av bv d) d (markOf av bv d r) = if r / d < K then 48 * d else if r / d = K then g else 0 := by
  have e : P - 48 * (markOf av bv d r - mvOf av bv d - d) = 48 * (d * K) + g - 48 * (d * (r / d)) := by
    rw [hP.eq]
    have : markOf av bv d r = mvOf av bv d + d + d * (r / d) := rfl
    omega
  unfold fillOf
  rw [e]
  have h1 := hP.lo; have h2 := hP.hi
  generalize r / d = q
  rcases Int.lt_trichotomy q K with h | h | h
  · have h3 : d * (q + 1) ≤ d * K := Int.mul_le_mul_of_nonneg_left h (by omega)
    rw [Int.mul_add, Int.mul_one] at h3
    rw [if_neg (by omega), if_pos h]
    split <;> omega
  · subst h
    rw [if_neg (by omega), if_neg (by omega), if_neg (by omega), if_pos rfl]
    omega
  · have h3 : d * (K + 1) ≤ d * q := Int.mul_le_mul_of_nonneg_left h (by omega)
    rw [Int.mul_add, Int.mul_one] at h3
    rw [if_pos (by omega), if_neg (by omega), if_neg (by omega)]
theorem fill_sum_aux {av bv d : Int} {R₀ : List Int} (hd1 : 1 ≤ d) {P K g : Int} (hP : PlaceAt d R₀ P K g) : ∀ R : List Int, (((R.map (markOf av bv d)).map (fillOf P (mvOf av bv d) d)).sum : Int) = 48 * (d * nLt d R K) + g * nEq d R K
  | [] => by simp
  | r :: R => by
    rw [List.map_cons, List.map_cons, List.sum_cons, fill_sum_aux hd1 hP R, fill_one hd1 hP r]
    unfold nLt nEq
    rw [List.countP_cons, List.countP_cons]
    rcases Int.lt_trichotomy (r / d) K with h | h | h
    · rw [if_pos h, if_pos (by simpa using h), if_neg (by simpa using Int.ne_of_lt h)]; push_cast; simp only [Int.mul_add, Int.mul_one, Int.mul_zero, Int.add_zero]; omega
    · rw [if_neg (by omega), if_pos h, if_neg (by simp [h]), if_pos (by simpa using h)]; push_cast; simp only [Int.mul_add, Int.mul_one, Int.mul_zero, Int.add_zero]; omega
    · rw [if_neg (by omega), if_neg (by omega), if_neg (by simpa using Int.le_of_lt h), if_neg (by simpa using (Int.ne_of_gt h))]; simp
theorem fill_sum {av bv d : Int} {R : List Int} (hd1 : 1 ≤ d) {P K g : Int} (hP : PlaceAt d R P K g) : (((R.map (markOf av bv d)).map (fillOf P (mvOf av bv d) d)).sum : Int) = 4 * (6 * d * (R.length : Int)) := by
  rw [fill_sum_aux hd1 hP R, hP.tell, Int.mul_assoc 6]; omega
theorem fill_bound {av bv d : Int} {R : List Int} (hd1 : 1 ≤ d) (hd8 : d ≤ 8) {P K g : Int} (hP : PlaceAt d R P K g) : ∀ q ∈ (R.map (markOf av bv d)).map (fillOf P (mvOf av bv d) d), -1000000 ≤ q ∧ q ≤ 1000000 := by
  intro q hq
  rw [List.map_map] at hq
  obtain ⟨r, _, rfl⟩ := List.mem_map.mp hq
  simp only [Function.comp]
  rw [fill_one hd1 hP r]
  have h1 := hP.lo; have h2 := hP.hi
  split
  · omega
  · split <;> omega
theorem one_eq {d : Int} {R : List Int} (hd : d ∈ sizesD) (hd1 : 1 ≤ d) (hR : ∀ r ∈ R, 0 ≤ r ∧ r < 8) {P K g : Int} (hP : PlaceAt d R P K g) {x c : Int} {r1 r2 : Nat} (h : MG (alikeOf d R) x r1 r2)
    (hc : c * ((r2 : Int) - r1) = (1 : Int) * (2 * (((alikeOf d R).length : Nat) : Int) - 4 * r1)) : 12 * (4 * x - 2 * (1 : Int) + c) + 24 = P := by
  have h' : MG ((alikeOf d R).map fun r => 1 * r) x r1 r2 := by simpa using h
  obtain ⟨p, hp0, hp10, hx, hK, e1, e2⟩ := mid_alike hd hd1 hR (by decide) h'
  have hKK := midK_unique hK hP.mid
  have hpm := Int.mul_ediv_add_emod p d
  subst hKK
  rw [alike_len hd hd1 hR] at hc
  obtain ⟨a1, a2⟩ := alike_core (n := (R.length : Int)) e1 e2
  rw [a1, a2] at hc
  have hf := midK_exists hK
  have hcf : (12 * c + 48 * (p % d)) * (nEq d R (p / d) : Int) = g * nEq d R (p / d) := by
    rw [hP.tell, Int.add_mul, Int.mul_assoc 12, hc, Int.mul_assoc 48]; omega
  have hcg : 12 * c + 48 * (p % d) = g := Int.eq_of_mul_eq_mul_right (by omega) hcf
  rw [hP.eq, hx, ← hcg]
  omega
end partLaw3

section partS0
def stColumns : Stmt := match turnBody with
  | st :: _ => st
  | _ => .Pass default
local macro_rules | `(tactic| walk_at "eval ListComp") => `(tactic| (k_here; (rename Fr _ _ _ _ => lF'); (rename News _ _ _ _ => lN'); (with_unfolding_all refine' columns_ok ?k1 lF' ?k2 lN' ?k3 ?k4 ?k5 ?k6 ?k7 ?k8 ?k9 ?k10 ?k11 ?k12 ?k13 ?k14 ?k15 ?k16 ?k17 ?k18 ?k19 ?_; (case k1 => k_asm); (case k2 => k_asm); (case k3 => k_asm); (case k4 => assumption); (case k5 => assumption); (case k6 => assumption); (case k7 => assumption); (case k15 => assumption); (case k8 => assumption); (case k9 => assumption); (case k10 => assumption); (case k11 => assumption); (case k12 => assumption); (case k13 => assumption); (case k14 => assumption); (case k16 => assumption); (case k17 => assumption); (case k18 => assumption); (case k19 => omega)); intro D' c' z' h' tk' i' F' N' l1; (have l2' := l1); (try k_lt l2'); clear lF' lN'))
local macro_rules | `(tactic| k_all) => `(tactic| assumption)

theorem s0_ok {w : World} {p : Program} {loose : List Str} {mean : ExcName → Option Value} {mg mb : Str → Option Value} {news : List (Addr × Obj)}
    {dp un : Nat} {gd : Option (List Code)} {a : Addr} {cd : Value} {outer : List Env} {A₀ : Around} {base h₀ : Heap} {L : Addr} {m : Str → Option Value} {s : Shared} {E : Value → Shared → Prop} {Q : Flow → Shared → Prop}
    {od oc : Obj} {av bv d : Int} {td : Tok} {ll : Addr} {kl : Nat} {ys vs : List Value} {made : List (Addr × Obj)} {vc : Option Value}
    (B : Below A₀ base outer h₀) (F : Fr h₀ L s.heap m) (X : (hd.heap_39 w.params).In h₀) (N : News h₀ L s.heap ((L + 1 + 1 + 1 + 1, oc) :: news)) (T : Top p loose mean mg mb h₀)
    (hoff : ∀ p ∈ news, p.1 ≠ L + 1 + 1 + 1 + 1) (hc : oc.data = .cell vc)
    (hml : m "leads" = some (.ref ll)) (hnl : (ll, listOf ys.toArray kl) ∈ (L + 1 + 1 + 1 + 1, oc) :: news) (hnd : (L + 1 + 1 + 1, od) ∈ (L + 1 + 1 + 1 + 1, oc) :: news) (hd : od.data = .cell (some (.int d td)))
    (ha0 : 0 ≤ av) (ha3 : av < 3) (hb0 : 0 ≤ bv) (hb3 : bv < 3) (hdm : d ∈ sizesD) (hd1 : 1 ≤ d) (hd8 : d ≤ 8)
    (hT : Tri (LeadG w.params av bv) vs ys made) (hvs : vs.length = 10) (hmade : ∀ q ∈ made, q ∈ (L + 1 + 1 + 1 + 1, oc) :: news)
    (hdp : dp + 2 < recursionLimit) (hun : un + 100 < cLine)
    (hret : ∀ (D : Addr) (c : Nat) (zs : List Value) (oc' : Obj) (h' : Heap) (tk : Nat), IntsAre zs (colsOf av bv d) → oc'.data = .cell (some (.ref D)) → (∀ q ∈ (L + 1 + 1 + 1 + 1, oc) :: news, q.1 < D) → Fr h₀ L h' m → News h₀ L h' ((D, listOf zs.toArray c) :: (L + 1 + 1 + 1 + 1, oc') :: news) → Q .next { s with heap := h', toks := tk }) :
    wpAny (model lw.prog w) (ktrTop dp un gd "law" lawScope L a cd (cellsFrom (L + 1) lawScope.names []) outer) (exec stColumns (lawEnv L a cd)) Q E s := by
  dsimp only [stColumns, turnBody, lawEnv, lawScope, lawBody, lawDef, PySem.Challenge.pw_rs0159_01]
  k_steps
  exact hret _ _ _ _ _ _ (by assumption) (by assumption) (by assumption) (by assumption) (by assumption)
end partS0

section partS1
def stMargin : Stmt := match turnBody with
  | _ :: st :: _ => st
  | _ => .Pass default
local macro_rules | `(tactic| k_all) => `(tactic| assumption)

theorem s1_ok {w : World} {p : Program} {loose : List Str} {mean : ExcName → Option Value} {mg mb : Str → Option Value} {news : List (Addr × Obj)}
    {dp un : Nat} {gd : Option (List Code)} {a : Addr} {cd : Value} {outer : List Env} {A₀ : Around} {base h₀ : Heap} {L : Addr} {m : Str → Option Value} {s : Shared} {E : Value → Shared → Prop} {Q : Flow → Shared → Prop}
    {oa ob od om : Obj} {av bv d : Int} {ta tb td : Tok} {vm : Option Value}
    (B : Below A₀ base outer h₀) (F : Fr h₀ L s.heap m) (X : (hd.heap_39 w.params).In h₀) (N : News h₀ L s.heap ((L + 1 + 1 + 1 + 1 + 1, om) :: news)) (T : Top p loose mean mg mb h₀)
    (hoff : ∀ p ∈ news, p.1 ≠ L + 1 + 1 + 1 + 1 + 1) (hm : om.data = .cell vm)
    (hna : (L + 1, oa) ∈ news) (ha : oa.data = .cell (some (.int av ta))) (hnb : (L + 1 + 1, ob) ∈ news) (hb : ob.data = .cell (some (.int bv tb))) (hnd : (L + 1 + 1 + 1, od) ∈ news) (hd : od.data = .cell (some (.int d td)))
    (hd1 : 1 ≤ d) (hd8 : d ≤ 8)
    (hdp : dp + 2 < recursionLimit) (hun : un + 100 < cLine)
    (hret : ∀ (om' : Obj) (tm : Tok) (h' : Heap) (tk : Nat), om'.data = .cell (some (.int (av + d - Int.fmod av d + bv) tm)) → Fr h₀ L h' m → News h₀ L h' ((L + 1 + 1 + 1 + 1 + 1, om') :: news) → Q .next { s with heap := h', toks := tk }) :
    wpAny (model lw.prog w) (ktrTop dp un gd "law" lawScope L a cd (cellsFrom (L + 1) lawScope.names []) outer) (exec stMargin (lawEnv L a cd)) Q E s := by
  have N2 := N
  clear N
  replace N2 := news_sub (b := (L + 1 + 1 + 1 + 1 + 1, om) :: (L + 1, oa) :: (L + 1 + 1, ob) :: (L + 1 + 1 + 1, od) :: news) N2 (by
    intro q hq
    rcases List.mem_cons.mp hq with rfl | hq
    · exact List.mem_cons_self ..
    · rcases List.mem_cons.mp hq with rfl | hq
      · exact List.mem_cons_of_mem _ hna
      · rcases List.mem_cons.mp hq with rfl | hq
        · exact List.mem_cons_of_mem _ hnb
        · rcases List.mem_cons.mp hq with rfl | hq
          · exact List.mem_cons_of_mem _ hnd
          · exact List.mem_cons_of_mem _ hq)
  dsimp only [stMargin, turnBody, lawEnv, lawScope, lawBody, lawDef, PySem.Challenge.pw_rs0159_01]
  k_steps
  refine hret _ _ _ _ (by assumption) (by assumption) (news_sub (by assumption) fun q hq => ?_)
  rcases List.mem_cons.mp hq with rfl | hq
  · exact List.mem_cons_self ..
  · exact List.mem_cons_of_mem _ (List.mem_cons_of_mem _ (List.mem_cons_of_mem _ (List.mem_cons_of_mem _ hq)))
end partS1

section partS3
def stIf1 : Stmt := match turnBody with
  | _ :: _ :: st :: _ => st
  | _ => .Pass default
local macro_rules | `(tactic| walk_at "eval Name") => `(tactic| (k_here; (with_reducible show wpAny _ _ (eval (Expr.Name _ _) (compEnvC _ _ _ _)) _ _ _); (with_unfolding_all refine' lcn_local2 ?hn ?hm ?_ ?a ?b; (case hn => assumption); (case hm => assumption); (case a => rfl); (case b => rfl))))
local macro_rules | `(tactic| walk_at "eval ListComp") => `(tactic| (k_here; (with_reducible rename LcF _ => sp'); (rename Fr _ _ _ _ => lF'); (rename News _ _ _ _ => lN'); (with_unfolding_all refine' lc_evalF sp' lF' lN' ?hL ?hclos ?hcell ?hkind ?hnames ?hx ?h ?hs; (case hL => rfl); (case hclos => with_unfolding_all rfl); (case hcell => decide); (case hkind => rfl); (case hnames => decide); (case hx => rfl); (case hs => intro _; with_unfolding_all rfl)); clear sp'; (try k_fold)))
local macro_rules | `(tactic| walk_at "exec Assign cons ListComp") => `(tactic| (k_here; (with_reducible rename LcF _ => sp'); (rename Fr _ _ _ _ => lF'); (rename News _ _ _ _ => lN'); (with_unfolding_all refine' lc_assignF sp' lF' lN' ?hsw ?hL ?hclos ?hcell ?hkind ?hnames ?hx ?hy ?hp ?h ?hs; (case hsw => with_unfolding_all rfl); (case hL => rfl); (case hclos => with_unfolding_all rfl); (case hcell => decide); (case hkind => rfl); (case hnames => decide); (case hx => rfl); (case hy => rfl); (case hp => rfl); (case hs => intro _; with_unfolding_all rfl)); clear sp'; (try k_fold)))
local macro_rules | `(tactic| walk_at "pyIter ref") => `(tactic| (k_here; (with_reducible show wpAny _ _ (pyIter (Value.ref _)) (fun it s₂ => LcAt _ _ _ _ _ _ _ _ _ _ _ _ _ _ it s₂) _ _); first
  | ((with_unfolding_all refine' lc_rangeF (n := 10) ?hh ?hF ?hN ?hr ?hs ?hn ?hz ?helt ?hK; (case hr => assumption); (case hh => rfl); (case hF => k_asm); (case hN => k_asm); (case hs => decide +kernel); (case hn => decide +kernel); (case hz => decide); (case' helt => ((intro i' k' t' C' m' h' tk' E' hr' F' N' hn' hm'); (obtain ⟨hr1', hr2'⟩ := hr'); (show wpAny _ _ _ _ _ _); (try k_fold))); (case' hK => (intro v' D' c' z' h' tk' zi' F' N' l1'; (try dsimp only)))))
  | ((with_unfolding_all refine' lc_intsF ?hh ?hF ?hN ?hl ?hi ?hz ?helt ?hK; (case hh => rfl); (case hF => k_asm); (case hN => k_asm); (case hl => k_mem); (case hi => assumption); (case hz => omega); (case' helt => ((intro i' k' t' C' m' h' tk' E' hr' F' N' hn' hm'); (show wpAny _ _ _ _ _ _); (try k_fold))); (case' hK => (intro D' c' z' h' tk' zi' F' N' l1'; (try dsimp only)))))))
local macro_rules | `(tactic| walk_at "EltEnd") => `(tactic| (with_unfolding_all exact EltEnd.here (by assumption)))

local macro_rules | `(tactic| walk_at "compareOp NotEq ref ref") => `(tactic| (k_here; (with_reducible show wpAny _ _ (compareOp CmpOp.NotEq (Value.ref _) (Value.ref _)) _ _ _); (with_unfolding_all refine' ne_sameK (mine_list ?k1 ?k1m) ?k2 (mine_list ?k3 ?k3m) ?k4 ?k5 ?k6 ?_; (case k1 => k_asm); (case k1m => k_mem); (case k2 => assumption); (case k3 => k_asm); (case k3m => k_mem); (case k4 => assumption); (case k5 => first | assumption | rfl); (case k6 => (show _ + 64 < cLine; dsimp only; omega)))))

local macro_rules | `(tactic| walk_at "subscriptTail") => `(tactic| (k_here; (with_reducible show wpAny _ _ (subscriptTail _ _ (Value.ref _) (Value.int _ _)) _ _ _); (with_unfolding_all refine' item_M (mine_list ?k1 ?k1m) ?k2 ?k3 ?k4 ?_ ?k5; (case k1 => k_asm); (case k1m => k_mem); (case k2 => assumption); (case k3 => assumption); (case k4 => first | exact ⟨by assumption, by assumption⟩ | (with_reducible rename (∀ r ∈ _, 0 ≤ r ∧ r < (10 : Int)) => hq'; exact hq' _ (List.mem_of_getElem? (by assumption)))); (case k5 => with_unfolding_all rfl)); intro t'))


theorem s3_ok {w : World} {p : Program} {loose : List Str} {mean : ExcName → Option Value} {mg mb : Str → Option Value} {news : List (Addr × Obj)}
    {dp un : Nat} {gd : Option (List Code)} {a : Addr} {cd : Value} {outer : List Env} {A₀ : Around} {base h₀ : Heap} {L : Addr} {m : Str → Option Value} {s : Shared} {E : Value → Shared → Prop} {Q : Flow → Shared → Prop}
    {oc om od : Obj} {mv d : Int} {tm td : Tok} {lc : Addr} {kc : Nat} {zs : List Value} {cols : List Int}
    (B : Below A₀ base outer h₀) (F : Fr h₀ L s.heap m) (X : (hd.heap_39 w.params).In h₀) (N : News h₀ L s.heap news) (T : Top p loose mean mg mb h₀)
    (hnc : (L + 1 + 1 + 1 + 1, oc) ∈ news) (hc : oc.data = .cell (some (.ref lc))) (hnl : (lc, listOf zs.toArray kc) ∈ news) (hz : IntsAre zs cols)
    (hnm : (L + 1 + 1 + 1 + 1 + 1, om) ∈ news) (hm : om.data = .cell (some (.int mv tm))) (hnd : (L + 1 + 1 + 1, od) ∈ news) (hd : od.data = .cell (some (.int d td)))
    (hcols : cols = ((List.range 10).map Int.ofNat).map fun r => mv + r + d - Int.fmod r d) (hd1 : 1 ≤ d) (hd8 : d ≤ 8)
    (hdp : dp + 2 < recursionLimit) (hun : un + 100 < cLine)
    (hret : ∀ (h' : Heap) (tk : Nat), Fr h₀ L h' m → News h₀ L h' news → Q .next { s with heap := h', toks := tk }) :
    wpAny (model lw.prog w) (ktrTop dp un gd "law" lawScope L a cd (cellsFrom (L + 1) lawScope.names []) outer) (exec stIf1 (lawEnv L a cd)) Q E s := by
  have N2 := news_add (news_add (news_add (news_add N hnc) (List.mem_cons_of_mem _ hnl)) (List.mem_cons_of_mem _ (List.mem_cons_of_mem _ hnm))) (List.mem_cons_of_mem _ (List.mem_cons_of_mem _ (List.mem_cons_of_mem _ hnd)))
  clear N
  have sp := lcF fun r => mv + r + d - Int.fmod r d
  have hzl := IntsAre.length hz
  have hcl : cols.length = 10 := by rw [hcols]; simp
  dsimp only [stIf1, turnBody, lawEnv, lawScope, lawBody, lawDef, PySem.Challenge.pw_rs0159_01]
  k_steps
  exact hret _ _ (by assumption) (news_sub (by assumption) fun q hq => List.mem_cons_of_mem _ (List.mem_cons_of_mem _ (List.mem_cons_of_mem _ (List.mem_cons_of_mem _ (List.mem_cons_of_mem _ hq)))))
end partS3

section partS3m
local macro_rules | `(tactic| walk_at "no such key") => `(tactic| skip)
def stMarks : Stmt := match turnBody with
  | _ :: _ :: _ :: st :: _ => st
  | _ => .Pass default
local macro_rules | `(tactic| walk_at "eval Name") => `(tactic| (k_here; (with_reducible show wpAny _ _ (eval (Expr.Name _ _) (compEnvC _ _ _ _)) _ _ _); (with_unfolding_all refine' lcn_local2 ?hn ?hm ?_ ?a ?b; (case hn => assumption); (case hm => assumption); (case a => rfl); (case b => rfl))))
local macro_rules | `(tactic| walk_at "eval ListComp") => `(tactic| (k_here; (with_reducible rename LcF _ => sp'); (rename Fr _ _ _ _ => lF'); (rename News _ _ _ _ => lN'); (with_unfolding_all refine' lc_evalF sp' lF' lN' ?hL ?hclos ?hcell ?hkind ?hnames ?hx ?h ?hs; (case hL => rfl); (case hclos => with_unfolding_all rfl); (case hcell => decide); (case hkind => rfl); (case hnames => decide); (case hx => rfl); (case hs => intro _; with_unfolding_all rfl)); clear sp'; (try k_fold)))
local macro_rules | `(tactic| walk_at "exec Assign cons ListComp") => `(tactic| (k_here; (with_reducible rename LcF _ => sp'); (rename Fr _ _ _ _ => lF'); (rename News _ _ _ _ => lN'); (with_unfolding_all refine' lc_assignF sp' lF' lN' ?hsw ?hL ?hclos ?hcell ?hkind ?hnames ?hx ?hy ?hp ?h ?hs; (case hsw => with_unfolding_all rfl); (case hL => rfl); (case hclos => with_unfolding_all rfl); (case hcell => decide); (case hkind => rfl); (case hnames => decide); (case hx => rfl); (case hy => rfl); (case hp => rfl); (case hs => intro _; with_unfolding_all rfl)); clear sp'; (try k_fold)))
local macro_rules | `(tactic| walk_at "pyIter ref") => `(tactic| (k_here; (with_reducible show wpAny _ _ (pyIter (Value.ref _)) (fun it s₂ => LcAt _ _ _ _ _ _ _ _ _ _ _ _ _ _ it s₂) _ _); first
  | ((with_unfolding_all refine' lc_rangeF (n := 10) ?hh ?hF ?hN ?hr ?hs ?hn ?hz ?helt ?hK; (case hr => assumption); (case hh => rfl); (case hF => k_asm); (case hN => k_asm); (case hs => decide +kernel); (case hn => decide +kernel); (case hz => decide); (case' helt => ((intro i' k' t' C' m' h' tk' E' hr' F' N' hn' hm'); (obtain ⟨hr1', hr2'⟩ := hr'); (show wpAny _ _ _ _ _ _); (try k_fold))); (case' hK => (intro v' D' c' z' h' tk' zi' F' N' l1'; (try dsimp only)))))
  | ((with_unfolding_all refine' lc_intsF ?hh ?hF ?hN ?hl ?hi ?hz ?helt ?hK; (case hh => rfl); (case hF => k_asm); (case hN => k_asm); (case hl => k_mem); (case hi => assumption); (case hz => omega); (case' helt => ((intro i' k' t' C' m' h' tk' E' hr' F' N' hn' hm'); (show wpAny _ _ _ _ _ _); (try k_fold))); (case' hK => (intro D' c' z' h' tk' zi' F' N' l1'; (try dsimp only)))))))
local macro_rules | `(tactic| walk_at "EltEnd") => `(tactic| (with_unfolding_all exact EltEnd.here (by assumption)))

local macro_rules | `(tactic| walk_at "compareOp NotEq ref ref") => `(tactic| (k_here; (with_reducible show wpAny _ _ (compareOp CmpOp.NotEq (Value.ref _) (Value.ref _)) _ _ _); (with_unfolding_all refine' ne_sameK (mine_list ?k1 ?k1m) ?k2 (mine_list ?k3 ?k3m) ?k4 ?k5 ?k6 ?_; (case k1 => k_asm); (case k1m => k_mem); (case k2 => assumption); (case k3 => k_asm); (case k3m => k_mem); (case k4 => assumption); (case k5 => first | assumption | rfl); (case k6 => (show _ + 64 < cLine; dsimp only; omega)))))

local macro_rules | `(tactic| walk_at "subscriptTail") => `(tactic| (k_here; (with_reducible show wpAny _ _ (subscriptTail _ _ (Value.ref _) (Value.int _ _)) _ _ _); (with_unfolding_all refine' item_M (mine_list ?k1 ?k1m) ?k2 ?k3 ?k4 ?_ ?k5; (case k1 => k_asm); (case k1m => k_mem); (case k2 => assumption); (case k3 => assumption); (case k4 => first | exact ⟨by assumption, by assumption⟩ | (with_reducible rename (∀ r ∈ _, 0 ≤ r ∧ r < (10 : Int)) => hq'; exact hq' _ (List.mem_of_getElem? (by assumption)))); (case k5 => with_unfolding_all rfl)); intro t'))


theorem s3m_ok {w : World} {p : Program} {loose : List Str} {mean : ExcName → Option Value} {mg mb : Str → Option Value} {news : List (Addr × Obj)}
    {dp un : Nat} {gd : Option (List Code)} {a : Addr} {cd : Value} {outer : List Env} {A₀ : Around} {base h₀ : Heap} {L : Addr} {m : Str → Option Value} {s : Shared} {E : Value → Shared → Prop} {Q : Flow → Shared → Prop}
    {oc : Obj} {lc lr : Addr} {kc kr : Nat} {zs rs : List Value} {cols R : List Int}
    (B : Below A₀ base outer h₀) (F : Fr h₀ L s.heap m) (X : (hd.heap_39 w.params).In h₀) (N : News h₀ L s.heap news) (T : Top p loose mean mg mb h₀)
    (hnc : (L + 1 + 1 + 1 + 1, oc) ∈ news) (hc : oc.data = .cell (some (.ref lc))) (hnl : (lc, listOf zs.toArray kc) ∈ news) (hz : IntsAre zs cols)
    (hmr : m "runs" = some (.ref lr)) (hnr : (lr, listOf rs.toArray kr) ∈ news) (hr : IntsAre rs R)
    (hcl : cols.length = 10) (hR : ∀ r ∈ R, 0 ≤ r ∧ r < 10) (hRl : R.length ≤ 4)
    (hdp : dp + 2 < recursionLimit) (hun : un + 100 < cLine)
    (hret : ∀ (D : Addr) (c : Nat) (ys : List Value) (h' : Heap) (tk : Nat), IntsAre ys (R.map fun r => cols.getD r.toNat 0) → (∀ q ∈ news, q.1 < D) → Fr h₀ L h' (fun y => if y = "marks" then some (.ref D) else m y) → News h₀ L h' ((D, listOf ys.toArray c) :: news) → Q .next { s with heap := h', toks := tk }) :
    wpAny (model lw.prog w) (ktrTop dp un gd "law" lawScope L a cd (cellsFrom (L + 1) lawScope.names []) outer) (exec stMarks (lawEnv L a cd)) Q E s := by
  have F2 := fr_focus F hmr
  have N2 := news_add (news_add (news_add N hnc) (List.mem_cons_of_mem _ hnl)) (List.mem_cons_of_mem _ (List.mem_cons_of_mem _ hnr))
  clear N F
  have sp := lcF fun r => cols.getD r.toNat 0
  have hzl := IntsAre.length hz
  have hrl := IntsAre.length hr
  dsimp only [stMarks, turnBody, lawEnv, lawScope, lawBody, lawDef, PySem.Challenge.pw_rs0159_01]
  k_steps
  exact hret _ _ _ _ _ (by assumption) (fun q hq => (by assumption : ∀ q ∈ _, q.1 < _) q (List.mem_cons_of_mem _ (List.mem_cons_of_mem _ (List.mem_cons_of_mem _ hq)))) (fr_refocus (by assumption) hmr (by decide)) (news_sub (by assumption) fun q hq => by
    rcases List.mem_cons.mp hq with rfl | hq
    · exact List.mem_cons_self ..
    · exact List.mem_cons_of_mem _ (List.mem_cons_of_mem _ (List.mem_cons_of_mem _ (List.mem_cons_of_mem _ hq))))
end partS3m

section partS5
def stScaled : Stmt := match turnBody with
  | _ :: _ :: _ :: _ :: _ :: st :: _ => st
  | _ => .Pass default
local macro_rules | `(tactic| walk_at "eval Name") => `(tactic| (k_here; (with_reducible show wpAny _ _ (eval (Expr.Name _ _) (compEnvC _ _ _ _)) _ _ _); (with_unfolding_all refine' lcn_local2 ?hn ?hm ?_ ?a ?b; (case hn => assumption); (case hm => assumption); (case a => rfl); (case b => rfl))))
local macro_rules | `(tactic| walk_at "eval ListComp") => `(tactic| (k_here; (with_reducible rename LcF _ => sp'); (rename Fr _ _ _ _ => lF'); (rename News _ _ _ _ => lN'); (with_unfolding_all refine' lc_evalF sp' lF' lN' ?hL ?hclos ?hcell ?hkind ?hnames ?hx ?h ?hs; (case hL => rfl); (case hclos => with_unfolding_all rfl); (case hcell => decide); (case hkind => rfl); (case hnames => decide); (case hx => rfl); (case hs => intro _; with_unfolding_all rfl)); clear sp'; (try k_fold)))
local macro_rules | `(tactic| walk_at "exec Assign cons ListComp") => `(tactic| (k_here; (with_reducible rename LcF _ => sp'); (rename Fr _ _ _ _ => lF'); (rename News _ _ _ _ => lN'); (with_unfolding_all refine' lc_assignF sp' lF' lN' ?hsw ?hL ?hclos ?hcell ?hkind ?hnames ?hx ?hy ?hp ?h ?hs; (case hsw => with_unfolding_all rfl); (case hL => rfl); (case hclos => with_unfolding_all rfl); (case hcell => decide); (case hkind => rfl); (case hnames => decide); (case hx => rfl); (case hy => rfl); (case hp => rfl); (case hs => intro _; with_unfolding_all rfl)); clear sp'; (try k_fold)))
local macro_rules | `(tactic| walk_at "pyIter ref") => `(tactic| (k_here; (with_reducible show wpAny _ _ (pyIter (Value.ref _)) (fun it s₂ => LcAt _ _ _ _ _ _ _ _ _ _ _ _ _ _ it s₂) _ _); first
  | ((with_unfolding_all refine' lc_rangeF (n := 10) ?hh ?hF ?hN ?hr ?hs ?hn ?hz ?helt ?hK; (case hr => assumption); (case hh => rfl); (case hF => k_asm); (case hN => k_asm); (case hs => decide +kernel); (case hn => decide +kernel); (case hz => decide); (case' helt => ((intro i' k' t' C' m' h' tk' E' hr' F' N' hn' hm'); (obtain ⟨hr1', hr2'⟩ := hr'); (show wpAny _ _ _ _ _ _); (try k_fold))); (case' hK => (intro v' D' c' z' h' tk' zi' F' N' l1'; (try dsimp only)))))
  | ((with_unfolding_all refine' lc_intsF ?hh ?hF ?hN ?hl ?hi ?hz ?helt ?hK; (case hh => rfl); (case hF => k_asm); (case hN => k_asm); (case hl => k_mem); (case hi => assumption); (case hz => omega); (case' helt => ((intro i' k' t' C' m' h' tk' E' hr' F' N' hn' hm'); (show wpAny _ _ _ _ _ _); (try k_fold))); (case' hK => (intro D' c' z' h' tk' zi' F' N' l1'; (try dsimp only)))))))
local macro_rules | `(tactic| walk_at "EltEnd") => `(tactic| (with_unfolding_all exact EltEnd.here (by assumption)))

local macro_rules | `(tactic| walk_at "compareOp NotEq ref ref") => `(tactic| (k_here; (with_reducible show wpAny _ _ (compareOp CmpOp.NotEq (Value.ref _) (Value.ref _)) _ _ _); (with_unfolding_all refine' ne_sameK (mine_list ?k1 ?k1m) ?k2 (mine_list ?k3 ?k3m) ?k4 ?k5 ?k6 ?_; (case k1 => k_asm); (case k1m => k_mem); (case k2 => assumption); (case k3 => k_asm); (case k3m => k_mem); (case k4 => assumption); (case k5 => first | assumption | rfl); (case k6 => (show _ + 64 < cLine; dsimp only; omega)))))

local macro_rules | `(tactic| walk_at "subscriptTail") => `(tactic| (k_here; (with_reducible show wpAny _ _ (subscriptTail _ _ (Value.ref _) (Value.int _ _)) _ _ _); (with_unfolding_all refine' item_M (mine_list ?k1 ?k1m) ?k2 ?k3 ?k4 ?_ ?k5; (case k1 => k_asm); (case k1m => k_mem); (case k2 => assumption); (case k3 => assumption); (case k4 => first | exact ⟨by assumption, by assumption⟩ | (with_reducible rename (∀ r ∈ _, 0 ≤ r ∧ r < (10 : Int)) => hq'; exact hq' _ (List.mem_of_getElem? (by assumption)))); (case k5 => with_unfolding_all rfl)); intro t'))


theorem s5_ok {w : World} {p : Program} {loose : List Str} {mean : ExcName → Option Value} {mg mb : Str → Option Value} {news : List (Addr × Obj)}
    {dp un : Nat} {gd : Option (List Code)} {a : Addr} {cd : Value} {outer : List Env} {A₀ : Around} {base h₀ : Heap} {L : Addr} {m : Str → Option Value} {s : Shared} {E : Value → Shared → Prop} {Q : Flow → Shared → Prop}
    {lk : Addr} {kk : Nat} {ms : List Value} {M : List Int}
    (B : Below A₀ base outer h₀) (F : Fr h₀ L s.heap m) (X : (hd.heap_39 w.params).In h₀) (N : News h₀ L s.heap news) (T : Top p loose mean mg mb h₀)
    (hmk : m "marks" = some (.ref lk)) (hnk : (lk, listOf ms.toArray kk) ∈ news) (hk : IntsAre ms M) (hMl : M.length ≤ 4)
    (hdp : dp + 2 < recursionLimit) (hun : un + 100 < cLine)
    (hret : ∀ (D : Addr) (c : Nat) (ys : List Value) (h' : Heap) (tk : Nat), IntsAre ys (M.map fun r => 12 * r) → (∀ q ∈ news, q.1 < D) → Fr h₀ L h' (fun y => if y = "scaled" then some (.ref D) else m y) → News h₀ L h' ((D, listOf ys.toArray c) :: news) → Q .next { s with heap := h', toks := tk }) :
    wpAny (model lw.prog w) (ktrTop dp un gd "law" lawScope L a cd (cellsFrom (L + 1) lawScope.names []) outer) (exec stScaled (lawEnv L a cd)) Q E s := by
  have F2 := fr_focus F hmk
  have N2 := news_add N hnk
  clear N F
  have sp := lcF fun r => 12 * r
  have hkl := IntsAre.length hk
  dsimp only [stScaled, turnBody, lawEnv, lawScope, lawBody, lawDef, PySem.Challenge.pw_rs0159_01]
  k_steps
  exact hret _ _ _ _ _ (by assumption) (fun q hq => (by assumption : ∀ q ∈ _, q.1 < _) q (List.mem_cons_of_mem _ hq)) (fr_refocus (by assumption) hmk (by decide)) (news_sub (by assumption) fun q hq => by
    rcases List.mem_cons.mp hq with rfl | hq
    · exact List.mem_cons_self ..
    · exact List.mem_cons_of_mem _ (List.mem_cons_of_mem _ hq))
end partS5

section partS6
def stCoarse : Stmt := match turnBody with
  | _ :: _ :: _ :: _ :: _ :: _ :: st :: _ => st
  | _ => .Pass default
local macro_rules | `(tactic| walk_at "call ref") => `(tactic| (k_here; (with_reducible show wpAny _ _ (call (Value.ref _) [Value.ref _, Value.int _ _]) _ _ _); (with_unfolding_all refine' mg_pos ?k1 ?k2 ?k3 ?k4 ?k5 ?k6 ?k7 ?k8 ?k9 ?k10 ?k11 ?k12 ?k13 ?k14 ?k15 ?_; (case k1 => k_asm); (case k2 => k_asm); (case k3 => k_asm); (case k4 => k_asm); (case k5 => k_asm); (case k6 => rfl); (case k7 => assumption); (case k8 => assumption); (case k9 => assumption); (case k10 => assumption); (case k11 => omega); (case k12 => omega); (case k13 => omega); (case k14 => omega); (case k15 => assumption)); intro x' c' r1' r2' Z' t' h' tk' g1' g2' q' F' N'; (try dsimp only)))

theorem s6_ok {w : World} {p : Program} {loose : List Str} {mean : ExcName → Option Value} {mg mb : Str → Option Value} {news : List (Addr × Obj)}
    {dp un : Nat} {gd : Option (List Code)} {a : Addr} {cd : Value} {outer : List Env} {A₀ : Around} {base h₀ : Heap} {L : Addr} {m : Str → Option Value} {s : Shared} {E : Value → Shared → Prop} {Q : Flow → Shared → Prop}
    {od : Obj} {d : Int} {td : Tok} {lq : Addr} {kq : Nat} {ss : List Value} {S : List Int}
    (B : Below A₀ base outer h₀) (F : Fr h₀ L s.heap m) (X : (hd.heap_39 w.params).In h₀) (N : News h₀ L s.heap news) (T : Top p loose mean mg mb h₀)
    (hmq : m "scaled" = some (.ref lq)) (hnq : (lq, listOf ss.toArray kq) ∈ news) (hq : IntsAre ss S) (hnd : (L + 1 + 1 + 1, od) ∈ news) (hd : od.data = .cell (some (.int d td)))
    (hd1 : 1 ≤ d) (hd8 : d ≤ 8)
    (h0 : 0 < (S).length) (hl : (S).length < 64) (hb : ∀ x ∈ (S), -100000 ≤ x ∧ x ≤ 100000)
    (hdiv : ∀ x r1 r2, MG (S) x r1 r2 → ∃ c : Int, c * ((r2 : Int) - r1) = (12 * d : Int) * (2 * ((S).length : Int) - 4 * r1) ∧ c.natAbs < 2 ^ 40)
    (hdp : dp + 2 < recursionLimit) (hun : un + 100 < cLine)
    (hret : ∀ (x c : Int) (r1 r2 : Nat) (Z : UInt64) (t : Tok) (h' : Heap) (tk' : Nat), MG (S) x r1 r2 → c * ((r2 : Int) - r1) = (12 * d : Int) * (2 * ((S).length : Int) - 4 * r1) → IsQ Z (4 * x - 2 * (12 * d : Int) + c) →
      Fr h₀ L h' (fun y => if y = "coarse" then some (.float Z t) else m y) → News h₀ L h' news → Q .next { s with heap := h', toks := tk' }) :
    wpAny (model lw.prog w) (ktrTop dp un gd "law" lawScope L a cd (cellsFrom (L + 1) lawScope.names []) outer) (exec stCoarse (lawEnv L a cd)) Q E s := by
  have F2 := fr_focus F hmq
  have N2 := news_add (news_add N hnd) (List.mem_cons_of_mem _ hnq)
  clear N F
  dsimp only [stCoarse, turnBody, lawEnv, lawScope, lawBody, lawDef, PySem.Challenge.pw_rs0159_01]
  k_steps
  exact hret _ _ _ _ _ _ _ _ (by assumption) (by assumption) (by assumption) (fr_refocus (by assumption) hmq (by decide)) (news_sub (by assumption) fun q hq => List.mem_cons_of_mem _ (List.mem_cons_of_mem _ hq))
end partS6

section partS7
def stFine : Stmt := match turnBody with
  | _ :: _ :: _ :: _ :: _ :: _ :: _ :: st :: _ => st
  | _ => .Pass default
local macro_rules | `(tactic| walk_at "eval Name") => `(tactic| (k_here; (with_reducible show wpAny _ _ (eval (Expr.Name _ _) (compEnvC _ _ _ _)) _ _ _); (with_unfolding_all refine' lcn_local2 ?hn ?hm ?_ ?a ?b; (case hn => assumption); (case hm => assumption); (case a => rfl); (case b => rfl))))
local macro_rules | `(tactic| walk_at "eval ListComp") => `(tactic| (k_here; (with_reducible rename LcF _ => sp'); (rename Fr _ _ _ _ => lF'); (rename News _ _ _ _ => lN'); (with_unfolding_all refine' lc_evalF sp' lF' lN' ?hL ?hclos ?hcell ?hkind ?hnames ?hx ?h ?hs; (case hL => rfl); (case hclos => with_unfolding_all rfl); (case hcell => decide); (case hkind => rfl); (case hnames => decide); (case hx => rfl); (case hs => intro _; with_unfolding_all rfl)); clear sp'; (try k_fold)))
local macro_rules | `(tactic| walk_at "exec Assign cons ListComp") => `(tactic| (k_here; (with_reducible rename LcF _ => sp'); (rename Fr _ _ _ _ => lF'); (rename News _ _ _ _ => lN'); (with_unfolding_all refine' lc_assignF sp' lF' lN' ?hsw ?hL ?hclos ?hcell ?hkind ?hnames ?hx ?hy ?hp ?h ?hs; (case hsw => with_unfolding_all rfl); (case hL => rfl); (case hclos => with_unfolding_all rfl); (case hcell => decide); (case hkind => rfl); (case hnames => decide); (case hx => rfl); (case hy => rfl); (case hp => rfl); (case hs => intro _; with_unfolding_all rfl)); clear sp'; (try k_fold)))
local macro_rules | `(tactic| walk_at "pyIter ref") => `(tactic| (k_here; (with_reducible show wpAny _ _ (pyIter (Value.ref _)) (fun it s₂ => LcAt _ _ _ _ _ _ _ _ _ _ _ _ _ _ it s₂) _ _); first
  | ((with_unfolding_all refine' lc_rangeF (n := 10) ?hh ?hF ?hN ?hr ?hs ?hn ?hz ?helt ?hK; (case hr => assumption); (case hh => rfl); (case hF => k_asm); (case hN => k_asm); (case hs => decide +kernel); (case hn => decide +kernel); (case hz => decide); (case' helt => ((intro i' k' t' C' m' h' tk' E' hr' F' N' hn' hm'); (obtain ⟨hr1', hr2'⟩ := hr'); (show wpAny _ _ _ _ _ _); (try k_fold))); (case' hK => (intro v' D' c' z' h' tk' zi' F' N' l1'; (try dsimp only)))))
  | ((with_unfolding_all refine' lc_intsF ?hh ?hF ?hN ?hl ?hi ?hz ?helt ?hK; (case hh => rfl); (case hF => k_asm); (case hN => k_asm); (case hl => k_mem); (case hi => assumption); (case hz => omega); (case' helt => ((intro i' k' t' C' m' h' tk' E' hr' F' N' hn' hm'); (show wpAny _ _ _ _ _ _); (try k_fold))); (case' hK => (intro D' c' z' h' tk' zi' F' N' l1'; (try dsimp only)))))))
local macro_rules | `(tactic| walk_at "EltEnd") => `(tactic| (with_unfolding_all exact EltEnd.here (by assumption)))

local macro_rules | `(tactic| walk_at "compareOp NotEq ref ref") => `(tactic| (k_here; (with_reducible show wpAny _ _ (compareOp CmpOp.NotEq (Value.ref _) (Value.ref _)) _ _ _); (with_unfolding_all refine' ne_sameK (mine_list ?k1 ?k1m) ?k2 (mine_list ?k3 ?k3m) ?k4 ?k5 ?k6 ?_; (case k1 => k_asm); (case k1m => k_mem); (case k2 => assumption); (case k3 => k_asm); (case k3m => k_mem); (case k4 => assumption); (case k5 => first | assumption | rfl); (case k6 => (show _ + 64 < cLine; dsimp only; omega)))))

local macro_rules | `(tactic| walk_at "subscriptTail") => `(tactic| (k_here; (with_reducible show wpAny _ _ (subscriptTail _ _ (Value.ref _) (Value.int _ _)) _ _ _); (with_unfolding_all refine' item_M (mine_list ?k1 ?k1m) ?k2 ?k3 ?k4 ?_ ?k5; (case k1 => k_asm); (case k1m => k_mem); (case k2 => assumption); (case k3 => assumption); (case k4 => first | exact ⟨by assumption, by assumption⟩ | (with_reducible rename (∀ r ∈ _, 0 ≤ r ∧ r < (10 : Int)) => hq'; exact hq' _ (List.mem_of_getElem? (by assumption)))); (case k5 => with_unfolding_all rfl)); intro t'))


theorem s7_ok {w : World} {p : Program} {loose : List Str} {mean : ExcName → Option Value} {mg mb : Str → Option Value} {news : List (Addr × Obj)}
    {dp un : Nat} {gd : Option (List Code)} {a : Addr} {cd : Value} {outer : List Env} {A₀ : Around} {base h₀ : Heap} {L : Addr} {m : Str → Option Value} {s : Shared} {E : Value → Shared → Prop} {Q : Flow → Shared → Prop}
    {la : Addr} {ka : Nat} {as : List Value} {A : List Int}
    (B : Below A₀ base outer h₀) (F : Fr h₀ L s.heap m) (X : (hd.heap_39 w.params).In h₀) (N : News h₀ L s.heap news) (T : Top p loose mean mg mb h₀)
    (hma : m "alike" = some (.ref la)) (hna : (la, listOf as.toArray ka) ∈ news) (ha : IntsAre as A) (hal : A.length < 64)
    (h0 : 0 < (A.map fun r => 12 * r).length) (hl : (A.map fun r => 12 * r).length < 64) (hb : ∀ x ∈ (A.map fun r => 12 * r), -100000 ≤ x ∧ x ≤ 100000)
    (hdiv : ∀ x r1 r2, MG (A.map fun r => 12 * r) x r1 r2 → ∃ c : Int, c * ((r2 : Int) - r1) = (12 : Int) * (2 * ((A.map fun r => 12 * r).length : Int) - 4 * r1) ∧ c.natAbs < 2 ^ 40)
    (hdp : dp + 2 < recursionLimit) (hun : un + 100 < cLine)
    (hret : ∀ (x c : Int) (r1 r2 : Nat) (Z : UInt64) (t : Tok) (h' : Heap) (tk' : Nat), MG (A.map fun r => 12 * r) x r1 r2 → c * ((r2 : Int) - r1) = (12 : Int) * (2 * ((A.map fun r => 12 * r).length : Int) - 4 * r1) → IsQ Z (4 * x - 2 * (12 : Int) + c) →
      Fr h₀ L h' (fun y => if y = "fine" then some (.float Z t) else m y) → News h₀ L h' news → Q .next { s with heap := h', toks := tk' }) :
    wpAny (model lw.prog w) (ktrTop dp un gd "law" lawScope L a cd (cellsFrom (L + 1) lawScope.names []) outer) (exec stFine (lawEnv L a cd)) Q E s := by
  have F2 := fr_focus F hma
  have N2 := news_add N hna
  clear N F
  have sp := lcF fun r => 12 * r
  have hal2 := IntsAre.length ha
  dsimp only [stFine, turnBody, lawEnv, lawScope, lawBody, lawDef, PySem.Challenge.pw_rs0159_01]
  k_steps
  (with_unfolding_all show wpAny _ _ (call (Value.ref _) [Value.ref _] [(PySem.Str.ofString "interval", Value.int _ _)]) _ _ _)
  (with_unfolding_all refine' mg_kw ?k1 ?k2 ?k3 ?k4 ?k5 ?k6 ?k7 ?k8 ?k9 ?k10 ?k13 ?k14 ?k15 ?_; (case k1 => k_asm); (case k2 => k_asm); (case k3 => k_asm); (case k4 => k_asm); (case k5 => k_asm); (case k6 => rfl); (case k7 => assumption); (case k8 => assumption); (case k9 => assumption); (case k10 => assumption); (case k13 => omega); (case k14 => omega); (case k15 => assumption))
  intro x' c' r1' r2' Z' t' h' tk' g1' g2' q' F' N'
  try dsimp only
  k_steps
  exact hret _ _ _ _ _ _ _ _ (by assumption) (by assumption) (by assumption) (fr_refocus (by assumption) hma (by decide)) (news_sub (by assumption) fun q hq => List.mem_cons_of_mem _ (List.mem_cons_of_mem _ hq))
end partS7

section partS8
local macro_rules | `(tactic| walk_at "no such key") => `(tactic| skip)
def stIf2 : Stmt := match turnBody with
  | _ :: _ :: _ :: _ :: _ :: _ :: _ :: _ :: st :: _ => st
  | _ => .Pass default
local macro_rules | `(tactic| walk_at "eval Name") => `(tactic| (k_here; (with_reducible show wpAny _ _ (eval (Expr.Name _ _) (compEnvC _ _ _ _)) _ _ _); (with_unfolding_all refine' lcn_local2 ?hn ?hm ?_ ?a ?b; (case hn => assumption); (case hm => assumption); (case a => rfl); (case b => rfl))))
local macro_rules | `(tactic| walk_at "eval ListComp") => `(tactic| (k_here; (with_reducible rename LcF _ => sp'); (rename Fr _ _ _ _ => lF'); (rename News _ _ _ _ => lN'); (with_unfolding_all refine' lc_evalF sp' lF' lN' ?hL ?hclos ?hcell ?hkind ?hnames ?hx ?h ?hs; (case hL => rfl); (case hclos => with_unfolding_all rfl); (case hcell => decide); (case hkind => rfl); (case hnames => decide); (case hx => rfl); (case hs => intro _; with_unfolding_all rfl)); clear sp'; (try k_fold)))
local macro_rules | `(tactic| walk_at "exec Assign cons ListComp") => `(tactic| (k_here; (with_reducible rename LcF _ => sp'); (rename Fr _ _ _ _ => lF'); (rename News _ _ _ _ => lN'); (with_unfolding_all refine' lc_assignF sp' lF' lN' ?hsw ?hL ?hclos ?hcell ?hkind ?hnames ?hx ?hy ?hp ?h ?hs; (case hsw => with_unfolding_all rfl); (case hL => rfl); (case hclos => with_unfolding_all rfl); (case hcell => decide); (case hkind => rfl); (case hnames => decide); (case hx => rfl); (case hy => rfl); (case hp => rfl); (case hs => intro _; with_unfolding_all rfl)); clear sp'; (try k_fold)))
local macro_rules | `(tactic| walk_at "pyIter ref") => `(tactic| (k_here; (with_reducible show wpAny _ _ (pyIter (Value.ref _)) (fun it s₂ => LcAt _ _ _ _ _ _ _ _ _ _ _ _ _ _ it s₂) _ _); first
  | ((with_unfolding_all refine' lc_rangeF (n := 10) ?hh ?hF ?hN ?hr ?hs ?hn ?hz ?helt ?hK; (case hr => assumption); (case hh => rfl); (case hF => k_asm); (case hN => k_asm); (case hs => decide +kernel); (case hn => decide +kernel); (case hz => decide); (case' helt => ((intro i' k' t' C' m' h' tk' E' hr' F' N' hn' hm'); (obtain ⟨hr1', hr2'⟩ := hr'); (show wpAny _ _ _ _ _ _); (try k_fold))); (case' hK => (intro v' D' c' z' h' tk' zi' F' N' l1'; (try dsimp only)))))
  | ((with_unfolding_all refine' lc_intsF ?hh ?hF ?hN ?hl ?hi ?hz ?helt ?hK; (case hh => rfl); (case hF => k_asm); (case hN => k_asm); (case hl => k_mem); (case hi => assumption); (case hz => omega); (case' helt => ((intro i' k' t' C' m' h' tk' E' hr' F' N' hn' hm'); (show wpAny _ _ _ _ _ _); (try k_fold))); (case' hK => (intro D' c' z' h' tk' zi' F' N' l1'; (try dsimp only)))))))
local macro_rules | `(tactic| walk_at "EltEnd") => `(tactic| (with_unfolding_all exact EltEnd.here (by assumption)))

local macro_rules | `(tactic| walk_at "compareOp NotEq ref ref") => `(tactic| (k_here; (with_reducible show wpAny _ _ (compareOp CmpOp.NotEq (Value.ref _) (Value.ref _)) _ _ _); (with_unfolding_all refine' ne_sameK (mine_list ?k1 ?k1m) ?k2 (mine_list ?k3 ?k3m) ?k4 ?k5 ?k6 ?_; (case k1 => k_asm); (case k1m => k_mem); (case k2 => assumption); (case k3 => k_asm); (case k3m => k_mem); (case k4 => assumption); (case k5 => first | assumption | rfl); (case k6 => (show _ + 64 < cLine; dsimp only; omega)))))

local macro_rules | `(tactic| walk_at "subscriptTail") => `(tactic| (k_here; (with_reducible show wpAny _ _ (subscriptTail _ _ (Value.ref _) (Value.int _ _)) _ _ _); (with_unfolding_all refine' item_M (mine_list ?k1 ?k1m) ?k2 ?k3 ?k4 ?_ ?k5; (case k1 => k_asm); (case k1m => k_mem); (case k2 => assumption); (case k3 => assumption); (case k4 => first | exact ⟨by assumption, by assumption⟩ | (with_reducible rename (∀ r ∈ _, 0 ≤ r ∧ r < (10 : Int)) => hq'; exact hq' _ (List.mem_of_getElem? (by assumption)))); (case k5 => with_unfolding_all rfl)); intro t'))


theorem s8_ok {w : World} {p : Program} {loose : List Str} {mean : ExcName → Option Value} {mg mb : Str → Option Value} {news : List (Addr × Obj)}
    {dp un : Nat} {gd : Option (List Code)} {a : Addr} {cd : Value} {outer : List Env} {A₀ : Around} {base h₀ : Heap} {L : Addr} {m : Str → Option Value} {s : Shared} {E : Value → Shared → Prop} {Q : Flow → Shared → Prop}
    {lk lq : Addr} {kk kq : Nat} {ms ss : List Value} {M : List Int} {Zc Zf : UInt64} {tc tf : Tok}
    (B : Below A₀ base outer h₀) (F : Fr h₀ L s.heap m) (X : (hd.heap_39 w.params).In h₀) (N : News h₀ L s.heap news) (T : Top p loose mean mg mb h₀)
    (hmk : m "marks" = some (.ref lk)) (hnk : (lk, listOf ms.toArray kk) ∈ news) (hk : IntsAre ms M) (hMl : M.length ≤ 4)
    (hmq : m "scaled" = some (.ref lq)) (hnq : (lq, listOf ss.toArray kq) ∈ news) (hq : IntsAre ss (M.map fun r => 12 * r))
    (hmc : m "coarse" = some (.float Zc tc)) (hmf : m "fine" = some (.float Zf tf))
    (hdp : dp + 2 < recursionLimit) (hun : un + 100 < cLine)
    (hret : ∀ (h' : Heap) (tk : Nat), Fr h₀ L h' m → News h₀ L h' news → Q .next { s with heap := h', toks := tk }) :
    wpAny (model lw.prog w) (ktrTop dp un gd "law" lawScope L a cd (cellsFrom (L + 1) lawScope.names []) outer) (exec stIf2 (lawEnv L a cd)) Q E s := by
  have F2 := fr_fo4 F hmk hmq hmc hmf
  have N2 := news_add (news_add N hnq) (List.mem_cons_of_mem _ hnk)
  clear N F
  have sp := lcF fun r => 12 * r
  have hkl := IntsAre.length hk
  have hql := IntsAre.length hq
  dsimp only [stIf2, turnBody, lawEnv, lawScope, lawBody, lawDef, PySem.Challenge.pw_rs0159_01]
  k_steps
  exact hret _ _ (fr_un4 (by assumption) hmk hmq hmc hmf) (news_sub (by assumption) fun q hq => List.mem_cons_of_mem _ (List.mem_cons_of_mem _ (List.mem_cons_of_mem _ hq)))
end partS8

section partS9
def stPlace : Stmt := match turnBody with
  | _ :: _ :: _ :: _ :: _ :: _ :: _ :: _ :: _ :: st :: _ => st
  | _ => .Pass default
local macro_rules | `(tactic| k_all) => `(tactic| assumption)

theorem s9_ok {w : World} {p : Program} {loose : List Str} {mean : ExcName → Option Value} {mg mb : Str → Option Value} {news : List (Addr × Obj)}
    {dp un : Nat} {gd : Option (List Code)} {a : Addr} {cd : Value} {outer : List Env} {A₀ : Around} {base h₀ : Heap} {L : Addr} {m : Str → Option Value} {s : Shared} {E : Value → Shared → Prop} {Q : Flow → Shared → Prop}
    {op : Obj} {vp : Option Value} {Zf : UInt64} {tf : Tok}
    (B : Below A₀ base outer h₀) (F : Fr h₀ L s.heap m) (X : (hd.heap_39 w.params).In h₀) (N : News h₀ L s.heap ((L + 1 + 1 + 1 + 1 + 1 + 1, op) :: news)) (T : Top p loose mean mg mb h₀)
    (hoff : ∀ p ∈ news, p.1 ≠ L + 1 + 1 + 1 + 1 + 1 + 1) (hp : op.data = .cell vp)
    (hmf : m "fine" = some (.float Zf tf))
    (hdp : dp + 2 < recursionLimit) (hun : un + 100 < cLine)
    (hret : ∀ (op' : Obj) (tm : Tok) (h' : Heap) (tk : Nat), op'.data = .cell (some (.float (Float64.add Zf (Float64.ofInt 6)) tm)) → Fr h₀ L h' m → News h₀ L h' ((L + 1 + 1 + 1 + 1 + 1 + 1, op') :: news) → Q .next { s with heap := h', toks := tk }) :
    wpAny (model lw.prog w) (ktrTop dp un gd "law" lawScope L a cd (cellsFrom (L + 1) lawScope.names []) outer) (exec stPlace (lawEnv L a cd)) Q E s := by
  have F2 := fr_focus F hmf
  clear F
  dsimp only [stPlace, turnBody, lawEnv, lawScope, lawBody, lawDef, PySem.Challenge.pw_rs0159_01]
  k_steps
  exact hret _ _ _ _ (by assumption) (fr_unfocus (by assumption) hmf) (by assumption)
end partS9

section partS10
local macro_rules | `(tactic| walk_at "no such key") => `(tactic| skip)
def stIf3 : Stmt := match turnBody with
  | _ :: _ :: _ :: _ :: _ :: _ :: _ :: _ :: _ :: _ :: st :: _ => st
  | _ => .Pass default

theorem s10_ok {w : World} {p : Program} {loose : List Str} {mean : ExcName → Option Value} {mg mb : Str → Option Value} {news : List (Addr × Obj)}
    {dp un : Nat} {gd : Option (List Code)} {a : Addr} {cd : Value} {outer : List Env} {A₀ : Around} {base h₀ : Heap} {L : Addr} {m : Str → Option Value} {s : Shared} {E : Value → Shared → Prop} {Q : Flow → Shared → Prop}
    {op om od : Obj} {Zc Zp : UInt64} {tc tp : Tok} {mv d : Int} {tm td : Tok}
    (B : Below A₀ base outer h₀) (F : Fr h₀ L s.heap m) (X : (hd.heap_39 w.params).In h₀) (N : News h₀ L s.heap news) (T : Top p loose mean mg mb h₀)
    (hcmp : Float64.cmp Zc (Float64.add (Float64.add Zp (Float64.ofInt (12 * mv))) (Float64.ofInt (6 * d))) = some Ordering.eq)
    (hmc : m "coarse" = some (.float Zc tc))
    (hnp : (L + 1 + 1 + 1 + 1 + 1 + 1, op) ∈ news) (hp : op.data = .cell (some (.float Zp tp)))
    (hnm : (L + 1 + 1 + 1 + 1 + 1, om) ∈ news) (hm : om.data = .cell (some (.int mv tm))) (hnd : (L + 1 + 1 + 1, od) ∈ news) (hd : od.data = .cell (some (.int d td)))
    (hd1 : 1 ≤ d) (hd8 : d ≤ 8) (hm0 : 0 ≤ mv) (hm1 : mv < 100)
    (hdp : dp + 2 < recursionLimit) (hun : un + 100 < cLine)
    (hret : ∀ (h' : Heap) (tk : Nat), Fr h₀ L h' m → News h₀ L h' news → Q .next { s with heap := h', toks := tk }) :
    wpAny (model lw.prog w) (ktrTop dp un gd "law" lawScope L a cd (cellsFrom (L + 1) lawScope.names []) outer) (exec stIf3 (lawEnv L a cd)) Q E s := by
  have F2 := fr_focus F hmc
  have N2 := news_add (news_add (news_add N hnp) (List.mem_cons_of_mem _ hnm)) (List.mem_cons_of_mem _ (List.mem_cons_of_mem _ hnd))
  clear N F
  dsimp only [stIf3, turnBody, lawEnv, lawScope, lawBody, lawDef, PySem.Challenge.pw_rs0159_01]
  k_steps
  all_goals first
    | (exfalso
       rename (_ = true) => h9
       rw [hcmp] at h9
       exact absurd h9 (by decide))
    | exact hret _ _ (fr_unfocus (by assumption) hmc) (news_sub (by assumption) fun q hq => List.mem_cons_of_mem _ (List.mem_cons_of_mem _ (List.mem_cons_of_mem _ hq)))
end partS10

section partMh
local macro_rules | `(tactic| walk_at "no such key") => `(tactic| skip)
section
local macro_rules | `(tactic| cell_enter) => `(tactic| (refine' code_def ?k1 ?k2 ?k3 ?k4 ?k5 ?kA ?kF ?kK ?k6 ?k7 ?k8 ?k9 ?kB ?_ ?c2 ?c3 ?c4 ?c5; (case kA => exact rfl); (case kF => exact rfl); (case kK => assumption); (case k1 => k_asm); (case k2 => k_asm); (case k3 => k_asm); (case k4 => k_asm); (case k5 => k_asm); (case k6 => k_is); (case k7 => k_is); (case k8 => ktr_room); (case k9 => first | exact BindsTo.of_eq rfl | exact binds_K (by k_in) rfl (by k_is) rfl rfl rfl); (case c5 => decide); (case kB => exact locs rfl); (case c2 => exact rfl); (case c3 => exact rfl); (case c4 => exact rfl); k_whole; intro g' L' h' FG' F' N' B' X' T'; (try dsimp only); (try k_lift B'); (try k_fold)))
local macro_rules | `(tactic| walk_at "call builtin:sorted") => `(tactic| (k_here; (with_unfolding_all refine' kso_sorted ?k1 ?k2 ?k3 ?k4 ?k5 ?_; (case k1 => k_asm); (case k2 => k_asm); (case k3 => exact mine_list (by k_asm) (by k_mem)); (case k4 => assumption); (case k5 => assumption)); intro D' v' n' c' h' F' N' l1 i' e' p' o' b'; clear b'; (try k_lt l1); (try k_sweep)))

theorem mh_ok {w : World} {p : Program} {loose : List Str} {mean : ExcName → Option Value} {mg mb : Str → Option Value} {news : List (Addr × Obj)}
    {dp un : Nat} {gd : Option (List Code)} {a : Addr} {cd : Value} {outer : List Env} {A₀ : Around} {base h₀ : Heap} {L : Addr} {m : Str → Option Value} {s : Shared} {E : Value → Shared → Prop} {Q : Value → Shared → Prop} {cn : Str} {cs : Scope} {cl : List (Str × Addr)}
    {D : Addr} {vs : List Value} {ns : List Int} {k : Nat}
    (B : Below A₀ base outer h₀) (F : Fr h₀ L s.heap m) (X : (hd.heap_39 w.params).In h₀) (N : News h₀ L s.heap ((D, listOf vs.toArray k) :: news)) (T : Top p loose mean mg mb h₀) (hk : cs.kind = .function)
    (hi : IntsAre vs ns) (h0 : 0 < ns.length) (hl : ns.length < 64)
    (hdp : dp + 1 < recursionLimit) (hun : un + 8 < cLine)
    (hret : ∀ (n' : List Int) (t : Tok) (h' : Heap) (tk' : Nat), n'.Perm ns → n'.Pairwise (· ≤ ·) → Fr h₀ L h' m → News h₀ L h' ((D, listOf vs.toArray k) :: news) → Q (.int (mid n') t) { s with heap := h', toks := tk' }) :
    wpAny (model lw.prog w) (ktrTop dp un gd cn cs L a cd cl outer) (call (.ref 69) [.ref D]) Q E s := by
  refine wpAny_call ?_
  k_dflt cell_enter
  k_steps
  all_goals ((rename List.Perm _ _ => p9); (have hl9 := p9.length_eq))
  all_goals first
    | (exfalso
       omega)
    | (refine hret _ _ _ _ (by assumption) (by assumption) (by assumption) ?_
       exact news_sub (by assumption) fun q hq => List.mem_cons_of_mem _ hq)
end
end partMh

section partS11
def stFront : Stmt := match turnBody with
  | _ :: _ :: _ :: _ :: _ :: _ :: _ :: _ :: _ :: _ :: _ :: st :: _ => st
  | _ => .Pass default

theorem s11_ok {w : World} {p : Program} {loose : List Str} {mean : ExcName → Option Value} {mg mb : Str → Option Value} {news : List (Addr × Obj)}
    {dp un : Nat} {gd : Option (List Code)} {a : Addr} {cd : Value} {outer : List Env} {A₀ : Around} {base h₀ : Heap} {L : Addr} {m : Str → Option Value} {s : Shared} {E : Value → Shared → Prop} {Q : Flow → Shared → Prop}
    {om od : Obj} {mv d : Int} {tm td : Tok} {lk : Addr} {kk : Nat} {ms : List Value} {M : List Int}
    (B : Below A₀ base outer h₀) (F : Fr h₀ L s.heap m) (X : (hd.heap_39 w.params).In h₀) (N : News h₀ L s.heap news) (T : Top p loose mean mg mb h₀)
    (hmk : m "marks" = some (.ref lk)) (hnk : (lk, listOf ms.toArray kk) ∈ news) (hk : IntsAre ms M) (hM0 : 0 < M.length) (hMl : M.length ≤ 4)
    (hnm : (L + 1 + 1 + 1 + 1 + 1, om) ∈ news) (hm : om.data = .cell (some (.int mv tm))) (hnd : (L + 1 + 1 + 1, od) ∈ news) (hd : od.data = .cell (some (.int d td)))
    (hdp : dp + 2 < recursionLimit) (hun : un + 100 < cLine)
    (hret : ∀ (n' : List Int) (t : Tok) (h' : Heap) (tk : Nat), n'.Perm M → n'.Pairwise (· ≤ ·) → Fr h₀ L h' (fun y => if y = "front" then some (.int (12 * (mid n' - mv - d)) t) else m y) → News h₀ L h' news → Q .next { s with heap := h', toks := tk }) :
    wpAny (model lw.prog w) (ktrTop dp un gd "law" lawScope L a cd (cellsFrom (L + 1) lawScope.names []) outer) (exec stFront (lawEnv L a cd)) Q E s := by
  have F2 := fr_focus F hmk
  have N2 := news_add (news_add (news_add N hnm) (List.mem_cons_of_mem _ hnd)) (List.mem_cons_of_mem _ (List.mem_cons_of_mem _ hnk))
  clear N F
  have hkl := IntsAre.length hk
  dsimp only [stFront, turnBody, lawEnv, lawScope, lawBody, lawDef, PySem.Challenge.pw_rs0159_01]
  k_steps
  (with_unfolding_all refine' mh_ok ?k1 ?k2 ?k3 ?k4 ?k5 ?k6 ?k7 ?k8 ?k9 ?k10 ?k11 ?_)
  (case k1 => k_asm); (case k2 => k_asm); (case k3 => k_asm); (case k4 => k_asm); (case k5 => k_asm); (case k6 => rfl); (case k7 => assumption); (case k8 => assumption); (case k9 => omega); (case k10 => omega); (case k11 => omega)
  intro n' t' h' tk' p' o' F' N'
  (try dsimp only)
  k_steps
  all_goals first
    | exact hret _ _ _ _ (by assumption) (by assumption) (fr_refocus (by assumption) hmk (by decide)) (news_sub (by assumption) fun q hq => List.mem_cons_of_mem _ (List.mem_cons_of_mem _ (List.mem_cons_of_mem _ hq)))
end partS11

section partS12
local macro_rules | `(tactic| walk_at "no such key") => `(tactic| skip)
def stIf4 : Stmt := match turnBody with
  | _ :: _ :: _ :: _ :: _ :: _ :: _ :: _ :: _ :: _ :: _ :: _ :: st :: _ => st
  | _ => .Pass default

theorem s12_ok {w : World} {p : Program} {loose : List Str} {mean : ExcName → Option Value} {mg mb : Str → Option Value} {news : List (Addr × Obj)}
    {dp un : Nat} {gd : Option (List Code)} {a : Addr} {cd : Value} {outer : List Env} {A₀ : Around} {base h₀ : Heap} {L : Addr} {m : Str → Option Value} {s : Shared} {E : Value → Shared → Prop} {Q : Flow → Shared → Prop}
    {op od : Obj} {Zp : UInt64} {tp : Tok} {fv d : Int} {tf td : Tok}
    (B : Below A₀ base outer h₀) (F : Fr h₀ L s.heap m) (X : (hd.heap_39 w.params).In h₀) (N : News h₀ L s.heap news) (T : Top p loose mean mg mb h₀)
    (hlo : (Float64.cmpInt Zp fv == some Ordering.lt) = false) (hhi : (Float64.cmpInt Zp (fv + 12 * d) == some Ordering.gt || Float64.cmpInt Zp (fv + 12 * d) == some Ordering.eq) = false)
    (hmf : m "front" = some (.int fv tf))
    (hnp : (L + 1 + 1 + 1 + 1 + 1 + 1, op) ∈ news) (hp : op.data = .cell (some (.float Zp tp)))
    (hnd : (L + 1 + 1 + 1, od) ∈ news) (hd : od.data = .cell (some (.int d td)))
    (hd1 : 1 ≤ d) (hd8 : d ≤ 8) (hf0 : -1000 ≤ fv) (hf1 : fv < 1000)
    (hdp : dp + 2 < recursionLimit) (hun : un + 100 < cLine)
    (hret : ∀ (h' : Heap) (tk : Nat), Fr h₀ L h' m → News h₀ L h' news → Q .next { s with heap := h', toks := tk }) :
    wpAny (model lw.prog w) (ktrTop dp un gd "law" lawScope L a cd (cellsFrom (L + 1) lawScope.names []) outer) (exec stIf4 (lawEnv L a cd)) Q E s := by
  have F2 := fr_focus F hmf
  have N2 := news_add (news_add N hnp) (List.mem_cons_of_mem _ hnd)
  clear N F
  dsimp only [stIf4, turnBody, lawEnv, lawScope, lawBody, lawDef, PySem.Challenge.pw_rs0159_01]
  k_steps
  all_goals first
    | (exfalso
       rename (_ = true) => h9
       first | (rw [hlo] at h9; exact absurd h9 (by decide)) | (rw [hhi] at h9; exact absurd h9 (by decide)))
    | exact hret _ _ (fr_unfocus (by assumption) hmf) (news_sub (by assumption) fun q hq => List.mem_cons_of_mem _ (List.mem_cons_of_mem _ hq))
end partS12

section partSm
open PySem.Flt
def WQ (d : WData) (q : Int) : Prop := (∃ k, d = .int k ∧ q = 4 * k) ∨ (∃ Z, d = .float Z ∧ IsQ Z q)
def WQs : List WData → List Int → Prop
  | [], [] => True
  | d :: ds, q :: qs => WQ d q ∧ (-1000000 ≤ q ∧ q ≤ 1000000) ∧ WQs ds qs
  | _, _ => False
theorem nqs_wqs : ∀ {vs : List Value} {qs : List Int}, NQs vs qs → (∀ q ∈ qs, -1000000 ≤ q ∧ q ≤ 1000000) → ∃ ds, WQs ds qs ∧ ds.length = vs.length ∧ ∀ (i : Nat) (v : Value), vs[i]? = some v → ∃ d, ds[i]? = some d ∧ NumIs v d
  | [], [], _, _ => ⟨[], trivial, rfl, fun i v h => by simp at h⟩
  | v :: vs, q :: qs, h, hb => by
    obtain ⟨h1, h2⟩ := h
    obtain ⟨ds, e1, e2, e3⟩ := nqs_wqs h2 fun q hq => hb q (List.mem_cons_of_mem _ hq)
    rcases h1 with ⟨k, t, rfl, hq⟩ | ⟨Z, t, rfl, hq⟩
    · refine ⟨.int k :: ds, ⟨.inl ⟨k, rfl, hq⟩, hb q (List.mem_cons_self ..), e1⟩, by simp [e2], fun i v hv => ?_⟩
      cases i with
      | zero => cases hv; exact ⟨_, rfl, .int k t⟩
      | succ i => exact e3 i v hv
    · refine ⟨.float Z :: ds, ⟨.inr ⟨Z, rfl, hq⟩, hb q (List.mem_cons_self ..), e1⟩, by simp [e2], fun i v hv => ?_⟩
      cases i with
      | zero => cases hv; exact ⟨_, rfl, .float Z t⟩
      | succ i => exact e3 i v hv
  | [], _ :: _, h, _ => h.elim
  | _ :: _, [], h, _ => h.elim
theorem settled_q {t c : UInt64} {a : Int} (ht : IsQ t a) (hc : IsQ c 0) (ha : a.natAbs < 2 ^ 53) : IsQ (Num.settled t c) a := by
  unfold Num.settled
  split
  · have := isq_add ht hc (by simpa using ha)
    simpa using this
  · exact ht
theorem fits_long {i : Int} (h : i.natAbs < 2 ^ 60) : Num.fitsLong i = true := by
  unfold Num.fitsLong
  exact Bool.and_eq_true_iff.mpr ⟨decide_eq_true (by omega), decide_eq_true (by omega)⟩
theorem sumFloats_q : ∀ (ds : List WData) (qs : List Int) (t c : UInt64) (a : Int), WQs ds qs → IsQ t a → IsQ c 0 → a.natAbs + 1000000 * ds.length < 2 ^ 40 → ∃ Z, Num.sumFloats t c ds = some (.float Z) ∧ IsQ Z (a + qs.sum)
  | [], [], t, c, a, _, ht, hc, hb => ⟨_, rfl, by simpa using settled_q ht hc (by omega)⟩
  | d :: ds, q :: qs, t, c, a, h, ht, hc, hb => by
    obtain ⟨h1, hq, h2⟩ := h
    simp only [List.length_cons] at hb
    have key : ∀ t' c', IsQ t' (a + q) → IsQ c' 0 → ∃ Z, Num.sumFloats t' c' ds = some (.float Z) ∧ IsQ Z (a + (q :: qs).sum) := fun t' c' ht' hc' => by
      obtain ⟨Z, e1, e2⟩ := sumFloats_q ds qs t' c' (a + q) h2 ht' hc' (by omega)
      exact ⟨Z, e1, by rw [List.sum_cons, ← Int.add_assoc]; exact e2⟩
    rcases h1 with ⟨k, rfl, rfl⟩ | ⟨x, rfl, hx⟩
    · show ∃ Z, (if Num.fitsLong k = true then _ else _) = _ ∧ _
      rw [if_pos (fits_long (by omega))]
      exact key _ _ (isq_add ht (isq_ofInt (by omega)) (by omega)) hc
    · show ∃ Z, Num.sumFloats (Float64.add t x) (Float64.add c _) ds = _ ∧ _
      have hs : IsQ (Float64.add t x) (a + q) := isq_add ht hx (by omega)
      refine key _ _ hs ?_
      have hl : ∀ l, IsQ l 0 → IsQ (Float64.add c l) 0 := fun l hl => by simpa using isq_add hc hl (by decide)
      refine hl _ ?_
      split
      · have h3 := isq_add (isq_sub hx hs (by omega)) ht (by omega)
        have e : q - (a + q) + a = 0 := by omega
        rwa [e] at h3
      · have h3 := isq_add (isq_sub ht hs (by omega)) hx (by omega)
        have e : a - (a + q) + q = 0 := by omega
        rwa [e] at h3
  | [], _ :: _, _, _, _, h, _, _, _ => h.elim
  | _ :: _, [], _, _, _, h, _, _, _ => h.elim
theorem isq_zero0 : IsQ 0 0 := (show Float64.zero false = 0 from by decide) ▸ isq_zero false
theorem sumInts_q : ∀ (ds : List WData) (qs : List Int) (a : Int), WQs ds qs → (4 * a).natAbs + 1000000 * ds.length < 2 ^ 40 → ∃ r, Num.sumInts a ds = some r ∧ WQ r (4 * a + qs.sum)
  | [], [], a, _, _ => ⟨_, rfl, .inl ⟨a, rfl, by simp⟩⟩
  | d :: ds, q :: qs, a, h, hb => by
    obtain ⟨h1, hq, h2⟩ := h
    simp only [List.length_cons] at hb
    rcases h1 with ⟨k, rfl, rfl⟩ | ⟨x, rfl, hx⟩
    · obtain ⟨r, e1, e2⟩ := sumInts_q ds qs (a + k) h2 (by omega)
      refine ⟨r, ?_, ?_⟩
      · show (if (Num.fitsLong k && Num.fitsLong (a + k)) = true then _ else _) = _
        rw [if_pos (Bool.and_eq_true_iff.mpr ⟨fits_long (by omega), fits_long (by omega)⟩)]
        exact e1
      · rw [List.sum_cons, ← Int.add_assoc, show 4 * a + 4 * k = 4 * (a + k) from by omega]; exact e2
    · obtain ⟨Z, e1, e2⟩ := sumFloats_q ds qs (Float64.add (Float64.ofInt a) x) 0 (4 * a + q) h2 (isq_add (isq_ofInt (by omega)) hx (by omega)) isq_zero0 (by omega)
      exact ⟨.float Z, e1, .inr ⟨Z, rfl, by rw [List.sum_cons, ← Int.add_assoc]; exact e2⟩⟩
  | [], _ :: _, _, h, _ => h.elim
  | _ :: _, [], _, h, _ => h.elim
section
variable {prog : Program} {w : World} {A : Around} {E : Value → Shared → Prop} {s : Shared} {Q : Value → Shared → Prop} {h₀ : Heap} {L l : Addr} {m : Str → Option Value} {news : List (Addr × Obj)} {vs : List Value} {qs : List Int}
theorem sum_nqs (hh : A.handled = none) (F : Fr h₀ L s.heap m) (N : News h₀ L s.heap news) (hl : s.heap.IsList l vs.toArray) (hf : NQs vs qs) (hb : ∀ q ∈ qs, -1000000 ≤ q ∧ q ≤ 1000000) (hn : vs.length ≤ 1000)
    (k : ∀ h' tk v, NQ v qs.sum → Fr h₀ L h' m → News h₀ L h' news → Q v { s with heap := h', toks := tk }) :
    wpAny (model prog w) A (call (.builtin "sum") [.ref l]) Q E s := by
  obtain ⟨ds, hw, hlen, hat⟩ := nqs_wqs hf hb
  obtain ⟨r, hr, hq⟩ := sumInts_q ds qs 0 hw (by rw [hlen]; omega)
  have hq : WQ r qs.sum := by simpa using hq
  refine call_sum_walkF hr (iter_list_ hl fun s₂ e st hfp hlI => ?_)
  subst e
  have W := (Walks.list (prog := prog) (w := w) (A := A.in1) hh _ l hlI vs.toArray).toS
  have hlen' : vs.toArray.size = ds.length := by simpa using hlen.symm
  rw [hlen'] at W
  refine ⟨_, _, _, _, _, _, rfl, W, st, hfp, fun i v hP => hat i v (by simpa using hP), fun s' v hv hm => ?_⟩
  obtain ⟨hp, g, d, tk, os⟩ := s'
  have kp := Flt.kept_iter hm.heap
  have hv' : NQ v qs.sum := by
    rcases hq with ⟨k, rfl, e⟩ | ⟨Z, rfl, e⟩
    · cases hv; exact .inl ⟨k, _, rfl, e⟩
    · cases hv; exact .inr ⟨Z, _, rfl, e⟩
  have := k hp tk v hv' (F.grownK kp) (N.grown kp)
  have e1 : g = s.gens := hm.gens
  have e2 : d = s.drawn := hm.drawn
  have e3 : os = s.os := hm.os
  subst e1 e2 e3
  exact this
end
end partSm

section partS14
local macro_rules | `(tactic| walk_at "no such key") => `(tactic| skip)
def stIf5 : Stmt := match turnBody with
  | _ :: _ :: _ :: _ :: _ :: _ :: _ :: _ :: _ :: _ :: _ :: _ :: _ :: _ :: st :: _ => st
  | _ => .Pass default

local macro_rules | `(tactic| walk_at "call builtin:sum") => `(tactic| (k_here; (with_reducible show wpAny _ _ (call (Value.builtin "sum") [Value.ref _]) _ _ _); (with_unfolding_all refine' sum_nqs ?k0 ?k1 ?k2 (mine_list ?k3 ?k3m) ?k4 ?k5 ?k6 ?_; (case k0 => with_unfolding_all rfl); (case k1 => k_asm); (case k2 => k_asm); (case k3 => k_asm); (case k3m => k_mem); (case k4 => assumption); (case k5 => assumption); (case k6 => omega)); intro h' tk' v' q' F' N'; (rcases q' with ⟨z', t', he', hq'⟩ | ⟨z', t', he', hq'⟩ <;> subst he'); (try dsimp only)))
theorem s14_ok {w : World} {p : Program} {loose : List Str} {mean : ExcName → Option Value} {mg mb : Str → Option Value} {news : List (Addr × Obj)}
    {dp un : Nat} {gd : Option (List Code)} {a : Addr} {cd : Value} {outer : List Env} {A₀ : Around} {base h₀ : Heap} {L : Addr} {m : Str → Option Value} {s : Shared} {E : Value → Shared → Prop} {Q : Flow → Shared → Prop}
    {od : Obj} {d nv : Int} {td tn : Tok} {lf : Addr} {kf : Nat} {fs : List Value} {qs : List Int}
    (B : Below A₀ base outer h₀) (F : Fr h₀ L s.heap m) (X : (hd.heap_39 w.params).In h₀) (N : News h₀ L s.heap news) (T : Top p loose mean mg mb h₀)
    (hmf : m "filled" = some (.ref lf)) (hnf : (lf, listOf fs.toArray kf) ∈ news) (hf : NQs fs qs) (hfb : ∀ q ∈ qs, -1000000 ≤ q ∧ q ≤ 1000000) (hfl : fs.length ≤ 4)
    (hnd : (L + 1 + 1 + 1, od) ∈ news) (hd : od.data = .cell (some (.int d td))) (hmn : m "n" = some (.int nv tn))
    (hd1 : 1 ≤ d) (hd8 : d ≤ 8) (hn1 : 1 ≤ nv) (hn4 : nv ≤ 4)
    (hsum : qs.sum = 4 * (6 * d * nv))
    (hdp : dp + 2 < recursionLimit) (hun : un + 100 < cLine)
    (hret : ∀ (h' : Heap) (tk : Nat), Fr h₀ L h' m → News h₀ L h' news → Q .next { s with heap := h', toks := tk }) :
    wpAny (model lw.prog w) (ktrTop dp un gd "law" lawScope L a cd (cellsFrom (L + 1) lawScope.names []) outer) (exec stIf5 (lawEnv L a cd)) Q E s := by
  have F2 := fr_fo2 F hmf hmn
  have N2 := news_add (news_add N hnd) (List.mem_cons_of_mem _ hnf)
  clear N F
  dsimp only [stIf5, turnBody, lawEnv, lawScope, lawBody, lawDef, PySem.Challenge.pw_rs0159_01]
  k_steps
  all_goals first
    | exact hret _ _ (fr_un2 (by assumption) hmf hmn) (news_sub (by assumption) fun q hq => List.mem_cons_of_mem _ (List.mem_cons_of_mem _ hq))
    | (exfalso
       rename List.sum qs = _ => h9
       omega)
    | (exfalso
       rename IsQ _ _ => h8
       rename (_ = true) => h9
       rw [hsum] at h8
       rw [isq_cmpInt h8, Int.compare_eq_eq.mpr rfl] at h9
       exact absurd h9 (by decide))
end partS14

section partS15
def stIf6 : Stmt := match turnBody with
  | _ :: _ :: _ :: _ :: _ :: _ :: _ :: _ :: _ :: _ :: _ :: _ :: _ :: _ :: _ :: st :: _ => st
  | _ => .Pass default

theorem s15_ok {w : World} {p : Program} {loose : List Str} {mean : ExcName → Option Value} {mg mb : Str → Option Value} {news : List (Addr × Obj)}
    {dp un : Nat} {gd : Option (List Code)} {a : Addr} {cd : Value} {outer : List Env} {A₀ : Around} {base h₀ : Heap} {L : Addr} {m : Str → Option Value} {s : Shared} {E : Value → Shared → Prop} {Q : Flow → Shared → Prop}
    {nv : Int} {tn : Tok} {la : Addr} {ka : Nat} {as : List Value} {A : List Int} {Zf : UInt64} {tf : Tok}
    (B : Below A₀ base outer h₀) (F : Fr h₀ L s.heap m) (X : (hd.heap_39 w.params).In h₀) (N : News h₀ L s.heap news) (T : Top p loose mean mg mb h₀)
    (hma : m "alike" = some (.ref la)) (hna : (la, listOf as.toArray ka) ∈ news) (ha : IntsAre as A)
    (hmn : m "n" = some (.int nv tn)) (hn1 : 1 ≤ nv) (hn4 : nv ≤ 4) (hmf : m "fine" = some (.float Zf tf))
    (h0 : 0 < A.length) (hl : A.length < 64) (hb : ∀ x ∈ A, -100000 ≤ x ∧ x ≤ 100000)
    (hdiv : nv < 3 → ∀ x r1 r2, MG A x r1 r2 → ∃ c : Int, c * ((r2 : Int) - r1) = (1 : Int) * (2 * (A.length : Int) - 4 * r1) ∧ c.natAbs < 2 ^ 40)
    (hfin : ∀ (x c : Int) (r1 r2 : Nat) (Z : UInt64), nv < 3 → MG A x r1 r2 → c * ((r2 : Int) - r1) = (1 : Int) * (2 * (A.length : Int) - 4 * r1) → IsQ Z (4 * x - 2 * (1 : Int) + c) → Float64.cmp (Float64.mul (Float64.ofInt 12) Z) Zf = some Ordering.eq)
    (hdp : dp + 2 < recursionLimit) (hun : un + 100 < cLine)
    (hret : ∀ (h' : Heap) (tk : Nat), Fr h₀ L h' m → News h₀ L h' news → Q .next { s with heap := h', toks := tk }) :
    wpAny (model lw.prog w) (ktrTop dp un gd "law" lawScope L a cd (cellsFrom (L + 1) lawScope.names []) outer) (exec stIf6 (lawEnv L a cd)) Q E s := by
  have F2 := fr_fo3 F hma hmn hmf
  have N2 := news_add N hna
  clear N F
  dsimp only [stIf6, turnBody, lawEnv, lawScope, lawBody, lawDef, PySem.Challenge.pw_rs0159_01]
  k_steps
  · (with_reducible show wpAny _ _ (call (Value.ref _) [Value.ref _]) _ _ _)
    (with_unfolding_all refine' mg_def ?k1 ?k2 ?k3 ?k4 ?k5 ?k6 ?k7 ?k8 ?k9 ?k10 ?k13 ?k14 ?k15 ?_; (case k1 => k_asm); (case k2 => k_asm); (case k3 => k_asm); (case k4 => k_asm); (case k5 => k_asm); (case k6 => rfl); (case k7 => assumption); (case k8 => assumption); (case k9 => assumption); (case k10 => assumption); (case k13 => omega); (case k14 => omega); (case k15 => exact hdiv (by assumption)))
    intro x' c' r1' r2' Z' t' h' tk' g1' g2' q' F' N'
    have hz := hfin x' c' r1' r2' Z' (by assumption) g1' g2' q'
    try dsimp only
    k_steps
    all_goals first
      | (exfalso
         rename (_ = true) => h9
         rw [hz] at h9
         exact absurd h9 (by decide))
      | exact hret _ _ (fr_un3 (by assumption) hma hmn hmf) (news_sub (by assumption) fun q hq => List.mem_cons_of_mem _ hq)
  · exact hret _ _ (fr_un3 (by assumption) hma hmn hmf) (news_sub (by assumption) fun q hq => List.mem_cons_of_mem _ hq)
end partS15

section partTurn

theorem mark_bound {av bv d r : Int} (ha0 : 0 ≤ av) (ha3 : av < 3) (hb0 : 0 ≤ bv) (hb3 : bv < 3) (hd1 : 1 ≤ d) (hd8 : d ≤ 8) (h0 : 0 ≤ r) (h8 : r < 8) : 0 ≤ mvOf av bv d ∧ mvOf av bv d < 100 ∧ 0 ≤ markOf av bv d r ∧ markOf av bv d r < 100 := by
  have h := Int.mul_ediv_add_emod r d
  have h1 := Int.emod_nonneg r (show d ≠ 0 by omega)
  have h2 : 0 ≤ Int.fmod av d := by rw [Int.fmod_eq_emod_of_nonneg av (by omega)]; exact Int.emod_nonneg _ (by omega)
  have h3 : Int.fmod av d < d := by rw [Int.fmod_eq_emod_of_nonneg av (by omega)]; exact Int.emod_lt_of_pos _ (by omega)
  have h4 : 0 ≤ d * (r / d) := Int.mul_nonneg (by omega) (Int.ediv_nonneg h0 (by omega))
  have e : markOf av bv d r = mvOf av bv d + d + d * (r / d) := rfl
  have e2 : mvOf av bv d = av + d - Int.fmod av d + bv := rfl
  omega
theorem place_bounds {d : Int} {R : List Int} {P K g : Int} (hd1 : 1 ≤ d) (hd8 : d ≤ 8) (h : PlaceAt d R P K g) : 48 * (d * K) ≤ P ∧ P < 48 * (d * K) + 48 * d ∧ 0 ≤ d * K ∧ d * K < 10 := by
  have h1 := h.lo; have h2 := h.hi; have h3 := h.eq; have h4 := h.kd
  have h5 : 0 ≤ d * K := Int.mul_nonneg (by omega) h.k0
  omega
local macro_rules | `(tactic| walk_at "memt") => `(tactic| first | with_reducible assumption | with_reducible exact List.mem_cons_self .. | (refine List.mem_cons_of_mem _ ?_; walk_at "memt"))
local macro_rules | `(tactic| walk_at "lkp") => `(tactic| first | with_reducible assumption | exact if_pos rfl | (refine (if_neg (by decide)).trans ?_; walk_at "lkp"))
local macro_rules | `(tactic| walk_at "subt") => `(tactic| first | (with_reducible exact fun _ h => h) | (with_reducible refine List.forall_mem_cons.mpr ⟨?memg, ?subg⟩; (case memg => walk_at "memt"); (case subg => walk_at "subt")) | (intro q hq; walk_at "memt"))
theorem nqs_length : ∀ {ys : List Value} {qs : List Int}, NQs ys qs → ys.length = qs.length
  | [], [], _ => rfl
  | _ :: _, _ :: _, h => congrArg (· + 1) (nqs_length h.2)
  | [], _ :: _, h => h.elim
  | _ :: _, [], h => h.elim
theorem turn_ok {w : World} {p : Program} {loose : List Str} {mean : ExcName → Option Value} {mg mb : Str → Option Value} {news : List (Addr × Obj)}
    {dp un : Nat} {gd : Option (List Code)} {a : Addr} {cd : Value} {outer : List Env} {A₀ : Around} {base h₀ : Heap} {L : Addr} {m : Str → Option Value} {s : Shared} {E : Value → Shared → Prop} {Q : Flow → Shared → Prop} {tail : List (Addr × Obj)}
    {oa ob od oc om op : Obj} {av bv d nv : Int} {ta tb td tn : Tok} {vc vm vp : Option Value} {lr ll : Addr} {kr kl : Nat} {rs ys vs : List Value} {R : List Int} {made : List (Addr × Obj)}
    (B : Below A₀ base outer h₀) (F : Fr h₀ L s.heap m) (X : (hd.heap_39 w.params).In h₀)
    (N : News h₀ L s.heap ((L + 1 + 1 + 1, od) :: (L + 1 + 1 + 1 + 1, oc) :: (L + 1 + 1 + 1 + 1 + 1, om) :: (L + 1 + 1 + 1 + 1 + 1 + 1, op) :: (L + 1, oa) :: (L + 1 + 1, ob) :: (lr, listOf rs.toArray kr) :: (ll, listOf ys.toArray kl) :: tail)) (T : Top p loose mean mg mb h₀)
    (hmr : m "runs" = some (.ref lr)) (hmn : m "n" = some (.int nv tn)) (hml : m "leads" = some (.ref ll))
    (ha : oa.data = .cell (some (.int av ta))) (hb : ob.data = .cell (some (.int bv tb))) (hd : od.data = .cell (some (.int d td))) (hc : oc.data = .cell vc) (hm : om.data = .cell vm) (hp : op.data = .cell vp)
    (hoff : ∀ p ∈ (lr, listOf rs.toArray kr) :: (ll, listOf ys.toArray kl) :: tail, p.1 ≠ L + 1 + 1 + 1 + 1 ∧ p.1 ≠ L + 1 + 1 + 1 + 1 + 1 ∧ p.1 ≠ L + 1 + 1 + 1 + 1 + 1 + 1)
    (ha0 : 0 ≤ av) (ha3 : av < 3) (hb0 : 0 ≤ bv) (hb3 : bv < 3) (hdm : d ∈ sizesD)
    (hrs : IntsAre rs R) (hR : ∀ r ∈ R, 0 ≤ r ∧ r < 8) (hRn : (R.length : Int) = nv) (hn1 : 1 ≤ nv) (hn4 : nv ≤ 4)
    (hT : Tri (LeadG w.params av bv) vs ys made) (hvs : vs.length = 10) (hmade : ∀ q ∈ made, q ∈ tail)
    (hdp : dp + 2 < recursionLimit) (hun : un + 100 < cLine)
    (hret : ∀ (m' : Str → Option Value) (oc' om' op' : Obj) (vc' vm' vp' : Option Value) (h' : Heap) (tk : Nat), m' "runs" = some (.ref lr) → m' "n" = some (.int nv tn) → m' "leads" = some (.ref ll) → oc'.data = .cell vc' → om'.data = .cell vm' → op'.data = .cell vp' →
      Fr h₀ L h' m' → News h₀ L h' ((L + 1 + 1 + 1, od) :: (L + 1 + 1 + 1 + 1, oc') :: (L + 1 + 1 + 1 + 1 + 1, om') :: (L + 1 + 1 + 1 + 1 + 1 + 1, op') :: (L + 1, oa) :: (L + 1 + 1, ob) :: (lr, listOf rs.toArray kr) :: (ll, listOf ys.toArray kl) :: tail) → Q .next { s with heap := h', toks := tk }) :
    wpAny (model lw.prog w) (ktrTop dp un gd "law" lawScope L a cd (cellsFrom (L + 1) lawScope.names []) outer) (execs turnBody (lawEnv L a cd)) Q E s := by
  have hbody : turnBody = [stColumns, stMargin, stIf1, stMarks, stAlike, stScaled, stCoarse, stFine, stIf2, stPlace, stIf3, stFront, stIf4, stFilled, stIf5, stIf6] := by with_unfolding_all rfl
  rw [hbody]
  have hd1 : 1 ≤ d := by rcases sizes_cases hdm with h | h | h | h | h | h <;> omega
  have hd8 : d ≤ 8 := by rcases sizes_cases hdm with h | h | h | h | h | h <;> omega
  have hRl : R.length ≤ 4 := by omega
  have hR0 : 0 < R.length := by omega
  refine wpAny_execs_cons ?_
  refine' s0_ok ?k0 ?k1 ?k2 ?k3 ?k4 ?k5 ?k6 ?k7 ?k8 ?k9 ?k10 ?k11 ?k12 ?k13 ?k14 ?k15 ?k16 ?k17 ?k18 ?k19 ?k20 ?k21 ?k22 ?kR
  (case k0 => exact B)
  (case k1 => exact F)
  (case k2 => exact X)
  (case k3 => exact news_sub (b := (L + 1 + 1 + 1 + 1, oc) :: (L + 1 + 1 + 1, od) :: (L + 1 + 1 + 1 + 1 + 1, om) :: (L + 1 + 1 + 1 + 1 + 1 + 1, op) :: (L + 1, oa) :: (L + 1 + 1, ob) :: (lr, listOf rs.toArray kr) :: (ll, listOf ys.toArray kl) :: tail) N (by walk_at "subt"))
  (case k4 => exact T)
  (case k5 => (refine List.forall_mem_cons.mpr ⟨neN (by omega), List.forall_mem_cons.mpr ⟨neN (by omega), List.forall_mem_cons.mpr ⟨neN (by omega), List.forall_mem_cons.mpr ⟨neN (by omega), List.forall_mem_cons.mpr ⟨neN (by omega), fun p hp => (hoff p hp).1⟩⟩⟩⟩⟩))
  (case k6 => exact hc)
  (case k7 => exact hml)
  (case k8 => walk_at "memt")
  (case k9 => walk_at "memt")
  (case k10 => exact hd)
  (case k11 => exact ha0)
  (case k12 => exact ha3)
  (case k13 => exact hb0)
  (case k14 => exact hb3)
  (case k15 => exact hdm)
  (case k16 => exact hd1)
  (case k17 => exact hd8)
  (case k18 => exact hT)
  (case k19 => exact hvs)
  (case k20 => exact fun q hq => by have hq2 := hmade q hq; walk_at "memt")
  (case k21 => exact hdp)
  (case k22 => exact hun)
  case kR =>
  intro lc kc zs oc1 h1 tk1 hz hoc1 hlt1 F1 N1
  have g5 : @LT.lt Nat _ (L + 1 + 1 + 1 + 1 + 1) lc := hlt1 (L + 1 + 1 + 1 + 1 + 1, om) (by walk_at "memt")
  have g6 : @LT.lt Nat _ (L + 1 + 1 + 1 + 1 + 1 + 1) lc := hlt1 (L + 1 + 1 + 1 + 1 + 1 + 1, op) (by walk_at "memt")
  show wpAny _ _ (execs _ _) _ _ _
  refine wpAny_execs_cons ?_
  refine' s1_ok ?k0 ?k1 ?k2 ?k3 ?k4 ?k5 ?k6 ?k7 ?k8 ?k9 ?k10 ?k11 ?k12 ?k13 ?k14 ?k15 ?k16 ?kR
  (case k0 => exact B)
  (case k1 => exact F1)
  (case k2 => exact X)
  (case k3 => exact news_sub (b := (L + 1 + 1 + 1 + 1 + 1, om) :: (lc, listOf zs.toArray kc) :: (L + 1 + 1 + 1 + 1, oc1) :: (L + 1 + 1 + 1, od) :: (L + 1 + 1 + 1 + 1 + 1 + 1, op) :: (L + 1, oa) :: (L + 1 + 1, ob) :: (lr, listOf rs.toArray kr) :: (ll, listOf ys.toArray kl) :: tail) N1 (by walk_at "subt"))
  (case k4 => exact T)
  (case k5 => exact List.forall_mem_cons.mpr ⟨neN (by omega), List.forall_mem_cons.mpr ⟨neN (by omega), List.forall_mem_cons.mpr ⟨neN (by omega), List.forall_mem_cons.mpr ⟨neN (by omega), List.forall_mem_cons.mpr ⟨neN (by omega), List.forall_mem_cons.mpr ⟨neN (by omega), fun p hp => (hoff p hp).2.1⟩⟩⟩⟩⟩⟩)
  (case k6 => exact hm)
  (case k7 => walk_at "memt")
  (case k8 => exact ha)
  (case k9 => walk_at "memt")
  (case k10 => exact hb)
  (case k11 => walk_at "memt")
  (case k12 => exact hd)
  (case k13 => exact hd1)
  (case k14 => exact hd8)
  (case k15 => exact hdp)
  (case k16 => exact hun)
  case kR =>
  intro om1 tm h2 tk2 hom1 F2 N2
  show wpAny _ _ (execs _ _) _ _ _
  refine wpAny_execs_cons ?_
  refine' s3_ok ?k0 ?k1 ?k2 ?k3 ?k4 ?k5 ?k6 ?k7 ?k8 ?k9 ?k10 ?k11 ?k12 ?k13 ?k14 ?k15 ?k16 ?k17 ?kR
  (case k0 => exact B)
  (case k1 => exact F2)
  (case k2 => exact X)
  (case k3 => exact N2)
  (case k4 => exact T)
  (case k5 => walk_at "memt")
  (case k6 => exact hoc1)
  (case k7 => walk_at "memt")
  (case k8 => exact hz)
  (case k9 => walk_at "memt")
  (case k10 => exact hom1)
  (case k11 => walk_at "memt")
  (case k12 => exact hd)
  (case k13 => (unfold colsOf colOf; rw [List.map_map]; rfl))
  (case k14 => exact hd1)
  (case k15 => exact hd8)
  (case k16 => exact hdp)
  (case k17 => exact hun)
  case kR =>
  intro h3 tk3 F3 N3
  show wpAny _ _ (execs _ _) _ _ _
  have hcl : (colsOf av bv d).length = 10 := by simp [colsOf]
  refine wpAny_execs_cons ?_
  refine' s3m_ok ?k0 ?k1 ?k2 ?k3 ?k4 ?k5 ?k6 ?k7 ?k8 ?k9 ?k10 ?k11 ?k12 ?k13 ?k14 ?k15 ?k16 ?kR
  (case k0 => exact B)
  (case k1 => exact F3)
  (case k2 => exact X)
  (case k3 => exact N3)
  (case k4 => exact T)
  (case k5 => walk_at "memt")
  (case k6 => exact hoc1)
  (case k7 => walk_at "memt")
  (case k8 => exact hz)
  (case k9 => exact hmr)
  (case k10 => walk_at "memt")
  (case k11 => exact hrs)
  (case k12 => exact hcl)
  (case k13 => exact fun r hr => ⟨(hR r hr).1, by have := (hR r hr).2; omega⟩)
  (case k14 => exact hRl)
  (case k15 => exact hdp)
  (case k16 => exact hun)
  case kR =>
  intro lk kk ms h4 tk4 hms hlt4 F4 N4
  rw [marks_eq hd1 hR] at hms
  have hMl : (R.map (markOf av bv d)).length = R.length := by simp
  have hMb : ∀ x ∈ R.map (markOf av bv d), 0 ≤ x ∧ x < 100 := fun x hx => by
    obtain ⟨r, hr, rfl⟩ := List.mem_map.mp hx
    exact (mark_bound ha0 ha3 hb0 hb3 hd1 hd8 (hR r hr).1 (hR r hr).2).2.2
  have g4 : @LT.lt Nat _ (L + 1 + 1 + 1 + 1 + 1 + 1) lk := hlt4 (L + 1 + 1 + 1 + 1 + 1 + 1, op) (by walk_at "memt")
  show wpAny _ _ (execs _ _) _ _ _
  refine wpAny_execs_cons ?_
  refine' s4_ok ?k0 ?k1 ?k2 ?k3 ?k4 ?k5 ?k6 ?k7 ?k8 ?k9 ?k10 ?k11 ?k12 ?k13 ?k14 ?k15 ?kR
  (case k0 => exact B)
  (case k1 => exact F4)
  (case k2 => exact X)
  (case k3 => exact N4)
  (case k4 => exact T)
  (case k5 => walk_at "memt")
  (case k6 => exact hoc1)
  (case k7 => walk_at "memt")
  (case k8 => exact hz)
  (case k9 => exact hcl)
  (case k10 => walk_at "lkp")
  (case k11 => walk_at "memt")
  (case k12 => exact hms)
  (case k13 => omega)
  (case k14 => exact hdp)
  (case k15 => exact hun)
  case kR =>
  intro la ka us h5 tk5 hus hlt5 F5 N5
  rw [alike_eq hd1 hR] at hus
  have g5b : @LT.lt Nat _ (L + 1 + 1 + 1 + 1 + 1 + 1) la := hlt5 (L + 1 + 1 + 1 + 1 + 1 + 1, op) (by walk_at "memt")
  show wpAny _ _ (execs _ _) _ _ _
  refine wpAny_execs_cons ?_
  refine' s5_ok ?k0 ?k1 ?k2 ?k3 ?k4 ?k5 ?k6 ?k7 ?k8 ?k9 ?k10 ?kR
  (case k0 => exact B)
  (case k1 => exact F5)
  (case k2 => exact X)
  (case k3 => exact N5)
  (case k4 => exact T)
  (case k5 => walk_at "lkp")
  (case k6 => walk_at "memt")
  (case k7 => exact hms)
  (case k8 => omega)
  (case k9 => exact hdp)
  (case k10 => exact hun)
  case kR =>
  intro lq kq ss h6 tk6 hss hlt6 F6 N6
  have g6b : @LT.lt Nat _ (L + 1 + 1 + 1 + 1 + 1 + 1) lq := hlt6 (L + 1 + 1 + 1 + 1 + 1 + 1, op) (by walk_at "memt")
  show wpAny _ _ (execs _ _) _ _ _
  refine wpAny_execs_cons ?_
  refine' s6_ok ?k0 ?k1 ?k2 ?k3 ?k4 ?k5 ?k6 ?k7 ?k8 ?k9 ?k10 ?k11 ?k12 ?k13 ?k14 ?k15 ?k16 ?k17 ?kR
  (case k0 => exact B)
  (case k1 => exact F6)
  (case k2 => exact X)
  (case k3 => exact N6)
  (case k4 => exact T)
  (case k5 => walk_at "lkp")
  (case k6 => walk_at "memt")
  (case k7 => exact hss)
  (case k8 => walk_at "memt")
  (case k9 => exact hd)
  (case k10 => exact hd1)
  (case k11 => exact hd8)
  (case k12 => (rw [List.length_map]; omega))
  (case k13 => (rw [List.length_map]; omega))
  (case k14 => (intro x hx; obtain ⟨y, hy, rfl⟩ := List.mem_map.mp hx; have := hMb y hy; omega))
  (case k15 => exact div_scaled hd1 hd8 hRl)
  (case k16 => exact hdp)
  (case k17 => exact hun)
  case kR =>
  intro xc cc c1 c2 Zc tc h7 tk7 hMGc hcc hZc F7 N7
  have hal := alike_len hdm hd1 hR
  have hA0 : 0 < (alikeOf d R).length := by have := Int.mul_pos (show 0 < d by omega) (show (0 : Int) < R.length by omega); omega
  have hA64 : (alikeOf d R).length < 64 := by rw [len_flat hdm R hR]; exact Nat.lt_of_le_of_lt (Nat.mul_le_mul (show d.toNat ≤ 8 by omega) hRl) (by decide)
  have hAb : ∀ x ∈ alikeOf d R, 0 ≤ x ∧ x < 10 := fun x hx => by
    obtain ⟨r, hr, hx⟩ := List.mem_flatMap.mp hx
    have := (cls_parts (cls_fact hdm (hR r hr).1 (hR r hr).2 (by decide : (0 : Int) ≤ 0) (by decide))).2.2.2 x hx
    exact ⟨this.1, this.2.1⟩
  show wpAny _ _ (execs _ _) _ _ _
  refine wpAny_execs_cons ?_
  refine' s7_ok ?k0 ?k1 ?k2 ?k3 ?k4 ?k5 ?k6 ?k7 ?k8 ?k9 ?k10 ?k11 ?k12 ?k13 ?k14 ?kR
  (case k0 => exact B)
  (case k1 => exact F7)
  (case k2 => exact X)
  (case k3 => exact N7)
  (case k4 => exact T)
  (case k5 => walk_at "lkp")
  (case k6 => walk_at "memt")
  (case k7 => exact hus)
  (case k8 => exact hA64)
  (case k9 => (rw [List.length_map]; exact hA0))
  (case k10 => (rw [List.length_map]; exact hA64))
  (case k11 => (intro x hx; obtain ⟨y, hy, rfl⟩ := List.mem_map.mp hx; have := hAb y hy; omega))
  (case k12 => exact div_alike hdm hd1 hd8 hR hRl)
  (case k13 => exact hdp)
  (case k14 => exact hun)
  case kR =>
  intro xf cf f1 f2 Zf tf h8 tk8 hMGf hcf hZf F8 N8
  obtain ⟨K, g, hP⟩ := place_fine hdm hd1 hR hMGf hcf
  have hcq := coarse_eq hd1 hP hMGc hcc
  obtain ⟨b1, b2, b3, b4⟩ := place_bounds hd1 hd8 hP
  obtain ⟨v1, v2, _, _⟩ := mark_bound (r := 0) ha0 ha3 hb0 hb3 hd1 hd8 (by decide) (by decide)
  have hZp : IsQ (Float64.add Zf (Float64.ofInt 6)) (4 * xf - 2 * 12 + cf + 24) := isq_add hZf (isq_ofInt (i := 6) (by decide)) (by omega)
  generalize hPd : 4 * xf - 2 * 12 + cf + 24 = P at *
  show wpAny _ _ (execs _ _) _ _ _
  refine wpAny_execs_cons ?_
  refine' s8_ok ?k0 ?k1 ?k2 ?k3 ?k4 ?k5 ?k6 ?k7 ?k8 ?k9 ?k10 ?k11 ?k12 ?k13 ?k14 ?k15 ?kR
  (case k0 => exact B)
  (case k1 => exact F8)
  (case k2 => exact X)
  (case k3 => exact N8)
  (case k4 => exact T)
  (case k5 => walk_at "lkp")
  (case k6 => walk_at "memt")
  (case k7 => exact hms)
  (case k8 => omega)
  (case k9 => walk_at "lkp")
  (case k10 => walk_at "memt")
  (case k11 => exact hss)
  (case k12 => walk_at "lkp")
  (case k13 => walk_at "lkp")
  (case k14 => exact hdp)
  (case k15 => exact hun)
  case kR =>
  intro h9 tk9 F9 N9
  show wpAny _ _ (execs _ _) _ _ _
  refine wpAny_execs_cons ?_
  refine' s9_ok ?k0 ?k1 ?k2 ?k3 ?k4 ?k5 ?k6 ?k7 ?k8 ?k9 ?kR
  (case k0 => exact B)
  (case k1 => exact F9)
  (case k2 => exact X)
  (case k3 => exact news_sub (b := (L + 1 + 1 + 1 + 1 + 1 + 1, op) :: (lq, listOf ss.toArray kq) :: (la, listOf us.toArray ka) :: (lk, listOf ms.toArray kk) :: (L + 1 + 1 + 1 + 1 + 1, om1) :: (lc, listOf zs.toArray kc) :: (L + 1 + 1 + 1 + 1, oc1) :: (L + 1 + 1 + 1, od) :: (L + 1, oa) :: (L + 1 + 1, ob) :: (lr, listOf rs.toArray kr) :: (ll, listOf ys.toArray kl) :: tail) N9 (by walk_at "subt"))
  (case k4 => exact T)
  (case k5 => exact List.forall_mem_cons.mpr ⟨neN (by omega), List.forall_mem_cons.mpr ⟨neN (by omega), List.forall_mem_cons.mpr ⟨neN (by omega), List.forall_mem_cons.mpr ⟨neN (by omega), List.forall_mem_cons.mpr ⟨neN (by omega), List.forall_mem_cons.mpr ⟨neN (by omega), List.forall_mem_cons.mpr ⟨neN (by omega), List.forall_mem_cons.mpr ⟨neN (by omega), List.forall_mem_cons.mpr ⟨neN (by omega), fun p hp => (hoff p hp).2.2⟩⟩⟩⟩⟩⟩⟩⟩⟩)
  (case k6 => exact hp)
  (case k7 => walk_at "lkp")
  (case k8 => exact hdp)
  (case k9 => exact hun)
  case kR =>
  intro op1 tp h10 tk10 hop1 F10 N10
  show wpAny _ _ (execs _ _) _ _ _
  refine wpAny_execs_cons ?_
  refine' s10_ok ?k0 ?k1 ?k2 ?k3 ?k4 ?k5 ?k6 ?k7 ?k8 ?k9 ?k10 ?k11 ?k12 ?k13 ?k14 ?k15 ?k16 ?k17 ?k18 ?kR
  (case k0 => exact B)
  (case k1 => exact F10)
  (case k2 => exact X)
  (case k3 => exact N10)
  (case k4 => exact T)
  (case k5 => (rw [isq_cmp hZc (isq_add (isq_add hZp (isq_ofInt (i := 12 * mvOf av bv d) (by omega)) (by omega)) (isq_ofInt (i := 6 * d) (by omega)) (by omega)), hcq, Int.compare_eq_eq.mpr rfl]))
  (case k6 => walk_at "lkp")
  (case k7 => walk_at "memt")
  (case k8 => exact hop1)
  (case k9 => walk_at "memt")
  (case k10 => exact hom1)
  (case k11 => walk_at "memt")
  (case k12 => exact hd)
  (case k13 => exact hd1)
  (case k14 => exact hd8)
  (case k15 => exact v1)
  (case k16 => exact v2)
  (case k17 => exact hdp)
  (case k18 => exact hun)
  case kR =>
  intro h11 tk11 F11 N11
  show wpAny _ _ (execs _ _) _ _ _
  refine wpAny_execs_cons ?_
  refine' s11_ok ?k0 ?k1 ?k2 ?k3 ?k4 ?k5 ?k6 ?k7 ?k8 ?k9 ?k10 ?k11 ?k12 ?k13 ?k14 ?k15 ?kR
  (case k0 => exact B)
  (case k1 => exact F11)
  (case k2 => exact X)
  (case k3 => exact N11)
  (case k4 => exact T)
  (case k5 => walk_at "lkp")
  (case k6 => walk_at "memt")
  (case k7 => exact hms)
  (case k8 => omega)
  (case k9 => omega)
  (case k10 => walk_at "memt")
  (case k11 => exact hom1)
  (case k12 => walk_at "memt")
  (case k13 => exact hd)
  (case k14 => exact hdp)
  (case k15 => exact hun)
  case kR =>
  intro n' tfr h12 tk12 hperm hsort F12 N12
  have hfr := front_eq hd1 hP hperm hsort hR0
  rw [hfr] at F12
  show wpAny _ _ (execs _ _) _ _ _
  refine wpAny_execs_cons ?_
  refine' s12_ok (fv := 12 * (d * K)) (tf := tfr) (d := d) (Zp := Float64.add Zf (Float64.ofInt 6)) ?k0 ?k1 ?k2 ?k3 ?k4 ?k5 ?k6 ?k7 ?k8 ?k9 ?k10 ?k11 ?k12 ?k13 ?k14 ?k15 ?k16 ?k17 ?kR
  (case k0 => exact B)
  (case k1 => exact F12)
  (case k2 => exact X)
  (case k3 => exact N12)
  (case k4 => exact T)
  (case k5 => (rw [isq_cmpInt hZp]; exact beq_eq_false_iff_ne.mpr fun h => by have := Int.compare_eq_lt.mp (Option.some.inj h); omega))
  (case k6 => (rw [isq_cmpInt hZp, Int.compare_eq_lt.mpr (by omega)]; rfl))
  (case k7 => walk_at "lkp")
  (case k8 => walk_at "memt")
  (case k9 => exact hop1)
  (case k10 => walk_at "memt")
  (case k11 => exact hd)
  (case k12 => exact hd1)
  (case k13 => exact hd8)
  (case k14 => omega)
  (case k15 => omega)
  (case k16 => exact hdp)
  (case k17 => exact hun)
  case kR =>
  intro h13 tk13 F13 N13
  show wpAny _ _ (execs _ _) _ _ _
  refine wpAny_execs_cons ?_
  refine' s13_ok ?k0 ?k1 ?k2 ?k3 ?k4 ?k5 ?k6 ?k7 ?k8 ?k9 ?k10 ?k11 ?k12 ?k13 ?k14 ?k15 ?k16 ?k17 ?k18 ?k19 ?k20 ?k21 ?k22 ?k23 ?kR
  (case k0 => exact B)
  (case k1 => exact F13)
  (case k2 => exact X)
  (case k3 => exact N13)
  (case k4 => exact T)
  (case k5 => walk_at "lkp")
  (case k6 => walk_at "memt")
  (case k7 => exact hms)
  (case k8 => omega)
  (case k9 => exact fun k hk => by have := hMb k hk; omega)
  (case k10 => walk_at "memt")
  (case k11 => exact hop1)
  (case k12 => exact hZp)
  (case k13 => omega)
  (case k14 => walk_at "memt")
  (case k15 => exact hom1)
  (case k16 => walk_at "memt")
  (case k17 => exact hd)
  (case k18 => exact hd1)
  (case k19 => exact hd8)
  (case k20 => exact v1)
  (case k21 => exact v2)
  (case k22 => exact hdp)
  (case k23 => exact hun)
  case kR =>
  intro lf kf fs h14 tk14 hfs hlt14 F14 N14
  have hfl : fs.length ≤ 4 := by rw [nqs_length hfs, List.length_map, List.length_map]; exact hRl
  show wpAny _ _ (execs _ _) _ _ _
  refine wpAny_execs_cons ?_
  refine' s14_ok ?k0 ?k1 ?k2 ?k3 ?k4 ?k5 ?k6 ?k7 ?k8 ?k9 ?k10 ?k11 ?k12 ?k13 ?k14 ?k15 ?k16 ?k17 ?k18 ?k19 ?kR
  (case k0 => exact B)
  (case k1 => exact F14)
  (case k2 => exact X)
  (case k3 => exact N14)
  (case k4 => exact T)
  (case k5 => walk_at "lkp")
  (case k6 => walk_at "memt")
  (case k7 => exact hfs)
  (case k8 => exact fill_bound hd1 hd8 hP)
  (case k9 => exact hfl)
  (case k10 => walk_at "memt")
  (case k11 => exact hd)
  (case k12 => walk_at "lkp")
  (case k13 => exact hd1)
  (case k14 => exact hd8)
  (case k15 => exact hn1)
  (case k16 => exact hn4)
  (case k17 => (rw [← hRn]; exact fill_sum hd1 hP))
  (case k18 => exact hdp)
  (case k19 => exact hun)
  case kR =>
  intro h15 tk15 F15 N15
  show wpAny _ _ (execs _ _) _ _ _
  refine wpAny_execs_cons ?_
  refine' s15_ok ?k0 ?k1 ?k2 ?k3 ?k4 ?k5 ?k6 ?k7 ?k8 ?k9 ?k10 ?k11 ?k12 ?k13 ?k14 ?k15 ?k16 ?k17 ?k18 ?kR
  (case k0 => exact B)
  (case k1 => exact F15)
  (case k2 => exact X)
  (case k3 => exact N15)
  (case k4 => exact T)
  (case k5 => walk_at "lkp")
  (case k6 => walk_at "memt")
  (case k7 => exact hus)
  (case k8 => walk_at "lkp")
  (case k9 => exact hn1)
  (case k10 => exact hn4)
  (case k11 => walk_at "lkp")
  (case k12 => exact hA0)
  (case k13 => exact hA64)
  (case k14 => exact fun x hx => by have := hAb x hx; omega)
  (case k15 => exact fun h3 => div_one hdm hd1 hd8 hR (by omega))
  (case k16 => exact fun x c r1 r2 Z h3 hMG hc hZ => by have e := one_eq hdm hd1 hR hP hMG hc; have hm := isq_mul (isq_ofInt (i := 12) (by decide)) hZ (c := 12 * (4 * x - 2 * 1 + c)) (by omega) (by omega); rw [isq_cmp hm hZf, Int.compare_eq_eq.mpr (by omega)])
  (case k17 => exact hdp)
  (case k18 => exact hun)
  case kR =>
  intro h16 tk16 F16 N16
  show wpAny _ _ (execs _ _) _ _ _
  exact wpAny_execs_nil (hret _ oc1 om1 op1 _ _ _ h16 tk16 (by walk_at "lkp") (by walk_at "lkp") (by walk_at "lkp") hoc1 hom1 hop1 F16 (news_sub N16 (by walk_at "subt")))
end partTurn

section partLoop
local macro_rules | `(tactic| walk_at "memt") => `(tactic| first | with_reducible assumption | with_reducible exact List.mem_cons_self .. | (refine List.mem_cons_of_mem _ ?_; walk_at "memt"))
local macro_rules | `(tactic| walk_at "lkp") => `(tactic| first | with_reducible assumption | exact if_pos rfl | (refine (if_neg (by decide)).trans ?_; walk_at "lkp"))
local macro_rules | `(tactic| walk_at "subt") => `(tactic| first | (with_reducible exact fun _ h => h) | (with_reducible refine List.forall_mem_cons.mpr ⟨?memg, ?subg⟩; (case memg => walk_at "memt"); (case subg => walk_at "subt")) | (intro q hq; walk_at "memt"))

def stFor : Stmt := match lawBody with
  | [_, _, _, _, _, _, _, s, _, _] => s
  | _ => .Pass default
def eSizes : Expr := match stFor with
  | .For _ e _ _ _ => e
  | _ => default
theorem sizes_ok {w : World} {p : Program} {loose : List Str} {mean : ExcName → Option Value} {mg mb : Str → Option Value} {news : List (Addr × Obj)}
    {dp un : Nat} {gd : Option (List Code)} {a : Addr} {cd : Value} {outer : List Env} {A₀ : Around} {base h₀ : Heap} {L : Addr} {m : Str → Option Value} {s : Shared} {E : Value → Shared → Prop} {Q : Value → Shared → Prop}
    (B : Below A₀ base outer h₀) (F : Fr h₀ L s.heap m) (X : (hd.heap_39 w.params).In h₀) (N : News h₀ L s.heap news) (T : Top p loose mean mg mb h₀)
    (hdp : dp + 2 < recursionLimit) (hun : un + 100 < cLine)
    (hret : ∀ (D : Addr) (c : Nat) (us : List Value) (h' : Heap) (tk : Nat), IntsAre us sizesD → (∀ q ∈ news, q.1 < D) → Fr h₀ L h' m → News h₀ L h' ((D, listOf us.toArray c) :: news) → Q (.ref D) { s with heap := h', toks := tk }) :
    wpAny (model lw.prog w) (ktrTop dp un gd "law" lawScope L a cd (cellsFrom (L + 1) lawScope.names []) outer) (eval eSizes (lawEnv L a cd)) Q E s := by
  dsimp only [eSizes, stFor, turnBody, lawEnv, lawScope, lawBody, lawDef, PySem.Challenge.pw_rs0159_01]
  k_steps
  exact hret _ _ [_, _, _, _, _, _] _ _ (.cons 1 _ (.cons 2 _ (.cons 3 _ (.cons 4 _ (.cons 5 _ (.cons 8 _ .nil)))))) (by assumption) (by assumption) (by assumption)

def LoopJ (h₀ : Heap) (L lr ll : Addr) (nv : Int) (tn : Tok) (keep : List (Addr × Obj)) (h : Heap) : Prop :=
  ∃ (m' : Str → Option Value) (od oc om op : Obj) (vd vc vm vp : Option Value), m' "runs" = some (.ref lr) ∧ m' "n" = some (.int nv tn) ∧ m' "leads" = some (.ref ll) ∧ od.data = .cell vd ∧ oc.data = .cell vc ∧ om.data = .cell vm ∧ op.data = .cell vp ∧
    Fr h₀ L h m' ∧ News h₀ L h ((L + 1 + 1 + 1, od) :: (L + 1 + 1 + 1 + 1, oc) :: (L + 1 + 1 + 1 + 1 + 1, om) :: (L + 1 + 1 + 1 + 1 + 1 + 1, op) :: keep)
theorem loop_ok {w : World} {p : Program} {loose : List Str} {mean : ExcName → Option Value} {mg mb : Str → Option Value} {news : List (Addr × Obj)}
    {dp un : Nat} {gd : Option (List Code)} {a : Addr} {cd : Value} {outer : List Env} {A₀ : Around} {base h₀ : Heap} {L : Addr} {m : Str → Option Value} {s : Shared} {E : Value → Shared → Prop} {Q : Flow → Shared → Prop} {tail : List (Addr × Obj)}
    {oa ob od oc om op : Obj} {av bv nv : Int} {ta tb tn : Tok} {vd vc vm vp : Option Value} {lr ll : Addr} {kr kl : Nat} {rs ys vs : List Value} {R : List Int} {made : List (Addr × Obj)}
    (B : Below A₀ base outer h₀) (F : Fr h₀ L s.heap m) (X : (hd.heap_39 w.params).In h₀)
    (N : News h₀ L s.heap ((L + 1 + 1 + 1, od) :: (L + 1 + 1 + 1 + 1, oc) :: (L + 1 + 1 + 1 + 1 + 1, om) :: (L + 1 + 1 + 1 + 1 + 1 + 1, op) :: (L + 1, oa) :: (L + 1 + 1, ob) :: (lr, listOf rs.toArray kr) :: (ll, listOf ys.toArray kl) :: tail)) (T : Top p loose mean mg mb h₀)
    (hmr : m "runs" = some (.ref lr)) (hmn : m "n" = some (.int nv tn)) (hml : m "leads" = some (.ref ll))
    (ha : oa.data = .cell (some (.int av ta))) (hb : ob.data = .cell (some (.int bv tb))) (hd : od.data = .cell vd) (hc : oc.data = .cell vc) (hm : om.data = .cell vm) (hp : op.data = .cell vp)
    (hoff : ∀ p ∈ (lr, listOf rs.toArray kr) :: (ll, listOf ys.toArray kl) :: tail, p.1 ≠ L + 1 + 1 + 1 ∧ p.1 ≠ L + 1 + 1 + 1 + 1 ∧ p.1 ≠ L + 1 + 1 + 1 + 1 + 1 ∧ p.1 ≠ L + 1 + 1 + 1 + 1 + 1 + 1)
    (ha0 : 0 ≤ av) (ha3 : av < 3) (hb0 : 0 ≤ bv) (hb3 : bv < 3)
    (hrs : IntsAre rs R) (hR : ∀ r ∈ R, 0 ≤ r ∧ r < 8) (hRn : (R.length : Int) = nv) (hn1 : 1 ≤ nv) (hn4 : nv ≤ 4)
    (hT : Tri (LeadG w.params av bv) vs ys made) (hvs : vs.length = 10) (hmade : ∀ q ∈ made, q ∈ tail)
    (hdp : dp + 2 < recursionLimit) (hun : un + 100 < cLine)
    (hret : ∀ (m' : Str → Option Value) (h' : Heap) (tk : Nat), Fr h₀ L h' m' → News h₀ L h' [] → Q .next { s with heap := h', toks := tk }) :
    wpAny (model lw.prog w) (ktrTop dp un gd "law" lawScope L a cd (cellsFrom (L + 1) lawScope.names []) outer) (exec stFor (lawEnv L a cd)) Q E s := by
  have hst : ∃ pd ps, stFor = .For (.Name "d" pd) eSizes turnBody [] ps := by with_unfolding_all exact ⟨_, _, rfl⟩
  obtain ⟨pd, ps, hst⟩ := hst
  rw [hst]
  refine wpAny_For (sizes_ok B F X N T hdp hun ?_) (by intro _; with_unfolding_all rfl)
  intro D c us h1 tk1 hus hlt F1 N1
  have hls := mine_list N1 (List.mem_cons_self ..)
  have hDl : D < h1.objs.size := Heap.lt_size (N1 _ (List.mem_cons_self ..)).1
  refine wpAny_pyIter_list hls ?_
  have W := Walks.list (prog := lw.prog) (w := w) (A := ktrTop dp un gd "law" lawScope L a cd (cellsFrom (L + 1) lawScope.names []) outer) rfl h1.objs.size D (Nat.ne_of_lt hDl) us.toArray
  generalize hI : h1.objs.size = I at W ⊢
  generalize hH : h1.push { cls := .type "list_iterator", data := .fields #[.ref D, .int 0 0] } = H1
  have st0 : H1.IsListIter I D 0 ∧ H1.IsList D us.toArray := hH ▸ hI ▸ ⟨⟨_, Heap.get?_push_size _ rfl, rfl, rfl⟩, hls.at fun o e => Heap.get?_push_of_some _ e⟩
  have up1 : ∀ b o, h1.get? b = some o → H1.get? b = some o := fun b o e => hH ▸ Heap.get?_push_of_some _ e
  have hI0 : h₀.get? I = none := hI ▸ next_is_new F1
  have hLI : I ≠ L := hI ▸ Nat.ne_of_gt F1.ns.lt
  have ltI : ∀ q ∈ (D, listOf us.toArray c) :: (L + 1 + 1 + 1, od) :: (L + 1 + 1 + 1 + 1, oc) :: (L + 1 + 1 + 1 + 1 + 1, om) :: (L + 1 + 1 + 1 + 1 + 1 + 1, op) :: (L + 1, oa) :: (L + 1 + 1, ob) :: (lr, listOf rs.toArray kr) :: (ll, listOf ys.toArray kl) :: tail, q.1 < I := fun q hq => hI ▸ Heap.lt_size (N1 q hq).1
  have i3 : @LT.lt Nat _ (L + 1 + 1 + 1) I := ltI (L + 1 + 1 + 1, od) (by walk_at "memt")
  have i4 : @LT.lt Nat _ (L + 1 + 1 + 1 + 1) I := ltI (L + 1 + 1 + 1 + 1, oc) (by walk_at "memt")
  have i5 : @LT.lt Nat _ (L + 1 + 1 + 1 + 1 + 1) I := ltI (L + 1 + 1 + 1 + 1 + 1, om) (by walk_at "memt")
  have i6 : @LT.lt Nat _ (L + 1 + 1 + 1 + 1 + 1 + 1) I := ltI (L + 1 + 1 + 1 + 1 + 1 + 1, op) (by walk_at "memt")
  have d6 : @LT.lt Nat _ (L + 1 + 1 + 1 + 1 + 1 + 1) D := hlt (L + 1 + 1 + 1 + 1 + 1 + 1, op) (by walk_at "memt")
  have hDI : @LT.lt Nat _ D I := ltI (D, listOf us.toArray c) (by walk_at "memt")
  have hul : us.toArray.size = 6 := by rw [List.size_toArray, hus.length]; rfl
  rw [hul] at W
  refine codeAny_forLoop (fun k s' => ∃ h' tk, ∃ i : Nat, s' = { s with heap := h', toks := tk } ∧ (h'.IsListIter I D i ∧ h'.IsList D us.toArray) ∧
    LoopJ h₀ L lr ll nv tn ((L + 1, oa) :: (L + 1 + 1, ob) :: (lr, listOf rs.toArray kr) :: (ll, listOf ys.toArray kl) :: (D, listOf us.toArray c) :: tail) h' ∧ i ≤ 6 ∧ k = 7 - i) ?_ 7
    ⟨H1, tk1, 0, rfl, st0, ⟨m, od, oc, om, op, vd, vc, vm, vp, hmr, hmn, hml, hd, hc, hm, hp, F1.keeps up1, (News.grown N1 up1 |> fun N => news_sub N (by walk_at "subt"))⟩, by omega, rfl⟩
  rintro k s' ⟨H, tk, i, rfl, hst, ⟨m', od', oc', om', op', vd', vc', vm', vp', e1, e2, e3, e4, e5, e6, e7, F', N'⟩, hi, rfl⟩
  have frI : ∀ {h h' : Heap} {m : Str → Option Value}, Fr h₀ L h m → (∀ b o, b ∉ [I] → h.get? b = some o → h'.get? b = some o) → Fr h₀ L h' m := fun F hk =>
    ⟨F.ns.at' fun o e => hk L o (fun h => hLI (List.mem_singleton.mp h).symm) e, fun b o e => hk b o (fun h => by rw [List.mem_singleton.mp h, hI0] at e; cases e) (F.keep b o e), F.above⟩
  by_cases hlt6 : i < 6
  · refine W.item i _ _ _ hlt6 hst fun v h₂ tk₂ hPv hst₂ hk₂ => ?_
    obtain ⟨n, tn', rfl, hni⟩ := hus.at i v (by simpa using hPv)
    have hdm : n ∈ sizesD := List.mem_of_getElem? hni
    obtain ⟨oI, hoI, hI2⟩ := id hst₂.1
    have F₂ := frI F' hk₂
    have hne : ∀ p ∈ (L + 1 + 1 + 1, od') :: (L + 1 + 1 + 1 + 1, oc') :: (L + 1 + 1 + 1 + 1 + 1, om') :: (L + 1 + 1 + 1 + 1 + 1 + 1, op') :: (L + 1, oa) :: (L + 1 + 1, ob) :: (lr, listOf rs.toArray kr) :: (ll, listOf ys.toArray kl) :: (D, listOf us.toArray c) :: tail, p.1 ≠ I :=
      List.forall_mem_cons.mpr ⟨neN (by omega), List.forall_mem_cons.mpr ⟨neN (by omega), List.forall_mem_cons.mpr ⟨neN (by omega), List.forall_mem_cons.mpr ⟨neN (by omega), fun p hp => Nat.ne_of_lt (ltI p ((by walk_at "subt" : ∀ q ∈ (L + 1, oa) :: (L + 1 + 1, ob) :: (lr, listOf rs.toArray kr) :: (ll, listOf ys.toArray kl) :: (D, listOf us.toArray c) :: tail, q ∈ (D, listOf us.toArray c) :: (L + 1 + 1 + 1, od) :: (L + 1 + 1 + 1 + 1, oc) :: (L + 1 + 1 + 1 + 1 + 1, om) :: (L + 1 + 1 + 1 + 1 + 1 + 1, op) :: (L + 1, oa) :: (L + 1 + 1, ob) :: (lr, listOf rs.toArray kr) :: (ll, listOf ys.toArray kl) :: tail) p hp))⟩⟩⟩⟩
    have Nk : News h₀ L h₂ ((I, oI) :: (L + 1 + 1 + 1, od') :: (L + 1 + 1 + 1 + 1, oc') :: (L + 1 + 1 + 1 + 1 + 1, om') :: (L + 1 + 1 + 1 + 1 + 1 + 1, op') :: (L + 1, oa) :: (L + 1 + 1, ob) :: (lr, listOf rs.toArray kr) :: (ll, listOf ys.toArray kl) :: (D, listOf us.toArray c) :: tail) := fun p hp => by
      rcases List.mem_cons.mp hp with rfl | hp
      · exact ⟨hoI, hLI, hI0⟩
      · exact ⟨hk₂ _ _ (fun h => hne p hp (List.mem_singleton.mp h)) (N' p hp).1, (N' p hp).2⟩
    have N₃ := news_sub (b := (L + 1 + 1 + 1, od') :: (L + 1 + 1 + 1 + 1, oc') :: (L + 1 + 1 + 1 + 1 + 1, om') :: (L + 1 + 1 + 1 + 1 + 1 + 1, op') :: (L + 1, oa) :: (L + 1 + 1, ob) :: (lr, listOf rs.toArray kr) :: (ll, listOf ys.toArray kl) :: (I, oI) :: (D, listOf us.toArray c) :: tail) Nk (by walk_at "subt")
    have hoff2 : ∀ p ∈ (lr, listOf rs.toArray kr) :: (ll, listOf ys.toArray kl) :: (I, oI) :: (D, listOf us.toArray c) :: tail, p.1 ≠ L + 1 + 1 + 1 ∧ p.1 ≠ L + 1 + 1 + 1 + 1 ∧ p.1 ≠ L + 1 + 1 + 1 + 1 + 1 ∧ p.1 ≠ L + 1 + 1 + 1 + 1 + 1 + 1 :=
      List.forall_mem_cons.mpr ⟨hoff _ (by walk_at "memt"), List.forall_mem_cons.mpr ⟨hoff _ (by walk_at "memt"), List.forall_mem_cons.mpr ⟨⟨neN (by omega), neN (by omega), neN (by omega), neN (by omega)⟩, List.forall_mem_cons.mpr ⟨⟨neN (by omega), neN (by omega), neN (by omega), neN (by omega)⟩, fun p hp => hoff p (by walk_at "memt")⟩⟩⟩⟩
    refine wpAny_assign_Name ?_
    with_unfolding_all refine' storeX_C F₂ N₃ ?hc (UpdF.head ?hu) e4 ?h ?a ?b
    (case hc => with_unfolding_all rfl)
    (case hu => exact List.forall_mem_cons.mpr ⟨neN (by omega), List.forall_mem_cons.mpr ⟨neN (by omega), List.forall_mem_cons.mpr ⟨neN (by omega), List.forall_mem_cons.mpr ⟨neN (by omega), List.forall_mem_cons.mpr ⟨neN (by omega), fun p hp => (hoff2 p hp).1⟩⟩⟩⟩⟩)
    (case a => rfl)
    (case b => with_unfolding_all rfl)
    case h =>
      intro h₃ od₃ F₃ N₄ hod₃
      refine turn_ok (news := []) B F₃ X N₄ T e1 e2 e3 ha hb hod₃ e5 e6 e7 (fun p hp => (hoff2 p hp).2) ha0 ha3 hb0 hb3 hdm hrs hR hRn hn1 hn4 hT hvs (fun q hq => by have hq2 := hmade q hq; walk_at "memt") hdp hun ?_
      intro m₅ oc₅ om₅ op₅ vc₅ vm₅ vp₅ h₅ tk₅ q1 q2 q3 q4 q5 q6 F₅ N₅
      refine ⟨7 - (i + 1), by omega, h₅, tk₅, i + 1, rfl, ?_, ⟨m₅, od₃, oc₅, om₅, op₅, _, vc₅, vm₅, vp₅, q1, q2, q3, hod₃, q4, q5, q6, F₅, news_sub N₅ (by walk_at "subt")⟩, by omega, rfl⟩
      exact ⟨⟨oI, (N₅ (I, oI) (by walk_at "memt")).1, hI2⟩, ⟨_, (N₅ (D, listOf us.toArray c) (by walk_at "memt")).1, rfl, c, rfl⟩⟩
  · have hie : i = 6 := by omega
    subst hie
    refine W.done _ _ _ hst fun h₂ tk₂ hk₂ => ?_
    exact wpAny_execs_nil (hret m' h₂ tk₂ (frI F' hk₂) (fun p hp => nomatch hp))
end partLoop

section partRaise
section
local macro_rules | `(tactic| cell_enter) => `(tactic| (refine' code_def ?k1 ?k2 ?k3 ?k4 ?k5 ?kA ?kF ?kK ?k6 ?k7 ?k8 ?k9 ?kB ?_ ?c2 ?c3 ?c4 ?c5; (case kA => exact rfl); (case kF => exact rfl); (case kK => assumption); (case k1 => k_asm); (case k2 => k_asm); (case k3 => k_asm); (case k4 => k_asm); (case k5 => k_asm); (case k6 => k_is); (case k7 => k_is); (case k8 => ktr_room); (case k9 => first | exact BindsTo.of_eq rfl | exact binds_K (by k_in) rfl (by k_is) rfl rfl rfl); (case c5 => decide); (case kB => exact locs rfl); (case c2 => exact rfl); (case c3 => exact rfl); (case c4 => exact rfl); k_whole; intro g' L' h' FG' F' N' B' X' T'; (try dsimp only); (try k_lift B'); (try k_fold)))
local macro_rules | `(tactic| walk_at "call builtin:sorted") => `(tactic| (k_here; (with_unfolding_all refine' kso_sorted ?k1 ?k2 ?k3 ?k4 ?k5 ?_; (case k1 => k_asm); (case k2 => k_asm); (case k3 => exact mine_list (by k_asm) (by k_mem)); (case k4 => assumption); (case k5 => assumption)); intro D' v' n' c' h' F' N' l1 i' e' p' o' b'; clear b'; (try k_lt l1); (try k_sweep)))
theorem mg_raise {w : World} {p : Program} {loose : List Str} {mean : ExcName → Option Value} {mg mb : Str → Option Value} {news : List (Addr × Obj)}
    {dp un : Nat} {gd : Option (List Code)} {cn : Str} {cs : Scope} {a : Addr} {ccd : Value} {cl : List (Str × Addr)} {outer : List Env} {A₀ : Around} {base h₀ : Heap} {L : Addr} {m : Str → Option Value} {s : Shared} {Q E : Value → Shared → Prop}
    {D : Addr} {vs : List Value} {ns : List Int} {k : Nat} {tk : Tok}
    (B : Below A₀ base outer h₀) (F : Fr h₀ L s.heap m) (X : (hd.heap_39 w.params).In h₀) (N : News h₀ L s.heap ((D, listOf vs.toArray k) :: news)) (T : Top p loose mean mg mb h₀) (hk : cs.kind = .function)
    (hi : IntsAre vs ns) (h0 : ns.length = 0) (hl : ns.length < 64)
    (hdp : dp + 1 < recursionLimit) (hun : un + 8 < cLine)
    (hret : ∀ (e t' : Addr) (g' h' : Heap) (tk' tk'' : Nat) (ex : List (Addr × Obj)), RaisedK base (envX cn cs L a ccd cl :: outer) e (.ref 59) t' [.str "no median for empty data" tk''] ex h' → Heap.UpToSlots g' h' → Fr h₀ L g' m → E (.ref e) { s with heap := h', toks := tk' }) :
    wpAny (model lw.prog w) (ktrTop dp un gd cn cs L a ccd cl outer) (call (.ref 77) [.ref D, .int 12 tk]) Q E s := by
  refine wpAny_call ?_
  k_dflt cell_enter
  k_steps
  all_goals ((rename List.Perm _ _ => p9); (have hl9 := p9.length_eq))
  all_goals first
    | (exfalso; omega)
    | exact hret _ _ _ _ _ _ _ (by assumption) (by assumption) (by assumption)
end
end partRaise

section partEs
/-- e is an instance of a class of the text's own, made straight from ValueError, that has no __str__ of its own; it was made with the one argument x -/
structure OwnVE (h : Heap) (e t0 : Addr) (x : Str) (tk : Tok) : Prop where
  is : ∃ (oe : Obj) (vs : Array Value) (C N : Addr) (nm q : Str) (bs : List Value) (hdct : Bool) (sn : List Str) (sub : List Value) (ab : Bool) (col : Option Bool) (dd : Option Addr) (k0 k1 k2 k3 k5 : Option Value) (newId : String) (mN : Str → Option Value),
    h.get? e = some oe ∧ oe.cls = .ref C ∧ oe.data = .fields vs ∧ vs[0]? = some (.ref t0) ∧
    h.get? C = some (excClassObj nm q C N bs [.type "ValueError", .type "Exception", .type "BaseException", .type "object"] hdct sn sub ab col dd k0 k1 k2 k3 k5 newId) ∧ h.Ns N mN ∧ mN "__str__" = none ∧ h.TupAt t0 [.str x tk]
section
variable {prog : Program} {w : World} {A : Around} {E : Value → Shared → Prop} {s : Shared} {e t0 : Addr} {x : Str} {tk : Tok}
theorem special_ve {M : Model} {Q : Option Value → Shared → Prop} (X : OwnVE s.heap e t0 x tk) (hq : Q (some (.builtin "BaseException.__str__")) s) : wpAny M A (specialOf (.ref e) "__str__") Q E s := by
  obtain ⟨oe, vs, C, N, nm, q, bs, hdct, sn, sub, ab, col, dd, k0, k1, k2, k3, k5, newId, mN, he, hc, hd, h0, hC, hN, hno, ht⟩ := X.is
  unfold specialOf
  refine wpAny_bind (wpAny_typeOf_ref he ?_)
  rw [hc]
  refine wpAny_typeLookup_exc hC hN PySem.F.excBase_ValueError.mroIs PySem.F.excStr_ValueError.str.lookup ?_
  rw [hno]
  exact hq
theorem check_ve {M : Model} {Q : Unit → Shared → Prop} (X : OwnVE s.heap e t0 x tk) (hq : Q () s) : wpAny M A (checkBuiltinCall "BaseException.__str__" ⟨[.ref e], []⟩) Q E s := by
  obtain ⟨oe, vs, C, N, nm, q, bs, hdct, sn, sub, ab, col, dd, k0, k1, k2, k3, k5, newId, mN, he, hc, hd, h0, hC, hN, hno, ht⟩ := X.is
  have hk : builtinKind "BaseException.__str__" = some .slot := by decide +kernel
  have hsplit : splitId "BaseException.__str__" = some ("BaseException", "__str__") := by decide +kernel
  have ha := PySem.F.args_bexc_str (.ref e)
  simp only [checkBuiltinCall, hk, hsplit]
  refine wpAny_bind ?_
  · unfold isInstance
    refine wpAny_bind (wpAny_typeOf_ref he ?_)
    rw [hc]
    refine wpAny_isSubtype_exc hC ?_
    rw [List.contains_cons, PySem.F.excBase_ValueError.hasBase, Bool.or_true]
    simp only [Bool.not_true, Bool.false_eq_true, if_false]
    cases hsig : Manifest.signature? "BaseException.__str__" with
    | none => exact wpAny_pure hq
    | some sig =>
      simp only [argsOk, hsig] at ha
      have h2 : Bind.checkArgs "BaseException.__str__" sig ⟨[.ref e], []⟩ = pure () := ha
      show wpAny M A (Bind.checkArgs "BaseException.__str__" sig ⟨[.ref e], []⟩) Q E s
      rw [h2]; exact wpAny_pure hq
theorem args_ve {M : Model} {Q : Value × List Value → Shared → Prop} (X : OwnVE s.heap e t0 x tk) (hq : Q (.ref t0, [.str x tk]) s) : wpAny M A (PySem.Builtin.BaseException.bexcArgs (.ref e)) Q E s := by
  obtain ⟨oe, vs, C, N, nm, q, bs, hdct, sn, sub, ab, col, dd, k0, k1, k2, k3, k5, newId, mN, he, hc, hd, h0, hC, hN, hno, ot, k, hto, _, htd⟩ := X.is
  unfold PySem.Builtin.BaseException.bexcArgs
  refine wpAny_bind (wpAny_field he hd h0 (wpAny_bind (wpAny_seqItems hto htd ?_)))
  exact wpAny_pure hq
theorem entry_ve {Q : Fin → Shared → Prop} (X : OwnVE s.heap e t0 x tk) (hq : Q (.done (.ret (.str x tk))) s) :
    wpAny (model prog w) A (Builtin.«BaseException.__str__» ⟨[.ref e], []⟩) Q E s := by
  unfold Builtin.«BaseException.__str__»
  repeat (first | with_reducible refine args_ve X ?_ | wp_step)
  exact hq
theorem call_ve {Q : Value → Shared → Prop} (X : OwnVE s.heap e t0 x tk) (hq : Q (.str x tk) s) : wpAny (model prog w) A (call (.builtin "BaseException.__str__") [.ref e]) Q E s := by
  refine wpAny_call (codeAny_call_builtin PySem.F.excStr_ValueError.str.plain PySem.F.entry_bexc_str (check_ve X (entry_ve X ?_)))
  exact hq
theorem special_call_ve {Q : Option Value → Shared → Prop} (X : OwnVE s.heap e t0 x tk) (hq : Q (some (.str x tk)) s) : wpAny (model prog w) A (callSpecial? (.ref e) "__str__") Q E s := by
  simp only [callSpecial?]
  refine wpAny_bind (special_ve X ?_)
  simp only [PySem.F.excStr_ValueError.str.bind]
  exact wpAny_holding (wpAny_bind (wpAny_pure (wpAny_bind (wpAny_mono (call_ve (Q := fun v s' => Q (some v) s') X hq) (fun v s' h' => wpAny_pure h') fun _ _ h' => h'))))
theorem strOf_ve (hu : A.units < cLine) {Q : Value → Shared → Prop} (X : OwnVE s.heap e t0 x tk) (hq : Q (.str x tk) s) : wpAny (model prog w) A (PySem.Builtin.Str.strOf (.ref e)) Q E s := by
  unfold PySem.Builtin.Str.strOf
  repeat (first | with_reducible refine wpAny_cRoomFor hu ?_ | with_reducible refine special_call_ve X ?_ | wp_step)
  exact hq
theorem str_ve (hu : A.units + 2 < cLine) {Q : Value → Shared → Prop} (X : OwnVE s.heap e t0 x tk) (hq : Q (.str x tk) s) : wpAny (model prog w) A (call (.type "str") [.ref e]) Q E s :=
  callType_new PySem.F.called_str (by decide) (PySem.F.typeCall_str_1 _) (PySem.F.newCall_str_1 _) (fun obj => PySem.F.args_object_init_2 obj _) PySem.F.entry_str_new
    (meets_str_new (S := fun A' R s' => A'.units + 1 < cLine ∧ OwnVE s'.heap e t0 x tk ∧ R (.ok (.ret (.str x tk))) s')
      fun _ _ A' _ _ hq => strOf_ve (A := A'.in1) hq.1 hq.2.1 hq.2.2)
    ⟨(show A.units + 1 + 1 < cLine from hu), X, typeIs_str _ _ _, hq⟩
end
end partEs

section partCt
section
variable {prog : Program} {w : World} {A : Around} {E : Value → Shared → Prop} {s' : Shared} {h₀ h : Heap} {outer : List Env} {L a e t : Addr} {m : Str → Option Value} {name : Str} {scope : Scope} {cd : Value} {cl : List (Str × Addr)}
  {vs : List Value} {n : Str} {b₀ : Stmt} {suite : List Stmt} {pos np : Pos} {rest : List ExceptHandler} {Q : Flow → Shared → Prop} {news : List (Addr × Obj)} {KF : Frag} {C : Addr} {bmB : List Value} {newId : String}
  {p : Program} {loose : List Str} {mean : ExcName → Option Value} {mg mb : Str → Option Value} {x : Str}
theorem caught_cells (hA : A.frames = some (envX name scope L a cd cl :: outer)) (F : Fr h₀ L h m) (hsm : h.UpToSlots s'.heap) (R : RaisedK h₀ (envX name scope L a cd cl :: outer) e (.ref C) t vs news s'.heap)
    (X : KF.In h₀) (T : TopRead p loose mg mb h₀) (ex : nsIn KF mainGlobals x = some (some (.ref C))) (q : excIn KF C bmB newId = true) (hbase : bmB.contains (.type "BaseException") = true)
    (hk : scope.kind = .function) (hlo : (envX name scope L a cd cl).kindOf n = some .local) (hx : (envX name scope L a cd cl).kindOf x = some .globalImplicit) (hd : (x == ("__debug__" : Str)) = false)
    (k : ∀ h' news₂ tk, Fr h₀ L h' (fun y => if y = n then some (.ref e) else m y) → News h₀ L h' news₂ → Got news₂ e t (.ref C) vs →
      wpAny (model prog w) (A.mark (some (.ref e))) (execs (b₀ :: suite) (envX name scope L a cd cl))
        (fun f s₄ => wpAny (model prog w) A (do bindName (envX name scope L a cd cl) n .none; unbindBehindTheSuite (envX name scope L a cd cl) n pos) (fun _ s₅ => Q f s₅) E s₄) (fun _ _ => False) { s' with heap := h', toks := tk }) :
    wpAny (model prog w) A (noteFrame (.ref e) (envX name scope L a cd cl))
      (fun _ s₂ => wpAny (model prog w) A (setFlight (.ref e) none) (fun _ s₃ =>
        wpAny (model prog w) A (handleBy (.ref e) (envX name scope L a cd cl) (.ExceptHandler (some (.Name x np)) (some n) (b₀ :: suite) pos :: rest)) Q E s₃) E s₂) E s' := by
  obtain ⟨⟨B, hB, _, hfl, hnew⟩, htup⟩ := R
  refine wpAny_looks_onW hA rfl hfl fun h₄ hheld₄ hsm₄ => ?_
  refine wpAny_landsW hheld₄ fun h₅ hheld hsm₅' => ?_
  have hsm₅ := hsm₄.trans hsm₅'
  have hheld' := flyingW_base hB hheld
  have F₅ := F.of_stays hheld'.1 (hsm.trans hsm₅)
  obtain ⟨ob, hob, hobc⟩ := hheld'.there
  refine wpAny_handleBy_cons (codeAny_handlers_test (nameX_K F₅ X T ex ?_ hk hx hd)) (by intro q; cases q)
  obtain ⟨bm, N, nm, qn, bs, hdct, sn, sub, ab, col, dd, k0, k1, k2, k3, k5, mN, hC, hN, hni, TL⟩ := ((own_of_in X T ex q).keeps F₅.keep).obj
  refine wpAny_excMatches_sub_self hC hob hobc (TL.hasType hbase) (codeAny_handlers_suite_as ?_)
  refine lands_againW hheld fun h₆ hfl₆ hsm₆ => ?_
  have hfl₆' := flyingW_base hB hfl₆
  have F₆ := F.of_stays hfl₆'.1 ((hsm.trans hsm₅).trans hsm₆)
  obtain ⟨oe, ws, hoe, hoec, hoed, hoe0⟩ := hfl₆'.first
  obtain ⟨ot, nt, hot, hotc, hotd⟩ := (htup.of_slots hsm₅).of_slots hsm₆
  have N₆ := News.more F₆ (News.more F₆ News.nil hot (fun es n q => by rw [hotd] at q; cases q) (fresh_of_stays hB hnew)) hoe (fun es n q => by rw [hoed] at q; cases q) hfl₆'.2.1
  refine storeX_L F₆ N₆ (fun h₇ F₇ N₇ => ?_) hk hlo
  exact wpAny_mono (k h₇ _ _ F₇ N₇ ⟨oe, ot, ws, nt, .head _, .tail _ (.head _), hoec, hoed, hoe0, hotc, hotd⟩) (fun _ _ h => h) (fun _ _ h => h.elim)
/-- the class that was caught, for str() -/
theorem ve_of_got (F : Fr h₀ L h m) (X : KF.In h₀) {news₂ : List (Addr × Obj)} (N : News h₀ L h news₂) {y : Str} {tk : Tok} (G : Got news₂ e t (.ref C) [.str y tk]) {nm q : Str} {N₀ : Addr} {bs : List Value} {hdct : Bool} {sn : List Str} {sub : List Value} {ab : Bool} {col : Option Bool} {dd : Option Addr} {k0 k1 k2 k3 k5 : Option Value}
    (hC : KF.lookup C = some (excClassObj nm q C N₀ bs [.type "ValueError", .type "Exception", .type "BaseException", .type "object"] hdct sn sub ab col dd k0 k1 k2 k3 k5 newId)) (qe : excIn KF C bmB newId = true) (hno : nsIn KF N₀ "__str__" = some none) : OwnVE h e t y tk := by
  obtain ⟨oe, ot, ws, nt, h1, h2, h3, h4, h5, h6, h7⟩ := G
  have hok : nsOkIn KF N₀ = true := by
    unfold excIn at qe
    rw [hC] at qe
    simp only [Bool.and_eq_true] at qe
    exact qe.1.2
  refine ⟨oe, ws, C, N₀, nm, q, bs, hdct, sn, sub, ab, col, dd, k0, k1, k2, k3, k5, newId, h₀.nsMap N₀, N.get h1, h3, h4, h5, F.keep _ _ (X _ _ hC), (Heap.Ns.of_isNs (isNs_of_in X hok)).keeps F.keep, nsMap_none_of_in X hok hno, ⟨ot, nt, N.get h2, h6, h7⟩⟩
end
end partCt

section partTry

def stTry : Stmt := match lawBody with
  | [_, _, _, _, _, _, _, _, s, _] => s
  | _ => .Pass default
theorem try_ok {w : World} {p : Program} {loose : List Str} {mean : ExcName → Option Value} {mg mb : Str → Option Value} {news : List (Addr × Obj)}
    {dp un : Nat} {gd : Option (List Code)} {a : Addr} {cd : Value} {outer : List Env} {A₀ : Around} {base h₀ : Heap} {L : Addr} {m : Str → Option Value} {s : Shared} {E : Value → Shared → Prop} {Q : Flow → Shared → Prop}
    (B : Below A₀ h₀ outer h₀) (F : Fr h₀ L s.heap m) (X : (hd.heap_39 w.params).In h₀) (N : News h₀ L s.heap []) (T : Top p loose mean mg mb h₀)
    (hdp : dp + 2 < recursionLimit) (hun : un + 100 < cLine)
    (hret : ∀ (m' : Str → Option Value) (h' : Heap) (tk : Nat), Fr h₀ L h' m' → News h₀ L h' [] → Q (.ret (.bool true)) { s with heap := h', toks := tk }) :
    wpAny (model lw.prog w) (ktrTop dp un gd "law" lawScope L a cd (cellsFrom (L + 1) lawScope.names []) outer) (exec stTry (lawEnv L a cd)) Q E s := by
  dsimp only [stTry, turnBody, lawEnv, lawScope, lawBody, lawDef, PySem.Challenge.pw_rs0159_01]
  with_unfolding_all refine wpAny_Try_except ?_
  k_steps
  (with_unfolding_all refine' mg_raise (ns := []) ?k1 ?k2 ?k3 ?k4 ?k5 ?k6 ?k7 ?k8 ?k9 ?k10 ?k11 ?_; (case k1 => k_asm); (case k2 => k_asm); (case k3 => k_asm); (case k4 => k_asm); (case k5 => k_asm); (case k6 => rfl); (case k7 => exact .nil); (case k8 => rfl); (case k9 => decide); (case k10 => omega); (case k11 => omega))
  intro e' t' g' h' tk' tk2' ex' R' U' Fg'
  with_unfolding_all refine' caught_cells (KF := hd.heap_39 w.params) (bmB := [.type "ValueError", .type "Exception", .type "BaseException", .type "object"]) (newId := "ValueError.__new__") rfl Fg' U' R' X ?kT ?kex ?kq ?kb ?kk ?klo ?kx ?kd ?_
  (case kT => k_asm)
  (case kex => k_ownname)
  (case kq => k_exc)
  (case kb => rfl)
  (case kk => rfl)
  (case klo => rfl)
  (case kx => rfl)
  (case kd => decide)
  intro h2 n2 tk2 F2 N2 G2
  k_steps
  with_unfolding_all refine' str_ve ?hu (ve_of_got (KF := hd.heap_39 w.params) F2 X N2 G2 (bmB := [.type "ValueError", .type "Exception", .type "BaseException", .type "object"]) (newId := "ValueError.__new__") ?hC ?hok ?hno) ?_
  (case hu => (show un + 2 < cLine); omega)
  (case hC => k_is)
  (case hok => k_exc)
  (case hno => k_is)
  k_steps
  with_unfolding_all refine' wpAny_nameGoes_keeps ?n1 F2.ns ?n2 ?n3
  (case n1 => rfl)
  (case n2 => rfl)
  (case n3 =>
    intro h3 v3 hn3 hs3
    exact hret _ _ _ (F2.set hn3 hs3) (fun q hq => nomatch hq))
end partTry

section partBody
local macro_rules | `(tactic| walk_at "memt") => `(tactic| first | with_reducible assumption | with_reducible exact List.mem_cons_self .. | (refine List.mem_cons_of_mem _ ?_; walk_at "memt"))
local macro_rules | `(tactic| walk_at "lkp") => `(tactic| first | with_reducible assumption | exact if_pos rfl | (refine (if_neg (by decide)).trans ?_; walk_at "lkp"))
local macro_rules | `(tactic| walk_at "subt") => `(tactic| first | (with_reducible exact fun _ h => h) | (with_reducible refine List.forall_mem_cons.mpr ⟨?memg, ?subg⟩; (case memg => walk_at "memt"); (case subg => walk_at "subt")) | (intro q hq; walk_at "memt"))

theorem fmod_lt {a b : Int} (h : 0 < b) : 0 ≤ Int.fmod a b ∧ Int.fmod a b < b := by
  rw [Int.fmod_eq_emod_of_nonneg a (by omega)]
  exact ⟨Int.emod_nonneg a (by omega), Int.emod_lt_of_pos a h⟩
theorem law_ok {w : World} {p : Program} {loose : List Str} {mean : ExcName → Option Value} {mg mb : Str → Option Value} {news : List (Addr × Obj)}
    {dp un : Nat} {gd : Option (List Code)} {a : Addr} {cd : Value} {outer : List Env} {A₀ : Around} {base h₀ : Heap} {L : Addr} {m : Str → Option Value} {s : Shared} {E : Value → Shared → Prop} {Q : Flow → Shared → Prop}
    {ls : Addr} {vs : List Value} {ns : List Int} {oa ob oc od om op : Obj} {va vb vc vd vm vp : Option Value}
    (B : Below A₀ h₀ outer h₀) (F : Fr h₀ L s.heap m) (X : (hd.heap_39 w.params).In h₀)
    (N : News h₀ L s.heap [(L + 1 + 1 + 1 + 1 + 1 + 1, op), (L + 1 + 1 + 1 + 1 + 1, om), (L + 1 + 1 + 1 + 1, oc), (L + 1 + 1 + 1, od), (L + 1 + 1, ob), (L + 1, oa)]) (T : Top p loose mean mg mb h₀)
    (hms : m "script" = some (.ref ls)) (hl : h₀.IsList ls vs.toArray) (hi : IntsAre vs ns) (h63 : ns.length ≤ 63)
    (ha : oa.data = .cell va) (hb : ob.data = .cell vb) (hd : od.data = .cell vd) (hc : oc.data = .cell vc) (hm : om.data = .cell vm) (hp : op.data = .cell vp)
    (hdp : dp + 2 < recursionLimit) (hun : un + 100 < cLine)
    (hret : ∀ (m' : Str → Option Value) (h' : Heap) (tk : Nat), Fr h₀ L h' m' → News h₀ L h' [] → Q (.ret (.bool true)) { s with heap := h', toks := tk }) :
    wpAny (model lw.prog w) (ktrTop dp un gd "law" lawScope L a cd (cellsFrom (L + 1) lawScope.names []) outer) (execs lawBody (lawEnv L a cd)) Q E s := by
  have hbody : ∃ st9, lawBody = [stCells, stEnum, stN, stRuns, stAhead, stBehind, stLeads, stFor, stTry, st9] := by with_unfolding_all exact ⟨_, rfl⟩
  obtain ⟨st9, hbody⟩ := hbody
  rw [hbody]
  refine wpAny_execs_cons ?_
  refine' p0_ok B F X N T hdp hun ?_
  intro lc kc cs h1 tk1 hcs hlt1 F1 N1
  refine wpAny_execs_cons ?_
  refine' enum_ok (ls := ls) (lc := lc) (vs := vs) (cs := cs) (ns := ns) B F1 X N1 T ?e1 ?e2 hl hi h63 (fun q hq => Nat.ne_of_lt (hlt1 q hq)) hcs rfl ?e3 hdp hun ?_
  (case e1 => exact (if_neg (by decide)).trans hms)
  (case e2 => exact if_pos rfl)
  (case e3 => decide)
  intro m2 cs2 cn h2 tk2 q1 q2 hcs2 h5 hcb F2 N2
  refine wpAny_execs_cons ?_
  refine' p2_ok (ls := ls) (vs := vs) (ns := ns) B F2 X N2 T q1 hl hi h63 hdp hun ?_
  intro t3 h3 tk3 F3 N3
  have hn := fmod_lt (a := (ns.length : Int)) (b := 4) (by decide)
  generalize hnv : 4 - Int.fmod (ns.length : Int) 4 = nv at F3
  have hn1 : 1 ≤ nv := by omega
  have hn4 : nv ≤ 4 := by omega
  refine wpAny_execs_cons ?_
  refine' p3_ok (lc := lc) (cs := cs2) (cn := cn) (nv := nv) (tn := t3) B F3 X N3 T ?e4 ?e5 (List.mem_cons_self ..) hcs2 h5 hcb hn1 hn4 hdp hun ?_
  (case e4 => exact (if_neg (by decide)).trans q2)
  (case e5 => exact if_pos rfl)
  intro lr kr rs h4 tk4 hrs hlt4 F4 N4
  have nlc : ∀ k : Nat, k ≤ 5 → lc ≠ L + 1 + k := fun k hk => by
    have h := hlt1 (L + 1 + 1 + 1 + 1 + 1 + 1, op) (List.mem_cons_self ..)
    have h' : @LT.lt Nat _ (L + 1 + 1 + 1 + 1 + 1 + 1) lc := h
    exact Nat.ne_of_gt (by show @LT.lt Nat _ (L + 1 + k) lc; omega)
  have nlr : ∀ k : Nat, k ≤ 5 → lr ≠ L + 1 + k := fun k hk => by
    have h := hlt4 (L + 1 + 1 + 1 + 1 + 1 + 1, op) (by walk_at "memt")
    have h' : @LT.lt Nat _ (L + 1 + 1 + 1 + 1 + 1 + 1) lr := h
    exact Nat.ne_of_gt (by show @LT.lt Nat _ (L + 1 + k) lr; omega)
  have hc4 := hcb _ (getD_mem (ns := cn) (j := 4) (by omega))
  -- ahead
  refine wpAny_execs_cons ?_
  refine' p4_ok (oa := oa) (va := va) (lc := lc) (cs := cs2) (cn := cn) (kc := kc) (news := (lr, listOf rs.toArray kr) :: (lc, listOf cs2.toArray kc) :: (L + 1 + 1 + 1 + 1 + 1 + 1, op) :: (L + 1 + 1 + 1 + 1 + 1, om) :: (L + 1 + 1 + 1 + 1, oc) :: (L + 1 + 1 + 1, od) :: (L + 1 + 1, ob) :: []) B F4 X (news_sub N4 (by walk_at "subt")) T ?e6 (by walk_at "memt") hcs2 h5 hc4.1 hc4.2 ?e7 ha hdp hun ?_
  (case e6 => exact (if_neg (by decide)).trans ((if_neg (by decide)).trans q2))
  (case e7 => exact List.forall_mem_cons.mpr ⟨nlr 0 (by omega), List.forall_mem_cons.mpr ⟨nlc 0 (by omega), List.forall_mem_cons.mpr ⟨neN (by omega), List.forall_mem_cons.mpr ⟨neN (by omega), List.forall_mem_cons.mpr ⟨neN (by omega), List.forall_mem_cons.mpr ⟨neN (by omega), List.forall_mem_cons.mpr ⟨neN (by omega), fun q hq => nomatch hq⟩⟩⟩⟩⟩⟩⟩)
  intro oa5 ta h6 tk6 hoa5 F5 N5
  have hav := fmod_lt (a := cn.getD 4 0) (b := 3) (by decide)
  generalize hav' : Int.fmod (cn.getD 4 0) 3 = av at hoa5 hav
  -- behind
  refine wpAny_execs_cons ?_
  refine' p5_ok (oa := ob) (va := vb) (lc := lc) (cs := cs2) (cn := cn) (kc := kc) (news := (lr, listOf rs.toArray kr) :: (lc, listOf cs2.toArray kc) :: (L + 1 + 1 + 1 + 1 + 1 + 1, op) :: (L + 1 + 1 + 1 + 1 + 1, om) :: (L + 1 + 1 + 1 + 1, oc) :: (L + 1 + 1 + 1, od) :: (L + 1, oa5) :: []) B F5 X (news_sub N5 (by walk_at "subt")) T ?e8 (by walk_at "memt") hcs2 h5 hc4.1 hc4.2 ?e9 hb hdp hun ?_
  (case e8 => exact (if_neg (by decide)).trans ((if_neg (by decide)).trans q2))
  (case e9 => exact List.forall_mem_cons.mpr ⟨nlr 1 (by omega), List.forall_mem_cons.mpr ⟨nlc 1 (by omega), List.forall_mem_cons.mpr ⟨neN (by omega), List.forall_mem_cons.mpr ⟨neN (by omega), List.forall_mem_cons.mpr ⟨neN (by omega), List.forall_mem_cons.mpr ⟨neN (by omega), List.forall_mem_cons.mpr ⟨neN (by omega), fun q hq => nomatch hq⟩⟩⟩⟩⟩⟩⟩)
  intro ob6 tb h7 tk7 hob6 F6 N6
  have hbv := fmod_lt (a := Int.fdiv (cn.getD 4 0) 3) (b := 3) (by decide)
  generalize hbv' : Int.fmod (Int.fdiv (cn.getD 4 0) 3) 3 = bv at hob6 hbv
  -- leads
  refine wpAny_execs_cons ?_
  refine' leads_ok (oa := oa5) (ob := ob6) (av := av) (bv := bv) (ta := ta) (tb := tb) (news := (lr, listOf rs.toArray kr) :: (lc, listOf cs2.toArray kc) :: (L + 1 + 1 + 1 + 1 + 1 + 1, op) :: (L + 1 + 1 + 1 + 1 + 1, om) :: (L + 1 + 1 + 1 + 1, oc) :: (L + 1 + 1 + 1, od) :: []) B F6 X (news_sub N6 (by walk_at "subt")) T hoa5 hob6 hav.1 hav.2 hbv.1 hbv.2 (by omega) (by omega) ?_
  intro us ys made ll kl h8 tk8 hus hT F7 N7 hlt7 hoff7
  have nll : ∀ k : Nat, k ≤ 5 → ll ≠ L + 1 + k := fun k hk => by
    have h := hlt7 (L + 1 + 1 + 1 + 1 + 1 + 1, op) (by walk_at "memt")
    have h' : @LT.lt Nat _ (L + 1 + 1 + 1 + 1 + 1 + 1) ll := h
    exact Nat.ne_of_gt (by show @LT.lt Nat _ (L + 1 + k) ll; omega)
  have nmade : ∀ q ∈ made, q.1 ≠ L + 1 + 1 + 1 ∧ q.1 ≠ L + 1 + 1 + 1 + 1 ∧ q.1 ≠ L + 1 + 1 + 1 + 1 + 1 ∧ q.1 ≠ L + 1 + 1 + 1 + 1 + 1 + 1 := fun q hq =>
    ⟨hoff7 q hq _ (List.mem_cons_of_mem _ (List.mem_map.mpr ⟨(L + 1 + 1 + 1, od), by walk_at "memt", rfl⟩)), hoff7 q hq _ (List.mem_cons_of_mem _ (List.mem_map.mpr ⟨(L + 1 + 1 + 1 + 1, oc), by walk_at "memt", rfl⟩)), hoff7 q hq _ (List.mem_cons_of_mem _ (List.mem_map.mpr ⟨(L + 1 + 1 + 1 + 1 + 1, om), by walk_at "memt", rfl⟩)), hoff7 q hq _ (List.mem_cons_of_mem _ (List.mem_map.mpr ⟨(L + 1 + 1 + 1 + 1 + 1 + 1, op), by walk_at "memt", rfl⟩))⟩
  have hcnl : ((cn.take nv.toNat).map fun r => Int.fmod r 8).length = nv.toNat := by
    rw [List.length_map, List.length_take]; omega
  have husl : us.length = 10 := by rw [hus.length]; rfl
  -- the loop over the sizes
  refine wpAny_execs_cons ?_
  refine' loop_ok (news := []) (tail := made) (oa := oa5) (ob := ob6) (od := od) (oc := oc) (om := om) (op := op) (av := av) (bv := bv) (nv := nv) (ta := ta) (tb := tb) (tn := t3) (vd := vd) (vc := vc) (vm := vm) (vp := vp) (lr := lr) (ll := ll) (kr := kr) (kl := kl) (rs := rs) (ys := ys) (vs := us) (R := (cn.take nv.toNat).map fun r => Int.fmod r 8) (made := made)
    B F7 X ?n1 T ?n2 ?n3 ?n4 hoa5 hob6 hd hc hm hp ?n5 hav.1 hav.2 hbv.1 hbv.2 hrs ?n6 ?n7 hn1 hn4 hT husl (fun q hq => hq) hdp hun ?_
  case n1 =>
    refine news_sub N7 fun q hq => ?_
    rcases List.mem_cons.mp hq with rfl | hq
    · exact List.mem_cons_of_mem _ (List.mem_append_right _ (by walk_at "memt"))
    rcases List.mem_cons.mp hq with rfl | hq
    · exact List.mem_cons_of_mem _ (List.mem_append_right _ (by walk_at "memt"))
    rcases List.mem_cons.mp hq with rfl | hq
    · exact List.mem_cons_of_mem _ (List.mem_append_right _ (by walk_at "memt"))
    rcases List.mem_cons.mp hq with rfl | hq
    · exact List.mem_cons_of_mem _ (List.mem_append_right _ (by walk_at "memt"))
    rcases List.mem_cons.mp hq with rfl | hq
    · exact List.mem_cons_of_mem _ (List.mem_append_right _ (by walk_at "memt"))
    rcases List.mem_cons.mp hq with rfl | hq
    · exact List.mem_cons_of_mem _ (List.mem_append_right _ (by walk_at "memt"))
    rcases List.mem_cons.mp hq with rfl | hq
    · exact List.mem_cons_of_mem _ (List.mem_append_right _ (by walk_at "memt"))
    rcases List.mem_cons.mp hq with rfl | hq
    · exact List.mem_cons_self ..
    · exact List.mem_cons_of_mem _ (List.mem_append_left _ hq)
  case n2 => exact (if_neg (by decide)).trans (if_pos rfl)
  case n3 => exact (if_neg (by decide)).trans ((if_neg (by decide)).trans (if_pos rfl))
  case n4 => exact if_pos rfl
  case n5 => exact List.forall_mem_cons.mpr ⟨⟨nlr 2 (by omega), nlr 3 (by omega), nlr 4 (by omega), nlr 5 (by omega)⟩, List.forall_mem_cons.mpr ⟨⟨nll 2 (by omega), nll 3 (by omega), nll 4 (by omega), nll 5 (by omega)⟩, nmade⟩⟩
  case n6 =>
    intro r hr
    obtain ⟨c, _, rfl⟩ := List.mem_map.mp hr
    exact fmod_lt (by decide)
  case n7 => rw [hcnl]; omega
  intro m9 h9 tk9 F9 N9
  refine wpAny_execs_cons ?_
  refine' try_ok (news := []) (base := h₀) B F9 X N9 T hdp hun ?_
  intro m10 h10 tk10 F10 N10
  exact hret m10 _ _ F10 N10
end partBody

section partMain
local macro_rules | `(tactic| walk_at "no such key") => `(tactic| skip)
theorem main : PySem.Challenge.rw_rs0159_01.Holds := hd (by
  k_go0
  (all_goals try k_fold)
  rename Below _ _ _ _ => K0
  rename Fr _ _ _ _ => F0
  rename News _ _ _ _ => N0
  rename Top _ _ _ _ _ _ => T0
  rename Frag.In _ _ => X0
  rename Heap.IsList _ _ _ => L0
  rename IntsAre _ _ => I0
  with_unfolding_all refine' law_ok (base := Top.heap T0) (news := []) K0 F0 X0 N0 T0 ?ms L0 I0 ?len ?ha ?hb ?hd ?hc ?hm ?hp ?dp ?un ?ret
  (case ms => with_unfolding_all rfl)
  (case len => omega)
  (case ha => assumption)
  (case hb => assumption)
  (case hd => assumption)
  (case hc => assumption)
  (case hm => assumption)
  (case hp => assumption)
  (case dp => decide)
  (case un => decide)
  case ret =>
    intro m' h' tk F' N'
    clear F0 N0
    k_steps)
end partMain

end Mine
theorem PySem.Challenge.cw_rs0159_01_holds : PySem.Challenge.rw_rs0159_01.Holds :=
  Mine.main
