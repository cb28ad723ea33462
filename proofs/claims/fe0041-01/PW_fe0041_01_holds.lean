import PyProof.Rows.All
import Wide.FinOn
import OpenK.AllK
import Wide.All
import Lean
import PySem.Challenge.RW_fe0041_01
set_option Elab.async false
section T_P0
open PySem PySem.W PyProof.Rows
set_option maxRecDepth 100000
set_option maxHeartbeats 8000000
namespace Mine
open_top hd for PySem.Challenge.rw_fe0041_01
end Mine
end T_P0
section T_D0
open PySem PySem.W PyProof.Rows
set_option maxRecDepth 100000
noncomputable section
namespace Mine
/-- the contract of a call that gives back one value and leaves nothing behind -/
abbrev Gives (d : Nat) (w : World) (mean : ExcName → Option Value) (mg mb : Str → Option Value) (f : Addr) (vs : List Value) (kw : List (Str × Value)) (R : Tok → Value) : Prop :=
  ∀ (dp un : Nat) (gd : Option (List Code)) (cn : Str) (cs : Scope) (a : Addr) (ccd : Value) (cl : List (Str × Addr)) (outer : List Env) (A₀ : Around) (base h₀ : Heap) (L : Addr) (m : Str → Option Value) (news : List (Addr × Obj)) (s : Shared) (Q E : Value → Shared → Prop),
    Below A₀ base outer h₀ → Fr h₀ L s.heap m → (hd.heap_39 w.params).In h₀ → News h₀ L s.heap news →
    Top hd.view_39 (looseW hd.view_39 [Str.ofString "b58encode_int", Str.ofString "b58encode", Str.ofString "b58decode_int", Str.ofString "b58decode"]) mean mg mb h₀ → cs.kind = .function →
    dp + d < recursionLimit → un + 16 * d < cLine → CbRet h₀ L m news s Q R →
      wpAny (model PySem.Challenge.rw_fe0041_01.row.prog w) (ktrTop dp un gd cn cs L a ccd cl outer) (call (.ref f) vs kw) Q E s

/-- the places of n to the base b, the first ahead -/
def digN (b n : Nat) : List Nat :=
  if _h : 2 ≤ b ∧ 0 < n then digN b (n / b) ++ [n % b] else []
termination_by n
decreasing_by exact Nat.div_lt_self _h.2 _h.1
theorem digN_zero (b : Nat) : digN b 0 = [] := by unfold digN; simp
theorem digN_pos {b n : Nat} (hb : 2 ≤ b) (hn : 0 < n) : digN b n = digN b (n / b) ++ [n % b] := by
  rw [digN, dif_pos ⟨hb, hn⟩]
theorem digN_lt {b : Nat} : ∀ (n : Nat), ∀ d ∈ digN b n, d < b := by
  intro n
  induction n using Nat.strongRecOn with
  | ind n ih =>
    intro d hd
    rw [digN] at hd
    split at hd
    · next h =>
      rcases List.mem_append.mp hd with hd | hd
      · exact ih _ (Nat.div_lt_self h.2 h.1) d hd
      · rw [List.mem_singleton.mp hd]; exact Nat.mod_lt _ (by omega)
    · cases hd
/-- no more places than binary ones -/
theorem digN_len {b : Nat} : ∀ (k n : Nat), n < 2 ^ k → (digN b n).length ≤ k := by
  intro k
  induction k with
  | zero => intro n h; have : n = 0 := by omega
            subst this; rw [digN_zero]; exact Nat.le_refl _
  | succ k ih =>
    intro n h
    rw [digN]
    split
    · next hc =>
      rw [List.length_append, List.length_singleton]
      have h1 : n / b ≤ n / 2 := Nat.div_le_div_left hc.1 (by omega)
      have := ih (n / b) (by rw [Nat.pow_succ] at h; omega)
      omega
    · exact Nat.zero_le _
/-- a text: the places' signs -/
def enc (al : Array UInt8) (n : Nat) : Array UInt8 := ((digN al.size n).map fun d => al.getD d 0).toArray
theorem enc_zero (al : Array UInt8) : enc al 0 = #[] := by unfold enc; rw [digN_zero]; rfl
theorem enc_pos {al : Array UInt8} {n : Nat} (hb : 2 ≤ al.size) (hn : 0 < n) : enc al n = enc al (n / al.size) ++ #[al.getD (n % al.size) 0] := by
  unfold enc; rw [digN_pos hb hn, List.map_append]; simp
theorem enc_size {al : Array UInt8} {k n : Nat} (h : n < 2 ^ k) : (enc al n).size ≤ k := by
  unfold enc; rw [List.size_toArray, List.length_map]; exact digN_len k n h

section
variable {prog : Program} {w : World} {A : Around} {E : Value → Shared → Prop} {s : Shared} {value slice : PySem.Expr} {b : Array UInt8} {t : Tok} {h₀ : Heap} {L : Addr} {m : PySem.Str → Option Value} {news : List (Addr × Obj)} {l u : Value} {lo hi : Option Int} {Q : Value → Shared → Prop}
/-- a slice of one sign -/
theorem slice_one {i : Nat} (hF : Fr h₀ L s.heap m) (hN : News h₀ L s.heap news) (hl : IsPart l lo) (hu : IsPart u hi) (hz : b.size ≤ 256) (hi0 : i < b.size) (e1 : lo.elim 0 (clipAt b.size) = i) (e2 : hi.elim b.size (clipAt b.size) = i + 1)
    (h : ∀ h' t' k, Fr h₀ L h' m → News h₀ L h' news → Q (.bytes #[b.getD i 0] t') { s with heap := h', toks := k })
    (hs : subscripted slice false (.bytes b t) (.ref s.heap.objs.size) = operate [.ref s.heap.objs.size, .bytes b t] (getItem (.bytes b t) (.ref s.heap.objs.size)) := by with_unfolding_all rfl)
    (ht : ∀ r, letTemporaryGo value (.bytes b t) r = pure () := by intro _; with_unfolding_all rfl) :
    wpAny (model prog w) A (subscriptTail value slice (.bytes b t) (.ref s.heap.objs.size)) Q E { s with heap := s.heap.push { cls := .type "slice", data := .fields #[l, u, .none] } } := by
  refine KBc.slice_K hF hN rfl hl hu (by rw [KBw.ints_length]; omega) (fun h' t' k F N _ => ?_) hs ht
  have e : KBy.picked b lo hi = #[b.getD i 0] := by
    rw [KBc.picked_eq, e1, e2, show i + 1 - i = 1 by omega]
    have hi' : i < b.toList.length := by simpa using hi0
    rw [List.drop_eq_getElem_cons hi']
    simp [Array.getD, hi0]
  rw [e]
  exact h h' t' k F N
end
end Mine
end
end T_D0
section T_D1
open PySem PySem.W PyProof.Rows
set_option maxRecDepth 100000
noncomputable section
namespace Mine
theorem use {d : Nat} {w : World} {mean : ExcName → Option Value} {mg mb : Str → Option Value} {f : Addr} {vs : List Value} {kw : List (Str × Value)} {R : Tok → Value}
    {dp un : Nat} {gd : Option (List Code)} {cn : Str} {cs : Scope} {a : Addr} {ccd : Value} {cl : List (Str × Addr)} {outer : List Env} {A₀ : Around} {base h₀ : Heap} {L : Addr} {m : Str → Option Value} {news : List (Addr × Obj)} {s : Shared} {Q E : Value → Shared → Prop}
    (C : Gives d w mean mg mb f vs kw R) (B : Below A₀ base outer h₀) (F : Fr h₀ L s.heap m) (X : (hd.heap_39 w.params).In h₀) (N : News h₀ L s.heap news)
    (T : Top hd.view_39 (looseW hd.view_39 [Str.ofString "b58encode_int", Str.ofString "b58encode", Str.ofString "b58decode_int", Str.ofString "b58decode"]) mean mg mb h₀) (hk : cs.kind = .function)
    (hd : dp + d < recursionLimit) (hu : un + 16 * d < cLine) (ret : ∀ (t : Tok) (h' : Heap) (tk' : Nat), Fr h₀ L h' m → News h₀ L h' news → Q (R t) { s with heap := h', toks := tk' }) :
    wpAny (model PySem.Challenge.rw_fe0041_01.row.prog w) (ktrTop dp un gd cn cs L a ccd cl outer) (call (.ref f) vs kw) Q E s := C _ _ _ _ _ _ _ _ _ _ _ _ _ _ _ _ _ _ B F X N T hk hd hu ret
theorem ne_tail {a b : Nat} {l : List (Addr × Obj)} (h : ∀ p ∈ l, p.1 < a) (hab : a ≤ b) : ∀ p ∈ l, p.1 ≠ b := fun p hp => Nat.ne_of_lt (Nat.lt_of_lt_of_le (h p hp) hab)
theorem allLt_to {d : Addr} : ∀ {l : List (Addr × Obj)}, AllLt d l → ∀ p ∈ l, p.1 < d
  | [], _, _, h => nomatch h
  | q :: r, ⟨h1, h2⟩, p, h => by
    rcases List.mem_cons.mp h with rfl | h
    · exact h1
    · exact allLt_to h2 p h
theorem fm_lo {x : Int} {b : Nat} (hb : 2 ≤ b) : 0 ≤ Int.fmod x (b : Int) := Int.fmod_nonneg_of_pos x (by omega)
theorem fm_hi {x : Int} {b : Nat} (hb : 2 ≤ b) : Int.fmod x (b : Int) < (b : Int) := Int.fmod_lt_of_pos x (by omega)
section
variable {prog : Program} {w : World} {A : Around} {E : Value → Shared → Prop} {s : Shared} {value slice : PySem.Expr} {b c : Array UInt8} {t u' : Tok} {h₀ : Heap} {L : Addr} {m : PySem.Str → Option Value} {news : List (Addr × Obj)} {l u : Value} {lo hi : Option Int} {Q : Value → Shared → Prop}
theorem slice_oneI {k : Int} (hF : Fr h₀ L s.heap m) (hN : News h₀ L s.heap news) (hl : IsPart l (some k)) (hu : IsPart u (some (k + 1))) (hz : b.size ≤ 256) (h0 : 0 ≤ k) (h1 : k < b.size)
    (h : ∀ h' t' k', Fr h₀ L h' m → News h₀ L h' news → Q (.bytes #[b.getD k.toNat 0] t') { s with heap := h', toks := k' })
    (hs : subscripted slice false (.bytes b t) (.ref s.heap.objs.size) = operate [.ref s.heap.objs.size, .bytes b t] (getItem (.bytes b t) (.ref s.heap.objs.size)) := by with_unfolding_all rfl)
    (ht : ∀ r, letTemporaryGo value (.bytes b t) r = pure () := by intro _; with_unfolding_all rfl) :
    wpAny (model prog w) A (subscriptTail value slice (.bytes b t) (.ref s.heap.objs.size)) Q E { s with heap := s.heap.push { cls := .type "slice", data := .fields #[l, u, .none] } } :=
  slice_one (i := k.toNat) hF hN hl hu hz (by omega) (clipAt_in h0 (by omega)) ((clipAt_in (by omega) (by omega)).trans (by omega)) h hs ht
theorem slice_first (hF : Fr h₀ L s.heap m) (hN : News h₀ L s.heap news) (hl : IsPart l (some 0)) (hu : IsPart u (some 1)) (hz : b.size ≤ 256) (h1 : 0 < b.size)
    (h : ∀ h' t' k', Fr h₀ L h' m → News h₀ L h' news → Q (.bytes #[b.getD 0 0] t') { s with heap := h', toks := k' })
    (hs : subscripted slice false (.bytes b t) (.ref s.heap.objs.size) = operate [.ref s.heap.objs.size, .bytes b t] (getItem (.bytes b t) (.ref s.heap.objs.size)) := by with_unfolding_all rfl)
    (ht : ∀ r, letTemporaryGo value (.bytes b t) r = pure () := by intro _; with_unfolding_all rfl) :
    wpAny (model prog w) A (subscriptTail value slice (.bytes b t) (.ref s.heap.objs.size)) Q E { s with heap := s.heap.push { cls := .type "slice", data := .fields #[l, u, .none] } } :=
  slice_one (i := 0) hF hN hl hu hz h1 (clipAt_in (by omega) (by omega)) ((clipAt_in (by omega) (by omega)).trans rfl) h hs ht
theorem slice_head (hF : Fr h₀ L s.heap m) (hN : News h₀ L s.heap news) (hl : IsPart l none) (hu : IsPart u (some 1)) (hz : b.size ≤ 256) (h1 : 0 < b.size)
    (h : ∀ h' t' k', Fr h₀ L h' m → News h₀ L h' news → Q (.bytes #[b.getD 0 0] t') { s with heap := h', toks := k' })
    (hs : subscripted slice false (.bytes b t) (.ref s.heap.objs.size) = operate [.ref s.heap.objs.size, .bytes b t] (getItem (.bytes b t) (.ref s.heap.objs.size)) := by with_unfolding_all rfl)
    (ht : ∀ r, letTemporaryGo value (.bytes b t) r = pure () := by intro _; with_unfolding_all rfl) :
    wpAny (model prog w) A (subscriptTail value slice (.bytes b t) (.ref s.heap.objs.size)) Q E { s with heap := s.heap.push { cls := .type "slice", data := .fields #[l, u, .none] } } :=
  slice_one (i := 0) hF hN hl hu hz h1 rfl ((clipAt_in (by omega) (by omega)).trans rfl) h hs ht
theorem mul_one {x : UInt8} {n : Int} (hlo : -1048576 ≤ n) (hn : n ≤ 1048576) (h : ∀ t' k, Q (.bytes (List.replicate n.toNat x).toArray t') { s with toks := k }) :
    wpAny (model prog w) A (binaryOp .Mult (.bytes #[x] t) (.int n u')) Q E s := by
  refine bytes_mul_any (b := [x]) (List.cons_ne_nil _ _) hlo hn (by simp) fun t' k => ?_
  have e : (List.replicate n.toNat [x]).flatten = List.replicate n.toNat x := by
    generalize n.toNat = j
    induction j with
    | zero => rfl
    | succ j ih => rw [List.replicate_succ, List.flatten_cons, ih, List.replicate_succ]; rfl
  rw [e]
  exact h t' k
theorem add_b (hsz : b.size + c.size ≤ 16777216) (h : ∀ t' k, Q (.bytes (b ++ c) t') { s with toks := k }) : wpAny (model prog w) A (binaryOp .Add (.bytes b t) (.bytes c u')) Q E s :=
  KBa.add_K rfl rfl (by rw [KBw.ints_length, KBw.ints_length]; exact hsz) fun t' k _ => h t' k
theorem len_b (hfit : b.size ≤ 1099511627776) (h : Q (.int (b.size : Nat) (s.toks + 1)) { s with toks := s.toks + 1 + 1 }) : wpAny (model prog w) A (call (.builtin "len") [.bytes b t]) Q E s :=
  KBw.len_K rfl (by rw [KBw.ints_length]; exact hfit) (by rw [KBw.ints_length]; exact h)
end
structure EncInv (al : Array UInt8) (n : Nat) (i : Int) (string : Array UInt8) : Prop where
  lo : 0 ≤ i
  hi : i ≤ (n : Int)
  eq : enc al n = enc al i.toNat ++ string
theorem enc_start {al : Array UInt8} {n : Nat} : EncInv al n (n : Int) #[] := ⟨by omega, Int.le_refl _, by simp⟩
theorem enc_turn {al : Array UInt8} {n : Nat} {i : Int} {string : Array UInt8} (h : EncInv al n i string) (h2 : 2 ≤ al.size) (hi : i ≠ 0) :
    EncInv al n (i.fdiv (al.size : Int)) (#[al.getD (i.fmod (al.size : Int)).toNat 0] ++ string) := by
  obtain ⟨h0, h1, e⟩ := h
  obtain ⟨k, rfl⟩ := Int.eq_ofNat_of_zero_le h0
  have hk : 0 < k := by omega
  have e1 : (k : Int).fdiv (al.size : Int) = ((k / al.size : Nat) : Int) := by
    rw [Int.fdiv_eq_ediv_of_nonneg _ (by omega)]; rfl
  have e2 : (k : Int).fmod (al.size : Int) = ((k % al.size : Nat) : Int) := by
    rw [Int.fmod_eq_emod_of_nonneg _ (by omega)]; rfl
  rw [e1, e2]
  refine ⟨Int.natCast_nonneg _, Int.ofNat_le.mpr (Nat.le_trans (Nat.div_le_self _ _) (by omega)), ?_⟩
  · rw [e, Int.toNat_natCast, enc_pos h2 hk, Int.toNat_natCast, Int.toNat_natCast, Array.append_assoc]
theorem enc_less {al : Array UInt8} {i : Int} (h2 : 2 ≤ al.size) {n : Nat} {string : Array UInt8} (h : EncInv al n i string) (hi : i ≠ 0) : (i.fdiv (al.size : Int)).toNat < i.toNat := by
  obtain ⟨k, rfl⟩ := Int.eq_ofNat_of_zero_le h.lo
  rw [Int.fdiv_eq_ediv_of_nonneg _ (by omega)]
  show (((k : Nat) : Int) / ((al.size : Nat) : Int)).toNat < _
  rw [show ((k : Int) / (al.size : Int)) = ((k / al.size : Nat) : Int) from rfl, Int.toNat_natCast, Int.toNat_natCast]
  exact Nat.div_lt_self (by omega) (by omega)
theorem enc_size_of {al : Array UInt8} {n k : Nat} {i : Int} {string : Array UInt8} (h : EncInv al n i string) (hn : n < 2 ^ k) : string.size ≤ k := by
  have h1 := enc_size (al := al) hn
  rw [h.eq, Array.size_append] at h1
  omega
theorem enc_end {al : Array UInt8} {n : Nat} {i : Int} {string : Array UInt8} (h : EncInv al n i string) (hi : i = 0) : string = enc al n := by
  rw [h.eq, hi]; show string = enc al 0 ++ string; rw [enc_zero]; simp
end Mine
end
end T_D1
section T_C1
open PySem PySem.W PyProof.Rows
set_option maxRecDepth 100000
namespace Mine
theorem reset_C1 : True := by
  w_top off
  trivial
-- HDR BEGIN
local macro_rules | `(tactic| cell_enter) => `(tactic| first
  | (refine' code_def ?k1 ?k2 ?k3 ?k4 ?k5 ?kA ?kF ?kK ?k6 ?k7 ?k8 ?k9 ?kB ?_ ?c2 ?c3 ?c4 ?c5; (case kA => exact rfl); (case kF => exact rfl); (case kK => first | exact rfl | assumption); (case k1 => k_asm); (case k2 => k_asm); (case k3 => k_asm); (case k4 => k_asm); (case k5 => k_asm); (case k6 => k_is); (case k7 => k_is); (case k8 => ktr_room); (case k9 => first | exact BindsTo.of_eq rfl | exact binds_K (by k_in) rfl (by k_is) rfl rfl rfl | (refine' kp_binds ?kx ?ke; (case kx => k_in); (case ke => exact fun _ => rfl))); (case c5 => decide); (case kB => exact locs rfl); (case c2 => exact rfl); (case c3 => exact rfl); (case c4 => exact rfl); k_whole; intro g' L' h' FG' F' N' B' X' T'; (try dsimp only); (try k_lift B'); (try k_fold))
  | (refine' code_defC ?k1 ?k2 ?k3 ?k4 ?k5 ?kA ?kF ?kK ?k6 ?k7 ?k8 ?k9 ?kB ?kD ?_ ?c2 ?c3 ?c4; (case kA => exact rfl); (case kF => exact rfl); (case kK => first | exact rfl | assumption); (case k1 => k_asm); (case k2 => k_asm); (case k3 => k_asm); (case k4 => k_asm); (case k5 => k_asm); (case k6 => k_is); (case k7 => k_is); (case k8 => ktr_room); (case k9 => first | exact BindsTo.of_eq rfl | exact binds_K (by k_in) rfl (by k_is) rfl rfl rfl | (refine' kp_binds ?kx ?ke; (case kx => k_in); (case ke => exact fun _ => rfl))); (case kB => exact rfl); (case kD => decide +kernel); (case c2 => exact rfl); (case c3 => exact rfl); (case c4 => exact rfl); k_whole; intro g' L' h' tk' cells' FG' F' N' Y' B' X' T' l1; (try k_lt l1); k_cells Y'; (try simp only [List.cons_append, List.nil_append] at N'); (try dsimp only); (try k_lift B'); (try k_fold)))
local macro_rules | `(tactic| walk_at "call ref") => `(tactic| (k_here; k_dflt (refine wpAny_call ?_; cell_enter)))
local macro_rules | `(tactic| k_all) => `(tactic| exact ne_tail (by assumption) (by first | exact Nat.le_refl _ | exact Nat.le_succ _ | omega))
-- HDR END
section
local macro_rules | `(tactic| walk_at "subscriptTail") => `(tactic| (k_here; (with_reducible show wpAny _ _ (subscriptTail _ (Expr.Slice _ _ none _) (Value.bytes _ _) (Value.ref _)) _ _ _); (with_reducible rename Fr _ _ _ _ => F'); (with_reducible rename News _ _ _ _ => N'); (refine slice_oneI (s := ⟨_, _, _, _, _⟩) F' N' (by constructor) (by constructor) (by omega) (fm_lo (by assumption)) (fm_hi (by assumption)) ?_); intro _ _ _ _ _))
local macro_rules | `(tactic| walk_at "binaryOp Add bytes bytes") => `(tactic| (k_here; (refine add_b (by (have hsz := enc_size_of (by assumption) (by assumption)); (try simp only [List.size_toArray, List.length_cons, List.length_nil]); omega) ?_); intro _ _))
set_option maxHeartbeats 8000000 in
theorem enc_int {w : World} {mean : ExcName → Option Value} {mg mb : Str → Option Value} (n : Nat) (t1 t2 : Tok) (al : Array UInt8) (h2 : 2 ≤ al.size) (h256 : al.size ≤ 256) (hn : n < 2 ^ 90) :
    Gives 3 w mean mg mb 29 [.int n t1, .bool false, .bytes al t2] [] (fun t => .bytes (enc al n) t) := by
  unfold Gives
  k_fill
  intro dp un gd cn cs a ccd cl outer A₀ base h₀ L m news s Q E B F X N T hk hd hu hret
  refine wpAny_call ?_
  k_dflt cell_enter
  k_with "state" => first | exact enc_start | exact enc_turn (by assumption) (by assumption) (by assumption)
  k_with "measure" => exact enc_less (by assumption) (by assumption) (by assumption)
  k_with "exec While Name cons nil" => k_while (fun _ i string => EncInv al n i string) (fun _ i _ => i.toNat) "i" "string"
  k_with "exec" => k_while (fun _ i string => EncInv al n i string) (fun _ i _ => i.toNat) "i" "string"
  k_steps
  all_goals (first | exact hret _ _ _ (by k_asm) (by k_asm) | (have he := enc_end (by assumption) (by assumption); subst he; exact hret _ _ _ (by k_asm) (by k_asm)) | skip)
  all_goals (try w_report)
set_option maxHeartbeats 8000000 in
theorem enc_int_kw {w : World} {mean : ExcName → Option Value} {mg mb : Str → Option Value} (n : Nat) (t1 t2 : Tok) (al : Array UInt8) (h2 : 2 ≤ al.size) (h256 : al.size ≤ 256) (hn : n < 2 ^ 90) :
    Gives 3 w mean mg mb 29 [.int n t1] [(Str.ofString "default_one", .bool false), (Str.ofString "alphabet", .bytes al t2)] (fun t => .bytes (enc al n) t) := by
  unfold Gives
  k_fill
  intro dp un gd cn cs a ccd cl outer A₀ base h₀ L m news s Q E B F X N T hk hd hu hret
  refine wpAny_call ?_
  k_dflt cell_enter
  k_with "state" => first | exact enc_start | exact enc_turn (by assumption) (by assumption) (by assumption)
  k_with "measure" => exact enc_less (by assumption) (by assumption) (by assumption)
  k_with "exec While Name cons nil" => k_while (fun _ i string => EncInv al n i string) (fun _ i _ => i.toNat) "i" "string"
  k_with "exec" => k_while (fun _ i string => EncInv al n i string) (fun _ i _ => i.toNat) "i" "string"
  k_steps
  all_goals (first | exact hret _ _ _ (by k_asm) (by k_asm) | (have he := enc_end (by assumption) (by assumption); subst he; exact hret _ _ _ (by k_asm) (by k_asm)) | skip)
  all_goals (try w_report)
end
end Mine
end T_C1
section T_R1
open PySem PySem.W PyProof.Rows PySem.Calls PySem.Spec
set_option maxRecDepth 100000
namespace Mine
open Builtin
theorem slot_bytes_lstrip : Slot "bytes" "lstrip" "bytes.lstrip" :=
  .of (owner := "bytes") (n := "lstrip") (by rw [typeLookup_type, builtinLookup_eq_fast]; kernel_rfl) (by decide +kernel) (by decide +kernel) (by decide +kernel)
    (by first | exact .inl (by decide +kernel) | exact .inr (by decide +kernel)) (by rw [isSubtype_type]; kernel_rfl)
theorem type_bytes_lstrip : typeOf (.builtin "bytes.lstrip") = pure (.type "method_descriptor") := by show builtinType _ = _; rw [builtinType_eq_fast]; kernel_rfl
theorem entry_bytes_lstrip : entryFor table "bytes.lstrip" = some Builtin.«bytes.lstrip» := entryFor_of_tree (by kernel_rfl)
theorem args_bytes_lstrip (a b : Value) : argsOk "bytes.lstrip" ⟨[a, b], []⟩ := by unfold argsOk; kernel_rfl
theorem slot_bytes_rstrip : Slot "bytes" "rstrip" "bytes.rstrip" :=
  .of (owner := "bytes") (n := "rstrip") (by rw [typeLookup_type, builtinLookup_eq_fast]; kernel_rfl) (by decide +kernel) (by decide +kernel) (by decide +kernel)
    (by first | exact .inl (by decide +kernel) | exact .inr (by decide +kernel)) (by rw [isSubtype_type]; kernel_rfl)
theorem type_bytes_rstrip : typeOf (.builtin "bytes.rstrip") = pure (.type "method_descriptor") := by show builtinType _ = _; rw [builtinType_eq_fast]; kernel_rfl
theorem entry_bytes_rstrip : entryFor table "bytes.rstrip" = some Builtin.«bytes.rstrip» := entryFor_of_tree (by kernel_rfl)
theorem args_bytes_rstrip (a : Value) : argsOk "bytes.rstrip" ⟨[a], []⟩ := by unfold argsOk; kernel_rfl
/-- without the signs of c ahead -/
def stripS (c v : Array UInt8) : Array UInt8 := (v.toList.dropWhile c.contains).toArray
theorem stripS_le (c v : Array UInt8) : (stripS c v).size ≤ v.size := by
  unfold stripS
  rw [List.size_toArray, ← Array.length_toList]; exact (List.dropWhile_suffix _).length_le
theorem drop_same {α : Type} {p : α → Bool} {l : List α} (h : (l.dropWhile p).length = l.length) : l.dropWhile p = l := by
  have := List.dropWhile_suffix (l := l) p
  exact this.eq_of_length h
section
variable {b c : Array UInt8} {t u : Tok}
theorem meets_lstrip (b c : Array UInt8) (t u : Tok) :
    Meets («bytes.lstrip» ⟨[.bytes b t, .bytes c u], []⟩) (fun _ R s => b.size ≤ sizeLine ∧ ∀ t' k, R (.ok (.ret (.bytes (b.toList.dropWhile c.contains).toArray t'))) { s with toks := k }) := by
  refine .of_wp fun prog w A R s hS => ?_
  obtain ⟨hsz, h⟩ := hS
  show wpAny _ _ (selfAndSome _ "lstrip" 0 1 ⟨[.bytes b t, .bytes c u], []⟩ >>= fun r => _) _ _ s
  refine wpAny_bind (wpAny_of_eq (a := (.bytes b t, [.bytes c u])) (by kernel_rfl) ?_)
  show wpAny _ _ (Bytes.bytesLike _ (.bytes c u) >>= fun x => _) _ _ s
  refine wpAny_bind (wpAny_of_eq KBd.like_eq ?_)
  refine wpAny_bind (wpAny_pure ?_)
  show wpAny _ _ (Bytes.payload (.bytes b t) >>= fun r => _) _ _ s
  refine wpAny_bind (wpAny_of_eq (a := b) rfl ?_)
  by_cases hc : (b.toList.dropWhile c.contains).length = b.size
  · have e : b.toList.dropWhile c.contains = b.toList := drop_same (by rw [hc, Array.length_toList])
    refine wpAny_ite (KBc.ite_yes (by show ((b.toList.dropWhile c.contains).length == b.size) = true; exact beq_iff_eq.mpr hc) ?_)
    refine wpAny_bind (wpAny_rule ?_)
    show wpAny _ _ (Bytes.Kind.same .bytes (.bytes b t) >>= fun v => _) _ _ s
    unfold Bytes.Kind.same
    refine wpAny_bind (wpAny_ite (KBc.ite_yes rfl ?_))
    refine wpAny_bind (wpAny_typeOf (typeIs_bytes _ b t) ?_)
    refine wpAny_ite (KBc.ite_yes rfl ?_)
    refine wpAny_pure (wpAny_pure ⟨_, rfl, ?_⟩)
    have := h t s.toks
    rw [e, Array.toArray_toList] at this
    exact this
  · refine wpAny_ite (KBy.ite_no (by show ¬ ((b.toList.dropWhile c.contains).length == b.size) = true; rw [beq_iff_eq]; exact hc) ?_)
    have hle : (b.toList.dropWhile c.contains).length ≤ b.size := by
      rw [← Array.length_toList]; exact (List.dropWhile_suffix _).length_le
    exact wpAny_bind (wpAny_mkBytes (wpAny_pure ⟨_, rfl, h _ _⟩) (by rw [List.size_toArray]; exact Nat.le_trans hle hsz))
theorem meets_rstrip (b : Array UInt8) (t : Tok) (hs : ∀ x ∈ b.toList, Bytes.isSpace x = false) :
    Meets («bytes.rstrip» ⟨[.bytes b t], []⟩) (fun _ R s => ∀ k, R (.ok (.ret (.bytes b t))) { s with toks := k }) := by
  refine .of_wp fun prog w A R s h => ?_
  show wpAny _ _ (selfAndSome _ "rstrip" 0 1 ⟨[.bytes b t], []⟩ >>= fun r => _) _ _ s
  refine wpAny_bind (wpAny_of_eq (a := (.bytes b t, [])) (by kernel_rfl) ?_)
  show wpAny _ _ (pure Bytes.isSpace >>= fun drop => _) _ _ s
  refine wpAny_bind (wpAny_pure ?_)
  show wpAny _ _ (Bytes.payload (.bytes b t) >>= fun r => _) _ _ s
  refine wpAny_bind (wpAny_of_eq (a := b) rfl ?_)
  have e : (b.toList.reverse.dropWhile Bytes.isSpace).reverse = b.toList := by
    have : b.toList.reverse.dropWhile Bytes.isSpace = b.toList.reverse := by
      cases hr : b.toList.reverse with
      | nil => rfl
      | cons x r =>
        rw [List.dropWhile_cons_of_neg]
        rw [hs x (by rw [← List.mem_reverse, hr]; exact .head _)]; exact Bool.false_ne_true
    rw [this, List.reverse_reverse]
  refine wpAny_ite (KBc.ite_yes (by show (((b.toList.reverse.dropWhile Bytes.isSpace).reverse).length == b.size) = true; rw [e]; simp) ?_)
  refine wpAny_bind (wpAny_rule ?_)
  show wpAny _ _ (Bytes.Kind.same .bytes (.bytes b t) >>= fun v => _) _ _ s
  unfold Bytes.Kind.same
  refine wpAny_bind (wpAny_ite (KBc.ite_yes rfl ?_))
  refine wpAny_bind (wpAny_typeOf (typeIs_bytes _ b t) ?_)
  refine wpAny_ite (KBc.ite_yes rfl ?_)
  exact wpAny_pure (wpAny_pure ⟨_, rfl, h s.toks⟩)
end
section
variable {prog : Program} {w : World} {A : Around} {E : Value → Shared → Prop} {s : Shared} {b c : Array UInt8} {t u : Tok}
theorem call_lstrip {Q : Value → Shared → Prop} (hsz : b.size ≤ 16777216) (h : (stripS c b).size ≤ b.size → ∀ t' k, Q (.bytes (stripS c b) t') { s with toks := k }) :
    wpAny (model prog w) A (call (.builtin "bytes.lstrip") [.bytes b t, .bytes c u]) Q E s :=
  call_meets slot_bytes_lstrip (typeIs_bytes _ _ _) entry_bytes_lstrip (args_bytes_lstrip _ _) (meets_lstrip b c t u) ⟨by rw [sizeLine_eq]; exact hsz, h (stripS_le _ _)⟩
theorem call_rstrip {Q : Value → Shared → Prop} (hs : ∀ x ∈ b.toList, Bytes.isSpace x = false) (h : ∀ k, Q (.bytes b t) { s with toks := k }) :
    wpAny (model prog w) A (call (.builtin "bytes.rstrip") [.bytes b t]) Q E s :=
  call_meets slot_bytes_rstrip (typeIs_bytes _ _ _) entry_bytes_rstrip (args_bytes_rstrip _) (meets_rstrip b t hs) h
theorem meth_lstrip {M : Model} {pl : Sem Bool} {Q : Value × List Value → Shared → Prop} (h : Q (.builtin "bytes.lstrip", [.bytes b t]) s) : wpAny M A (getMethod (.bytes b t) (PySem.Str.ofString "lstrip") pl) Q E s := by
  with_reducible exact KBd.method_of (.bytes b t) (typeIs_bytes _ _ _) slot_bytes_lstrip type_bytes_lstrip KBd.noRef h
theorem meth_rstrip {M : Model} {pl : Sem Bool} {Q : Value × List Value → Shared → Prop} (h : Q (.builtin "bytes.rstrip", [.bytes b t]) s) : wpAny M A (getMethod (.bytes b t) (PySem.Str.ofString "rstrip") pl) Q E s := by
  with_reducible exact KBd.method_of (.bytes b t) (typeIs_bytes _ _ _) slot_bytes_rstrip type_bytes_rstrip KBd.noRef h
end
end Mine
end T_R1
section T_R2
open PySem PySem.W PyProof.Rows PySem.Calls PySem.Spec
set_option maxRecDepth 100000
namespace Mine
open KFB
/-- the number that octets tell -/
def val256 (v : Array UInt8) : Nat := v.toList.foldl (fun n c => n * 256 + c.toNat) 0
theorem val256_lt (v : Array UInt8) : val256 v < 256 ^ v.size := by
  have h := fold_lt v.toList 0
  rw [Nat.zero_add, Nat.one_mul, Array.length_toList] at h
  exact h
section
variable {prog : Program} {w : World} {M : Model} {A : Around} {E : Value → Shared → Prop} {s : Shared} {K : Frag} {h₀ : Heap} {L : Addr} {m : PySem.Str → Option Value} {news : List (Addr × Obj)}
theorem grown' {n : Nat} {Q : Value → Shared → Prop} (hn : n < 2 ^ 200) (h : Q (.int (n : Int) s.toks) { s with toks := s.toks + 1 }) : wpAny M A (mkIntGrown (n : Int)) Q E s := by
  unfold mkIntGrown
  have hl : ¬ ((n : Int).natAbs.log2 ≥ bitsLine) := by
    rw [Int.natAbs_natCast]
    have hb : bitsLine = 134217728 := by first | rfl | decide
    by_cases hz : n = 0
    · subst hz
      rw [hb]
      decide
    · have h1 := (Nat.log2_lt hz).mpr hn
      omega
  rw [if_neg hl]
  exact wpAny_mkInt h
theorem tree_bigK {b : Array UInt8} {t u : Tok} {P : Fin → Shared → Prop} (hn : val256 b < 2 ^ 200) (h : P (.done (.ret (.int (val256 b : Nat) s.toks))) { s with toks := s.toks + 1 }) :
    wpAny M A (Builtin.«int.from_bytes» ⟨[.type "int", .bytes b t], [(PySem.Str.ofString "byteorder", .str (PySem.Str.ofString "big") u)]⟩) P E s := by
  unfold Builtin.«int.from_bytes»
  refine wpAny_bind (wpAny_of_eq (a := true) type_int ?_)
  refine if_not rfl ?_
  refine wpAny_bind (wpAny_of_eq (a := true) F.conv_sub_int ?_)
  refine if_not rfl ?_
  refine wpAny_bind (wpAny_of_eq (a := [some (.bytes b t), some (.str (PySem.Str.ofString "big") u), none]) (by kernel_rfl) ?_)
  refine wpAny_bind (wpAny_of_eq (a := PySem.Str.ofString "big") (by kernel_rfl) ?_)
  refine wpAny_bind (wpAny_of_eq (a := false) rfl ?_)
  refine wpAny_bind (wpAny_of_eq (a := false) (by kernel_rfl) ?_)
  refine wpAny_bind (wpAny_of_eq (a := b) rfl ?_)
  show wpAny _ _ (mkIntGrown (b.toList.foldl (fun (acc : Int) (b : UInt8) => acc * 256 + (b.toNat : Int)) ((0 : Nat) : Int)) >>= fun v => _) _ _ _
  rw [foldI_eq]
  refine wpAny_bind (grown' hn ?_)
  refine if_so (by decide +kernel) ?_
  exact wpAny_bind (wpAny_pure (wpAny_pure h))
theorem check_fbK {b : Array UInt8} {t u : Tok} {o : PySem.Str} : checkBoundCall "int.from_bytes" ⟨[.type "int", .bytes b t], [(PySem.Str.ofString "byteorder", .str o u)]⟩ = pure () := by first | kernel_rfl | rfl
theorem call_bigK {x : Addr} {b : Array UInt8} {t u : Tok} {Q : Value → Shared → Prop} (N : News h₀ L s.heap news) (hm : (x, KFB.bound) ∈ news) (hn : val256 b < 2 ^ 200)
    (h : ∀ t' k, Q (.int (val256 b : Nat) t') { s with toks := k }) : wpAny (model prog w) A (call (.ref x) [.bytes b t] [(PySem.Str.ofString "byteorder", .str (PySem.Str.ofString "big") u)]) Q E s := by
  have ho := at_of N hm
  refine wpAny_call (codeAny_of_tree ?_)
  show wpAny _ A.in1 (callAny (.ref x) ⟨[.bytes b t], [(PySem.Str.ofString "byteorder", .str (PySem.Str.ofString "big") u)]⟩) _ _ s
  simp only [callAny]
  refine wpAny_bind (wpAny_load ho ?_)
  simp only [KFB.bound, show (Value.type "builtin_function_or_method" == Value.type "method" || Value.type "builtin_function_or_method" == Value.type "builtin_function_or_method" || Value.type "builtin_function_or_method" == Value.type "method-wrapper") = true by decide, if_true]
  refine if_so (by decide) ?_
  refine wpAny_bind (wpAny_of_eq (a := ()) check_fbK ?_)
  refine wpAny_bind (wpAny_pure (wpAny_pure ?_))
  exact ⟨quiet_fb, codeAny_builtin entry_fb (tree_bigK hn (h _ _))⟩
theorem callWith_fieldsK {pos : Pos} {u : Addr} {first : List Value} {args : List (Bool × Sem Value)} {kws : List (Option PySem.Str × Sem Value)} {Q : Value → Shared → Prop} (hplain : (args.any (·.1) || kws.any (·.1.isNone)) = false)
    (h : wpAny M A (evalArgs (.ref u) true args kws) (fun x s₁ => StandsAt u s₁.heap ∧ wpAny M A (call (.ref u) (first ++ x.pos) x.kw) Q E s₁) E s) : wpAny M A (callWith pos (.ref u) first args kws) Q E s := by
  unfold callWith
  refine wpAny_bind (wpAny_holding (wpAny_mono h (fun x s₁ h₁ => wpAny_bind (wpAny_standAt ?_)) fun _ _ x => x))
  obtain ⟨ho, hcall⟩ := h₁
  simp only [hplain]
  refine wpAny_bind (m := keeperOf (.ref u)) ?_
  unfold keeperOf
  refine wpAny_bind (wpAny_load ho ?_)
  simp only [KFB.bound, show (Value.type "builtin_function_or_method" != Value.type "method") = true by decide, show (Value.type "builtin_function_or_method" == Value.type "builtin_function_or_method" || Value.type "builtin_function_or_method" == Value.type "method-wrapper") = true by decide, if_true]
  refine wpAny_pure ?_
  exact wpAny_bind (wpAny_mono hcall (fun r s₂ hr => wpAny_bind (wpAny_holding (wpAny_point (wpAny_pure hr)))) fun _ _ x => x)
theorem callWith_boundK {pos : Pos} {u : Addr} {first : List Value} {env : Env} {e : Expr} {rest : List Expr} {kws : List Keyword} {Q : Value → Shared → Prop} (_N : News h₀ L s.heap news) (_hm : (u, KFB.bound) ∈ news)
    (hall : (backToKw pos (keywordEach kws env)).all (·.1.isSome) = true)
    (h : wpAny M A (spliced (backTo pos (starEach (e :: rest) env))) (fun vs s₁ => wpAny M A (evalAll ((backToKw pos (keywordEach kws env)).map (·.2)))
      (fun ks s₂ => StandsAt u s₂.heap ∧ wpAny M A (call (.ref u) (first ++ vs) (((backToKw pos (keywordEach kws env)).filterMap (·.1)).zip ks)) Q E s₂) E s₁) E s)
    (hplain : ((backTo pos (starEach (e :: rest) env)).any (·.1) || (backToKw pos (keywordEach kws env)).any (·.1.isNone)) = false := by rfl) (he : starEach (e :: rest) env = (false, eval e env) :: starEach rest env := by rfl) :
    wpAny M A (callWith pos (.ref u) first (backTo pos (starEach (e :: rest) env)) (backToKw pos (keywordEach kws env))) Q E s :=
  callWith_fieldsK hplain (evalArgs_kw2 hall h he)
end
end Mine
end T_R2
section T_R3
open PySem PySem.W PyProof.Rows PySem.Calls PySem.Spec
set_option maxRecDepth 100000
namespace Mine
theorem reset_R3 : True := by
  w_top off
  trivial
open Builtin
section
variable {prog : Program} {w : World} {A : Around} {E : Value → Shared → Prop} {s : Shared} {b : Array UInt8} {t : Tok}
theorem nextOf_bytes_item {it : Addr} {i : Nat} {c : UInt8} {Q : Value → Shared → Prop} (hit : KBw.IsBytesIter s.heap it b t i) (hx : b[i]? = some c)
    (hQ : ∀ h', KBw.IsBytesIter h' it b t (i + 1) → Heap.SameBut it s.heap h' → Q (.int (c.toNat : Int) s.toks) { s with heap := h', toks := s.toks + 1 }) :
    wpAny (model prog w) A (Builtin.SmallTypes.nextOf (.ref it)) Q E s := by
  obtain ⟨o, ho, hc, hd⟩ := id hit
  unfold Builtin.SmallTypes.nextOf
  refine wpAny_bind (wpAny_callSpecial?_slot (name := PySem.Str.ofString "__next__") (KBw.iter_typeIs hit) KBw.slot_next
    (wpAny_call_entry KBw.slot_next (KBw.iter_typeIs hit) KBw.entry_next ?_ (KBw.args_next _)))
  show wpAny _ _ (field (.ref it) 0 >>= _) _ _ s
  refine wpAny_bind (wpAny_field ho hd (x := .bytes b t) rfl ?_)
  show wpAny _ _ (if (Value.bytes b t == Value.none) = true then _ else _) _ _ s
  rw [if_neg (show ¬ ((Value.bytes b t == Value.none) = true) from Bool.false_ne_true)]
  show wpAny _ _ (field (.ref it) 1 >>= _) _ _ s
  refine wpAny_bind (wpAny_field ho hd (x := .int i 0) rfl ?_)
  refine wpAny_bind (wpAny_of_eq (a := b) rfl ?_)
  simp only [Int.toNat_natCast, hx]
  refine wpAny_bind (wpAny_setField ho hd (by simp) (wpAny_bind (wpAny_mkInt (wpAny_pure ⟨_, rfl, wpAny_pure (hQ _ ?_ (Heap.SameBut.update ..))⟩))))
  exact ⟨_, Heap.get?_update_self _ ho (Obj.isFreed_of_fields (Obj.data_mapFields hd _)), (Obj.cls_mapFields ..).trans hc, by
    rw [Obj.data_mapFields hd]; simp [rawInt]⟩
theorem nextOf_bytes_end {it : Addr} {i : Nat} {Q : Value → Shared → Prop} (hh : A.handled = none) (hit : KBw.IsBytesIter s.heap it b t i) (hx : b[i]? = none)
    (hE : ∀ h' e, Heap.ExtBut it s.heap h' → (∃ o, h'.get? e = some o ∧ o.cls = .type "StopIteration") → E (.ref e) { s with heap := h' }) :
    wpAny (model prog w) A (Builtin.SmallTypes.nextOf (.ref it)) Q E s := by
  obtain ⟨o, ho, hc, hd⟩ := id hit
  unfold Builtin.SmallTypes.nextOf
  refine wpAny_bind (wpAny_callSpecial?_slot (name := PySem.Str.ofString "__next__") (KBw.iter_typeIs hit) KBw.slot_next
    (wpAny_call_entry KBw.slot_next (KBw.iter_typeIs hit) KBw.entry_next ?_ (KBw.args_next _)))
  show wpAny _ _ (field (.ref it) 0 >>= _) _ _ s
  refine wpAny_bind (wpAny_field ho hd (x := .bytes b t) rfl ?_)
  show wpAny _ _ (if (Value.bytes b t == Value.none) = true then _ else _) _ _ s
  rw [if_neg (show ¬ ((Value.bytes b t == Value.none) = true) from Bool.false_ne_true)]
  show wpAny _ _ (field (.ref it) 1 >>= _) _ _ s
  refine wpAny_bind (wpAny_field ho hd (x := .int i 0) rfl ?_)
  refine wpAny_bind (wpAny_of_eq (a := b) rfl ?_)
  simp only [Int.toNat_natCast, hx]
  refine wpAny_bind (wpAny_rule (wpAny_bind (wpAny_setField ho hd (by simp) ?_)))
  show wpAny _ _ (newExc (.type "StopIteration") [] >>= _) _ _ _
  refine wpAny_bind ?_
  simp only [newExc, newTuple]
  refine wpAny_bind (wpAny_newObj_type ?_ (by size_fits))
  refine wpAny_bind (m := firstArgMember _ _) (wpAny_of_eq (a := Value.none) (by first | rfl | (simp only [firstArgMember]; rfl)) ?_)
  refine wpAny_newObj_type ?_ (by size_fits)
  simp only [raiseNew]
  refine wpAny_bind (wpAny_handled ?_)
  first | rw [show A.in1.handled = none from hh] | rw [hh]
  refine wpAny_bind (wpAny_pure (wpAny_throw ?_))
  exact hE _ _ (((Heap.SameBut.update ..).extBut.push _).push _) ⟨_, Heap.get?_push_size _ rfl, rfl⟩
end
theorem drawsBytes {prog : Program} {w : World} {A : Around} (hh : A.handled = none) (it : Addr) (b : Array UInt8) (t : Tok) :
    Draws prog w A it [it] b.size (fun i v => ∃ c u, b[i]? = some c ∧ v = .int (c.toNat : Int) u) (fun i h => KBw.IsBytesIter h it b t i) where
  live := fun _ _ st => let ⟨o, ho, _⟩ := st; ⟨o, ho⟩
  frame := fun _ _ _ st hk => let ⟨o, ho, r⟩ := st; ⟨o, hk it (by simp) o ho, r⟩
  item := fun i s Q E hi st hQ => by
    refine nextOf_bytes_item st (c := b[i]) (by simp [hi]) fun h' hit' hs' => ?_
    exact hQ _ h' (s.toks + 1) ⟨_, _, by simp [hi], rfl⟩ hit' hs'
  done := fun s Q E st hE => nextOf_bytes_end hh st (by simp) hE
set_option maxHeartbeats 1000000 in
theorem meets_enumerate_newB (b : Array UInt8) (t : Tok) :
    Meets (Builtin.«enumerate.__new__» ⟨[.type "enumerate", .bytes b t], []⟩) (fun _ R s =>
      R (.ok (.ret (.ref (s.heap.push { cls := .type "bytes_iterator", data := .fields #[.bytes b t, .int 0 0] }).objs.size)))
        { s with heap := (s.heap.push { cls := .type "bytes_iterator", data := .fields #[.bytes b t, .int 0 0] }).push { cls := .type "enumerate", data := .fields #[.none, .bool false, .ref s.heap.objs.size, rawInt 0, .none, .none] } }) :=
  .of_wp fun prog w A R s h => by
    obtain ⟨hp, g, d, tk, os⟩ := s
    have hsub := sub_enumerate
    wp_walk
    refine wpAny_stack_any fun st => wpAny_pure ?_
    split
    · rename_i c _ _ _ _ _
      cases (c == Value.type "enumerate")
      · wp_walk using KBw.pyIter_bytes
        exact ⟨_, rfl, h⟩
      · wp_walk using KBw.pyIter_bytes
        exact ⟨_, rfl, h⟩
    · wp_walk using KBw.pyIter_bytes
      exact ⟨_, rfl, h⟩
theorem call_enumerate_bytes {prog : Program} {w : World} {A : Around} {E : Value → Shared → Prop} {s : Shared} {b : Array UInt8} {t : Tok} {Q : Value → Shared → Prop}
    (h : ∀ h', IsEnum h' (s.heap.objs.size + 1) s.heap.objs.size 0 .none → KBw.IsBytesIter h' s.heap.objs.size b t 0 → h'.objs.size = s.heap.objs.size + 2 →
      (∀ b o, s.heap.get? b = some o → h'.get? b = some o) → Q (.ref (s.heap.objs.size + 1)) { s with heap := h' }) :
    wpAny (model prog w) A (call (.type "enumerate") [.bytes b t]) Q E s := by
  refine callType_new F.called_enumerate (by decide) (F.typeCall_enumerate_1 _) (F.newCall_enumerate_1 _) (fun obj => F.args_object_init_2 obj _) F.entry_enumerate_new
    (meets_enumerate_newB b t) ?_
  have hz : (s.heap.push { cls := .type "bytes_iterator", data := .fields #[.bytes b t, .int 0 0] }).objs.size = s.heap.objs.size + 1 := Heap.size_push ..
  show _ ∧ _
  rw [hz]
  have he : IsEnum ((s.heap.push { cls := .type "bytes_iterator", data := .fields #[.bytes b t, .int 0 0] }).push
      { cls := .type "enumerate", data := .fields #[.none, .bool false, .ref s.heap.objs.size, rawInt 0, .none, .none] }) (s.heap.objs.size + 1) s.heap.objs.size 0 .none := by
    have := Heap.get?_push_size (s.heap.push { cls := .type "bytes_iterator", data := .fields #[.bytes b t, .int 0 0] })
      (o := { cls := .type "enumerate", data := .fields #[.none, .bool false, .ref s.heap.objs.size, rawInt 0, .none, .none] }) rfl
    rw [hz] at this; exact this
  refine ⟨⟨_, he, rfl⟩, h _ he ⟨_, Heap.get?_push_of_some _ (Heap.get?_push_size _ rfl), rfl, rfl⟩ (by rw [Heap.size_push, hz]) fun b o y => Heap.get?_push_of_some _ (Heap.get?_push_of_some _ y)⟩
/-- a dict comprehension's loop over pairs -/
theorem compLoop_dictT {prog : Program} {w : World} {A : Around} {R : Result → Shared → Prop} {s : Shared} {kx vx iter : Expr} {elts : List Expr} {kk : Nat} {tp : Pos} {scope : Scope} {pos : Pos} {I D : Addr} {env : Env} (Inv : Nat → Shared → Prop)
    (turn : ∀ n s, Inv n s → wpAny (model prog w) A (pyNext (.ref I)) (fun r s₁ => match r with
      | none => R (.ok .next) s₁
      | some v => wpAny (model prog w) A (letOwnedTupleGo (.Tuple elts kk tp) (.ref I) v) (fun _ s₁' => wpAny (model prog w) A (assign (.Tuple elts kk tp) env v) (fun _ s₂ =>
            wpAny (model prog w) A (eval kx env) (fun kv s₄ => wpAny (model prog w) A (eval vx env) (fun vv s₅ =>
              wpAny (model prog w) A (dictSet D kv vv) (fun _ s₆ => ∃ m, m < n ∧ Inv m s₆) (notedBy (model prog w) A env fun e s' => R (.error e) s') s₅) (notedBy (model prog w) A env fun e s' => R (.error e) s') s₄) (notedBy (model prog w) A env fun e s' => R (.error e) s') s₂)
            (notedBy (model prog w) A env fun e s' => R (.error e) s') s₁') (notedBy (model prog w) A env fun e s' => R (.error e) s') s₁) (notedBy (model prog w) A env fun e s' => R (.error e) s') s)
    (n : Nat) (h : Inv n s) :
    codeAny (model prog w) A (.compLoop (.DictComp kx vx [⟨.Tuple elts kk tp, iter, [], 0⟩] scope pos) 0 (.ref I) (.ref D) env) R s := by
  refine codeAny_loop rfl Inv (fun n s hI => ?_) n h
  show wpAny _ A ((compTurn (.DictComp kx vx [⟨.Tuple elts kk tp, iter, [], 0⟩] scope pos) 0 (.ref I) (.ref D) env).onRaise (fun x => do noteFrame x env; theTreesLotGoes x)) _ _ s
  refine wpAny_noted ?_
  rw [compTurn_dict]
  refine wpAny_bind (wpAny_standAt (wpAny_bind (wpAny_mono (turn n s hI) (fun r s₁ h₁ => ?_) fun _ _ h' => h')))
  cases r with
  | none => exact wpAny_pure h₁
  | some v =>
    refine wpAny_bind (wpAny_mono h₁ (fun _ s₁' h₁' => ?_) fun _ _ h' => h')
    refine wpAny_bind (wpAny_mono h₁' (fun _ s₂ h₂ => wpAny_bind (wpAny_pure ?_)) fun _ _ h' => h')
    exact wpAny_bind (wpAny_bind (wpAny_mono h₂ (fun kv s₄ h₄ => wpAny_bind (wpAny_holding (wpAny_mono h₄ (fun vv s₅ h₅ => wpAny_bind (wpAny_standAt (wpAny_holding (wpAny_mono h₅ (fun _ s₆ h₆ => wpAny_pure ⟨rfl, h₆⟩) fun _ _ h' => h')))) fun _ _ h' => h'))) fun _ _ h' => h'))
end Mine
end T_R3
section T_R4
open PySem PySem.W PyProof.Rows PySem.Calls PySem.Spec
set_option maxRecDepth 100000
namespace Mine
open Builtin
section
variable {K : Type} [DecidableEq K]
theorem find_map_key (kvs : List (K × Value)) (k : K) (v : Value) (x : K) :
    ((kvs.map fun kv => if kv.1 = k then (kv.1, v) else kv).find? fun kv => decide (kv.1 = x)).map (·.2) =
      if x = k then (kvs.find? fun kv => decide (kv.1 = x)).map (fun _ => v) else (kvs.find? fun kv => decide (kv.1 = x)).map (·.2) := by
  induction kvs with
  | nil => by_cases h : x = k <;> simp
  | cons p r ih =>
    by_cases h1 : p.1 = x
    · by_cases h2 : x = k
      · subst h2; simp [h1]
      · have h3 : ¬ p.1 = k := fun e => h2 (h1 ▸ e)
        simp only [List.map_cons, if_neg h3, if_neg h2]
        rw [List.find?_cons_of_pos (by simpa using h1), List.find?_cons_of_pos (by simpa using h1)]
    · by_cases h3 : p.1 = k
      · simp only [List.map_cons, if_pos h3]
        rw [List.find?_cons_of_neg (by simpa using h1), List.find?_cons_of_neg (by simpa using h1)]
        exact ih
      · simp only [List.map_cons, if_neg h3]
        rw [List.find?_cons_of_neg (by simpa using h1), List.find?_cons_of_neg (by simpa using h1)]
        exact ih
theorem valueAt_put (kvs : List (K × Value)) (k : K) (v : Value) (x : K) : valueAt (stored kvs k v) x = if x = k then some v else valueAt kvs x := by
  unfold stored valueAt
  by_cases hany : (kvs.any fun kv => decide (kv.1 = k)) = true
  · rw [if_pos hany, find_map_key]
    by_cases hx : x = k
    · rw [if_pos hx, if_pos hx]
      subst hx
      obtain ⟨p, hp, hk⟩ := List.any_eq_true.mp hany
      cases hf : kvs.find? fun kv => decide (kv.1 = x) with
      | none => exact absurd hk (by have := List.find?_eq_none.mp hf p hp; simpa using this)
      | some q => rfl
    · rw [if_neg hx, if_neg hx]
  · rw [if_neg hany]
    have hn : ∀ p ∈ kvs, ¬ p.1 = k := fun p hp e => hany (List.any_eq_true.mpr ⟨p, hp, by simpa using e⟩)
    rw [List.find?_append]
    by_cases hx : x = k
    · subst hx
      rw [if_pos rfl, List.find?_eq_none.mpr (fun p hp => by simpa using hn p hp)]
      simp
    · rw [if_neg hx]
      cases hf : kvs.find? fun kv => decide (kv.1 = x) with
      | some q => rfl
      | none =>
        have : ¬ k = x := fun e => hx e.symm
        simp [this]
end
/-- each sign's place -/
def MapTo (b : Array UInt8) (i : Nat) (kvs : List (Int × Value)) : Prop := kvs.length ≤ i ∧ ∀ j, j < i → ∃ t, valueAt kvs ((b.getD j 0).toNat : Int) = some (.int (j : Int) t)
/-- no sign twice -/
def Apart (b : Array UInt8) : Prop := ∀ i j, i < j → j < b.size → b.getD i 0 ≠ b.getD j 0
theorem MapTo.next {b : Array UInt8} {i : Nat} {kvs : List (Int × Value)} {t : Tok} (h : MapTo b i kvs) (hb : Apart b) (hi : i < b.size) : MapTo b (i + 1) (stored kvs ((b.getD i 0).toNat : Int) (.int (i : Int) t)) := by
  refine ⟨Nat.le_trans (stored_length_le _ _ _) (by have := h.1; omega), fun j hj => ?_⟩
  rw [valueAt_put]
  by_cases hji : j = i
  · subst hji; exact ⟨t, by rw [if_pos rfl]⟩
  · have hlt : j < i := by omega
    rw [if_neg (show ¬ (((b.getD j 0).toNat : Int) = ((b.getD i 0).toNat : Int)) from fun e => hb j i hlt hi (UInt8.toNat_inj.mp (Int.ofNat.inj e)))]
    exact h.2 j hlt
theorem DictComp_enum {prog : Program} {w : World} {A : Around} {E : Value → Shared → Prop} {s : Shared} {env : Env} {h₀ : Heap} {L : Addr} {m : Str → Option Value} {news : List (Addr × Obj)} {b : Array UInt8} {t : Tok}
    {xi xv : Str} {p1 p2 p3 p4 tp pos : Pos} {kk : Nat} {iter : Expr} {scope : Scope} {Q : Value → Shared → Prop} (hh : A.handled = none)
    (hclos : closureFor scope env = pure []) (hcell : ∀ y ∈ scope.names, y.2 ≠ .cell) (hkind : scope.kind = .function)
    (hnames : ∀ y ∈ scope.names, y.2 = .local → scope.names.lookup y.1 = some .local) (hxi : scope.names.lookup xi = some .local) (hxv : scope.names.lookup xv = some .local) (hne : xi ≠ xv)
    (hdi : (xi == ("__debug__" : Str)) = false) (hdv : (xv == ("__debug__" : Str)) = false)
    (hb : Apart b) (hz : b.size ≤ 256) (hsys : sysModules < L)
    (h : wpAny (model prog w) A (eval iter env) (fun v s₁ => ∃ e it, v = .ref e ∧ IsEnum s₁.heap e it 0 .none ∧ KBw.IsBytesIter s₁.heap it b t 0 ∧ e ≠ it ∧ Fr h₀ L s₁.heap m ∧ News h₀ L s₁.heap news ∧ h₀.get? e = none ∧ h₀.get? it = none ∧ L ≠ e ∧ L ≠ it ∧
      (∀ p ∈ news, p.1 ≠ e ∧ p.1 ≠ it) ∧
      ∀ D o h' tk kvs, Fr h₀ L h' m → News h₀ L h' ((D, o) :: news) → (∀ p ∈ news, p.1 < D) → (D == sysModules) = false → o.IsDictOf (intKind prog w) kvs → MapTo b b.size kvs → Q (.ref D) { s₁ with heap := h', toks := tk }) E s)
    (hs : ∀ x, foldedSetIterable iter env x = pure x := by intro _; rfl) :
    wpAny (model prog w) A (eval (.DictComp (.Name xv p1) (.Name xi p2) [⟨.Tuple [.Name xi p3, .Name xv p4] kk tp, iter, [], 0⟩] scope pos) env) Q E s := by
  rw [arm_eval_DictComp]
  refine wpAny_comprehension_free (use := none) rfl hs hclos hkind hnames (wpAny_mono h (fun v s₁ h₁ => ?_) fun _ _ e => e)
  obtain ⟨e, it, rfl, he, hit, hei, F, N, he0, hit0, hLe, hLit, hoff, hQ⟩ := h₁
  refine wpAny_pyIter_enum he ?_
  have W := WalksT.enumerateD (drawsBytes (prog := prog) (w := w) (A := A.in1) hh it b t) e hei (by simpa using hei) (by simp)
  refine wpAny_newObj_type (wpAny_newFunctionEnv hcell (by intro y hy; simp at hy) (fun h₁ hns₁ hsb₁ => ?_) hkind)
  dsimp only at hns₁ hsb₁ ⊢
  have hnew : (s₁.heap.push { cls := .type "dict", dict := none, data := .dict #[] }).DictOf (intKind prog w) s₁.heap.objs.size [] := Heap.DictOf.new s₁.heap
  generalize hH2 : s₁.heap.push { cls := .type "dict", dict := none, data := .dict #[] } = H2 at hns₁ hsb₁ hnew ⊢
  have hC : H2.objs.size = s₁.heap.objs.size + 1 := by rw [← hH2, Heap.size_push]
  have hDC : s₁.heap.objs.size ≠ H2.objs.size := by rw [hC]; exact Nat.ne_of_lt (Nat.lt_succ_self _)
  have below : ∀ x, x < s₁.heap.objs.size → x ≠ H2.objs.size ∧ x ≠ s₁.heap.objs.size := fun x hx => ⟨by rw [hC]; exact Nat.ne_of_lt (Nat.lt_succ_of_lt hx), Nat.ne_of_lt hx⟩
  have hel : e < s₁.heap.objs.size := Heap.lt_size he
  have hil : it < s₁.heap.objs.size := by obtain ⟨o, ho, _⟩ := hit; exact Heap.lt_size ho
  have hLl : L < s₁.heap.objs.size := F.ns.lt
  have old : ∀ x o, s₁.heap.get? x = some o → h₁.get? x = some o := fun x o hx => hsb₁.extBut x o (below x (Heap.lt_size hx)).1 (Heap.get?_push_of_some _ (hH2 ▸ Heap.get?_push_of_some _ hx))
  have hacc : h₁.DictOf (intKind prog w) s₁.heap.objs.size [] := hnew.at fun o hx => hsb₁.extBut _ _ hDC (Heap.get?_push_of_some _ hx)
  have hst₁ : (∃ old, IsEnum h₁ e it ((0 : Nat) : Int) old) ∧ KBw.IsBytesIter h₁ it b t 0 := ⟨⟨_, old _ _ he⟩, let ⟨o, ho, r⟩ := hit; ⟨o, old _ _ ho, r⟩⟩
  have fresh : ∀ x, s₁.heap.objs.size ≤ x → h₀.get? x = none := fun x hx => by
    cases q : h₀.get? x with
    | none => rfl
    | some o' => exact absurd (Heap.lt_size (F.keep x o' q)) (Nat.not_lt.mpr hx)
  have hki : (compEnvC scope [] H2.objs.size env).kindOf xi = some .local := lookup_relabel_local hxi
  have hkv : (compEnvC scope [] H2.objs.size env).kindOf xv = some .local := lookup_relabel_local hxv
  have hkf : (compEnvC scope [] H2.objs.size env).scope.kind = .function := hkind
  have hp : ((compEnvC scope [] H2.objs.size env).scope.kind == .class || ((compEnvC scope [] H2.objs.size env).scope.kind == .module && (compEnvC scope [] H2.objs.size env).locals != (compEnvC scope [] H2.objs.size env).globals)) = false := by
    rw [hkf]; rfl
  have loop : ∀ s₃ : Shared, s₃ = { s₁ with heap := h₁, toks := s₁.toks + ([] : List (Str × Value)).length } →
      codeAny (model prog w) A (.compLoop (.DictComp (.Name xv p1) (.Name xi p2) [⟨.Tuple [.Name xi p3, .Name xv p4] kk tp, iter, [], 0⟩] scope pos) 0 (.ref e) (.ref s₁.heap.objs.size) (compEnvC scope [] H2.objs.size env))
        (compPost (model prog w) A E none Q (.ref s₁.heap.objs.size) H2.objs.size) s₃ := by
    rintro s₃ rfl
    refine compLoop_dictT
      (fun k s' => ∃ h' tk i m' kvs, s' = { s₁ with heap := h', toks := tk } ∧ i ≤ b.size ∧ k = b.size + 1 - i ∧ ((∃ old, IsEnum h' e it ((i : Nat) : Int) old) ∧ KBw.IsBytesIter h' it b t i) ∧ h'.Ns H2.objs.size m' ∧ h'.DictOf (intKind prog w) s₁.heap.objs.size kvs ∧
        MapTo b i kvs ∧ ∀ x o, x ≠ H2.objs.size → x ∉ [e, it] → x ≠ s₁.heap.objs.size → s₁.heap.get? x = some o → h'.get? x = some o) ?_ (b.size + 1)
      ⟨h₁, _, 0, _, [], rfl, Nat.zero_le _, rfl, hst₁, hns₁, hacc, ⟨Nat.le_refl _, fun j hj => absurd hj (Nat.not_lt_zero _)⟩, fun x o _ _ _ hx => old x o hx⟩
    rintro k s' ⟨h', tk, i, m', kvs, rfl, hi, rfl, hst', hn', ha', hM, hk⟩
    by_cases hlt : i < b.size
    · refine W.item i _ _ _ hlt hst' fun T vals h₂ tk₂ hPt hT hTup hMid hk₂ => ?_
      obtain ⟨t', x, ⟨c, u, hc, rfl⟩, rfl⟩ := hPt
      have hTw := W.apart _ _ _ hMid
      have hCw : H2.objs.size ∉ [e, it] := fun hm => by
        rcases List.mem_cons.mp hm with q | hm
        · exact (below e hel).1 q.symm
        · exact (below it hil).1 (List.mem_singleton.mp hm).symm
      have hDw : s₁.heap.objs.size ∉ [e, it] := fun hm => by
        rcases List.mem_cons.mp hm with q | hm
        · exact (below e hel).2 q.symm
        · exact (below it hil).2 (List.mem_singleton.mp hm).symm
      refine W.go _ _ _ i T _ _ _ hMid fun h₃ hst₃ hk₃ => ?_
      have hk3 : ∀ x o, x ∉ [e, it] → h'.get? x = some o → h₃.get? x = some o := fun x o hx q => hk₃ x o hx (hk₂ x o hx q)
      have ht₃ : h₃.IsTuple T #[.int i t', .int (c.toNat : Int) u] := by obtain ⟨oT, hoT, r⟩ := hTup; exact ⟨oT, hk₃ T oT hTw hoT, r⟩
      refine wpAny_assign_Tuple hh ht₃ rfl rfl fun h₄ hx₄ => ?_
      replace hx₄ : ∀ x o, h₃.get? x = some o → h₄.get? x = some o := fun x o q => hx₄ x o (Nat.ne_of_lt (Heap.lt_size q)) q
      have hn₄ : h₄.Ns H2.objs.size m' := hn'.at' fun o q => hx₄ _ o (hk3 _ o hCw q)
      show wpAny _ A (do holding [_] (assign (.Name xi p3) (compEnvC scope [] H2.objs.size env) (.int i t')); do holding [] (assign (.Name xv p4) (compEnvC scope [] H2.objs.size env) (.int (c.toNat : Int) u)); pure ()) _ _ _
      refine wpAny_bind (wpAny_holding (wpAny_assign_Name (wpAny_storeName_local hki hn₄ (fun h₅ hn₅ hs₅ => ?_) hp)))
      refine wpAny_bind (wpAny_holding (wpAny_assign_Name (wpAny_storeName_local hkv hn₅ (fun h₆ hn₆ hs₆ => wpAny_pure ?_) hp)))
      replace hs₅ : Heap.SameBut H2.objs.size h₄ h₅ := hs₅
      replace hs₆ : Heap.SameBut H2.objs.size h₅ h₆ := hs₆
      have hk6 : ∀ x o, x ≠ H2.objs.size → h₃.get? x = some o → h₆.get? x = some o := fun x o hx q => hs₆.extBut x o hx (hs₅.extBut x o hx (hx₄ x o q))
      refine wpAny_Name (wpAny_loadName_local hkf hkv hn₆ (if_pos rfl) ?_) hdv
      refine wpAny_Name (wpAny_loadName_local hkf hki hn₆ ((if_neg hne).trans (if_pos rfl)) ?_) hdi
      have ha₆ : h₆.DictOf (intKind prog w) s₁.heap.objs.size kvs := ha'.at fun o q => hk6 _ o hDC (hk3 _ o hDw q)
      refine wpAny_dictSet_pairs (k := (c.toNat : Int)) (hsz := by have := hM.1; rw [sizeLine_eq]; omega) (intKind_is prog w _ u) ha₆ fun h₇ ha₇ hs₇ => ?_
      replace hs₇ : Heap.SameBut s₁.heap.objs.size h₆ h₇ := hs₇
      have hcD : c = b.getD i 0 := by
        have := Array.getElem?_eq_some_iff.mp hc
        obtain ⟨q1, q2⟩ := this
        simp [Array.getD, q1, q2]
      refine ⟨b.size + 1 - (i + 1), by omega, h₇, _, i + 1, _, _, rfl, hlt, rfl, ?_, hn₆.sameBut hs₇ (Ne.symm hDC), ha₇, ?_, fun x o hx1 hx2 hx3 q => hs₇.extBut x o hx3 (hk6 x o hx1 (hk3 x o hx2 (hk x o hx1 hx2 hx3 q)))⟩
      · refine W.frame _ _ _ hst₃ fun x hx o q => hs₇.extBut x o (fun h => hDw (h ▸ hx)) (hk6 x o (fun h => hCw (h ▸ hx)) q)
      · subst hcD; exact hM.next hb hlt
    · obtain rfl : i = b.size := Nat.le_antisymm hi (Nat.not_lt.mp hlt)
      refine W.done _ _ _ hst' fun h₂ tk₂ hk₂ => ?_
      have hCw : H2.objs.size ∉ [e, it] := fun hm => by
        rcases List.mem_cons.mp hm with q | hm
        · exact (below e hel).1 q.symm
        · exact (below it hil).1 (List.mem_singleton.mp hm).symm
      have hDw : s₁.heap.objs.size ∉ [e, it] := fun hm => by
        rcases List.mem_cons.mp hm with q | hm
        · exact (below e hel).2 q.symm
        · exact (below it hil).2 (List.mem_singleton.mp hm).symm
      refine ⟨m', hn'.at' fun o q => hk₂ _ o hCw q, fun h₃ hs₃ => ?_⟩
      replace hs₃ : Heap.SameBut H2.objs.size h₂ h₃ := hs₃
      have ha₃ : h₃.DictOf (intKind prog w) s₁.heap.objs.size kvs := ha'.at fun o q => hs₃.extBut _ o hDC (hk₂ _ o hDw q)
      have up : ∀ x o, x < s₁.heap.objs.size → x ≠ e → x ≠ it → s₁.heap.get? x = some o → h₃.get? x = some o := fun x o hx h1 h2 q =>
        hs₃.extBut x o (below x hx).1 (hk₂ x o (by simp [h1, h2]) (hk x o (below x hx).1 (by simp [h1, h2]) (below x hx).2 q))
      obtain ⟨oD, hoD, hiD⟩ := Heap.dictOf_iff.mp ha₃
      have hlow : (s₁.heap.objs.size == sysModules) = false := by
        have : sysModules < s₁.heap.objs.size := Nat.lt_trans hsys hLl
        exact beq_eq_false_iff_ne.mpr (Nat.ne_of_gt this)
      refine hQ _ oD h₃ _ kvs ⟨F.ns.at' fun o q => up L o hLl hLe hLit q, fun x o q => ?_, F.above⟩ (fun p hp => ?_) (fun p hp => Heap.lt_size (N p hp).1) hlow hiD hM
      · exact up x o (Heap.lt_size (F.keep x o q)) (fun h => by rw [h, he0] at q; cases q) (fun h => by rw [h, hit0] at q; cases q) (F.keep x o q)
      · rcases List.mem_cons.mp hp with rfl | hp
        · exact ⟨hoD, Ne.symm (below L hLl).2, fresh _ (Nat.le_refl _)⟩
        · exact ⟨up _ _ (Heap.lt_size (N p hp).1) (hoff p hp).1 (hoff p hp).2 (N p hp).1, (N p hp).2⟩
  exact codeAny_compStart_dict (loop _ rfl) (wpAny_pyIter_enum (old _ _ he) (loop _ rfl))
end Mine
end T_R4
section T_R5
open PySem PySem.W PyProof.Rows PySem.Calls PySem.Spec
set_option maxRecDepth 100000
namespace Mine
theorem reset_R5 : True := by
  w_top off
  trivial
/-- what a walk over a text's places wants -/
structure EnumAt (h₀ : Heap) (L : Addr) (m : Str → Option Value) (news : List (Addr × Obj)) (b : Array UInt8) (t : Tok) (e : Addr) (s₁ : Shared) : Prop where
  ex : ∃ it, IsEnum s₁.heap e it 0 .none ∧ KBw.IsBytesIter s₁.heap it b t 0 ∧ e ≠ it ∧ Fr h₀ L s₁.heap m ∧ News h₀ L s₁.heap news ∧ h₀.get? e = none ∧ h₀.get? it = none ∧ L ≠ e ∧ L ≠ it ∧ (∀ p ∈ news, p.1 ≠ e ∧ p.1 ≠ it)
section
variable {prog : Program} {w : World} {A : Around} {E : Value → Shared → Prop} {s : Shared} {b : Array UInt8} {t : Tok} {h₀ : Heap} {L : Addr} {m : Str → Option Value} {news : List (Addr × Obj)} {Q : Value → Shared → Prop}
theorem enum_K (F : Fr h₀ L s.heap m) (N : News h₀ L s.heap news)
    (h : ∀ e s₁, EnumAt h₀ L m news b t e s₁ → (∃ h', s₁ = { s with heap := h' }) → Q (.ref e) s₁) : wpAny (model prog w) A (call (.type "enumerate") [.bytes b t]) Q E s := by
  refine call_enumerate_bytes fun h' he hit hz hk => h _ _ ⟨s.heap.objs.size, he, hit, Nat.succ_ne_self _, ⟨F.ns.keeps hk, fun x o q => hk x o (F.keep x o q), F.above⟩, fun p hp => ⟨hk _ _ (N p hp).1, (N p hp).2⟩, ?_, ?_, ?_, ?_, fun p hp => ?_⟩ ⟨h', rfl⟩
  · exact Heap.get?_none_of_le (Nat.le_trans F.above (Nat.le_of_lt (Nat.lt_succ_of_lt F.ns.lt)))
  · exact Heap.get?_none_of_le (Nat.le_trans F.above (Nat.le_of_lt F.ns.lt))
  · exact Nat.ne_of_lt (Nat.lt_succ_of_lt F.ns.lt)
  · exact Nat.ne_of_lt F.ns.lt
  · have := Heap.lt_size (N p hp).1
    exact ⟨Nat.ne_of_lt (Nat.lt_succ_of_lt this), Nat.ne_of_lt this⟩
/-- what is to be shown behind the comprehension -/
def MapRest (prog : Program) (w : World) (h₀ : Heap) (L : Addr) (m : Str → Option Value) (news : List (Addr × Obj)) (b : Array UInt8) (Q : Value → Shared → Prop) (s₁ : Shared) : Prop :=
  ∀ D o h' tk kvs, Fr h₀ L h' m → News h₀ L h' ((D, o) :: news) → (∀ p ∈ news, p.1 < D) → (D == sysModules) = false → o.IsDictOf (intKind prog w) kvs → MapTo b b.size kvs → Q (.ref D) { s₁ with heap := h', toks := tk }
theorem dictComp_K {env : Env} {xi xv : Str} {p1 p2 p3 p4 tp pos : Pos} {kk : Nat} {iter : Expr} {scope : Scope} (_F : Fr h₀ L s.heap m) (_N : News h₀ L s.heap news) (hh : A.handled = none)
    (hclos : closureFor scope env = pure []) (hcell : ∀ y ∈ scope.names, y.2 ≠ .cell) (hkind : scope.kind = .function)
    (hnames : ∀ y ∈ scope.names, y.2 = .local → scope.names.lookup y.1 = some .local) (hxi : scope.names.lookup xi = some .local) (hxv : scope.names.lookup xv = some .local) (hne : xi ≠ xv)
    (hdi : (xi == ("__debug__" : Str)) = false) (hdv : (xv == ("__debug__" : Str)) = false)
    (hb : Apart b) (hz : b.size ≤ 256) (hsys : sysModules < L)
    (h : wpAny (model prog w) A (eval iter env) (fun v s₁ => ∃ e, v = .ref e ∧ EnumAt h₀ L m news b t e s₁ ∧ MapRest prog w h₀ L m news b Q s₁) E s)
    (hs : ∀ x, foldedSetIterable iter env x = pure x := by intro _; rfl) :
    wpAny (model prog w) A (eval (.DictComp (.Name xv p1) (.Name xi p2) [⟨.Tuple [.Name xi p3, .Name xv p4] kk tp, iter, [], 0⟩] scope pos) env) Q E s := by
  refine DictComp_enum (h₀ := h₀) (L := L) (m := m) (news := news) (t := t) hh hclos hcell hkind hnames hxi hxv hne hdi hdv hb hz hsys (wpAny_mono h (fun v s₁ h₁ => ?_) fun _ _ e => e) hs
  obtain ⟨e, rfl, ⟨it, a1, a2, a3, a4, a5, a6, a7, a8, a9, a10⟩, hQ⟩ := h₁
  exact ⟨e, it, rfl, a1, a2, a3, a4, a5, a6, a7, a8, a9, a10, hQ⟩
theorem sys_lt {K : Frag} {o : Obj} {a : Addr} {h : Heap} (X : K.In h₀) (F : Fr h₀ L h m) (ho : K.lookup a = some o) (ha : sysModules < a) : sysModules < L :=
  Nat.lt_of_lt_of_le ha (Nat.le_of_lt (Nat.lt_of_lt_of_le (Heap.lt_size (X _ _ ho)) F.above))
end
end Mine
end T_R5
section T_R6
open PySem PySem.W PyProof.Rows PySem.Calls PySem.Spec
set_option maxRecDepth 100000
namespace Mine
open Builtin
theorem look_index : typeLookup (.type "bytes") "__index__" = pure none := by rw [typeLookup_type, builtinLookup_eq_fast]; kernel_rfl
section
variable {prog : Program} {w : World} {A : Around} {E : Value → Shared → Prop} {s : Shared} {b c : Array UInt8} {t u : Tok} {h₀ : Heap} {L : Addr} {m : Str → Option Value} {news : List (Addr × Obj)}
theorem name_bytes : typeNameOfCut 200 (.bytes b t) = pure "bytes" := by first | kernel_rfl | rfl
theorem asIndex_bytes {Q : Int → Shared → Prop} (hh : A.handled = none) (hE : ∀ h' tk e, Heap.NewExc s.heap h' e "TypeError" → E (.ref e) { s with heap := h', toks := tk }) :
    wpAny (model prog w) A (asIndex (.bytes b t)) Q E s := by
  unfold asIndex
  refine wpAny_bind (wpAny_of_eq (a := none) (by first | rfl | kernel_rfl) ?_)
  refine wpAny_bind (wpAny_callSpecial?_none (name := Str.ofString "__index__") (typeIs_bytes _ b t) look_index ?_)
  dsimp only
  rw [name_bytes]
  refine wpAny_bind (wpAny_pure ?_)
  exact wpAny_raiseErrorMade plainExc_TypeError hh hE
theorem meets_contains (b c : Array UInt8) (t u : Tok) :
    Meets («bytes.__contains__» ⟨[.bytes b t, .bytes c u], []⟩) (fun A R s => A.handled = none ∧ ∀ h' k, (∀ x o, s.heap.get? x = some o → h'.get? x = some o) → R (.ok (.ret (.bool (Bytes.find? b c 0 b.size).isSome))) { s with heap := h', toks := k }) := by
  refine .of_wp fun prog w A R s hS => ?_
  obtain ⟨hh, h⟩ := hS
  show wpAny _ _ (slotArgs "__contains__" 1 ⟨[.bytes b t, .bytes c u], []⟩ >>= fun r => _) _ _ s
  refine wpAny_bind (wpAny_of_eq (a := (.bytes b t, [.bytes c u])) (by kernel_rfl) ?_)
  show wpAny _ _ (Bytes.containsIn "bytes.__contains__" (.bytes b t) (.bytes c u) >>= fun r => _) _ _ s
  refine wpAny_bind ?_
  unfold Bytes.containsIn
  refine wpAny_bind (wpAny_attempt (asIndex_bytes (by simpa using hh) fun h' tk e hx => ?_))
  refine wpAny_bind (wpAny_of_eq KBy.buffer_eq ?_)
  refine wpAny_bind (wpAny_of_eq KBy.buffer_eq ?_)
  refine wpAny_bind (wpAny_rule ?_)
  exact wpAny_pure (wpAny_pure ⟨_, rfl, h h' tk hx.keeps⟩)
theorem notin_bytes {Q : Value → Shared → Prop} (hh : A.handled = none) (F : Fr h₀ L s.heap m) (N : News h₀ L s.heap news)
    (h : ∀ h' k, Fr h₀ L h' m → News h₀ L h' news → Q (.bool (!(Bytes.find? b c 0 b.size).isSome)) { s with heap := h', toks := k }) : wpAny (model prog w) A (compareOp .NotIn (.bytes c u) (.bytes b t)) Q E s := by
  show wpAny _ _ (do return .bool (!(← contains (.bytes b t) (.bytes c u)))) Q E s
  refine wpAny_bind ?_
  unfold contains
  refine wpAny_holding ?_
  show wpAny _ _ (specialOf (.bytes b t) "__contains__" >>= _) _ _ s
  refine wpAny_bind (wpAny_specialOf (typeIs_bytes s b t) FB.slot_bytes_contains.lookup ?_)
  show wpAny _ _ (if (some (Value.builtin "bytes.__contains__") == some Value.none) = true then _ else _) _ E s
  rw [if_neg (by rw [beq_builtin_none]; exact Bool.false_ne_true)]
  refine wpAny_bind (wpAny_callSpecialUnlessNone?_slot (name := Str.ofString "__contains__") (typeIs_bytes s b t) FB.slot_bytes_contains
    (call_meets FB.slot_bytes_contains (typeIs_bytes _ _ _) FB.entry_bytes_contains (FB.args_bytes_contains_2 _ _) (meets_contains b c t u) ⟨hh, fun h' k hk => ?_⟩))
  exact wpAny_truthy_bool (wpAny_pure (h h' k ⟨F.ns.keeps hk, fun x o q => hk x o (F.keep x o q), F.above⟩ fun p hp => ⟨hk _ _ (N p hp).1, (N p hp).2⟩))
theorem item_map {value slice : PySem.Expr} {D : Addr} {o : Obj} {kvs : List (Int × Value)} {c : Int} {uc : Tok} {v : Value} {Q : Value → Shared → Prop} (N : News h₀ L s.heap news) (hm : (D, o) ∈ news) (hD : o.IsDictOf (intKind prog w) kvs) (hv : valueAt kvs c = some v)
    (h : Q v { s with toks := s.toks + 1 })
    (hs : subscripted slice false (.ref D) (.int c uc) = operate [.ref D, .int c uc] (getItem (.ref D) (.int c uc)) := by with_unfolding_all rfl) (hg : ∀ r, letTemporaryGo value (.ref D) r = pure () := by intro _; with_unfolding_all rfl) :
    wpAny (model prog w) A (subscriptTail value slice (.ref D) (.int c uc)) Q E s :=
  let hd : s.heap.DictOf (intKind prog w) D kvs := Heap.dictOf_iff.mpr ⟨o, N.get hm, hD⟩
  subscriptTail_builtin hd.typeIs slot_dict_getitem.lookup (wpAny_getItem_of (intKind_is prog w c uc) hd.mapOf hv h) hs hg
end
end Mine
end T_R6
section T_R7
open PySem PySem.W PyProof.Rows PySem.Calls PySem.Spec
set_option maxRecDepth 100000
namespace Mine
theorem lri_no_bytes : typeLookup (.type "list_reverseiterator") "__bytes__" = pure none := by rw [typeLookup_type, builtinLookup_eq_fast]; kernel_rfl
theorem lri_no_index : typeLookup (.type "list_reverseiterator") "__index__" = pure none := by rw [typeLookup_type, builtinLookup_eq_fast]; kernel_rfl
theorem lri_no_buffer : typeLookup (.type "list_reverseiterator") "__buffer__" = pure none := by rw [typeLookup_type, builtinLookup_eq_fast]; kernel_rfl
theorem lri_no_len : typeLookup (.type "list_reverseiterator") "__len__" = pure none := by rw [typeLookup_type, builtinLookup_eq_fast]; kernel_rfl
theorem lri_hint : typeLookup (.type "list_reverseiterator") "__length_hint__" = pure (some (.builtin "list_reverseiterator.__length_hint__")) := by rw [typeLookup_type, builtinLookup_eq_fast]; kernel_rfl
theorem lri_split : splitId "list_reverseiterator.__length_hint__" = some ("list_reverseiterator", "__length_hint__") := by decide +kernel
theorem lri_sub : isSubtype (.type "list_reverseiterator") (.type "list_reverseiterator") = pure true := by rw [isSubtype_type]; kernel_rfl
section
variable {prog : Program} {w : World} {A : Around} {E : Value → Shared → Prop} {s : Shared}
theorem bm_loopW {R : Result → Shared → Prop} {I S : Addr} {fp wr : List Addr} {n : Nat} {P : Nat → Value → Prop} {St : Nat → Heap → Prop} {ns : List Int} (W : Walks prog w A.in1 I fp wr n P St) (hn : ns.length = n) (hP : ∀ i v, P i v → ∃ k t, ns[i]? = some k ∧ v = .int k t)
    (hr : ∀ k ∈ ns, 0 ≤ k ∧ k < 256) (hz : ns.length ≤ sizeLine) (hS : S ∉ fp) :
    ∀ (k i : Nat) (s : Shared), n - i = k → i ≤ n → St i s.heap → s.heap.get? S = some { cls := .type "bytearray", data := .bytearray (byteArr (ns.take i)) } →
      (∀ h' t k', (∀ b o, b ∉ wr → b ≠ S → s.heap.get? b = some o → h'.get? b = some o) → R (.ok (.ret (.bytes (byteArr ns) t))) { s with heap := h', toks := k' }) →
      codeAny (model prog w) A (.builtin "bytes.__new__.loop" ⟨[.type "bytes", .ref I, .ref S], []⟩) R s := by
  have hSw : S ∉ wr := fun h => hS (W.sub _ h)
  intro k
  induction k with
  | zero =>
    intro i s hk hle hst hSo hR
    have hin : i = n := by omega
    subst hin
    refine codeAny_builtin F.bm_entry_loop ?_
    rw [Around.under_plainId F.bm_plain_loop _]
    show wpAny _ A.in1 (pyNext (.ref I) >>= _) _ _ s
    refine wpAny_bind (W.done _ _ _ hst fun h' tk he => ?_)
    have hS' : h'.get? S = some { cls := .type "bytearray", data := .bytearray (byteArr (ns.take i)) } := he S _ hSw hSo
    refine wpAny_bind ?_
    unfold Builtin.Bytes.payload Builtin.Bytes.payload?
    refine wpAny_bind (wpAny_bind (wpAny_load hS' ?_))
    refine wpAny_pure (wpAny_pure ?_)
    rw [← hn, List.take_length]
    refine wpAny_bind (wpAny_mkBytes ?_ (by rw [byteArr_size]; exact hz))
    show wpAny _ _ (if (Value.type "bytes" == Value.type "bytes") = true then _ else _) _ _ _
    refine bm_if_true (by decide) ?_
    first
      | exact wpAny_pure (hR h' _ _ fun b o hb _ e => he b o hb e)
      | exact wpAny_bind (wpAny_pure (wpAny_pure (hR h' _ _ fun b o hb _ e => he b o hb e)))
  | succ k ih =>
    intro i s hk hle hst hSo hR
    have hlt : i < n := by omega
    refine codeAny_builtin F.bm_entry_loop ?_
    rw [Around.under_plainId F.bm_plain_loop _]
    show wpAny _ A.in1 (pyNext (.ref I) >>= _) _ _ s
    refine wpAny_bind (W.item i _ _ _ hlt hst fun v h' tk hv hst' hk' => ?_)
    obtain ⟨m, t, hm, rfl⟩ := hP i v hv
    obtain ⟨h0, h1⟩ := hr m (List.mem_of_getElem? hm)
    have hS' : h'.get? S = some { cls := .type "bytearray", data := .bytearray (byteArr (ns.take i)) } := hk' S _ hSw hSo
    refine wpAny_bind (wpAny_holding (wpAny_of_eq (rfl : asIndex (.int m t) = pure m) ?_))
    refine wpAny_bind (wpAny_letGo ?_)
    refine bm_if_false (by simp only [Bool.or_eq_false_iff, decide_eq_false_iff_not]; omega) ?_
    refine wpAny_bind ?_
    show wpAny _ _ (updateBytearray S (·.push m.toNat.toUInt8)) _ _ _
    unfold updateBytearray
    refine wpAny_bind (wpAny_load hS' ?_)
    show wpAny _ _ (update S (Obj.mapBytearray (·.push m.toNat.toUInt8)) >>= fun _ => lookBehind S) _ _ _
    refine wpAny_bind (wpAny_update hS' ?_)
    have hS₂ : (h'.update S (Obj.mapBytearray (·.push m.toNat.toUInt8))).get? S = some { cls := .type "bytearray", data := .bytearray (byteArr (ns.take (i + 1))) } := by
      rw [byteArr_take hm]
      exact Heap.get?_update_self (Obj.mapBytearray (·.push m.toNat.toUInt8)) hS' rfl
    refine wpAny_lookBehind hS₂ ?_ ?_
    · show (if (byteArr (ns.take (i + 1))).size > sizeLine then some "bytearray:memory" else none) = none
      rw [if_neg]
      rw [byteArr_size, List.length_take]
      omega
    · refine wpAny_pure ⟨plainId_quiet F.bm_plain_loop _, ih (i + 1) { s with heap := h'.update S (Obj.mapBytearray (·.push m.toNat.toUInt8)), toks := tk } (by omega) hlt ?_ hS₂ fun h3 t' k' hk3 => ?_⟩
      · exact W.frame _ _ _ hst' fun b hb o e => (Heap.get?_update_other _ _ (show S ≠ b from fun q => hS (by rw [q]; exact hb))).trans e
      · exact hR h3 t' k' fun b o hbI hbS e => hk3 b o hbI hbS ((Heap.get?_update_other _ _ (Ne.symm hbS)).trans (hk' b o hbI e))
theorem bm_newRev {l I : Addr} {vs : List Value} {ns : List Int} {Q : Value → Shared → Prop} (hh : A.handled = none) (hl : s.heap.IsList l vs.toArray) (hit : s.heap.IsRevIter I l ((vs.length : Int) - 1)) (hlI : l ≠ I) (hi : IntsAre vs ns) (hr : ∀ n ∈ ns, 0 ≤ n ∧ n < 256) (hz : ns.length ≤ sizeLine)
    (hQ : ∀ h' t k, (∀ b o, b ≠ I → s.heap.get? b = some o → h'.get? b = some o) → Q (.bytes (byteArr ns.reverse) t) { s with heap := h', toks := k }) :
    codeAny (model prog w) A (.call (.builtin "bytes.__new__") ⟨[.type "bytes", .ref I], []⟩) (wants Q E) s := by
  refine codeAny_of_tree ?_
  show wpAny _ A.in1 (do checkBuiltinCall "bytes.__new__" ⟨[.type "bytes", .ref I], []⟩; again (.builtin "bytes.__new__" ⟨[.type "bytes", .ref I], []⟩)) _ _ s
  refine wpAny_bind (wpAny_of_eq (F.bm_newCall _) (wpAny_pure ⟨plainId_quiet F.bm_plain _, codeAny_builtin F.bm_entry ?_⟩))
  rw [Around.under_plainId F.bm_plain _]
  have hT : s.TypeIs (.ref I) "list_reverseiterator" := hit.typeIs
  obtain ⟨oI, hoI, hcI, hdI⟩ := id hit
  unfold Builtin.«bytes.__new__»
  refine wpAny_bind (wpAny_of_eq (a := true) rfl ?_)
  refine bm_if_false rfl ?_
  refine wpAny_bind (wpAny_of_eq F.bm_sub ?_)
  refine bm_if_false rfl ?_
  refine wpAny_bind (wpAny_of_eq (F.bm_bind _) ?_)
  refine wpAny_bind (wpAny_of_eq (a := ()) rfl ?_)
  refine wpAny_bind (wpAny_of_eq (a := ()) rfl ?_)
  refine bm_if_false rfl ?_
  refine wpAny_bind (wpAny_specialOf hT lri_no_bytes ?_)
  refine wpAny_bind (wpAny_bind ?_)
  show wpAny _ _ (load I >>= _) _ _ _
  refine wpAny_bind (wpAny_load hoI ?_)
  rw [hdI]
  refine wpAny_pure (wpAny_pure ?_)
  refine bm_if_false rfl ?_
  refine wpAny_bind (wpAny_specialOf hT lri_no_index ?_)
  refine bm_if_true rfl ?_
  first
    | show wpAny _ _ (Builtin.Bytes.buffer? "bytes.__new__" (.ref I) true >>= _) _ _ _
    | (refine wpAny_bind ?_; show wpAny _ _ (Builtin.Bytes.buffer? "bytes.__new__" (.ref I) true >>= _) _ _ _)
  refine wpAny_bind ?_
  unfold Builtin.Bytes.buffer?
  refine wpAny_bind (wpAny_specialOf hT lri_no_buffer ?_)
  refine wpAny_bind (wpAny_specialOf hT lri_no_buffer ?_)
  refine wpAny_pure ?_
  refine wpAny_bind (wpAny_tryCatch (wpAny_pyIter_revIter hit ?_))
  refine wpAny_bind (wpAny_holding ?_)
  unfold Builtin.Bytes.lengthHint
  refine wpAny_bind (wpAny_specialOf hT lri_no_len ?_)
  dsimp only
  refine bm_if_false rfl ?_
  refine bm_if_false rfl ?_
  refine wpAny_bind (wpAny_specialOf hT lri_hint ?_)
  dsimp only
  rw [lri_split]
  dsimp only
  refine wpAny_bind (wpAny_isInstance hT lri_sub ?_)
  refine bm_if_false rfl ?_
  refine bm_if_true (by decide +kernel) ?_
  refine bm_if_false (by decide +kernel) ?_
  refine wpAny_pure ?_
  refine wpAny_bind ?_
  unfold Builtin.Bytes.newBytearray
  refine wpAny_newObj_type ?_ (Nat.zero_le _)
  have hltI : I < s.heap.objs.size := Heap.lt_size hoI
  have hltl : l < s.heap.objs.size := by obtain ⟨o, ho, _⟩ := hl; exact Heap.lt_size ho
  have hlen : vs.length = ns.length := hi.length
  have W := (Walks.listRev (prog := prog) (w := w) (A := A.in1) hh I l hlI vs.toArray).bound
  have main := bm_loopW (prog := prog) (w := w) (A := A) (R := wants Q E) (S := s.heap.objs.size) (ns := ns.reverse) W (by rw [List.length_reverse, List.size_toArray, hlen]) (fun i v hv => by
      have hii : i < ns.length := by have := hv.1; rw [List.size_toArray] at this; omega
      have hv' : vs[vs.length - 1 - i]? = some v := by simpa using hv.2
      obtain ⟨k, t, e, hk⟩ := IntsAre.at hi _ _ hv'
      refine ⟨k, t, ?_, e⟩
      rw [List.getElem?_reverse hii, ← hlen]; exact hk) (fun n hn => hr n (List.mem_reverse.mp hn)) (by rw [List.length_reverse]; exact hz) (fun hm => by
        rcases List.mem_cons.mp hm with q | hm
        · exact Nat.lt_irrefl _ (q ▸ hltI)
        · rw [List.mem_singleton.mp hm] at hltl; exact Nat.lt_irrefl _ hltl)
    vs.toArray.size 0 { s with heap := s.heap.push { cls := .type "bytearray", data := .bytearray #[] } } rfl (Nat.zero_le _) ⟨Nat.zero_le _, ?_, hl.push _⟩ (Heap.get?_push_size _ rfl)
    fun h' t k hk => hQ h' t k fun b o hb e => hk b o (by simpa using hb) (Nat.ne_of_lt (Heap.lt_size e)) (Heap.get?_push_of_some _ e)
  · first
      | exact wpAny_pure ⟨plainId_quiet F.bm_plain_loop _, main⟩
      | exact wpAny_pure (wpAny_pure ⟨plainId_quiet F.bm_plain_loop _, main⟩)
  · refine ⟨oI, Heap.get?_push_of_some _ hoI, hcI, ?_⟩
    rw [hdI]; simp
theorem call_bytes_rev {l I : Addr} {vs : List Value} {ns : List Int} {nn : Nat} {h₀ : Heap} {L : Addr} {m : Str → Option Value} {news : List (Addr × Obj)} {Q : Value → Shared → Prop} (Fx : Fr h₀ L s.heap m) (N : News h₀ L s.heap ((I, revObj l ((vs.length : Int) - 1)) :: (l, listOf vs.toArray nn) :: news)) (hlI : l < I) (hoff : ∀ p ∈ news, p.1 < I)
    (hi : IntsAre vs ns) (hr : ∀ n ∈ ns, 0 ≤ n ∧ n < 256) (hz : ns.length ≤ 1000) (hh : A.handled = none)
    (hQ : ∀ h' t k, Fr h₀ L h' m → News h₀ L h' ((l, listOf vs.toArray nn) :: news) → Q (.bytes (byteArr ns.reverse) t) { s with heap := h', toks := k }) : wpAny (model prog w) A (call (.type "bytes") [.ref I]) Q E s := by
  have hI := N _ (.head _)
  have hl := N _ (.tail _ (.head _))
  refine callType_codes (Q₁ := fun obj s₁ => s₁.TypeIs obj "bytes" ∧ Q obj s₁) F.bm_called (F.bm_typeCall _) F.entry_object_init
    (bm_newRev (l := l) hh ⟨_, hl.1, rfl, _, rfl⟩ ⟨_, hI.1, rfl, rfl⟩ (Nat.ne_of_lt hlI) hi hr (by rw [sizeLine_eq]; omega) fun h' t k hk => ⟨PySem.W.typeIs_bytes _ _ _, hQ h' t k ⟨Fx.ns.at' fun o e => hk _ o (Ne.symm hI.2.1) e, fun b o e => hk b o (fun q => by rw [q, hI.2.2] at e; cases e) (Fx.keep b o e), Fx.above⟩ fun p hp => ?_⟩) fun obj s₁ h₁ => ?_
  · rcases List.mem_cons.mp hp with rfl | hp
    · exact ⟨hk _ _ (Nat.ne_of_lt hlI) hl.1, hl.2⟩
    · have := N p (.tail _ (.tail _ hp))
      exact ⟨hk _ _ (Nat.ne_of_lt (hoff p hp)) this.1, this.2⟩
  · exact ⟨h₁.1, F.args_object_init_2 obj _, object_init_meets F.bm_called.init.lookup F.bm_called.made (by decide) prog w A.in1 _ s₁ ⟨h₁.1, rfl, h₁.2⟩⟩
end
end Mine
end T_R7
section T_C2
open PySem PySem.W PyProof.Rows
set_option maxRecDepth 100000
namespace Mine
theorem reset_C2 : True := by
  w_top off
  trivial
-- HDR BEGIN
local macro_rules | `(tactic| cell_enter) => `(tactic| first
  | (refine' code_def ?k1 ?k2 ?k3 ?k4 ?k5 ?kA ?kF ?kK ?k6 ?k7 ?k8 ?k9 ?kB ?_ ?c2 ?c3 ?c4 ?c5; (case kA => exact rfl); (case kF => exact rfl); (case kK => first | exact rfl | assumption); (case k1 => k_asm); (case k2 => k_asm); (case k3 => k_asm); (case k4 => k_asm); (case k5 => k_asm); (case k6 => k_is); (case k7 => k_is); (case k8 => ktr_room); (case k9 => first | exact BindsTo.of_eq rfl | exact binds_K (by k_in) rfl (by k_is) rfl rfl rfl | (refine' kp_binds ?kx ?ke; (case kx => k_in); (case ke => exact fun _ => rfl))); (case c5 => decide); (case kB => exact locs rfl); (case c2 => exact rfl); (case c3 => exact rfl); (case c4 => exact rfl); k_whole; intro g' L' h' FG' F' N' B' X' T'; (try dsimp only); (try k_lift B'); (try k_fold))
  | (refine' code_defC ?k1 ?k2 ?k3 ?k4 ?k5 ?kA ?kF ?kK ?k6 ?k7 ?k8 ?k9 ?kB ?kD ?_ ?c2 ?c3 ?c4; (case kA => exact rfl); (case kF => exact rfl); (case kK => first | exact rfl | assumption); (case k1 => k_asm); (case k2 => k_asm); (case k3 => k_asm); (case k4 => k_asm); (case k5 => k_asm); (case k6 => k_is); (case k7 => k_is); (case k8 => ktr_room); (case k9 => first | exact BindsTo.of_eq rfl | exact binds_K (by k_in) rfl (by k_is) rfl rfl rfl | (refine' kp_binds ?kx ?ke; (case kx => k_in); (case ke => exact fun _ => rfl))); (case kB => exact rfl); (case kD => decide +kernel); (case c2 => exact rfl); (case c3 => exact rfl); (case c4 => exact rfl); k_whole; intro g' L' h' tk' cells' FG' F' N' Y' B' X' T' l1; (try k_lt l1); k_cells Y'; (try simp only [List.cons_append, List.nil_append] at N'); (try dsimp only); (try k_lift B'); (try k_fold)))
local macro_rules | `(tactic| walk_at "call ref") => `(tactic| (k_here; k_dflt (refine wpAny_call ?_; cell_enter)))
local macro_rules | `(tactic| k_all) => `(tactic| exact ne_tail (by assumption) (by first | exact Nat.le_refl _ | exact Nat.le_succ _ | omega))
-- HDR END
theorem add_sz {x y : Nat} (hx : x ≤ 200) (hy : y ≤ 200) : x + y ≤ 16777216 := by omega
def encB (al v : Array UInt8) : Array UInt8 := (List.replicate (v.size - (stripS #[0] v).size) (al.getD 0 0)).toArray ++ enc al (val256 (stripS #[0] v))
section
local macro_rules | `(tactic| walk_at "getMethod") => `(tactic| (k_here; with_reducible first | refine meth_lstrip ?_ | refine meth_rstrip ?_))
local macro_rules | `(tactic| walk_at "call builtin:len") => `(tactic| (k_here; (with_reducible show wpAny _ _ (call (Value.builtin "len") [Value.bytes _ _]) _ _ _); (refine len_b (by omega) ?_)))
local macro_rules | `(tactic| walk_at "call builtin:bytes.lstrip") => `(tactic| (k_here; (refine call_lstrip (by omega) ?_); intro _ _ _))
local macro_rules | `(tactic| walk_at "callWith ref") => `(tactic| (k_here; kfb_any; k_dflt (refine' callWith_boundK ?kfbN ?kfbM ?kall ?_; (case kfbN => k_asm); (case kfbM => k_mem); (case kall => exact rfl); k_whole)))
local macro_rules | `(tactic| walk_at "call ref") => `(tactic| (k_here; kfb_any; (with_reducible show wpAny _ _ (call (Value.ref _) [Value.bytes _ _] _) _ _ _); k_dflt (refine call_bigK (by k_asm) (by k_mem) (Nat.lt_of_lt_of_le (by assumption) (by decide)) ?_); intro _ _))
local macro_rules | `(tactic| walk_at "call ref") => `(tactic| (k_here; (with_reducible show wpAny _ _ (call (Value.ref 29) [Value.int _ _] _) _ _ _); k_dflt (refine' use (enc_int_kw _ _ _ _ (by assumption) (by assumption) (by assumption)) ?k1 ?k2 ?k3 ?k4 ?k5 ?kK ?kd ?ku ?_; (case k1 => k_asm); (case k2 => k_asm); (case k3 => k_asm); (case k4 => k_asm); (case k5 => k_asm); (case kK => first | exact rfl | assumption); (case kd => ktr_room); (case ku => ktr_units); intro t9 h9 tk9 F9 N9; (try dsimp only); (try k_fold))))
local macro_rules | `(tactic| walk_at "subscriptTail") => `(tactic| (k_here; (with_reducible show wpAny _ _ (subscriptTail _ (Expr.Slice _ _ none _) (Value.bytes _ _) (Value.ref _)) _ _ _); (with_reducible rename Fr _ _ _ _ => F'); (with_reducible rename News _ _ _ _ => N'); (refine slice_first (s := ⟨_, _, _, _, _⟩) F' N' (by constructor) (by constructor) (by omega) (by omega) ?_); intro _ _ _ _ _))
local macro_rules | `(tactic| walk_at "binaryOp Mult bytes int") => `(tactic| (k_here; (refine mul_one (by omega) (by omega) ?_); intro _ _))
local macro_rules | `(tactic| walk_at "binaryOp Add bytes bytes") => `(tactic| (k_here; (refine add_b (add_sz (by (rw [List.size_toArray, List.length_replicate]); omega) (Nat.le_trans (enc_size (k := 90) (by assumption)) (by decide))) ?_); intro _ _))
set_option maxHeartbeats 8000000 in
theorem enc_bytes {w : World} {mean : ExcName → Option Value} {mg mb : Str → Option Value} (v : Array UInt8) (t1 t2 : Tok) (al : Array UInt8) (h2 : 2 ≤ al.size) (h256 : al.size ≤ 256) (hv : v.size ≤ 100) (hn : val256 (stripS #[0] v) < 2 ^ 90) :
    Gives 6 w mean mg mb 37 [.bytes v t1, .bytes al t2] [] (fun t => .bytes (encB al v) t) := by
  unfold Gives
  k_fill
  intro dp un gd cn cs a ccd cl outer A₀ base h₀ L m news s Q E B F X N T hk hd hu hret
  refine wpAny_call ?_
  k_dflt cell_enter
  k_steps
  all_goals (try (have he := Int.toNat_sub v.size (stripS #[0] v).size; rw [he]; exact hret _ _ _ (by k_asm) (cb_drop (by k_asm) (by kcj_all))))
  all_goals trace_state
  all_goals w_report
end
end Mine
end T_C2
section T_C3
open PySem PySem.W PyProof.Rows
set_option maxRecDepth 100000
namespace Mine
theorem reset_C3 : True := by
  w_top off
  trivial
-- HDR BEGIN
local macro_rules | `(tactic| cell_enter) => `(tactic| first
  | (refine' code_def ?k1 ?k2 ?k3 ?k4 ?k5 ?kA ?kF ?kK ?k6 ?k7 ?k8 ?k9 ?kB ?_ ?c2 ?c3 ?c4 ?c5; (case kA => exact rfl); (case kF => exact rfl); (case kK => first | exact rfl | assumption); (case k1 => k_asm); (case k2 => k_asm); (case k3 => k_asm); (case k4 => k_asm); (case k5 => k_asm); (case k6 => k_is); (case k7 => k_is); (case k8 => ktr_room); (case k9 => first | exact BindsTo.of_eq rfl | exact binds_K (by k_in) rfl (by k_is) rfl rfl rfl | (refine' kp_binds ?kx ?ke; (case kx => k_in); (case ke => exact fun _ => rfl))); (case c5 => decide); (case kB => exact locs rfl); (case c2 => exact rfl); (case c3 => exact rfl); (case c4 => exact rfl); k_whole; intro g' L' h' FG' F' N' B' X' T'; (try dsimp only); (try k_lift B'); (try k_fold))
  | (refine' code_defC ?k1 ?k2 ?k3 ?k4 ?k5 ?kA ?kF ?kK ?k6 ?k7 ?k8 ?k9 ?kB ?kD ?_ ?c2 ?c3 ?c4; (case kA => exact rfl); (case kF => exact rfl); (case kK => first | exact rfl | assumption); (case k1 => k_asm); (case k2 => k_asm); (case k3 => k_asm); (case k4 => k_asm); (case k5 => k_asm); (case k6 => k_is); (case k7 => k_is); (case k8 => ktr_room); (case k9 => first | exact BindsTo.of_eq rfl | exact binds_K (by k_in) rfl (by k_is) rfl rfl rfl | (refine' kp_binds ?kx ?ke; (case kx => k_in); (case ke => exact fun _ => rfl))); (case kB => exact rfl); (case kD => decide +kernel); (case c2 => exact rfl); (case c3 => exact rfl); (case c4 => exact rfl); k_whole; intro g' L' h' tk' cells' FG' F' N' Y' B' X' T' l1; (try k_lt l1); k_cells Y'; (try simp only [List.cons_append, List.nil_append] at N'); (try dsimp only); (try k_lift B'); (try k_fold)))
local macro_rules | `(tactic| walk_at "call ref") => `(tactic| (k_here; k_dflt (refine wpAny_call ?_; cell_enter)))
local macro_rules | `(tactic| k_all) => `(tactic| exact ne_tail (by assumption) (by first | exact Nat.le_refl _ | exact Nat.le_succ _ | omega))
-- HDR END
def signs (size turn : Nat) : Array UInt8 := byteArr ((rangeKs 0 size).map fun k => 33 + ((turn : Int) + (1 + (turn : Int).fmod 23 * 2) * k).fmod 94)
set_option maxHeartbeats 8000000 in
theorem law_signs {w : World} {mean : ExcName → Option Value} {mg mb : Str → Option Value} (size turn : Nat) (t1 t2 : Tok) (h2 : 2 ≤ size) (h256 : size ≤ 49) (hn : turn ≤ 10007) :
    Gives 3 w mean mg mb 66 [.int size t1, .int turn t2] [] (fun t => .bytes (signs size turn) t) := by
  unfold Gives
  k_fill
  intro dp un gd cn cs a ccd cl outer A₀ base h₀ L m news s Q E B F X N T hk hd hu hret
  refine wpAny_call ?_
  k_dflt cell_enter
  k_steps
  have e9 : ((size : Int) - 0).toNat = size := by omega
  rw [e9]
  exact hret _ _ _ (by k_asm) (cb_drop (by k_asm) (by kcj_all))
end Mine
end T_C3
section T_C4
open PySem PySem.W PyProof.Rows
set_option maxRecDepth 100000
namespace Mine
local macro_rules | `(tactic| walk_at "pad 0") => `(tactic| fail "pad")
theorem reset_C4 : True := by
  w_top off
  trivial
-- HDR BEGIN
local macro_rules | `(tactic| cell_enter) => `(tactic| first
  | (refine' code_def ?k1 ?k2 ?k3 ?k4 ?k5 ?kA ?kF ?kK ?k6 ?k7 ?k8 ?k9 ?kB ?_ ?c2 ?c3 ?c4 ?c5; (case kA => exact rfl); (case kF => exact rfl); (case kK => first | exact rfl | assumption); (case k1 => k_asm); (case k2 => k_asm); (case k3 => k_asm); (case k4 => k_asm); (case k5 => k_asm); (case k6 => k_is); (case k7 => k_is); (case k8 => ktr_room); (case k9 => first | exact BindsTo.of_eq rfl | exact binds_K (by k_in) rfl (by k_is) rfl rfl rfl | (refine' kp_binds ?kx ?ke; (case kx => k_in); (case ke => exact fun _ => rfl))); (case c5 => decide); (case kB => exact locs rfl); (case c2 => exact rfl); (case c3 => exact rfl); (case c4 => exact rfl); k_whole; intro g' L' h' FG' F' N' B' X' T'; (try dsimp only); (try k_lift B'); (try k_fold))
  | (refine' code_defC ?k1 ?k2 ?k3 ?k4 ?k5 ?kA ?kF ?kK ?k6 ?k7 ?k8 ?k9 ?kB ?kD ?_ ?c2 ?c3 ?c4; (case kA => exact rfl); (case kF => exact rfl); (case kK => first | exact rfl | assumption); (case k1 => k_asm); (case k2 => k_asm); (case k3 => k_asm); (case k4 => k_asm); (case k5 => k_asm); (case k6 => k_is); (case k7 => k_is); (case k8 => ktr_room); (case k9 => first | exact BindsTo.of_eq rfl | exact binds_K (by k_in) rfl (by k_is) rfl rfl rfl | (refine' kp_binds ?kx ?ke; (case kx => k_in); (case ke => exact fun _ => rfl))); (case kB => exact rfl); (case kD => decide +kernel); (case c2 => exact rfl); (case c3 => exact rfl); (case c4 => exact rfl); k_whole; intro g' L' h' tk' cells' FG' F' N' Y' B' X' T' l1; (try k_lt l1); k_cells Y'; (try simp only [List.cons_append, List.nil_append] at N'); (try dsimp only); (try k_lift B'); (try k_fold)))
local macro_rules | `(tactic| walk_at "call ref") => `(tactic| (k_here; k_dflt (refine wpAny_call ?_; cell_enter)))
local macro_rules | `(tactic| k_all) => `(tactic| exact ne_tail (by assumption) (by first | exact Nat.le_refl _ | exact Nat.le_succ _ | omega))
-- HDR END
def plainI (ns : List Int) : List Int := ns.dropWhile (· == 0)
theorem plainI_step {ns : List Int} (h : 0 < ns.length) (h0 : ns.getD (Int.toNat 0) 0 = 0) : plainI (ns.drop 1) = plainI ns := by
  cases ns with
  | nil => simp at h
  | cons a r => have h0' : a = 0 := h0
                subst h0'; rfl
theorem plainI_stop {ns : List Int} (h0 : ns.getD (Int.toNat 0) 0 ≠ 0) : plainI ns = ns := by
  cases ns with
  | nil => rfl
  | cons a r => have h0' : a ≠ 0 := h0
                unfold plainI; rw [List.dropWhile_cons_of_neg]; simpa using h0'
theorem plainI_none {ns : List Int} (h0 : ¬ 0 < ns.length) : plainI ns = ns := by
  cases ns with
  | nil => rfl
  | cons a r => simp at h0
theorem drop2 {h₀ h : Heap} {L : Addr} {p q : Addr × Obj} {news : List (Addr × Obj)} (N : News h₀ L h (p :: q :: news)) : News h₀ L h (p :: news) :=
  fun x hx => N x ((List.mem_cons.mp hx).elim (fun e => e ▸ .head _) fun h => .tail _ (.tail _ h))
def PlainJ (news : List (Addr × Obj)) (ns : List Int) (m₀ : Str → Option Value) (k : Nat) (m : Str → Option Value) (nx : List (Addr × Obj)) : Prop :=
  ∃ r vs' nn' ns', k = ns'.length ∧ nx = (r, listOf vs'.toArray nn') :: news ∧ m = (fun y => if y = Str.ofString "digits" then some (.ref r) else m₀ y) ∧ IntsAre vs' ns' ∧ plainI ns' = plainI ns ∧ (∀ p ∈ news, p.1 < r) ∧ ns'.length ≤ 1000
set_option maxHeartbeats 8000000 in
theorem law_plain {w : World} {mean : ExcName → Option Value} {mg mb : Str → Option Value} (l : Addr) (vs : List Value) (ns : List Int) (nn : Nat) (hi : IntsAre vs ns) (hlen : ns.length ≤ 1000)
  (dp un : Nat) (gd : Option (List Code)) (cn : Str) (cs : Scope) (a : Addr) (ccd : Value) (cl : List (Str × Addr)) (outer : List Env) (A₀ : Around) (base h₀ : Heap) (L : Addr) (m : Str → Option Value) (news : List (Addr × Obj)) (s : Shared) (Q E : Value → Shared → Prop) :
    Below A₀ base outer h₀ → Fr h₀ L s.heap m → (hd.heap_39 w.params).In h₀ → News h₀ L s.heap ((l, listOf vs.toArray nn) :: news) →
    Top hd.view_39 (looseW hd.view_39 [Str.ofString "b58encode_int", Str.ofString "b58encode", Str.ofString "b58decode_int", Str.ofString "b58decode"]) mean mg mb h₀ → cs.kind = .function →
    dp + 5 < recursionLimit → un + 50 < cLine → (∀ p ∈ news, p.1 < l) →
    (∀ r vs' nn' h' tk', Fr h₀ L h' m → News h₀ L h' ((r, listOf vs'.toArray nn') :: news) → IntsAre vs' (plainI ns) → (∀ p ∈ news, p.1 < r) → Q (.ref r) { s with heap := h', toks := tk' }) →
      wpAny (model PySem.Challenge.rw_fe0041_01.row.prog w) (ktrTop dp un gd cn cs L a ccd cl outer) (call (.ref 73) [.ref l]) Q E s := by
  k_fill
  intro B F X N T hk hd hu hlt hret
  refine wpAny_call ?_
  k_dflt cell_enter
  repeat' ((fail_if_success (with_reducible show wpAny _ _ (exec (Stmt.While _ _ _ _) _) _ _ _)); first | (k_unfold; (try dsimp only)) | (k_end; wrow_close) | walk1 | (dsimp only; walk1) | (leave1; try dsimp only) | fail "no step")
  (rename Fr _ _ _ _ => lF')
  (rename News _ _ _ _ => lN')

  with_unfolding_all refine' While_inv2 (n₀ := ns.length) (PlainJ news ns _) lF' lN' ?kJ ?_
  (case kJ => exact ⟨l, vs, nn, ns, rfl, rfl, (funext fun y => (by by_cases hy : y = Str.ofString "digits" <;> simp [hy] <;> rfl)), hi, rfl, hlt, hlen⟩)
  clear lF' lN'
  rintro k m₁ news₁ h₁ tk₁ F₁ N₁ ⟨r, vs', nn', ns', hk', hnx, hm, hi', hp, hlt', hlen'⟩
  subst hnx hm
  k_steps
  · (rename_i D ws _ hI hC hL l1 _ F' N')
    refine ⟨_, _, _, (D, listOf ws.toArray 0) :: news, (ns'.drop 1).length, rfl, F', drop2 N', by rw [hC]; omega, D, ws, 0, ns'.drop 1, rfl, rfl, ?_, hI, (plainI_step (by assumption) (by assumption)).trans hp, allLt_to l1.2, by omega⟩
    funext y
    by_cases hy : y = Str.ofString "digits" <;> simp [hy]
  · exact hret _ _ _ _ _ (by k_asm) (by k_asm) (by rw [← hp, plainI_stop (by assumption)]; exact hi') hlt'
  · exact hret _ _ _ _ _ (by k_asm) (by k_asm) (by rw [← hp, plainI_none (by assumption)]; exact hi') hlt'
end Mine
end T_C4
section T_C5
open PySem PySem.W PyProof.Rows
set_option maxRecDepth 100000
namespace Mine
local macro_rules | `(tactic| walk_at "pad 0") => `(tactic| fail "pad")
theorem reset_C5 : True := by
  w_top off
  trivial
-- HDR BEGIN
local macro_rules | `(tactic| cell_enter) => `(tactic| first
  | (refine' code_def ?k1 ?k2 ?k3 ?k4 ?k5 ?kA ?kF ?kK ?k6 ?k7 ?k8 ?k9 ?kB ?_ ?c2 ?c3 ?c4 ?c5; (case kA => exact rfl); (case kF => exact rfl); (case kK => first | exact rfl | assumption); (case k1 => k_asm); (case k2 => k_asm); (case k3 => k_asm); (case k4 => k_asm); (case k5 => k_asm); (case k6 => k_is); (case k7 => k_is); (case k8 => ktr_room); (case k9 => first | exact BindsTo.of_eq rfl | exact binds_K (by k_in) rfl (by k_is) rfl rfl rfl | (refine' kp_binds ?kx ?ke; (case kx => k_in); (case ke => exact fun _ => rfl))); (case c5 => decide); (case kB => exact locs rfl); (case c2 => exact rfl); (case c3 => exact rfl); (case c4 => exact rfl); k_whole; intro g' L' h' FG' F' N' B' X' T'; (try dsimp only); (try k_lift B'); (try k_fold))
  | (refine' code_defC ?k1 ?k2 ?k3 ?k4 ?k5 ?kA ?kF ?kK ?k6 ?k7 ?k8 ?k9 ?kB ?kD ?_ ?c2 ?c3 ?c4; (case kA => exact rfl); (case kF => exact rfl); (case kK => first | exact rfl | assumption); (case k1 => k_asm); (case k2 => k_asm); (case k3 => k_asm); (case k4 => k_asm); (case k5 => k_asm); (case k6 => k_is); (case k7 => k_is); (case k8 => ktr_room); (case k9 => first | exact BindsTo.of_eq rfl | exact binds_K (by k_in) rfl (by k_is) rfl rfl rfl | (refine' kp_binds ?kx ?ke; (case kx => k_in); (case ke => exact fun _ => rfl))); (case kB => exact rfl); (case kD => decide +kernel); (case c2 => exact rfl); (case c3 => exact rfl); (case c4 => exact rfl); k_whole; intro g' L' h' tk' cells' FG' F' N' Y' B' X' T' l1; (try k_lt l1); k_cells Y'; (try simp only [List.cons_append, List.nil_append] at N'); (try dsimp only); (try k_lift B'); (try k_fold)))
local macro_rules | `(tactic| walk_at "call ref") => `(tactic| (k_here; k_dflt (refine wpAny_call ?_; cell_enter)))
local macro_rules | `(tactic| k_all) => `(tactic| exact ne_tail (by assumption) (by first | exact Nat.le_refl _ | exact Nat.le_succ _ | omega))
-- HDR END
section
local macro_rules | `(tactic| walk_at "call type:enumerate") => `(tactic| (k_here; (refine enum_K (by k_asm) (by k_asm) ?_); (intro e8 s8 hEn8 hs8); (obtain ⟨h8, he8⟩ := hs8); subst he8))
set_option maxHeartbeats 8000000 in
theorem dec_map {w : World} {mean : ExcName → Option Value} {mg mb : Str → Option Value} (t2 : Tok) (al : Array UInt8) (h2 : 2 ≤ al.size) (h256 : al.size ≤ 256) (hap : Apart al)
  (dp un : Nat) (gd : Option (List Code)) (cn : Str) (cs : Scope) (a : Addr) (ccd : Value) (cl : List (Str × Addr)) (outer : List Env) (A₀ : Around) (base h₀ : Heap) (L : Addr) (m : Str → Option Value) (news : List (Addr × Obj)) (s : Shared) (Q E : Value → Shared → Prop) :
    Below A₀ base outer h₀ → Fr h₀ L s.heap m → (hd.heap_39 w.params).In h₀ → News h₀ L s.heap news →
    Top hd.view_39 (looseW hd.view_39 [Str.ofString "b58encode_int", Str.ofString "b58encode", Str.ofString "b58decode_int", Str.ofString "b58decode"]) mean mg mb h₀ → cs.kind = .function →
    dp + 3 < recursionLimit → un + 48 < cLine →
    (∀ D o h' tk kvs, Fr h₀ L h' m → News h₀ L h' ((D, o) :: news) → (∀ p ∈ news, p.1 < D) → (D == sysModules) = false → o.IsDictOf (intKind PySem.Challenge.rw_fe0041_01.row.prog w) kvs → MapTo al al.size kvs → Q (.ref D) { s with heap := h', toks := tk }) →
      wpAny (model PySem.Challenge.rw_fe0041_01.row.prog w) (ktrTop dp un gd cn cs L a ccd cl outer) (call (.ref 42) [.bytes al t2] [(Str.ofString "autofix", .bool false)]) Q E s := by
  k_fill
  intro B F X N T hk hd hu hret
  refine wpAny_call ?_
  k_dflt cell_enter
  k_steps
  (have hsys8 := sys_lt (a := 78) (by assumption : Frag.In _ _) (by assumption : Fr _ _ _ _) (by with_unfolding_all rfl) (by decide))
  with_reducible rename News _ _ _ _ => N8'
  with_reducible rename Fr _ _ _ _ => F8'
  with_unfolding_all refine dictComp_K (b := al) (t := t2) F8' N8' ?a1 ?a2 ?a3 ?a4 ?a5 ?a6 ?a7 ?a8 ?a9 ?a10 ?a11 ?a12 hsys8 ?_
  case a1 => rfl
  case a2 => with_unfolding_all rfl
  case a3 => decide
  case a4 => rfl
  case a5 => decide
  case a6 => rfl
  case a7 => rfl
  case a8 => decide
  case a9 => decide
  case a10 => decide
  case a11 => assumption
  case a12 => assumption
  k_steps
  · assumption
  · unfold MapRest
    intro D o h9 tk9 kvs F9 N9 l9 lo9 hD9 hM9
    k_lt l9
    dsimp only
    try k_fold
    k_sweep
    k_steps
    exact hret _ _ _ _ _ (by k_asm) (cb_drop (by k_asm) (by kcj_all)) (allLt_to l9.2) lo9 hD9 hM9
end
end Mine
end T_C5
section T_C6
open PySem PySem.W PyProof.Rows
set_option maxRecDepth 100000
namespace Mine
theorem reset_C6 : True := by
  w_top off
  trivial
-- HDR BEGIN
local macro_rules | `(tactic| cell_enter) => `(tactic| first
  | (refine' code_def ?k1 ?k2 ?k3 ?k4 ?k5 ?kA ?kF ?kK ?k6 ?k7 ?k8 ?k9 ?kB ?_ ?c2 ?c3 ?c4 ?c5; (case kA => exact rfl); (case kF => exact rfl); (case kK => first | exact rfl | assumption); (case k1 => k_asm); (case k2 => k_asm); (case k3 => k_asm); (case k4 => k_asm); (case k5 => k_asm); (case k6 => k_is); (case k7 => k_is); (case k8 => ktr_room); (case k9 => first | exact BindsTo.of_eq rfl | exact binds_K (by k_in) rfl (by k_is) rfl rfl rfl | (refine' kp_binds ?kx ?ke; (case kx => k_in); (case ke => exact fun _ => rfl))); (case c5 => decide); (case kB => exact locs rfl); (case c2 => exact rfl); (case c3 => exact rfl); (case c4 => exact rfl); k_whole; intro g' L' h' FG' F' N' B' X' T'; (try dsimp only); (try k_lift B'); (try k_fold))
  | (refine' code_defC ?k1 ?k2 ?k3 ?k4 ?k5 ?kA ?kF ?kK ?k6 ?k7 ?k8 ?k9 ?kB ?kD ?_ ?c2 ?c3 ?c4; (case kA => exact rfl); (case kF => exact rfl); (case kK => first | exact rfl | assumption); (case k1 => k_asm); (case k2 => k_asm); (case k3 => k_asm); (case k4 => k_asm); (case k5 => k_asm); (case k6 => k_is); (case k7 => k_is); (case k8 => ktr_room); (case k9 => first | exact BindsTo.of_eq rfl | exact binds_K (by k_in) rfl (by k_is) rfl rfl rfl | (refine' kp_binds ?kx ?ke; (case kx => k_in); (case ke => exact fun _ => rfl))); (case kB => exact rfl); (case kD => decide +kernel); (case c2 => exact rfl); (case c3 => exact rfl); (case c4 => exact rfl); k_whole; intro g' L' h' tk' cells' FG' F' N' Y' B' X' T' l1; (try k_lt l1); k_cells Y'; (try simp only [List.cons_append, List.nil_append] at N'); (try dsimp only); (try k_lift B'); (try k_fold)))
local macro_rules | `(tactic| walk_at "call ref") => `(tactic| (k_here; k_dflt (refine wpAny_call ?_; cell_enter)))
local macro_rules | `(tactic| k_all) => `(tactic| exact ne_tail (by assumption) (by first | exact Nat.le_refl _ | exact Nat.le_succ _ | omega))
-- HDR END
/-- the number that places tell -/
def valN (b : Nat) (ds : List Nat) : Nat := ds.foldl (fun n d => n * b + d) 0
/-- places written by signs -/
def txt (al : Array UInt8) (ds : List Nat) : Array UInt8 := (ds.map fun d => al.getD d 0).toArray
theorem txt_nospace {al : Array UInt8} {ds : List Nat} (hsp : ∀ d, d < al.size → Builtin.Bytes.isSpace (al.getD d 0) = false) (hds : ∀ d ∈ ds, d < al.size) : ∀ x ∈ (txt al ds).toList, Builtin.Bytes.isSpace x = false := fun x hx => by
  obtain ⟨d, hd, rfl⟩ := List.mem_map.mp (show x ∈ ds.map (fun d => al.getD d 0) from hx)
  exact hsp d (hds d hd)
theorem valN_snoc (b : Nat) (ds : List Nat) (d : Nat) : valN b (ds ++ [d]) = valN b ds * b + d := by unfold valN; rw [List.foldl_append]; rfl
structure DecInv (al : Array UInt8) (ds : List Nat) (pre : List Int) (decimal : Int) : Prop where
  le : pre.length ≤ ds.length
  eq : decimal = (valN al.size (ds.take pre.length) : Nat)
theorem dec_start {al : Array UInt8} {ds : List Nat} : DecInv al ds [] 0 := ⟨Nat.zero_le _, rfl⟩
theorem txt_ints (al : Array UInt8) (ds : List Nat) : KBw.bInts (txt al ds) = ds.map fun d => ((al.getD d 0).toNat : Int) := by
  unfold txt; rw [KBw.ints_list, List.map_map]; rfl
theorem dec_place {al : Array UInt8} {ds : List Nat} {pre post : List Int} {n : Int} (hds : ∀ d ∈ ds, d < al.size) (e : KBw.bInts (txt al ds) = pre ++ n :: post) :
    ∃ d, ds[pre.length]? = some d ∧ d < al.size ∧ n = ((al.getD d 0).toNat : Int) := by
  rw [txt_ints] at e
  have h : (ds.map fun d => ((al.getD d 0).toNat : Int))[pre.length]? = some n := by rw [e]; simp
  rw [List.getElem?_map] at h
  cases hd : ds[pre.length]? with
  | none => rw [hd] at h; cases h
  | some d =>
    rw [hd] at h
    exact ⟨d, rfl, hds d (List.mem_of_getElem? hd), (Option.some.inj h).symm⟩
theorem dec_turn {al : Array UInt8} {ds : List Nat} {pre : List Int} {n decimal : Int} {d : Nat} (h : DecInv al ds pre decimal) (hd : ds[pre.length]? = some d) :
    DecInv al ds (pre ++ [n]) (decimal * (al.size : Int) + (d : Int)) := by
  have hlt : pre.length < ds.length := (List.getElem?_eq_some_iff.mp hd).1
  refine ⟨by rw [List.length_append, List.length_singleton]; omega, ?_⟩
  rw [h.eq, List.length_append, List.length_singleton, List.take_add_one, hd]
  show _ = ((valN al.size (ds.take pre.length ++ [d]) : Nat) : Int)
  rw [valN_snoc]
  push_cast
  rfl
theorem dec_end {al : Array UInt8} {ds : List Nat} {decimal : Int} (h : DecInv al ds (KBw.bInts (txt al ds)) decimal) : decimal = (valN al.size ds : Nat) := by
  rw [h.eq, txt_ints, List.length_map, List.take_length]
section
local macro_rules | `(tactic| walk_at "getMethod") => `(tactic| (k_here; with_reducible first | refine meth_lstrip ?_ | refine meth_rstrip ?_))
local macro_rules | `(tactic| walk_at "call builtin:len") => `(tactic| (k_here; (with_reducible show wpAny _ _ (call (Value.builtin "len") [Value.bytes _ _]) _ _ _); (refine len_b (by omega) ?_)))
local macro_rules | `(tactic| walk_at "compareOp NotIn bytes bytes") => `(tactic| (k_here; (refine notin_bytes (by rfl) (by k_asm) (by k_asm) ?_); intro _ _ _ _))
local macro_rules | `(tactic| walk_at "call builtin:bytes.rstrip") => `(tactic| (k_here; (refine call_rstrip (txt_nospace (by assumption) (by assumption)) ?_); intro _))
local macro_rules | `(tactic| walk_at "call ref") => `(tactic| (k_here; (with_reducible show wpAny _ _ (call (Value.ref 42) [Value.bytes _ _] _) _ _ _); k_dflt (refine' dec_map _ _ (by assumption) (by assumption) (by assumption) _ _ _ _ _ _ _ _ _ _ _ _ _ _ _ _ _ _ ?k1 ?k2 ?k3 ?k4 ?k5 ?kK ?kd ?ku ?_; (case k1 => k_asm); (case k2 => k_asm); (case k3 => k_asm); (case k4 => k_asm); (case k5 => k_asm); (case kK => first | exact rfl | assumption); (case kd => ktr_room); (case ku => ktr_units); intro D9 o9 h9 tk9 kvs9 F9 N9 l9 lo9 hD9 hM9; (try k_lt l9); (try dsimp only); (try k_fold); (try k_sweep))))
local macro_rules | `(tactic| walk_at "subscriptTail") => `(tactic| (k_here; (with_reducible show wpAny _ _ (subscriptTail _ _ (Value.ref _) (Value.int _ _)) _ _ _); (obtain ⟨d8, hd8, hlt8, hn8⟩ := dec_place (by assumption) (by assumption)); (obtain ⟨t8, ht8⟩ := And.right (by assumption : MapTo _ _ _) _ hlt8); (rw [← hn8] at ht8); (refine item_map (by k_asm) (by k_mem) (by assumption) ht8 ?_)))
set_option maxHeartbeats 8000000 in
theorem dec_int {w : World} {mean : ExcName → Option Value} {mg mb : Str → Option Value} (t1 t2 : Tok) (al : Array UInt8) (ds : List Nat) (h2 : 2 ≤ al.size) (h256 : al.size ≤ 256) (hap : Apart al)
   (hsp : ∀ d, d < al.size → Builtin.Bytes.isSpace (al.getD d 0) = false) (hds : ∀ d ∈ ds, d < al.size) (hlen : ds.length ≤ 100) :
    Gives 5 w mean mg mb 51 [.bytes (txt al ds) t1, .bytes al t2] [] (fun t => .int (valN al.size ds : Nat) t) := by
  unfold Gives
  k_fill
  intro dp un gd cn cs a ccd cl outer A₀ base h₀ L m news s Q E B F X N T hk hd hu hret
  refine wpAny_call ?_
  k_dflt cell_enter
  k_with "state" => first | exact dec_start | exact dec_turn (by assumption) (by assumption)
  k_with "pyIter bytes" => k_state (fun pre decimal => DecInv al ds pre decimal) "decimal"
  k_steps
  all_goals (have he := dec_end (by assumption); subst he; exact hret _ _ _ (by k_asm) (cb_drop (by k_asm) (by kcj_all)))
set_option maxHeartbeats 8000000 in
theorem dec_int_kw {w : World} {mean : ExcName → Option Value} {mg mb : Str → Option Value} (t1 t2 : Tok) (al : Array UInt8) (ds : List Nat) (h2 : 2 ≤ al.size) (h256 : al.size ≤ 256) (hap : Apart al)
   (hsp : ∀ d, d < al.size → Builtin.Bytes.isSpace (al.getD d 0) = false) (hds : ∀ d ∈ ds, d < al.size) (hlen : ds.length ≤ 100) :
    Gives 5 w mean mg mb 51 [.bytes (txt al ds) t1] [(Str.ofString "alphabet", .bytes al t2), (Str.ofString "autofix", .bool false)] (fun t => .int (valN al.size ds : Nat) t) := by
  unfold Gives
  k_fill
  intro dp un gd cn cs a ccd cl outer A₀ base h₀ L m news s Q E B F X N T hk hd hu hret
  refine wpAny_call ?_
  k_dflt cell_enter
  k_with "state" => first | exact dec_start | exact dec_turn (by assumption) (by assumption)
  k_with "pyIter bytes" => k_state (fun pre decimal => DecInv al ds pre decimal) "decimal"
  k_steps
  all_goals (have he := dec_end (by assumption); subst he; exact hret _ _ _ (by k_asm) (cb_drop (by k_asm) (by kcj_all)))
end
end Mine
end T_C6
section T_C7
open PySem PySem.W PyProof.Rows
set_option maxRecDepth 100000
namespace Mine
theorem reset_C7 : True := by
  w_top off
  trivial
-- HDR BEGIN
local macro_rules | `(tactic| cell_enter) => `(tactic| first
  | (refine' code_def ?k1 ?k2 ?k3 ?k4 ?k5 ?kA ?kF ?kK ?k6 ?k7 ?k8 ?k9 ?kB ?_ ?c2 ?c3 ?c4 ?c5; (case kA => exact rfl); (case kF => exact rfl); (case kK => first | exact rfl | assumption); (case k1 => k_asm); (case k2 => k_asm); (case k3 => k_asm); (case k4 => k_asm); (case k5 => k_asm); (case k6 => k_is); (case k7 => k_is); (case k8 => ktr_room); (case k9 => first | exact BindsTo.of_eq rfl | exact binds_K (by k_in) rfl (by k_is) rfl rfl rfl | (refine' kp_binds ?kx ?ke; (case kx => k_in); (case ke => exact fun _ => rfl))); (case c5 => decide); (case kB => exact locs rfl); (case c2 => exact rfl); (case c3 => exact rfl); (case c4 => exact rfl); k_whole; intro g' L' h' FG' F' N' B' X' T'; (try dsimp only); (try k_lift B'); (try k_fold))
  | (refine' code_defC ?k1 ?k2 ?k3 ?k4 ?k5 ?kA ?kF ?kK ?k6 ?k7 ?k8 ?k9 ?kB ?kD ?_ ?c2 ?c3 ?c4; (case kA => exact rfl); (case kF => exact rfl); (case kK => first | exact rfl | assumption); (case k1 => k_asm); (case k2 => k_asm); (case k3 => k_asm); (case k4 => k_asm); (case k5 => k_asm); (case k6 => k_is); (case k7 => k_is); (case k8 => ktr_room); (case k9 => first | exact BindsTo.of_eq rfl | exact binds_K (by k_in) rfl (by k_is) rfl rfl rfl | (refine' kp_binds ?kx ?ke; (case kx => k_in); (case ke => exact fun _ => rfl))); (case kB => exact rfl); (case kD => decide +kernel); (case c2 => exact rfl); (case c3 => exact rfl); (case c4 => exact rfl); k_whole; intro g' L' h' tk' cells' FG' F' N' Y' B' X' T' l1; (try k_lt l1); k_cells Y'; (try simp only [List.cons_append, List.nil_append] at N'); (try dsimp only); (try k_lift B'); (try k_fold)))
local macro_rules | `(tactic| walk_at "call ref") => `(tactic| (k_here; k_dflt (refine wpAny_call ?_; cell_enter)))
local macro_rules | `(tactic| k_all) => `(tactic| exact ne_tail (by assumption) (by first | exact Nat.le_refl _ | exact Nat.le_succ _ | omega))
-- HDR END

theorem stripS_txt {al : Array UInt8} (hap : Apart al) (hpos : 0 < al.size) (k : Nat) {ds : List Nat} (hds : ∀ d ∈ ds, d < al.size) (hhead : ∀ d r, ds = d :: r → d ≠ 0) :
    stripS #[al.getD 0 0] (txt al (List.replicate k 0 ++ ds)) = txt al ds := by
  unfold stripS txt
  show (List.dropWhile (fun x => #[al.getD 0 0].contains x) (List.map _ _)).toArray = _
  congr 1
  induction k with
  | zero =>
    rw [List.replicate_zero, List.nil_append]
    cases ds with
    | nil => rfl
    | cons d r =>
      rw [List.map_cons, List.dropWhile_cons_of_neg]
      have h0 := hhead d r rfl
      have hd := hds d (.head _)
      have := hap 0 d (by omega) hd
      simpa using Ne.symm this
  | succ k ih =>
    rw [List.replicate_succ, List.cons_append, List.map_cons, List.dropWhile_cons_of_pos (by simp), ih]
theorem txt_size (al : Array UInt8) (ds : List Nat) : (txt al ds).size = ds.length := by unfold txt; simp
theorem dec_int_kw' {w : World} {mean : ExcName → Option Value} {mg mb : Str → Option Value} (t1 t2 : Tok) (al : Array UInt8) (ds : List Nat) (n : Nat) (h2 : 2 ≤ al.size) (h256 : al.size ≤ 256) (hap : Apart al)
   (hsp : ∀ d, d < al.size → Builtin.Bytes.isSpace (al.getD d 0) = false) (hds : ∀ d ∈ ds, d < al.size) (hlen : ds.length ≤ 100) (hn : valN al.size ds = n) :
    Gives 5 w mean mg mb 51 [.bytes (txt al ds) t1] [(Str.ofString "alphabet", .bytes al t2), (Str.ofString "autofix", .bool false)] (fun t => .int (n : Nat) t) := hn ▸ dec_int_kw t1 t2 al ds h2 h256 hap hsp hds hlen
abbrev toI (ds : List Nat) : List Int := ds.map fun d => ((d : Nat) : Int)
structure DivInv (n : Nat) (acc : Int) (res : List Int) : Prop where
  lo : 0 ≤ acc
  hi : acc ≤ (n : Int)
  eq : toI (digN 256 n) = toI (digN 256 acc.toNat) ++ res.reverse
def DivJ (news : List (Addr × Obj)) (n : Nat) (l : Addr) (m₀ : Str → Option Value) (k : Nat) (m : Str → Option Value) (nx : List (Addr × Obj)) : Prop :=
  ∃ (acc : Int) (t : Tok) (md : Option Value) (res : List Int) (vs : List Value) (nn : Nat), k = acc.toNat ∧ nx = (l, listOf vs.toArray nn) :: news ∧
    m = (fun y => if y = Str.ofString "mod" then md else if y = Str.ofString "acc" then some (.int acc t) else m₀ y) ∧ IntsAre vs res ∧ DivInv n acc res ∧ res.length ≤ 90
theorem divJ_start {m₀ : Str → Option Value} {v : Value} (h1 : m₀ (Str.ofString "mod") = none) (h2 : m₀ (Str.ofString "acc") = some v) :
    m₀ = fun y => if y = Str.ofString "mod" then none else if y = Str.ofString "acc" then some v else m₀ y := by
  funext y
  by_cases e1 : y = Str.ofString "mod"
  · rw [if_pos e1, e1, h1]
  · by_cases e2 : y = Str.ofString "acc"
    · rw [if_neg e1, if_pos e2, e2, h2]
    · rw [if_neg e1, if_neg e2]
theorem add_szD {x y : Nat} (hx : x ≤ 200) (hy : y ≤ 200) : x + y ≤ 16777216 := by omega
theorem drop1 {h₀ h : Heap} {L : Addr} {p q : Addr × Obj} {news : List (Addr × Obj)} (N : News h₀ L h (p :: q :: news)) : News h₀ L h (q :: news) := fun x hx => N x (.tail _ hx)
theorem div_start {n : Nat} : DivInv n (n : Int) [] := ⟨by omega, Int.le_refl _, by simp⟩
theorem while_div {prog : Program} {w : World} {A : Around} {E : Value → Shared → Prop} {Q : Flow → Shared → Prop} {s : Shared} {env : Env} {h₀ : Heap} {L : Addr} {test : Expr} {body : List Stmt} {pos : Pos} {m₀ : Str → Option Value} {news : List (Addr × Obj)} {l : Addr} {n : Nat} {t : Tok}
    (F : Fr h₀ L s.heap m₀) (N : News h₀ L s.heap ((l, listOf #[] 0) :: news)) (h1 : m₀ (Str.ofString "mod") = none) (h2 : m₀ (Str.ofString "acc") = some (.int (n : Int) t))
    (turn : ∀ (acc : Int) (ta : Tok) (md : Option Value) (res : List Int) (vs : List Value) (nn : Nat) h₁ tk₁, IntsAre vs res → DivInv n acc res → res.length ≤ 90 →
      Fr h₀ L h₁ (fun y => if y = Str.ofString "mod" then md else if y = Str.ofString "acc" then some (.int acc ta) else m₀ y) → News h₀ L h₁ ((l, listOf vs.toArray nn) :: news) →
      wpAny (model prog w) A (isTrue test env (eval test env)) (fun b s₂ =>
        if b = true then wpAny (model prog w) A (execs body env) (WhileStep2 h₀ L s (DivJ news n l m₀) Q acc.toNat) E s₂ else Q .next s₂) E { s with heap := h₁, toks := tk₁ })
    (hE : PassesOwn (model prog w) A env E := by passes_own) :
    wpAny (model prog w) A (exec (.While test body [] pos) env) Q E s := by
  refine While_inv2 (n₀ := n) (DivJ news n l m₀) F N ⟨(n : Int), t, none, [], [], 0, rfl, rfl, divJ_start h1 h2, .nil, div_start, Nat.zero_le _⟩ ?_ hE
  rintro k m₁ news₁ h₁ tk₁ F₁ N₁ ⟨acc, ta, md, res, vs, nn, hk, hnx, hm, hi, hinv, hlen⟩
  subst hnx hm hk
  exact turn acc ta md res vs nn h₁ tk₁ hi hinv hlen F₁ N₁
theorem divJ_next {news : List (Addr × Obj)} {n : Nat} {l : Addr} {m₀ : Str → Option Value} {acc acc' : Int} {md' : Value} {t t' : Tok} {mo : Option Value} {res' : List Int} {vs' : List Value} {nn' : Nat} (hi : IntsAre vs' res') (hinv : DivInv n acc' res') (hlen : res'.length ≤ 90) :
    DivJ news n l m₀ acc'.toNat (fun y => if y = Str.ofString "mod" then some md' else if y = Str.ofString "acc" then some (.int acc' t') else if y = Str.ofString "mod" then mo else if y = Str.ofString "acc" then some (.int acc t) else m₀ y) ((l, listOf vs'.toArray nn') :: news) := by
  refine ⟨acc', t', some md', res', vs', nn', rfl, rfl, ?_, hi, hinv, hlen⟩
  funext y
  by_cases e1 : y = Str.ofString "mod"
  · simp [e1]
  · by_cases e2 : y = Str.ofString "acc"
    · simp [e1, e2]
    · simp [e1, e2]
theorem div_turn {n : Nat} {acc : Int} {res : List Int} (h : DivInv n acc res) (hi : 0 < acc) : DivInv n (acc.fdiv 256) (res ++ [acc.fmod 256]) := by
  obtain ⟨h0, h1, e⟩ := h
  obtain ⟨k, rfl⟩ := Int.eq_ofNat_of_zero_le h0
  have hk : 0 < k := by omega
  have e1 : (k : Int).fdiv 256 = ((k / 256 : Nat) : Int) := by rw [Int.fdiv_eq_ediv_of_nonneg _ (by omega)]; rfl
  have e2 : (k : Int).fmod 256 = ((k % 256 : Nat) : Int) := by rw [Int.fmod_eq_emod_of_nonneg _ (by omega)]; rfl
  rw [e1, e2]
  refine ⟨Int.natCast_nonneg _, Int.ofNat_le.mpr (Nat.le_trans (Nat.div_le_self _ _) (by omega)), ?_⟩
  rw [e, Int.toNat_natCast, digN_pos (by decide) hk, Int.toNat_natCast]
  simp [toI]
theorem div_less {n : Nat} {acc : Int} {res : List Int} (h : DivInv n acc res) (hi : 0 < acc) : (acc.fdiv 256).toNat < acc.toNat := by
  obtain ⟨k, rfl⟩ := Int.eq_ofNat_of_zero_le h.lo
  rw [Int.fdiv_eq_ediv_of_nonneg _ (by omega)]
  omega
theorem div_end {n : Nat} {acc : Int} {res : List Int} (h : DivInv n acc res) (hi : ¬ 0 < acc) : res = (toI (digN 256 n)).reverse := by
  have : acc.toNat = 0 := by omega
  rw [h.eq, this, digN_zero]; simp [toI]
theorem div_bytes {n : Nat} {acc : Int} {res : List Int} (h : DivInv n acc res) (hi : ¬ 0 < acc) : ∀ k ∈ res, 0 ≤ k ∧ k < 256 := fun k hk => by
  rw [div_end h hi, List.mem_reverse] at hk
  obtain ⟨d, hd, rfl⟩ := List.mem_map.mp hk
  have := digN_lt n d hd
  omega
theorem div_len {n : Nat} {acc : Int} {res : List Int} {k : Nat} (h : DivInv n acc res) (hn : n < 2 ^ k) : res.length ≤ k := by
  have := congrArg List.length h.eq
  have h2 := digN_len (b := 256) k n hn
  simp [toI] at this
  omega
theorem dec_out {al : Array UInt8} {k n : Nat} {ds : List Nat} {acc : Int} {res : List Int} (h : DivInv n acc res) (hi : ¬ 0 < acc) :
    (List.replicate (((txt al (List.replicate k 0 ++ ds)).size : Int) - ((txt al ds).size : Int)).toNat (0 : UInt8)).toArray ++ byteArr res.reverse = (List.replicate k 0 ++ (digN 256 n).map UInt8.ofNat).toArray := by
  have e1 : (((txt al (List.replicate k 0 ++ ds)).size : Int) - ((txt al ds).size : Int)).toNat = k := by
    rw [txt_size, txt_size, List.length_append, List.length_replicate]; omega
  rw [e1, div_end h hi, List.reverse_reverse]
  have e2 : byteArr (toI (digN 256 n)) = ((digN 256 n).map UInt8.ofNat).toArray := by
    unfold byteArr toI
    rw [List.map_map]; rfl
  rw [e2]; simp
section
local macro_rules | `(tactic| walk_at "getMethod") => `(tactic| (k_here; with_reducible first | refine meth_lstrip ?_ | refine meth_rstrip ?_))
local macro_rules | `(tactic| walk_at "call builtin:len") => `(tactic| (k_here; (with_reducible show wpAny _ _ (call (Value.builtin "len") [Value.bytes _ _]) _ _ _); (refine len_b (by rw [txt_size]; (try simp only [List.length_append, List.length_replicate]); omega) ?_)))
local macro_rules | `(tactic| walk_at "call builtin:bytes.rstrip") => `(tactic| (k_here; (refine call_rstrip (txt_nospace (by assumption) (by assumption)) ?_); intro _))
local macro_rules | `(tactic| walk_at "call builtin:bytes.lstrip") => `(tactic| (k_here; (refine call_lstrip (by rw [txt_size]; (try simp only [List.length_append, List.length_replicate]); omega) ?_); intro _ _ _; (rw [stripS_txt (by assumption) (by omega) _ (by assumption) (by assumption)])))
local macro_rules | `(tactic| walk_at "subscriptTail") => `(tactic| (k_here; (with_reducible show wpAny _ _ (subscriptTail _ (Expr.Slice _ _ none _) (Value.bytes _ _) (Value.ref _)) _ _ _); (with_reducible rename Fr _ _ _ _ => F'); (with_reducible rename News _ _ _ _ => N'); (refine slice_first (s := ⟨_, _, _, _, _⟩) F' N' (by constructor) (by constructor) (by omega) (by omega) ?_); intro _ _ _ _ _))
local macro_rules | `(tactic| walk_at "call ref") => `(tactic| (k_here; (with_reducible show wpAny _ _ (call (Value.ref 51) [Value.bytes _ _] _) _ _ _); k_dflt (refine' use (dec_int_kw' _ _ _ _ _ (by assumption) (by assumption) (by assumption) (by assumption) (by assumption) (by omega) (by assumption)) ?k1 ?k2 ?k3 ?k4 ?k5 ?kK ?kd ?ku ?_; (case k1 => k_asm); (case k2 => k_asm); (case k3 => k_asm); (case k4 => k_asm); (case k5 => k_asm); (case kK => first | exact rfl | assumption); (case kd => ktr_room); (case ku => ktr_units); intro t9 h9 tk9 F9 N9; (try dsimp only); (try k_fold))))
local macro_rules | `(tactic| walk_at "binaryOp Mult bytes int") => `(tactic| (k_here; (refine mul_one (by simp only [txt_size, List.length_append, List.length_replicate]; omega) (by simp only [txt_size, List.length_append, List.length_replicate]; omega) ?_); intro _ _))
local macro_rules | `(tactic| walk_at "call type:bytes") => `(tactic| (k_here; (with_reducible show wpAny _ _ (call (Value.type "bytes") [Value.ref _]) _ _ _); k_dflt (refine' call_bytes_rev ?k1 ?k2 ?k3 ?k4 ?k5 ?k6 ?k7 ?k8 ?_; (case k1 => k_asm); (case k2 => k_asm); (case k3 => exact (And.left (by assumption : _ ∧ AllLt _ _))); (case k4 => exact allLt_to (And.right (by assumption : _ ∧ AllLt _ _))); (case k5 => assumption); (case k6 => exact div_bytes (by assumption) (by omega)); (case k7 => omega); (case k8 => rfl); intro _ _ _ _ _)))
local macro_rules | `(tactic| walk_at "binaryOp Add bytes bytes") => `(tactic| (k_here; (refine add_b (add_szD (by (rw [List.size_toArray, List.length_replicate]); (simp only [txt_size, List.length_append, List.length_replicate]); omega) (by (rw [byteArr_size, List.length_reverse]); omega)) ?_); intro _ _))
set_option maxHeartbeats 8000000 in
theorem dec_bytes {w : World} {mean : ExcName → Option Value} {mg mb : Str → Option Value} (t1 t2 : Tok) (al : Array UInt8) (k : Nat) (ds : List Nat) (n : Nat) (hn : valN al.size ds = n) (h2 : 2 ≤ al.size) (h256 : al.size ≤ 256) (hap : Apart al)
   (hsp : ∀ d, d < al.size → Builtin.Bytes.isSpace (al.getD d 0) = false) (hds : ∀ d ∈ ds, d < al.size) (hds0 : ∀ d ∈ List.replicate k 0 ++ ds, d < al.size) (hhead : ∀ d r, ds = d :: r → d ≠ 0) (hk3 : k ≤ 3) (hlen : ds.length ≤ 90) (hval : n < 2 ^ 90) :
    Gives 7 w mean mg mb 60 [.bytes (txt al (List.replicate k 0 ++ ds)) t1, .bytes al t2] [] (fun t => .bytes ((List.replicate k 0 ++ (digN 256 n).map UInt8.ofNat).toArray) t) := by
  unfold Gives
  k_fill
  intro dp un gd cn cs a ccd cl outer A₀ base h₀ L m news s Q E B F X N T hk hd hu hret
  refine wpAny_call ?_
  k_dflt cell_enter
  k_with "state" => first | exact ⟨div_start, Nat.zero_le _⟩ | exact ⟨div_turn (by assumption) (by assumption), div_len (div_turn (by assumption) (by assumption)) (by assumption)⟩
  k_with "measure" => exact div_less (by assumption) (by assumption)
  repeat' ((fail_if_success (with_reducible show wpAny _ _ (execs (Stmt.While _ _ _ _ :: _) _) _ _ _)); first | (k_unfold; (try dsimp only)) | (k_end; wrow_close) | walk1 | (dsimp only; walk1) | (leave1; try dsimp only) | fail "no step")
  refine wpAny_execs_cons ?_
  rename_i l' _ l1' _ F' N'
  with_unfolding_all refine' while_div F' N' ?h1 ?h2 ?turn
  case h1 => rfl
  case h2 => rfl
  clear F' N'
  intro acc ta md res vs nn h₁ tk₁ hi hinv hlen' F₁ N₁
  have hl9 : @LT.lt Nat _ l' h₁.objs.size := Heap.lt_size (N₁ _ (.head _)).1
  k_steps
  · rename_i tk _ _ _ _ F' N'
    rw [List.push_toArray] at N'
    refine ⟨_, _, _, _, (acc.fdiv 256).toNat, rfl, F', drop1 N', div_less hinv (by assumption), ?_⟩
    exact divJ_next (vs' := vs ++ [_]) (IntsAre.append hi (.cons _ _ .nil)) (div_turn hinv (by assumption)) (div_len (div_turn hinv (by assumption)) (by assumption))
  · rw [dec_out hinv (by assumption)]
    exact hret _ _ _ (by k_asm) (cb_drop (by k_asm) (by kcj_all))
end
end Mine
end T_C7
section T_E0
open PySem PySem.W PyProof.Rows
set_option maxRecDepth 100000
namespace Mine
theorem kc_nine {cm : Str → Option Value} {n₁ n₂ n₃ n₄ n₅ n₆ n₇ n₈ n₉ : Str} {c₁ c₂ c₃ c₄ c₅ c₆ c₇ c₈ c₉ : Addr} {cells : List (Addr × Obj)} (x : CellsAre cm [(n₁, c₁), (n₂, c₂), (n₃, c₃), (n₄, c₄), (n₅, c₅), (n₆, c₆), (n₇, c₇), (n₈, c₈), (n₉, c₉)] cells) :
    ∃ o₁ o₂ o₃ o₄ o₅ o₆ o₇ o₈ o₉, cells = [(c₁, o₁), (c₂, o₂), (c₃, o₃), (c₄, o₄), (c₅, o₅), (c₆, o₆), (c₇, o₇), (c₈, o₈), (c₉, o₉)] ∧ o₁.data = .cell (cm n₁) ∧ o₂.data = .cell (cm n₂) ∧ o₃.data = .cell (cm n₃) ∧ o₄.data = .cell (cm n₄) ∧ o₅.data = .cell (cm n₅) ∧ o₆.data = .cell (cm n₆) ∧ o₇.data = .cell (cm n₇) ∧ o₈.data = .cell (cm n₈) ∧ o₉.data = .cell (cm n₉) := by
  cases x with | cons h r => obtain ⟨o₂, o₃, o₄, o₅, o₆, o₇, o₈, o₉, rfl, h₂, h₃, h₄, h₅, h₆, h₇, h₈, h₉⟩ := PyProof.Rows.kc_eight r; exact ⟨_, o₂, o₃, o₄, o₅, o₆, o₇, o₈, o₉, rfl, h, h₂, h₃, h₄, h₅, h₆, h₇, h₈, h₉⟩
theorem kc_ten {cm : Str → Option Value} {n₁ n₂ n₃ n₄ n₅ n₆ n₇ n₈ n₉ n₁₀ : Str} {c₁ c₂ c₃ c₄ c₅ c₆ c₇ c₈ c₉ c₁₀ : Addr} {cells : List (Addr × Obj)} (x : CellsAre cm [(n₁, c₁), (n₂, c₂), (n₃, c₃), (n₄, c₄), (n₅, c₅), (n₆, c₆), (n₇, c₇), (n₈, c₈), (n₉, c₉), (n₁₀, c₁₀)] cells) :
    ∃ o₁ o₂ o₃ o₄ o₅ o₆ o₇ o₈ o₉ o₁₀, cells = [(c₁, o₁), (c₂, o₂), (c₃, o₃), (c₄, o₄), (c₅, o₅), (c₆, o₆), (c₇, o₇), (c₈, o₈), (c₉, o₉), (c₁₀, o₁₀)] ∧ o₁.data = .cell (cm n₁) ∧ o₂.data = .cell (cm n₂) ∧ o₃.data = .cell (cm n₃) ∧ o₄.data = .cell (cm n₄) ∧ o₅.data = .cell (cm n₅) ∧ o₆.data = .cell (cm n₆) ∧ o₇.data = .cell (cm n₇) ∧ o₈.data = .cell (cm n₈) ∧ o₉.data = .cell (cm n₉) ∧ o₁₀.data = .cell (cm n₁₀) := by
  cases x with | cons h r => obtain ⟨o₂, o₃, o₄, o₅, o₆, o₇, o₈, o₉, o₁₀, rfl, h₂, h₃, h₄, h₅, h₆, h₇, h₈, h₉, h₁₀⟩ := kc_nine r; exact ⟨_, o₂, o₃, o₄, o₅, o₆, o₇, o₈, o₉, o₁₀, rfl, h, h₂, h₃, h₄, h₅, h₆, h₇, h₈, h₉, h₁₀⟩
theorem kc_eleven {cm : Str → Option Value} {n₁ n₂ n₃ n₄ n₅ n₆ n₇ n₈ n₉ n₁₀ n₁₁ : Str} {c₁ c₂ c₃ c₄ c₅ c₆ c₇ c₈ c₉ c₁₀ c₁₁ : Addr} {cells : List (Addr × Obj)} (x : CellsAre cm [(n₁, c₁), (n₂, c₂), (n₃, c₃), (n₄, c₄), (n₅, c₅), (n₆, c₆), (n₇, c₇), (n₈, c₈), (n₉, c₉), (n₁₀, c₁₀), (n₁₁, c₁₁)] cells) :
    ∃ o₁ o₂ o₃ o₄ o₅ o₆ o₇ o₈ o₉ o₁₀ o₁₁, cells = [(c₁, o₁), (c₂, o₂), (c₃, o₃), (c₄, o₄), (c₅, o₅), (c₆, o₆), (c₇, o₇), (c₈, o₈), (c₉, o₉), (c₁₀, o₁₀), (c₁₁, o₁₁)] ∧ o₁.data = .cell (cm n₁) ∧ o₂.data = .cell (cm n₂) ∧ o₃.data = .cell (cm n₃) ∧ o₄.data = .cell (cm n₄) ∧ o₅.data = .cell (cm n₅) ∧ o₆.data = .cell (cm n₆) ∧ o₇.data = .cell (cm n₇) ∧ o₈.data = .cell (cm n₈) ∧ o₉.data = .cell (cm n₉) ∧ o₁₀.data = .cell (cm n₁₀) ∧ o₁₁.data = .cell (cm n₁₁) := by
  cases x with | cons h r => obtain ⟨o₂, o₃, o₄, o₅, o₆, o₇, o₈, o₉, o₁₀, o₁₁, rfl, h₂, h₃, h₄, h₅, h₆, h₇, h₈, h₉, h₁₀, h₁₁⟩ := kc_ten r; exact ⟨_, o₂, o₃, o₄, o₅, o₆, o₇, o₈, o₉, o₁₀, o₁₁, rfl, h, h₂, h₃, h₄, h₅, h₆, h₇, h₈, h₉, h₁₀, h₁₁⟩
end Mine
end T_E0
section T_G0
open PySem PySem.W PyProof.Rows
set_option maxRecDepth 100000
namespace Mine
theorem reset_G0 : True := by
  w_top off
  trivial
-- HDR BEGIN
local macro_rules | `(tactic| cell_enter) => `(tactic| first
  | (refine' code_def ?k1 ?k2 ?k3 ?k4 ?k5 ?kA ?kF ?kK ?k6 ?k7 ?k8 ?k9 ?kB ?_ ?c2 ?c3 ?c4 ?c5; (case kA => exact rfl); (case kF => exact rfl); (case kK => first | exact rfl | assumption); (case k1 => k_asm); (case k2 => k_asm); (case k3 => k_asm); (case k4 => k_asm); (case k5 => k_asm); (case k6 => k_is); (case k7 => k_is); (case k8 => ktr_room); (case k9 => first | exact BindsTo.of_eq rfl | exact binds_K (by k_in) rfl (by k_is) rfl rfl rfl | (refine' kp_binds ?kx ?ke; (case kx => k_in); (case ke => exact fun _ => rfl))); (case c5 => decide); (case kB => exact locs rfl); (case c2 => exact rfl); (case c3 => exact rfl); (case c4 => exact rfl); k_whole; intro g' L' h' FG' F' N' B' X' T'; (try dsimp only); (try k_lift B'); (try k_fold))
  | (refine' code_defC ?k1 ?k2 ?k3 ?k4 ?k5 ?kA ?kF ?kK ?k6 ?k7 ?k8 ?k9 ?kB ?kD ?_ ?c2 ?c3 ?c4; (case kA => exact rfl); (case kF => exact rfl); (case kK => first | exact rfl | assumption); (case k1 => k_asm); (case k2 => k_asm); (case k3 => k_asm); (case k4 => k_asm); (case k5 => k_asm); (case k6 => k_is); (case k7 => k_is); (case k8 => ktr_room); (case k9 => first | exact BindsTo.of_eq rfl | exact binds_K (by k_in) rfl (by k_is) rfl rfl rfl | (refine' kp_binds ?kx ?ke; (case kx => k_in); (case ke => exact fun _ => rfl))); (case kB => exact rfl); (case kD => decide +kernel); (case c2 => exact rfl); (case c3 => exact rfl); (case c4 => exact rfl); k_whole; intro g' L' h' tk' cells' FG' F' N' Y' B' X' T' l1; (try k_lt l1); k_cells Y'; (try simp only [List.cons_append, List.nil_append] at N'); (try dsimp only); (try k_lift B'); (try k_fold)))
local macro_rules | `(tactic| walk_at "call ref") => `(tactic| (k_here; k_dflt (refine wpAny_call ?_; cell_enter)))
local macro_rules | `(tactic| k_all) => `(tactic| exact ne_tail (by assumption) (by first | exact Nat.le_refl _ | exact Nat.le_succ _ | omega))
local macro_rules | `(tactic| walk_at "eval BinOp") => `(tactic| (dsimp only; walk1))
local macro_rules | `(tactic| walk_at "eval Call") => `(tactic| (dsimp only; walk1))
local macro_rules | `(tactic| walk_at "binaryOp Pow int int") => `(tactic| (dsimp only; walk1))
-- HDR END
def lawDef : Option Stmt := PySem.Challenge.pw_fe0041_01.main.body.find? fun s => match s with | .FunctionDef (name := n) .. => n == PySem.Str.ofString "law" | _ => false
def lawBody : List Stmt := match lawDef with | some (.FunctionDef (body := b) ..) => b | _ => []
def lawScope : Scope := match lawDef with | some (.FunctionDef (scope := b) ..) => b | _ => default
def lawSt (k : Nat) : Stmt := lawBody.getD k (.Pass default)
abbrev lawCl (L : Addr) : List (Str × Addr) := [(Str.ofString "whole", L + 11), (Str.ofString "digits", L + 10), (Str.ofString "worth", L + 9), (Str.ofString "second", L + 8), (Str.ofString "first", L + 7), (Str.ofString "plain", L + 6),
  (Str.ofString "j", L + 5), (Str.ofString "i", L + 4), (Str.ofString "base", L + 3), (Str.ofString "draw", L + 2), (Str.ofString "script", L + 1)]
theorem lawCl_eq (L : Addr) : cellsFrom (L + 1) lawScope.names [] = lawCl L := by with_unfolding_all rfl
/-- an address that no cell of law has -/
abbrev Off (L d : Addr) : Prop := @Ne Nat (L + 11) d ∧ @Ne Nat (L + 10) d ∧ @Ne Nat (L + 9) d ∧ @Ne Nat (L + 8) d ∧ @Ne Nat (L + 7) d ∧ @Ne Nat (L + 6) d ∧ @Ne Nat (L + 5) d ∧ @Ne Nat (L + 4) d ∧ @Ne Nat (L + 3) d ∧ @Ne Nat (L + 2) d ∧ @Ne Nat (L + 1) d
/-- the seven draws -/
structure Draws (dr : List Int) : Prop where
  len : dr.length = 7
  lo : ∀ k, 0 ≤ dr.getD k 0
  hi : ∀ k, dr.getD k 0 < 10007
theorem news_cut {h₀ h : Heap} {L : Addr} {p : Addr × Obj} {news : List (Addr × Obj)} (N : News h₀ L h (p :: news)) : News h₀ L h news := fun x hx => N x (.tail _ hx)
theorem turn_ok {x mo : Int} (h : 2 ≤ mo ∧ mo ≤ 5) : 1 ≤ 1 + x.fmod mo ∧ 1 + x.fmod mo ≤ mo := by
  have h1 := Int.fmod_nonneg_of_pos x (show 0 < mo by omega)
  have h2 := Int.fmod_lt_of_pos x (show 0 < mo by omega)
  omega
theorem num_ok {x y : Int} : 0 ≤ x.fmod (2 ^ (8 * (1 + y.fmod 10)).toNat) ∧ x.fmod (2 ^ (8 * (1 + y.fmod 10)).toNat) < 2 ^ 80 := by
  have h1 := Int.fmod_nonneg_of_pos y (show (0 : Int) < 10 by omega)
  have h2 := Int.fmod_lt_of_pos y (show (0 : Int) < 10 by omega)
  have hp : (0 : Int) < 2 ^ (8 * (1 + y.fmod 10)).toNat := Int.pow_pos (by decide)
  refine ⟨Int.fmod_nonneg_of_pos _ hp, Int.lt_of_lt_of_le (Int.fmod_lt_of_pos _ hp) ?_⟩
  have := Nat.pow_le_pow_right (show 0 < 2 by decide) (show (8 * (1 + y.fmod 10)).toNat ≤ 80 by omega)
  exact_mod_cast this
end Mine
end T_G0
section T_H0
open PySem PySem.W PyProof.Rows
set_option maxRecDepth 100000
namespace Mine
theorem reset_H0 : True := by
  w_top off
  trivial
-- HDR BEGIN
local macro_rules | `(tactic| cell_enter) => `(tactic| first
  | (refine' code_def ?k1 ?k2 ?k3 ?k4 ?k5 ?kA ?kF ?kK ?k6 ?k7 ?k8 ?k9 ?kB ?_ ?c2 ?c3 ?c4 ?c5; (case kA => exact rfl); (case kF => exact rfl); (case kK => first | exact rfl | assumption); (case k1 => k_asm); (case k2 => k_asm); (case k3 => k_asm); (case k4 => k_asm); (case k5 => k_asm); (case k6 => k_is); (case k7 => k_is); (case k8 => ktr_room); (case k9 => first | exact BindsTo.of_eq rfl | exact binds_K (by k_in) rfl (by k_is) rfl rfl rfl | (refine' kp_binds ?kx ?ke; (case kx => k_in); (case ke => exact fun _ => rfl))); (case c5 => decide); (case kB => exact locs rfl); (case c2 => exact rfl); (case c3 => exact rfl); (case c4 => exact rfl); k_whole; intro g' L' h' FG' F' N' B' X' T'; (try dsimp only); (try k_lift B'); (try k_fold))
  | (refine' code_defC ?k1 ?k2 ?k3 ?k4 ?k5 ?kA ?kF ?kK ?k6 ?k7 ?k8 ?k9 ?kB ?kD ?_ ?c2 ?c3 ?c4; (case kA => exact rfl); (case kF => exact rfl); (case kK => first | exact rfl | assumption); (case k1 => k_asm); (case k2 => k_asm); (case k3 => k_asm); (case k4 => k_asm); (case k5 => k_asm); (case k6 => k_is); (case k7 => k_is); (case k8 => ktr_room); (case k9 => first | exact BindsTo.of_eq rfl | exact binds_K (by k_in) rfl (by k_is) rfl rfl rfl | (refine' kp_binds ?kx ?ke; (case kx => k_in); (case ke => exact fun _ => rfl))); (case kB => exact rfl); (case kD => decide +kernel); (case c2 => exact rfl); (case c3 => exact rfl); (case c4 => exact rfl); k_whole; intro g' L' h' tk' cells' FG' F' N' Y' B' X' T' l1; (try k_lt l1); k_cells Y'; (try simp only [List.cons_append, List.nil_append] at N'); (try dsimp only); (try k_lift B'); (try k_fold)))
local macro_rules | `(tactic| walk_at "call ref") => `(tactic| (k_here; k_dflt (refine wpAny_call ?_; cell_enter)))
local macro_rules | `(tactic| k_all) => `(tactic| exact ne_tail (by assumption) (by first | exact Nat.le_refl _ | exact Nat.le_succ _ | omega))
local macro_rules | `(tactic| walk_at "eval BinOp") => `(tactic| (dsimp only; walk1))
local macro_rules | `(tactic| walk_at "eval Call") => `(tactic| (dsimp only; walk1))
local macro_rules | `(tactic| walk_at "binaryOp Pow int int") => `(tactic| (dsimp only; walk1))
-- HDR END
section
variable {prog : Program} {w : World} {A : Around} {E : Value → Shared → Prop} {s : Shared} {b : Array UInt8} {t ui : Tok} {i : Int} {value slice : PySem.Expr}
theorem item_b {Q : Value → Shared → Prop} (hz : b.size ≤ 256) (h0 : 0 ≤ i) (h1 : i < (b.size : Int)) (h : ∀ t' k, Q (.int ((b.getD i.toNat 0).toNat : Int) t') { s with toks := k })
    (hs : subscripted slice false (.bytes b t) (.int i ui) = operate [.bytes b t, .int i ui] (getItem (.bytes b t) (.int i ui)) := by with_unfolding_all rfl)
    (ht : ∀ r, letTemporaryGo value (.bytes b t) r = pure () := by intro _; with_unfolding_all rfl) : wpAny (model prog w) A (subscriptTail value slice (.bytes b t) (.int i ui)) Q E s := by
  refine KBw.item_K rfl (by rw [KBw.ints_length]; omega) h0 (by rw [KBw.ints_length]; exact h1) (fun t' k _ _ => ?_) hs ht
  have e : (KBw.bInts b).getD i.toNat 0 = ((b.getD i.toNat 0).toNat : Int) := by
    have hi : i.toNat < b.size := by omega
    have h2 := KBw.ints_list b.toList
    rw [Array.toArray_toList] at h2
    rw [h2, List.getD_eq_getElem?_getD, List.getElem?_map]
    simp [Array.getD, hi]
  rw [e]
  exact h t' k
end
/-- a place's sign as an int -/
abbrev sgn (al : Array UInt8) : Int → Int := fun k => ((al.getD k.toNat 0).toNat : Int)
theorem sgn_in (al : Array UInt8) (l : List Int) : KBa.In (l.map (sgn al)) := fun n hn => by
  obtain ⟨k, _, rfl⟩ := List.mem_map.mp hn
  have := (al.getD k.toNat 0).toNat_lt
  show (0 : Int) ≤ ((al.getD k.toNat 0).toNat : Int) ∧ ((al.getD k.toNat 0).toNat : Int) < 256
  omega
theorem sgn_bytes (al : Array UInt8) (ds : List Nat) : byteArr ((toI ds).map (sgn al)) = txt al ds := by
  unfold byteArr txt toI
  rw [List.map_map, List.map_map]
  congr 1
  refine List.map_congr_left fun d _ => ?_
  show UInt8.ofNat (((al.getD ((d : Nat) : Int).toNat 0).toNat : Int)).toNat = al.getD d 0
  rw [Int.toNat_natCast, Int.toNat_natCast]
  exact UInt8.ofNat_toNat
theorem toI_in {ds : List Nat} {b : Nat} {k : Int} (hk : k ∈ toI ds) (hds : ∀ d ∈ ds, d < b) : 0 ≤ k ∧ k < (b : Int) := by
  obtain ⟨d, hd, rfl⟩ := List.mem_map.mp hk
  have := hds d hd
  omega
theorem enc_txt (al : Array UInt8) (n : Nat) : enc al n = txt al (digN al.size n) := rfl
theorem digN_ds {b : Nat} (n : Nat) : ∀ d ∈ digN b n, d < b := digN_lt n
theorem flat_rep (m : Nat) : (List.replicate m [(0 : Int)]).flatten = List.replicate m 0 := by
  induction m with
  | zero => rfl
  | succ m ih => rw [List.replicate_succ, List.flatten_cons, ih]; rfl
theorem news_join {h₀ h : Heap} {L : Addr} {p : Addr × Obj} {l l' : List (Addr × Obj)} (N : News h₀ L h (p :: l)) (N' : News h₀ L h l') : News h₀ L h (p :: l') :=
  fun x hx => (List.mem_cons.mp hx).elim (fun e => N x (e ▸ .head _)) (N' x)
section
variable {prog : Program} {w : World} {A : Around} {E : Value → Shared → Prop} {s : Shared}
theorem two_same {l b : Addr} {x y : Array UInt8} {t1 t2 u1 u2 : Tok} {Q : Value → Shared → Prop} (hl : s.heap.IsList l #[.bytes x t1, .bytes y t2]) (hb : s.heap.IsList b #[.bytes x u1, .bytes y u2]) (hu : A.units < cLine) (h : Q (.bool true) s) :
    wpAny (model prog w) A (compareOp .Eq (.ref l) (.ref b)) Q E s := by
  have hs : ∀ (z : Array UInt8) (t u : Tok), SeqAt.EqAt A.in1 s (.bytes z t) (.bytes z u) true := fun z t u prog w E Q hq => eqBool_bytes (by rw [decide_eq_true rfl]; exact hq)
  refine SeqAt.eq_listAt (e := fun _ => true) hl hb rfl hu (fun j h1 h2 => ?_) (by exact h)
  have hj : j < 2 := h1
  match j, hj with
  | 0, _ => exact hs x t1 u1
  | 1, _ => exact hs y t2 u2
end
section
variable {prog : Program} {w : World} {A : Around} {E : Value → Shared → Prop} {s : Shared} {h₀ : Heap} {L : Addr} {news : List (Addr × Obj)}
theorem two_sameN {l b : Addr} {n k : Nat} {x y : Array UInt8} {t1 t2 u1 u2 : Tok} {Q : Value → Shared → Prop} (N : News h₀ L s.heap news) (hl : (l, listOf #[.bytes x t1, .bytes y t2] n) ∈ news) (hb : (b, listOf #[.bytes x u1, .bytes y u2] k) ∈ news) (hu : A.units < cLine) (h : Q (.bool true) s) :
    wpAny (model prog w) A (compareOp .Eq (.ref l) (.ref b)) Q E s :=
  two_same ⟨_, N.get hl, rfl, _, rfl⟩ ⟨_, N.get hb, rfl, _, rfl⟩ hu h
end
theorem txt_get {al : Array UInt8} {ds : List Nat} {i : Nat} {c : UInt8} (hds : ∀ d ∈ ds, d < al.size) (h : (txt al ds)[i]? = some c) : ds.getD i 0 < al.size ∧ c = al.getD (ds.getD i 0) 0 := by
  have h2 : (ds.map fun d => al.getD d 0)[i]? = some c := by
    rw [← h]; unfold txt; simp
  rw [List.getElem?_map] at h2
  cases hd : ds[i]? with
  | none => rw [hd] at h2; cases h2
  | some d =>
    rw [hd] at h2
    rw [List.getD_eq_getElem?_getD, hd]
    exact ⟨hds d (List.mem_of_getElem? hd), (Option.some.inj h2).symm⟩
theorem pow_den {b k : Nat} (h2 : 2 ≤ b) (h7 : b ≤ 7) (hk : k ≤ 5) : ((b : Nat) : Int) ^ k ≠ 0 ∧ (((b : Nat) : Int) ^ k).natAbs.log2 < 9000 := by
  have h1 : 0 < b ^ k := Nat.pow_pos (by omega)
  have h3 : b ^ k ≤ 7 ^ 5 := Nat.le_trans (Nat.pow_le_pow_left h7 k) (Nat.pow_le_pow_right (by decide) hk)
  rw [← Int.natCast_pow]
  refine ⟨by omega, ?_⟩
  rw [Int.natAbs_natCast]
  have h4 : (b ^ k).log2 < 15 := (Nat.log2_lt (by omega)).mpr (Nat.lt_of_le_of_lt h3 (by decide))
  omega
section
variable {prog : Program} {w : World} {A : Around} {E : Value → Shared → Prop} {s : Shared} {h₀ : Heap} {L : Addr} {news : List (Addr × Obj)} {value slice : PySem.Expr}
theorem item_li {l : Addr} {vs : List Value} {nn : Nat} {ns : List Int} {j : Int} {u : Tok} {Q : Value → Shared → Prop} (N : News h₀ L s.heap news) (hm : (l, listOf vs.toArray nn) ∈ news) (hi : IntsAre vs ns) (h0 : 0 ≤ j) (h1 : j < (ns.length : Int)) (hfit : j < 2 ^ 63) (h : ∀ t, Q (.int (ns.getD j.toNat 0) t) s)
    (hs : subscripted slice false (.ref l) (.int j u) = operate [.ref l, .int j u] (getItem (.ref l) (.int j u)) := by with_unfolding_all rfl) :
    wpAny (model prog w) A (subscriptTail value slice (.ref l) (.int j u)) Q E s := item_anyK ⟨_, N.get hm, rfl, _, rfl⟩ hi h0 h1 hfit h hs
end
theorem idx_ok {P : Int} {j n : Nat} {k : Int} (h0 : 0 ≤ P) (hp : P + (j : Int) ≤ (n : Int)) (hn : n ≤ 90) (hk0 : 0 ≤ k) (hk : k < 0 + ((((j : Nat) : Int) - 0).toNat : Int)) : 0 ≤ 0 + P + k ∧ 0 + P + k < (n : Int) ∧ 0 + P + k < 2 ^ 63 := by
  omega
end Mine
end T_H0
section T_H1
open PySem PySem.W PyProof.Rows PySem.Calls PySem.Spec
set_option maxRecDepth 100000
namespace Mine
theorem int_no_bytes : typeLookup (.type "int") "__bytes__" = pure none := by rw [typeLookup_type, builtinLookup_eq_fast]; kernel_rfl
section
variable {prog : Program} {w : World} {A : Around} {E : Value → Shared → Prop} {s : Shared}
theorem bz_new {q : Int} {q' : Nat} (e0 : q = (q' : Nat)) {tq : Tok} {Q : Value → Shared → Prop} (hq : q' ≤ 1000)
    (hQ : ∀ t k, Q (.bytes (Array.replicate q' 0) t) { s with toks := k }) :
    codeAny (model prog w) A (.call (.builtin "bytes.__new__") ⟨[.type "bytes", .int q tq], []⟩) (wants Q E) s := by
  refine codeAny_of_tree ?_
  show wpAny _ A.in1 (do checkBuiltinCall "bytes.__new__" ⟨[.type "bytes", .int q tq], []⟩; again (.builtin "bytes.__new__" ⟨[.type "bytes", .int q tq], []⟩)) _ _ s
  refine wpAny_bind (wpAny_of_eq (F.bm_newCall _) (wpAny_pure ⟨plainId_quiet F.bm_plain _, codeAny_builtin F.bm_entry ?_⟩))
  rw [Around.under_plainId F.bm_plain _]
  unfold Builtin.«bytes.__new__»
  refine wpAny_bind (wpAny_of_eq (a := true) rfl ?_)
  refine bm_if_false rfl ?_
  refine wpAny_bind (wpAny_of_eq F.bm_sub ?_)
  refine bm_if_false rfl ?_
  refine wpAny_bind (wpAny_of_eq (F.bm_bind _) ?_)
  refine wpAny_bind (wpAny_of_eq (a := ()) rfl ?_)
  refine wpAny_bind (wpAny_of_eq (a := ()) rfl ?_)
  refine bm_if_false rfl ?_
  refine wpAny_bind (wpAny_specialOf (typeIs_int s q tq) int_no_bytes ?_)
  refine wpAny_bind (wpAny_of_eq (a := false) rfl ?_)
  refine bm_if_false rfl ?_
  refine wpAny_bind (wpAny_specialOf (typeIs_int s q tq) F.slot_int_index.lookup ?_)
  refine bm_if_false rfl ?_
  first
    | refine wpAny_bind (wpAny_of_eq (a := Except.ok q) rfl ?_)
    | (refine wpAny_bind ?_; refine wpAny_bind (wpAny_of_eq (a := Except.ok q) rfl ?_))
  have h1 : Builtin.Bytes.fitsIndex q = true := by simp [Builtin.Bytes.fitsIndex]; omega
  refine bm_if_false (by rw [h1]; rfl) ?_
  refine wpAny_ite_false (decide_eq_false (show ¬ (q < 0) by omega)) ?_
  refine wpAny_ite_false (decide_eq_false (show ¬ (q > 2 ^ 63 - 34) by omega)) ?_
  refine bm_if_false (by show decide (q.toNat > sizeLine) = false; rw [decide_eq_false_iff_not, sizeLine_eq, e0, Int.toNat_natCast]; omega) ?_
  refine wpAny_bind (wpAny_rule ?_)
  refine wpAny_bind (wpAny_mkBytes ?_ (by rw [Array.size_replicate, sizeLine_eq]; omega))
  rw [e0, Int.toNat_natCast]
  show wpAny _ _ (if (Value.type "bytes" == Value.type "bytes") = true then _ else _) _ _ _
  refine bm_if_true (by decide) ?_
  first
    | exact wpAny_pure (hQ _ _)
    | exact wpAny_bind (wpAny_pure (wpAny_pure (hQ _ _)))
theorem call_bytes_zeros {q : Nat} {tq : Tok} {Q : Value → Shared → Prop} (hq : q ≤ 1000)
    (hQ : ∀ t k, Q (.bytes (Array.replicate q 0) t) { s with toks := k }) : wpAny (model prog w) A (call (.type "bytes") [.int (q : Nat) tq]) Q E s := by
  refine callType_codes (Q₁ := fun obj s₁ => s₁.TypeIs obj "bytes" ∧ Q obj s₁) F.bm_called (F.bm_typeCall _) F.entry_object_init
    (bz_new rfl hq fun t k => ⟨PySem.W.typeIs_bytes _ _ _, hQ t k⟩) fun obj s₁ h₁ => ?_
  exact ⟨h₁.1, F.args_object_init_2 obj _, object_init_meets F.bm_called.init.lookup F.bm_called.made (by decide) prog w A.in1 _ s₁ ⟨h₁.1, rfl, h₁.2⟩⟩
open KTBy in
theorem to_bigN {Q : Value → Shared → Prop} {x : Int} {k : Nat} {t u v : Tok} (hk : k ≤ 1000) (h0 : 0 ≤ x) (h1 : x < 256 ^ k) (h : ∀ (b : Array UInt8) t' k', KBw.bInts b = (little k x).reverse → Q (.bytes b t') { s with toks := k' }) :
    wpAny (model prog w) A (call (.builtin "int.to_bytes") [.int x t, .int (k : Int) u, .str (PySem.Str.ofString "big") v]) Q E s := by
  refine wpAny_call_entry slot (typeIs_int s x t) entry ?_ (args _ _ _)
  have hb := bits_le rfl h0 h1
  show wpAny _ _ (Builtin.Int.intOfSelf (.int x t) >>= fun y => _) _ _ s
  refine wpAny_bind (wpAny_of_eq (a := x) rfl ?_)
  show wpAny _ _ (Builtin.Int.intBindNamed "to_bytes" ["length", "byteorder", "signed"] 0 2 [.int (k : Int) u, .str (PySem.Str.ofString "big") v] [] >>= fun l => _) _ _ s
  refine wpAny_bind (wpAny_of_eq (a := [some (.int (k : Int) u), some (.str (PySem.Str.ofString "big") v), none]) (by kernel_rfl) ?_)
  show wpAny _ _ (Builtin.Int.intIndex "int.to_bytes" (.int (k : Int) u) >>= fun n => _) _ _ s
  refine wpAny_bind (wpAny_of_eq (a := (k : Int)) rfl ?_)
  refine if_not (by show (decide ((k : Int) < -(2 ^ 63 : Int)) || decide ((k : Int) ≥ 2 ^ 63)) = false; rw [decide_eq_false (show ¬ ((k : Int) < -(2 ^ 63 : Int)) by omega), decide_eq_false (show ¬ ((k : Int) ≥ 2 ^ 63) by omega)]; rfl) ?_
  refine wpAny_bind (wpAny_of_eq (a := PySem.Str.ofString "big") (by kernel_rfl) ?_)
  refine wpAny_bind (wpAny_of_eq (a := false) rfl ?_)
  refine wpAny_bind (wpAny_of_eq (a := false) (by kernel_rfl) ?_)
  refine wpAny_ite_false (decide_eq_false (show ¬ ((k : Int) < 0) by omega)) ?_
  refine wpAny_ite_false (decide_eq_false (show ¬ ((k : Int) > 2 ^ 63 - 1 - 33) by omega)) ?_
  refine wpAny_ite_false (decide_eq_false (show ¬ ((k : Int) > (sizeLine : Int)) by rw [sizeLine_eq]; omega)) ?_
  refine if_not (by show (decide (x < 0) && !false) = false; rw [decide_eq_false (show ¬ x < 0 by omega)]; rfl) ?_
  refine if_not (by show (_ && decide ((Builtin.Int.intBits x : Int) > 8 * (k : Int))) = false; rw [decide_eq_false (show ¬ ((Builtin.Int.intBits x : Int) > 8 * (k : Int)) by omega), Bool.and_false]) ?_
  refine wpAny_bind (wpAny_mkBytes (wpAny_pure ⟨_, rfl, h _ _ _ ?_⟩) (by show (List.reverse (low x (Int.toNat (k : Int)))).length ≤ sizeLine; rw [List.length_reverse, low_length, Int.toNat_natCast, sizeLine_eq]; omega))
  show (List.map (fun c : UInt8 => ((c.toNat : Nat) : Int)) (List.reverse (low x (Int.toNat (k : Int))))) = (little k x).reverse
  rw [Int.toNat_natCast, List.map_reverse, low_ints h0 h1, ← little_eq]
theorem meth_bit_length {M : Model} {x : Int} {t : Tok} {pl : Sem Bool} {Q : Value × List Value → Shared → Prop} (h : Q (.builtin "int.bit_length", [.int x t]) s) :
    wpAny M A (getMethod (.int x t) (PySem.Str.ofString "bit_length") pl) Q E s :=
  getMethod_value (T := "int") (name := PySem.Str.ofString "bit_length") (ga := "int.__getattribute__") (id := "int.bit_length") (typeIs_int s x t) (by intro _ x; cases x) ga_int canon_ga_int no_getattr_int F.slot_int_bit_length.lookup F.type_int_bit_length h
theorem call_bit_length {x : Int} {t : Tok} {Q : Value → Shared → Prop} (h : Q (.int ((Builtin.Int.intBits x : Nat) : Int) s.toks) { s with toks := s.toks + 1 }) :
    wpAny (model prog w) A (call (.builtin "int.bit_length") [.int x t]) Q E s :=
  call_gives F.slot_int_bit_length (typeIs_int s x t) F.entry_int_bit_length (F.args_int_bit_length_1 _) (AutoIntG2.int_bit_length_int_0 x t) h
end
end Mine
end T_H1
section T_M0
open PySem PySem.W PyProof.Rows
set_option maxRecDepth 100000
namespace Mine
theorem seq_getD (f : Int → Int) (n i : Nat) (hi : i < n) : (byteArr ((rangeKs 0 n).map f)).getD i 0 = (f (i : Int)).toNat.toUInt8 := by
  have h : i < (byteArr ((rangeKs 0 n).map f)).size := by rw [byteArr_size, List.length_map, rangeKs_length]; exact hi
  simp [Array.getD, byteArr, rangeKs, hi]
theorem seq_apart (f : Int → Int) (n : Nat) (h0 : ∀ k, 0 ≤ f k ∧ f k < 256) (hne : ∀ i j : Nat, i < j → j < n → f i ≠ f j) : Apart (byteArr ((rangeKs 0 n).map f)) := by
  intro i j hij hj
  rw [byteArr_size, List.length_map, rangeKs_length] at hj
  rw [seq_getD f n i (by omega), seq_getD f n j hj]
  intro e
  have e2 := congrArg UInt8.toNat e
  have hi := h0 (i : Int)
  have hj' := h0 (j : Int)
  rw [Nat.toUInt8_eq, Nat.toUInt8_eq, UInt8.toNat_ofNat', UInt8.toNat_ofNat', Nat.mod_eq_of_lt (by omega), Nat.mod_eq_of_lt (by omega)] at e2
  exact hne i j hij hj (by omega)
theorem fmod_apart {a : Int} {c M i j : Nat} (hM : 0 < M) (hc : Nat.gcd c M = 1) (hij : i < j) (hj : j - i < M) : (a + (c : Int) * (i : Int)).fmod (M : Int) ≠ (a + (c : Int) * (j : Int)).fmod (M : Int) := by
  intro e
  rw [Int.fmod_eq_emod_of_nonneg _ (by omega), Int.fmod_eq_emod_of_nonneg _ (by omega)] at e
  have h1 : ((M : Nat) : Int) ∣ (a + (c : Int) * (j : Int)) - (a + (c : Int) * (i : Int)) := Int.dvd_of_emod_eq_zero (by rw [Int.sub_emod, e]; simp)
  have h2 : (a + (c : Int) * (j : Int)) - (a + (c : Int) * (i : Int)) = ((c * (j - i) : Nat) : Int) := by
    push_cast
    rw [Int.ofNat_sub (by omega), Int.mul_sub]; omega
  rw [h2] at h1
  have h3 : M ∣ c * (j - i) := Int.natCast_dvd_natCast.mp h1
  have h4 : M ∣ j - i := Nat.Coprime.dvd_of_dvd_mul_left (Nat.Coprime.symm hc) h3
  exact absurd (Nat.le_of_dvd (by omega) h4) (by omega)
theorem whole_size {p q : Int} : (byteArr (List.map (fun k' => (p + (1 + q.fmod 128 * 2) * k').fmod 256) (rangeKs 0 ((256 : Int) - 0).toNat))).size = 256 := by
  rw [byteArr_size, List.length_map, rangeKs_length]; rfl
theorem gcd_256 : ∀ t, t < 128 → Nat.gcd (1 + t * 2) 256 = 1 := by decide +kernel
theorem gcd_94 : ∀ t, t < 23 → Nat.gcd (1 + t * 2) 94 = 1 := by decide +kernel
theorem whole_apart {p q : Int} : Apart (byteArr (List.map (fun k' => (p + (1 + q.fmod 128 * 2) * k').fmod 256) (rangeKs 0 ((256 : Int) - 0).toNat))) := by
  obtain ⟨t, ht⟩ := Int.eq_ofNat_of_zero_le (Int.fmod_nonneg_of_pos q (show (0 : Int) < 128 by decide))
  have h2 := Int.fmod_lt_of_pos q (show (0 : Int) < 128 by decide)
  rw [ht] at h2 ⊢
  refine seq_apart _ _ (fun k => ⟨Int.fmod_nonneg_of_pos _ (by decide), Int.fmod_lt_of_pos _ (by decide)⟩) fun i j hij hj => ?_
  have hg := gcd_256 t (by omega)
  have e : (1 + ((t : Nat) : Int) * 2) = ((1 + t * 2 : Nat) : Int) := by push_cast; rfl
  rw [e]
  exact fmod_apart (M := 256) (by decide) hg hij (by have : ((256 : Int) - 0).toNat = 256 := rfl; omega)
theorem signs_size (size turn : Nat) : (signs size turn).size = size := by
  unfold signs
  rw [byteArr_size, List.length_map, rangeKs_length]
theorem signs_apart {size turn : Nat} (h : size ≤ 49) : Apart (signs size turn) := by
  unfold signs
  obtain ⟨t, ht⟩ := Int.eq_ofNat_of_zero_le (Int.fmod_nonneg_of_pos (turn : Int) (show (0 : Int) < 23 by decide))
  have h2 := Int.fmod_lt_of_pos (turn : Int) (show (0 : Int) < 23 by decide)
  rw [ht] at h2 ⊢
  have hb : ∀ x : Int, 0 ≤ x.fmod 94 ∧ x.fmod 94 < 94 := fun x => ⟨Int.fmod_nonneg_of_pos _ (by decide), Int.fmod_lt_of_pos _ (by decide)⟩
  refine seq_apart _ _ (fun k => ?_) fun i j hij hj => ?_
  · have := hb ((turn : Int) + (1 + (t : Int) * 2) * k)
    omega
  · have hg := gcd_94 t (by omega)
    have e : (1 + ((t : Nat) : Int) * 2) = ((1 + t * 2 : Nat) : Int) := by push_cast; rfl
    have := fmod_apart (a := (turn : Int)) (M := 94) (by decide) hg hij (by omega)
    rw [e]
    intro e2
    exact this (Int.add_left_cancel e2)
theorem space_no : ∀ x : UInt8, 33 ≤ x.toNat → Builtin.Bytes.isSpace x = false := by
  intro x hx
  have : ∀ n : Fin 256, 33 ≤ n.val → Builtin.Bytes.isSpace (UInt8.ofNat n.val) = false := by decide +kernel
  have h := this ⟨x.toNat, x.toNat_lt⟩ hx
  rwa [show UInt8.ofNat x.toNat = x from UInt8.ofNat_toNat] at h
theorem signs_space {size turn : Nat} : ∀ d, d < (signs size turn).size → Builtin.Bytes.isSpace ((signs size turn).getD d 0) = false := by
  intro d hd
  rw [signs_size] at hd
  refine space_no _ ?_
  unfold signs
  rw [seq_getD _ _ _ hd, Nat.toUInt8_eq, UInt8.toNat_ofNat']
  have h0 := Int.fmod_nonneg_of_pos ((turn : Int) + (1 + (turn : Int).fmod 23 * 2) * (d : Int)) (show (0 : Int) < 94 by decide)
  have h1 := Int.fmod_lt_of_pos ((turn : Int) + (1 + (turn : Int).fmod 23 * 2) * (d : Int)) (show (0 : Int) < 94 by decide)
  rw [Nat.mod_eq_of_lt (by omega)]
  omega
end Mine
end T_M0
section T_H2
open PySem PySem.W PyProof.Rows PySem.Calls PySem.Spec
set_option maxRecDepth 100000
namespace Mine
theorem little_dig : ∀ (k n : Nat), n < 256 ^ k → (0 < k → 256 ^ (k - 1) ≤ n) → (KTBy.little k (n : Int)).reverse = toI (digN 256 n) := by
  intro k
  induction k with
  | zero => intro n h _
            have : n = 0 := by simpa using h
            subst this; rw [digN_zero]; rfl
  | succ k ih =>
    intro n h h1
    have hn : 0 < n := Nat.lt_of_lt_of_le (Nat.pow_pos (by decide)) (h1 (Nat.succ_pos k))
    rw [digN_pos (by decide) hn]
    show (((n : Int) % 256) :: KTBy.little k ((n : Int) / 256)).reverse = _
    rw [List.reverse_cons, show ((n : Int) / 256) = ((n / 256 : Nat) : Int) from rfl, ih (n / 256) (by rw [Nat.pow_succ] at h; omega) (fun hk => ?_)]
    · simp [toI]
    · have := h1 (Nat.succ_pos k)
      rw [Nat.add_sub_cancel] at this
      rw [Nat.le_div_iff_mul_le (by decide), ← Nat.pow_succ, Nat.succ_eq_add_one, Nat.sub_add_cancel hk]
      exact this
theorem bits_cut (n : Nat) : n < 256 ^ ((Builtin.Int.intBits (n : Int) + 7) / 8) ∧ (0 < (Builtin.Int.intBits (n : Int) + 7) / 8 → 256 ^ ((Builtin.Int.intBits (n : Int) + 7) / 8 - 1) ≤ n) := by
  unfold Builtin.Int.intBits
  by_cases h0 : n = 0
  · subst h0; simp
  · rw [if_neg (by simpa using h0), Int.natAbs_natCast]
    have h1 : n < 2 ^ (n.log2 + 1) := Nat.lt_log2_self
    have h2 : 2 ^ n.log2 ≤ n := Nat.log2_self_le h0
    have e : ∀ k, 256 ^ k = 2 ^ (8 * k) := fun k => by rw [Nat.pow_mul]
    refine ⟨?_, fun _ => ?_⟩
    · rw [e]; exact Nat.lt_of_lt_of_le h1 (Nat.pow_le_pow_right (by decide) (by omega))
    · rw [e]; exact Nat.le_trans (Nat.pow_le_pow_right (by decide) (by omega)) h2
theorem bits_small {n : Nat} (h : n < 2 ^ 80) : Builtin.Int.intBits (n : Int) ≤ 80 := by
  unfold Builtin.Int.intBits
  by_cases h0 : n = 0
  · subst h0; simp
  · rw [if_neg (by simpa using h0), Int.natAbs_natCast]
    have h2 : n.log2 < 80 := (Nat.log2_lt h0).mpr h
    omega
theorem ints_inj {b : Array UInt8} {l : List Nat} (h : KBw.bInts b = toI l) (hl : ∀ d ∈ l, d < 256) : b = (l.map UInt8.ofNat).toArray := by
  have h1 : b.toList.map (fun c => (c.toNat : Int)) = l.map fun d => ((d : Nat) : Int) := by
    have h2 := KBw.ints_list b.toList
    rw [Array.toArray_toList] at h2
    rw [← h2, h]
  have h3 : ∀ (x : List UInt8) (y : List Nat), x.map (fun c => (c.toNat : Int)) = y.map (fun d => ((d : Nat) : Int)) → x = y.map UInt8.ofNat := by
    intro x
    induction x with
    | nil => intro y e; cases y with | nil => rfl | cons _ _ => cases e
    | cons a x ih =>
      intro y e
      cases y with
      | nil => cases e
      | cons d y =>
        rw [List.map_cons, List.map_cons] at e
        injection e with e1 e2
        have e3 : a.toNat = d := Int.ofNat.inj e1
        rw [List.map_cons, ← ih y e2, ← e3, UInt8.ofNat_toNat]
  rw [← h3 b.toList l h1, Array.toArray_toList]
section
variable {prog : Program} {w : World} {A : Around} {E : Value → Shared → Prop} {s : Shared}
theorem call_octets {n : Nat} {t u v : Tok} {Q : Value → Shared → Prop} (hn : n < 2 ^ 80) (h : ∀ t' k', Q (.bytes ((digN 256 n).map UInt8.ofNat).toArray t') { s with toks := k' }) :
    wpAny (model prog w) A (call (.builtin "int.to_bytes") [.int (n : Nat) t, .int ((((Builtin.Int.intBits (n : Int) : Nat) : Int) + 7).fdiv 8) u, .str (PySem.Str.ofString "big") v]) Q E s := by
  have e : (((Builtin.Int.intBits (n : Int) : Nat) : Int) + 7).fdiv 8 = (((Builtin.Int.intBits (n : Int) + 7) / 8 : Nat) : Int) := by
    rw [Int.fdiv_eq_ediv_of_nonneg _ (by omega)]; rfl
  have hb := bits_small hn
  have hc := bits_cut n
  rw [e]
  refine to_bigN (by omega) (by omega) (by rw [KTBy.p256]; exact_mod_cast hc.1) fun b t' k' hI => ?_
  rw [little_dig _ _ hc.1 hc.2] at hI
  rw [ints_inj hI (digN_lt n)]
  exact h t' k'
end
theorem octets_eq (q : Nat) (l : List UInt8) : Array.replicate q 0 ++ l.toArray = (List.replicate q 0 ++ l).toArray := by simp
end Mine
end T_H2
section T_H3
open PySem PySem.W PyProof.Rows PySem.Calls PySem.Spec
set_option maxRecDepth 100000
namespace Mine
theorem reset_H3 : True := by
  w_top off
  trivial
/-- any iterable whose iterator is one new object that holds the whole state -/
structure IterW (prog : Program) (w : World) (xv : Value) (oI : Obj) (n : Nat) (P : Nat → Value → Prop) (St : Addr → Nat → Heap → Prop) (s₁ : Shared) : Prop where
  it : ∀ (A : Around) (E : Value → Shared → Prop) (Q : Value → Shared → Prop), A.handled = none → Q (.ref s₁.heap.objs.size) { s₁ with heap := s₁.heap.push oI } → wpAny (model prog w) A (pyIter xv) Q E s₁
  walks : ∀ A : Around, A.handled = none → Walks prog w A s₁.heap.objs.size [s₁.heap.objs.size] [s₁.heap.objs.size] n P (St s₁.heap.objs.size)
  st0 : St s₁.heap.objs.size 0 (s₁.heap.push oI)
  obj : ∀ i h, St s₁.heap.objs.size i h → ∃ o, h.get? s₁.heap.objs.size = some o
  keep : ∀ i h h' o, St s₁.heap.objs.size i h → h.get? s₁.heap.objs.size = some o → h'.get? s₁.heap.objs.size = some o → St s₁.heap.objs.size i h'
theorem IterW.bytes {prog : Program} {w : World} (b : Array UInt8) (t : Tok) (s₁ : Shared) :
    IterW prog w (.bytes b t) { cls := .type "bytes_iterator", data := .fields #[.bytes b t, .int 0 0] } b.size (fun i v => ∃ c u, b[i]? = some c ∧ v = .int (c.toNat : Int) u) (fun I i h => KBw.IsBytesIter h I b t i) s₁ where
  it := fun A E Q _ h => KBw.pyIter_bytes h
  walks := fun A hh => KBw.walks hh _ b t
  st0 := ⟨_, Heap.get?_push_size _ rfl, rfl, rfl⟩
  obj := fun i h st => let ⟨o, e, _⟩ := st; ⟨o, e⟩
  keep := fun i h h' o st e e' => by obtain ⟨o', q, r⟩ := st; rw [e] at q; cases q; exact ⟨o, e', r⟩
section
variable {prog : Program} {w : World} {A : Around} {E : Value → Shared → Prop} {s : Shared} {h₀ : Heap} {L : Addr} {m : Str → Option Value} {env : Env}
def SrcIt (prog : Program) (w : World) (A : Around) (h₀ : Heap) (L : Addr) (m : Str → Option Value) (env : Env) (elt : Expr) (x : Str) (scope : Scope) (cl : List (Str × Addr)) (Fin : Shared → List Value → List (Addr × Obj) → Prop) (xv : Value) (s₁ : Shared) : Prop :=
  ∃ oI n P St news, IterW prog w xv oI n P St s₁ ∧ Fr h₀ L s₁.heap m ∧ News h₀ L s₁.heap news ∧ n ≤ sizeLine ∧
      ∀ s₂ : Shared, (∃ h, s₂ = { s₁ with heap := h }) → LCg.CompRest prog w A h₀ L m env elt x scope cl s₂ (fun _ => True) P (Fin s₂) n 0 [] news
theorem SrcIt.mk {elt : Expr} {x : Str} {scope : Scope} {cl : List (Str × Addr)} {Fin : Shared → List Value → List (Addr × Obj) → Prop} {xv : Value} {s₁ : Shared} {oI : Obj} {n : Nat} {P : Nat → Value → Prop} {St : Addr → Nat → Heap → Prop} {news : List (Addr × Obj)}
    (F : Fr h₀ L s₁.heap m) (N : News h₀ L s₁.heap news) (W : IterW prog w xv oI n P St s₁) (hn : n ≤ sizeLine)
    (R : ∀ h, LCg.CompRest prog w A h₀ L m env elt x scope cl { s₁ with heap := h } (fun _ => True) P (Fin { s₁ with heap := h }) n 0 [] news) : SrcIt prog w A h₀ L m env elt x scope cl Fin xv s₁ :=
  ⟨oI, n, P, St, news, W, F, N, hn, fun _ ⟨h, e⟩ => e ▸ R h⟩
theorem ListComp_It {elt iter : Expr} {x : Str} {px : Pos} {scope : Scope} {cl : List (Str × Addr)} {pos : Pos} {Q : Value → Shared → Prop} (F₀ : Fr h₀ L s.heap m) (hh : A.handled = none)
    (hclos : closureFor scope env = pure cl) (hcell : ∀ y ∈ scope.names, y.2 ≠ .cell) (hkind : scope.kind = .function)
    (hnames : ∀ y ∈ scope.names, y.2 = .local → scope.names.lookup y.1 = some .local) (hx : scope.names.lookup x = some .local)
    (h : wpAny (model prog w) A (eval iter env) (SrcIt prog w A h₀ L m env elt x scope cl (fun s₂ => LCg.FinE h₀ L m s₂ Q)) E s)
    (hs : ∀ x, foldedSetIterable iter env x = pure x := by intro _; rfl) :
    wpAny (model prog w) A (eval (.ListComp elt [⟨.Name x px, iter, [], 0⟩] scope pos) env) Q E s := by
  rw [eval_ListComp]
  refine wpAny_comprehension_free (use := none) rfl hs hclos hkind hnames (wpAny_mono h (fun xv s₁ h₁ => ?_) fun _ _ e => e)
  obtain ⟨oI, n, P, St, news, W, F, N, hsz, R⟩ := h₁
  refine W.it _ _ _ hh ?_
  refine LCg.block_U (W.walks _ hh) hsz W.obj (fun i h h' o _ st e e' _ _ _ => W.keep i h h' o st e e') hcell hkind hx W.st0 (fun b hb => ?_)
      (F.keeps fun _ _ e => Heap.get?_push_of_some _ e) (N.grown fun _ _ e => Heap.get?_push_of_some _ e) (Nat.ne_of_lt F.ns.lt) (next_is_new F) (fun p hp => Nat.ne_of_lt (Heap.lt_size (N p hp).1)) trivial (R _ ⟨_, rfl⟩) ?_
  · rw [List.mem_singleton.mp hb]
    show s₁.heap.objs.size < (s₁.heap.push _).objs.size
    rw [Heap.size_push]; exact Nat.lt_succ_self _
  · intro D C h tk m' ys news' F' N' o1 hn hC₀ hD₀ hCL hDL hCD offC fin
    refine ⟨m', hn, fun h'' hs'' => fin D h'' tk (F'.change hs'' hCL hC₀) (fun p hp => ?_) o1⟩
    refine ⟨hs''.extBut _ _ ?_ (N' p hp).1, (N' p hp).2⟩
    rcases List.mem_cons.mp hp with rfl | hp
    · exact Ne.symm hCD
    · exact offC p hp
end
end Mine
end T_H3
section T_H4
open PySem PySem.W PyProof.Rows PySem.Calls PySem.Spec
set_option maxRecDepth 100000
namespace Mine
theorem list_keys_miss : typeLookup (.type "list") "keys" = pure none := by rw [typeLookup_type, builtinLookup_eq_fast]; kernel_rfl
section
variable {prog : Program} {w : World} {A : Around} {E : Value → Shared → Prop} {s : Shared}
theorem by_miss_list {a : Addr} {o : Obj} {xs : Array Value} {k : Nat} {name : Str} {tn : Tok} {Q : Value → Shared → Prop}
    (hx : s.heap.get? a = some o) (hc : o.cls = .type "list") (hdat : o.data = .seq xs k) (hd : o.dict = none) (hmiss : typeLookup (.type "list") name = pure none) (hname : (["__module__", "__name__", "__qualname__", "__doc__", "__annotations__"] : List Str).contains name = false) (hA : A.handled = none)
    (h : ∀ h' tk e, Heap.NewExcOf s.heap h' e "AttributeError" → E (.ref e) { s with heap := h', toks := tk }) (hsz : name.length + 100 ≤ sizeLine := by size_fits) :
    wpAny (model prog w) A (getAttrBy (.ref a) (.str name tn) false) Q E s := by
  obtain ⟨c, dct, dat, sl⟩ := o
  simp only at hc hdat hd
  subst hc hdat hd
  obtain ⟨hp, g, d, tk, os⟩ := s
  have hT : ∀ tk', (⟨hp, g, d, tk', os⟩ : Shared).TypeIs (.ref a) "list" := fun _ => ⟨_, hx, rfl⟩
  have f1 := sub_AttributeError
  have f3 := F.slot_list_getattribute.lookup
  have f4 := F.slot_list_getattribute.bind (.ref a)
  have f5 := am_list_getattr_none
  unfold getAttrBy
  repeat (any_goals (first | assumption | exact hT _ | ((with_reducible show wpAny _ _ (call (Value.builtin "list.__getattribute__") _ _) _ _ _); refine call_meets F.slot_list_getattribute (hT _) am_entry_list_getattribute (F.args_list_getattribute_2 _ _) (meets_getattribute_miss_list a xs k sl name _ hmiss hname hsz) ⟨hx, hA, fun h' tk' e hx' => ?_⟩) | wp_step))
  obtain ⟨t', u', he⟩ := hx'.there
  show wpAny _ _ (getattributeRaised _ _ _ _ _ _ _) _ _ _
  unfold getattributeRaised
  repeat (any_goals (first | assumption | wp_step))
  exact h _ _ _ hx'.of
theorem keys_miss_list {a : Addr} {o : Obj} {xs : Array Value} {k : Nat} {Q : Option Value → Shared → Prop}
    (hx : s.heap.get? a = some o) (hc : o.cls = .type "list") (hdat : o.data = .seq xs k) (hd : o.dict = none) (hA : A.handled = none)
    (h : ∀ h' tk, (∀ b o, s.heap.get? b = some o → h'.get? b = some o) → Q none { s with heap := h', toks := tk }) :
    wpAny (model prog w) A (getAttr? (.ref a) "keys") Q E s := by
  obtain ⟨hp, g, d, tk, os⟩ := s
  unfold getAttr? getAttrBy?
  refine wpAny_bind (wpAny_mkText ?_)
  refine wpAny_bind (wpAny_attempt (by_miss_list hx hc hdat hd list_keys_miss (by decide +kernel) hA fun h' tk' e hn => ?_))
  obtain ⟨oe, vsx, h1, h2, _⟩ := hn.there
  refine wpAny_bind (wpAny_isInstance (T := "AttributeError") (b := true) ⟨oe, h1, h2⟩ sub_AttributeError ?_)
  exact wpAny_pure (h _ _ hn.keeps)
end
end Mine
end T_H4
section T_H5
open PySem PySem.W PyProof.Rows PySem.Calls PySem.Spec
set_option maxRecDepth 100000
namespace Mine
theorem plain_upd_loop : plainId "dict.update.loop" = true := by decide +kernel
theorem entry_upd_loop : entryFor table "dict.update.loop" = some Builtin.«dict.update.loop» := entryFor_of_fast (by kernel_rfl)
/-- the i-th pair: the i-th sign and i -/
def PairAt (h : Heap) (b : Array UInt8) (its : Array Value) (j : Nat) : Prop := ∃ (T : Addr) (t1 t2 : Tok), its[j]? = some (Value.ref T) ∧ h.IsTuple T #[.int ((b.getD j 0).toNat : Int) t1, .int (j : Int) t2]
section
variable {prog : Program} {w : World} {A : Around} {E : Value → Shared → Prop}
theorem upd_loop {R : Result → Shared → Prop} {D I l : Addr} {its : Array Value} {b : Array UInt8} (hh : A.handled = none) (hb : Apart b) (hz : b.size ≤ 256) (hsz : its.size = b.size) (hlI : l ≠ I) (hDI : D ≠ I) (hDl : D ≠ l) :
    ∀ (k i : Nat) (s : Shared) (kvs : List (Int × Value)), b.size - i = k → i ≤ b.size → s.heap.IsListIter I l i → s.heap.IsList l its → s.heap.DictOf (intKind prog w) D kvs → MapTo b i kvs →
      (∀ j, j < b.size → PairAt s.heap b its j) → (∀ (j : Nat) (T : Addr), its[j]? = some (Value.ref T) → T ≠ I ∧ T ≠ D) →
      (∀ h' tk kvs', (∀ x o, x ≠ I → x ≠ D → s.heap.get? x = some o → h'.get? x = some o) → h'.DictOf (intKind prog w) D kvs' → MapTo b b.size kvs' → R (.ok (.ret .none)) { s with heap := h', toks := tk }) →
      codeAny (model prog w) A (.builtin "dict.update.loop" ⟨[.ref D, .ref I, rawInt (i : Nat), .none], []⟩) R s := by
  have W := Walks.list (prog := prog) (w := w) (A := A.in1) (by simpa using hh) I l hlI its
  intro k
  induction k with
  | zero =>
    intro i s kvs hk hle hit hl hd hM hP hT hR
    have hin : i = its.size := by omega
    refine codeAny_builtin entry_upd_loop ?_
    rw [Around.under_plainId plain_upd_loop _]
    show wpAny _ A.in1 (pyNext (.ref I) >>= _) _ _ s
    refine wpAny_bind (W.done _ _ _ (hin ▸ ⟨hit, hl⟩) fun h' tk he => ?_)
    show wpAny _ _ (Builtin.Dict.addKeywords D [] >>= _) _ _ _
    have hd' : h'.DictOf (intKind prog w) D kvs := hd.at fun o e => he D o (by simpa using hDI) e
    exact wpAny_bind (wpAny_pure (wpAny_pure (hR h' tk kvs (fun x o h1 _ e => he x o (by simpa using h1) e) hd' ((hin.trans hsz) ▸ hM))))
  | succ k ih =>
    intro i s kvs hk hle hit hl hd hM hP hT hR
    have hlt : i < b.size := by omega
    refine codeAny_builtin entry_upd_loop ?_
    rw [Around.under_plainId plain_upd_loop _]
    show wpAny _ A.in1 (pyNext (.ref I) >>= _) _ _ s
    refine wpAny_bind (W.item i _ _ _ (by omega) ⟨hit, hl⟩ fun v h' tk hv hst' hk' => ?_)
    obtain ⟨T, t1, t2, hj, hTu⟩ := hP i hlt
    rw [hj] at hv
    obtain rfl := Option.some.inj hv
    have hTn := hT i T hj
    have hd' : h'.DictOf (intKind prog w) D kvs := hd.at fun o e => hk' D o (by simpa using hDI) e
    have hTu' : h'.IsTuple T #[.int ((b.getD i 0).toNat : Int) t1, .int (i : Int) t2] := by
      obtain ⟨oT, q, r⟩ := hTu; exact ⟨oT, hk' T oT (by simpa using hTn.1) q, r⟩
    obtain ⟨oT, q1, q2, q3⟩ := id hTu'
    refine wpAny_bind (wpAny_holding ?_)
    refine wpAny_bind (wpAny_tryCatch ?_)
    unfold Builtin.Dict.pairItems
    refine wpAny_bind (wpAny_typeOf (T := "tuple") ⟨oT, q1, q2⟩ ?_)
    refine bm_if_true (by decide +kernel) ?_
    obtain ⟨nT, q3⟩ := q3
    refine wpAny_bind (wpAny_seqItems q1 q3 (wpAny_pure ?_))
    refine wpAny_holding ?_
    refine wpAny_dictSet_pairs (k := ((b.getD i 0).toNat : Int)) (hsz := by have := hM.1; rw [sizeLine_eq]; omega) (intKind_is prog w _ t1) hd' fun h₇ hd₇ hs₇ => ?_
    have hc : rawInt ((i : Int) + 1) = rawInt ((i + 1 : Nat) : Int) := by push_cast; rfl
    refine wpAny_pure ⟨plainId_quiet plain_upd_loop _, ?_⟩
    show codeAny (model prog w) A (.builtin "dict.update.loop" ⟨[.ref D, .ref I, rawInt ((i : Int) + 1), .none], []⟩) R _
    rw [hc]
    have up : ∀ x o, x ≠ I → x ≠ D → s.heap.get? x = some o → h₇.get? x = some o := fun x o h1 h2 e => hs₇.extBut x o h2 (hk' x o (by simpa using h1) e)
    have hst2 : h'.IsListIter I l (i + 1) ∧ h'.IsList l its := hst'
    refine ih (i + 1) { s with heap := h₇, toks := tk + 1 } _ (by omega) hlt (hst2.1.at fun o e => hs₇.extBut I o (Ne.symm hDI) e) (hst2.2.at fun o e => hs₇.extBut l o (Ne.symm hDl) e) hd₇ (hM.next hb hlt) (fun j hj' => ?_) hT fun h9 tk9 kvs9 hk9 hd9 hM9 => ?_
    · obtain ⟨T', u1, u2, e1, oT', r1, r2⟩ := hP j hj'
      exact ⟨T', u1, u2, e1, oT', up T' oT' (hT j T' e1).1 (hT j T' e1).2 r1, r2⟩
    · exact hR h9 tk9 kvs9 (fun x o h1 h2 e => hk9 x o h1 h2 (up x o h1 h2 e)) hd9 hM9
theorem call_dict_pairs {s : Shared} {l : Addr} {its : Array Value} {n : Nat} {b : Array UInt8} {Q : Value → Shared → Prop} (hh : A.handled = none) (hb : Apart b) (hz : b.size ≤ 256) (hsz : its.size = b.size)
    (hl : s.heap.get? l = some { cls := .type "list", data := .seq its n }) (hP : ∀ j, j < b.size → PairAt s.heap b its j)
    (hQ : ∀ D h' tk kvs, s.heap.objs.size ≤ D → (∀ x o, s.heap.get? x = some o → h'.get? x = some o) → h'.DictOf (intKind prog w) D kvs → MapTo b b.size kvs → Q (.ref D) { s with heap := h', toks := tk }) :
    wpAny (model prog w) A (call (.type "dict") [.ref l]) Q E s := by
  refine callType_codes (Q₁ := fun obj s₁ => obj = .ref s.heap.objs.size ∧ s₁ = { s with heap := s.heap.push { cls := .type "dict", data := .dict #[] } }) F.kt_called_dict (F.kt_typeCall_dict_1 _) F.entry_dict_init (kt_code_dict_new _ ⟨rfl, rfl⟩) ?_
  rintro obj s₁ ⟨rfl, rfl⟩
  have hnew : (s.heap.push { cls := .type "dict", data := .dict #[] }).DictOf (intKind prog w) s.heap.objs.size [] := Heap.DictOf.new s.heap
  have hlt := Heap.lt_size hl
  have hl1 : (s.heap.push { cls := .type "dict", data := .dict #[] }).get? l = some { cls := .type "list", data := .seq its n } := Heap.get?_push_of_some _ hl
  refine ⟨hnew.typeIs, F.args_dict_init_2 _ _, ?_⟩
  unfold Builtin.«dict.__init__»
  refine wpAny_bind ?_
  unfold Builtin.Dict.selfAndRest
  refine wpAny_bind (wpAny_notOrdered_dict hnew.typeIs ?_)
  show wpAny _ _ (pure (s.heap.objs.size, [Value.ref l])) _ _ _
  refine wpAny_pure ?_
  show wpAny _ _ (Builtin.Dict.updateFrom "dict.__init__" s.heap.objs.size (.ref l) [] .none) _ _ _
  unfold Builtin.Dict.updateFrom
  refine wpAny_bind (wpAny_typeOf (T := "list") ⟨_, hl1, rfl⟩ ?_)
  refine bm_if_true (by decide +kernel) ?_
  refine wpAny_bind (keys_miss_list hl1 rfl rfl rfl (by simpa using hh) fun h2 tk2 hk2 => ?_)
  refine bm_if_true rfl ?_
  refine wpAny_bind (wpAny_rule ?_)
  have hl2 : h2.IsList l its := ⟨_, hk2 _ _ hl1, rfl, _, rfl⟩
  refine wpAny_bind (wpAny_pyIter_list hl2 ?_)
  have hlt2 : s.heap.objs.size < h2.objs.size := by obtain ⟨_, _, _, hg, _⟩ := hnew.at (h' := h2) fun o e => hk2 _ _ e; exact Heap.lt_size hg
  have old : ∀ x o, s.heap.get? x = some o → (h2.push { cls := .type "list_iterator", data := .fields #[.ref l, .int 0 0] }).get? x = some o := fun x o e => Heap.get?_push_of_some _ (hk2 _ _ (Heap.get?_push_of_some _ e))
  refine wpAny_pure ⟨plainId_quiet plain_upd_loop _, ?_⟩
  refine upd_loop (I := h2.objs.size) (l := l) (its := its) (b := b) (by simpa using hh) hb hz hsz (Nat.ne_of_lt (Nat.lt_trans hlt hlt2)) (Nat.ne_of_lt hlt2) (Nat.ne_of_gt hlt) b.size 0 _ [] rfl (Nat.zero_le _) ⟨_, Heap.get?_push_size _ rfl, rfl, rfl⟩ (hl2.push _)
    (hnew.at fun o e => Heap.get?_push_of_some _ (hk2 _ _ e)) ⟨Nat.le_refl _, fun j hj => absurd hj (Nat.not_lt_zero _)⟩ (fun j hj => ?_) (fun j T e => ?_) fun h9 tk9 kvs9 hk9 hd9 hM9 => ?_
  · obtain ⟨T', u1, u2, e1, oT', r1, r2⟩ := hP j hj
    exact ⟨T', u1, u2, e1, oT', old _ _ r1, r2⟩
  · by_cases hj : j < b.size
    · obtain ⟨T', u1, u2, e1, oT', r1, r2⟩ := hP j hj
      rw [e] at e1
      obtain rfl := Value.ref.inj (Option.some.inj e1)
      have := Heap.lt_size r1
      exact ⟨Nat.ne_of_lt (Nat.lt_trans this hlt2), Nat.ne_of_lt this⟩
    · have := (Array.getElem?_eq_some_iff.mp e).1
      exact absurd this (by omega)
  · refine ⟨rfl, hQ _ h9 tk9 kvs9 (Nat.le_refl _) (fun x o e => hk9 x o (Nat.ne_of_lt (Nat.lt_trans (Heap.lt_size e) hlt2)) (Nat.ne_of_lt (Heap.lt_size e)) (old x o e)) hd9 hM9⟩
end
end Mine
end T_H5
section T_H6
open PySem PySem.W PyProof.Rows PySem.Calls PySem.Spec
set_option maxRecDepth 100000
namespace Mine
abbrev pairObj (ik iv : Int) (t1 t2 : Tok) : Obj := { cls := .type "tuple", data := .seq #[.int ik t1, .int iv t2] }
/-- what a turn leaves: one new tuple -/
def PairEl (h₀ : Heap) (L : Addr) (m : Str → Option Value) (s₁ : Shared) (I : Addr) (oI : Obj) (C : Addr) (oC : Obj) (D : Addr) (oD : Obj) (news : List (Addr × Obj)) (ik iv : Int) (y : Value) (s₂ : Shared) : Prop :=
  ∃ (T : Addr) (t1 t2 : Tok) (h' : Heap) (tk' : Nat), s₂ = { s₁ with heap := h', toks := tk' } ∧ y = .ref T ∧ Fr h₀ L h' m ∧ News h₀ L h' ((T, pairObj ik iv t1 t2) :: (I, oI) :: (C, oC) :: (D, oD) :: news) ∧ (∀ p ∈ (I, oI) :: (C, oC) :: (D, oD) :: news, p.1 < T)
theorem PairEl.mk {h₀ : Heap} {L : Addr} {m : Str → Option Value} {s₁ : Shared} {I : Addr} {oI : Obj} {C : Addr} {oC : Obj} {D : Addr} {oD : Obj} {news : List (Addr × Obj)} {ik iv : Int} {T : Addr} {t1 t2 : Tok} {h' : Heap} {tk' : Nat}
    (F : Fr h₀ L h' m) (N : News h₀ L h' ((T, pairObj ik iv t1 t2) :: (I, oI) :: (C, oC) :: (D, oD) :: news)) (hl : ∀ p ∈ (I, oI) :: (C, oC) :: (D, oD) :: news, p.1 < T) :
    PairEl h₀ L m s₁ I oI C oC D oD news ik iv (.ref T) { s₁ with heap := h', toks := tk' } := ⟨T, t1, t2, h', tk', rfl, rfl, F, N, hl⟩
def PairsIn (b : Array UInt8) (n : Nat) (ys : List Value) (own : List (Addr × Obj)) : Prop := ys.length = n ∧ ∀ j, j < n → ∃ (T : Addr) (t1 t2 : Tok), ys[j]? = some (Value.ref T) ∧ (T, pairObj ((b.getD j 0).toNat : Int) (j : Int) t1 t2) ∈ own
section
variable {prog : Program} {w : World} {A : Around} {E : Value → Shared → Prop} {s : Shared} {h₀ : Heap} {L : Addr} {m : Str → Option Value} {env : Env} {elt : Expr} {x : Str} {scope : Scope} {cl : List (Str × Addr)}
theorem pair_rest {b : Array UInt8} {n : Nat} {news : List (Addr × Obj)} {Fin : List Value → List (Addr × Obj) → Prop}
    (turn : ∀ own k t I oI C oC D m₂ ys h tk (E' : Value → Shared → Prop), (0 : Int) ≤ k → k < (n : Int) → LCg.NsObj oC m₂ → m₂ x = some (.int k t) → Fr h₀ L h m → News h₀ L h ((I, oI) :: (C, oC) :: (D, LCg.lst ys) :: (news ++ own)) → LCg.Off3 I C D (news ++ own) → ((@Ne Nat I C) ∧ (@Ne Nat I D) ∧ (@Ne Nat C D)) →
      wpAny (model prog w) A (eval elt (compEnvC scope cl C env)) (PairEl h₀ L m { s with heap := h, toks := tk } I oI C oC D (LCg.lst ys) (news ++ own) ((b.getD k.toNat 0).toNat : Int) k) E' { s with heap := h, toks := tk })
    (fin : ∀ ys own, PairsIn b n ys own → Fin ys (news ++ own)) : LCg.CompRest prog w A h₀ L m env elt x scope cl s (fun _ => True) (fun i v => ∃ t, v = .int ((0 : Int) + (i : Int)) t) Fin n 0 [] news := by
  have key : ∀ (j i : Nat) (ys : List Value) (own : List (Addr × Obj)), i + j = n → PairsIn b i ys own → LCg.CompRest prog w A h₀ L m env elt x scope cl s (fun _ => True) (fun i v => ∃ t, v = .int ((0 : Int) + (i : Int)) t) Fin j i ys (news ++ own) := by
    intro j
    induction j with
    | zero =>
      intro i ys own hi hp
      obtain rfl : i = n := by omega
      exact LCg.CompRest.zero (fin ys own hp)
    | succ j ih =>
      intro i ys own hi hp
      refine LCg.CompRest.succ ?_
      intro v I oI C oC D m₂ h tk E' hv hC hx F N off ne
      obtain ⟨t, rfl⟩ := hv
      refine wpAny_mono (turn own ((0 : Int) + (i : Int)) t I oI C oC D m₂ ys h tk E' (by omega) (by omega) hC hx F N off ne) (fun y s₂ hq => ?_) fun _ _ e => e
      obtain ⟨T, t1, t2, h', tk', e, rfl, F', N', hl⟩ := hq
      have e0 : (0 : Int) + (i : Int) = (i : Int) := by omega
      rw [e0, Int.toNat_natCast] at N'
      refine ⟨h', tk', news ++ ((T, pairObj ((b.getD i 0).toNat : Int) (i : Int) t1 t2) :: own), e, F', fun p hp => N' p ?_, LCg.Off3.of fun p hp => ?_, trivial, ?_⟩
      · simp only [List.mem_cons, List.mem_append] at hp ⊢
        rcases hp with h | h | h | h | h | h
        · exact .inr (.inl h)
        · exact .inr (.inr (.inl h))
        · exact .inr (.inr (.inr (.inl h)))
        · exact .inr (.inr (.inr (.inr (.inl h))))
        · exact .inl h
        · exact .inr (.inr (.inr (.inr (.inr h))))
      · have o := off.mem
        rcases List.mem_append.mp hp with h | h
        · exact o p (List.mem_append.mpr (.inl h))
        · rcases List.mem_cons.mp h with rfl | h
          · exact ⟨Nat.ne_of_gt (hl (I, oI) (by simp)), Nat.ne_of_gt (hl (C, oC) (by simp)), Nat.ne_of_gt (hl (D, LCg.lst ys) (by simp))⟩
          · exact o p (List.mem_append.mpr (.inr h))
      · refine ih (i + 1) _ _ (by omega) ⟨by rw [List.length_append, hp.1]; rfl, fun j' hj' => ?_⟩
        by_cases hlt : j' < i
        · obtain ⟨T', u1, u2, e1, e2⟩ := hp.2 j' hlt
          exact ⟨T', u1, u2, by rw [List.getElem?_append_left (by rw [hp.1]; exact hlt)]; exact e1, .tail _ e2⟩
        · obtain rfl : j' = i := by omega
          exact ⟨T, t1, t2, by rw [List.getElem?_append_right (by rw [hp.1]; exact Nat.le_refl _), hp.1]; simp, .head _⟩
  have := key n 0 [] [] (by omega) ⟨rfl, fun j hj => absurd hj (Nat.not_lt_zero _)⟩
  rwa [List.append_nil] at this
theorem pair_rest' {b : Array UInt8} {n : Nat} {news : List (Addr × Obj)} {Fin : List Value → List (Addr × Obj) → Prop} (hn : n = b.size)
    (turn : ∀ own k t I oI C oC D m₂ ys h tk (E' : Value → Shared → Prop), (0 : Int) ≤ k → k < (b.size : Int) → LCg.NsObj oC m₂ → m₂ x = some (.int k t) → Fr h₀ L h m → News h₀ L h ((I, oI) :: (C, oC) :: (D, LCg.lst ys) :: (news ++ own)) → LCg.Off3 I C D (news ++ own) → ((@Ne Nat I C) ∧ (@Ne Nat I D) ∧ (@Ne Nat C D)) →
      wpAny (model prog w) A (eval elt (compEnvC scope cl C env)) (PairEl h₀ L m { s with heap := h, toks := tk } I oI C oC D (LCg.lst ys) (news ++ own) ((b.getD k.toNat 0).toNat : Int) k) E' { s with heap := h, toks := tk })
    (fin : ∀ ys own, PairsIn b b.size ys own → Fin ys (news ++ own)) : LCg.CompRest prog w A h₀ L m env elt x scope cl s (fun _ => True) (fun i v => ∃ t, v = .int ((0 : Int) + (i : Int)) t) Fin n 0 [] news := by
  subst hn; exact pair_rest turn fin
theorem dict_pairs_K {b : Array UInt8} {l : Addr} {ys : List Value} {news own : List (Addr × Obj)} {Q : Value → Shared → Prop} (hh : A.handled = none) (hb : Apart b) (hz : b.size ≤ 256) (hsys : sysModules < L) (F : Fr h₀ L s.heap m) (N : News h₀ L s.heap ((l, LCg.lst ys) :: (news ++ own))) (hp : PairsIn b b.size ys own)
    (h : ∀ D o h' tk kvs, Fr h₀ L h' m → News h₀ L h' ((D, o) :: news) → (∀ p ∈ news, p.1 < D) → (D == sysModules) = false → o.IsDictOf (intKind prog w) kvs → MapTo b b.size kvs → Q (.ref D) { s with heap := h', toks := tk }) :
    wpAny (model prog w) A (call (.type "dict") [.ref l]) Q E s := by
  have hl := (N (l, LCg.lst ys) (.head _)).1
  refine call_dict_pairs hh hb hz (by rw [List.size_toArray]; exact hp.1) hl (fun j hj => ?_) fun D h' tk kvs hD hk hd hM => ?_
  · obtain ⟨T, t1, t2, e1, e2⟩ := hp.2 j hj
    exact ⟨T, t1, t2, by simpa using e1, _, (N _ (.tail _ (List.mem_append.mpr (.inr e2)))).1, rfl, _, rfl⟩
  · obtain ⟨oD, hoD, hiD⟩ := Heap.dictOf_iff.mp hd
    have hLl : L < s.heap.objs.size := F.ns.lt
    have hlow : (D == sysModules) = false := beq_eq_false_iff_ne.mpr (Nat.ne_of_gt (Nat.lt_of_lt_of_le (Nat.lt_trans hsys hLl) hD))
    refine h D oD h' tk kvs ⟨F.ns.at' fun o q => hk L o q, fun x o q => hk x o (F.keep x o q), F.above⟩ (fun p hp => ?_) (fun p hp => Nat.lt_of_lt_of_le (Heap.lt_size (N p (.tail _ (List.mem_append.mpr (.inl hp)))).1) hD) hlow hiD hM
    rcases List.mem_cons.mp hp with rfl | hp
    · refine ⟨hoD, Nat.ne_of_gt (Nat.lt_of_lt_of_le hLl hD), ?_⟩
      cases q : h₀.get? D with
      | none => rfl
      | some o' => exact absurd (Heap.lt_size (F.keep D o' q)) (Nat.not_lt.mpr hD)
    · have z := N p (.tail _ (List.mem_append.mpr (.inl hp)))
      exact ⟨hk _ _ z.1, z.2⟩
end
end Mine
end T_H6
section T_H7
open PySem PySem.W PyProof.Rows PySem.Calls PySem.Spec
set_option maxRecDepth 100000
namespace Mine
abbrev twoComp (elt t1 i1 t2 i2 : Expr) (scope : Scope) (pos : Pos) : Expr := .ListComp elt [⟨t1, i1, [], 0⟩, ⟨t2, i2, [], 0⟩] scope pos
theorem two_turn0 (elt t1 i1 t2 i2 : Expr) (scope : Scope) (pos : Pos) (it acc : Value) (env : Env) :
    compTurn (twoComp elt t1 i1 t2 i2 scope pos) 0 it acc env = (standAt i1.pos >>= fun _ => pyNext it >>= fun r => match r with
      | none => pure (.done .next)
      | some v => letOwnedTupleGo t1 it v >>= fun _ => assign t1 env v >>= fun _ =>
        eval i2 env >>= fun x => standAt i2.pos >>= fun _ => foldedSetIterable i2 env x >>= fun x => holding [x] (pyIter x) >>= fun it' =>
          runOwn (.compStart (twoComp elt t1 i1 t2 i2 scope pos) 1 it' acc env) env >>= fun _ =>
          again (.compLoop (twoComp elt t1 i1 t2 i2 scope pos) 0 it acc env)) := by rfl
theorem two_turn1 (elt t1 i1 t2 i2 : Expr) (scope : Scope) (pos : Pos) (it acc : Value) (env : Env) :
    compTurn (twoComp elt t1 i1 t2 i2 scope pos) 1 it acc env = (standAt i2.pos >>= fun _ => pyNext it >>= fun r => match r with
      | none => pure (.done .next)
      | some v => letOwnedTupleGo t2 it v >>= fun _ => assign t2 env v >>= fun _ =>
        (eval elt env >>= fun x => call (.builtin "list.append") [acc, x] >>= fun _ => pure ()) >>= fun _ =>
          again (.compLoop (twoComp elt t1 i1 t2 i2 scope pos) 1 it acc env)) := by rfl
section
variable {prog : Program} {w : World} {A : Around} {E : Value → Shared → Prop} {R : Result → Shared → Prop} {s : Shared}
theorem two_loop0 {elt t1 i1 t2 i2 : Expr} {scope : Scope} {pos : Pos} {it acc : Value} {env : Env} (I : Nat → Shared → Prop)
    (turn : ∀ n s, I n s → wpAny (model prog w) A (pyNext it) (fun r s₁ => match r with
      | none => R (.ok .next) s₁
      | some v => wpAny (model prog w) A (assign t1 env v) (fun _ s₂ => wpAny (model prog w) A (eval i2 env) (fun x s₃ => wpAny (model prog w) A (pyIter x) (fun it' s₄ =>
          codeAny (model prog w) A (.compStart (twoComp elt t1 i1 t2 i2 scope pos) 1 it' acc env) (fun r s₅ => match r with | .ok _ => ∃ m, m < n ∧ I m s₅ | .error e => cameBackBy (model prog w) A env (notedBy (model prog w) A env fun e s' => R (.error e) s') e s₅) s₄)
          (notedBy (model prog w) A env fun e s' => R (.error e) s') s₃) (notedBy (model prog w) A env fun e s' => R (.error e) s') s₂) (notedBy (model prog w) A env fun e s' => R (.error e) s') s₁) (notedBy (model prog w) A env fun e s' => R (.error e) s') s)
    (n : Nat) (h : I n s) (ht : ∀ v, letOwnedTupleGo t1 it v = pure () := by intro _; rfl) (hs : ∀ x, foldedSetIterable i2 env x = pure x := by intro _; rfl) :
    codeAny (model prog w) A (.compLoop (twoComp elt t1 i1 t2 i2 scope pos) 0 it acc env) R s := by
  refine codeAny_loop rfl I (fun n s hI => ?_) n h
  show wpAny _ _ ((compTurn (twoComp elt t1 i1 t2 i2 scope pos) 0 it acc env).onRaise (fun x => do noteFrame x env; theTreesLotGoes x)) _ _ s
  refine wpAny_noted ?_
  rw [two_turn0]
  refine wpAny_bind (wpAny_standAt (wpAny_bind (wpAny_mono (turn n s hI) (fun r s₁ h₁ => ?_) fun _ _ h' => h')))
  cases r with
  | none => exact wpAny_pure h₁
  | some v =>
    refine wpAny_bind (wpAny_of_eq (ht v) ?_)
    refine wpAny_bind (wpAny_mono h₁ (fun _ s₂ h₂ => wpAny_bind (wpAny_mono h₂ (fun x s₃ h₃ => ?_) fun _ _ h' => h')) fun _ _ h' => h')
    refine wpAny_bind (wpAny_standAt (wpAny_bind (wpAny_of_eq (hs x) (wpAny_bind (wpAny_holding (wpAny_mono h₃ (fun it' s₄ h₄ => ?_) fun _ _ h' => h'))))))
    refine wpAny_bind (wpAny_runOwn (codeAny_mono h₄ fun r s₅ hr => ?_))
    cases r with
    | ok f => exact wpAny_pure ⟨rfl, hr⟩
    | error e => exact hr
theorem two_loop1 {elt t1 i1 t2 i2 : Expr} {scope : Scope} {pos : Pos} {it acc : Value} {env : Env} (I : Nat → Shared → Prop)
    (turn : ∀ n s, I n s → wpAny (model prog w) A (pyNext it) (fun r s₁ => match r with
      | none => R (.ok .next) s₁
      | some v => wpAny (model prog w) A (assign t2 env v) (fun _ s₂ => wpAny (model prog w) A (eval elt env) (fun x s₃ =>
          wpAny (model prog w) A (call (.builtin "list.append") [acc, x]) (fun _ s₄ => ∃ m, m < n ∧ I m s₄) (notedBy (model prog w) A env fun e s' => R (.error e) s') s₃)
          (notedBy (model prog w) A env fun e s' => R (.error e) s') s₂) (notedBy (model prog w) A env fun e s' => R (.error e) s') s₁) (notedBy (model prog w) A env fun e s' => R (.error e) s') s)
    (n : Nat) (h : I n s) (ht : ∀ v, letOwnedTupleGo t2 it v = pure () := by intro _; rfl) :
    codeAny (model prog w) A (.compLoop (twoComp elt t1 i1 t2 i2 scope pos) 1 it acc env) R s := by
  refine codeAny_loop rfl I (fun n s hI => ?_) n h
  show wpAny _ _ ((compTurn (twoComp elt t1 i1 t2 i2 scope pos) 1 it acc env).onRaise (fun x => do noteFrame x env; theTreesLotGoes x)) _ _ s
  refine wpAny_noted ?_
  rw [two_turn1]
  refine wpAny_bind (wpAny_standAt (wpAny_bind (wpAny_mono (turn n s hI) (fun r s₁ h₁ => ?_) fun _ _ h' => h')))
  cases r with
  | none => exact wpAny_pure h₁
  | some v =>
    refine wpAny_bind (wpAny_of_eq (ht v) ?_)
    exact wpAny_bind (wpAny_mono h₁ (fun _ s₂ h₂ => wpAny_bind (wpAny_bind (wpAny_mono h₂ (fun x s₃ h₃ => wpAny_bind (wpAny_mono h₃
      (fun _ s₄ h₄ => wpAny_pure (wpAny_pure ⟨rfl, h₄⟩)) fun _ _ h' => h')) fun _ _ h' => h'))) fun _ _ h' => h')
theorem two_start1 {elt t1 i1 t2 i2 : Expr} {scope : Scope} {pos : Pos} {it acc : Value} {env : Env}
    (h0 : codeAny (model prog w) A (.compLoop (twoComp elt t1 i1 t2 i2 scope pos) 1 it acc env) R s)
    (h : wpAny (model prog w) A (pyIter it) (fun it' s' => codeAny (model prog w) A (.compLoop (twoComp elt t1 i1 t2 i2 scope pos) 1 it' acc env) R s')
      (notedBy (model prog w) A env fun x s' => R (.error x) s') s) :
    codeAny (model prog w) A (.compStart (twoComp elt t1 i1 t2 i2 scope pos) 1 it acc env) R s := by
  refine codeAny_of_tree ?_
  show wpAny _ _ ((compStart (twoComp elt t1 i1 t2 i2 scope pos) 1 it acc env).onRaise (fun x => do noteFrame x env; standAt theWindowsPlace)) _ _ s
  refine wpAny_notedAt ?_
  unfold compStart
  show wpAny _ _ (ask >>= _) _ _ s
  refine wpAny_bind (wpAny_askSetting (wpAny_ite ?_))
  split
  · first
      | exact wpAny_bind (wpAny_pure (wpAny_pure (And.intro rfl h0)))
      | exact wpAny_pure (And.intro rfl h0)
  · first
      | exact wpAny_bind (wpAny_rule (wpAny_bind (wpAny_standAt (wpAny_bind (wpAny_mono h (fun it' s' h' => wpAny_pure (And.intro rfl h')) fun _ _ x => x)))))
      | (refine wpAny_bind (wpAny_rule ?_); show wpAny _ _ (standAt i2.pos >>= _) _ _ s; exact wpAny_bind (wpAny_standAt (wpAny_bind (wpAny_mono h (fun it' s' h' => wpAny_pure (And.intro rfl h')) fun _ _ x => x))))
end
end Mine
end T_H7
section T_H8
open PySem PySem.W PyProof.Rows PySem.Calls PySem.Spec
set_option maxRecDepth 100000
namespace Mine
theorem reset_H8 : True := by
  w_top off
  trivial
open LCg in
theorem two_inner {prog : Program} {w : World} {A : Around} {R : Result → Shared → Prop} {s₀ : Shared} {h₀ h : Heap} {tk : Nat} {L C I1 I2 D : Addr} {m m₁ : Str → Option Value} {oI1 : Obj} {v : Value} {x1 x2 : Str} {p2 : Pos} {elt t1 i1 i2 : Expr} {scope : Scope} {cl : List (Str × Addr)} {pos : Pos} {env : Env} {news : List (Addr × Obj)} {n2 : Nat} {g : Nat → Int} {base : List Int} {ys : List Value}
    (hh : A.handled = none) (hkind : scope.kind = .function) (hx2 : scope.names.lookup x2 = some .local) (hne : x1 ≠ x2)
    (elem : ∀ (j : Nat) t oC oI2 ys h tk m₂ (E' : Value → Shared → Prop), j < n2 → NsObj oC m₂ → m₂ x1 = some v → m₂ x2 = some (.int (j : Int) t) → Fr h₀ L h m → News h₀ L h ((I2, oI2) :: (C, oC) :: (D, lst ys) :: (I1, oI1) :: news) →
      wpAny (model prog w) A (eval elt (compEnvC scope cl C env)) (CompEnd h₀ L m { s₀ with heap := h, toks := tk } I2 oI2 C oC D (lst ys) (fun _ => True) (fun y news' => KCfEl ((I1, oI1) :: news) (g j) y news')) E' { s₀ with heap := h, toks := tk })
    (hI0 : h₀.get? I2 = none) (hLI : L ≠ I2) (hCL : C ≠ L) (hDL : D ≠ L) (hC0 : h₀.get? C = none) (hD0 : h₀.get? D = none) (hIC : I2 ≠ C) (hID : I2 ≠ D) (hCD : C ≠ D) (off : Off3 I2 C D ((I1, oI1) :: news)) (hsz : base.length + n2 ≤ sizeLine)
    (hit : IsRangeIter h I2 ((0 : Int) + (0 : Nat) * 1) ((n2 : Int) - (0 : Nat)) 1) (F : Fr h₀ L h m) (hn : h.Ns C m₁) (hv : m₁ x1 = some v) (N : News h₀ L h ((D, lst ys) :: (I1, oI1) :: news)) (hi : IntsAre ys base)
    (hR : ∀ h' tk' m' ys', Fr h₀ L h' m → h'.Ns C m' → m' x1 = some v → News h₀ L h' ((D, lst ys') :: (I1, oI1) :: news) → IntsAre ys' (base ++ (List.range n2).map g) → R (.ok .next) { s₀ with heap := h', toks := tk' }) :
    codeAny (model prog w) A (.compStart (twoComp elt t1 i1 (.Name x2 p2) i2 scope pos) 1 (.ref I2) (.ref D) (compEnvC scope cl C env)) R { s₀ with heap := h, toks := tk } := by
  have W := range_walks (prog := prog) (w := w) (I := I2) hh 0 n2
  have off3 := off.mem
  have loop : codeAny (model prog w) A (.compLoop (twoComp elt t1 i1 (.Name x2 p2) i2 scope pos) 1 (.ref I2) (.ref D) (compEnvC scope cl C env)) R { s₀ with heap := h, toks := tk } := by
    refine two_loop1 (fun k s' => ∃ h' tk j ys' m', s' = { s₀ with heap := h', toks := tk } ∧ j ≤ n2 ∧ k = n2 + 1 - j ∧ IsRangeIter h' I2 ((0 : Int) + (j : Nat) * 1) ((n2 : Int) - (j : Nat)) 1 ∧ Fr h₀ L h' m ∧ h'.Ns C m' ∧ m' x1 = some v ∧
        News h₀ L h' ((D, lst ys') :: (I1, oI1) :: news) ∧ IntsAre ys' (base ++ (List.range j).map g)) ?_ (n2 + 1)
      ⟨h, tk, 0, ys, m₁, rfl, Nat.zero_le _, rfl, hit, F, hn, hv, N, by simpa using hi⟩
    rintro k s' ⟨h', tk, j, ys', m', rfl, hj, rfl, hst', F', hn', hv', N', hi'⟩
    by_cases hlt : j < n2
    · refine W.item j _ _ _ hlt hst' fun v2 h₂ tk₂ hPv hst₂ hk₂ => ?_
      obtain ⟨t, rfl⟩ := hPv
      refine wpAny_assign_Name (wpAny_storeName_local (lookup_relabel_local hx2) (hn'.at' fun o e => hk₂ _ o (by simpa using Ne.symm hIC) e) (fun h₃ hn₃ hs₃ => ?_) (by simp [compEnvC, relabel, hkind]))
      replace hs₃ : Heap.SameBut C h₂ h₃ := hs₃
      have F₃ : Fr h₀ L h₃ m := (fr_but F' hk₂ hLI hI0).change hs₃ hCL hC0
      have N₂ : News h₀ L h₂ ((D, lst ys') :: (I1, oI1) :: news) := news_but N' hk₂ fun p hp => by
        rcases List.mem_cons.mp hp with rfl | hp
        · exact Ne.symm hID
        · exact (off3 p hp).1
      obtain ⟨oC, heC, hoC⟩ := ns_obj hn₃
      have heI : ∃ oI, h₃.get? I2 = some oI := ⟨_, hs₃.extBut I2 _ hIC hst₂⟩
      obtain ⟨oI, heI⟩ := heI
      have N₃ : News h₀ L h₃ ((I2, oI) :: (C, oC) :: (D, lst ys') :: (I1, oI1) :: news) := fun p hp => by
        rcases List.mem_cons.mp hp with rfl | hp
        · exact ⟨heI, Ne.symm hLI, hI0⟩
        · rcases List.mem_cons.mp hp with rfl | hp
          · exact ⟨heC, hCL, hC0⟩
          · have z := N₂ p hp
            refine ⟨hs₃.extBut _ _ ?_ z.1, z.2⟩
            rcases List.mem_cons.mp hp with rfl | hp
            · exact Ne.symm hCD
            · exact (off3 p hp).2.1
      have e0 : (0 : Int) + (j : Int) = (j : Int) := by omega
      refine wpAny_mono (elem j t oC oI ys' h₃ _ _ _ hlt hoC (by rw [if_neg hne]; exact hv') (by rw [if_pos rfl, e0]) F₃ N₃) (fun y s₄ h₄ => ?_) fun _ _ e => e
      obtain ⟨h₄, tk₄, news₄, rfl, F₄, N₄, off₄, hS₄, hnw, t', rfl⟩ := h₄
      subst hnw
      have zI := (N₄ (I2, oI) List.mem_cons_self).1
      have zC := (N₄ (C, oC) (List.mem_cons_of_mem _ List.mem_cons_self)).1
      have zD := (N₄ (D, lst ys') (List.mem_cons_of_mem _ (List.mem_cons_of_mem _ List.mem_cons_self))).1
      have hst₄ : IsRangeIter h₄ I2 ((0 : Int) + ((j + 1 : Nat) : Nat) * 1) ((n2 : Int) - ((j + 1 : Nat) : Nat)) 1 := by
        have q := hs₃.extBut I2 _ hIC hst₂
        rw [heI] at q
        exact zI.trans q
      have hlen : ys'.length ≤ sizeLine := by
        have := hi'.length
        rw [this, List.length_append, List.length_map, List.length_range]; omega
      refine append_at (hsz := by rw [List.size_toArray]; exact hlen) zD fun h₅ hs₅ hD₅ => ?_
      refine ⟨n2 + 1 - (j + 1), by omega, h₅, tk₄, j + 1, ys' ++ [.int (g j) t'], _, rfl, hlt, rfl, hs₅.extBut I2 _ hID hst₄, F₄.change hs₅ hDL hD0, (hoC.ns zC).sameBut hs₅ hCD, by rw [if_neg hne]; exact hv', fun p hp => ?_, ?_⟩
      · rcases List.mem_cons.mp hp with rfl | hp
        · exact ⟨hD₅.trans (congrArg some (lst_snoc ys' _)), hDL, hD0⟩
        · have z := N₄ p (List.mem_cons_of_mem _ (List.mem_cons_of_mem _ (List.mem_cons_of_mem _ hp)))
          exact ⟨hs₅.extBut _ _ (off3 p hp).2.2 z.1, z.2⟩
      · rw [List.range_succ, List.map_append, ← List.append_assoc]
        exact IntsAre.append hi' (.cons _ _ .nil)
    · obtain rfl : j = n2 := Nat.le_antisymm hj (Nat.not_lt.mp hlt)
      refine W.done _ _ _ hst' fun h₂ tk₂ hk₂ => ?_
      exact hR h₂ tk₂ m' ys' (fr_but F' hk₂ hLI hI0) (hn'.at' fun o e => hk₂ _ o (by simpa using Ne.symm hIC) e) hv' (news_but N' hk₂ fun p hp => by
          rcases List.mem_cons.mp hp with rfl | hp
          · exact Ne.symm hID
          · exact (off3 p hp).1) hi'
  exact two_start1 loop (W.self 0 _ _ _ hit loop)
end Mine
end T_H8
section T_H9
open PySem PySem.W PyProof.Rows PySem.Calls PySem.Spec
set_option maxRecDepth 100000
namespace Mine
theorem reset_H9 : True := by
  w_top off
  trivial
def RangeAt (h₀ : Heap) (L : Addr) (m : Str → Option Value) (s₁ : Shared) (all : List (Addr × Obj)) (n : Nat) (xv : Value) (s' : Shared) : Prop :=
  ∃ (r : Addr) (t u v : Tok) (h' : Heap) (tk' : Nat), xv = .ref r ∧ s' = { s₁ with heap := h', toks := tk' } ∧ Fr h₀ L h' m ∧ News h₀ L h' all ∧ IsRange h' r 0 (n : Int) 1 t u v
theorem RangeAt.mk {h₀ : Heap} {L : Addr} {m : Str → Option Value} {s₁ : Shared} {all : List (Addr × Obj)} {n : Nat} {r : Addr} {t u v : Tok} {h' : Heap} {tk' : Nat} (hr : IsRange h' r 0 (n : Int) 1 t u v) (F : Fr h₀ L h' m) (N : News h₀ L h' all) :
    RangeAt h₀ L m s₁ all n (.ref r) { s₁ with heap := h', toks := tk' } := ⟨r, t, u, v, h', tk', rfl, rfl, F, N, hr⟩
def flat2 (g : Nat → Nat → Int) (n2 n1 : Nat) : List Int := (List.range n1).flatMap fun i => (List.range n2).map (g i)
theorem flat2_succ (g : Nat → Nat → Int) (n2 n1 : Nat) : flat2 g n2 (n1 + 1) = flat2 g n2 n1 ++ (List.range n2).map (g n1) := by
  unfold flat2; rw [List.range_succ, List.flatMap_append]; simp
theorem flat2_len (g : Nat → Nat → Int) (n2 n1 : Nat) : (flat2 g n2 n1).length = n1 * n2 := by
  induction n1 with
  | zero => simp [flat2]
  | succ k ih => rw [flat2_succ, List.length_append, ih, List.length_map, List.length_range, Nat.succ_mul]
/-- what the two clauses and the element are to show -/
structure TwoTurns (prog : Program) (w : World) (A : Around) (h₀ : Heap) (L : Addr) (m : Str → Option Value) (env : Env) (elt i2 : Expr) (x1 x2 : Str) (scope : Scope) (cl : List (Str × Addr)) (Fin : List Value → List (Addr × Obj) → Prop) (s₀ : Shared) (n1 n2 : Nat) (P1 : Nat → Value → Prop) (g : Nat → Nat → Int) (news : List (Addr × Obj)) : Prop where
  iter : ∀ (i : Nat) v C oC D I1 oI ys h tk m₂ (E' : Value → Shared → Prop), i < n1 → P1 i v → LCg.NsObj oC m₂ → m₂ x1 = some v → Fr h₀ L h m → News h₀ L h ((I1, oI) :: (C, oC) :: (D, LCg.lst ys) :: news) →
    wpAny (model prog w) A (eval i2 (compEnvC scope cl C env)) (RangeAt h₀ L m { s₀ with heap := h, toks := tk } ((I1, oI) :: (C, oC) :: (D, LCg.lst ys) :: news) n2) E' { s₀ with heap := h, toks := tk }
  elem : ∀ (i : Nat) v C D I1 I2 oI1, i < n1 → P1 i v → ∀ (j : Nat) t oC oI2 ys h tk m₂ (E' : Value → Shared → Prop), j < n2 → LCg.NsObj oC m₂ → m₂ x1 = some v → m₂ x2 = some (.int (j : Int) t) → Fr h₀ L h m → News h₀ L h ((I2, oI2) :: (C, oC) :: (D, LCg.lst ys) :: (I1, oI1) :: news) →
    LCg.Off3 I2 C D ((I1, oI1) :: news) →
      wpAny (model prog w) A (eval elt (compEnvC scope cl C env)) (LCg.CompEnd h₀ L m { s₀ with heap := h, toks := tk } I2 oI2 C oC D (LCg.lst ys) (fun _ => True) (fun y news' => KCfEl ((I1, oI1) :: news) (g i j) y news')) E' { s₀ with heap := h, toks := tk }
  fin : ∀ ys, IntsAre ys (flat2 g n2 n1) → Fin ys news
open LCg in
theorem two_block {prog : Program} {w : World} {A : Around} {E : Value → Shared → Prop} {h₀ : Heap} {L I : Addr} {m : Str → Option Value} {env : Env} {elt i1 i2 : Expr} {x1 x2 : Str} {p1 p2 : Pos} {scope : Scope} {cl : List (Str × Addr)} {pos : Pos} {s₂ : Shared} {n1 n2 : Nat} {P : Nat → Value → Prop} {St : Nat → Heap → Prop} {news : List (Addr × Obj)}
    {Fin : List Value → List (Addr × Obj) → Prop} {RR : Value → Addr → Result → Shared → Prop} {g : Nat → Nat → Int} (hh : A.handled = none)
    (W : Walks prog w A I [I] [I] n1 P St) (hsz : n1 * n2 ≤ 1000000) (hn2 : n2 ≤ 1000) (hIo : ∀ i h, St i h → ∃ o, h.get? I = some o)
    (hSt : ∀ i h h' o, St i h → h.get? I = some o → h'.get? I = some o → St i h')
    (hcell : ∀ y ∈ scope.names, y.2 ≠ .cell) (hkind : scope.kind = .function) (hx1 : scope.names.lookup x1 = some .local) (hx2 : scope.names.lookup x2 = some .local) (hne : x1 ≠ x2) (hst : St 0 s₂.heap) (hIlt : I < s₂.heap.objs.size)
    (F : Fr h₀ L s₂.heap m) (N : News h₀ L s₂.heap news) (hIL : L ≠ I) (hI₀ : h₀.get? I = none) (off : ∀ p ∈ news, p.1 ≠ I)
    (T : TwoTurns prog w A h₀ L m env elt i2 x1 x2 scope cl Fin s₂ n1 n2 P g news)
    (hs2 : ∀ env' x, foldedSetIterable i2 env' x = pure x)
    (hRR : ∀ D C h tk m' ys news', Fr h₀ L h m → News h₀ L h ((D, lst ys) :: news') → (∀ p ∈ news', p.1 < D) → h.Ns C m' → h₀.get? C = none → h₀.get? D = none → C ≠ L → D ≠ L → C ≠ D → (∀ p ∈ news', p.1 ≠ C) → Fin ys news' → RR (.ref D) C (.ok .next) { s₂ with heap := h, toks := tk }) :
    wpAny (model prog w) A (newList []) (fun acc s₃ => wpAny (model prog w) A (newFunctionEnv scope env.globals cl [] env.qual none .none (some env)) (fun cenv s₄ =>
      codeAny (model prog w) A (.compStart (twoComp elt (.Name x1 p1) i1 (.Name x2 p2) i2 scope pos) 0 (.ref I) acc { cenv with scope := relabel scope env }) (RR acc cenv.locals) s₄) E s₃) E s₂ := by
  refine wpAny_newObj_type (wpAny_newFunctionEnv hcell (by intro y hy; simp at hy) (fun h₁ hns₁ hsb₁ => ?_) hkind)
  dsimp only at hns₁ hsb₁ ⊢
  generalize hH2 : s₂.heap.push { cls := .type "list", dict := none, data := .seq ([] : List Value).toArray } = H2 at hns₁ hsb₁ ⊢
  have hC : H2.objs.size = s₂.heap.objs.size + 1 := by rw [← hH2, Heap.size_push]
  have hDC : s₂.heap.objs.size ≠ H2.objs.size := by rw [hC]; exact Nat.ne_of_lt (Nat.lt_succ_self _)
  have below : ∀ b, b < s₂.heap.objs.size → b ≠ H2.objs.size ∧ b ≠ s₂.heap.objs.size := fun b hb => ⟨by rw [hC]; exact Nat.ne_of_lt (Nat.lt_succ_of_lt hb), Nat.ne_of_lt hb⟩
  have old : ∀ b o, s₂.heap.get? b = some o → h₁.get? b = some o := fun b o e => hsb₁.extBut b o (below b (Heap.lt_size e)).1 (Heap.get?_push_of_some _ (hH2 ▸ Heap.get?_push_of_some _ e))
  have hacc : h₁.get? s₂.heap.objs.size = some (lst []) := hsb₁.extBut _ _ hDC (Heap.get?_push_of_some _ (hH2 ▸ Heap.get?_push_size _ rfl))
  have hst₁ : St 0 h₁ := W.frame _ _ _ hst fun b _ o e => old b o e
  have fresh : ∀ a, s₂.heap.objs.size ≤ a → s₂.heap.get? a = none := fun a ha => by
    cases e : s₂.heap.get? a with
    | none => rfl
    | some o' => exact absurd (Heap.lt_size e) (Nat.not_lt.mpr ha)
  have fresh₀ : ∀ a, s₂.heap.objs.size ≤ a → h₀.get? a = none := fun a ha => by
    cases e : h₀.get? a with
    | none => rfl
    | some o' => have := F.keep a o' e; rw [fresh a ha] at this; cases this
  have hD₀ : h₀.get? s₂.heap.objs.size = none := fresh₀ _ (Nat.le_refl _)
  have hC₀ : h₀.get? H2.objs.size = none := fresh₀ _ (by rw [hC]; exact Nat.le_succ _)
  have hLlt : L < s₂.heap.objs.size := F.ns.lt
  have hDL : s₂.heap.objs.size ≠ L := Ne.symm (below L hLlt).2
  have hCL : H2.objs.size ≠ L := Ne.symm (below L hLlt).1
  have hCI : I ≠ H2.objs.size := (below I hIlt).1
  have hDI : I ≠ s₂.heap.objs.size := (below I hIlt).2
  have offn : ∀ p ∈ news, p.1 ≠ H2.objs.size ∧ p.1 ≠ s₂.heap.objs.size := fun p hp => ⟨(below _ (Heap.lt_size (N p hp).1)).1, (below _ (Heap.lt_size (N p hp).1)).2⟩
  have loop : ∀ s₃ : Shared, s₃ = { s₂ with heap := h₁, toks := s₂.toks + ([] : List (Str × Value)).length } →
      codeAny (model prog w) A (.compLoop (twoComp elt (.Name x1 p1) i1 (.Name x2 p2) i2 scope pos) 0 (.ref I) (.ref s₂.heap.objs.size) (compEnvC scope cl H2.objs.size env))
        (RR (.ref s₂.heap.objs.size) H2.objs.size) s₃ := by
    rintro s₃ rfl
    refine two_loop0
      (fun k s' => ∃ h' tk i ys m', s' = { s₂ with heap := h', toks := tk } ∧ i ≤ n1 ∧ k = n1 + 1 - i ∧ St i h' ∧ Fr h₀ L h' m ∧ h'.Ns H2.objs.size m' ∧ News h₀ L h' ((s₂.heap.objs.size, lst ys) :: news) ∧ IntsAre ys (flat2 g n2 i)) ?_ (n1 + 1)
      ⟨h₁, _, 0, [], _, rfl, Nat.zero_le _, rfl, hst₁, F.keeps old, hns₁, fun p hp => ?_, .nil⟩ (hs := hs2 _)
    · rintro k s' ⟨h', tk, i, ys, m', rfl, hi, rfl, hst', F', hn', N', hI'⟩
      by_cases hlt : i < n1
      · refine W.item i _ _ _ hlt hst' fun v h₂ tk₂ hPv hst₂ hk₂ => ?_
        refine wpAny_assign_Name (wpAny_storeName_local (lookup_relabel_local hx1) (hn'.at' fun o e => hk₂ _ o (by simpa using Ne.symm hCI) e) (fun h₃ hn₃ hs₃ => ?_) (by simp [compEnvC, relabel, hkind]))
        replace hs₃ : Heap.SameBut H2.objs.size h₂ h₃ := hs₃
        obtain ⟨oI, heI2⟩ := hIo _ _ hst₂
        have heI : h₃.get? I = some oI := hs₃.extBut I _ hCI heI2
        obtain ⟨oC, heC, hoC⟩ := ns_obj hn₃
        have F₃ : Fr h₀ L h₃ m := (fr_but F' hk₂ hIL hI₀).change hs₃ hCL hC₀
        have N₂ : News h₀ L h₂ ((s₂.heap.objs.size, lst ys) :: news) := news_but N' hk₂ fun p hp => by
          rcases List.mem_cons.mp hp with rfl | hp
          · exact Ne.symm hDI
          · exact off p hp
        have N₃ : News h₀ L h₃ ((I, oI) :: (H2.objs.size, oC) :: (s₂.heap.objs.size, lst ys) :: news) := fun p hp => by
          rcases List.mem_cons.mp hp with rfl | hp
          · exact ⟨heI, Ne.symm hIL, hI₀⟩
          · rcases List.mem_cons.mp hp with rfl | hp
            · exact ⟨heC, hCL, hC₀⟩
            · have z := N₂ p hp
              refine ⟨hs₃.extBut _ _ ?_ z.1, z.2⟩
              rcases List.mem_cons.mp hp with rfl | hp
              · exact hDC
              · exact (offn p hp).1
        refine wpAny_mono (T.iter i v H2.objs.size oC s₂.heap.objs.size I oI ys h₃ _ _ _ hlt hPv hoC (by simp) F₃ N₃) (fun y s₄ h₄ => ?_) fun _ _ e => e
        obtain ⟨r, t, u, v', h₄, tk₄, rfl, rfl, F₄, N₄, hr⟩ := h₄
        have hrs : Builtin.Range.rangeSize 0 (n2 : Int) 1 = (n2 : Int) := by
          have := rangeSize_nat 0 (n2 : Int); simpa using this
        refine wpAny_pyIter_range hr (small_one (by omega) (by omega) (by omega) (by omega)) ?_
        have lt4 : ∀ b o, h₄.get? b = some o → b < h₄.objs.size := fun b o e => Heap.lt_size e
        have zI := lt4 _ _ (N₄ (I, oI) List.mem_cons_self).1
        have zC := lt4 _ _ (N₄ (H2.objs.size, oC) (List.mem_cons_of_mem _ List.mem_cons_self)).1
        have zD := lt4 _ _ (N₄ (s₂.heap.objs.size, lst ys) (List.mem_cons_of_mem _ (List.mem_cons_of_mem _ List.mem_cons_self))).1
        have zN : ∀ p ∈ news, p.1 < h₄.objs.size := fun p hp => lt4 _ _ (N₄ p (List.mem_cons_of_mem _ (List.mem_cons_of_mem _ (List.mem_cons_of_mem _ hp)))).1
        have hI20 : h₀.get? h₄.objs.size = none := by
          cases q : h₀.get? h₄.objs.size with
          | none => rfl
          | some o' => exact absurd (Heap.lt_size (F₄.keep _ o' q)) (Nat.lt_irrefl _)
        have o3 : Off3 h₄.objs.size H2.objs.size s₂.heap.objs.size ((I, oI) :: news) := Off3.of fun p hp => by
          rcases List.mem_cons.mp hp with rfl | hp
          · exact ⟨Nat.ne_of_lt zI, hCI, hDI⟩
          · exact ⟨Nat.ne_of_lt (zN p hp), (offn p hp).1, (offn p hp).2⟩
        have up : ∀ b o, h₄.get? b = some o → (h₄.push { cls := .type "range_iterator", data := .fields #[rawInt 0, rawInt (Builtin.Range.rangeSize 0 (n2 : Int) 1), rawInt 1] }).get? b = some o := fun b o e => Heap.get?_push_of_some _ e
        refine two_inner (s₀ := s₂) (v := v) (x1 := x1) (I1 := I) (oI1 := oI) (base := flat2 g n2 i) (g := g i) (n2 := n2) (L := L) (h₀ := h₀) (news := news) (m := m) hh hkind hx2 hne
          (fun j t oC' oI2 ys' h' tk' m₂ E' hj hoC' hv1 hv2 F' N' => T.elem i v H2.objs.size s₂.heap.objs.size I h₄.objs.size oI hlt hPv j t oC' oI2 ys' h' tk' m₂ E' hj hoC' hv1 hv2 F' N' o3)
          hI20 (Nat.ne_of_lt F₄.ns.lt) hCL hDL hC₀ hD₀ (Nat.ne_of_gt zC) (Nat.ne_of_gt zD) (Ne.symm hDC) o3 ?_ ?_ (F₄.keeps up) ((hoC.ns (N₄ (H2.objs.size, oC) (List.mem_cons_of_mem _ List.mem_cons_self)).1).at' fun o e => up _ o e) (by simp) (fun p hp => ?_) hI' (fun h' tk' m'' ys' F' hn'' hv' N'' hi' => ?_)
        · rw [flat2_len, sizeLine_eq]
          have : i * n2 ≤ n1 * n2 := Nat.mul_le_mul_right _ hi
          omega
        · show IsRangeIter _ _ _ _ _
          have q : (h₄.push { cls := .type "range_iterator", data := .fields #[rawInt 0, rawInt (Builtin.Range.rangeSize 0 (n2 : Int) 1), rawInt 1] }).get? h₄.objs.size = some { cls := .type "range_iterator", data := .fields #[rawInt 0, rawInt (Builtin.Range.rangeSize 0 (n2 : Int) 1), rawInt 1] } := Heap.get?_push_size _ rfl
          rw [hrs] at q ⊢
          simpa using q
        · rcases List.mem_cons.mp hp with rfl | hp
          · have z := N₄ (s₂.heap.objs.size, lst ys) (List.mem_cons_of_mem _ (List.mem_cons_of_mem _ List.mem_cons_self))
            exact ⟨up _ _ z.1, z.2⟩
          · rcases List.mem_cons.mp hp with rfl | hp
            · have z := N₄ (I, oI) List.mem_cons_self
              exact ⟨up _ _ z.1, z.2⟩
            · have z := N₄ p (List.mem_cons_of_mem _ (List.mem_cons_of_mem _ (List.mem_cons_of_mem _ hp)))
              exact ⟨up _ _ z.1, z.2⟩
        · refine ⟨n1 + 1 - (i + 1), by omega, h', tk', i + 1, ys', m'', rfl, hlt, rfl, hSt _ _ _ oI hst₂ heI2 (N'' (I, oI) (List.mem_cons_of_mem _ List.mem_cons_self)).1, F', hn'', fun p hp => ?_, by rw [flat2_succ]; exact hi'⟩
          rcases List.mem_cons.mp hp with rfl | hp
          · exact N'' _ List.mem_cons_self
          · exact N'' p (List.mem_cons_of_mem _ (List.mem_cons_of_mem _ hp))
      · obtain rfl : i = n1 := Nat.le_antisymm hi (Nat.not_lt.mp hlt)
        refine W.done _ _ _ hst' fun h₂ tk₂ hk₂ => ?_
        exact hRR _ _ h₂ tk₂ _ ys news (fr_but F' hk₂ hIL hI₀) (news_but N' hk₂ fun p hp => by
          rcases List.mem_cons.mp hp with rfl | hp
          · exact Ne.symm hDI
          · exact off p hp) (fun p hp => Heap.lt_size (N p hp).1) (hn'.at' fun o e => hk₂ _ o (by simpa using Ne.symm hCI) e) hC₀ hD₀ hCL hDL (Ne.symm hDC) (fun p hp => (offn p hp).1) (T.fin ys hI')
    · rcases List.mem_cons.mp hp with rfl | hp
      · exact ⟨hacc, hDL, hD₀⟩
      · exact ⟨old _ _ (N p hp).1, (N p hp).2⟩
  exact codeAny_compStart_list (loop _ rfl) (W.self 0 _ _ _ hst₁ (loop _ rfl))
def FinLt (h₀ : Heap) (L : Addr) (m : Str → Option Value) (s : Shared) (Q : Value → Shared → Prop) (ys : List Value) (news : List (Addr × Obj)) : Prop :=
  ∀ D h tk, Fr h₀ L h m → News h₀ L h ((D, LCg.lst ys) :: news) → (∀ p ∈ news, p.1 < D) → Q (.ref D) { s with heap := h, toks := tk }
def SrcTwo (prog : Program) (w : World) (A : Around) (h₀ : Heap) (L : Addr) (m : Str → Option Value) (env : Env) (elt i2 : Expr) (x1 x2 : Str) (scope : Scope) (cl : List (Str × Addr)) (Fin : Shared → List Value → List (Addr × Obj) → Prop) (xv : Value) (s₁ : Shared) : Prop :=
  ∃ oI n1 n2 P St news g, IterW prog w xv oI n1 P St s₁ ∧ Fr h₀ L s₁.heap m ∧ News h₀ L s₁.heap news ∧ n1 * n2 ≤ 1000000 ∧ n2 ≤ 1000 ∧
      ∀ s₂ : Shared, (∃ h, s₂ = { s₁ with heap := h }) → TwoTurns prog w A h₀ L m env elt i2 x1 x2 scope cl (Fin s₂) s₂ n1 n2 P g news
section
variable {prog : Program} {w : World} {A : Around} {E : Value → Shared → Prop} {s : Shared} {h₀ : Heap} {L : Addr} {m : Str → Option Value} {env : Env}
theorem SrcTwo.mk {elt i2 : Expr} {x1 x2 : Str} {scope : Scope} {cl : List (Str × Addr)} {Fin : Shared → List Value → List (Addr × Obj) → Prop} {xv : Value} {s₁ : Shared} {oI : Obj} {n1 n2 : Nat} {P : Nat → Value → Prop} {St : Addr → Nat → Heap → Prop} {news : List (Addr × Obj)} {g : Nat → Nat → Int}
    (F : Fr h₀ L s₁.heap m) (N : News h₀ L s₁.heap news) (W : IterW prog w xv oI n1 P St s₁) (hn : n1 * n2 ≤ 1000000) (hn2 : n2 ≤ 1000)
    (T : ∀ h, TwoTurns prog w A h₀ L m env elt i2 x1 x2 scope cl (Fin { s₁ with heap := h }) { s₁ with heap := h } n1 n2 P g news) : SrcTwo prog w A h₀ L m env elt i2 x1 x2 scope cl Fin xv s₁ :=
  ⟨oI, n1, n2, P, St, news, g, W, F, N, hn, hn2, fun _ ⟨h, e⟩ => e ▸ T h⟩
theorem ListComp_two {elt i1 i2 : Expr} {x1 x2 : Str} {p1 p2 : Pos} {scope : Scope} {cl : List (Str × Addr)} {pos : Pos} {Q : Value → Shared → Prop} (F₀ : Fr h₀ L s.heap m) (hh : A.handled = none)
    (hclos : closureFor scope env = pure cl) (hcell : ∀ y ∈ scope.names, y.2 ≠ .cell) (hkind : scope.kind = .function)
    (hnames : ∀ y ∈ scope.names, y.2 = .local → scope.names.lookup y.1 = some .local) (hx1 : scope.names.lookup x1 = some .local) (hx2 : scope.names.lookup x2 = some .local) (hne : x1 ≠ x2)
    (h : wpAny (model prog w) A (eval i1 env) (SrcTwo prog w A h₀ L m env elt i2 x1 x2 scope cl (fun s₂ => FinLt h₀ L m s₂ Q)) E s)
    (hs : ∀ x, foldedSetIterable i1 env x = pure x := by intro _; rfl) (hs2 : ∀ env' x, foldedSetIterable i2 env' x = pure x := by intro _ _; rfl) :
    wpAny (model prog w) A (eval (.ListComp elt [⟨.Name x1 p1, i1, [], 0⟩, ⟨.Name x2 p2, i2, [], 0⟩] scope pos) env) Q E s := by
  rw [eval_ListComp]
  refine wpAny_comprehension_free (use := none) rfl hs hclos hkind hnames (wpAny_mono h (fun xv s₁ h₁ => ?_) fun _ _ e => e)
  obtain ⟨oI, n1, n2, P, St, news, g, W, F, N, hsz, hn2, T⟩ := h₁
  refine W.it _ _ _ hh ?_
  refine two_block hh (W.walks _ hh) hsz hn2 W.obj W.keep hcell hkind hx1 hx2 hne W.st0 (by show s₁.heap.objs.size < (s₁.heap.push _).objs.size; rw [Heap.size_push]; exact Nat.lt_succ_self _)
      (F.keeps fun _ _ e => Heap.get?_push_of_some _ e) (N.grown fun _ _ e => Heap.get?_push_of_some _ e) (Nat.ne_of_lt F.ns.lt) (next_is_new F) (fun p hp => Nat.ne_of_lt (Heap.lt_size (N p hp).1)) (T _ ⟨_, rfl⟩) hs2 ?_
  intro D C h tk m' ys news' F' N' o1 hn hC₀ hD₀ hCL hDL hCD offC fin
  refine ⟨m', hn, fun h'' hs'' => fin D h'' tk (F'.change hs'' hCL hC₀) (fun p hp => ?_) o1⟩
  refine ⟨hs''.extBut _ _ ?_ (N' p hp).1, (N' p hp).2⟩
  rcases List.mem_cons.mp hp with rfl | hp
  · exact Ne.symm hCD
  · exact offC p hp
end
end Mine
end T_H9
section T_H10
open PySem PySem.W PyProof.Rows PySem.Calls PySem.Spec
set_option maxRecDepth 100000
namespace Mine
theorem reset_H10 : True := by
  w_top off
  trivial
theorem IterW.range {prog : Program} {w : World} {r : Addr} {a b c : Int} {t u v : Tok} {n : Nat} {s₁ : Shared} (hr : IsRange s₁.heap r a b c t u v) (hsm : Builtin.Range.small a b c = true) (hn : Builtin.Range.rangeSize a b c = ((n : Nat) : Int)) :
    IterW prog w (.ref r) { cls := .type "range_iterator", data := .fields #[rawInt a, rawInt (Builtin.Range.rangeSize a b c), rawInt c] } n (fun i v => ∃ t, v = .int (a + i * c) t) (fun I i h => IsRangeIter h I (a + (i : Nat) * c) ((n : Int) - (i : Nat)) c) s₁ where
  it := fun A E Q _ h => wpAny_pyIter_range hr hsm h
  walks := fun A hh => Walks.range hh _ a c n
  st0 := by
    have q : (s₁.heap.push { cls := .type "range_iterator", data := .fields #[rawInt a, rawInt (Builtin.Range.rangeSize a b c), rawInt c] }).get? s₁.heap.objs.size = some { cls := .type "range_iterator", data := .fields #[rawInt a, rawInt (Builtin.Range.rangeSize a b c), rawInt c] } := Heap.get?_push_size _ rfl
    show IsRangeIter _ _ _ _ _
    rw [hn] at q ⊢
    simpa using q
  obj := fun i h st => ⟨_, st⟩
  keep := fun i h h' o st e e' => by
    have st' : h.get? s₁.heap.objs.size = some _ := st
    show h'.get? _ = some _
    rw [e', ← e]; exact st'
theorem lookup_relabel_cell {env : Env} : ∀ {names : List (Str × NameKind)} {x : Str}, names.lookup x = some .cell →
    (names.map fun (n, k) => if (k == NameKind.free && env.scope.kind == .function && env.kindOf n == some .cell) then (n, NameKind.cell) else (n, k)).lookup x = some .cell
  | [], _, h => by simp at h
  | (n, k) :: r, x, h => by
    rw [List.lookup_cons] at h
    simp only [List.map_cons]
    by_cases hx : (x == n) = true
    · rw [hx] at h
      obtain rfl := Option.some.inj h
      rw [ite_self, List.lookup_cons, hx]
    · have hx' : (x == n) = false := by simpa using hx
      rw [hx'] at h
      have ih := lookup_relabel_cell (env := env) h
      split
      · rw [List.lookup_cons, hx']; exact ih
      · rw [List.lookup_cons, hx']; exact ih
section
variable {M : Model} {A : Around} {E : Value → Shared → Prop} {s : Shared}
theorem newEnv_cell {scope : Scope} {globals : Addr} {cl : List (Str × Addr)} {qual : Str} {code : Value} {outer : Env} {x : Str} {Q : Env → Shared → Prop}
    (hcf : ∀ n acc, cellsFrom n scope.names acc = (x, n) :: acc) (hpc : ∀ h, pushCells h scope.names = h.push { cls := .type "cell", data := .cell none })
    (hQ : Q { scope := scope, locals := s.heap.objs.size, globals := globals, cells := (x, s.heap.objs.size + 1) :: cl, qual := qual, func := none, code := outer.code, frame := outer.frame, builtins := outer.builtins }
      { s with heap := (s.heap.push { cls := .type "dict", data := .dict #[] }).push { cls := .type "cell", data := .cell none } }) :
    wpAny M A (newFunctionEnv scope globals cl [] qual none code (some outer)) Q E s := by
  simp only [newFunctionEnv, Option.isSome_some, if_true]
  refine wpAny_bind (wpAny_alloc ?_)
  refine wpAny_bind (wpAny_layCells _ (fun name kind cells => by cases hkc : kind == NameKind.cell <;> simp [hkc]) _ _ _ _ ?_)
  rw [hcf, hpc]
  rw [show ({ s with heap := s.heap.push { cls := .type "dict", data := .dict #[] } } : Shared).heap.objs.size = s.heap.objs.size + 1 from Heap.size_push ..]
  refine wpAny_bind ?_
  rw [List.forIn_nil]
  exact wpAny_pure (wpAny_pure hQ)
end
end Mine
end T_H10
section T_H11
open PySem PySem.W PyProof.Rows PySem.Calls PySem.Spec
set_option maxRecDepth 100000
namespace Mine
/-- the turns of a comprehension whose own name is a cell -/
def CellTurns (prog : Program) (w : World) (A : Around) (h₀ : Heap) (L : Addr) (m : Str → Option Value) (env : Env) (elt : Expr) (x : Str) (scope : Scope) (cl : List (Str × Addr)) (s₂ : Shared) (I : Addr) (n : Nat) (val g : Nat → Int) (news : List (Addr × Obj)) : Prop :=
  ∀ (i : Nat) C K D oI oC oK ys h tk t (E' : Value → Shared → Prop), i < n → oK.data = .cell (some (.int (val i) t)) → Fr h₀ L h m → News h₀ L h ((I, oI) :: (C, oC) :: (D, LCg.lst ys) :: (K, oK) :: news) → LCg.Off3 I C D ((K, oK) :: news) →
    wpAny (model prog w) A (eval elt (compEnvC scope ((x, K) :: cl) C env)) (LCg.CompEnd h₀ L m { s₂ with heap := h, toks := tk } I oI C oC D (LCg.lst ys) (fun _ => True) (fun y news' => KCfEl ((K, oK) :: news) (g i) y news')) E' { s₂ with heap := h, toks := tk }
open LCg in
theorem cell_block {prog : Program} {w : World} {A : Around} {E : Value → Shared → Prop} {h₀ : Heap} {L I : Addr} {m : Str → Option Value} {env : Env} {elt iter : Expr} {x : Str} {px : Pos} {scope : Scope} {cl : List (Str × Addr)} {pos : Pos} {s₂ : Shared} {n : Nat} {P : Nat → Value → Prop} {St : Nat → Heap → Prop} {news : List (Addr × Obj)}
    {Fin : List Value → List (Addr × Obj) → Prop} {RR : Value → Addr → Result → Shared → Prop} {val g : Nat → Int}
    (W : Walks prog w A I [I] [I] n P St) (hP : ∀ i v, P i v → ∃ t, v = .int (val i) t) (hsz : n ≤ 1000000) (hIo : ∀ i h, St i h → ∃ o, h.get? I = some o)
    (hSt : ∀ i h h' o, St i h → h.get? I = some o → h'.get? I = some o → St i h')
    (hcf : ∀ n acc, cellsFrom n scope.names acc = (x, n) :: acc) (hpc : ∀ h, pushCells h scope.names = h.push { cls := .type "cell", data := .cell none })
    (hkind : scope.kind = .function) (hx : scope.names.lookup x = some .cell) (hst : St 0 s₂.heap) (hIlt : I < s₂.heap.objs.size)
    (F : Fr h₀ L s₂.heap m) (N : News h₀ L s₂.heap news) (hIL : L ≠ I) (hI₀ : h₀.get? I = none) (off : ∀ p ∈ news, p.1 ≠ I)
    (T : CellTurns prog w A h₀ L m env elt x scope cl s₂ I n val g news)
    (fin : ∀ ys, IntsAre ys ((List.range n).map g) → Fin ys news)
    (hRR : ∀ D C h tk m' ys, Fr h₀ L h m → News h₀ L h ((D, lst ys) :: news) → (∀ p ∈ news, p.1 < D) → h.Ns C m' → h₀.get? C = none → h₀.get? D = none → C ≠ L → D ≠ L → C ≠ D → (∀ p ∈ news, p.1 ≠ C) → Fin ys news → RR (.ref D) C (.ok .next) { s₂ with heap := h, toks := tk }) :
    wpAny (model prog w) A (newList []) (fun acc s₃ => wpAny (model prog w) A (newFunctionEnv scope env.globals cl [] env.qual none .none (some env)) (fun cenv s₄ =>
      codeAny (model prog w) A (.compStart (.ListComp elt [⟨.Name x px, iter, [], 0⟩] scope pos) 0 (.ref I) acc { cenv with scope := relabel scope env }) (RR acc cenv.locals) s₄) E s₃) E s₂ := by
  refine wpAny_newObj_type (newEnv_cell hcf hpc ?_)
  dsimp only
  generalize hH2 : s₂.heap.push { cls := .type "list", dict := none, data := .seq ([] : List Value).toArray } = H2
  have hC : H2.objs.size = s₂.heap.objs.size + 1 := by rw [← hH2, Heap.size_push]
  have hDC : s₂.heap.objs.size ≠ H2.objs.size := by rw [hC]; exact Nat.ne_of_lt (Nat.lt_succ_self _)
  generalize hH3 : H2.push { cls := .type "dict", data := .dict #[] } = H3
  have hK : H3.objs.size = H2.objs.size + 1 := by rw [← hH3, Heap.size_push]
  rw [← hK]
  generalize hh1 : H3.push { cls := .type "cell", data := .cell none } = h₁
  have below : ∀ b, b < s₂.heap.objs.size → b ≠ H2.objs.size ∧ b ≠ s₂.heap.objs.size ∧ b ≠ H3.objs.size := fun b hb => ⟨by rw [hC]; exact Nat.ne_of_lt (Nat.lt_succ_of_lt hb), Nat.ne_of_lt hb, by rw [hK, hC]; exact Nat.ne_of_lt (Nat.lt_succ_of_lt (Nat.lt_succ_of_lt hb))⟩
  have hKC : H3.objs.size ≠ H2.objs.size := by rw [hK]; exact Nat.ne_of_gt (Nat.lt_succ_self _)
  have hKD : H3.objs.size ≠ s₂.heap.objs.size := by rw [hK, hC]; exact Nat.ne_of_gt (Nat.lt_succ_of_lt (Nat.lt_succ_self _))
  have old : ∀ b o, s₂.heap.get? b = some o → h₁.get? b = some o := fun b o e => by
    rw [← hh1, ← hH3, ← hH2]; exact Heap.get?_push_of_some _ (Heap.get?_push_of_some _ (Heap.get?_push_of_some _ e))
  have hacc : h₁.get? s₂.heap.objs.size = some (lst []) := by
    rw [← hh1, ← hH3, ← hH2]; exact Heap.get?_push_of_some _ (Heap.get?_push_of_some _ (Heap.get?_push_size _ rfl))
  have hns₁ : h₁.Ns H2.objs.size (fun _ => none) := by
    rw [← hh1, ← hH3]; exact (Heap.Ns.new H2 (.type "dict")).keeps fun b o e => Heap.get?_push_of_some _ e
  have hcl₁ : h₁.IsCell H3.objs.size none := by
    rw [← hh1]; exact ⟨_, Heap.get?_push_size _ rfl, rfl⟩
  have hst₁ : St 0 h₁ := W.frame _ _ _ hst fun b _ o e => old b o e
  have fresh : ∀ a, s₂.heap.objs.size ≤ a → s₂.heap.get? a = none := fun a ha => by
    cases e : s₂.heap.get? a with
    | none => rfl
    | some o' => exact absurd (Heap.lt_size e) (Nat.not_lt.mpr ha)
  have fresh₀ : ∀ a, s₂.heap.objs.size ≤ a → h₀.get? a = none := fun a ha => by
    cases e : h₀.get? a with
    | none => rfl
    | some o' => have := F.keep a o' e; rw [fresh a ha] at this; cases this
  have hD₀ : h₀.get? s₂.heap.objs.size = none := fresh₀ _ (Nat.le_refl _)
  have hC₀ : h₀.get? H2.objs.size = none := fresh₀ _ (by rw [hC]; exact Nat.le_succ _)
  have hK₀ : h₀.get? H3.objs.size = none := fresh₀ _ (by rw [hK, hC]; exact Nat.le_succ_of_le (Nat.le_succ _))
  have hLlt : L < s₂.heap.objs.size := F.ns.lt
  have hDL : s₂.heap.objs.size ≠ L := Ne.symm (below L hLlt).2.1
  have hCL : H2.objs.size ≠ L := Ne.symm (below L hLlt).1
  have hKL : H3.objs.size ≠ L := Ne.symm (below L hLlt).2.2
  have hCI : I ≠ H2.objs.size := (below I hIlt).1
  have hDI : I ≠ s₂.heap.objs.size := (below I hIlt).2.1
  have hKI : I ≠ H3.objs.size := (below I hIlt).2.2
  have offn : ∀ p ∈ news, p.1 ≠ H2.objs.size ∧ p.1 ≠ s₂.heap.objs.size ∧ p.1 ≠ H3.objs.size := fun p hp => below _ (Heap.lt_size (N p hp).1)
  have loop : ∀ s₃ : Shared, s₃ = { s₂ with heap := h₁ } →
      codeAny (model prog w) A (.compLoop (.ListComp elt [⟨.Name x px, iter, [], 0⟩] scope pos) 0 (.ref I) (.ref s₂.heap.objs.size) (compEnvC scope ((x, H3.objs.size) :: cl) H2.objs.size env))
        (RR (.ref s₂.heap.objs.size) H2.objs.size) s₃ := by
    rintro s₃ rfl
    refine codeAny_compLoop_list
      (fun k s' => ∃ h' tk i ys m' v₀, s' = { s₂ with heap := h', toks := tk } ∧ i ≤ n ∧ k = n + 1 - i ∧ St i h' ∧ Fr h₀ L h' m ∧ h'.Ns H2.objs.size m' ∧ h'.IsCell H3.objs.size v₀ ∧ News h₀ L h' ((s₂.heap.objs.size, lst ys) :: news) ∧ IntsAre ys ((List.range i).map g)) ?_ (n + 1)
      ⟨h₁, _, 0, [], _, _, rfl, Nat.zero_le _, rfl, hst₁, F.keeps old, hns₁, hcl₁, fun p hp => ?_, .nil⟩
    · rintro k s' ⟨h', tk, i, ys, m', v₀, rfl, hi, rfl, hst', F', hn', hc', N', hI'⟩
      by_cases hlt : i < n
      · refine W.item i _ _ _ hlt hst' fun v h₂ tk₂ hPv hst₂ hk₂ => ?_
        obtain ⟨t, rfl⟩ := hP i v hPv
        have hc₂ : h₂.IsCell H3.objs.size v₀ := by obtain ⟨o, e, r⟩ := hc'; exact ⟨o, hk₂ _ o (by simpa using Ne.symm hKI) e, r⟩
        refine wpAny_assign_Name (wpAny_storeName_cell hkind (lookup_relabel_cell hx) (c := H3.objs.size) (by simp [compEnvC]) hc₂ fun h₃ hc₃ hs₃ => ?_)
        have hn₂ : h₂.Ns H2.objs.size m' := hn'.at' fun o e => hk₂ _ o (by simpa using Ne.symm hCI) e
        have hn₃ : h₃.Ns H2.objs.size m' := hn₂.sameBut hs₃ (Ne.symm hKC)
        obtain ⟨oI, heI2⟩ := hIo _ _ hst₂
        have heI : h₃.get? I = some oI := hs₃.extBut I _ hKI heI2
        obtain ⟨oC, heC, hoC⟩ := ns_obj hn₃
        obtain ⟨oK, heK, hdK⟩ := hc₃
        have F₃ : Fr h₀ L h₃ m := (fr_but F' hk₂ hIL hI₀).change hs₃ hKL hK₀
        have N₂ : News h₀ L h₂ ((s₂.heap.objs.size, lst ys) :: news) := news_but N' hk₂ fun p hp => by
          rcases List.mem_cons.mp hp with rfl | hp
          · exact Ne.symm hDI
          · exact off p hp
        have N₃ : News h₀ L h₃ ((I, oI) :: (H2.objs.size, oC) :: (s₂.heap.objs.size, lst ys) :: (H3.objs.size, oK) :: news) := fun p hp => by
          rcases List.mem_cons.mp hp with rfl | hp
          · exact ⟨heI, Ne.symm hIL, hI₀⟩
          · rcases List.mem_cons.mp hp with rfl | hp
            · exact ⟨heC, hCL, hC₀⟩
            · rcases List.mem_cons.mp hp with rfl | hp
              · have z := N₂ _ List.mem_cons_self
                exact ⟨hs₃.extBut _ _ (Ne.symm hKD) z.1, z.2⟩
              · rcases List.mem_cons.mp hp with rfl | hp
                · exact ⟨heK, hKL, hK₀⟩
                · have z := N₂ p (List.mem_cons_of_mem _ hp)
                  exact ⟨hs₃.extBut _ _ (offn p hp).2.2 z.1, z.2⟩
        have o3 : Off3 I H2.objs.size s₂.heap.objs.size ((H3.objs.size, oK) :: news) := Off3.of fun p hp => by
          rcases List.mem_cons.mp hp with rfl | hp
          · exact ⟨Ne.symm hKI, hKC, hKD⟩
          · exact ⟨off p hp, (offn p hp).1, (offn p hp).2.1⟩
        refine wpAny_mono (T i H2.objs.size H3.objs.size s₂.heap.objs.size oI oC oK ys h₃ _ t _ hlt hdK F₃ N₃ o3) (fun y s₄ h₄ => ?_) fun _ _ e => e
        obtain ⟨h₄, tk₄, news₄, rfl, F₄, N₄, off₄, hS₄, hnw, t', rfl⟩ := h₄
        subst hnw
        have zI := (N₄ (I, oI) List.mem_cons_self).1
        have zC := (N₄ (H2.objs.size, oC) (List.mem_cons_of_mem _ List.mem_cons_self)).1
        have zD := (N₄ (s₂.heap.objs.size, lst ys) (List.mem_cons_of_mem _ (List.mem_cons_of_mem _ List.mem_cons_self))).1
        have zK := (N₄ (H3.objs.size, oK) (List.mem_cons_of_mem _ (List.mem_cons_of_mem _ (List.mem_cons_of_mem _ List.mem_cons_self)))).1
        have hst₄ : St (i + 1) h₄ := hSt _ _ _ oI hst₂ heI2 zI
        have hlen : ys.length ≤ sizeLine := by
          have := hI'.length
          rw [this, List.length_map, List.length_range, sizeLine_eq]; omega
        refine append_at (hsz := by rw [List.size_toArray]; exact hlen) zD fun h₅ hs₅ hD₅ => ?_
        refine ⟨n + 1 - (i + 1), by omega, h₅, tk₄, i + 1, ys ++ [.int (g i) t'], m', some (.int (val i) t), rfl, hlt, rfl, hSt _ _ _ oI hst₄ zI (hs₅.extBut I _ hDI zI), F₄.change hs₅ hDL hD₀, (hoC.ns zC).sameBut hs₅ (Ne.symm hDC), ⟨oK, hs₅.extBut _ _ hKD zK, hdK⟩, fun p hp => ?_, ?_⟩
        · rcases List.mem_cons.mp hp with rfl | hp
          · exact ⟨hD₅.trans (congrArg some (lst_snoc ys _)), hDL, hD₀⟩
          · have z := N₄ p (List.mem_cons_of_mem _ (List.mem_cons_of_mem _ (List.mem_cons_of_mem _ (List.mem_cons_of_mem _ hp))))
            exact ⟨hs₅.extBut _ _ (offn p hp).2.1 z.1, z.2⟩
        · rw [List.range_succ, List.map_append]
          exact IntsAre.append hI' (.cons _ _ .nil)
      · obtain rfl : i = n := Nat.le_antisymm hi (Nat.not_lt.mp hlt)
        refine W.done _ _ _ hst' fun h₂ tk₂ hk₂ => ?_
        exact hRR _ _ h₂ tk₂ _ ys (fr_but F' hk₂ hIL hI₀) (news_but N' hk₂ fun p hp => by
          rcases List.mem_cons.mp hp with rfl | hp
          · exact Ne.symm hDI
          · exact off p hp) (fun p hp => Heap.lt_size (N p hp).1) (hn'.at' fun o e => hk₂ _ o (by simpa using Ne.symm hCI) e) hC₀ hD₀ hCL hDL (Ne.symm hDC) (fun p hp => (offn p hp).1) (fin ys hI')
    · rcases List.mem_cons.mp hp with rfl | hp
      · exact ⟨hacc, hDL, hD₀⟩
      · exact ⟨old _ _ (N p hp).1, (N p hp).2⟩
  exact codeAny_compStart_list (loop _ rfl) (W.self 0 _ _ _ hst₁ (loop _ rfl))
end Mine
end T_H11
section T_H12
open PySem PySem.W PyProof.Rows PySem.Calls PySem.Spec
set_option maxRecDepth 100000
namespace Mine
theorem reset_H12 : True := by
  w_top off
  trivial
def SrcCell (prog : Program) (w : World) (A : Around) (h₀ : Heap) (L : Addr) (m : Str → Option Value) (env : Env) (elt : Expr) (x : Str) (scope : Scope) (cl : List (Str × Addr)) (Fin : Shared → List Value → List (Addr × Obj) → Prop) (xv : Value) (s₁ : Shared) : Prop :=
  ∃ oI n P St news val g, IterW prog w xv oI n P St s₁ ∧ (∀ i v, P i v → ∃ t, v = .int (val i) t) ∧ Fr h₀ L s₁.heap m ∧ News h₀ L s₁.heap news ∧ n ≤ 1000000 ∧
      ∀ s₂ : Shared, (∃ h, s₂ = { s₁ with heap := h }) → CellTurns prog w A h₀ L m env elt x scope cl s₂ s₁.heap.objs.size n val g news ∧ (∀ ys, IntsAre ys ((List.range n).map g) → Fin s₂ ys news)
section
variable {prog : Program} {w : World} {A : Around} {E : Value → Shared → Prop} {s : Shared} {h₀ : Heap} {L : Addr} {m : Str → Option Value} {env : Env}
theorem SrcCell.mk {elt : Expr} {x : Str} {scope : Scope} {cl : List (Str × Addr)} {Fin : Shared → List Value → List (Addr × Obj) → Prop} {xv : Value} {s₁ : Shared} {oI : Obj} {n : Nat} {P : Nat → Value → Prop} {St : Addr → Nat → Heap → Prop} {news : List (Addr × Obj)} {val g : Nat → Int}
    (F : Fr h₀ L s₁.heap m) (N : News h₀ L s₁.heap news) (W : IterW prog w xv oI n P St s₁) (hP : ∀ i v, P i v → ∃ t, v = .int (val i) t) (hn : n ≤ 1000000)
    (T : ∀ h I, CellTurns prog w A h₀ L m env elt x scope cl { s₁ with heap := h } I n val g news) (fin : ∀ h ys, IntsAre ys ((List.range n).map g) → Fin { s₁ with heap := h } ys news) : SrcCell prog w A h₀ L m env elt x scope cl Fin xv s₁ :=
  ⟨oI, n, P, St, news, val, g, W, hP, F, N, hn, fun _ ⟨h, e⟩ => e ▸ ⟨T h _, fin h⟩⟩
theorem ListComp_cell {elt iter : Expr} {x : Str} {px : Pos} {scope : Scope} {cl : List (Str × Addr)} {pos : Pos} {Q : Value → Shared → Prop} (F₀ : Fr h₀ L s.heap m) (hh : A.handled = none)
    (hclos : closureFor scope env = pure cl) (hcf : ∀ n acc, cellsFrom n scope.names acc = (x, n) :: acc) (hpc : ∀ h, pushCells h scope.names = h.push { cls := .type "cell", data := .cell none }) (hkind : scope.kind = .function)
    (hnames : ∀ y ∈ scope.names, y.2 = .local → scope.names.lookup y.1 = some .local) (hx : scope.names.lookup x = some .cell)
    (h : wpAny (model prog w) A (eval iter env) (SrcCell prog w A h₀ L m env elt x scope cl (fun s₂ => FinLt h₀ L m s₂ Q)) E s)
    (hs : ∀ x, foldedSetIterable iter env x = pure x := by intro _; rfl) :
    wpAny (model prog w) A (eval (.ListComp elt [⟨.Name x px, iter, [], 0⟩] scope pos) env) Q E s := by
  rw [eval_ListComp]
  refine wpAny_comprehension_free (use := none) rfl hs hclos hkind hnames (wpAny_mono h (fun xv s₁ h₁ => ?_) fun _ _ e => e)
  obtain ⟨oI, n, P, St, news, val, g, W, hP, F, N, hsz, T⟩ := h₁
  refine W.it _ _ _ hh ?_
  refine cell_block (W.walks _ hh) hP hsz W.obj W.keep hcf hpc hkind hx W.st0 (by show s₁.heap.objs.size < (s₁.heap.push _).objs.size; rw [Heap.size_push]; exact Nat.lt_succ_self _)
      (F.keeps fun _ _ e => Heap.get?_push_of_some _ e) (N.grown fun _ _ e => Heap.get?_push_of_some _ e) (Nat.ne_of_lt F.ns.lt) (next_is_new F) (fun p hp => Nat.ne_of_lt (Heap.lt_size (N p hp).1)) (T { s₁ with heap := s₁.heap.push oI } ⟨_, rfl⟩).1 (T { s₁ with heap := s₁.heap.push oI } ⟨_, rfl⟩).2 ?_
  intro D C h tk m' ys F' N' o1 hn hC₀ hD₀ hCL hDL hCD offC fin
  refine ⟨m', hn, fun h'' hs'' => fin D h'' tk (F'.change hs'' hCL hC₀) (fun p hp => ?_) o1⟩
  refine ⟨hs''.extBut _ _ ?_ (N' p hp).1, (N' p hp).2⟩
  rcases List.mem_cons.mp hp with rfl | hp
  · exact Ne.symm hCD
  · exact offC p hp
end
/-- the number of steps -/
theorem step_size {n j k : Nat} (hj : 0 < j) (h : n = k * j) : Builtin.Range.rangeSize 0 (n : Int) (j : Int) = ((k : Nat) : Int) := by
  subst h
  unfold Builtin.Range.rangeSize
  rw [if_pos (by omega)]
  by_cases hk : k = 0
  · subst hk; simp
  · have hp : 0 < k * j := Nat.mul_pos (by omega) hj
    rw [if_pos (by omega)]
    have e : ((k * j : Nat) : Int) - 0 - 1 = (((k - 1) * j + (j - 1) : Nat) : Int) := by
      have : k * j = (k - 1) * j + j := by rw [← Nat.succ_mul, Nat.succ_eq_add_one, Nat.sub_add_cancel (by omega)]
      omega
    rw [e, ← Int.natCast_ediv]
    have : ((k - 1) * j + (j - 1)) / j = k - 1 := by
      rw [Nat.mul_comm, Nat.mul_add_div hj, Nat.div_eq_of_lt (by omega), Nat.add_zero]
    rw [this]; omega
theorem step_small {n j : Nat} (hn : n ≤ 1000) (hj : 0 < j) (hj5 : j ≤ 5) (k : Nat) (h : n = k * j) : Builtin.Range.small 0 (n : Int) (j : Int) = true := by
  have hk : k ≤ 1000 := by
    have : k * 1 ≤ k * j := Nat.mul_le_mul_left k hj
    omega
  unfold Builtin.Range.small
  rw [step_size hj h]
  simp only [Builtin.Range.rangeFitsLong, Bool.and_eq_true, Bool.or_eq_true, decide_eq_true_eq, beq_iff_eq]
  rw [if_pos (by omega)]
  simp only [decide_eq_true_eq, Bool.and_eq_true]
  omega
end Mine
end T_H12
section T_N0
open PySem PySem.W PyProof.Rows PySem.Calls PySem.Spec
set_option maxRecDepth 100000
namespace Mine
theorem valN_foldl (b : Nat) : ∀ (ds : List Nat) (a : Nat), ds.foldl (fun n d => n * b + d) a = a * b ^ ds.length + valN b ds := by
  intro ds
  induction ds with
  | nil => intro a; simp [valN]
  | cons d ds ih =>
    intro a
    unfold valN
    rw [List.foldl_cons, List.foldl_cons, ih, ih, List.length_cons, Nat.pow_succ, Nat.zero_mul, Nat.zero_add, Nat.add_mul, Nat.mul_assoc, Nat.mul_comm b, Nat.add_assoc]
theorem valN_cons (b d : Nat) (ds : List Nat) : valN b (d :: ds) = d * b ^ ds.length + valN b ds := by
  show (d :: ds).foldl _ 0 = _
  rw [List.foldl_cons, valN_foldl, Nat.zero_mul, Nat.zero_add]
theorem valN_append (b : Nat) (xs ys : List Nat) : valN b (xs ++ ys) = valN b xs * b ^ ys.length + valN b ys := by
  show (xs ++ ys).foldl _ 0 = _
  rw [List.foldl_append, valN_foldl]; rfl
theorem valN_lt {b : Nat} (hb : 0 < b) : ∀ (ds : List Nat), (∀ d ∈ ds, d < b) → valN b ds < b ^ ds.length := by
  intro ds
  induction ds with
  | nil => intro _; simp [valN]
  | cons d ds ih =>
    intro h
    rw [valN_cons, List.length_cons, Nat.pow_succ]
    have h1 := ih fun x hx => h x (List.mem_cons_of_mem _ hx)
    have h2 : (d + 1) * b ^ ds.length ≤ b * b ^ ds.length := Nat.mul_le_mul_right _ (h d (List.mem_cons_self ..))
    rw [Nat.add_mul, Nat.one_mul] at h2
    rw [Nat.mul_comm (b ^ ds.length) b]
    omega
theorem psum (b : Nat) : ∀ (ds : List Nat), ((List.range ds.length).map fun m => ds.getD m 0 * b ^ (ds.length - 1 - m)).sum = valN b ds := by
  intro ds
  induction ds with
  | nil => rfl
  | cons d ds ih =>
    rw [List.length_cons, List.range_succ_eq_map, List.map_cons, List.sum_cons, valN_cons, ← ih, List.map_map]
    have e0 : (d :: ds).getD 0 0 * b ^ (ds.length + 1 - 1 - 0) = d * b ^ ds.length := by simp
    rw [e0]
    refine congrArg (d * b ^ ds.length + ·) (congrArg List.sum (List.map_congr_left fun m _ => ?_))
    show (d :: ds).getD (m + 1) 0 * b ^ (ds.length + 1 - 1 - (m + 1)) = _
    rw [List.getD_cons_succ, Nat.add_sub_cancel, Nat.sub_sub, Nat.add_comm 1 m]
theorem sum_cast (f : Nat → Nat) : ∀ (l : List Nat), (l.map fun i => ((f i : Nat) : Int)).sum = (((l.map f).sum : Nat) : Int) := by
  intro l
  induction l with
  | nil => rfl
  | cons a l ih => rw [List.map_cons, List.map_cons, List.sum_cons, List.sum_cons, ih]; push_cast; rfl
theorem toI_getD (ds : List Nat) (k : Nat) : (toI ds).getD k 0 = ((ds.getD k 0 : Nat) : Int) := by
  rw [List.getD_eq_getElem?_getD, List.getD_eq_getElem?_getD, List.getElem?_map]
  cases ds[k]? <;> rfl
theorem gval {ds : List Nat} {b j p : Nat} (h : p * j + j ≤ ds.length) :
    ((rangeKs 0 j).map fun m => (toI ds).getD ((0 : Int) + (p : Int) * (j : Int) + m).toNat 0 * ((b : Nat) : Int) ^ (((j : Nat) : Int) - 1 - m).toNat).sum = ((valN b ((ds.drop (p * j)).take j) : Nat) : Int) := by
  have hl : ((ds.drop (p * j)).take j).length = j := by rw [List.length_take, List.length_drop]; omega
  rw [← psum, hl, ← sum_cast]
  unfold rangeKs
  rw [List.map_map]
  refine congrArg List.sum (List.map_congr_left fun i hi => ?_)
  have hi' := List.mem_range.mp hi
  show (toI ds).getD ((0 : Int) + (p : Int) * (j : Int) + (0 + (i : Int))).toNat 0 * ((b : Nat) : Int) ^ (((j : Nat) : Int) - 1 - (0 + (i : Int))).toNat = _
  have e1 : ((0 : Int) + (p : Int) * (j : Int) + (0 + (i : Int))).toNat = p * j + i := by
    rw [← Int.natCast_mul]; omega
  have e2 : (((j : Nat) : Int) - 1 - (0 + (i : Int))).toNat = j - 1 - i := by omega
  rw [e1, e2, toI_getD, List.getD_eq_getElem?_getD, List.getD_eq_getElem?_getD, List.getElem?_take, if_pos hi', List.getElem?_drop]
  push_cast
  rfl
theorem gval_lt {ds : List Nat} {b j p : Nat} (hb : 0 < b) (h : p * j + j ≤ ds.length) (hds : ∀ d ∈ ds, d < b) : valN b ((ds.drop (p * j)).take j) < b ^ j := by
  have hl : ((ds.drop (p * j)).take j).length = j := by rw [List.length_take, List.length_drop]; omega
  have := valN_lt hb ((ds.drop (p * j)).take j) fun d hd => hds d (List.mem_of_mem_drop (List.mem_of_mem_take hd))
  rwa [hl] at this
end Mine
end T_N0
section T_G1
open PySem PySem.W PyProof.Rows
set_option maxRecDepth 100000
namespace Mine
theorem reset_G1 : True := by
  w_top off
  trivial
-- HDR BEGIN
local macro_rules | `(tactic| cell_enter) => `(tactic| first
  | (refine' code_def ?k1 ?k2 ?k3 ?k4 ?k5 ?kA ?kF ?kK ?k6 ?k7 ?k8 ?k9 ?kB ?_ ?c2 ?c3 ?c4 ?c5; (case kA => exact rfl); (case kF => exact rfl); (case kK => first | exact rfl | assumption); (case k1 => k_asm); (case k2 => k_asm); (case k3 => k_asm); (case k4 => k_asm); (case k5 => k_asm); (case k6 => k_is); (case k7 => k_is); (case k8 => ktr_room); (case k9 => first | exact BindsTo.of_eq rfl | exact binds_K (by k_in) rfl (by k_is) rfl rfl rfl | (refine' kp_binds ?kx ?ke; (case kx => k_in); (case ke => exact fun _ => rfl))); (case c5 => decide); (case kB => exact locs rfl); (case c2 => exact rfl); (case c3 => exact rfl); (case c4 => exact rfl); k_whole; intro g' L' h' FG' F' N' B' X' T'; (try dsimp only); (try k_lift B'); (try k_fold))
  | (refine' code_defC ?k1 ?k2 ?k3 ?k4 ?k5 ?kA ?kF ?kK ?k6 ?k7 ?k8 ?k9 ?kB ?kD ?_ ?c2 ?c3 ?c4; (case kA => exact rfl); (case kF => exact rfl); (case kK => first | exact rfl | assumption); (case k1 => k_asm); (case k2 => k_asm); (case k3 => k_asm); (case k4 => k_asm); (case k5 => k_asm); (case k6 => k_is); (case k7 => k_is); (case k8 => ktr_room); (case k9 => first | exact BindsTo.of_eq rfl | exact binds_K (by k_in) rfl (by k_is) rfl rfl rfl | (refine' kp_binds ?kx ?ke; (case kx => k_in); (case ke => exact fun _ => rfl))); (case kB => exact rfl); (case kD => decide +kernel); (case c2 => exact rfl); (case c3 => exact rfl); (case c4 => exact rfl); k_whole; intro g' L' h' tk' cells' FG' F' N' Y' B' X' T' l1; (try k_lt l1); k_cells Y'; (try simp only [List.cons_append, List.nil_append] at N'); (try dsimp only); (try k_lift B'); (try k_fold)))
local macro_rules | `(tactic| walk_at "call ref") => `(tactic| (k_here; k_dflt (refine wpAny_call ?_; cell_enter)))
local macro_rules | `(tactic| k_all) => `(tactic| exact ne_tail (by assumption) (by first | exact Nat.le_refl _ | exact Nat.le_succ _ | omega))
local macro_rules | `(tactic| walk_at "eval BinOp") => `(tactic| (dsimp only; walk1))
local macro_rules | `(tactic| walk_at "eval Call") => `(tactic| (dsimp only; walk1))
local macro_rules | `(tactic| walk_at "binaryOp Pow int int") => `(tactic| (dsimp only; walk1))
-- HDR END
theorem draws_of {ns : List Int} : Draws (List.map (fun k' => if k' < (ns.length : Int) then (ns.getD k'.toNat 0).fmod 10007 else (([1, 2, 3, 41, 29, 23, 7] : List Int).getD k'.toNat 0).fmod 10007) (rangeKs 0 ((7 : Int) - 0).toNat)) := by
  have hb : ∀ (f : Int → Int) (l : List Int) k, (∀ x, 0 ≤ f x ∧ f x < 10007) → 0 ≤ (l.map f).getD k 0 ∧ (l.map f).getD k 0 < 10007 := by
    intro f l k h
    rw [List.getD_eq_getElem?_getD, List.getElem?_map]
    cases l[k]? with
    | none => simp
    | some x => simpa using h x
  have hf : ∀ x : Int, 0 ≤ x.fmod 10007 ∧ x.fmod 10007 < 10007 := fun x => ⟨Int.fmod_nonneg_of_pos _ (by decide), Int.fmod_lt_of_pos _ (by decide)⟩
  refine ⟨by simp [rangeKs_length], fun k => (hb _ _ k fun x => ?_).1, fun k => (hb _ _ k fun x => ?_).2⟩ <;> (split <;> exact hf _)
set_option maxHeartbeats 8000000 in
theorem st0 {w : World} {mean : ExcName → Option Value} {mg mb : Str → Option Value} {dp un : Nat} {gd : Option (List Code)} {cn : Str} {a : Addr} {ccd : Value} {outer : List Env} {A₀ : Around} {base h₀ : Heap} {L : Addr} {m : Str → Option Value} {s : Shared} {Q : Flow → Shared → Prop} {E : Value → Shared → Prop}
   {o11 o10 o9 o8 o7 o6 o5 o4 o3 o2 o1 : Obj} {l : Addr} {vs : List Value} {ns : List Int}
   (B : Below A₀ base outer h₀) (F : Fr h₀ L s.heap (m)) (X : (hd.heap_39 w.params).In h₀)
   (N : News h₀ L s.heap [(L + 11, o11), (L + 10, o10), (L + 9, o9), (L + 8, o8), (L + 7, o7), (L + 6, o6), (L + 5, o5), (L + 4, o4), (L + 3, o3), (L + 2, o2), (L + 1, o1)])
   (T : Top hd.view_39 (looseW hd.view_39 [Str.ofString "b58encode_int", Str.ofString "b58encode", Str.ofString "b58decode_int", Str.ofString "b58decode"]) mean mg mb h₀)
   (hd1 : dp + 20 < recursionLimit) (hu : un + 400 < cLine)
   (d1 : o1.data = .cell (some (.ref l))) (d2 : o2.data = .cell none) (hl : h₀.IsList l vs.toArray) (hi : IntsAre vs ns) (hlen : ns.length ≤ 63)
   (hQ : ∀ (d : Addr) (dv : List Value) (dr : List Int) (o2' : Obj) (h' : Heap) (tk' : Nat), IntsAre dv dr → Draws dr → Off L d → o2'.data = .cell (some (.ref d)) → Fr h₀ L h' (m) → News h₀ L h' [(d, LCg.lst dv), (L + 11, o11), (L + 10, o10), (L + 9, o9), (L + 8, o8), (L + 7, o7), (L + 6, o6), (L + 5, o5), (L + 4, o4), (L + 3, o3), (L + 2, o2'), (L + 1, o1)] → Q .next { s with heap := h', toks := tk' })
   : wpAny (model PySem.Challenge.rw_fe0041_01.row.prog w) (ktrTop dp un gd cn lawScope L a ccd (lawCl L) outer) (exec (lawSt 0) (envX cn lawScope L a ccd (lawCl L))) Q E s := by
  revert B F X N T
  rw [show lawSt 0 = Stmt.Assign _ _ _ from rfl]
  rw [show lawScope = ⟨_, _, _, _, _⟩ from rfl]
  k_fill
  intro B F X N T
  k_steps
  refine hQ _ _ _ _ _ _ (by assumption) ?_ (by assumption) (by assumption) (by assumption) (by assumption)
  exact draws_of
end Mine
end T_G1
section T_G2
open PySem PySem.W PyProof.Rows
set_option maxRecDepth 100000
namespace Mine
local macro_rules | `(tactic| walk_at "pad 0") => `(tactic| fail "pad")
theorem reset_G2 : True := by
  w_top off
  trivial
-- HDR BEGIN
local macro_rules | `(tactic| cell_enter) => `(tactic| first
  | (refine' code_def ?k1 ?k2 ?k3 ?k4 ?k5 ?kA ?kF ?kK ?k6 ?k7 ?k8 ?k9 ?kB ?_ ?c2 ?c3 ?c4 ?c5; (case kA => exact rfl); (case kF => exact rfl); (case kK => first | exact rfl | assumption); (case k1 => k_asm); (case k2 => k_asm); (case k3 => k_asm); (case k4 => k_asm); (case k5 => k_asm); (case k6 => k_is); (case k7 => k_is); (case k8 => ktr_room); (case k9 => first | exact BindsTo.of_eq rfl | exact binds_K (by k_in) rfl (by k_is) rfl rfl rfl | (refine' kp_binds ?kx ?ke; (case kx => k_in); (case ke => exact fun _ => rfl))); (case c5 => decide); (case kB => exact locs rfl); (case c2 => exact rfl); (case c3 => exact rfl); (case c4 => exact rfl); k_whole; intro g' L' h' FG' F' N' B' X' T'; (try dsimp only); (try k_lift B'); (try k_fold))
  | (refine' code_defC ?k1 ?k2 ?k3 ?k4 ?k5 ?kA ?kF ?kK ?k6 ?k7 ?k8 ?k9 ?kB ?kD ?_ ?c2 ?c3 ?c4; (case kA => exact rfl); (case kF => exact rfl); (case kK => first | exact rfl | assumption); (case k1 => k_asm); (case k2 => k_asm); (case k3 => k_asm); (case k4 => k_asm); (case k5 => k_asm); (case k6 => k_is); (case k7 => k_is); (case k8 => ktr_room); (case k9 => first | exact BindsTo.of_eq rfl | exact binds_K (by k_in) rfl (by k_is) rfl rfl rfl | (refine' kp_binds ?kx ?ke; (case kx => k_in); (case ke => exact fun _ => rfl))); (case kB => exact rfl); (case kD => decide +kernel); (case c2 => exact rfl); (case c3 => exact rfl); (case c4 => exact rfl); k_whole; intro g' L' h' tk' cells' FG' F' N' Y' B' X' T' l1; (try k_lt l1); k_cells Y'; (try simp only [List.cons_append, List.nil_append] at N'); (try dsimp only); (try k_lift B'); (try k_fold)))
local macro_rules | `(tactic| walk_at "call ref") => `(tactic| (k_here; k_dflt (refine wpAny_call ?_; cell_enter)))
local macro_rules | `(tactic| k_all) => `(tactic| exact ne_tail (by assumption) (by first | exact Nat.le_refl _ | exact Nat.le_succ _ | omega))
local macro_rules | `(tactic| walk_at "eval BinOp") => `(tactic| (dsimp only; walk1))
local macro_rules | `(tactic| walk_at "eval Call") => `(tactic| (dsimp only; walk1))
local macro_rules | `(tactic| walk_at "binaryOp Pow int int") => `(tactic| (dsimp only; walk1))
-- HDR END
set_option maxHeartbeats 8000000 in
theorem st1 {w : World} {mean : ExcName → Option Value} {mg mb : Str → Option Value} {dp un : Nat} {gd : Option (List Code)} {cn : Str} {a : Addr} {ccd : Value} {outer : List Env} {A₀ : Around} {base h₀ : Heap} {L : Addr} {m : Str → Option Value} {s : Shared} {Q : Flow → Shared → Prop} {E : Value → Shared → Prop}
   {o11 o10 o9 o8 o7 o6 o5 o4 o3 o2 o1 : Obj} {d : Addr} {dv : List Value} {dr : List Int} 
   (B : Below A₀ base outer h₀) (F : Fr h₀ L s.heap (m)) (X : (hd.heap_39 w.params).In h₀)
   (N : News h₀ L s.heap [(d, LCg.lst dv), (L + 11, o11), (L + 10, o10), (L + 9, o9), (L + 8, o8), (L + 7, o7), (L + 6, o6), (L + 5, o5), (L + 4, o4), (L + 3, o3), (L + 2, o2), (L + 1, o1)])
   (T : Top hd.view_39 (looseW hd.view_39 [Str.ofString "b58encode_int", Str.ofString "b58encode", Str.ofString "b58decode_int", Str.ofString "b58decode"]) mean mg mb h₀)
   (hd1 : dp + 20 < recursionLimit) (hu : un + 400 < cLine)
   (hdr : IntsAre dv dr) (hD : Draws dr) (ho : Off L d) (d2 : o2.data = .cell (some (.ref d))) (d3 : o3.data = .cell none)
   (hQ : ∀ (b mo : Int) (t1 t2 : Tok) (o3' : Obj) (h' : Heap) (tk' : Nat), (b = 2 ∧ mo = 5 ∨ b = 3 ∧ mo = 3 ∨ b = 7 ∧ mo = 2) → o3'.data = .cell (some (.int b t1)) → Fr h₀ L h' (fun y => if y = Str.ofString "most" then some (.int mo t2) else m y) → News h₀ L h' [(d, LCg.lst dv), (L + 11, o11), (L + 10, o10), (L + 9, o9), (L + 8, o8), (L + 7, o7), (L + 6, o6), (L + 5, o5), (L + 4, o4), (L + 3, o3'), (L + 2, o2), (L + 1, o1)] → Q .next { s with heap := h', toks := tk' })
   : wpAny (model PySem.Challenge.rw_fe0041_01.row.prog w) (ktrTop dp un gd cn lawScope L a ccd (lawCl L) outer) (exec (lawSt 1) (envX cn lawScope L a ccd (lawCl L))) Q E s := by
  revert B F X N T
  rw [show lawSt 1 = Stmt.Assign _ _ _ from rfl]
  rw [show lawScope = ⟨_, _, _, _, _⟩ from rfl]
  k_fill
  intro B F X N T
  obtain ⟨ho11, ho10, ho9, ho8, ho7, ho6, ho5, ho4, ho3, ho2, ho1⟩ := ho
  have hz0 := hD.lo
  have hz1 := hD.hi
  have hlen7 := hD.len
  have p0 := hz0 (Int.toNat 0)
  have p1 := hz0 (Int.toNat 1)
  have p2 := hz0 (Int.toNat 2)
  have p3 := hz0 (Int.toNat 3)
  have p4 := hz0 (Int.toNat 4)
  have p5 := hz0 (Int.toNat 5)
  have p6 := hz0 (Int.toNat 6)
  have q0 := hz1 (Int.toNat 0)
  have q1 := hz1 (Int.toNat 1)
  have q2 := hz1 (Int.toNat 2)
  have q3 := hz1 (Int.toNat 3)
  have q4 := hz1 (Int.toNat 4)
  have q5 := hz1 (Int.toNat 5)
  have q6 := hz1 (Int.toNat 6)
  k_steps
  all_goals (refine hQ _ _ _ _ _ _ _ ?_ (by assumption) (by k_asm) (by ((with_reducible rename News _ _ _ _ => N9); first | exact N9 | exact news_cut N9 | exact news_cut (news_cut N9) | exact news_cut (news_cut (news_cut N9)) | exact news_cut (news_cut (news_cut (news_cut N9))) | exact news_cut (news_cut (news_cut (news_cut (news_cut N9)))) | exact news_cut (news_cut (news_cut (news_cut (news_cut (news_cut N9))))))))
  · exact .inl ⟨rfl, rfl⟩
  · exact .inr (.inl ⟨rfl, rfl⟩)
  · exact .inr (.inr ⟨rfl, rfl⟩)
end Mine
end T_G2
section T_G3
open PySem PySem.W PyProof.Rows
set_option maxRecDepth 100000
namespace Mine
theorem reset_G3 : True := by
  w_top off
  trivial
-- HDR BEGIN
local macro_rules | `(tactic| cell_enter) => `(tactic| first
  | (refine' code_def ?k1 ?k2 ?k3 ?k4 ?k5 ?kA ?kF ?kK ?k6 ?k7 ?k8 ?k9 ?kB ?_ ?c2 ?c3 ?c4 ?c5; (case kA => exact rfl); (case kF => exact rfl); (case kK => first | exact rfl | assumption); (case k1 => k_asm); (case k2 => k_asm); (case k3 => k_asm); (case k4 => k_asm); (case k5 => k_asm); (case k6 => k_is); (case k7 => k_is); (case k8 => ktr_room); (case k9 => first | exact BindsTo.of_eq rfl | exact binds_K (by k_in) rfl (by k_is) rfl rfl rfl | (refine' kp_binds ?kx ?ke; (case kx => k_in); (case ke => exact fun _ => rfl))); (case c5 => decide); (case kB => exact locs rfl); (case c2 => exact rfl); (case c3 => exact rfl); (case c4 => exact rfl); k_whole; intro g' L' h' FG' F' N' B' X' T'; (try dsimp only); (try k_lift B'); (try k_fold))
  | (refine' code_defC ?k1 ?k2 ?k3 ?k4 ?k5 ?kA ?kF ?kK ?k6 ?k7 ?k8 ?k9 ?kB ?kD ?_ ?c2 ?c3 ?c4; (case kA => exact rfl); (case kF => exact rfl); (case kK => first | exact rfl | assumption); (case k1 => k_asm); (case k2 => k_asm); (case k3 => k_asm); (case k4 => k_asm); (case k5 => k_asm); (case k6 => k_is); (case k7 => k_is); (case k8 => ktr_room); (case k9 => first | exact BindsTo.of_eq rfl | exact binds_K (by k_in) rfl (by k_is) rfl rfl rfl | (refine' kp_binds ?kx ?ke; (case kx => k_in); (case ke => exact fun _ => rfl))); (case kB => exact rfl); (case kD => decide +kernel); (case c2 => exact rfl); (case c3 => exact rfl); (case c4 => exact rfl); k_whole; intro g' L' h' tk' cells' FG' F' N' Y' B' X' T' l1; (try k_lt l1); k_cells Y'; (try simp only [List.cons_append, List.nil_append] at N'); (try dsimp only); (try k_lift B'); (try k_fold)))
local macro_rules | `(tactic| walk_at "call ref") => `(tactic| (k_here; k_dflt (refine wpAny_call ?_; cell_enter)))
local macro_rules | `(tactic| k_all) => `(tactic| exact ne_tail (by assumption) (by first | exact Nat.le_refl _ | exact Nat.le_succ _ | omega))
local macro_rules | `(tactic| walk_at "eval BinOp") => `(tactic| (dsimp only; walk1))
local macro_rules | `(tactic| walk_at "eval Call") => `(tactic| (dsimp only; walk1))
local macro_rules | `(tactic| walk_at "binaryOp Pow int int") => `(tactic| (dsimp only; walk1))
-- HDR END
set_option maxHeartbeats 8000000 in
theorem st2 {w : World} {mean : ExcName → Option Value} {mg mb : Str → Option Value} {dp un : Nat} {gd : Option (List Code)} {cn : Str} {a : Addr} {ccd : Value} {outer : List Env} {A₀ : Around} {base h₀ : Heap} {L : Addr} {m : Str → Option Value} {s : Shared} {Q : Flow → Shared → Prop} {E : Value → Shared → Prop}
   {o11 o10 o9 o8 o7 o6 o5 o4 o3 o2 o1 : Obj} {d : Addr} {dv : List Value} {dr : List Int} {mo : Int} {tm : Tok}
   (B : Below A₀ base outer h₀) (F : Fr h₀ L s.heap (fun y => if y = Str.ofString "most" then some (.int mo tm) else m y)) (X : (hd.heap_39 w.params).In h₀)
   (N : News h₀ L s.heap [(d, LCg.lst dv), (L + 11, o11), (L + 10, o10), (L + 9, o9), (L + 8, o8), (L + 7, o7), (L + 6, o6), (L + 5, o5), (L + 4, o4), (L + 3, o3), (L + 2, o2), (L + 1, o1)])
   (T : Top hd.view_39 (looseW hd.view_39 [Str.ofString "b58encode_int", Str.ofString "b58encode", Str.ofString "b58decode_int", Str.ofString "b58decode"]) mean mg mb h₀)
   (hd1 : dp + 20 < recursionLimit) (hu : un + 400 < cLine)
   (hdr : IntsAre dv dr) (hD : Draws dr) (ho : Off L d) (d2 : o2.data = .cell (some (.ref d))) (d4 : o4.data = .cell none) (d5 : o5.data = .cell none) (hmo : 2 ≤ mo ∧ mo ≤ 5)
   (hQ : ∀ (i j n : Int) (t1 t2 t3 : Tok) (o4' : Obj) (o5' : Obj) (h' : Heap) (tk' : Nat), (1 ≤ i ∧ i ≤ mo) → (1 ≤ j ∧ j ≤ mo) → (0 ≤ n ∧ n < 2 ^ 80) → o4'.data = .cell (some (.int i t1)) → o5'.data = .cell (some (.int j t2)) → Fr h₀ L h' (fun y => if y = Str.ofString "number" then some (.int n t3) else if y = Str.ofString "most" then some (.int mo tm) else m y) → News h₀ L h' [(d, LCg.lst dv), (L + 11, o11), (L + 10, o10), (L + 9, o9), (L + 8, o8), (L + 7, o7), (L + 6, o6), (L + 5, o5'), (L + 4, o4'), (L + 3, o3), (L + 2, o2), (L + 1, o1)] → Q .next { s with heap := h', toks := tk' })
   : wpAny (model PySem.Challenge.rw_fe0041_01.row.prog w) (ktrTop dp un gd cn lawScope L a ccd (lawCl L) outer) (exec (lawSt 2) (envX cn lawScope L a ccd (lawCl L))) Q E s := by
  revert B F X N T
  rw [show lawSt 2 = Stmt.Assign _ _ _ from rfl]
  rw [show lawScope = ⟨_, _, _, _, _⟩ from rfl]
  k_fill
  intro B F X N T
  obtain ⟨ho11, ho10, ho9, ho8, ho7, ho6, ho5, ho4, ho3, ho2, ho1⟩ := ho
  have hz0 := hD.lo
  have hz1 := hD.hi
  have hlen7 := hD.len
  have p0 := hz0 (Int.toNat 0)
  have p1 := hz0 (Int.toNat 1)
  have p2 := hz0 (Int.toNat 2)
  have p3 := hz0 (Int.toNat 3)
  have p4 := hz0 (Int.toNat 4)
  have p5 := hz0 (Int.toNat 5)
  have p6 := hz0 (Int.toNat 6)
  have q0 := hz1 (Int.toNat 0)
  have q1 := hz1 (Int.toNat 1)
  have q2 := hz1 (Int.toNat 2)
  have q3 := hz1 (Int.toNat 3)
  have q4 := hz1 (Int.toNat 4)
  have q5 := hz1 (Int.toNat 5)
  have q6 := hz1 (Int.toNat 6)
  k_steps
  refine' hQ _ _ _ _ _ _ _ _ _ _ ?a ?b ?c ?d ?e (by k_asm) (by ((with_reducible rename News _ _ _ _ => N9); first | exact N9 | exact news_cut N9 | exact news_cut (news_cut N9) | exact news_cut (news_cut (news_cut N9)) | exact news_cut (news_cut (news_cut (news_cut N9))) | exact news_cut (news_cut (news_cut (news_cut (news_cut N9)))) | exact news_cut (news_cut (news_cut (news_cut (news_cut (news_cut N9)))))))
  case d => assumption
  case e => assumption
  case a => exact turn_ok hmo
  case b => exact turn_ok hmo
  case c => exact num_ok
end Mine
end T_G3
section T_G4
open PySem PySem.W PyProof.Rows
set_option maxRecDepth 100000
namespace Mine
theorem reset_G4 : True := by
  w_top off
  trivial
-- HDR BEGIN
local macro_rules | `(tactic| cell_enter) => `(tactic| first
  | (refine' code_def ?k1 ?k2 ?k3 ?k4 ?k5 ?kA ?kF ?kK ?k6 ?k7 ?k8 ?k9 ?kB ?_ ?c2 ?c3 ?c4 ?c5; (case kA => exact rfl); (case kF => exact rfl); (case kK => first | exact rfl | assumption); (case k1 => k_asm); (case k2 => k_asm); (case k3 => k_asm); (case k4 => k_asm); (case k5 => k_asm); (case k6 => k_is); (case k7 => k_is); (case k8 => ktr_room); (case k9 => first | exact BindsTo.of_eq rfl | exact binds_K (by k_in) rfl (by k_is) rfl rfl rfl | (refine' kp_binds ?kx ?ke; (case kx => k_in); (case ke => exact fun _ => rfl))); (case c5 => decide); (case kB => exact locs rfl); (case c2 => exact rfl); (case c3 => exact rfl); (case c4 => exact rfl); k_whole; intro g' L' h' FG' F' N' B' X' T'; (try dsimp only); (try k_lift B'); (try k_fold))
  | (refine' code_defC ?k1 ?k2 ?k3 ?k4 ?k5 ?kA ?kF ?kK ?k6 ?k7 ?k8 ?k9 ?kB ?kD ?_ ?c2 ?c3 ?c4; (case kA => exact rfl); (case kF => exact rfl); (case kK => first | exact rfl | assumption); (case k1 => k_asm); (case k2 => k_asm); (case k3 => k_asm); (case k4 => k_asm); (case k5 => k_asm); (case k6 => k_is); (case k7 => k_is); (case k8 => ktr_room); (case k9 => first | exact BindsTo.of_eq rfl | exact binds_K (by k_in) rfl (by k_is) rfl rfl rfl | (refine' kp_binds ?kx ?ke; (case kx => k_in); (case ke => exact fun _ => rfl))); (case kB => exact rfl); (case kD => decide +kernel); (case c2 => exact rfl); (case c3 => exact rfl); (case c4 => exact rfl); k_whole; intro g' L' h' tk' cells' FG' F' N' Y' B' X' T' l1; (try k_lt l1); k_cells Y'; (try simp only [List.cons_append, List.nil_append] at N'); (try dsimp only); (try k_lift B'); (try k_fold)))
local macro_rules | `(tactic| walk_at "call ref") => `(tactic| (k_here; k_dflt (refine wpAny_call ?_; cell_enter)))
local macro_rules | `(tactic| k_all) => `(tactic| exact ne_tail (by assumption) (by first | exact Nat.le_refl _ | exact Nat.le_succ _ | omega))
local macro_rules | `(tactic| walk_at "eval BinOp") => `(tactic| (dsimp only; walk1))
local macro_rules | `(tactic| walk_at "eval Call") => `(tactic| (dsimp only; walk1))
local macro_rules | `(tactic| walk_at "binaryOp Pow int int") => `(tactic| (dsimp only; walk1))
-- HDR END
theorem pow_nat {b i : Nat} : (((b : Nat) : Int) ^ (Int.toNat ((i : Nat) : Int))).toNat = b ^ i := by rw [Int.toNat_natCast, ← Int.natCast_pow, Int.toNat_natCast]
theorem pow_ok {b i : Nat} (h2 : 2 ≤ b) (h1 : 1 ≤ i) (h : b ^ i ≤ 49) : (2 : Int) ≤ (b : Int) ^ ((i : Nat) : Int).toNat ∧ (b : Int) ^ ((i : Nat) : Int).toNat ≤ 49 := by
  rw [Int.toNat_natCast, ← Int.natCast_pow]
  have : b ^ 1 ≤ b ^ i := Nat.pow_le_pow_right (by omega) h1
  rw [Nat.pow_one] at this
  omega
theorem law_signsI {w : World} {mean : ExcName → Option Value} {mg mb : Str → Option Value} (size turn : Int) (t1 t2 : Tok) (h2 : 2 ≤ size) (h49 : size ≤ 49) (h0 : 0 ≤ turn) (hn : turn ≤ 10007) :
    Gives 3 w mean mg mb 66 [.int size t1, .int turn t2] [] (fun t => .bytes (signs size.toNat turn.toNat) t) := by
  obtain ⟨a, rfl⟩ := Int.eq_ofNat_of_zero_le (show 0 ≤ size by omega)
  obtain ⟨c, rfl⟩ := Int.eq_ofNat_of_zero_le h0
  exact law_signs a c t1 t2 (by omega) (by omega) (by omega)
local macro_rules | `(tactic| walk_at "call ref") => `(tactic| (k_here; (with_reducible show wpAny _ _ (call (Value.ref 66) [Value.int _ _, Value.int _ _] _) _ _ _); (try dsimp only); k_dflt (refine' use (law_signsI _ _ _ _ (by omega) (by omega) (by omega) (by omega)) ?k1 ?k2 ?k3 ?k4 ?k5 ?kK ?kd ?ku ?_; (case k1 => k_asm); (case k2 => k_asm); (case k3 => k_asm); (case k4 => k_asm); (case k5 => k_asm); (case kK => first | exact rfl | assumption); (case kd => ktr_room); (case ku => ktr_units); intro t9 h9 tk9 F9 N9; (try dsimp only); (try k_fold))))
set_option maxHeartbeats 8000000 in
theorem st3 {w : World} {mean : ExcName → Option Value} {mg mb : Str → Option Value} {dp un : Nat} {gd : Option (List Code)} {cn : Str} {a : Addr} {ccd : Value} {outer : List Env} {A₀ : Around} {base h₀ : Heap} {L : Addr} {m : Str → Option Value} {s : Shared} {Q : Flow → Shared → Prop} {E : Value → Shared → Prop}
   {o11 o10 o9 o8 o7 o6 o5 o4 o3 o2 o1 : Obj} {d : Addr} {dv : List Value} {dr : List Int} {b i j n : Nat} {tb ti tj : Tok}
   (B : Below A₀ base outer h₀) (F : Fr h₀ L s.heap (m)) (X : (hd.heap_39 w.params).In h₀)
   (N : News h₀ L s.heap [(d, LCg.lst dv), (L + 11, o11), (L + 10, o10), (L + 9, o9), (L + 8, o8), (L + 7, o7), (L + 6, o6), (L + 5, o5), (L + 4, o4), (L + 3, o3), (L + 2, o2), (L + 1, o1)])
   (T : Top hd.view_39 (looseW hd.view_39 [Str.ofString "b58encode_int", Str.ofString "b58encode", Str.ofString "b58decode_int", Str.ofString "b58decode"]) mean mg mb h₀)
   (hd1 : dp + 20 < recursionLimit) (hu : un + 400 < cLine)
   (hdr : IntsAre dv dr) (hD : Draws dr) (ho : Off L d) (hb2 : 2 ≤ b) (hb7 : b ≤ 7) (hi1 : 1 ≤ i) (hi5 : i ≤ 5) (hj1 : 1 ≤ j) (hj5 : j ≤ 5) (hbi : b ^ i ≤ 49) (hbj : b ^ j ≤ 49) (hn : n < 2 ^ 80) (d2 : o2.data = .cell (some (.ref d))) (d3 : o3.data = .cell (some (.int (b : Nat) tb))) (d4 : o4.data = .cell (some (.int (i : Nat) ti))) (d5 : o5.data = .cell (some (.int (j : Nat) tj))) (d6 : o6.data = .cell none) (d7 : o7.data = .cell none) (d8 : o8.data = .cell none)
   (hQ : ∀ (u v x : Nat) (t1 t2 t3 : Tok) (o6' : Obj) (o7' : Obj) (o8' : Obj) (h' : Heap) (tk' : Nat), o6'.data = .cell (some (.bytes (signs b u) t1)) → o7'.data = .cell (some (.bytes (signs (b ^ i) v) t2)) → o8'.data = .cell (some (.bytes (signs (b ^ j) x) t3)) → Fr h₀ L h' (m) → News h₀ L h' [(d, LCg.lst dv), (L + 11, o11), (L + 10, o10), (L + 9, o9), (L + 8, o8'), (L + 7, o7'), (L + 6, o6'), (L + 5, o5), (L + 4, o4), (L + 3, o3), (L + 2, o2), (L + 1, o1)] → Q .next { s with heap := h', toks := tk' })
   : wpAny (model PySem.Challenge.rw_fe0041_01.row.prog w) (ktrTop dp un gd cn lawScope L a ccd (lawCl L) outer) (exec (lawSt 3) (envX cn lawScope L a ccd (lawCl L))) Q E s := by
  revert B F X N T
  rw [show lawSt 3 = Stmt.Assign _ _ _ from rfl]
  rw [show lawScope = ⟨_, _, _, _, _⟩ from rfl]
  k_fill
  intro B F X N T
  obtain ⟨ho11, ho10, ho9, ho8, ho7, ho6, ho5, ho4, ho3, ho2, ho1⟩ := ho
  have hlen7 := hD.len
  have p0 := hD.lo (Int.toNat 0)
  have p1 := hD.lo (Int.toNat 1)
  have p2 := hD.lo (Int.toNat 2)
  have p3 := hD.lo (Int.toNat 3)
  have p4 := hD.lo (Int.toNat 4)
  have p5 := hD.lo (Int.toNat 5)
  have p6 := hD.lo (Int.toNat 6)
  have q0 := hD.hi (Int.toNat 0)
  have q1 := hD.hi (Int.toNat 1)
  have q2 := hD.hi (Int.toNat 2)
  have q3 := hD.hi (Int.toNat 3)
  have q4 := hD.hi (Int.toNat 4)
  have q5 := hD.hi (Int.toNat 5)
  have q6 := hD.hi (Int.toNat 6)
  have r1 : (2 : Int) ≤ (b : Int) ^ ((i : Nat) : Int).toNat ∧ (b : Int) ^ ((i : Nat) : Int).toNat ≤ 49 := pow_ok hb2 hi1 hbi
  have r2 : (2 : Int) ≤ (b : Int) ^ ((j : Nat) : Int).toNat ∧ (b : Int) ^ ((j : Nat) : Int).toNat ≤ 49 := pow_ok hb2 hj1 hbj
  k_steps
  refine' hQ _ _ _ _ _ _ _ _ _ _ _ ?c ?d ?e (by k_asm) (by ((with_reducible rename News _ _ _ _ => N9); first | exact N9 | exact news_cut N9 | exact news_cut (news_cut N9) | exact news_cut (news_cut (news_cut N9)) | exact news_cut (news_cut (news_cut (news_cut N9))) | exact news_cut (news_cut (news_cut (news_cut (news_cut N9)))) | exact news_cut (news_cut (news_cut (news_cut (news_cut (news_cut N9)))))))
  case c => ((rename (Obj.data _ = Data.cell (some (Value.bytes (signs (Int.toNat ((b : Nat) : Int)) _) _))) => hd9); rw [Int.toNat_natCast] at hd9; exact hd9)
  case d => ((rename (Obj.data _ = Data.cell (some (Value.bytes (signs (Int.toNat (((b : Nat) : Int) ^ (Int.toNat ((i : Nat) : Int)))) _) _))) => hd9); rw [pow_nat] at hd9; exact hd9)
  case e => ((rename (Obj.data _ = Data.cell (some (Value.bytes (signs (Int.toNat (((b : Nat) : Int) ^ (Int.toNat ((j : Nat) : Int)))) _) _))) => hd9); rw [pow_nat] at hd9; exact hd9)
end Mine
end T_G4
section T_G5
open PySem PySem.W PyProof.Rows
set_option maxRecDepth 100000
namespace Mine
theorem reset_G5 : True := by
  w_top off
  trivial
-- HDR BEGIN
local macro_rules | `(tactic| cell_enter) => `(tactic| first
  | (refine' code_def ?k1 ?k2 ?k3 ?k4 ?k5 ?kA ?kF ?kK ?k6 ?k7 ?k8 ?k9 ?kB ?_ ?c2 ?c3 ?c4 ?c5; (case kA => exact rfl); (case kF => exact rfl); (case kK => first | exact rfl | assumption); (case k1 => k_asm); (case k2 => k_asm); (case k3 => k_asm); (case k4 => k_asm); (case k5 => k_asm); (case k6 => k_is); (case k7 => k_is); (case k8 => ktr_room); (case k9 => first | exact BindsTo.of_eq rfl | exact binds_K (by k_in) rfl (by k_is) rfl rfl rfl | (refine' kp_binds ?kx ?ke; (case kx => k_in); (case ke => exact fun _ => rfl))); (case c5 => decide); (case kB => exact locs rfl); (case c2 => exact rfl); (case c3 => exact rfl); (case c4 => exact rfl); k_whole; intro g' L' h' FG' F' N' B' X' T'; (try dsimp only); (try k_lift B'); (try k_fold))
  | (refine' code_defC ?k1 ?k2 ?k3 ?k4 ?k5 ?kA ?kF ?kK ?k6 ?k7 ?k8 ?k9 ?kB ?kD ?_ ?c2 ?c3 ?c4; (case kA => exact rfl); (case kF => exact rfl); (case kK => first | exact rfl | assumption); (case k1 => k_asm); (case k2 => k_asm); (case k3 => k_asm); (case k4 => k_asm); (case k5 => k_asm); (case k6 => k_is); (case k7 => k_is); (case k8 => ktr_room); (case k9 => first | exact BindsTo.of_eq rfl | exact binds_K (by k_in) rfl (by k_is) rfl rfl rfl | (refine' kp_binds ?kx ?ke; (case kx => k_in); (case ke => exact fun _ => rfl))); (case kB => exact rfl); (case kD => decide +kernel); (case c2 => exact rfl); (case c3 => exact rfl); (case c4 => exact rfl); k_whole; intro g' L' h' tk' cells' FG' F' N' Y' B' X' T' l1; (try k_lt l1); k_cells Y'; (try simp only [List.cons_append, List.nil_append] at N'); (try dsimp only); (try k_lift B'); (try k_fold)))
local macro_rules | `(tactic| walk_at "call ref") => `(tactic| (k_here; k_dflt (refine wpAny_call ?_; cell_enter)))
local macro_rules | `(tactic| k_all) => `(tactic| exact ne_tail (by assumption) (by first | exact Nat.le_refl _ | exact Nat.le_succ _ | omega))
local macro_rules | `(tactic| walk_at "eval BinOp") => `(tactic| (dsimp only; walk1))
local macro_rules | `(tactic| walk_at "eval Call") => `(tactic| (dsimp only; walk1))
local macro_rules | `(tactic| walk_at "binaryOp Pow int int") => `(tactic| (dsimp only; walk1))
-- HDR END
local macro_rules | `(tactic| walk_at "call ref") => `(tactic| (k_here; (with_reducible show wpAny _ _ (call (Value.ref 29) [Value.int _ _, Value.bool _, Value.bytes _ _] _) _ _ _); (try dsimp only); k_dflt (refine' use (enc_int _ _ _ _ (by omega) (by omega) (Nat.lt_of_lt_of_le (by assumption) (by decide))) ?k1 ?k2 ?k3 ?k4 ?k5 ?kK ?kd ?ku ?_; (case k1 => k_asm); (case k2 => k_asm); (case k3 => k_asm); (case k4 => k_asm); (case k5 => k_asm); (case kK => first | exact rfl | assumption); (case kd => ktr_room); (case ku => ktr_units); intro t9 h9 tk9 F9 N9; (try dsimp only); (try k_fold))))
local macro_rules | `(tactic| walk_at "subscriptTail") => `(tactic| (k_here; (with_reducible show wpAny _ _ (subscriptTail _ _ (Value.bytes _ _) (Value.int _ _)) _ _ _); (refine item_b (by omega) (by assumption) (by assumption) ?_); intro _ _))
local macro_rules | `(tactic| walk_at "call type:dict") => `(tactic| (k_here; (with_reducible show wpAny _ _ (call (Value.type "dict") [Value.ref _]) _ _ _); (try dsimp only); k_dflt (with_reducible rename Fr _ _ _ _ => F9; with_reducible rename News _ _ _ _ => N9; (refine dict_pairs_K (own := by assumption) (by rfl) (by assumption) (by omega) (by assumption) F9 N9 (by assumption) ?_); clear F9 N9; intro D9 o9' h9 tk9 kvs9 F9' N9' l9 lo9 hd9 hM9; (try k_lt l9); (try dsimp only); (try k_fold); (try k_sweep))))
local macro_rules | `(tactic| walk_at "call builtin:len") => `(tactic| (k_here; (with_reducible show wpAny _ _ (call (Value.builtin "len") [Value.bytes _ _]) _ _ _); (refine len_b (by omega) ?_)))
local macro_rules | `(tactic| walk_at "FinE") => `(tactic| (k_here; unfold LCg.FinE; intro D9 h9 tk9 F9 N9 o9; (try dsimp only)))
local macro_rules | `(tactic| walk_at "CompSrc") => `(tactic| (k_here; k_dflt ((refine LCg.CompSrc.range (by rfl) (by k_asm) (by k_asm) (by assumption) (by first | exact small_one (by kcf_bnd) (by kcf_bnd) (by kcf_bnd) (by kcf_bnd) | decide) (by first | exact rangeSize_nat _ _ | rfl) (by rw [PySem.sizeLine_eq]; omega) ?_); intro g'; (refine' pair_rest' (b := by assumption) (by omega) (fun own' k' t' I' oI' C' oC' D' m' ys' h' tk' E' hlo' hhi' hC' hx' F' N' off' ne' => ?_) (fun ys' own' hp' => ?_)); (all_goals (try simp only [List.cons_append, List.nil_append] at N')))))
set_option maxHeartbeats 8000000 in
theorem st4 {w : World} {mean : ExcName → Option Value} {mg mb : Str → Option Value} {dp un : Nat} {gd : Option (List Code)} {cn : Str} {a : Addr} {ccd : Value} {outer : List Env} {A₀ : Around} {base h₀ : Heap} {L : Addr} {m : Str → Option Value} {s : Shared} {Q : Flow → Shared → Prop} {E : Value → Shared → Prop}
   {o11 o10 o9 o8 o7 o6 o5 o4 o3 o2 o1 : Obj} {d : Addr} {dv : List Value} {dr : List Int} {b i j n : Nat} {al : Array UInt8} {ta tn : Tok}
   (B : Below A₀ base outer h₀) (F : Fr h₀ L s.heap (fun y => if y = Str.ofString "number" then some (.int (n : Nat) tn) else m y)) (X : (hd.heap_39 w.params).In h₀)
   (N : News h₀ L s.heap [(d, LCg.lst dv), (L + 11, o11), (L + 10, o10), (L + 9, o9), (L + 8, o8), (L + 7, o7), (L + 6, o6), (L + 5, o5), (L + 4, o4), (L + 3, o3), (L + 2, o2), (L + 1, o1)])
   (T : Top hd.view_39 (looseW hd.view_39 [Str.ofString "b58encode_int", Str.ofString "b58encode", Str.ofString "b58decode_int", Str.ofString "b58decode"]) mean mg mb h₀)
   (hd1 : dp + 20 < recursionLimit) (hu : un + 400 < cLine)
   (hdr : IntsAre dv dr) (hD : Draws dr) (ho : Off L d) (hap : Apart al) (hz2 : 2 ≤ al.size) (hz : al.size ≤ 49) (hn : n < 2 ^ 80) (d7 : o7.data = .cell (some (.bytes al ta))) (d9 : o9.data = .cell none)
   (hQ : ∀ (D : Addr) (o : Obj) (kvs : List (Int × Value)) (tx : Tok) (o9' : Obj) (h' : Heap) (tk' : Nat), Off L D → @Ne Nat d D → (D == sysModules) = false → o.IsDictOf (intKind PySem.Challenge.rw_fe0041_01.row.prog w) kvs → MapTo al al.size kvs → o9'.data = .cell (some (.ref D)) → Fr h₀ L h' (fun y => if y = Str.ofString "text" then some (.bytes (enc al n) tx) else if y = Str.ofString "number" then some (.int (n : Nat) tn) else m y) → News h₀ L h' [(D, o), (d, LCg.lst dv), (L + 11, o11), (L + 10, o10), (L + 9, o9'), (L + 8, o8), (L + 7, o7), (L + 6, o6), (L + 5, o5), (L + 4, o4), (L + 3, o3), (L + 2, o2), (L + 1, o1)] → Q .next { s with heap := h', toks := tk' })
   : wpAny (model PySem.Challenge.rw_fe0041_01.row.prog w) (ktrTop dp un gd cn lawScope L a ccd (lawCl L) outer) (exec (lawSt 4) (envX cn lawScope L a ccd (lawCl L))) Q E s := by
  revert B F X N T
  rw [show lawSt 4 = Stmt.Assign _ _ _ from rfl]
  rw [show lawScope = ⟨_, _, _, _, _⟩ from rfl]
  k_fill
  intro B F X N T
  obtain ⟨ho11, ho10, ho9, ho8, ho7, ho6, ho5, ho4, ho3, ho2, ho1⟩ := ho
  have hlen7 := hD.len
  have p0 := hD.lo (Int.toNat 0)
  have p1 := hD.lo (Int.toNat 1)
  have p2 := hD.lo (Int.toNat 2)
  have p3 := hD.lo (Int.toNat 3)
  have p4 := hD.lo (Int.toNat 4)
  have p5 := hD.lo (Int.toNat 5)
  have p6 := hD.lo (Int.toNat 6)
  have q0 := hD.hi (Int.toNat 0)
  have q1 := hD.hi (Int.toNat 1)
  have q2 := hD.hi (Int.toNat 2)
  have q3 := hD.hi (Int.toNat 3)
  have q4 := hD.hi (Int.toNat 4)
  have q5 := hD.hi (Int.toNat 5)
  have q6 := hD.hi (Int.toNat 6)
  have hsys8 := sys_lt (a := 78) X F (by with_unfolding_all rfl) (by decide)
  k_steps
  · first | exact PairEl.mk (by assumption) (by assumption) (by assumption) | exact PairEl.mk (by assumption) (by assumption) (allLt_to (by assumption))
  refine' hQ _ _ _ _ _ _ _ ?a ?b ?c ?e ?f ?g (by k_asm) (by ((with_reducible rename News _ _ _ _ => N9); first | exact N9 | exact news_cut N9 | exact news_cut (news_cut N9) | exact news_cut (news_cut (news_cut N9)) | exact news_cut (news_cut (news_cut (news_cut N9))) | exact news_cut (news_cut (news_cut (news_cut (news_cut N9)))) | exact news_cut (news_cut (news_cut (news_cut (news_cut (news_cut N9)))))))
  case a => (unfold Off; omega)
  case b => omega
  case c => assumption
  case e => assumption
  case f => assumption
  case g => assumption
end Mine
end T_G5
section T_G6
open PySem PySem.W PyProof.Rows
set_option maxRecDepth 100000
namespace Mine
theorem reset_G6 : True := by
  w_top off
  trivial
-- HDR BEGIN
local macro_rules | `(tactic| cell_enter) => `(tactic| first
  | (refine' code_def ?k1 ?k2 ?k3 ?k4 ?k5 ?kA ?kF ?kK ?k6 ?k7 ?k8 ?k9 ?kB ?_ ?c2 ?c3 ?c4 ?c5; (case kA => exact rfl); (case kF => exact rfl); (case kK => first | exact rfl | assumption); (case k1 => k_asm); (case k2 => k_asm); (case k3 => k_asm); (case k4 => k_asm); (case k5 => k_asm); (case k6 => k_is); (case k7 => k_is); (case k8 => ktr_room); (case k9 => first | exact BindsTo.of_eq rfl | exact binds_K (by k_in) rfl (by k_is) rfl rfl rfl | (refine' kp_binds ?kx ?ke; (case kx => k_in); (case ke => exact fun _ => rfl))); (case c5 => decide); (case kB => exact locs rfl); (case c2 => exact rfl); (case c3 => exact rfl); (case c4 => exact rfl); k_whole; intro g' L' h' FG' F' N' B' X' T'; (try dsimp only); (try k_lift B'); (try k_fold))
  | (refine' code_defC ?k1 ?k2 ?k3 ?k4 ?k5 ?kA ?kF ?kK ?k6 ?k7 ?k8 ?k9 ?kB ?kD ?_ ?c2 ?c3 ?c4; (case kA => exact rfl); (case kF => exact rfl); (case kK => first | exact rfl | assumption); (case k1 => k_asm); (case k2 => k_asm); (case k3 => k_asm); (case k4 => k_asm); (case k5 => k_asm); (case k6 => k_is); (case k7 => k_is); (case k8 => ktr_room); (case k9 => first | exact BindsTo.of_eq rfl | exact binds_K (by k_in) rfl (by k_is) rfl rfl rfl | (refine' kp_binds ?kx ?ke; (case kx => k_in); (case ke => exact fun _ => rfl))); (case kB => exact rfl); (case kD => decide +kernel); (case c2 => exact rfl); (case c3 => exact rfl); (case c4 => exact rfl); k_whole; intro g' L' h' tk' cells' FG' F' N' Y' B' X' T' l1; (try k_lt l1); k_cells Y'; (try simp only [List.cons_append, List.nil_append] at N'); (try dsimp only); (try k_lift B'); (try k_fold)))
local macro_rules | `(tactic| walk_at "call ref") => `(tactic| (k_here; k_dflt (refine wpAny_call ?_; cell_enter)))
local macro_rules | `(tactic| k_all) => `(tactic| exact ne_tail (by assumption) (by first | exact Nat.le_refl _ | exact Nat.le_succ _ | omega))
local macro_rules | `(tactic| walk_at "eval BinOp") => `(tactic| (dsimp only; walk1))
local macro_rules | `(tactic| walk_at "eval Call") => `(tactic| (dsimp only; walk1))
local macro_rules | `(tactic| walk_at "binaryOp Pow int int") => `(tactic| (dsimp only; walk1))
-- HDR END
local macro_rules | `(tactic| walk_at "binaryOp FloorDiv int int") => `(tactic| (k_here; (try dsimp only); k_dflt (refine floordiv_int (by assumption) ?_ (Or.inl (PyProof.noPylong_of_log2 (by assumption))))))
local macro_rules | `(tactic| walk_at "eval ListComp") => `(tactic| (k_here; k_dflt (refine ListComp_two (F₀ := by k_asm) (by rfl) (by with_unfolding_all rfl) (by decide) (by rfl) (by decide) (by rfl) (by rfl) (by decide) ?_)))
local macro_rules | `(tactic| walk_at "subscriptTail") => `(tactic| (k_here; (with_reducible show wpAny _ _ (subscriptTail _ _ (Value.ref _) (Value.int _ _)) _ _ _); k_dflt (refine item_map (by k_asm) (by k_mem) (by assumption) (by assumption) ?_)))
local macro_rules | `(tactic| walk_at "call ref") => `(tactic| (k_here; (with_reducible show wpAny _ _ (call (Value.ref 73) [Value.ref _] _) _ _ _); (try dsimp only); k_dflt (refine' law_plain _ _ _ _ (by assumption) ?kl _ _ _ _ _ _ _ _ _ _ _ _ _ _ _ _ _ _ ?k1 ?k2 ?k3 ?k4 ?k5 ?kK ?kd ?ku ?kt ?_; (case kl => (rw [flat2_len]; exact Nat.le_trans (Nat.mul_le_mul (by assumption) (by assumption)) (by decide))); (case k1 => k_asm); (case k2 => k_asm); (case k3 => k_asm); (case k4 => k_asm); (case k5 => k_asm); (case kK => first | exact rfl | assumption); (case kd => ktr_room); (case ku => ktr_units); (case kt => assumption); intro r9 vs9 nn9 h9 tk9 F9 N9 hi9 l9; (try k_lt l9); (try dsimp only); (try k_fold); (try k_sweep))))
set_option maxHeartbeats 8000000 in
theorem st5 {w : World} {mean : ExcName → Option Value} {mg mb : Str → Option Value} {dp un : Nat} {gd : Option (List Code)} {cn : Str} {a : Addr} {ccd : Value} {outer : List Env} {A₀ : Around} {base h₀ : Heap} {L : Addr} {m : Str → Option Value} {s : Shared} {Q : Flow → Shared → Prop} {E : Value → Shared → Prop}
   {o11 o10 o9 o8 o7 o6 o5 o4 o3 o2 o1 : Obj} {d : Addr} {dv : List Value} {dr : List Int} {b i j n : Nat} {D : Addr} {o : Obj} {kvs : List (Int × Value)} {al : Array UInt8} {ds : List Nat} {tx tb ti : Tok}
   (B : Below A₀ base outer h₀) (F : Fr h₀ L s.heap (fun y => if y = Str.ofString "text" then some (.bytes (txt al ds) tx) else m y)) (X : (hd.heap_39 w.params).In h₀)
   (N : News h₀ L s.heap [(D, o), (d, LCg.lst dv), (L + 11, o11), (L + 10, o10), (L + 9, o9), (L + 8, o8), (L + 7, o7), (L + 6, o6), (L + 5, o5), (L + 4, o4), (L + 3, o3), (L + 2, o2), (L + 1, o1)])
   (T : Top hd.view_39 (looseW hd.view_39 [Str.ofString "b58encode_int", Str.ofString "b58encode", Str.ofString "b58decode_int", Str.ofString "b58decode"]) mean mg mb h₀)
   (hd1 : dp + 20 < recursionLimit) (hu : un + 400 < cLine)
   (oD : Off L D) (hdD : @Ne Nat d D) (lo : (D == sysModules) = false) (hkv : o.IsDictOf (intKind PySem.Challenge.rw_fe0041_01.row.prog w) kvs) (hM : MapTo al al.size kvs) (hz : al.size ≤ 49) (hds : ∀ d ∈ ds, d < al.size) (hlen : ds.length ≤ 80) (ho : Off L d) (hb2 : 2 ≤ b) (hb7 : b ≤ 7) (hi1 : 1 ≤ i) (hi5 : i ≤ 5) (d9 : o9.data = .cell (some (.ref D))) (d3 : o3.data = .cell (some (.int (b : Nat) tb))) (d4 : o4.data = .cell (some (.int (i : Nat) ti))) (d10 : o10.data = .cell none)
   (hQ : ∀ (g : Addr) (gv : List Value) (kg : Nat) (o10' : Obj) (h' : Heap) (tk' : Nat), Off L g → IntsAre gv (plainI (flat2 (fun p q => ((((ds.getD p 0 : Nat) : Int).fdiv (((b : Nat) : Int) ^ (((i : Nat) : Int) - 1 - ((q : Nat) : Int)).toNat)).fmod ((b : Nat) : Int))) i ds.length)) → o10'.data = .cell (some (.ref g)) → Fr h₀ L h' (fun y => if y = Str.ofString "text" then some (.bytes (txt al ds) tx) else m y) → News h₀ L h' [(g, listOf gv.toArray kg), (d, LCg.lst dv), (L + 11, o11), (L + 10, o10'), (L + 9, o9), (L + 8, o8), (L + 7, o7), (L + 6, o6), (L + 5, o5), (L + 4, o4), (L + 3, o3), (L + 2, o2), (L + 1, o1)] → Q .next { s with heap := h', toks := tk' })
   : wpAny (model PySem.Challenge.rw_fe0041_01.row.prog w) (ktrTop dp un gd cn lawScope L a ccd (lawCl L) outer) (exec (lawSt 5) (envX cn lawScope L a ccd (lawCl L))) Q E s := by
  revert B F X N T
  rw [show lawSt 5 = Stmt.Assign _ _ _ from rfl]
  rw [show lawScope = ⟨_, _, _, _, _⟩ from rfl]
  k_fill
  intro B F X N T
  obtain ⟨ho11, ho10, ho9, ho8, ho7, ho6, ho5, ho4, ho3, ho2, ho1⟩ := ho
  obtain ⟨hd11, hd10, hd9, hd8, hd7, hd6, hd5, hd4, hd3, hd2, hd1⟩ := oD
  k_steps
  refine SrcTwo.mk (n2 := i) (g := (fun p q => ((((ds.getD p 0 : Nat) : Int).fdiv (((b : Nat) : Int) ^ (((i : Nat) : Int) - 1 - ((q : Nat) : Int)).toNat)).fmod ((b : Nat) : Int)))) (by k_asm) (by k_asm) (IterW.bytes _ _ _) (by rw [txt_size]; exact Nat.le_trans (Nat.mul_le_mul hlen hi5) (by decide)) (by omega) ?_
  intro hp9
  refine ⟨?_, ?_, ?_⟩
  · intros
    k_steps
    exact RangeAt.mk (by assumption) (by k_asm) (by k_asm)
  · rintro p v C D' I1 I2 oI1 hp ⟨c, u, hc, rfl⟩ q t oC oI2 ys h tk m₂ E' hq hC hx1 hx2 F N off
    obtain ⟨hlt8, rfl⟩ := txt_get hds hc
    obtain ⟨t8, ht8⟩ := hM.2 _ hlt8
    simp only [LCg.Off3, and_true] at off
    obtain ⟨hne9, hlg9⟩ := pow_den (k := (((i : Nat) : Int) - 1 - ((q : Nat) : Int)).toNat) hb2 hb7 (by omega)
    k_steps
    all_goals (exact kcf_el rfl rfl rfl)
  · intro ys hI
    unfold FinLt
    intro D9 h9 tk9 F9 N9 l9
    rw [txt_size] at hI
    k_steps
    refine' hQ _ _ _ _ _ _ ?a ?b ?c (by k_asm) (by ((with_reducible rename News _ _ _ _ => N9'); exact news_join N9' (news_cut (news_cut N9'))))
    case a => (unfold Off; omega)
    case b => assumption
    case c => assumption
end Mine
end T_G6
section T_G7
open PySem PySem.W PyProof.Rows
set_option maxRecDepth 100000
namespace Mine
local macro_rules | `(tactic| walk_at "pad 0") => `(tactic| fail "pad")
theorem reset_G7 : True := by
  w_top off
  trivial
-- HDR BEGIN
local macro_rules | `(tactic| cell_enter) => `(tactic| first
  | (refine' code_def ?k1 ?k2 ?k3 ?k4 ?k5 ?kA ?kF ?kK ?k6 ?k7 ?k8 ?k9 ?kB ?_ ?c2 ?c3 ?c4 ?c5; (case kA => exact rfl); (case kF => exact rfl); (case kK => first | exact rfl | assumption); (case k1 => k_asm); (case k2 => k_asm); (case k3 => k_asm); (case k4 => k_asm); (case k5 => k_asm); (case k6 => k_is); (case k7 => k_is); (case k8 => ktr_room); (case k9 => first | exact BindsTo.of_eq rfl | exact binds_K (by k_in) rfl (by k_is) rfl rfl rfl | (refine' kp_binds ?kx ?ke; (case kx => k_in); (case ke => exact fun _ => rfl))); (case c5 => decide); (case kB => exact locs rfl); (case c2 => exact rfl); (case c3 => exact rfl); (case c4 => exact rfl); k_whole; intro g' L' h' FG' F' N' B' X' T'; (try dsimp only); (try k_lift B'); (try k_fold))
  | (refine' code_defC ?k1 ?k2 ?k3 ?k4 ?k5 ?kA ?kF ?kK ?k6 ?k7 ?k8 ?k9 ?kB ?kD ?_ ?c2 ?c3 ?c4; (case kA => exact rfl); (case kF => exact rfl); (case kK => first | exact rfl | assumption); (case k1 => k_asm); (case k2 => k_asm); (case k3 => k_asm); (case k4 => k_asm); (case k5 => k_asm); (case k6 => k_is); (case k7 => k_is); (case k8 => ktr_room); (case k9 => first | exact BindsTo.of_eq rfl | exact binds_K (by k_in) rfl (by k_is) rfl rfl rfl | (refine' kp_binds ?kx ?ke; (case kx => k_in); (case ke => exact fun _ => rfl))); (case kB => exact rfl); (case kD => decide +kernel); (case c2 => exact rfl); (case c3 => exact rfl); (case c4 => exact rfl); k_whole; intro g' L' h' tk' cells' FG' F' N' Y' B' X' T' l1; (try k_lt l1); k_cells Y'; (try simp only [List.cons_append, List.nil_append] at N'); (try dsimp only); (try k_lift B'); (try k_fold)))
local macro_rules | `(tactic| walk_at "call ref") => `(tactic| (k_here; k_dflt (refine wpAny_call ?_; cell_enter)))
local macro_rules | `(tactic| k_all) => `(tactic| exact ne_tail (by assumption) (by first | exact Nat.le_refl _ | exact Nat.le_succ _ | omega))
local macro_rules | `(tactic| walk_at "eval BinOp") => `(tactic| (dsimp only; walk1))
local macro_rules | `(tactic| walk_at "eval Call") => `(tactic| (dsimp only; walk1))
local macro_rules | `(tactic| walk_at "binaryOp Pow int int") => `(tactic| (dsimp only; walk1))
-- HDR END
local macro_rules | `(tactic| walk_at "call builtin:len") => `(tactic| (k_here; (with_reducible show wpAny _ _ (call (Value.builtin "len") [Value.bytes _ _]) _ _ _); (refine len_b (by omega) ?_)))
local macro_rules | `(tactic| walk_at "call ref") => `(tactic| (k_here; (with_reducible show wpAny _ _ (call (Value.ref 29) [Value.int _ _, Value.bool _, Value.bytes _ _] _) _ _ _); (try dsimp only); k_dflt (refine' use (enc_int _ _ _ _ (by omega) (by omega) (Nat.lt_of_lt_of_le (by assumption) (by decide))) ?k1 ?k2 ?k3 ?k4 ?k5 ?kK ?kd ?ku ?_; (case k1 => k_asm); (case k2 => k_asm); (case k3 => k_asm); (case k4 => k_asm); (case k5 => k_asm); (case kK => first | exact rfl | assumption); (case kd => ktr_room); (case ku => ktr_units); intro t9 h9 tk9 F9 N9; (try dsimp only); (try k_fold))))
local macro_rules | `(tactic| walk_at "subscriptTail") => `(tactic| (k_here; (with_reducible show wpAny _ _ (subscriptTail _ _ (Value.bytes _ _) (Value.int _ _)) _ _ _); (refine item_b (by omega) (And.left (toI_in (by assumption) (by assumption))) (And.right (toI_in (by assumption) (by assumption))) ?_); intro _ _))
local macro_rules | `(tactic| walk_at "call type:bytes") => `(tactic| (k_here; (with_reducible show wpAny _ _ (call (Value.type "bytes") [Value.ref _]) _ _ _); (try dsimp only); k_dflt (refine' KBa.make_K ?kbaF ?kbaN ?kbah ?kbal ?kbai (sgn_in _ _) ?kban ?_; (case kbaF => k_asm); (case kbaN => k_asm); (case kbah => rfl); (case kbal => kba_isList); (case kbai => kba_listInts); (case kban => ((simp only [List.length_map]); omega))); intro _ _ _ F' N' _; rw [sgn_bytes]))
set_option maxHeartbeats 8000000 in
theorem st6 {w : World} {mean : ExcName → Option Value} {mg mb : Str → Option Value} {dp un : Nat} {gd : Option (List Code)} {cn : Str} {a : Addr} {ccd : Value} {outer : List Env} {A₀ : Around} {base h₀ : Heap} {L : Addr} {m : Str → Option Value} {s : Shared} {Q : Flow → Shared → Prop} {E : Value → Shared → Prop}
   {o11 o10 o9 o8 o7 o6 o5 o4 o3 o2 o1 : Obj} {d : Addr} {dv : List Value} {dr : List Int} {b i j n : Nat} {g : Addr} {gv : List Value} {kg : Nat} {al : Array UInt8} {ta tn tx : Tok} {vx : Value}
   (B : Below A₀ base outer h₀) (F : Fr h₀ L s.heap (fun y => if y = Str.ofString "text" then some (vx) else if y = Str.ofString "number" then some (.int (n : Nat) tn) else m y)) (X : (hd.heap_39 w.params).In h₀)
   (N : News h₀ L s.heap [(g, listOf gv.toArray kg), (d, LCg.lst dv), (L + 11, o11), (L + 10, o10), (L + 9, o9), (L + 8, o8), (L + 7, o7), (L + 6, o6), (L + 5, o5), (L + 4, o4), (L + 3, o3), (L + 2, o2), (L + 1, o1)])
   (T : Top hd.view_39 (looseW hd.view_39 [Str.ofString "b58encode_int", Str.ofString "b58encode", Str.ofString "b58decode_int", Str.ofString "b58decode"]) mean mg mb h₀)
   (hd1 : dp + 20 < recursionLimit) (hu : un + 400 < cLine)
   (oG : Off L g) (hG : IntsAre gv (toI (digN b n))) (hz : al.size = b) (hb2 : 2 ≤ b) (hb7 : b ≤ 7) (hn : n < 2 ^ 80) (hgl : gv.length ≤ 80) (d6 : o6.data = .cell (some (.bytes al ta))) (d10 : o10.data = .cell (some (.ref g)))
   (hQ : ∀ (h' : Heap) (tk' : Nat), Fr h₀ L h' (fun y => if y = Str.ofString "text" then some (vx) else if y = Str.ofString "number" then some (.int (n : Nat) tn) else m y) → News h₀ L h' [(g, listOf gv.toArray kg), (d, LCg.lst dv), (L + 11, o11), (L + 10, o10), (L + 9, o9), (L + 8, o8), (L + 7, o7), (L + 6, o6), (L + 5, o5), (L + 4, o4), (L + 3, o3), (L + 2, o2), (L + 1, o1)] → Q .next { s with heap := h', toks := tk' })
   : wpAny (model PySem.Challenge.rw_fe0041_01.row.prog w) (ktrTop dp un gd cn lawScope L a ccd (lawCl L) outer) (exec (lawSt 6) (envX cn lawScope L a ccd (lawCl L))) Q E s := by
  revert B F X N T
  rw [show lawSt 6 = Stmt.If _ _ _ _ from rfl]
  rw [show lawScope = ⟨_, _, _, _, _⟩ from rfl]
  k_fill
  intro B F X N T
  subst hz
  have hds := digN_ds (b := al.size) n
  have hdl := digN_len (b := al.size) 80 n hn
  k_steps
  all_goals first | (exact hQ _ _ (by k_asm) (by ((with_reducible rename News _ _ _ _ => N9); first | exact N9 | exact news_cut N9 | exact news_cut (news_cut N9) | exact news_cut (news_cut (news_cut N9)) | exact news_cut (news_cut (news_cut (news_cut N9))) | exact news_cut (news_cut (news_cut (news_cut (news_cut N9)))) | exact news_cut (news_cut (news_cut (news_cut (news_cut (news_cut N9)))))))) | (exfalso; (rename ((_ : List UInt8) != _) = true => hb); have hb2 : ((enc al n).toList != (enc al n).toList) = true := hb; rw [bne_self_eq_false] at hb2; cases hb2)
end Mine
end T_G7
section T_G8
open PySem PySem.W PyProof.Rows
set_option maxRecDepth 100000
namespace Mine
theorem reset_G8 : True := by
  w_top off
  trivial
-- HDR BEGIN
local macro_rules | `(tactic| cell_enter) => `(tactic| first
  | (refine' code_def ?k1 ?k2 ?k3 ?k4 ?k5 ?kA ?kF ?kK ?k6 ?k7 ?k8 ?k9 ?kB ?_ ?c2 ?c3 ?c4 ?c5; (case kA => exact rfl); (case kF => exact rfl); (case kK => first | exact rfl | assumption); (case k1 => k_asm); (case k2 => k_asm); (case k3 => k_asm); (case k4 => k_asm); (case k5 => k_asm); (case k6 => k_is); (case k7 => k_is); (case k8 => ktr_room); (case k9 => first | exact BindsTo.of_eq rfl | exact binds_K (by k_in) rfl (by k_is) rfl rfl rfl | (refine' kp_binds ?kx ?ke; (case kx => k_in); (case ke => exact fun _ => rfl))); (case c5 => decide); (case kB => exact locs rfl); (case c2 => exact rfl); (case c3 => exact rfl); (case c4 => exact rfl); k_whole; intro g' L' h' FG' F' N' B' X' T'; (try dsimp only); (try k_lift B'); (try k_fold))
  | (refine' code_defC ?k1 ?k2 ?k3 ?k4 ?k5 ?kA ?kF ?kK ?k6 ?k7 ?k8 ?k9 ?kB ?kD ?_ ?c2 ?c3 ?c4; (case kA => exact rfl); (case kF => exact rfl); (case kK => first | exact rfl | assumption); (case k1 => k_asm); (case k2 => k_asm); (case k3 => k_asm); (case k4 => k_asm); (case k5 => k_asm); (case k6 => k_is); (case k7 => k_is); (case k8 => ktr_room); (case k9 => first | exact BindsTo.of_eq rfl | exact binds_K (by k_in) rfl (by k_is) rfl rfl rfl | (refine' kp_binds ?kx ?ke; (case kx => k_in); (case ke => exact fun _ => rfl))); (case kB => exact rfl); (case kD => decide +kernel); (case c2 => exact rfl); (case c3 => exact rfl); (case c4 => exact rfl); k_whole; intro g' L' h' tk' cells' FG' F' N' Y' B' X' T' l1; (try k_lt l1); k_cells Y'; (try simp only [List.cons_append, List.nil_append] at N'); (try dsimp only); (try k_lift B'); (try k_fold)))
local macro_rules | `(tactic| walk_at "call ref") => `(tactic| (k_here; k_dflt (refine wpAny_call ?_; cell_enter)))
local macro_rules | `(tactic| k_all) => `(tactic| exact ne_tail (by assumption) (by first | exact Nat.le_refl _ | exact Nat.le_succ _ | omega))
local macro_rules | `(tactic| walk_at "eval BinOp") => `(tactic| (dsimp only; walk1))
local macro_rules | `(tactic| walk_at "eval Call") => `(tactic| (dsimp only; walk1))
local macro_rules | `(tactic| walk_at "binaryOp Pow int int") => `(tactic| (dsimp only; walk1))
-- HDR END
set_option maxHeartbeats 8000000 in
theorem st7 {w : World} {mean : ExcName → Option Value} {mg mb : Str → Option Value} {dp un : Nat} {gd : Option (List Code)} {cn : Str} {a : Addr} {ccd : Value} {outer : List Env} {A₀ : Around} {base h₀ : Heap} {L : Addr} {m : Str → Option Value} {s : Shared} {Q : Flow → Shared → Prop} {E : Value → Shared → Prop}
   {o11 o10 o9 o8 o7 o6 o5 o4 o3 o2 o1 : Obj} {d : Addr} {dv : List Value} {dr : List Int} {b i j n : Nat} {g : Addr} {gv : List Value} {kg : Nat} {ns : List Int} {tj : Tok}
   (B : Below A₀ base outer h₀) (F : Fr h₀ L s.heap (m)) (X : (hd.heap_39 w.params).In h₀)
   (N : News h₀ L s.heap [(g, listOf gv.toArray kg), (d, LCg.lst dv), (L + 11, o11), (L + 10, o10), (L + 9, o9), (L + 8, o8), (L + 7, o7), (L + 6, o6), (L + 5, o5), (L + 4, o4), (L + 3, o3), (L + 2, o2), (L + 1, o1)])
   (T : Top hd.view_39 (looseW hd.view_39 [Str.ofString "b58encode_int", Str.ofString "b58encode", Str.ofString "b58decode_int", Str.ofString "b58decode"]) mean mg mb h₀)
   (hd1 : dp + 20 < recursionLimit) (hu : un + 400 < cLine)
   (oG : Off L g) (oD : Off L d) (hG : IntsAre gv ns) (hln : ns.length ≤ 80) (hj1 : 1 ≤ j) (hj5 : j ≤ 5) (d5 : o5.data = .cell (some (.int (j : Nat) tj))) (d10 : o10.data = .cell (some (.ref g)))
   (hQ : ∀ (g' : Addr) (gv' : List Value) (kg' : Nat) (o10' : Obj) (h' : Heap) (tk' : Nat), Off L g' → IntsAre gv' (List.replicate ((-(ns.length : Int)).fmod j).toNat 0 ++ ns) → o10'.data = .cell (some (.ref g')) → Fr h₀ L h' (m) → News h₀ L h' [(g', listOf gv'.toArray kg'), (d, LCg.lst dv), (L + 11, o11), (L + 10, o10'), (L + 9, o9), (L + 8, o8), (L + 7, o7), (L + 6, o6), (L + 5, o5), (L + 4, o4), (L + 3, o3), (L + 2, o2), (L + 1, o1)] → Q .next { s with heap := h', toks := tk' })
   : wpAny (model PySem.Challenge.rw_fe0041_01.row.prog w) (ktrTop dp un gd cn lawScope L a ccd (lawCl L) outer) (exec (lawSt 7) (envX cn lawScope L a ccd (lawCl L))) Q E s := by
  revert B F X N T
  rw [show lawSt 7 = Stmt.Assign _ _ _ from rfl]
  rw [show lawScope = ⟨_, _, _, _, _⟩ from rfl]
  k_fill
  intro B F X N T
  obtain ⟨ho11, ho10, ho9, ho8, ho7, ho6, ho5, ho4, ho3, ho2, ho1⟩ := oG
  obtain ⟨hd11, hd10, hd9, hd8, hd7, hd6, hd5, hd4, hd3, hd2, hd1⟩ := oD
  have hm0 := Int.fmod_nonneg_of_pos (-(ns.length : Int)) (show (0 : Int) < (j : Int) by omega)
  have hm1 := Int.fmod_lt_of_pos (-(ns.length : Int)) (show (0 : Int) < (j : Int) by omega)
  k_steps
  (with_reducible rename IntsAre _ (_ ++ _) => hI9)
  rw [flat_rep] at hI9
  refine' hQ _ _ _ _ _ _ ?a hI9 ?c (by k_asm) (by ((with_reducible rename News _ _ _ _ => N9); exact news_join N9 (news_cut (news_cut (news_cut (news_cut N9))))))
  case c => assumption
  case a => (unfold Off; omega)
end Mine
end T_G8
section T_G9
open PySem PySem.W PyProof.Rows
set_option maxRecDepth 100000
namespace Mine
theorem reset_G9 : True := by
  w_top off
  trivial
-- HDR BEGIN
local macro_rules | `(tactic| cell_enter) => `(tactic| first
  | (refine' code_def ?k1 ?k2 ?k3 ?k4 ?k5 ?kA ?kF ?kK ?k6 ?k7 ?k8 ?k9 ?kB ?_ ?c2 ?c3 ?c4 ?c5; (case kA => exact rfl); (case kF => exact rfl); (case kK => first | exact rfl | assumption); (case k1 => k_asm); (case k2 => k_asm); (case k3 => k_asm); (case k4 => k_asm); (case k5 => k_asm); (case k6 => k_is); (case k7 => k_is); (case k8 => ktr_room); (case k9 => first | exact BindsTo.of_eq rfl | exact binds_K (by k_in) rfl (by k_is) rfl rfl rfl | (refine' kp_binds ?kx ?ke; (case kx => k_in); (case ke => exact fun _ => rfl))); (case c5 => decide); (case kB => exact locs rfl); (case c2 => exact rfl); (case c3 => exact rfl); (case c4 => exact rfl); k_whole; intro g' L' h' FG' F' N' B' X' T'; (try dsimp only); (try k_lift B'); (try k_fold))
  | (refine' code_defC ?k1 ?k2 ?k3 ?k4 ?k5 ?kA ?kF ?kK ?k6 ?k7 ?k8 ?k9 ?kB ?kD ?_ ?c2 ?c3 ?c4; (case kA => exact rfl); (case kF => exact rfl); (case kK => first | exact rfl | assumption); (case k1 => k_asm); (case k2 => k_asm); (case k3 => k_asm); (case k4 => k_asm); (case k5 => k_asm); (case k6 => k_is); (case k7 => k_is); (case k8 => ktr_room); (case k9 => first | exact BindsTo.of_eq rfl | exact binds_K (by k_in) rfl (by k_is) rfl rfl rfl | (refine' kp_binds ?kx ?ke; (case kx => k_in); (case ke => exact fun _ => rfl))); (case kB => exact rfl); (case kD => decide +kernel); (case c2 => exact rfl); (case c3 => exact rfl); (case c4 => exact rfl); k_whole; intro g' L' h' tk' cells' FG' F' N' Y' B' X' T' l1; (try k_lt l1); k_cells Y'; (try simp only [List.cons_append, List.nil_append] at N'); (try dsimp only); (try k_lift B'); (try k_fold)))
local macro_rules | `(tactic| walk_at "call ref") => `(tactic| (k_here; k_dflt (refine wpAny_call ?_; cell_enter)))
local macro_rules | `(tactic| k_all) => `(tactic| exact ne_tail (by assumption) (by first | exact Nat.le_refl _ | exact Nat.le_succ _ | omega))
local macro_rules | `(tactic| walk_at "eval BinOp") => `(tactic| (dsimp only; walk1))
local macro_rules | `(tactic| walk_at "eval Call") => `(tactic| (dsimp only; walk1))
local macro_rules | `(tactic| walk_at "binaryOp Pow int int") => `(tactic| (dsimp only; walk1))
-- HDR END
theorem step_in {n k p j : Nat} (h : n = k * j) (hp : p < k) : (p : Int) * (j : Int) + (j : Int) ≤ (n : Int) := by
  subst h
  have : (p + 1) * j ≤ k * j := Nat.mul_le_mul_right _ hp
  rw [Nat.add_mul, Nat.one_mul] at this
  exact_mod_cast this
def gsum (al : Array UInt8) (ds : List Nat) (b j : Nat) (p : Nat) : Int := sgn al ((valN b ((ds.drop (p * j)).take j) : Nat) : Int)
def chunks (b j kn : Nat) (ds : List Nat) : List Nat := (List.range kn).map fun k => valN b ((ds.drop (k * j)).take j)
local macro_rules | `(tactic| walk_at "subscriptTail Name BinOp ref int") => `(tactic| (k_here; (with_reducible show wpAny _ _ (subscriptTail _ _ (Value.ref _) (Value.int _ _)) _ _ _); (try dsimp only); k_dflt (refine item_li (by k_asm) (by k_mem) (by assumption) (And.left (idx_ok (by assumption) (by assumption) (by assumption) (by assumption) (by assumption))) (by rw [List.length_map]; exact (And.left (And.right (idx_ok (by assumption) (by assumption) (by assumption) (by assumption) (by assumption))))) (And.right (And.right (idx_ok (by assumption) (by assumption) (by assumption) (by assumption) (by assumption)))) ?_); intro _))
theorem exp_ok {j : Nat} {k : Int} (h5 : j ≤ 5) (h0 : 0 ≤ k) (h : k < 0 + ((((j : Nat) : Int) - 0).toNat : Int)) : 0 ≤ ((j : Nat) : Int) - 1 - k ∧ ((j : Nat) : Int) - 1 - k ≤ 1000000 := by omega
theorem base_ok {b : Nat} (h : b ≤ 7) : ((b : Nat) : Int).natAbs < 2 ^ 64 := by omega
local macro_rules | `(tactic| walk_at "binaryOp Pow int int") => `(tactic| (k_here; (try dsimp only); k_dflt (refine pow_int_small (And.left (exp_ok (by assumption) (by assumption) (by assumption))) (And.right (exp_ok (by assumption) (by assumption) (by assumption))) (base_ok (by assumption)) ?_)))
theorem mul_ok {b j : Nat} {x k : Int} (h7 : b ≤ 7) (h5 : j ≤ 5) (h0 : 0 ≤ k) : IntMulOk x (((b : Nat) : Int) ^ (((j : Nat) : Int) - 1 - k).toNat) := by
  have h3 : b ^ (((j : Nat) : Int) - 1 - k).toNat ≤ 7 ^ 5 := Nat.le_trans (Nat.pow_le_pow_left h7 _) (Nat.pow_le_pow_right (by decide) (by omega))
  have h4 : (7 : Nat) ^ 5 < 2 ^ 64 := by decide
  rw [← Int.natCast_pow]
  exact IntMulOk.of_right (PySem.intBits_le_64 (by omega) (by omega))
local macro_rules | `(tactic| walk_at "binaryOp Mult int int") => `(tactic| (k_here; (try dsimp only); k_dflt (refine mul_int ?_ (mul_ok (by assumption) (by assumption) (by assumption)))))
theorem chunk_map (al : Array UInt8) (ds : List Nat) (b j kn : Nat) : ((List.range kn).map fun p => gsum al ds b j p) = (toI (chunks b j kn ds)).map (sgn al) := by
  unfold chunks toI
  rw [List.map_map, List.map_map]
  rfl
theorem gvalI {ds : List Nat} {b j p : Nat} (h : (p : Int) * (j : Int) + (j : Int) ≤ (ds.length : Int)) : ((rangeKs 0 (((j : Nat) : Int) - 0).toNat).map fun k' => (toI ds).getD ((0 : Int) + (p : Int) * (j : Int) + k').toNat 0 * ((b : Nat) : Int) ^ (((j : Nat) : Int) - 1 - k').toNat).sum = ((valN b ((ds.drop (p * j)).take j) : Nat) : Int) := by
  rw [Int.sub_zero, Int.toNat_natCast]
  exact gval (by rw [← Int.natCast_mul] at h; omega)
theorem sum_ok {al : Array UInt8} {ds : List Nat} {b j p : Nat} (hb : 2 ≤ b) (hz : al.size = b ^ j) (h : (p : Int) * (j : Int) + (j : Int) ≤ (ds.length : Int)) (hds : ∀ d ∈ ds, d < b) : 0 ≤ ((valN b ((ds.drop (p * j)).take j) : Nat) : Int) ∧ ((valN b ((ds.drop (p * j)).take j) : Nat) : Int) < (al.size : Int) := by
  rw [hz]
  exact ⟨Int.natCast_nonneg _, Int.ofNat_lt.mpr (gval_lt (by omega) (by rw [← Int.natCast_mul] at h; omega) hds)⟩
theorem sz_ok {al : Array UInt8} {b j : Nat} (hz : al.size = b ^ j) (h : b ^ j ≤ 49) : al.size ≤ 256 := by omega
local macro_rules | `(tactic| walk_at "subscriptTail Name Call bytes int") => `(tactic| (k_here; (try dsimp only); k_dflt (rw [gvalI (by assumption)]; refine item_b (sz_ok (by assumption) (by assumption)) (And.left (sum_ok (by assumption) (by assumption) (by assumption) (by assumption))) (And.right (sum_ok (by assumption) (by assumption) (by assumption) (by assumption))) ?_); intro _ _))
local macro_rules | `(tactic| walk_at "eval ListComp") => `(tactic| (k_here; k_dflt (refine ListComp_cell (F₀ := by k_asm) (by rfl) (by with_unfolding_all rfl) (fun _ _ => rfl) (fun _ => rfl) (by rfl) (by decide) (by rfl) ?_)))
set_option maxHeartbeats 8000000 in
theorem st8 {w : World} {mean : ExcName → Option Value} {mg mb : Str → Option Value} {dp un : Nat} {gd : Option (List Code)} {cn : Str} {a : Addr} {ccd : Value} {outer : List Env} {A₀ : Around} {base h₀ : Heap} {L : Addr} {m : Str → Option Value} {s : Shared} {Q : Flow → Shared → Prop} {E : Value → Shared → Prop}
   {o11 o10 o9 o8 o7 o6 o5 o4 o3 o2 o1 : Obj} {d : Addr} {dv : List Value} {dr : List Int} {b i j n : Nat} {g : Addr} {gv : List Value} {kg kn : Nat} {ds : List Nat} {al : Array UInt8} {ta tb tj : Tok}
   (B : Below A₀ base outer h₀) (F : Fr h₀ L s.heap (m)) (X : (hd.heap_39 w.params).In h₀)
   (N : News h₀ L s.heap [(g, listOf gv.toArray kg), (d, LCg.lst dv), (L + 11, o11), (L + 10, o10), (L + 9, o9), (L + 8, o8), (L + 7, o7), (L + 6, o6), (L + 5, o5), (L + 4, o4), (L + 3, o3), (L + 2, o2), (L + 1, o1)])
   (T : Top hd.view_39 (looseW hd.view_39 [Str.ofString "b58encode_int", Str.ofString "b58encode", Str.ofString "b58decode_int", Str.ofString "b58decode"]) mean mg mb h₀)
   (hd1 : dp + 20 < recursionLimit) (hu : un + 400 < cLine)
   (oG : Off L g) (hG : IntsAre gv (toI ds)) (hln : ds.length ≤ 90) (hz : al.size = b ^ j) (hds : ∀ d ∈ ds, d < b) (hmul : ds.length = kn * j) (hb2 : 2 ≤ b) (hb7 : b ≤ 7) (hj1 : 1 ≤ j) (hj5 : j ≤ 5) (hbj : b ^ j ≤ 49) (hn : n < 2 ^ 80)  (d3 : o3.data = .cell (some (.int (b : Nat) tb))) (d5 : o5.data = .cell (some (.int (j : Nat) tj))) (d8 : o8.data = .cell (some (.bytes al ta))) (d10 : o10.data = .cell (some (.ref g)))
   (hQ : ∀ (to : Tok) (h' : Heap) (tk' : Nat), Fr h₀ L h' (fun y => if y = Str.ofString "other" then some (.bytes (txt al (chunks b j kn ds)) to) else m y) → News h₀ L h' [(g, listOf gv.toArray kg), (d, LCg.lst dv), (L + 11, o11), (L + 10, o10), (L + 9, o9), (L + 8, o8), (L + 7, o7), (L + 6, o6), (L + 5, o5), (L + 4, o4), (L + 3, o3), (L + 2, o2), (L + 1, o1)] → Q .next { s with heap := h', toks := tk' })
   : wpAny (model PySem.Challenge.rw_fe0041_01.row.prog w) (ktrTop dp un gd cn lawScope L a ccd (lawCl L) outer) (exec (lawSt 8) (envX cn lawScope L a ccd (lawCl L))) Q E s := by
  revert B F X N T
  rw [show lawSt 8 = Stmt.Assign _ _ _ from rfl]
  rw [show lawScope = ⟨_, _, _, _, _⟩ from rfl]
  k_fill
  intro B F X N T
  have hlk : (toI ds).length = kn * j := by rw [List.length_map]; exact hmul
  have hkn : kn ≤ 90 := by
    have : kn * 1 ≤ kn * j := Nat.mul_le_mul_left kn hj1
    omega
  k_steps
  refine SrcCell.mk (n := kn) (val := fun p => (0 : Int) + (p : Int) * (j : Int)) (g := fun p => gsum al ds b j p) (by k_asm) (by k_asm) (IterW.range (by assumption) (step_small (by omega) (by omega) hj5 kn hlk) (step_size (by omega) hlk)) (fun _ _ h => h) (by omega) ?_ ?_
  · intro hp9 I9 p C K D oI oC oK ys h tk t E' hp hdK F N off
    simp only [LCg.Off3, and_true] at off
    dsimp only at hdK
    have hpj0 : 0 ≤ (p : Int) * (j : Int) := Int.mul_nonneg (by omega) (by omega)
    have hgl := hG.length
    rw [List.length_map] at hgl
    have hpj : (p : Int) * (j : Int) + (j : Int) ≤ (ds.length : Int) := step_in hmul hp
    k_steps
    all_goals (exact kcf_el rfl rfl rfl)
  · intro hp9 ys hI
    rw [chunk_map] at hI
    have hkl : (toI (chunks b j kn ds)).length ≤ 90 := by rw [List.length_map]; unfold chunks; rw [List.length_map, List.length_range]; exact hkn
    unfold FinLt
    intro D9 h9 tk9 F9 N9 l9
    k_steps
    refine' KBa.make_K (ns := (toI (chunks b j kn ds)).map (sgn al)) ?kbaF ?kbaN ?kbah ?kbal ?kbai (sgn_in _ _) ?kban ?_
    case kbaF => k_asm
    case kbaN => k_asm
    case kbah => rfl
    case kbal => kba_isList
    case kbai => assumption
    case kban => (rw [List.length_map]; exact Nat.le_trans hkl (by decide))
    intro h8 t8 tk8 F8 N8 _
    rw [sgn_bytes]
    k_steps
    all_goals exact hQ _ _ _ (by k_asm) (by ((with_reducible rename News _ _ _ _ => N9); first | exact N9 | exact news_cut N9 | exact news_cut (news_cut N9) | exact news_cut (news_cut (news_cut N9)) | exact news_cut (news_cut (news_cut (news_cut N9))) | exact news_cut (news_cut (news_cut (news_cut (news_cut N9)))) | exact news_cut (news_cut (news_cut (news_cut (news_cut (news_cut N9)))))))
end Mine
end T_G9
section T_G10
open PySem PySem.W PyProof.Rows
set_option maxRecDepth 100000
namespace Mine
theorem reset_G10 : True := by
  w_top off
  trivial
-- HDR BEGIN
local macro_rules | `(tactic| cell_enter) => `(tactic| first
  | (refine' code_def ?k1 ?k2 ?k3 ?k4 ?k5 ?kA ?kF ?kK ?k6 ?k7 ?k8 ?k9 ?kB ?_ ?c2 ?c3 ?c4 ?c5; (case kA => exact rfl); (case kF => exact rfl); (case kK => first | exact rfl | assumption); (case k1 => k_asm); (case k2 => k_asm); (case k3 => k_asm); (case k4 => k_asm); (case k5 => k_asm); (case k6 => k_is); (case k7 => k_is); (case k8 => ktr_room); (case k9 => first | exact BindsTo.of_eq rfl | exact binds_K (by k_in) rfl (by k_is) rfl rfl rfl | (refine' kp_binds ?kx ?ke; (case kx => k_in); (case ke => exact fun _ => rfl))); (case c5 => decide); (case kB => exact locs rfl); (case c2 => exact rfl); (case c3 => exact rfl); (case c4 => exact rfl); k_whole; intro g' L' h' FG' F' N' B' X' T'; (try dsimp only); (try k_lift B'); (try k_fold))
  | (refine' code_defC ?k1 ?k2 ?k3 ?k4 ?k5 ?kA ?kF ?kK ?k6 ?k7 ?k8 ?k9 ?kB ?kD ?_ ?c2 ?c3 ?c4; (case kA => exact rfl); (case kF => exact rfl); (case kK => first | exact rfl | assumption); (case k1 => k_asm); (case k2 => k_asm); (case k3 => k_asm); (case k4 => k_asm); (case k5 => k_asm); (case k6 => k_is); (case k7 => k_is); (case k8 => ktr_room); (case k9 => first | exact BindsTo.of_eq rfl | exact binds_K (by k_in) rfl (by k_is) rfl rfl rfl | (refine' kp_binds ?kx ?ke; (case kx => k_in); (case ke => exact fun _ => rfl))); (case kB => exact rfl); (case kD => decide +kernel); (case c2 => exact rfl); (case c3 => exact rfl); (case c4 => exact rfl); k_whole; intro g' L' h' tk' cells' FG' F' N' Y' B' X' T' l1; (try k_lt l1); k_cells Y'; (try simp only [List.cons_append, List.nil_append] at N'); (try dsimp only); (try k_lift B'); (try k_fold)))
local macro_rules | `(tactic| walk_at "call ref") => `(tactic| (k_here; k_dflt (refine wpAny_call ?_; cell_enter)))
local macro_rules | `(tactic| k_all) => `(tactic| exact ne_tail (by assumption) (by first | exact Nat.le_refl _ | exact Nat.le_succ _ | omega))
local macro_rules | `(tactic| walk_at "eval BinOp") => `(tactic| (dsimp only; walk1))
local macro_rules | `(tactic| walk_at "eval Call") => `(tactic| (dsimp only; walk1))
local macro_rules | `(tactic| walk_at "binaryOp Pow int int") => `(tactic| (dsimp only; walk1))
-- HDR END
local macro_rules | `(tactic| walk_at "call builtin:len") => `(tactic| (k_here; (with_reducible show wpAny _ _ (call (Value.builtin "len") [Value.bytes _ _]) _ _ _); (refine len_b (by omega) ?_)))
local macro_rules | `(tactic| walk_at "call ref") => `(tactic| (k_here; (with_reducible show wpAny _ _ (call (Value.ref 29) [Value.int _ _, Value.bool _, Value.bytes _ _] _) _ _ _); (try dsimp only); k_dflt (refine' use (enc_int _ _ _ _ (by omega) (by omega) (Nat.lt_of_lt_of_le (by assumption) (by decide))) ?k1 ?k2 ?k3 ?k4 ?k5 ?kK ?kd ?ku ?_; (case k1 => k_asm); (case k2 => k_asm); (case k3 => k_asm); (case k4 => k_asm); (case k5 => k_asm); (case kK => first | exact rfl | assumption); (case kd => ktr_room); (case ku => ktr_units); intro t9 h9 tk9 F9 N9; (try dsimp only); (try k_fold))))
set_option maxHeartbeats 8000000 in
theorem st9 {w : World} {mean : ExcName → Option Value} {mg mb : Str → Option Value} {dp un : Nat} {gd : Option (List Code)} {cn : Str} {a : Addr} {ccd : Value} {outer : List Env} {A₀ : Around} {base h₀ : Heap} {L : Addr} {m : Str → Option Value} {s : Shared} {Q : Flow → Shared → Prop} {E : Value → Shared → Prop}
   {o11 o10 o9 o8 o7 o6 o5 o4 o3 o2 o1 : Obj} {d : Addr} {dv : List Value} {dr : List Int} {b i j n : Nat} {g : Addr} {gv : List Value} {kg : Nat} {al : Array UInt8} {ta tn to : Tok} {vt : Value}
   (B : Below A₀ base outer h₀) (F : Fr h₀ L s.heap (fun y => if y = Str.ofString "other" then some (.bytes (enc al n) to) else if y = Str.ofString "text" then some (vt) else if y = Str.ofString "number" then some (.int (n : Nat) tn) else m y)) (X : (hd.heap_39 w.params).In h₀)
   (N : News h₀ L s.heap [(g, listOf gv.toArray kg), (d, LCg.lst dv), (L + 11, o11), (L + 10, o10), (L + 9, o9), (L + 8, o8), (L + 7, o7), (L + 6, o6), (L + 5, o5), (L + 4, o4), (L + 3, o3), (L + 2, o2), (L + 1, o1)])
   (T : Top hd.view_39 (looseW hd.view_39 [Str.ofString "b58encode_int", Str.ofString "b58encode", Str.ofString "b58decode_int", Str.ofString "b58decode"]) mean mg mb h₀)
   (hd1 : dp + 20 < recursionLimit) (hu : un + 400 < cLine)
   (hz2 : 2 ≤ al.size) (hz : al.size ≤ 49) (hn : n < 2 ^ 80) (d8 : o8.data = .cell (some (.bytes al ta)))
   (hQ : ∀ (h' : Heap) (tk' : Nat), Fr h₀ L h' (fun y => if y = Str.ofString "other" then some (.bytes (enc al n) to) else if y = Str.ofString "text" then some (vt) else if y = Str.ofString "number" then some (.int (n : Nat) tn) else m y) → News h₀ L h' [(g, listOf gv.toArray kg), (d, LCg.lst dv), (L + 11, o11), (L + 10, o10), (L + 9, o9), (L + 8, o8), (L + 7, o7), (L + 6, o6), (L + 5, o5), (L + 4, o4), (L + 3, o3), (L + 2, o2), (L + 1, o1)] → Q .next { s with heap := h', toks := tk' })
   : wpAny (model PySem.Challenge.rw_fe0041_01.row.prog w) (ktrTop dp un gd cn lawScope L a ccd (lawCl L) outer) (exec (lawSt 9) (envX cn lawScope L a ccd (lawCl L))) Q E s := by
  revert B F X N T
  rw [show lawSt 9 = Stmt.If _ _ _ _ from rfl]
  rw [show lawScope = ⟨_, _, _, _, _⟩ from rfl]
  k_fill
  intro B F X N T
  k_steps
  all_goals first | (exact hQ _ _ (by k_asm) (by ((with_reducible rename News _ _ _ _ => N9); first | exact N9 | exact news_cut N9 | exact news_cut (news_cut N9) | exact news_cut (news_cut (news_cut N9)) | exact news_cut (news_cut (news_cut (news_cut N9))) | exact news_cut (news_cut (news_cut (news_cut (news_cut N9)))) | exact news_cut (news_cut (news_cut (news_cut (news_cut (news_cut N9)))))))) | (exfalso; (rename ((_ : List UInt8) != _) = true => hb); rw [bne_self_eq_false] at hb; cases hb) | skip
end Mine
end T_G10
section T_G11
open PySem PySem.W PyProof.Rows
set_option maxRecDepth 100000
namespace Mine
theorem reset_G11 : True := by
  w_top off
  trivial
-- HDR BEGIN
local macro_rules | `(tactic| cell_enter) => `(tactic| first
  | (refine' code_def ?k1 ?k2 ?k3 ?k4 ?k5 ?kA ?kF ?kK ?k6 ?k7 ?k8 ?k9 ?kB ?_ ?c2 ?c3 ?c4 ?c5; (case kA => exact rfl); (case kF => exact rfl); (case kK => first | exact rfl | assumption); (case k1 => k_asm); (case k2 => k_asm); (case k3 => k_asm); (case k4 => k_asm); (case k5 => k_asm); (case k6 => k_is); (case k7 => k_is); (case k8 => ktr_room); (case k9 => first | exact BindsTo.of_eq rfl | exact binds_K (by k_in) rfl (by k_is) rfl rfl rfl | (refine' kp_binds ?kx ?ke; (case kx => k_in); (case ke => exact fun _ => rfl))); (case c5 => decide); (case kB => exact locs rfl); (case c2 => exact rfl); (case c3 => exact rfl); (case c4 => exact rfl); k_whole; intro g' L' h' FG' F' N' B' X' T'; (try dsimp only); (try k_lift B'); (try k_fold))
  | (refine' code_defC ?k1 ?k2 ?k3 ?k4 ?k5 ?kA ?kF ?kK ?k6 ?k7 ?k8 ?k9 ?kB ?kD ?_ ?c2 ?c3 ?c4; (case kA => exact rfl); (case kF => exact rfl); (case kK => first | exact rfl | assumption); (case k1 => k_asm); (case k2 => k_asm); (case k3 => k_asm); (case k4 => k_asm); (case k5 => k_asm); (case k6 => k_is); (case k7 => k_is); (case k8 => ktr_room); (case k9 => first | exact BindsTo.of_eq rfl | exact binds_K (by k_in) rfl (by k_is) rfl rfl rfl | (refine' kp_binds ?kx ?ke; (case kx => k_in); (case ke => exact fun _ => rfl))); (case kB => exact rfl); (case kD => decide +kernel); (case c2 => exact rfl); (case c3 => exact rfl); (case c4 => exact rfl); k_whole; intro g' L' h' tk' cells' FG' F' N' Y' B' X' T' l1; (try k_lt l1); k_cells Y'; (try simp only [List.cons_append, List.nil_append] at N'); (try dsimp only); (try k_lift B'); (try k_fold)))
local macro_rules | `(tactic| walk_at "call ref") => `(tactic| (k_here; k_dflt (refine wpAny_call ?_; cell_enter)))
local macro_rules | `(tactic| k_all) => `(tactic| exact ne_tail (by assumption) (by first | exact Nat.le_refl _ | exact Nat.le_succ _ | omega))
local macro_rules | `(tactic| walk_at "eval BinOp") => `(tactic| (dsimp only; walk1))
local macro_rules | `(tactic| walk_at "eval Call") => `(tactic| (dsimp only; walk1))
local macro_rules | `(tactic| walk_at "binaryOp Pow int int") => `(tactic| (dsimp only; walk1))
-- HDR END
theorem dec_int' {w : World} {mean : ExcName → Option Value} {mg mb : Str → Option Value} (t1 t2 : Tok) (al : Array UInt8) (ds : List Nat) (n : Nat) (h2 : 2 ≤ al.size) (h256 : al.size ≤ 256) (hap : Apart al)
   (hsp : ∀ d, d < al.size → Builtin.Bytes.isSpace (al.getD d 0) = false) (hds : ∀ d ∈ ds, d < al.size) (hlen : ds.length ≤ 100) (hn : valN al.size ds = n) :
    Gives 5 w mean mg mb 51 [.bytes (txt al ds) t1, .bytes al t2] [] (fun t => .int (n : Nat) t) := hn ▸ dec_int t1 t2 al ds h2 h256 hap hsp hds hlen
local macro_rules | `(tactic| walk_at "call ref") => `(tactic| (k_here; (with_reducible show wpAny _ _ (call (Value.ref 51) [Value.bytes (txt _ _) _, Value.bytes _ _] _) _ _ _); (try dsimp only); k_dflt (refine' use (dec_int' _ _ _ _ _ (by assumption) (by omega) (by assumption) (by assumption) (by assumption) (by assumption) (by assumption)) ?k1 ?k2 ?k3 ?k4 ?k5 ?kK ?kd ?ku ?_; (case k1 => k_asm); (case k2 => k_asm); (case k3 => k_asm); (case k4 => k_asm); (case k5 => k_asm); (case kK => first | exact rfl | assumption); (case kd => ktr_room); (case ku => ktr_units); intro t9 h9 tk9 F9 N9; (try dsimp only); (try k_fold))))
local macro_rules | `(tactic| walk_at "subscriptTail") => `(tactic| (k_here; (with_reducible show wpAny _ _ (subscriptTail _ _ (Value.bytes _ _) (Value.int _ _)) _ _ _); (refine item_b (Nat.le_trans (by assumption) (by decide)) (And.left (toI_in (by assumption) (by assumption))) (And.right (toI_in (by assumption) (by assumption))) ?_); intro _ _))
local macro_rules | `(tactic| walk_at "call type:bytes") => `(tactic| (k_here; (with_reducible show wpAny _ _ (call (Value.type "bytes") [Value.ref _]) _ _ _); (try dsimp only); k_dflt (refine' KBa.make_K ?kbaF ?kbaN ?kbah ?kbal ?kbai (sgn_in _ _) ?kban ?_; (case kbaF => k_asm); (case kbaN => k_asm); (case kbah => rfl); (case kbal => kba_isList); (case kbai => kba_listInts); (case kban => ((simp only [List.length_map]); omega))); intro _ _ _ F' N' _; rw [sgn_bytes]))
set_option maxHeartbeats 8000000 in
theorem st10 {w : World} {mean : ExcName → Option Value} {mg mb : Str → Option Value} {dp un : Nat} {gd : Option (List Code)} {cn : Str} {a : Addr} {ccd : Value} {outer : List Env} {A₀ : Around} {base h₀ : Heap} {L : Addr} {m : Str → Option Value} {s : Shared} {Q : Flow → Shared → Prop} {E : Value → Shared → Prop}
   {o11 o10 o9 o8 o7 o6 o5 o4 o3 o2 o1 : Obj} {d : Addr} {dv : List Value} {dr : List Int} {b i j n : Nat} {g : Addr} {gv : List Value} {kg : Nat} {al0 al1 al2 : Array UInt8} {ds0 ds1 ds2 : List Nat} {t0 t1 t2 tn to tx : Tok}
   (B : Below A₀ base outer h₀) (F : Fr h₀ L s.heap (fun y => if y = Str.ofString "other" then some (.bytes (txt al2 ds2) to) else if y = Str.ofString "text" then some (.bytes (txt al1 ds1) tx) else if y = Str.ofString "number" then some (.int (n : Nat) tn) else m y)) (X : (hd.heap_39 w.params).In h₀)
   (N : News h₀ L s.heap [(g, listOf gv.toArray kg), (d, LCg.lst dv), (L + 11, o11), (L + 10, o10), (L + 9, o9), (L + 8, o8), (L + 7, o7), (L + 6, o6), (L + 5, o5), (L + 4, o4), (L + 3, o3), (L + 2, o2), (L + 1, o1)])
   (T : Top hd.view_39 (looseW hd.view_39 [Str.ofString "b58encode_int", Str.ofString "b58encode", Str.ofString "b58decode_int", Str.ofString "b58decode"]) mean mg mb h₀)
   (hd1 : dp + 20 < recursionLimit) (hu : un + 400 < cLine)
   (oG : Off L g) (hG : IntsAre gv (toI ds0)) (z02 : 2 ≤ al0.size) (z0 : al0.size ≤ 49) (ap0 : Apart al0) (sp0 : ∀ d, d < al0.size → Builtin.Bytes.isSpace (al0.getD d 0) = false) (z12 : 2 ≤ al1.size) (z1 : al1.size ≤ 49) (ap1 : Apart al1) (sp1 : ∀ d, d < al1.size → Builtin.Bytes.isSpace (al1.getD d 0) = false) (z22 : 2 ≤ al2.size) (z2 : al2.size ≤ 49) (ap2 : Apart al2) (sp2 : ∀ d, d < al2.size → Builtin.Bytes.isSpace (al2.getD d 0) = false) (l0 : ds0.length ≤ 100) (e0 : ∀ d ∈ ds0, d < al0.size) (v0 : valN al0.size ds0 = n) (l1 : ds1.length ≤ 100) (e1 : ∀ d ∈ ds1, d < al1.size) (v1 : valN al1.size ds1 = n) (l2 : ds2.length ≤ 100) (e2 : ∀ d ∈ ds2, d < al2.size) (v2 : valN al2.size ds2 = n) (d6 : o6.data = .cell (some (.bytes al0 t0))) (d7 : o7.data = .cell (some (.bytes al1 t1))) (d8 : o8.data = .cell (some (.bytes al2 t2))) (d10 : o10.data = .cell (some (.ref g)))
   (hQ : ∀ (h' : Heap) (tk' : Nat), Fr h₀ L h' (fun y => if y = Str.ofString "other" then some (.bytes (txt al2 ds2) to) else if y = Str.ofString "text" then some (.bytes (txt al1 ds1) tx) else if y = Str.ofString "number" then some (.int (n : Nat) tn) else m y) → News h₀ L h' [(g, listOf gv.toArray kg), (d, LCg.lst dv), (L + 11, o11), (L + 10, o10), (L + 9, o9), (L + 8, o8), (L + 7, o7), (L + 6, o6), (L + 5, o5), (L + 4, o4), (L + 3, o3), (L + 2, o2), (L + 1, o1)] → Q .next { s with heap := h', toks := tk' })
   : wpAny (model PySem.Challenge.rw_fe0041_01.row.prog w) (ktrTop dp un gd cn lawScope L a ccd (lawCl L) outer) (exec (lawSt 10) (envX cn lawScope L a ccd (lawCl L))) Q E s := by
  revert B F X N T
  rw [show lawSt 10 = Stmt.If _ _ _ _ from rfl]
  rw [show lawScope = ⟨_, _, _, _, _⟩ from rfl]
  k_fill
  intro B F X N T
  k_steps
  all_goals (exact hQ _ _ (by k_asm) (by ((with_reducible rename News _ _ _ _ => N9); first | exact N9 | exact news_cut N9 | exact news_cut (news_cut N9) | exact news_cut (news_cut (news_cut N9)) | exact news_cut (news_cut (news_cut (news_cut N9))) | exact news_cut (news_cut (news_cut (news_cut (news_cut N9)))) | exact news_cut (news_cut (news_cut (news_cut (news_cut (news_cut N9))))))))
end Mine
end T_G11
section T_G12
open PySem PySem.W PyProof.Rows
set_option maxRecDepth 100000
namespace Mine
theorem reset_G12 : True := by
  w_top off
  trivial
-- HDR BEGIN
local macro_rules | `(tactic| cell_enter) => `(tactic| first
  | (refine' code_def ?k1 ?k2 ?k3 ?k4 ?k5 ?kA ?kF ?kK ?k6 ?k7 ?k8 ?k9 ?kB ?_ ?c2 ?c3 ?c4 ?c5; (case kA => exact rfl); (case kF => exact rfl); (case kK => first | exact rfl | assumption); (case k1 => k_asm); (case k2 => k_asm); (case k3 => k_asm); (case k4 => k_asm); (case k5 => k_asm); (case k6 => k_is); (case k7 => k_is); (case k8 => ktr_room); (case k9 => first | exact BindsTo.of_eq rfl | exact binds_K (by k_in) rfl (by k_is) rfl rfl rfl | (refine' kp_binds ?kx ?ke; (case kx => k_in); (case ke => exact fun _ => rfl))); (case c5 => decide); (case kB => exact locs rfl); (case c2 => exact rfl); (case c3 => exact rfl); (case c4 => exact rfl); k_whole; intro g' L' h' FG' F' N' B' X' T'; (try dsimp only); (try k_lift B'); (try k_fold))
  | (refine' code_defC ?k1 ?k2 ?k3 ?k4 ?k5 ?kA ?kF ?kK ?k6 ?k7 ?k8 ?k9 ?kB ?kD ?_ ?c2 ?c3 ?c4; (case kA => exact rfl); (case kF => exact rfl); (case kK => first | exact rfl | assumption); (case k1 => k_asm); (case k2 => k_asm); (case k3 => k_asm); (case k4 => k_asm); (case k5 => k_asm); (case k6 => k_is); (case k7 => k_is); (case k8 => ktr_room); (case k9 => first | exact BindsTo.of_eq rfl | exact binds_K (by k_in) rfl (by k_is) rfl rfl rfl | (refine' kp_binds ?kx ?ke; (case kx => k_in); (case ke => exact fun _ => rfl))); (case kB => exact rfl); (case kD => decide +kernel); (case c2 => exact rfl); (case c3 => exact rfl); (case c4 => exact rfl); k_whole; intro g' L' h' tk' cells' FG' F' N' Y' B' X' T' l1; (try k_lt l1); k_cells Y'; (try simp only [List.cons_append, List.nil_append] at N'); (try dsimp only); (try k_lift B'); (try k_fold)))
local macro_rules | `(tactic| walk_at "call ref") => `(tactic| (k_here; k_dflt (refine wpAny_call ?_; cell_enter)))
local macro_rules | `(tactic| k_all) => `(tactic| exact ne_tail (by assumption) (by first | exact Nat.le_refl _ | exact Nat.le_succ _ | omega))
local macro_rules | `(tactic| walk_at "eval BinOp") => `(tactic| (dsimp only; walk1))
local macro_rules | `(tactic| walk_at "eval Call") => `(tactic| (dsimp only; walk1))
local macro_rules | `(tactic| walk_at "binaryOp Pow int int") => `(tactic| (dsimp only; walk1))
-- HDR END
set_option maxHeartbeats 8000000 in
theorem st11 {w : World} {mean : ExcName → Option Value} {mg mb : Str → Option Value} {dp un : Nat} {gd : Option (List Code)} {cn : Str} {a : Addr} {ccd : Value} {outer : List Env} {A₀ : Around} {base h₀ : Heap} {L : Addr} {m : Str → Option Value} {s : Shared} {Q : Flow → Shared → Prop} {E : Value → Shared → Prop}
   {o11 o10 o9 o8 o7 o6 o5 o4 o3 o2 o1 : Obj} {d : Addr} {dv : List Value} {dr : List Int} 
   (B : Below A₀ base outer h₀) (F : Fr h₀ L s.heap (m)) (X : (hd.heap_39 w.params).In h₀)
   (N : News h₀ L s.heap [(d, LCg.lst dv), (L + 11, o11), (L + 10, o10), (L + 9, o9), (L + 8, o8), (L + 7, o7), (L + 6, o6), (L + 5, o5), (L + 4, o4), (L + 3, o3), (L + 2, o2), (L + 1, o1)])
   (T : Top hd.view_39 (looseW hd.view_39 [Str.ofString "b58encode_int", Str.ofString "b58encode", Str.ofString "b58decode_int", Str.ofString "b58decode"]) mean mg mb h₀)
   (hd1 : dp + 20 < recursionLimit) (hu : un + 400 < cLine)
   (hdr : IntsAre dv dr) (hD : Draws dr) (ho : Off L d) (d2 : o2.data = .cell (some (.ref d)))
   (hQ : ∀ (q : Nat) (tq : Tok) (h' : Heap) (tk' : Nat), q ≤ 3 → Fr h₀ L h' (fun y => if y = Str.ofString "noughts" then some (.int (q : Nat) tq) else m y) → News h₀ L h' [(d, LCg.lst dv), (L + 11, o11), (L + 10, o10), (L + 9, o9), (L + 8, o8), (L + 7, o7), (L + 6, o6), (L + 5, o5), (L + 4, o4), (L + 3, o3), (L + 2, o2), (L + 1, o1)] → Q .next { s with heap := h', toks := tk' })
   : wpAny (model PySem.Challenge.rw_fe0041_01.row.prog w) (ktrTop dp un gd cn lawScope L a ccd (lawCl L) outer) (exec (lawSt 11) (envX cn lawScope L a ccd (lawCl L))) Q E s := by
  revert B F X N T
  rw [show lawSt 11 = Stmt.Assign _ _ _ from rfl]
  rw [show lawScope = ⟨_, _, _, _, _⟩ from rfl]
  k_fill
  intro B F X N T
  obtain ⟨ho11, ho10, ho9, ho8, ho7, ho6, ho5, ho4, ho3, ho2, ho1⟩ := ho
  have hlen7 := hD.len
  have p0 := hD.lo (Int.toNat 0)
  have p1 := hD.lo (Int.toNat 1)
  have p2 := hD.lo (Int.toNat 2)
  have p3 := hD.lo (Int.toNat 3)
  have p4 := hD.lo (Int.toNat 4)
  have p5 := hD.lo (Int.toNat 5)
  have p6 := hD.lo (Int.toNat 6)
  have q0 := hD.hi (Int.toNat 0)
  have q1 := hD.hi (Int.toNat 1)
  have q2 := hD.hi (Int.toNat 2)
  have q3 := hD.hi (Int.toNat 3)
  have q4 := hD.hi (Int.toNat 4)
  have q5 := hD.hi (Int.toNat 5)
  have q6 := hD.hi (Int.toNat 6)
  k_steps
  obtain ⟨q, hq⟩ := Int.eq_ofNat_of_zero_le (Int.fmod_nonneg_of_pos ((dr.getD (Int.toNat 4) 0).fdiv 10) (show (0 : Int) < 4 by decide))
  have hq2 := Int.fmod_lt_of_pos ((dr.getD (Int.toNat 4) 0).fdiv 10) (show (0 : Int) < 4 by decide)
  rw [hq] at hq2
  (with_reducible rename Fr _ _ _ _ => F9)
  rw [hq] at F9
  exact hQ q _ _ _ (by omega) F9 (by ((with_reducible rename News _ _ _ _ => N9); first | exact N9 | exact news_cut N9 | exact news_cut (news_cut N9) | exact news_cut (news_cut (news_cut N9)) | exact news_cut (news_cut (news_cut (news_cut N9))) | exact news_cut (news_cut (news_cut (news_cut (news_cut N9)))) | exact news_cut (news_cut (news_cut (news_cut (news_cut (news_cut N9)))))))
end Mine
end T_G12
section T_G13
open PySem PySem.W PyProof.Rows
set_option maxRecDepth 100000
namespace Mine
theorem reset_G13 : True := by
  w_top off
  trivial
-- HDR BEGIN
local macro_rules | `(tactic| cell_enter) => `(tactic| first
  | (refine' code_def ?k1 ?k2 ?k3 ?k4 ?k5 ?kA ?kF ?kK ?k6 ?k7 ?k8 ?k9 ?kB ?_ ?c2 ?c3 ?c4 ?c5; (case kA => exact rfl); (case kF => exact rfl); (case kK => first | exact rfl | assumption); (case k1 => k_asm); (case k2 => k_asm); (case k3 => k_asm); (case k4 => k_asm); (case k5 => k_asm); (case k6 => k_is); (case k7 => k_is); (case k8 => ktr_room); (case k9 => first | exact BindsTo.of_eq rfl | exact binds_K (by k_in) rfl (by k_is) rfl rfl rfl | (refine' kp_binds ?kx ?ke; (case kx => k_in); (case ke => exact fun _ => rfl))); (case c5 => decide); (case kB => exact locs rfl); (case c2 => exact rfl); (case c3 => exact rfl); (case c4 => exact rfl); k_whole; intro g' L' h' FG' F' N' B' X' T'; (try dsimp only); (try k_lift B'); (try k_fold))
  | (refine' code_defC ?k1 ?k2 ?k3 ?k4 ?k5 ?kA ?kF ?kK ?k6 ?k7 ?k8 ?k9 ?kB ?kD ?_ ?c2 ?c3 ?c4; (case kA => exact rfl); (case kF => exact rfl); (case kK => first | exact rfl | assumption); (case k1 => k_asm); (case k2 => k_asm); (case k3 => k_asm); (case k4 => k_asm); (case k5 => k_asm); (case k6 => k_is); (case k7 => k_is); (case k8 => ktr_room); (case k9 => first | exact BindsTo.of_eq rfl | exact binds_K (by k_in) rfl (by k_is) rfl rfl rfl | (refine' kp_binds ?kx ?ke; (case kx => k_in); (case ke => exact fun _ => rfl))); (case kB => exact rfl); (case kD => decide +kernel); (case c2 => exact rfl); (case c3 => exact rfl); (case c4 => exact rfl); k_whole; intro g' L' h' tk' cells' FG' F' N' Y' B' X' T' l1; (try k_lt l1); k_cells Y'; (try simp only [List.cons_append, List.nil_append] at N'); (try dsimp only); (try k_lift B'); (try k_fold)))
local macro_rules | `(tactic| walk_at "call ref") => `(tactic| (k_here; k_dflt (refine wpAny_call ?_; cell_enter)))
local macro_rules | `(tactic| k_all) => `(tactic| exact ne_tail (by assumption) (by first | exact Nat.le_refl _ | exact Nat.le_succ _ | omega))
local macro_rules | `(tactic| walk_at "eval BinOp") => `(tactic| (dsimp only; walk1))
local macro_rules | `(tactic| walk_at "eval Call") => `(tactic| (dsimp only; walk1))
local macro_rules | `(tactic| walk_at "binaryOp Pow int int") => `(tactic| (dsimp only; walk1))
-- HDR END
local macro_rules | `(tactic| walk_at "call type:bytes") => `(tactic| (k_here; (with_reducible show wpAny _ _ (call (Value.type "bytes") [Value.int _ _]) _ _ _); (refine call_bytes_zeros (by omega) ?_); intro _ _))
local macro_rules | `(tactic| walk_at "getMethod int") => `(tactic| (k_here; (refine meth_bit_length ?_)))
local macro_rules | `(tactic| walk_at "getMethod int") => `(tactic| (k_here; (with_reducible refine KTBy.method ?_)))
local macro_rules | `(tactic| walk_at "call builtin:int.bit_length") => `(tactic| (k_here; (refine call_bit_length ?_)))
local macro_rules | `(tactic| walk_at "call builtin:int.to_bytes") => `(tactic| (k_here; (try dsimp only); (refine call_octets (by assumption) ?_); intro _ _))
local macro_rules | `(tactic| walk_at "binaryOp Add bytes bytes") => `(tactic| (k_here; (refine add_b (by (rw [Array.size_replicate, List.size_toArray, List.length_map]); omega) ?_); intro _ _; rw [octets_eq]))
set_option maxHeartbeats 8000000 in
theorem st12 {w : World} {mean : ExcName → Option Value} {mg mb : Str → Option Value} {dp un : Nat} {gd : Option (List Code)} {cn : Str} {a : Addr} {ccd : Value} {outer : List Env} {A₀ : Around} {base h₀ : Heap} {L : Addr} {m : Str → Option Value} {s : Shared} {Q : Flow → Shared → Prop} {E : Value → Shared → Prop}
   {o11 o10 o9 o8 o7 o6 o5 o4 o3 o2 o1 : Obj} {d : Addr} {dv : List Value} {dr : List Int} {q n : Nat} {tq tn : Tok} {vo vt : Value}
   (B : Below A₀ base outer h₀) (F : Fr h₀ L s.heap (fun y => if y = Str.ofString "noughts" then some (.int (q : Nat) tq) else if y = Str.ofString "other" then some (vo) else if y = Str.ofString "text" then some (vt) else if y = Str.ofString "number" then some (.int (n : Nat) tn) else m y)) (X : (hd.heap_39 w.params).In h₀)
   (N : News h₀ L s.heap [(d, LCg.lst dv), (L + 11, o11), (L + 10, o10), (L + 9, o9), (L + 8, o8), (L + 7, o7), (L + 6, o6), (L + 5, o5), (L + 4, o4), (L + 3, o3), (L + 2, o2), (L + 1, o1)])
   (T : Top hd.view_39 (looseW hd.view_39 [Str.ofString "b58encode_int", Str.ofString "b58encode", Str.ofString "b58decode_int", Str.ofString "b58decode"]) mean mg mb h₀)
   (hd1 : dp + 20 < recursionLimit) (hu : un + 400 < cLine)
   (hq : q ≤ 3) (hn : n < 2 ^ 80)
   (hQ : ∀ (tz : Tok) (h' : Heap) (tk' : Nat), Fr h₀ L h' (fun y => if y = Str.ofString "octets" then some (.bytes ((List.replicate q 0 ++ (digN 256 n).map UInt8.ofNat).toArray) tz) else if y = Str.ofString "noughts" then some (.int (q : Nat) tq) else if y = Str.ofString "other" then some (vo) else if y = Str.ofString "text" then some (vt) else if y = Str.ofString "number" then some (.int (n : Nat) tn) else m y) → News h₀ L h' [(d, LCg.lst dv), (L + 11, o11), (L + 10, o10), (L + 9, o9), (L + 8, o8), (L + 7, o7), (L + 6, o6), (L + 5, o5), (L + 4, o4), (L + 3, o3), (L + 2, o2), (L + 1, o1)] → Q .next { s with heap := h', toks := tk' })
   : wpAny (model PySem.Challenge.rw_fe0041_01.row.prog w) (ktrTop dp un gd cn lawScope L a ccd (lawCl L) outer) (exec (lawSt 12) (envX cn lawScope L a ccd (lawCl L))) Q E s := by
  revert B F X N T
  rw [show lawSt 12 = Stmt.Assign _ _ _ from rfl]
  rw [show lawScope = ⟨_, _, _, _, _⟩ from rfl]
  k_fill
  intro B F X N T
  have hdl := digN_len (b := 256) 80 n hn
  k_steps
  all_goals (exact hQ _ _ _ (by k_asm) (by ((with_reducible rename News _ _ _ _ => N9); first | exact N9 | exact news_cut N9 | exact news_cut (news_cut N9) | exact news_cut (news_cut (news_cut N9)) | exact news_cut (news_cut (news_cut (news_cut N9))) | exact news_cut (news_cut (news_cut (news_cut (news_cut N9)))) | exact news_cut (news_cut (news_cut (news_cut (news_cut (news_cut N9))))))))
end Mine
end T_G13
section T_G14
open PySem PySem.W PyProof.Rows
set_option maxRecDepth 100000
namespace Mine
theorem reset_G14 : True := by
  w_top off
  trivial
-- HDR BEGIN
local macro_rules | `(tactic| cell_enter) => `(tactic| first
  | (refine' code_def ?k1 ?k2 ?k3 ?k4 ?k5 ?kA ?kF ?kK ?k6 ?k7 ?k8 ?k9 ?kB ?_ ?c2 ?c3 ?c4 ?c5; (case kA => exact rfl); (case kF => exact rfl); (case kK => first | exact rfl | assumption); (case k1 => k_asm); (case k2 => k_asm); (case k3 => k_asm); (case k4 => k_asm); (case k5 => k_asm); (case k6 => k_is); (case k7 => k_is); (case k8 => ktr_room); (case k9 => first | exact BindsTo.of_eq rfl | exact binds_K (by k_in) rfl (by k_is) rfl rfl rfl | (refine' kp_binds ?kx ?ke; (case kx => k_in); (case ke => exact fun _ => rfl))); (case c5 => decide); (case kB => exact locs rfl); (case c2 => exact rfl); (case c3 => exact rfl); (case c4 => exact rfl); k_whole; intro g' L' h' FG' F' N' B' X' T'; (try dsimp only); (try k_lift B'); (try k_fold))
  | (refine' code_defC ?k1 ?k2 ?k3 ?k4 ?k5 ?kA ?kF ?kK ?k6 ?k7 ?k8 ?k9 ?kB ?kD ?_ ?c2 ?c3 ?c4; (case kA => exact rfl); (case kF => exact rfl); (case kK => first | exact rfl | assumption); (case k1 => k_asm); (case k2 => k_asm); (case k3 => k_asm); (case k4 => k_asm); (case k5 => k_asm); (case k6 => k_is); (case k7 => k_is); (case k8 => ktr_room); (case k9 => first | exact BindsTo.of_eq rfl | exact binds_K (by k_in) rfl (by k_is) rfl rfl rfl | (refine' kp_binds ?kx ?ke; (case kx => k_in); (case ke => exact fun _ => rfl))); (case kB => exact rfl); (case kD => decide +kernel); (case c2 => exact rfl); (case c3 => exact rfl); (case c4 => exact rfl); k_whole; intro g' L' h' tk' cells' FG' F' N' Y' B' X' T' l1; (try k_lt l1); k_cells Y'; (try simp only [List.cons_append, List.nil_append] at N'); (try dsimp only); (try k_lift B'); (try k_fold)))
local macro_rules | `(tactic| walk_at "call ref") => `(tactic| (k_here; k_dflt (refine wpAny_call ?_; cell_enter)))
local macro_rules | `(tactic| k_all) => `(tactic| exact ne_tail (by assumption) (by first | exact Nat.le_refl _ | exact Nat.le_succ _ | omega))
local macro_rules | `(tactic| walk_at "eval BinOp") => `(tactic| (dsimp only; walk1))
local macro_rules | `(tactic| walk_at "eval Call") => `(tactic| (dsimp only; walk1))
local macro_rules | `(tactic| walk_at "binaryOp Pow int int") => `(tactic| (dsimp only; walk1))
-- HDR END
set_option maxHeartbeats 8000000 in
theorem st13 {w : World} {mean : ExcName → Option Value} {mg mb : Str → Option Value} {dp un : Nat} {gd : Option (List Code)} {cn : Str} {a : Addr} {ccd : Value} {outer : List Env} {A₀ : Around} {base h₀ : Heap} {L : Addr} {m : Str → Option Value} {s : Shared} {Q : Flow → Shared → Prop} {E : Value → Shared → Prop}
   {o11 o10 o9 o8 o7 o6 o5 o4 o3 o2 o1 : Obj} {d : Addr} {dv : List Value} {dr : List Int} 
   (B : Below A₀ base outer h₀) (F : Fr h₀ L s.heap (m)) (X : (hd.heap_39 w.params).In h₀)
   (N : News h₀ L s.heap [(d, LCg.lst dv), (L + 11, o11), (L + 10, o10), (L + 9, o9), (L + 8, o8), (L + 7, o7), (L + 6, o6), (L + 5, o5), (L + 4, o4), (L + 3, o3), (L + 2, o2), (L + 1, o1)])
   (T : Top hd.view_39 (looseW hd.view_39 [Str.ofString "b58encode_int", Str.ofString "b58encode", Str.ofString "b58decode_int", Str.ofString "b58decode"]) mean mg mb h₀)
   (hd1 : dp + 20 < recursionLimit) (hu : un + 400 < cLine)
   (hdr : IntsAre dv dr) (hD : Draws dr) (ho : Off L d) (d2 : o2.data = .cell (some (.ref d))) (d11 : o11.data = .cell none)
   (hQ : ∀ (al : Array UInt8) (ta : Tok) (o11' : Obj) (h' : Heap) (tk' : Nat), al.size = 256 → Apart al → o11'.data = .cell (some (.bytes al ta)) → Fr h₀ L h' (m) → News h₀ L h' [(d, LCg.lst dv), (L + 11, o11'), (L + 10, o10), (L + 9, o9), (L + 8, o8), (L + 7, o7), (L + 6, o6), (L + 5, o5), (L + 4, o4), (L + 3, o3), (L + 2, o2), (L + 1, o1)] → Q .next { s with heap := h', toks := tk' })
   : wpAny (model PySem.Challenge.rw_fe0041_01.row.prog w) (ktrTop dp un gd cn lawScope L a ccd (lawCl L) outer) (exec (lawSt 13) (envX cn lawScope L a ccd (lawCl L))) Q E s := by
  revert B F X N T
  rw [show lawSt 13 = Stmt.Assign _ _ _ from rfl]
  rw [show lawScope = ⟨_, _, _, _, _⟩ from rfl]
  k_fill
  intro B F X N T
  obtain ⟨ho11, ho10, ho9, ho8, ho7, ho6, ho5, ho4, ho3, ho2, ho1⟩ := ho
  have hlen7 := hD.len
  have p0 := hD.lo (Int.toNat 0)
  have p1 := hD.lo (Int.toNat 1)
  have p2 := hD.lo (Int.toNat 2)
  have p3 := hD.lo (Int.toNat 3)
  have p4 := hD.lo (Int.toNat 4)
  have p5 := hD.lo (Int.toNat 5)
  have p6 := hD.lo (Int.toNat 6)
  have q0 := hD.hi (Int.toNat 0)
  have q1 := hD.hi (Int.toNat 1)
  have q2 := hD.hi (Int.toNat 2)
  have q3 := hD.hi (Int.toNat 3)
  have q4 := hD.hi (Int.toNat 4)
  have q5 := hD.hi (Int.toNat 5)
  have q6 := hD.hi (Int.toNat 6)
  k_steps
  refine' hQ _ _ _ _ _ ?a ?b ?c (by k_asm) (by ((with_reducible rename News _ _ _ _ => N9); first | exact N9 | exact news_cut N9 | exact news_cut (news_cut N9) | exact news_cut (news_cut (news_cut N9)) | exact news_cut (news_cut (news_cut (news_cut N9))) | exact news_cut (news_cut (news_cut (news_cut (news_cut N9)))) | exact news_cut (news_cut (news_cut (news_cut (news_cut (news_cut N9)))))))
  case c => assumption
  case a => exact whole_size
  case b => exact whole_apart
end Mine
end T_G14
section T_G15
open PySem PySem.W PyProof.Rows
set_option maxRecDepth 100000
namespace Mine
theorem reset_G15 : True := by
  w_top off
  trivial
-- HDR BEGIN
local macro_rules | `(tactic| cell_enter) => `(tactic| first
  | (refine' code_def ?k1 ?k2 ?k3 ?k4 ?k5 ?kA ?kF ?kK ?k6 ?k7 ?k8 ?k9 ?kB ?_ ?c2 ?c3 ?c4 ?c5; (case kA => exact rfl); (case kF => exact rfl); (case kK => first | exact rfl | assumption); (case k1 => k_asm); (case k2 => k_asm); (case k3 => k_asm); (case k4 => k_asm); (case k5 => k_asm); (case k6 => k_is); (case k7 => k_is); (case k8 => ktr_room); (case k9 => first | exact BindsTo.of_eq rfl | exact binds_K (by k_in) rfl (by k_is) rfl rfl rfl | (refine' kp_binds ?kx ?ke; (case kx => k_in); (case ke => exact fun _ => rfl))); (case c5 => decide); (case kB => exact locs rfl); (case c2 => exact rfl); (case c3 => exact rfl); (case c4 => exact rfl); k_whole; intro g' L' h' FG' F' N' B' X' T'; (try dsimp only); (try k_lift B'); (try k_fold))
  | (refine' code_defC ?k1 ?k2 ?k3 ?k4 ?k5 ?kA ?kF ?kK ?k6 ?k7 ?k8 ?k9 ?kB ?kD ?_ ?c2 ?c3 ?c4; (case kA => exact rfl); (case kF => exact rfl); (case kK => first | exact rfl | assumption); (case k1 => k_asm); (case k2 => k_asm); (case k3 => k_asm); (case k4 => k_asm); (case k5 => k_asm); (case k6 => k_is); (case k7 => k_is); (case k8 => ktr_room); (case k9 => first | exact BindsTo.of_eq rfl | exact binds_K (by k_in) rfl (by k_is) rfl rfl rfl | (refine' kp_binds ?kx ?ke; (case kx => k_in); (case ke => exact fun _ => rfl))); (case kB => exact rfl); (case kD => decide +kernel); (case c2 => exact rfl); (case c3 => exact rfl); (case c4 => exact rfl); k_whole; intro g' L' h' tk' cells' FG' F' N' Y' B' X' T' l1; (try k_lt l1); k_cells Y'; (try simp only [List.cons_append, List.nil_append] at N'); (try dsimp only); (try k_lift B'); (try k_fold)))
local macro_rules | `(tactic| walk_at "call ref") => `(tactic| (k_here; k_dflt (refine wpAny_call ?_; cell_enter)))
local macro_rules | `(tactic| k_all) => `(tactic| exact ne_tail (by assumption) (by first | exact Nat.le_refl _ | exact Nat.le_succ _ | omega))
local macro_rules | `(tactic| walk_at "eval BinOp") => `(tactic| (dsimp only; walk1))
local macro_rules | `(tactic| walk_at "eval Call") => `(tactic| (dsimp only; walk1))
local macro_rules | `(tactic| walk_at "binaryOp Pow int int") => `(tactic| (dsimp only; walk1))
-- HDR END
local macro_rules | `(tactic| walk_at "call builtin:len") => `(tactic| (k_here; (with_reducible show wpAny _ _ (call (Value.builtin "len") [Value.bytes _ _]) _ _ _); (refine len_b (by omega) ?_)))
theorem enc_bytes' {w : World} {mean : ExcName → Option Value} {mg mb : Str → Option Value} (v : Array UInt8) (t1 t2 : Tok) (al r : Array UInt8) (h2 : 2 ≤ al.size) (h256 : al.size ≤ 256) (hv : v.size ≤ 20) (hn : val256 (stripS #[0] v) < 2 ^ 90) (hr : encB al v = r) :
    Gives 6 w mean mg mb 37 [.bytes v t1, .bytes al t2] [] (fun t => .bytes r t) := hr ▸ enc_bytes v t1 t2 al h2 h256 (by omega) hn
local macro_rules | `(tactic| walk_at "call ref") => `(tactic| (k_here; (with_reducible show wpAny _ _ (call (Value.ref 37) [Value.bytes _ _, Value.bytes _ _] _) _ _ _); (try dsimp only); k_dflt (refine' use (enc_bytes' _ _ _ _ _ (by omega) (by omega) (by assumption) (by assumption) (by assumption)) ?k1 ?k2 ?k3 ?k4 ?k5 ?kK ?kd ?ku ?_; (case k1 => k_asm); (case k2 => k_asm); (case k3 => k_asm); (case k4 => k_asm); (case k5 => k_asm); (case kK => first | exact rfl | assumption); (case kd => ktr_room); (case ku => ktr_units); intro t9 h9 tk9 F9 N9; (try dsimp only); (try k_fold))))
theorem byte_in {b : Array UInt8} {k : Int} (h : k ∈ KBw.bInts b) : 0 ≤ k ∧ k < 256 := KBw.ints_in h
local macro_rules | `(tactic| walk_at "eval ListComp") => `(tactic| (k_here; k_dflt (refine ListComp_It (F₀ := by k_asm) (by rfl) (by with_unfolding_all rfl) (by decide) (by rfl) (by decide) (by rfl) ?_)))
local macro_rules | `(tactic| walk_at "subscriptTail") => `(tactic| (k_here; (with_reducible show wpAny _ _ (subscriptTail _ _ (Value.bytes _ _) (Value.int _ _)) _ _ _); (have hk9 := byte_in (by assumption)); (refine item_b (by omega) (And.left hk9) (by omega) ?_); intro _ _))
local macro_rules | `(tactic| walk_at "call type:bytes") => `(tactic| (k_here; (with_reducible show wpAny _ _ (call (Value.type "bytes") [Value.ref _]) _ _ _); (try dsimp only); k_dflt (refine' KBa.make_K ?kbaF ?kbaN ?kbah ?kbal ?kbai (sgn_in _ _) ?kban ?_; (case kbaF => k_asm); (case kbaN => k_asm); (case kbah => rfl); (case kbal => kba_isList); (case kbai => kba_listInts); (case kban => ((rw [List.length_map, KBw.ints_length]); omega))); intro _ _ _ F' N' _))
set_option maxHeartbeats 8000000 in
theorem st14 {w : World} {mean : ExcName → Option Value} {mg mb : Str → Option Value} {dp un : Nat} {gd : Option (List Code)} {cn : Str} {a : Addr} {ccd : Value} {outer : List Env} {A₀ : Around} {base h₀ : Heap} {L : Addr} {m : Str → Option Value} {s : Shared} {Q : Flow → Shared → Prop} {E : Value → Shared → Prop}
   {o11 o10 o9 o8 o7 o6 o5 o4 o3 o2 o1 : Obj} {d : Addr} {dv : List Value} {dr : List Int} {al oc : Array UInt8} {tz ta : Tok}
   (B : Below A₀ base outer h₀) (F : Fr h₀ L s.heap (fun y => if y = Str.ofString "octets" then some (.bytes oc tz) else m y)) (X : (hd.heap_39 w.params).In h₀)
   (N : News h₀ L s.heap [(d, LCg.lst dv), (L + 11, o11), (L + 10, o10), (L + 9, o9), (L + 8, o8), (L + 7, o7), (L + 6, o6), (L + 5, o5), (L + 4, o4), (L + 3, o3), (L + 2, o2), (L + 1, o1)])
   (T : Top hd.view_39 (looseW hd.view_39 [Str.ofString "b58encode_int", Str.ofString "b58encode", Str.ofString "b58decode_int", Str.ofString "b58decode"]) mean mg mb h₀)
   (hd1 : dp + 20 < recursionLimit) (hu : un + 400 < cLine)
   (hz : al.size = 256) (ho : oc.size ≤ 20) (hv : val256 (stripS #[0] oc) < 2 ^ 90) (d11 : o11.data = .cell (some (.bytes al ta))) (hre : encB al oc = byteArr ((KBw.bInts oc).map (sgn al)))
   (hQ : ∀ (h' : Heap) (tk' : Nat), Fr h₀ L h' (fun y => if y = Str.ofString "octets" then some (.bytes oc tz) else m y) → News h₀ L h' [(d, LCg.lst dv), (L + 11, o11), (L + 10, o10), (L + 9, o9), (L + 8, o8), (L + 7, o7), (L + 6, o6), (L + 5, o5), (L + 4, o4), (L + 3, o3), (L + 2, o2), (L + 1, o1)] → Q .next { s with heap := h', toks := tk' })
   : wpAny (model PySem.Challenge.rw_fe0041_01.row.prog w) (ktrTop dp un gd cn lawScope L a ccd (lawCl L) outer) (exec (lawSt 14) (envX cn lawScope L a ccd (lawCl L))) Q E s := by
  revert B F X N T
  rw [show lawSt 14 = Stmt.If _ _ _ _ from rfl]
  rw [show lawScope = ⟨_, _, _, _, _⟩ from rfl]
  k_fill
  intro B F X N T
  k_steps
  refine SrcIt.mk (by k_asm) (by k_asm) (IterW.bytes _ _ _) (by (rw [sizeLine_eq]; omega)) ?_
  intro g
  refine kcf_rest (ks := KBw.bInts oc) (sgn al) (KBw.ints_length oc) (fun i v hi hv => ?_) ?_ ?_
  · obtain ⟨c, u, hc, rfl⟩ := hv
    exact ⟨_, u, KBw.ints_get hc, rfl⟩
  · intros
    k_steps
  · k_steps
    all_goals first | (exact hQ _ _ (by k_asm) (by ((with_reducible rename News _ _ _ _ => N9); first | exact N9 | exact news_cut N9 | exact news_cut (news_cut N9) | exact news_cut (news_cut (news_cut N9)) | exact news_cut (news_cut (news_cut (news_cut N9))) | exact news_cut (news_cut (news_cut (news_cut (news_cut N9)))) | exact news_cut (news_cut (news_cut (news_cut (news_cut (news_cut N9)))))))) | (exfalso; (rename ((_ : List UInt8) != _) = true => hb); rw [bne_self_eq_false] at hb; cases hb)
end Mine
end T_G15
section T_G16
open PySem PySem.W PyProof.Rows
set_option maxRecDepth 100000
namespace Mine
theorem reset_G16 : True := by
  w_top off
  trivial
-- HDR BEGIN
local macro_rules | `(tactic| cell_enter) => `(tactic| first
  | (refine' code_def ?k1 ?k2 ?k3 ?k4 ?k5 ?kA ?kF ?kK ?k6 ?k7 ?k8 ?k9 ?kB ?_ ?c2 ?c3 ?c4 ?c5; (case kA => exact rfl); (case kF => exact rfl); (case kK => first | exact rfl | assumption); (case k1 => k_asm); (case k2 => k_asm); (case k3 => k_asm); (case k4 => k_asm); (case k5 => k_asm); (case k6 => k_is); (case k7 => k_is); (case k8 => ktr_room); (case k9 => first | exact BindsTo.of_eq rfl | exact binds_K (by k_in) rfl (by k_is) rfl rfl rfl | (refine' kp_binds ?kx ?ke; (case kx => k_in); (case ke => exact fun _ => rfl))); (case c5 => decide); (case kB => exact locs rfl); (case c2 => exact rfl); (case c3 => exact rfl); (case c4 => exact rfl); k_whole; intro g' L' h' FG' F' N' B' X' T'; (try dsimp only); (try k_lift B'); (try k_fold))
  | (refine' code_defC ?k1 ?k2 ?k3 ?k4 ?k5 ?kA ?kF ?kK ?k6 ?k7 ?k8 ?k9 ?kB ?kD ?_ ?c2 ?c3 ?c4; (case kA => exact rfl); (case kF => exact rfl); (case kK => first | exact rfl | assumption); (case k1 => k_asm); (case k2 => k_asm); (case k3 => k_asm); (case k4 => k_asm); (case k5 => k_asm); (case k6 => k_is); (case k7 => k_is); (case k8 => ktr_room); (case k9 => first | exact BindsTo.of_eq rfl | exact binds_K (by k_in) rfl (by k_is) rfl rfl rfl | (refine' kp_binds ?kx ?ke; (case kx => k_in); (case ke => exact fun _ => rfl))); (case kB => exact rfl); (case kD => decide +kernel); (case c2 => exact rfl); (case c3 => exact rfl); (case c4 => exact rfl); k_whole; intro g' L' h' tk' cells' FG' F' N' Y' B' X' T' l1; (try k_lt l1); k_cells Y'; (try simp only [List.cons_append, List.nil_append] at N'); (try dsimp only); (try k_lift B'); (try k_fold)))
local macro_rules | `(tactic| walk_at "call ref") => `(tactic| (k_here; k_dflt (refine wpAny_call ?_; cell_enter)))
local macro_rules | `(tactic| k_all) => `(tactic| exact ne_tail (by assumption) (by first | exact Nat.le_refl _ | exact Nat.le_succ _ | omega))
local macro_rules | `(tactic| walk_at "eval BinOp") => `(tactic| (dsimp only; walk1))
local macro_rules | `(tactic| walk_at "eval Call") => `(tactic| (dsimp only; walk1))
local macro_rules | `(tactic| walk_at "binaryOp Pow int int") => `(tactic| (dsimp only; walk1))
-- HDR END
theorem enc_bytes16' {w : World} {mean : ExcName → Option Value} {mg mb : Str → Option Value} (v : Array UInt8) (t1 t2 : Tok) (al r : Array UInt8) (h2 : 2 ≤ al.size) (h256 : al.size ≤ 256) (hv : v.size ≤ 20) (hn : val256 (stripS #[0] v) < 2 ^ 90) (hr : encB al v = r) :
    Gives 6 w mean mg mb 37 [.bytes v t1, .bytes al t2] [] (fun t => .bytes r t) := hr ▸ enc_bytes v t1 t2 al h2 h256 (by omega) hn
theorem dec_bytes' {w : World} {mean : ExcName → Option Value} {mg mb : Str → Option Value} (t1 t2 : Tok) (al r : Array UInt8) (k : Nat) (ds : List Nat) (n : Nat) (hn : valN al.size ds = n) (h2 : 2 ≤ al.size) (h256 : al.size ≤ 256) (hap : Apart al)
   (hsp : ∀ d, d < al.size → Builtin.Bytes.isSpace (al.getD d 0) = false) (hds : ∀ d ∈ ds, d < al.size) (hds0 : ∀ d ∈ List.replicate k 0 ++ ds, d < al.size) (hhead : ∀ d r, ds = d :: r → d ≠ 0) (hk3 : k ≤ 3) (hlen : ds.length ≤ 90) (hval : n < 2 ^ 90) (hr : r = (List.replicate k 0 ++ (digN 256 n).map UInt8.ofNat).toArray) :
    Gives 7 w mean mg mb 60 [.bytes (txt al (List.replicate k 0 ++ ds)) t1, .bytes al t2] [] (fun t => .bytes r t) := hr ▸ dec_bytes t1 t2 al k ds n hn h2 h256 hap hsp hds hds0 hhead hk3 hlen hval
theorem head_txt (al : Array UInt8) (q : Nat) (ds : List Nat) : (List.replicate ((q : Nat) : Int).toNat (al.getD 0 0)).toArray ++ txt al ds = txt al (List.replicate q 0 ++ ds) := by
  unfold txt; rw [Int.toNat_natCast, List.map_append, List.map_replicate]; simp
theorem head_size {al : Array UInt8} {q : Nat} {ds : List Nat} (hq : q ≤ 3) (hl : ds.length ≤ 90) : (List.replicate ((q : Nat) : Int).toNat (al.getD 0 0)).toArray.size + (txt al ds).size ≤ 16777216 := by
  rw [txt_size, List.size_toArray, List.length_replicate, Int.toNat_natCast]; omega
local macro_rules | `(tactic| walk_at "call ref") => `(tactic| (k_here; (with_reducible show wpAny _ _ (call (Value.ref 37) [Value.bytes _ _, Value.bytes _ _] _) _ _ _); (try dsimp only); k_dflt (refine' use (enc_bytes16' _ _ _ _ _ (by omega) (by omega) (by assumption) (by assumption) (by assumption)) ?k1 ?k2 ?k3 ?k4 ?k5 ?kK ?kd ?ku ?_; (case k1 => k_asm); (case k2 => k_asm); (case k3 => k_asm); (case k4 => k_asm); (case k5 => k_asm); (case kK => first | exact rfl | assumption); (case kd => ktr_room); (case ku => ktr_units); intro t9 h9 tk9 F9 N9; (try dsimp only); (try k_fold))))
local macro_rules | `(tactic| walk_at "call ref") => `(tactic| (k_here; (with_reducible show wpAny _ _ (call (Value.ref 60) [Value.bytes (txt _ _) _, Value.bytes _ _] _) _ _ _); (try dsimp only); k_dflt (refine' use (dec_bytes' _ _ _ _ _ _ _ (by assumption) (by omega) (by omega) (by assumption) (by assumption) (by assumption) (by assumption) (by assumption) (by assumption) (by assumption) (by assumption) (by assumption)) ?k1 ?k2 ?k3 ?k4 ?k5 ?kK ?kd ?ku ?_; (case k1 => k_asm); (case k2 => k_asm); (case k3 => k_asm); (case k4 => k_asm); (case k5 => k_asm); (case kK => first | exact rfl | assumption); (case kd => ktr_room); (case ku => ktr_units); intro t9 h9 tk9 F9 N9; (try dsimp only); (try k_fold))))
local macro_rules | `(tactic| walk_at "subscriptTail") => `(tactic| (k_here; (with_reducible show wpAny _ _ (subscriptTail _ (Expr.Slice _ _ none _) (Value.bytes _ _) (Value.ref _)) _ _ _); (try dsimp only); (with_reducible rename Fr _ _ _ _ => F'); (with_reducible rename News _ _ _ _ => N'); (refine slice_head (s := ⟨_, _, _, _, _⟩) F' N' (by constructor) (by constructor) (by omega) (by omega) ?_); intro _ _ _ _ _))
local macro_rules | `(tactic| walk_at "binaryOp Mult bytes int") => `(tactic| (k_here; (refine mul_one (by omega) (by omega) ?_); intro _ _))
local macro_rules | `(tactic| walk_at "binaryOp Add bytes bytes") => `(tactic| (k_here; (refine add_b (head_size (by assumption) (by assumption)) ?_); intro _ _; rw [head_txt]))
local macro_rules | `(tactic| walk_at "compareOp Eq ref ref") => `(tactic| (k_here; (try dsimp only); (with_reducible rename News _ _ _ _ => N9); k_dflt (refine two_sameN N9 (by k_mem) (by k_mem) (Nat.lt_of_le_of_lt (Nat.le_add_right _ 400) (by assumption)) ?_)))
set_option maxHeartbeats 8000000 in
theorem st15 {w : World} {mean : ExcName → Option Value} {mg mb : Str → Option Value} {dp un : Nat} {gd : Option (List Code)} {cn : Str} {a : Addr} {ccd : Value} {outer : List Env} {A₀ : Around} {base h₀ : Heap} {L : Addr} {m : Str → Option Value} {s : Shared} {Q : Flow → Shared → Prop} {E : Value → Shared → Prop}
   {o11 o10 o9 o8 o7 o6 o5 o4 o3 o2 o1 : Obj} {d : Addr} {dv : List Value} {dr : List Int} {al oc : Array UInt8} {ds : List Nat} {q n : Nat} {tz ta tq tx tn : Tok} {vo : Value}
   (B : Below A₀ base outer h₀) (F : Fr h₀ L s.heap (fun y => if y = Str.ofString "octets" then some (.bytes oc tz) else if y = Str.ofString "noughts" then some (.int (q : Nat) tq) else if y = Str.ofString "other" then some (vo) else if y = Str.ofString "text" then some (.bytes (txt al ds) tx) else if y = Str.ofString "number" then some (.int (n : Nat) tn) else m y)) (X : (hd.heap_39 w.params).In h₀)
   (N : News h₀ L s.heap [(d, LCg.lst dv), (L + 11, o11), (L + 10, o10), (L + 9, o9), (L + 8, o8), (L + 7, o7), (L + 6, o6), (L + 5, o5), (L + 4, o4), (L + 3, o3), (L + 2, o2), (L + 1, o1)])
   (T : Top hd.view_39 (looseW hd.view_39 [Str.ofString "b58encode_int", Str.ofString "b58encode", Str.ofString "b58decode_int", Str.ofString "b58decode"]) mean mg mb h₀)
   (hd1 : dp + 20 < recursionLimit) (hu : un + 400 < cLine)
   (ho : oc.size ≤ 20) (hv : val256 (stripS #[0] oc) < 2 ^ 90) (z12 : 2 ≤ al.size) (z1 : al.size ≤ 49) (ap1 : Apart al) (sp1 : ∀ d, d < al.size → Builtin.Bytes.isSpace (al.getD d 0) = false) (hre : encB al oc = (txt al (List.replicate q 0 ++ ds)))  (hde : oc = (List.replicate q 0 ++ (digN 256 n).map UInt8.ofNat).toArray) (hn : valN al.size ds = n) (hds : ∀ d ∈ ds, d < al.size) (hds0 : ∀ d ∈ List.replicate q 0 ++ ds, d < al.size) (hhead : ∀ d r, ds = d :: r → d ≠ 0) (hq : q ≤ 3) (hlen : ds.length ≤ 90) (hval : n < 2 ^ 90) (d7 : o7.data = .cell (some (.bytes al ta)))
   (hQ : ∀ (h' : Heap) (tk' : Nat), Fr h₀ L h' (fun y => if y = Str.ofString "octets" then some (.bytes oc tz) else if y = Str.ofString "noughts" then some (.int (q : Nat) tq) else if y = Str.ofString "other" then some (vo) else if y = Str.ofString "text" then some (.bytes (txt al ds) tx) else if y = Str.ofString "number" then some (.int (n : Nat) tn) else m y) → News h₀ L h' [(d, LCg.lst dv), (L + 11, o11), (L + 10, o10), (L + 9, o9), (L + 8, o8), (L + 7, o7), (L + 6, o6), (L + 5, o5), (L + 4, o4), (L + 3, o3), (L + 2, o2), (L + 1, o1)] → Q (.ret (.bool true)) { s with heap := h', toks := tk' })
   : wpAny (model PySem.Challenge.rw_fe0041_01.row.prog w) (ktrTop dp un gd cn lawScope L a ccd (lawCl L) outer) (exec (lawSt 15) (envX cn lawScope L a ccd (lawCl L))) Q E s := by
  revert B F X N T
  rw [show lawSt 15 = Stmt.Return _ _ from rfl]
  rw [show lawScope = ⟨_, _, _, _, _⟩ from rfl]
  k_fill
  intro B F X N T
  k_steps
  all_goals (exact hQ _ _ (by k_asm) (by ((with_reducible rename News _ _ _ _ => N9); first | exact N9 | exact news_cut N9 | exact news_cut (news_cut N9) | exact news_cut (news_cut (news_cut N9)) | exact news_cut (news_cut (news_cut (news_cut N9))) | exact news_cut (news_cut (news_cut (news_cut (news_cut N9)))) | exact news_cut (news_cut (news_cut (news_cut (news_cut (news_cut N9))))))))
end Mine
end T_G16
section T_N1
open PySem PySem.W PyProof.Rows PySem.Calls PySem.Spec
set_option maxRecDepth 100000
namespace Mine
/-- no nought ahead -/
def HeadOk (xs : List Nat) : Prop := ∀ d r, xs = d :: r → d ≠ 0
theorem head_ge {b : Nat} (xs : List Nat) (h : HeadOk xs) (hne : xs ≠ []) : b ^ (xs.length - 1) ≤ valN b xs := by
  cases xs with
  | nil => exact absurd rfl hne
  | cons d r =>
    have hd := h d r rfl
    rw [valN_cons, List.length_cons, Nat.add_sub_cancel]
    have : 1 * b ^ r.length ≤ d * b ^ r.length := Nat.mul_le_mul_right _ (by omega)
    omega
theorem head_pos {b : Nat} (hb : 2 ≤ b) {xs : List Nat} (h : HeadOk xs) (hne : xs ≠ []) : 0 < valN b xs :=
  Nat.lt_of_lt_of_le (Nat.pow_pos (by omega)) (head_ge xs h hne)
theorem digN_val {b : Nat} (hb : 2 ≤ b) : ∀ n, valN b (digN b n) = n := by
  intro n
  induction n using Nat.strongRecOn with
  | ind n ih =>
    by_cases h0 : n = 0
    · subst h0; rw [digN_zero]; rfl
    · rw [digN_pos hb (by omega), valN_snoc, ih _ (Nat.div_lt_self (by omega) (by omega))]
      rw [Nat.mul_comm]; exact Nat.div_add_mod n b
theorem headOk_snoc {xs : List Nat} {d : Nat} (h : HeadOk xs) (hd : xs = [] → d ≠ 0) : HeadOk (xs ++ [d]) := by
  intro e r he
  cases xs with
  | nil => simp at he; exact he.1 ▸ hd rfl
  | cons x y => simp at he; exact h e y (by rw [he.1])
theorem digN_head {b : Nat} (hb : 2 ≤ b) : ∀ n, HeadOk (digN b n) := by
  intro n
  induction n using Nat.strongRecOn with
  | ind n ih =>
    by_cases h0 : n = 0
    · subst h0; rw [digN_zero]; intro d r h; cases h
    · rw [digN_pos hb (by omega)]
      refine headOk_snoc (ih _ (Nat.div_lt_self (by omega) (by omega))) fun he => ?_
      have hv := digN_val hb (n / b)
      rw [he] at hv
      have hv' : n / b = 0 := hv.symm
      have := Nat.div_add_mod n b
      rw [hv', Nat.mul_zero] at this
      omega
theorem digN_uniq {b : Nat} (hb : 2 ≤ b) : ∀ (k : Nat) (xs : List Nat), xs.length = k → (∀ d ∈ xs, d < b) → HeadOk xs → digN b (valN b xs) = xs := by
  intro k
  induction k with
  | zero =>
    intro xs hl _ _
    have : xs = [] := List.length_eq_zero_iff.mp hl
    subst this
    exact digN_zero b
  | succ k ih =>
    intro xs hl hd hh
    rcases List.eq_nil_or_concat xs with e | ⟨ys, d, e⟩
    · subst e; exact absurd hl (by simp)
    · have e' : xs = ys ++ [d] := by rw [e, List.concat_eq_append]
      clear e
      have hpos := head_pos hb hh (by intro h0; rw [h0] at hl; simp at hl)
      subst e'
      have hdb : d < b := hd d (by simp)
      rw [digN_pos hb hpos]
      rw [valN_snoc]
      have e1 : (valN b ys * b + d) / b = valN b ys := by
        rw [Nat.mul_comm, Nat.mul_add_div (by omega), Nat.div_eq_of_lt hdb, Nat.add_zero]
      have e2 : (valN b ys * b + d) % b = d := by
        rw [Nat.mul_comm, Nat.mul_add_mod, Nat.mod_eq_of_lt hdb]
      rw [e1, e2, ih ys (by simpa using hl) (fun x hx => hd x (List.mem_append_left _ hx)) (fun x r hx => hh x (r ++ [d]) (by rw [hx]; rfl))]
theorem digN_is {b n : Nat} (hb : 2 ≤ b) {xs : List Nat} (hd : ∀ d ∈ xs, d < b) (hh : HeadOk xs) (hv : valN b xs = n) : xs = digN b n := by
  rw [← hv, digN_uniq hb xs.length xs rfl hd hh]
theorem digN_short {b n k : Nat} (hb : 2 ≤ b) (h : n < b ^ k) : (digN b n).length ≤ k := by
  by_cases hne : digN b n = []
  · rw [hne]; exact Nat.zero_le _
  · have h1 := head_ge (b := b) _ (digN_head hb n) hne
    rw [digN_val hb] at h1
    have h2 := (Nat.pow_lt_pow_iff_right (by omega : 1 < b)).mp (Nat.lt_of_le_of_lt h1 h)
    omega
/-- noughts ahead -/
theorem valN_zeros (b : Nat) : ∀ (r : Nat) (xs : List Nat), valN b (List.replicate r 0 ++ xs) = valN b xs := by
  intro r
  induction r with
  | zero => intro xs; rfl
  | succ r ih =>
    intro xs
    rw [List.replicate_succ, List.cons_append, valN_cons, Nat.zero_mul, Nat.zero_add, ih]
theorem valN_drop (b : Nat) : ∀ (xs : List Nat), valN b (xs.dropWhile (· == 0)) = valN b xs := by
  intro xs
  induction xs with
  | nil => rfl
  | cons d r ih =>
    by_cases h : d = 0
    · subst h
      rw [valN_cons, Nat.zero_mul, Nat.zero_add, ← ih]; rfl
    · rw [List.dropWhile_cons_of_neg (by simpa using h)]
theorem head_drop : ∀ (xs : List Nat), HeadOk (xs.dropWhile (· == 0)) := by
  intro xs
  induction xs with
  | nil => intro d r h; cases h
  | cons d r ih =>
    by_cases h : d = 0
    · subst h; exact ih
    · rw [List.dropWhile_cons_of_neg (by simpa using h)]
      intro e s he
      cases he
      exact h
theorem toI_drop : ∀ (xs : List Nat), (toI xs).dropWhile (· == 0) = toI (xs.dropWhile (· == 0)) := by
  intro xs
  induction xs with
  | nil => rfl
  | cons d r ih =>
    by_cases h : d = 0
    · subst h; exact ih
    · rw [List.dropWhile_cons_of_neg (by simpa using h)]
      show ((d : Int) :: toI r).dropWhile _ = _
      rw [List.dropWhile_cons_of_neg (by simpa using h)]
      rfl
/-- one sign as i places -/
def places (b i d : Nat) : List Nat := (List.range i).map fun q => d / b ^ (i - 1 - q) % b
theorem places_val {b : Nat} (hb : 2 ≤ b) : ∀ (i d : Nat), d < b ^ i → valN b (places b i d) = d := by
  intro i
  induction i with
  | zero => intro d h; have : d = 0 := by simpa using h
            subst this; rfl
  | succ i ih =>
    intro d h
    have e : places b (i + 1) d = places b i (d / b) ++ [d % b] := by
      unfold places
      rw [List.range_succ, List.map_append]
      refine congr (congrArg _ (List.map_congr_left fun q hq => ?_)) ?_
      · have hq' := List.mem_range.mp hq
        rw [show i + 1 - 1 - q = (i - 1 - q) + 1 by omega, Nat.pow_succ, Nat.mul_comm, ← Nat.div_div_eq_div_mul]
      · show [d / b ^ (i + 1 - 1 - i) % b] = _
        rw [show i + 1 - 1 - i = 0 by omega, Nat.pow_zero, Nat.div_one]
    rw [e, valN_snoc, ih _ (by rw [Nat.div_lt_iff_lt_mul (by omega), ← Nat.pow_succ]; exact h), Nat.mul_comm]
    exact Nat.div_add_mod d b
theorem places_len (b i d : Nat) : (places b i d).length = i := by unfold places; rw [List.length_map, List.length_range]
theorem places_lt {b : Nat} (hb : 2 ≤ b) {i d : Nat} : ∀ x ∈ places b i d, x < b := by
  intro x hx
  obtain ⟨q, _, rfl⟩ := List.mem_map.mp hx
  exact Nat.mod_lt _ (by omega)
theorem spread_val {b i : Nat} (hb : 2 ≤ b) : ∀ (ds : List Nat), (∀ d ∈ ds, d < b ^ i) → valN b (ds.flatMap (places b i)) = valN (b ^ i) ds := by
  intro ds
  induction ds with
  | nil => intro _; rfl
  | cons d r ih =>
    intro h
    have hl : (r.flatMap (places b i)).length = i * r.length := by
      clear ih h
      induction r with
      | nil => rfl
      | cons x y ih => rw [List.flatMap_cons, List.length_append, places_len, ih, List.length_cons, Nat.mul_succ, Nat.add_comm]
    rw [List.flatMap_cons, valN_append, places_val hb _ _ (h d (List.mem_cons_self ..)), ih fun x hx => h x (List.mem_cons_of_mem _ hx), valN_cons, hl, Nat.pow_mul]
theorem flat2_places {b i : Nat} (ds : List Nat) :
    flat2 (fun p q => ((((ds.getD p 0 : Nat) : Int).fdiv (((b : Nat) : Int) ^ (((i : Nat) : Int) - 1 - ((q : Nat) : Int)).toNat)).fmod ((b : Nat) : Int))) i ds.length = toI (ds.flatMap (places b i)) := by
  have h1 : ∀ p, (List.range i).map (fun q => ((((ds.getD p 0 : Nat) : Int).fdiv (((b : Nat) : Int) ^ (((i : Nat) : Int) - 1 - ((q : Nat) : Int)).toNat)).fmod ((b : Nat) : Int))) = toI (places b i (ds.getD p 0)) := by
    intro p
    unfold places toI
    rw [List.map_map]
    refine List.map_congr_left fun q hq => ?_
    have hq' := List.mem_range.mp hq
    show _ = ((ds.getD p 0 / b ^ (i - 1 - q) % b : Nat) : Int)
    rw [show (((i : Nat) : Int) - 1 - ((q : Nat) : Int)).toNat = i - 1 - q by omega, ← Int.natCast_pow]
    rw [Int.fdiv_eq_ediv_of_nonneg _ (Int.natCast_nonneg _), Int.fmod_eq_emod_of_nonneg _ (Int.natCast_nonneg _)]
    rfl
  unfold flat2
  rw [show (fun p => (List.range i).map (fun q => ((((ds.getD p 0 : Nat) : Int).fdiv (((b : Nat) : Int) ^ (((i : Nat) : Int) - 1 - ((q : Nat) : Int)).toNat)).fmod ((b : Nat) : Int)))) = fun p => toI (places b i (ds.getD p 0)) from funext h1]
  have h2 : (List.range ds.length).map (fun p => ds.getD p 0) = ds := by
    refine List.ext_getElem (by simp) fun k hk hk2 => ?_
    simp [List.getD_eq_getElem?_getD, List.getElem?_eq_getElem hk2]
  have h3 : ∀ l : List Nat, (l.flatMap fun p => toI (places b i (ds.getD p 0))) = toI ((l.map fun p => ds.getD p 0).flatMap (places b i)) := by
    intro l
    induction l with
    | nil => rfl
    | cons x y ih => rw [List.flatMap_cons, ih, List.map_cons, List.flatMap_cons]; unfold toI; rw [List.map_append]
  rw [h3, h2]
theorem plain_is {b i n : Nat} (hb : 2 ≤ b) (hi : 1 ≤ i) :
    plainI (flat2 (fun p q => (((((digN (b ^ i) n).getD p 0 : Nat) : Int).fdiv (((b : Nat) : Int) ^ (((i : Nat) : Int) - 1 - ((q : Nat) : Int)).toNat)).fmod ((b : Nat) : Int))) i (digN (b ^ i) n).length) = toI (digN b n) := by
  have hbi : 2 ≤ b ^ i := Nat.le_trans hb (Nat.le_self_pow (by omega) b)
  rw [flat2_places]
  unfold plainI
  rw [toI_drop]
  refine congrArg toI (digN_is hb (fun d hd => ?_) (head_drop _) ?_)
  · have hd' := List.dropWhile_subset _ hd
    obtain ⟨x, _, hx⟩ := List.mem_flatMap.mp hd'
    exact places_lt hb _ hx
  · rw [valN_drop, spread_val hb _ (fun d hd => digN_lt _ d hd), digN_val hbi]
end Mine
end T_N1
section T_N2
open PySem PySem.W PyProof.Rows PySem.Calls PySem.Spec
set_option maxRecDepth 100000
namespace Mine
/-- the padding -/
theorem pad_len {L j : Nat} (hj : 1 ≤ j) : ∃ kn, ((-(L : Int)).fmod (j : Int)).toNat + L = kn * j ∧ ((-(L : Int)).fmod (j : Int)).toNat < j := by
  have h0 := Int.fmod_nonneg_of_pos (-(L : Int)) (show (0 : Int) < (j : Int) by omega)
  have h1 := Int.fmod_lt_of_pos (-(L : Int)) (show (0 : Int) < (j : Int) by omega)
  have h2 := Int.mul_fdiv_add_fmod (-(L : Int)) (j : Int)
  generalize (-(L : Int)).fmod (j : Int) = r at *
  generalize (-(L : Int)).fdiv (j : Int) = t at *
  have h3 : (j : Int) * (-t) = (L : Int) + r := by rw [Int.mul_neg]; omega
  have ht : 0 ≤ -t := by
    refine Int.not_lt.mp fun hlt => ?_
    have := Int.mul_neg_of_pos_of_neg (show (0 : Int) < (j : Int) by omega) hlt
    omega
  refine ⟨(-t).toNat, ?_, by omega⟩
  have h4 : (((-t).toNat * j : Nat) : Int) = (L : Int) + r := by
    rw [Int.natCast_mul, Int.toNat_of_nonneg ht, Int.mul_comm]; exact h3
  omega
theorem pad_toI (r : Nat) (ds : List Nat) : List.replicate r (0 : Int) ++ toI ds = toI (List.replicate r 0 ++ ds) := by
  unfold toI; rw [List.map_append, List.map_replicate]; rfl
/-- j signs taken together -/
theorem chunks_snoc (b j kn : Nat) (xs ys : List Nat) (h : xs.length = kn * j) (hy : ys.length = j) : chunks b j (kn + 1) (xs ++ ys) = chunks b j kn xs ++ [valN b ys] := by
  unfold chunks
  rw [List.range_succ, List.map_append]
  refine congr (congrArg _ (List.map_congr_left fun k hk => ?_)) ?_
  · have hk' := List.mem_range.mp hk
    have h5 : (k + 1) * j ≤ kn * j := Nat.mul_le_mul_right _ hk'
    rw [Nat.add_mul, Nat.one_mul] at h5
    rw [List.drop_append_of_le_length (by omega), List.take_append_of_le_length (by rw [List.length_drop]; omega)]
  · show [valN b (((xs ++ ys).drop (kn * j)).take j)] = _
    rw [← h, List.drop_left, ← hy, List.take_length]
theorem chunks_val (b j : Nat) : ∀ (kn : Nat) (ds : List Nat), ds.length = kn * j → valN (b ^ j) (chunks b j kn ds) = valN b ds := by
  intro kn
  induction kn with
  | zero => intro ds h; rw [Nat.zero_mul] at h; have := List.length_eq_zero_iff.mp h; subst this; rfl
  | succ kn ih =>
    intro ds h
    rw [Nat.succ_mul] at h
    have hl1 : (ds.take (kn * j)).length = kn * j := by rw [List.length_take]; omega
    have hl2 : (ds.drop (kn * j)).length = j := by rw [List.length_drop]; omega
    have e := List.take_append_drop (kn * j) ds
    rw [← e, chunks_snoc b j kn _ _ hl1 hl2, valN_snoc, ih _ hl1, valN_append, hl2]
theorem chunks_lt {b j kn : Nat} (hb : 0 < b) {ds : List Nat} (h : ds.length = kn * j) (hds : ∀ d ∈ ds, d < b) : ∀ d ∈ chunks b j kn ds, d < b ^ j := by
  intro d hd
  obtain ⟨k, hk, rfl⟩ := List.mem_map.mp hd
  have hk' := List.mem_range.mp hk
  refine gval_lt hb ?_ hds
  have : (k + 1) * j ≤ kn * j := Nat.mul_le_mul_right _ hk'
  rw [Nat.add_mul, Nat.one_mul] at this
  omega
theorem chunks_head {b j kn r n : Nat} (hb : 2 ≤ b) (hr : r < j) (h : r + (digN b n).length = kn * j) : HeadOk (chunks b j kn (List.replicate r 0 ++ digN b n)) := by
  intro d s hds
  cases kn with
  | zero => cases hds
  | succ kn =>
    have hne : digN b n ≠ [] := by
      intro e
      rw [e, Nat.succ_mul] at h
      simp at h
      have := Nat.zero_le (kn * j)
      omega
    unfold chunks at hds
    rw [List.range_succ_eq_map, List.map_cons] at hds
    have e1 := (List.cons.inj hds).1
    rw [← e1, Nat.zero_mul, List.drop_zero]
    have e2 : (List.replicate r 0 ++ digN b n).take j = List.replicate r 0 ++ (digN b n).take (j - r) := by
      rw [List.take_append, List.length_replicate, List.take_of_length_le (by rw [List.length_replicate]; omega)]
    rw [e2, valN_zeros]
    have hh := digN_head hb n
    generalize digN b n = xs at hh hne ⊢
    cases xs with
    | nil => exact absurd rfl hne
    | cons x y =>
      rw [show j - r = (j - r - 1) + 1 by omega, List.take_succ_cons]
      refine Nat.ne_of_gt (head_pos hb (fun e t he => ?_) (by simp))
      exact (List.cons.inj he).1 ▸ hh x y rfl
theorem chunks_is {b j kn r n : Nat} (hb : 2 ≤ b) (hj : 1 ≤ j) (hr : r < j) (h : r + (digN b n).length = kn * j) : chunks b j kn (List.replicate r 0 ++ digN b n) = digN (b ^ j) n := by
  have hbj : 2 ≤ b ^ j := Nat.le_trans hb (Nat.le_self_pow (by omega) b)
  have hl : (List.replicate r 0 ++ digN b n).length = kn * j := by rw [List.length_append, List.length_replicate]; exact h
  have hds : ∀ d ∈ List.replicate r 0 ++ digN b n, d < b := by
    intro d hd
    rcases List.mem_append.mp hd with hd | hd
    · rw [List.eq_of_mem_replicate hd]; omega
    · exact digN_lt n d hd
  refine digN_is hbj (chunks_lt (by omega) hl hds) (chunks_head hb hr h) ?_
  rw [chunks_val b j kn _ hl, valN_zeros, digN_val hb]
/-- the octets -/
def octs (q n : Nat) : Array UInt8 := (List.replicate q 0 ++ (digN 256 n).map UInt8.ofNat).toArray
theorem oct_nat {ds : List Nat} (h : ∀ d ∈ ds, d < 256) : (ds.map UInt8.ofNat).map UInt8.toNat = ds := by
  rw [List.map_map]
  refine (List.map_congr_left fun d hd => ?_).trans (List.map_id ds)
  exact UInt8.toNat_ofNat_of_lt' (h d hd)
theorem octs_ints (q n : Nat) : KBw.bInts (octs q n) = toI (List.replicate q 0 ++ digN 256 n) := by
  have h : (octs q n).toList.map UInt8.toNat = List.replicate q 0 ++ digN 256 n := by
    show (List.replicate q 0 ++ (digN 256 n).map UInt8.ofNat).map UInt8.toNat = _
    rw [List.map_append, oct_nat (digN_lt n), List.map_replicate]; rfl
  rw [← h]
  unfold KBw.bInts toI
  rw [List.map_map]
  rfl
theorem octs_size {q n : Nat} (hq : q ≤ 3) (hn : n < 2 ^ 80) : (octs q n).size ≤ 20 := by
  have h := digN_short (b := 256) (k := 10) (by decide) (show n < 256 ^ 10 by exact Nat.lt_of_lt_of_le hn (by decide))
  rw [← KBw.ints_length, octs_ints, List.length_map, List.length_append, List.length_replicate]
  omega
theorem strip_octs (q n : Nat) : stripS #[0] (octs q n) = ((digN 256 n).map UInt8.ofNat).toArray := by
  unfold stripS octs
  refine congrArg List.toArray ?_
  show (List.replicate q 0 ++ (digN 256 n).map UInt8.ofNat).dropWhile _ = _
  induction q with
  | succ q ih => rw [List.replicate_succ, List.cons_append, List.dropWhile_cons_of_pos (by simp)]; exact ih
  | zero =>
    have hh := digN_head (b := 256) (by decide) n
    have hlt := digN_lt (b := 256) n
    generalize digN 256 n = xs at hh hlt
    cases xs with
    | nil => rfl
    | cons x y =>
      have hx := hh x y rfl
      have hl := hlt x (List.mem_cons_self ..)
      show (UInt8.ofNat x :: y.map UInt8.ofNat).dropWhile _ = _
      rw [List.dropWhile_cons_of_neg]
      · rfl
      · intro hc
        have h2 : UInt8.ofNat x = 0 := by simpa using hc
        have h3 := congrArg UInt8.toNat h2
        rw [UInt8.toNat_ofNat_of_lt' hl] at h3
        exact hx h3
theorem val256_val (v : Array UInt8) : val256 v = valN 256 (v.toList.map UInt8.toNat) := by
  unfold val256 valN
  rw [List.foldl_map]
theorem val_octs (q n : Nat) : val256 (stripS #[0] (octs q n)) = n := by
  rw [strip_octs, val256_val]
  show valN 256 (((digN 256 n).map UInt8.ofNat).map UInt8.toNat) = n
  rw [oct_nat (digN_lt n), digN_val (by decide)]
theorem encB_octs (al : Array UInt8) (q n : Nat) : encB al (octs q n) = txt al (List.replicate q 0 ++ digN al.size n) := by
  unfold encB
  rw [val_octs, strip_octs]
  have e : (octs q n).size - (((digN 256 n).map UInt8.ofNat).toArray).size = q := by
    unfold octs
    rw [List.size_toArray, List.size_toArray, List.length_append, List.length_replicate]
    omega
  rw [e]
  unfold enc txt
  rw [List.map_append, List.map_replicate]
  simp
theorem encB_whole {al : Array UInt8} (hz : al.size = 256) (q n : Nat) : encB al (octs q n) = byteArr ((KBw.bInts (octs q n)).map (sgn al)) := by
  rw [encB_octs, octs_ints, sgn_bytes, hz]
end Mine
end T_N2
section T_J1
open PySem PySem.W PyProof.Rows
set_option maxRecDepth 100000
namespace Mine
theorem lawBody_eq : lawBody = [lawSt 0, lawSt 1, lawSt 2, lawSt 3, lawSt 4, lawSt 5, lawSt 6, lawSt 7, lawSt 8, lawSt 9, lawSt 10, lawSt 11, lawSt 12, lawSt 13, lawSt 14, lawSt 15] := by rfl
/-- the bases and how many of their places one sign may stand for -/
theorem base_facts {b mo i : Nat} (h : (b = 2 ∧ mo = 5) ∨ (b = 3 ∧ mo = 3) ∨ (b = 7 ∧ mo = 2)) (hi : i ≤ mo) : b ^ i ≤ 49 := by
  rcases h with ⟨rfl, rfl⟩ | ⟨rfl, rfl⟩ | ⟨rfl, rfl⟩
  · exact Nat.le_trans (Nat.pow_le_pow_right (by decide) hi) (by decide)
  · exact Nat.le_trans (Nat.pow_le_pow_right (by decide) hi) (by decide)
  · exact Nat.le_trans (Nat.pow_le_pow_right (by decide) hi) (by decide)
set_option maxHeartbeats 8000000 in
theorem law_chain {w : World} {mean : ExcName → Option Value} {mg mb : Str → Option Value} {dp un : Nat} {gd : Option (List Code)} {cn : Str} {a : Addr} {ccd : Value} {outer : List Env} {A₀ : Around} {base h₀ : Heap} {L : Addr} {m : Str → Option Value} {s : Shared} {Q : Flow → Shared → Prop} {E : Value → Shared → Prop}
   {o11 o10 o9 o8 o7 o6 o5 o4 o3 o2 o1 : Obj} {l : Addr} {vs : List Value} {ns : List Int}
   (B : Below A₀ base outer h₀) (F : Fr h₀ L s.heap m) (X : (hd.heap_39 w.params).In h₀)
   (N : News h₀ L s.heap [(L + 11, o11), (L + 10, o10), (L + 9, o9), (L + 8, o8), (L + 7, o7), (L + 6, o6), (L + 5, o5), (L + 4, o4), (L + 3, o3), (L + 2, o2), (L + 1, o1)])
   (T : Top hd.view_39 (looseW hd.view_39 [Str.ofString "b58encode_int", Str.ofString "b58encode", Str.ofString "b58decode_int", Str.ofString "b58decode"]) mean mg mb h₀)
   (hd1 : dp + 20 < recursionLimit) (hu : un + 400 < cLine)
   (d1 : o1.data = .cell (some (.ref l))) (d2 : o2.data = .cell none) (d3 : o3.data = .cell none) (d4 : o4.data = .cell none) (d5 : o5.data = .cell none) (d6 : o6.data = .cell none) (d7 : o7.data = .cell none) (d8 : o8.data = .cell none) (d9 : o9.data = .cell none) (d10 : o10.data = .cell none) (d11 : o11.data = .cell none)
   (hl : h₀.IsList l vs.toArray) (hi : IntsAre vs ns) (hlen : ns.length ≤ 63)
   (hQ : ∀ (h' : Heap) (tk' : Nat) (m' : Str → Option Value), Fr h₀ L h' m' → Q (.ret (.bool true)) { s with heap := h', toks := tk' }) :
   wpAny (model PySem.Challenge.rw_fe0041_01.row.prog w) (ktrTop dp un gd cn lawScope L a ccd (lawCl L) outer) (execs lawBody (envX cn lawScope L a ccd (lawCl L))) Q E s := by
  rw [lawBody_eq]
  refine wpAny_execs_cons ?_
  refine st0 B F X N T hd1 hu d1 d2 hl hi hlen ?_
  intro d dv dr o2' h1 k1 hdr hD ho d2' F1 N1
  dsimp only
  refine wpAny_execs_cons ?_
  with_reducible refine st1 B F1 X N1 T hd1 hu hdr hD ho d2' d3 ?_
  intro b mo t1 t2 o3' h2 k2 hbm d3' F2 N2
  dsimp only
  refine wpAny_execs_cons ?_
  refine st2 B F2 X N2 T hd1 hu hdr hD ho d2' d4 d5 (by omega) ?_
  intro i j n ti tj tn o4' o5' h3 k3 hi' hj' hn' d4' d5' F3 N3
  dsimp only
  obtain ⟨b, rfl⟩ := Int.eq_ofNat_of_zero_le (show 0 ≤ b by omega)
  obtain ⟨mo, rfl⟩ := Int.eq_ofNat_of_zero_le (show 0 ≤ mo by omega)
  obtain ⟨i, rfl⟩ := Int.eq_ofNat_of_zero_le (show 0 ≤ i by omega)
  obtain ⟨j, rfl⟩ := Int.eq_ofNat_of_zero_le (show 0 ≤ j by omega)
  obtain ⟨n, rfl⟩ := Int.eq_ofNat_of_zero_le hn'.1
  have hn : n < 2 ^ 80 := by have := hn'.2; exact_mod_cast this
  have hbm' : (b = 2 ∧ mo = 5) ∨ (b = 3 ∧ mo = 3) ∨ (b = 7 ∧ mo = 2) := by omega
  have hb2 : 2 ≤ b := by omega
  have hb7 : b ≤ 7 := by omega
  have hi1 : 1 ≤ i := by omega
  have hi5 : i ≤ 5 := by omega
  have hj1 : 1 ≤ j := by omega
  have hj5 : j ≤ 5 := by omega
  have hbi : b ^ i ≤ 49 := base_facts hbm' (by omega)
  have hbj : b ^ j ≤ 49 := base_facts hbm' (by omega)
  have hbi2 : 2 ≤ b ^ i := Nat.le_trans hb2 (Nat.le_self_pow (by omega) b)
  have hbj2 : 2 ≤ b ^ j := Nat.le_trans hb2 (Nat.le_self_pow (by omega) b)
  refine wpAny_execs_cons ?_
  refine st3 (b := b) (i := i) (j := j) (n := n) (dr := dr) B F3 X N3 T hd1 hu hdr hD ho hb2 hb7 hi1 hi5 hj1 hj5 hbi hbj hn d2' d3' d4' d5' d6 d7 d8 ?_
  intro u v x t6 t7 t8 o6' o7' o8' h4 k4 d6' d7' d8' F4 N4
  dsimp only
  have s0 := signs_size b u
  have p0 := signs_apart (turn := u) (show b ≤ 49 by omega)
  have q0 := signs_space (size := b) (turn := u)
  have s1 := signs_size (b ^ i) v
  have p1 := signs_apart (turn := v) hbi
  have q1 := signs_space (size := b ^ i) (turn := v)
  have s2 := signs_size (b ^ j) x
  have p2 := signs_apart (turn := x) hbj
  have q2 := signs_space (size := b ^ j) (turn := x)
  generalize signs b u = al0 at s0 p0 q0 d6'
  generalize signs (b ^ i) v = al1 at s1 p1 q1 d7'
  generalize signs (b ^ j) x = al2 at s2 p2 q2 d8'
  refine wpAny_execs_cons ?_
  refine st4 (b := b) (i := i) (j := j) (n := n) (dr := dr) (al := al1) B F4 X N4 T hd1 hu hdr hD ho p1 (by rw [s1]; exact hbi2) (by rw [s1]; exact hbi) hn d7' d9 ?_
  intro D o kvs tx o9' h5 k5 oD hdD lo hkv hM d9' F5 N5
  dsimp only
  have hlen1 : (digN al1.size n).length ≤ 80 := digN_len (b := al1.size) 80 n hn
  have hlen0 : (digN b n).length ≤ 80 := digN_len (b := b) 80 n hn
  have hlen2 : (digN al2.size n).length ≤ 80 := digN_len (b := al2.size) 80 n hn
  refine wpAny_execs_cons ?_
  refine st5 (b := b) (i := i) (j := j) (n := n) (dr := dr) (al := al1) (ds := digN al1.size n) B F5 X N5 T hd1 hu oD hdD lo hkv hM (by rw [s1]; exact hbi) (digN_lt n) hlen1 ho hb2 hb7 hi1 hi5 d9' d3' d4' d10 ?_
  intro g gv kg o10' h6 k6 oG hG d10' F6 N6
  dsimp only
  have eG : plainI (flat2 (fun p q => (((((digN al1.size n).getD p 0 : Nat) : Int).fdiv (((b : Nat) : Int) ^ (((i : Nat) : Int) - 1 - ((q : Nat) : Int)).toNat)).fmod ((b : Nat) : Int))) i (digN al1.size n).length) = toI (digN b n) := by
    rw [s1]; exact plain_is hb2 hi1
  rw [eG] at hG
  have hgl : gv.length ≤ 80 := by rw [hG.length, List.length_map]; exact hlen0
  refine wpAny_execs_cons ?_
  refine st6 (tx := tx) (b := b) (i := i) (j := j) (n := n) (dr := dr) (al := al0) B F6 X N6 T hd1 hu oG hG s0 hb2 hb7 hn hgl d6' d10' ?_
  intro h7 k7 F7 N7
  dsimp only
  refine wpAny_execs_cons ?_
  refine st7 (b := b) (i := i) (j := j) (n := n) (dr := dr) B F7 X N7 T hd1 hu oG ho hG (by rw [List.length_map]; exact hlen0) hj1 hj5 d5' d10' ?_
  intro g2 gv2 kg2 o10'' h8 k8 oG2 hG2 d10'' F8 N8
  dsimp only
  obtain ⟨kn, hkn, hr⟩ := pad_len (L := (toI (digN b n)).length) hj1
  rw [pad_toI] at hG2
  rw [List.length_map] at hkn hr hG2
  generalize ((-((digN b n).length : Int)).fmod (j : Int)).toNat = r at hkn hr hG2
  have hl2 : (List.replicate r 0 ++ digN b n).length = kn * j := by rw [List.length_append, List.length_replicate]; exact hkn
  have hl90 : (List.replicate r 0 ++ digN b n).length ≤ 90 := by rw [List.length_append, List.length_replicate]; omega
  have hds2 : ∀ d ∈ List.replicate r 0 ++ digN b n, d < b := by
    intro d hd
    rcases List.mem_append.mp hd with hd | hd
    · rw [List.eq_of_mem_replicate hd]; omega
    · exact digN_lt n d hd
  refine wpAny_execs_cons ?_
  refine st8 (b := b) (i := i) (j := j) (n := n) (dr := dr) (kn := kn) (al := al2) B F8 X N8 T hd1 hu oG2 hG2 hl90 s2 hds2 hl2 hb2 hb7 hj1 hj5 hbj hn d3' d5' d8' d10'' ?_
  intro to h9 k9 F9 N9
  dsimp only
  have e9 : txt al2 (chunks b j kn (List.replicate r 0 ++ digN b n)) = enc al2 n := by
    rw [chunks_is hb2 hj1 hr hkn, ← s2]; rfl
  rw [e9] at F9
  refine wpAny_execs_cons ?_
  refine st9 (b := b) (i := i) (j := j) (n := n) (dr := dr) (al := al2) B F9 X N9 T hd1 hu (by rw [s2]; exact hbj2) (by rw [s2]; exact hbj) hn d8' ?_
  intro h10 k10 F10 N10
  dsimp only
  have hv1 : valN al1.size (digN al1.size n) = n := digN_val (by rw [s1]; exact hbi2) n
  have hv2 : valN al2.size (digN al2.size n) = n := digN_val (by rw [s2]; exact hbj2) n
  have hv0 : valN al0.size (List.replicate r 0 ++ digN b n) = n := by rw [s0, valN_zeros, digN_val hb2]
  refine wpAny_execs_cons ?_
  refine st10 (b := b) (i := i) (j := j) (n := n) (dr := dr) (al0 := al0) (al1 := al1) (al2 := al2) (ds0 := List.replicate r 0 ++ digN b n) (ds1 := digN al1.size n) (ds2 := digN al2.size n) B F10 X N10 T hd1 hu oG2 hG2
    (by rw [s0]; exact hb2) (by rw [s0]; omega) p0 q0 (by rw [s1]; exact hbi2) (by rw [s1]; exact hbi) p1 q1 (by rw [s2]; exact hbj2) (by rw [s2]; exact hbj) p2 q2
    (by omega) (by rw [s0]; exact hds2) hv0 (by omega) (digN_lt n) hv1 (by omega) (digN_lt n) hv2 d6' d7' d8' d10'' ?_
  intro h11 k11 F11 N11
  dsimp only
  refine wpAny_execs_cons ?_
  refine st11 (dr := dr) B F11 X (news_cut N11) T hd1 hu hdr hD ho d2' ?_
  intro q tq h12 k12 hq F12 N12
  dsimp only
  refine wpAny_execs_cons ?_
  refine st12 (dr := dr) (q := q) (n := n) B F12 X N12 T hd1 hu hq hn ?_
  intro tz h13 k13 F13 N13
  dsimp only
  refine wpAny_execs_cons ?_
  refine st13 (dr := dr) B F13 X N13 T hd1 hu hdr hD ho d2' d11 ?_
  intro al3 ta o11' h14 k14 s3 p3 d11' F14 N14
  dsimp only
  have hn90 : n < 2 ^ 90 := Nat.lt_trans hn (by decide)
  have ho20 := octs_size hq hn
  have hvo : val256 (stripS #[0] (octs q n)) < 2 ^ 90 := by rw [val_octs]; exact hn90
  refine wpAny_execs_cons ?_
  refine st14 (dr := dr) (al := al3) (oc := octs q n) B F14 X N14 T hd1 hu s3 ho20 hvo d11' (encB_whole s3 q n) ?_
  intro h15 k15 F15 N15
  dsimp only
  have hds0 : ∀ d ∈ List.replicate q 0 ++ digN al1.size n, d < al1.size := by
    intro d hd
    rcases List.mem_append.mp hd with hd | hd
    · rw [List.eq_of_mem_replicate hd, s1]; omega
    · exact digN_lt n d hd
  refine wpAny_execs_cons ?_
  refine st15 (dr := dr) (al := al1) (oc := octs q n) (ds := digN al1.size n) (q := q) (n := n) B F15 X N15 T hd1 hu ho20 hvo (by rw [s1]; exact hbi2) (by rw [s1]; exact hbi) p1 q1 (encB_octs al1 q n) rfl hv1 (digN_lt n) hds0 (digN_head (by rw [s1]; exact hbi2) n) hq (by omega) hn90 d7' ?_
  intro h16 k16 F16 N16
  exact hQ _ _ _ F16
end Mine
end T_J1
section T_J2
open PySem PySem.W PyProof.Rows
set_option maxRecDepth 100000
namespace Mine
theorem reset_J2 : True := by
  w_top off
  trivial
-- HDR BEGIN
local macro_rules | `(tactic| cell_enter) => `(tactic| first
  | (refine' code_def ?k1 ?k2 ?k3 ?k4 ?k5 ?kA ?kF ?kK ?k6 ?k7 ?k8 ?k9 ?kB ?_ ?c2 ?c3 ?c4 ?c5; (case kA => exact rfl); (case kF => exact rfl); (case kK => first | exact rfl | assumption); (case k1 => k_asm); (case k2 => k_asm); (case k3 => k_asm); (case k4 => k_asm); (case k5 => k_asm); (case k6 => k_is); (case k7 => k_is); (case k8 => ktr_room); (case k9 => first | exact BindsTo.of_eq rfl | exact binds_K (by k_in) rfl (by k_is) rfl rfl rfl | (refine' kp_binds ?kx ?ke; (case kx => k_in); (case ke => exact fun _ => rfl))); (case c5 => decide); (case kB => exact locs rfl); (case c2 => exact rfl); (case c3 => exact rfl); (case c4 => exact rfl); k_whole; intro g' L' h' FG' F' N' B' X' T'; (try dsimp only); (try k_lift B'); (try k_fold))
  | (refine' code_defC ?k1 ?k2 ?k3 ?k4 ?k5 ?kA ?kF ?kK ?k6 ?k7 ?k8 ?k9 ?kB ?kD ?_ ?c2 ?c3 ?c4; (case kA => exact rfl); (case kF => exact rfl); (case kK => first | exact rfl | assumption); (case k1 => k_asm); (case k2 => k_asm); (case k3 => k_asm); (case k4 => k_asm); (case k5 => k_asm); (case k6 => k_is); (case k7 => k_is); (case k8 => ktr_room); (case k9 => first | exact BindsTo.of_eq rfl | exact binds_K (by k_in) rfl (by k_is) rfl rfl rfl | (refine' kp_binds ?kx ?ke; (case kx => k_in); (case ke => exact fun _ => rfl))); (case kB => exact rfl); (case kD => decide +kernel); (case c2 => exact rfl); (case c3 => exact rfl); (case c4 => exact rfl); k_whole; intro g' L' h' tk' cells' FG' F' N' Y' B' X' T' l1; (try k_lt l1); k_cells Y'; (try simp only [List.cons_append, List.nil_append] at N'); (try dsimp only); (try k_lift B'); (try k_fold)))
local macro_rules | `(tactic| walk_at "call ref") => `(tactic| (k_here; k_dflt (refine wpAny_call ?_; cell_enter)))
local macro_rules | `(tactic| k_all) => `(tactic| exact ne_tail (by assumption) (by first | exact Nat.le_refl _ | exact Nat.le_succ _ | omega))
local macro_rules | `(tactic| walk_at "eval BinOp") => `(tactic| (dsimp only; walk1))
local macro_rules | `(tactic| walk_at "eval Call") => `(tactic| (dsimp only; walk1))
local macro_rules | `(tactic| walk_at "binaryOp Pow int int") => `(tactic| (dsimp only; walk1))
-- HDR END
local macro_rules | `(tactic| cells_open $x:ident) => `(tactic| (obtain ⟨o11, o10, o9, o8, o7, o6, o5, o4, o3, o2, o1, he, d11, d10, d9, d8, d7, d6, d5, d4, d3, d2, d1⟩ := Mine.kc_eleven $x; subst he))
set_option maxHeartbeats 8000000 in
theorem all : PySem.Challenge.rw_fe0041_01.Holds := by
  exact Mine.hd (by
    w_strict (
      k_go0
      (all_goals try k_fold)
      (with_reducible rename Below _ _ _ _ => B9)
      (with_reducible rename Fr _ _ _ _ => F9)
      (with_reducible rename News _ _ _ _ => N9)
      (with_reducible rename Top _ _ _ _ _ _ => T9)
      (with_reducible rename Heap.IsList _ _ _ => l9)
      (with_reducible rename IntsAre _ _ => i9)
      refine law_chain (dp := 1 + claimMargin + 1) (un := 7) (gd := some []) (outer := []) B9 F9 (by assumption) N9 T9 (by decide +kernel) (by decide +kernel) (by assumption) (by assumption) (by assumption) (by assumption) (by assumption) (by assumption) (by assumption) (by assumption) (by assumption) (by assumption) (by assumption) l9 i9 (by omega) ?_
      intro h' tk' m' F'
      clear F9 N9
      k_steps
      all_goals (try k_data)
      all_goals w_report))
end Mine
end T_J2
theorem PySem.Challenge.cw_fe0041_01_holds : PySem.Challenge.rw_fe0041_01.Holds := by
  exact Mine.all
