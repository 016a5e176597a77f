import PyProof.Rows.All
import Wide.All
import OpenK.AllK
import Wide.FinOn
import Flt.RightMore
import PySem.Challenge.RW_pg0096_01
set_option Elab.async false
set_option compiler.extract_closed false
namespace Mine
section
open PySem PySem.W PyProof.Rows
set_option maxRecDepth 100000
set_option maxHeartbeats 8000000
open_top hd for PySem.Challenge.rw_pg0096_01
noncomputable abbrev lo : List Str := looseW hd.view_39 [Str.ofString "_twin_re_1", Str.ofString "_twin_re_2"] ++ List.map (fun x => x.name) (recsOf hd.view_39) ++ List.map (fun x => x.fst) (litsOf hd.view_39) ++ List.map (fun x => x.name) (clssOf hd.view_39 (looseW hd.view_39 [Str.ofString "_twin_re_1", Str.ofString "_twin_re_2"]))
noncomputable abbrev prg : Program := PySem.Challenge.pw_pg0096_01
theorem news_with {h₀ h : Heap} {L : Addr} {news : List (Addr × Obj)} {p : Addr × Obj} (N : News h₀ L h news) (hp : p ∈ news) : News h₀ L h (p :: news) :=
  fun q hq => (List.mem_cons.mp hq).elim (fun e => e ▸ N p hp) (N q)
theorem news_sub {h₀ h : Heap} {L : Addr} {news news' : List (Addr × Obj)} (N : News h₀ L h news') (hs : ∀ p ∈ news, p ∈ news') : News h₀ L h news := fun p hp => N p (hs p hp)
end
section
local macro_rules | `(tactic| walk_at $s:str) => `(tactic| k_extra $s)
local macro_rules | `(tactic| k_all) => `(tactic| walk_at "k_all")
section
open PySem PySem.W PyProof.Rows
set_option maxRecDepth 100000
set_option maxHeartbeats 8000000

open PySem.Float64
theorem grid (j : Nat) (hj : j < 2 ^ 53) : ∃ t', V t' = j * 2 ^ 1026 := by
  by_cases h0 : j = 0
  · exact ⟨0, by rw [h0, V_zero, Nat.zero_mul]⟩
  have h1 : 2 ^ j.log2 ≤ j := Nat.log2_self_le h0
  have h2 : j < 2 ^ (j.log2 + 1) := Nat.lt_log2_self
  have h3 : j.log2 ≤ 52 := by
    have : 2 ^ j.log2 < 2 ^ 53 := Nat.lt_of_le_of_lt h1 hj
    have := (Nat.pow_lt_pow_iff_right (by decide : 1 < 2)).mp this
    omega
  obtain ⟨s, hs⟩ := Nat.exists_eq_add_of_le h3
  have hq1 : 2 ^ 52 ≤ j * 2 ^ s := by
    rw [hs, Nat.pow_add]; exact Nat.mul_le_mul_right _ h1
  have hq2 : j * 2 ^ s < 2 ^ 53 := by
    have : (2 : Nat) ^ 53 = 2 ^ (j.log2 + 1) * 2 ^ s := by rw [← Nat.pow_add]; congr 1; omega
    rw [this]; exact Nat.mul_lt_mul_of_pos_right h2 (Nat.two_pow_pos _)
  have hs2 : s ≤ 52 := by omega
  refine ⟨(1026 - s) * 2 ^ 52 + j * 2 ^ s, ?_⟩
  rw [V_at (Nat.le_of_lt hq2) (.inl hq1), Nat.mul_assoc, ← Nat.pow_add]
  congr 2
  omega
theorem err {r : UInt64} {neg : Bool} {W D : Nat} (h : Right r neg W D) (hD : 0 < D) (hW : W < D * 2 ^ 1078) :
    ∃ m e v, decode r = .fin neg m e ∧ val r = sgn neg v ∧ D * v ≤ W + D * 2 ^ 1026 ∧ W ≤ D * v + D * 2 ^ 1026 := by
  obtain ⟨t, rfl, hle, hinf, hnear⟩ := h
  have hne : t ≠ infMag := by
    intro e
    have h1 := hinf.mp e
    have h2 : 2 * W < D * 2 ^ 1079 := by
      have : D * 2 ^ 1079 = 2 * (D * 2 ^ 1078) := by rw [show (1079 : Nat) = 1078 + 1 from rfl, Nat.pow_succ]; rw [← Nat.mul_assoc, Nat.mul_comm]
      omega
    have h3 : D * 2 ^ 1079 ≤ D * ((2 ^ 54 - 1) * 2 ^ 2045) := Nat.mul_le_mul_left _ (Nat.le_trans (Nat.pow_le_pow_right (by decide) (by decide : 1079 ≤ 2045)) (Nat.le_mul_of_pos_left _ (by decide)))
    omega
  have hlt : t < infMag := Nat.lt_of_le_of_ne hle hne
  obtain ⟨m, e, hd, hv⟩ := decode_pack neg hlt
  refine ⟨m, e, V t, hd, val_pack neg hlt, ?_⟩
  have hU : 0 < D * 2 ^ 1026 := Nat.mul_pos hD (Nat.two_pow_pos _)
  have hj : W / (D * 2 ^ 1026) < 2 ^ 53 := by
    have : W < D * 2 ^ 1026 * 2 ^ 52 := by rw [Nat.mul_assoc, ← Nat.pow_add]; exact hW
    exact Nat.lt_of_lt_of_le (Nat.div_lt_of_lt_mul this) (Nat.pow_le_pow_right (by decide) (by decide))
  obtain ⟨t', ht'⟩ := grid _ hj
  have hn := (hnear hlt t').1
  rw [ht'] at hn
  have e1 : D * (W / (D * 2 ^ 1026) * 2 ^ 1026) = (D * 2 ^ 1026) * (W / (D * 2 ^ 1026)) := by
    rw [Nat.mul_comm (W / _) _, Nat.mul_assoc]
  have h4 := Nat.div_add_mod W (D * 2 ^ 1026)
  have h5 := Nat.mod_lt W hU
  rw [e1] at hn
  unfold dist at hn
  generalize D * 2 ^ 1026 = U at *
  generalize U * (W / U) = P at *
  generalize W % U = R at *
  generalize D * V t = Y at *
  omega
/-- a finite float near a number (in units of 2^-1074) -/
noncomputable def Near (r : UInt64) (X B : Int) : Prop := (∃ a m e, decode r = .fin a m e) ∧ X - B ≤ val r ∧ val r ≤ X + B
theorem near_of {r : UInt64} {X : Int} (h0 : X = 0 → ∃ b, r = zero b) (h : X ≠ 0 → Right r (decide (X < 0)) X.natAbs 1) (hX : X.natAbs < 2 ^ 1078) : Near r X (2 ^ 1026) := by
  have hp : (0 : Int) < 2 ^ 1026 := Int.pow_pos (by decide)
  by_cases hz : X = 0
  · obtain ⟨b, rfl⟩ := h0 hz
    subst hz
    obtain ⟨m, e, hd, hv⟩ := decode_pack b (t := 0) (by decide : 0 < infMag)
    have e0 : val (zero b) = 0 := by
      show val (pack b 0) = 0
      rw [val_pack b (by decide : 0 < infMag), V_zero]
      cases b <;> rfl
    refine ⟨⟨b, m, e, hd⟩, ?_, ?_⟩ <;> rw [e0] <;> omega
  · obtain ⟨m, e, v, hd, hv, h1, h2⟩ := err (h hz) (by decide) (by rw [Nat.one_mul]; exact hX)
    rw [Nat.one_mul, Nat.one_mul] at h1 h2
    refine ⟨⟨_, m, e, hd⟩, ?_⟩
    rw [hv]
    have hc : ((2 ^ 1026 : Nat) : Int) = 2 ^ 1026 := by rw [Int.natCast_pow]; rfl
    generalize (2 : Int) ^ 1026 = U at *
    generalize (2 : Nat) ^ 1026 = U' at *
    by_cases hn : X < 0
    · rw [decide_eq_true hn]; unfold sgn; simp only [if_true]; omega
    · rw [decide_eq_false hn]; unfold sgn; simp only [Bool.false_eq_true, if_false]; omega
theorem near_add {x y : UInt64} (hx : ∃ a m e, decode x = .fin a m e) (hy : ∃ a m e, decode y = .fin a m e) (hX : (val x + val y).natAbs < 2 ^ 1078) : Near (add x y) (val x + val y) (2 ^ 1026) := by
  obtain ⟨a, m, e, hx⟩ := hx
  obtain ⟨b, k, f, hy⟩ := hy
  have h := add_right hx hy
  exact near_of (fun z => ⟨_, h.1 z⟩) h.2 hX
theorem near_sub {x y : UInt64} (hx : ∃ a m e, decode x = .fin a m e) (hy : ∃ a m e, decode y = .fin a m e) (hX : (val x - val y).natAbs < 2 ^ 1078) : Near (sub x y) (val x - val y) (2 ^ 1026) := by
  obtain ⟨a, m, e, hx⟩ := hx
  obtain ⟨b, k, f, hy⟩ := hy
  have h := sub_right hx hy
  exact near_of (fun z => ⟨_, h.1 z⟩) h.2 hX
theorem near_six {x : UInt64} (hx : ∃ a m e, decode x = .fin a m e) (hX : (6 * val x).natAbs < 2 ^ 1078) : Near (mul x (ofInt 6)) (6 * val x) (2 ^ 1026) := by
  obtain ⟨a, m, e, hx⟩ := hx
  have hs : ∃ k f, decode (ofInt 6) = .fin false k f := by
    have e : (match decode (ofInt 6) with | .fin b _ _ => !b | _ => false) = true := by decide +kernel
    cases h : decode (ofInt 6) with
    | nan => rw [h] at e; cases e
    | inf _ => rw [h] at e; cases e
    | fin b k f =>
      rw [h] at e
      cases b
      · exact ⟨k, f, rfl⟩
      · cases e
  obtain ⟨k, f, hs⟩ := hs
  have hv6 : val (ofInt 6) = 6 * 2 ^ 1074 := by decide +kernel
  have hr := mul_right hx hs
  have e6 : (val (ofInt 6)).natAbs = 6 * 2 ^ 1074 := by rw [hv6]; rfl
  rw [e6] at hr
  have hsg := val_eq hx
  generalize m * 2 ^ (e + 1074).toNat = M at hsg
  have hab : (val x).natAbs = M := by rw [hsg, sgn_natAbs]
  rw [hab] at hr
  have hW : M * (6 * 2 ^ 1074) = 2 ^ 1074 * (6 * M) := by rw [← Nat.mul_assoc, Nat.mul_comm, Nat.mul_comm M 6]
  have hM : 6 * M < 2 ^ 1078 := by
    rw [hsg] at hX
    have : (6 * sgn a M).natAbs = 6 * M := by rw [Int.natAbs_mul, sgn_natAbs]; rfl
    rwa [this] at hX
  obtain ⟨m', e', v, hd, hv, h1, h2⟩ := err hr (Nat.two_pow_pos _) (by rw [hW]; exact Nat.mul_lt_mul_of_pos_left hM (Nat.two_pow_pos _))
  rw [hW, ← Nat.mul_add] at h1
  rw [hW, ← Nat.mul_add] at h2
  have h1 := Nat.le_of_mul_le_mul_left h1 (Nat.two_pow_pos _)
  have h2 := Nat.le_of_mul_le_mul_left h2 (Nat.two_pow_pos _)
  refine ⟨⟨_, m', e', hd⟩, ?_⟩
  rw [hv, hsg]
  have hc : ((2 ^ 1026 : Nat) : Int) = 2 ^ 1026 := by rw [Int.natCast_pow]; rfl
  generalize (2 : Int) ^ 1026 = U at *
  generalize (2 : Nat) ^ 1026 = U' at *
  cases a
  · simp only [bne_self_eq_false]; unfold sgn; simp only [Bool.false_eq_true, if_false]; omega
  · simp only [show (true != false) = true from rfl]; unfold sgn; simp only [if_true]; omega
/-- int() of a positive float -/
theorem trunc_val {x : UInt64} (hx : ∃ a m e, decode x = .fin a m e) (h0 : 0 < val x) : Flt.toInt truncOf x = val x / 2 ^ 1074 := by
  obtain ⟨a, m, e, hx⟩ := hx
  have hge := decode_ge hx
  have hsg := val_eq hx
  unfold Flt.toInt
  rw [hx]
  dsimp only
  cases a
  · show floorOf false m e = _
    rw [hsg]
    unfold floorOf sgn
    simp only [Bool.false_eq_true, if_false]
    by_cases he : e ≥ 0
    · rw [if_pos he]
      have : (e + 1074).toNat = e.toNat + 1074 := by omega
      rw [this, Nat.pow_add, ← Nat.mul_assoc, Int.natCast_mul, Int.natCast_mul, Int.natCast_pow, Int.natCast_pow]
      exact (Int.mul_ediv_cancel _ (Int.ne_of_gt (Int.pow_pos (by decide)))).symm
    · rw [if_neg he]
      have h1 : (1074 : Nat) = (e + 1074).toNat + (-e).toNat := by omega
      rw [Int.fdiv_eq_ediv_of_nonneg _ (Int.le_of_lt (Int.pow_pos (by decide)))]
      have h2 : (2 : Int) ^ 1074 = 2 ^ (e + 1074).toNat * 2 ^ (-e).toNat := by rw [← Int.pow_add, ← h1]
      rw [h2, Int.natCast_mul, Int.natCast_pow, Int.mul_comm (m : Int)]
      exact (Int.mul_ediv_mul_of_pos _ _ (Int.pow_pos (by decide))).symm
  · exfalso
    rw [hsg] at h0
    unfold sgn at h0
    simp only [if_true] at h0
    omega
end
section
open PySem PySem.W PySem.W.X PyProof.Rows
set_option maxRecDepth 100000
set_option maxHeartbeats 8000000
/-- the widest surroundings in which the built-ins are run -/
noncomputable abbrev Ast : Around := { handled := none, depth := 900, frames := none, guards := none, units := 9000 }
theorem in_ast {A : Around} {Γ : Ctx} (h1 : A.handled = none) (h2 : A.depth ≤ 900) (h3 : A.units ≤ 9000) (h : Γ.In A) : Γ.In Ast :=
  ⟨h.1.trans h1, Nat.le_trans h.2.1 h2, fun _ e => (nomatch e), fun _ e => (nomatch e), Nat.le_trans h.2.2.2.2 h3⟩
theorem wp_ast {M : Model} {α : Type} {A : Around} {t : Sem α} {Q : α → Shared → Prop} {E : Value → Shared → Prop} {s : Shared} (h1 : A.handled = none) (h2 : A.depth ≤ 900) (h3 : A.units ≤ 9000) (h : wpAny M Ast t Q E s) : wpAny M A t Q E s :=
  fun Γ p hΓ => h Γ p (in_ast h1 h2 h3 hΓ)
noncomputable def Ext (h h' : Heap) : Prop := ∀ b o, h.get? b = some o → h'.get? b = some o
theorem ext_of {h h' : Heap} {news : List (Addr × Obj)} (D : Mem h h' [] news) : Ext h h' := fun b o e => D.keep b o e (by cases hasCls o <;> rfl)
theorem fr_ext {h₀ h h' : Heap} {L : Addr} {m : Str → Option Value} (F : Fr h₀ L h m) (x : Ext h h') : Fr h₀ L h' m := by
  obtain ⟨o, a1, a2, hL, a3⟩ := F.ns
  exact ⟨⟨o, a1, a2, x _ _ hL, a3⟩, fun b o e => x _ _ (F.keep b o e), F.above⟩
theorem news_ext {h₀ h h' : Heap} {L : Addr} {news : List (Addr × Obj)} (N : News h₀ L h news) (x : Ext h h') : News h₀ L h' news := fun p hp => ⟨x _ _ (N p hp).1, (N p hp).2⟩
end
section
open PySem PySem.W PyProof.Rows
set_option maxRecDepth 100000
set_option maxHeartbeats 8000000

section
variable {w : World} {A : Around} {h₀ : Heap} {L : Addr} {m : Str → Option Value} {s : Shared} {Q E : Value → Shared → Prop} {news : List (Addr × Obj)}
theorem minL_k {r g b : Int} {tr tg tb n : Nat} {l : Addr} (F : Fr h₀ L s.heap m) (N : News h₀ L s.heap news) (hm : (l, W.listOf #[.int r tr, .int g tg, .int b tb] n) ∈ news) (h1 : A.handled = none) (h2 : A.depth ≤ 900) (h3 : A.units ≤ 9000)
  (hret : ∀ (t' : Tok) (h' : Heap) (tk' : Nat), Fr h₀ L h' m → News h₀ L h' news → Q (.int (min (min r g) b) t') { s with heap := h', toks := tk' }) :
  wpAny (model prg w) A (call (.builtin "min") [.ref l]) Q E s :=
  min_list_N (vs := [.int r tr, .int g tg, .int b tb]) (ns := [r, g, b]) h1 F N ⟨_, (N _ hm).1, rfl, _, rfl⟩ (.cons _ _ (.cons _ _ (.cons _ _ .nil))) (Nat.zero_lt_succ _) (fun h' M t tk F' N' hM hb => by
    have b1 := hb r (by simp)
    have b2 := hb g (by simp)
    have b3 := hb b (by simp)
    have e : min (min r g) b = M := by
      simp only [List.mem_cons, List.not_mem_nil, or_false] at hM
      rcases hM with rfl | rfl | rfl <;> omega
    rw [← e]
    exact hret _ _ _ F' N')
theorem maxL_k {r g b : Int} {tr tg tb n : Nat} {l : Addr} (F : Fr h₀ L s.heap m) (N : News h₀ L s.heap news) (hm : (l, W.listOf #[.int r tr, .int g tg, .int b tb] n) ∈ news) (h1 : A.handled = none) (h2 : A.depth ≤ 900) (h3 : A.units ≤ 9000)
  (hret : ∀ (t' : Tok) (h' : Heap) (tk' : Nat), Fr h₀ L h' m → News h₀ L h' news → Q (.int (max (max r g) b) t') { s with heap := h', toks := tk' }) :
  wpAny (model prg w) A (call (.builtin "max") [.ref l]) Q E s :=
  max_list_N (vs := [.int r tr, .int g tg, .int b tb]) (ns := [r, g, b]) h1 F N ⟨_, (N _ hm).1, rfl, _, rfl⟩ (.cons _ _ (.cons _ _ (.cons _ _ .nil))) (Nat.zero_lt_succ _) (fun h' M t tk F' N' hM hb => by
    have b1 := hb r (by simp)
    have b2 := hb g (by simp)
    have b3 := hb b (by simp)
    have e : max (max r g) b = M := by
      simp only [List.mem_cons, List.not_mem_nil, or_false] at hM
      rcases hM with rfl | rfl | rfl <;> omega
    rw [← e]
    exact hret _ _ _ F' N')
end
end
section
open PySem PySem.W PyProof.Rows
set_option maxRecDepth 100000
set_option maxHeartbeats 8000000


section
variable {w : World} {mean : ExcName → Option Value} {mg mb : Str → Option Value} {dp un : Nat} {gd : Option (List Code)} {cn : Str} {cs : Scope} {fa : Addr} {ccd : Value} {cl : List (Str × Addr)} {outer : List Env} {A A₀ : Around} {base h₀ : Heap} {L : Addr} {m : Str → Option Value} {s : Shared} {Q E : Value → Shared → Prop} {news : List (Addr × Obj)}

theorem size_k {l : Addr} {r g b : Int} {tr tg tb n : Nat}
  (hr : -1000 < r ∧ r < 1000) (hg : -1000 < g ∧ g < 1000) (hb : -1000 < b ∧ b < 1000)
  (B : Below A₀ base outer h₀) (F : Fr h₀ L s.heap m) (X : (hd.heap_39 w.params).In h₀) (N : News h₀ L s.heap ((l, W.listOf #[.int r tr, .int g tg, .int b tb] n) :: news)) (T : Top topProg lo mean mg mb h₀) (hk : cs.kind = .function)
  (hdp : dp + 1 < recursionLimit) (hun : un + 8 < cLine)
  (hret : ∀ (t : Tok) (h' : Heap) (tk' : Nat), Fr h₀ L h' m → News h₀ L h' ((l, W.listOf #[.int r tr, .int g tg, .int b tb] n) :: news) → Q (.int (r*r+g*g+b*b-r*g-g*b-b*r) t) { s with heap := h', toks := tk' }) :
  wpAny (model prg w) (ktrTop dp un gd cn cs L fa ccd cl outer) (call (.ref 123) [.ref l]) Q E s := by
  refine wpAny_call ?_
  w_top off
  k_with_none
  cell_enter
  w_top off
  k_with_none
  k_steps
  all_goals cb_end hret
end
end
section
open PySem PySem.W PyProof.Rows
set_option maxRecDepth 100000
set_option maxHeartbeats 8000000


section
variable {w : World} {mean : ExcName → Option Value} {mg mb : Str → Option Value} {dp un : Nat} {gd : Option (List Code)} {cn : Str} {cs : Scope} {fa : Addr} {ccd : Value} {cl : List (Str × Addr)} {outer : List Env} {A A₀ : Around} {base h₀ : Heap} {L : Addr} {m : Str → Option Value} {s : Shared} {Q E : Value → Shared → Prop} {news : List (Addr × Obj)}

theorem max3_k {r g b : Int} {tr tg tb : Nat} (F : Fr h₀ L s.heap m) (N : News h₀ L s.heap news) (h1 : A.handled = none) (h2 : A.depth ≤ 900) (h3 : A.units ≤ 9000)
  (hret : ∀ (t' : Tok) (h' : Heap) (tk' : Nat), Fr h₀ L h' m → News h₀ L h' news → Q (.int (max (max r g) b) t') { s with heap := h', toks := tk' }) :
  wpAny (model prg w) A (call (.builtin "max") [.int r tr, .int g tg, .int b tb]) Q E s :=
  max_three_ints h1 (fun h' tk hk => by
    have r1 := fun t => hret t h' tk (F.keeps hk) (N.grown hk)
    split <;> split
    · rw [show max (max r g) b = b by omega] at r1; exact r1 _
    · rw [show max (max r g) b = g by omega] at r1; exact r1 _
    · rw [show max (max r g) b = b by omega] at r1; exact r1 _
    · rw [show max (max r g) b = r by omega] at r1; exact r1 _)
theorem min3_k {r g b : Int} {tr tg tb : Nat} (F : Fr h₀ L s.heap m) (N : News h₀ L s.heap news) (h1 : A.handled = none) (h2 : A.depth ≤ 900) (h3 : A.units ≤ 9000)
  (hret : ∀ (t' : Tok) (h' : Heap) (tk' : Nat), Fr h₀ L h' m → News h₀ L h' news → Q (.int (min (min r g) b) t') { s with heap := h', toks := tk' }) :
  wpAny (model prg w) A (call (.builtin "min") [.int r tr, .int g tg, .int b tb]) Q E s :=
  min_three_ints h1 (fun h' tk hk => by
    have r1 := fun t => hret t h' tk (F.keeps hk) (N.grown hk)
    split <;> split
    · rw [show min (min r g) b = b by omega] at r1; exact r1 _
    · rw [show min (min r g) b = g by omega] at r1; exact r1 _
    · rw [show min (min r g) b = b by omega] at r1; exact r1 _
    · rw [show min (min r g) b = r by omega] at r1; exact r1 _)
noncomputable abbrev tup (vs : Array Value) : Obj := { cls := .type "tuple", data := .seq vs }
noncomputable abbrev frI (x y : Int) : UInt64 := Float64.ofFrac (decide (x < 0) != decide (y < 0)) x.natAbs y.natAbs
/-- the hue that rgb_to_hsv tells -/
noncomputable def hueF (r g b : Int) : UInt64 :=
  if min (min r g) b = max (max r g) b then 0
  else (Float64.divmod (Float64.div (
    if r = max (max r g) b then Float64.sub (frI (max (max r g) b - b) (max (max r g) b - min (min r g) b)) (frI (max (max r g) b - g) (max (max r g) b - min (min r g) b))
    else if g = max (max r g) b then Float64.sub (Float64.add 4611686018427387904 (frI (max (max r g) b - r) (max (max r g) b - min (min r g) b))) (frI (max (max r g) b - b) (max (max r g) b - min (min r g) b))
    else Float64.sub (Float64.add 4616189618054758400 (frI (max (max r g) b - g) (max (max r g) b - min (min r g) b))) (frI (max (max r g) b - r) (max (max r g) b - min (min r g) b))) 4618441417868443648) 4607182418800017408).snd
noncomputable abbrev RgbRet (h₀ : Heap) (L : Addr) (m : Str → Option Value) (news : List (Addr × Obj)) (s : Shared) (Q : Value → Shared → Prop) (x : UInt64) : Prop :=
  ∀ (D : Addr) (t : Tok) (v1 v2 : Value) (h' : Heap) (tk' : Nat), Fr h₀ L h' m → News h₀ L h' ((D, tup #[.float x t, v1, v2]) :: news) → Q (.ref D) { s with heap := h', toks := tk' }
theorem rgb_end {x y : UInt64} {D : Addr} {t : Tok} {v1 v2 : Value} {h' : Heap} {tk' : Nat} (hret : RgbRet h₀ L m news s Q x) (e : y = x) (F : Fr h₀ L h' m) (N : News h₀ L h' ((D, tup #[.float y t, v1, v2]) :: news)) : Q (.ref D) { s with heap := h', toks := tk' } := by
  subst e
  exact hret D t v1 v2 h' tk' F N
theorem rgb_k {r g b : Int} {tr tg tb : Nat} (B : Below A₀ base outer h₀) (F : Fr h₀ L s.heap m) (X : (hd.heap_39 w.params).In h₀) (N : News h₀ L s.heap news) (T : Top topProg lo mean mg mb h₀) (hk : cs.kind = .function)
  (hr : 1 ≤ r ∧ r < 40) (hg : 1 ≤ g ∧ g < 40) (hb : 1 ≤ b ∧ b < 40)
  (hdp : dp < 800) (hun : un < 8000)
  (hret : RgbRet h₀ L m news s Q (hueF r g b)) :
  wpAny (model prg w) (ktrTop dp un gd cn cs L fa ccd cl outer) (call (.ref 38) [.int r tr, .int g tg, .int b tb]) Q E s := by
  refine wpAny_call ?_
  w_top off
  k_with_none
  k_with "call builtin:max" => (k_here; (with_reducible show wpAny _ _ (call (Value.builtin "max") [Value.int _ _, Value.int _ _, Value.int _ _]) _ _ _); (refine' max3_k ?q1k1 ?q1k2 ?q1k3 ?q1k4 ?q1k5 ?_; (case q1k1 => k_asm); (case q1k2 => k_asm); (case q1k3 => (first | rfl | assumption)); (case q1k4 => (first | exact Nat.lt_of_lt_of_le (Nat.add_lt_add_right hdp _) (by decide) | exact Nat.lt_of_lt_of_le hdp (by decide) | omega | ((try simp only [depth_under_make, depth_under_kw, depth_in1, depth_deeper, depth_caller]); (try dsimp only [ktrTop]); omega))); (case q1k5 => (first | exact Nat.lt_of_lt_of_le (Nat.add_lt_add_right hun _) (by decide) | exact Nat.lt_of_lt_of_le hun (by decide) | omega | ((try simp only [units_in1, units_deeper, Around.mark_units, units_caller]); (try dsimp only [ktrTop]); omega)))); intro t9 h9 tk9 F9 N9; (try dsimp only); (try k_fold))
  k_with "call builtin:min" => (k_here; (with_reducible show wpAny _ _ (call (Value.builtin "min") [Value.int _ _, Value.int _ _, Value.int _ _]) _ _ _); (refine' min3_k ?q2k1 ?q2k2 ?q2k3 ?q2k4 ?q2k5 ?_; (case q2k1 => k_asm); (case q2k2 => k_asm); (case q2k3 => (first | rfl | assumption)); (case q2k4 => (first | exact Nat.lt_of_lt_of_le (Nat.add_lt_add_right hdp _) (by decide) | exact Nat.lt_of_lt_of_le hdp (by decide) | omega | ((try simp only [depth_under_make, depth_under_kw, depth_in1, depth_deeper, depth_caller]); (try dsimp only [ktrTop]); omega))); (case q2k5 => (first | exact Nat.lt_of_lt_of_le (Nat.add_lt_add_right hun _) (by decide) | exact Nat.lt_of_lt_of_le hun (by decide) | omega | ((try simp only [units_in1, units_deeper, Around.mark_units, units_caller]); (try dsimp only [ktrTop]); omega)))); intro t9 h9 tk9 F9 N9; (try dsimp only); (try k_fold))
  cell_enter
  w_top off
  k_with_none
  k_with "call builtin:max" => (k_here; (with_reducible show wpAny _ _ (call (Value.builtin "max") [Value.int _ _, Value.int _ _, Value.int _ _]) _ _ _); (refine' max3_k ?q1k1 ?q1k2 ?q1k3 ?q1k4 ?q1k5 ?_; (case q1k1 => k_asm); (case q1k2 => k_asm); (case q1k3 => (first | rfl | assumption)); (case q1k4 => (first | exact Nat.lt_of_lt_of_le (Nat.add_lt_add_right hdp _) (by decide) | exact Nat.lt_of_lt_of_le hdp (by decide) | omega | ((try simp only [depth_under_make, depth_under_kw, depth_in1, depth_deeper, depth_caller]); (try dsimp only [ktrTop]); omega))); (case q1k5 => (first | exact Nat.lt_of_lt_of_le (Nat.add_lt_add_right hun _) (by decide) | exact Nat.lt_of_lt_of_le hun (by decide) | omega | ((try simp only [units_in1, units_deeper, Around.mark_units, units_caller]); (try dsimp only [ktrTop]); omega)))); intro t9 h9 tk9 F9 N9; (try dsimp only); (try k_fold))
  k_with "call builtin:min" => (k_here; (with_reducible show wpAny _ _ (call (Value.builtin "min") [Value.int _ _, Value.int _ _, Value.int _ _]) _ _ _); (refine' min3_k ?q2k1 ?q2k2 ?q2k3 ?q2k4 ?q2k5 ?_; (case q2k1 => k_asm); (case q2k2 => k_asm); (case q2k3 => (first | rfl | assumption)); (case q2k4 => (first | exact Nat.lt_of_lt_of_le (Nat.add_lt_add_right hdp _) (by decide) | exact Nat.lt_of_lt_of_le hdp (by decide) | omega | ((try simp only [depth_under_make, depth_under_kw, depth_in1, depth_deeper, depth_caller]); (try dsimp only [ktrTop]); omega))); (case q2k5 => (first | exact Nat.lt_of_lt_of_le (Nat.add_lt_add_right hun _) (by decide) | exact Nat.lt_of_lt_of_le hun (by decide) | omega | ((try simp only [units_in1, units_deeper, Around.mark_units, units_caller]); (try dsimp only [ktrTop]); omega)))); intro t9 h9 tk9 F9 N9; (try dsimp only); (try k_fold))
  k_steps
  all_goals (refine' rgb_end hret ?e1 ?e2 ?e3; (case e2 => k_asm); (case e3 => (first | k_asm | (refine' news_sub ?n1 ?n2; (case n1 => k_asm); (case n2 => kcj_all)))); (case e1 => (unfold hueF; first | rw [if_pos (by assumption)] | rw [if_neg (by assumption), if_pos (by assumption)] | rw [if_neg (by assumption), if_neg (by assumption), if_pos (by assumption)] | rw [if_neg (by assumption), if_neg (by assumption), if_neg (by assumption)])))
end
end
section
open PySem PySem.W PyProof.Rows
set_option maxRecDepth 100000
set_option maxHeartbeats 8000000


section
variable {w : World} {mean : ExcName → Option Value} {mg mb : Str → Option Value} {dp un : Nat} {gd : Option (List Code)} {cn : Str} {cs : Scope} {fa : Addr} {ccd : Value} {cl : List (Str × Addr)} {outer : List Env} {A A₀ : Around} {base h₀ : Heap} {L : Addr} {m : Str → Option Value} {s : Shared} {Q E : Value → Shared → Prop} {news : List (Addr × Obj)}

noncomputable def ux (k : Int) : UInt64 := if k = 0 ∨ k = 1 ∨ k = 5 then 4607182418800017408 else 0
noncomputable def uy (k : Int) : UInt64 := if k = 1 ∨ k = 2 ∨ k = 3 then 4607182418800017408 else 0
noncomputable def uz (k : Int) : UInt64 := if k = 3 ∨ k = 4 ∨ k = 5 then 4607182418800017408 else 0
noncomputable abbrev six64 : UInt64 := 4618441417868443648
noncomputable abbrev HsvRet (h₀ : Heap) (L : Addr) (m : Str → Option Value) (news : List (Addr × Obj)) (s : Shared) (Q : Value → Shared → Prop) (k : Int) : Prop :=
  ∀ (D : Addr) (t t' t'' : Tok) (h' : Heap) (tk' : Nat), Fr h₀ L h' m → News h₀ L h' ((D, tup #[.float (ux k) t, .float (uy k) t', .float (uz k) t'']) :: news) → Q (.ref D) { s with heap := h', toks := tk' }
theorem hsv_end {k : Int} {x y z : UInt64} {D : Addr} {t t' t'' : Tok} {h' : Heap} {tk' : Nat} (hret : HsvRet h₀ L m news s Q k) (e1 : x = ux k) (e2 : y = uy k) (e3 : z = uz k) (F : Fr h₀ L h' m) (N : News h₀ L h' ((D, tup #[.float x t, .float y t', .float z t'']) :: news)) : Q (.ref D) { s with heap := h', toks := tk' } := by
  subst e1 e2 e3
  exact hret D t t' t'' h' tk' F N
theorem kfm {i k j : Int} (hI : i = k) (h0 : 0 ≤ k) (h6 : k < 6) (hp : i.fmod 6 = j) : k = j := by
  subst hI
  rw [Int.fmod_eq_emod_of_nonneg _ (by decide)] at hp
  omega
theorem kno {i k : Int} (hI : i = k) (h0 : 0 ≤ k) (h6 : k < 6) (n0 : i.fmod 6 ≠ 0) (n1 : i.fmod 6 ≠ 1) (n2 : i.fmod 6 ≠ 2) (n3 : i.fmod 6 ≠ 3) (n4 : i.fmod 6 ≠ 4) (n5 : i.fmod 6 ≠ 5) : False := by
  subst hI
  rw [Int.fmod_eq_emod_of_nonneg _ (by decide)] at *
  omega
theorem hsv_k {x : UInt64} {k : Int} {t1 t2 t3 : Nat} (B : Below A₀ base outer h₀) (F : Fr h₀ L s.heap m) (X : (hd.heap_39 w.params).In h₀) (N : News h₀ L s.heap news) (T : Top topProg lo mean mg mb h₀) (hk : cs.kind = .function)
  (h0 : 0 ≤ k) (h6 : k < 6) (hF : Float64.isFinite (Float64.mul x six64) = true) (hI : Flt.toInt Float64.truncOf (Float64.mul x six64) = k) (hz : Float64.sub (Float64.mul x six64) (Float64.ofInt k) = 0)
  (hB : (Flt.toInt Float64.truncOf (Float64.mul x six64)).natAbs < 2 ^ 1024 - 2 ^ 970)
  (hdp : dp < 800) (hun : un < 8000)
  (hret : HsvRet h₀ L m news s Q k) :
  wpAny (model prg w) (ktrTop dp un gd cn cs L fa ccd cl outer) (call (.ref 45) [.float x t1, .float 4607182418800017408 t2, .float 4607182418800017408 t3]) Q E s := by
  refine wpAny_call ?_
  w_top off
  k_with_none
  cell_enter
  w_top off
  k_with_none
  k_steps
  all_goals first
   | exact absurd (by assumption : (Float64.cmp 4607182418800017408 0 == some Ordering.eq) = true) (by decide +kernel)
   | ((first
       | have hj : k = 0 := kfm hI h0 h6 (by assumption)
       | have hj : k = 1 := kfm hI h0 h6 (by assumption)
       | have hj : k = 2 := kfm hI h0 h6 (by assumption)
       | have hj : k = 3 := kfm hI h0 h6 (by assumption)
       | have hj : k = 4 := kfm hI h0 h6 (by assumption)
       | have hj : k = 5 := kfm hI h0 h6 (by assumption))
      subst hj
      refine' hsv_end hret ?e1 ?e2 ?e3 ?e4 ?e5; (case e4 => k_asm); (case e5 => (first | k_asm | (refine' news_sub ?n1 ?n2; (case n1 => k_asm); (case n2 => kcj_all)))); (case e1 => first | decide +kernel | (rw [hI, hz]; decide +kernel)); (case e2 => first | decide +kernel | (rw [hI, hz]; decide +kernel)); (case e3 => first | decide +kernel | (rw [hI, hz]; decide +kernel)))
   | exact (kno hI h0 h6 (by assumption) (by assumption) (by assumption) (by assumption) (by assumption) (by assumption)).elim
end
end
section
open PySem PySem.W PyProof.Rows
set_option maxRecDepth 100000
set_option maxHeartbeats 8000000

section
open LCg
variable {prog : Program} {w : World} {A : Around} {E : Value → Shared → Prop} {s : Shared} {h₀ : Heap} {L : Addr} {m : Str → Option Value} {env : Env}
/-- a tuple of the ledger's -/
noncomputable def TupAt (ax : Addr) (its : Array Value) (news : List (Addr × Obj)) : Prop := False ∨ ∃ o, (ax, o) ∈ news ∧ o.cls = .type "tuple" ∧ ∃ n, o.data = .seq its n
theorem TupAt.tup {h : Heap} {ax : Addr} {its : Array Value} {news : List (Addr × Obj)} (x : TupAt ax its news) (N : News h₀ L h news) : h.IsTuple ax its := by
  rcases x with x | ⟨o, hm, r⟩
  · exact x.elim
  · exact ⟨o, (N _ hm).1, r⟩
noncomputable def TupSrc (prog : Program) (w : World) (A : Around) (h₀ : Heap) (L : Addr) (m : Str → Option Value) (env : Env) (elt : Expr) (x : Str) (scope : Scope) (cl : List (Str × Addr)) (Fin : Shared → List Value → List (Addr × Obj) → Prop) (xv : Value) (s₁ : Shared) : Prop :=
  ∃ ax its news, xv = .ref ax ∧ A.handled = none ∧ Fr h₀ L s₁.heap m ∧ News h₀ L s₁.heap news ∧ TupAt ax its news ∧ its.size ≤ sizeLine ∧
    ∀ s₂ : Shared, (∃ h, s₂ = { s₁ with heap := h }) → CompRest prog w A h₀ L m env elt x scope cl s₂ (TupAt ax its) (fun i v => its[i]? = some v) (Fin s₂) its.size 0 [] news
theorem TupSrc.ledger {elt : Expr} {x : Str} {scope : Scope} {cl : List (Str × Addr)} {Fin : Shared → List Value → List (Addr × Obj) → Prop} {ax : Addr} {its : Array Value} {news : List (Addr × Obj)} {s₁ : Shared}
    (hh : A.handled = none) (F : Fr h₀ L s₁.heap m) (N : News h₀ L s₁.heap news) (hm : (ax, tup its) ∈ news) (hsz : its.size ≤ sizeLine)
    (h : ∀ g, CompRest prog w A h₀ L m env elt x scope cl { s₁ with heap := g } (TupAt ax its) (fun i v => its[i]? = some v) (Fin { s₁ with heap := g }) its.size 0 [] news) :
    TupSrc prog w A h₀ L m env elt x scope cl Fin (.ref ax) s₁ := ⟨ax, its, news, rfl, hh, F, N, .inr ⟨_, hm, rfl, _, rfl⟩, hsz, fun _ ⟨g, e⟩ => e ▸ h g⟩
theorem tup_st {ax I : Addr} {its : Array Value} : ∀ i (h h' : Heap) (o : Obj) (nw : List (Addr × Obj)), (h.IsTupleIter I ax i ∧ h.IsTuple ax its) → h.get? I = some o → h'.get? I = some o → (∀ b o, h₀.get? b = some o → h'.get? b = some o) → News h₀ L h' nw → TupAt ax its nw → (h'.IsTupleIter I ax i ∧ h'.IsTuple ax its) :=
  fun i h h' o nw st e e' _ N S => ⟨by obtain ⟨o', q, r⟩ := st.1; rw [e] at q; cases q; exact ⟨o, e', r⟩, S.tup N⟩
theorem ListComp_T {elt iter : Expr} {x : Str} {px : Pos} {scope : Scope} {cl : List (Str × Addr)} {pos : Pos} {Q : Value → Shared → Prop} (F₀ : Fr h₀ L s.heap m)
    (hclos : closureFor scope env = pure cl) (hcell : ∀ y ∈ scope.names, y.2 ≠ .cell) (hkind : scope.kind = .function)
    (hnames : ∀ y ∈ scope.names, y.2 = .local → scope.names.lookup y.1 = some .local) (hx : scope.names.lookup x = some .local)
    (h : wpAny (model prog w) A (eval iter env) (TupSrc prog w A h₀ L m env elt x scope cl (fun s₂ => FinE h₀ L m s₂ Q)) E s)
    (hs : ∀ x, foldedSetIterable iter env x = pure x := by intro _; rfl) :
    wpAny (model prog w) A (eval (.ListComp elt [⟨.Name x px, iter, [], 0⟩] scope pos) env) Q E s := by
  rw [eval_ListComp]
  refine wpAny_comprehension_free (use := none) rfl hs hclos hkind hnames (wpAny_mono h (fun xv s₁ h₁ => ?_) fun _ _ e => e)
  obtain ⟨ax, its, news, rfl, hh, F, N, S, hsz, R⟩ := h₁
  have hl := S.tup N
  have hlt : ax < s₁.heap.objs.size := by obtain ⟨_, e, _⟩ := hl; exact Heap.lt_size e
  refine wpAny_pyIter_tuple hl ?_
  have up : ∀ b o, s₁.heap.get? b = some o → (s₁.heap.push { cls := .type "tuple_iterator", data := .fields #[.ref ax, .int 0 0] }).get? b = some o := fun b o e => Heap.get?_push_of_some _ e
  refine block_U (Walks.tuple hh s₁.heap.objs.size ax (Nat.ne_of_lt hlt) its) hsz (fun i h st => by obtain ⟨o, e, _⟩ := st.1; exact ⟨o, e⟩) tup_st hcell hkind hx ⟨⟨_, Heap.get?_push_size _ rfl, rfl, rfl⟩, hl.push _⟩ (fun b hb => ?_)
    (F.keeps up) (N.grown up) (Nat.ne_of_lt F.ns.lt) (next_is_new F) (fun p hp => Nat.ne_of_lt (Heap.lt_size (N p hp).1)) S (R _ ⟨_, rfl⟩) ?_
  · show b < (s₁.heap.push _).objs.size
    rw [Heap.size_push]
    rcases List.mem_cons.mp hb with rfl | hb
    · exact Nat.lt_succ_self _
    · rw [List.mem_singleton.mp hb]; exact Nat.lt_succ_of_lt hlt
  · intro D C h tk m' ys news' F' N' o1 hn hC₀ hD₀ hCL hDL hCD offC fin
    refine ⟨m', hn, fun h'' hs'' => fin D h'' tk (F'.change hs'' hCL hC₀) (fun p hp => ?_) o1⟩
    refine ⟨hs''.extBut _ _ ?_ (N' p hp).1, (N' p hp).2⟩
    rcases List.mem_cons.mp hp with rfl | hp
    · exact Ne.symm hCD
    · exact offC p hp
theorem off1_of {D : Addr} : ∀ {l : List (Addr × Obj)}, AllLt D l → Off1 D l
  | [], _ => trivial
  | _ :: _, h => ⟨Nat.ne_of_lt h.1, off1_of h.2⟩
theorem cend0 {s₁ : Shared} {I C D : Addr} {oI oC oD : Obj} {S : List (Addr × Obj) → Prop} {rest : Value → List (Addr × Obj) → Prop} {y : Value} {h' : Heap} {tk : Nat} {nw : List (Addr × Obj)}
    (F : Fr h₀ L h' m) (N : News h₀ L h' ((I, oI) :: (C, oC) :: (D, oD) :: nw)) (off : Off3 I C D nw) (hS : S nw) (r : rest y nw) :
    CompEnd h₀ L m s₁ I oI C oC D oD S rest y { s₁ with heap := h', toks := tk } := CompEnd.intro F N nw (fun _ hp => hp) off hS r
theorem cend1 {s₁ : Shared} {I C D : Addr} {oI oC oD : Obj} {S : List (Addr × Obj) → Prop} {rest : Value → List (Addr × Obj) → Prop} {y : Value} {h' : Heap} {tk : Nat} {nw : List (Addr × Obj)} {x : Addr × Obj}
    (F : Fr h₀ L h' m) (N : News h₀ L h' (x :: (I, oI) :: (C, oC) :: (D, oD) :: nw)) (lt : Off1 x.1 ((I, oI) :: (C, oC) :: (D, oD) :: nw)) (off : Off3 I C D nw) (hS : S (x :: nw)) (r : rest y (x :: nw)) :
    CompEnd h₀ L m s₁ I oI C oC D oD S rest y { s₁ with heap := h', toks := tk } :=
  CompEnd.intro F N (x :: nw) (fun p hp => by
    rcases List.mem_cons.mp hp with rfl | hp
    · exact .tail _ (.head _)
    · rcases List.mem_cons.mp hp with rfl | hp
      · exact .tail _ (.tail _ (.head _))
      · rcases List.mem_cons.mp hp with rfl | hp
        · exact .tail _ (.tail _ (.tail _ (.head _)))
        · rcases List.mem_cons.mp hp with rfl | hp
          · exact .head _
          · exact .tail _ (.tail _ (.tail _ (.tail _ hp)))) ⟨⟨Ne.symm lt.1, Ne.symm lt.2.1, Ne.symm lt.2.2.1⟩, off⟩ hS r
end
end
section
open PySem PySem.W PyProof.Rows
set_option maxRecDepth 100000
set_option maxHeartbeats 8000000


section
variable {w : World} {mean : ExcName → Option Value} {mg mb : Str → Option Value} {dp un : Nat} {gd : Option (List Code)} {cn : Str} {cs : Scope} {fa : Addr} {ccd : Value} {cl : List (Str × Addr)} {outer : List Env} {A A₀ : Around} {base h₀ : Heap} {L : Addr} {m : Str → Option Value} {s : Shared} {Q E : Value → Shared → Prop} {news : List (Addr × Obj)}

theorem ofk {k : Int} (h0 : 0 ≤ k) (h6 : k < 6) : Float64.isFinite (Float64.mul (frI k 6) six64) = true ∧ Flt.toInt Float64.truncOf (Float64.mul (frI k 6) six64) = k ∧ Float64.sub (Float64.mul (frI k 6) six64) (Float64.ofInt k) = 0 := by
  have : k = 0 ∨ k = 1 ∨ k = 2 ∨ k = 3 ∨ k = 4 ∨ k = 5 := by omega
  rcases this with rfl | rfl | rfl | rfl | rfl | rfl <;> exact ⟨by decide +kernel, by decide +kernel, by decide +kernel⟩
theorem hsv_use {k : Int} {t1 t2 t3 : Nat} (B : Below A₀ base outer h₀) (F : Fr h₀ L s.heap m) (X : (hd.heap_39 w.params).In h₀) (N : News h₀ L s.heap news) (T : Top topProg lo mean mg mb h₀) (hk : cs.kind = .function)
  (h0 : 0 ≤ k) (h6 : k < 6) (hdp : dp < 800) (hun : un < 8000) (hret : HsvRet h₀ L m news s Q k) :
  wpAny (model prg w) (ktrTop dp un gd cn cs L fa ccd cl outer) (call (.ref 45) [.float (frI k 6) t1, .float 4607182418800017408 t2, .float 4607182418800017408 t3]) Q E s :=
  have h := ofk h0 h6
  hsv_k B F X N T hk h0 h6 h.1 h.2.1 h.2.2 (by rw [h.2.1]; exact Nat.lt_of_lt_of_le (show k.natAbs < 6 by omega) (by decide)) hdp hun hret
noncomputable def xi (k : Int) : Int := if k = 0 ∨ k = 1 ∨ k = 5 then 1 else 0
noncomputable def yi (k : Int) : Int := if k = 1 ∨ k = 2 ∨ k = 3 then 1 else 0
noncomputable def zi (k : Int) : Int := if k = 3 ∨ k = 4 ∨ k = 5 then 1 else 0
theorem xi01 (k : Int) : 0 ≤ xi k ∧ xi k ≤ 1 := by unfold xi; split <;> decide
theorem yi01 (k : Int) : 0 ≤ yi k ∧ yi k ≤ 1 := by unfold yi; split <;> decide
theorem zi01 (k : Int) : 0 ≤ zi k ∧ zi k ≤ 1 := by unfold zi; split <;> decide
theorem int_one {t : Tok} (hA : A.handled = none) (h : ∀ t' tk', Q (.int 1 t') { s with toks := tk' }) : wpAny (model prg w) A (call (.type "int") [.float 4607182418800017408 t]) Q E s :=
  Flt.call_int_float3 hA (fun h => absurd h (by decide +kernel)) (fun h => absurd h (by decide +kernel)) (fun _ => (show Flt.toInt Float64.truncOf 4607182418800017408 = 1 by decide +kernel) ▸ h _ _)
theorem int_nil {t : Tok} (hA : A.handled = none) (h : ∀ t' tk', Q (.int 0 t') { s with toks := tk' }) : wpAny (model prg w) A (call (.type "int") [.float 0 t]) Q E s :=
  Flt.call_int_float3 hA (fun h => absurd h (by decide +kernel)) (fun h => absurd h (by decide +kernel)) (fun _ => (show Flt.toInt Float64.truncOf 0 = 0 by decide +kernel) ▸ h _ _)
theorem int_x {k : Int} {t : Tok} (hA : A.handled = none) (h : ∀ t' tk', Q (.int (xi k) t') { s with toks := tk' }) : wpAny (model prg w) A (call (.type "int") [.float (ux k) t]) Q E s := by
  unfold ux xi at *
  split at h <;> rename_i q
  · rw [if_pos q]; exact int_one hA h
  · rw [if_neg q]; exact int_nil hA h
theorem int_y {k : Int} {t : Tok} (hA : A.handled = none) (h : ∀ t' tk', Q (.int (yi k) t') { s with toks := tk' }) : wpAny (model prg w) A (call (.type "int") [.float (uy k) t]) Q E s := by
  unfold uy yi at *
  split at h <;> rename_i q
  · rw [if_pos q]; exact int_one hA h
  · rw [if_neg q]; exact int_nil hA h
theorem int_z {k : Int} {t : Tok} (hA : A.handled = none) (h : ∀ t' tk', Q (.int (zi k) t') { s with toks := tk' }) : wpAny (model prg w) A (call (.type "int") [.float (uz k) t]) Q E s := by
  unfold uz zi at *
  split at h <;> rename_i q
  · rw [if_pos q]; exact int_one hA h
  · rw [if_neg q]; exact int_nil hA h
noncomputable abbrev TimesRet (h₀ : Heap) (L : Addr) (m : Str → Option Value) (news : List (Addr × Obj)) (s : Shared) (Q : Value → Shared → Prop) (r g b k : Int) : Prop :=
  ∀ (D : Addr) (t t' t'' : Tok) (h' : Heap) (tk' : Nat), Fr h₀ L h' m → News h₀ L h' ((D, W.listOf #[.int (r * xi k + g * zi k + b * yi k) t, .int (r * yi k + g * xi k + b * zi k) t', .int (r * zi k + b * xi k + g * yi k) t''] 0) :: news) → LCg.Off1 D news → Q (.ref D) { s with heap := h', toks := tk' }
theorem times_k {l : Addr} {r g b k : Int} {tr tg tb n t : Nat} (B : Below A₀ base outer h₀) (F : Fr h₀ L s.heap m) (X : (hd.heap_39 w.params).In h₀) (N : News h₀ L s.heap news) (T : Top topProg lo mean mg mb h₀) (hk : cs.kind = .function)
  (hm : (l, W.listOf #[.int r tr, .int g tg, .int b tb] n) ∈ news)
  (hr : -1000 < r ∧ r < 1000) (hg : -1000 < g ∧ g < 1000) (hb : -1000 < b ∧ b < 1000)
  (h0 : 0 ≤ k) (h6 : k < 6) (hdp : dp < 790) (hun : un < 7900)
  (hret : TimesRet h₀ L m news s Q r g b k) :
  wpAny (model prg w) (ktrTop dp un gd cn cs L fa ccd cl outer) (call (.ref 116) [.ref l, .int k t]) Q E s := by
  have hx1 := xi01 k
  have hy1 := yi01 k
  have hz1 := zi01 k
  replace N := news_with N hm
  refine wpAny_call ?_
  w_top off
  k_with_none
  k_with "call ref" => (k_here; (with_reducible show wpAny _ _ (call (Value.ref 45) _) _ _ _); (refine' hsv_use ?q3k1 ?q3k2 ?q3k3 ?q3k4 ?q3k5 ?q3k6 ?q3k7 ?q3k8 ?q3k9 ?q3k10 ?_; (case q3k1 => k_asm); (case q3k2 => k_asm); (case q3k3 => k_asm); (case q3k4 => k_asm); (case q3k5 => k_asm); (case q3k6 => first | exact rfl | assumption); (case q3k7 => omega); (case q3k8 => omega); (case q3k9 => (first | exact Nat.lt_of_lt_of_le (Nat.add_lt_add_right hdp _) (by decide) | exact Nat.lt_of_lt_of_le hdp (by decide) | omega | ((try simp only [depth_under_make, depth_under_kw, depth_in1, depth_deeper, depth_caller]); (try dsimp only [ktrTop]); omega))); (case q3k10 => (first | exact Nat.lt_of_lt_of_le (Nat.add_lt_add_right hun _) (by decide) | exact Nat.lt_of_lt_of_le hun (by decide) | omega | ((try simp only [units_in1, units_deeper, Around.mark_units, units_caller]); (try dsimp only [ktrTop]); omega)))); intro D9 t9 u9 v9 h9 tk9 F9 N9; (try dsimp only); (try k_fold))
  k_with "call type:int" => (k_here; (with_reducible show wpAny _ _ (call (Value.type "int") [Value.float _ _]) _ _ _); k_dflt (first | refine int_x (by rfl) (fun t9 tk9 => ?_) | refine int_y (by rfl) (fun t9 tk9 => ?_) | refine int_z (by rfl) (fun t9 tk9 => ?_)); (try dsimp only))
  k_with "eval ListComp" => (k_here; (with_reducible show wpAny _ _ (eval (Expr.ListComp _ _ _ _) _) _ _ _); k_dflt (refine ListComp_T (F₀ := by k_asm) (by with_unfolding_all rfl) (by decide) (by rfl) (by decide) (by rfl) ?_))
  k_with "TupSrc" => (k_here; k_dflt (refine TupSrc.ledger (by rfl) (by k_asm) (by k_asm) (by k_mem) (by exact Nat.le_of_ble_eq_true rfl) ?_; intro g'; lcg_lit))
  k_with "CompRest" => (with_unfolding_all first | (refine LCg.CompRest.succ ?_; intro v' I' oI' C' oC' D' m' h' tk' E' hv' hC' hx' F' N' off' ne'; (first | lcg_open hv' | (obtain ⟨t9', hv9'⟩ := hv'; subst hv9'))) | refine LCg.CompRest.zero ?_)
  k_with "CompEnd" => (k_dflt (first | refine cend0 (by k_asm) (by k_asm) (by assumption) (by lcg_src) ?_ | refine cend1 (by k_asm) (by k_asm) (by assumption) (by assumption) (by lcg_src) ?_))
  cell_enter
  w_top off
  k_with_none
  k_with "call ref" => (k_here; (with_reducible show wpAny _ _ (call (Value.ref 45) _) _ _ _); (refine' hsv_use ?q3k1 ?q3k2 ?q3k3 ?q3k4 ?q3k5 ?q3k6 ?q3k7 ?q3k8 ?q3k9 ?q3k10 ?_; (case q3k1 => k_asm); (case q3k2 => k_asm); (case q3k3 => k_asm); (case q3k4 => k_asm); (case q3k5 => k_asm); (case q3k6 => first | exact rfl | assumption); (case q3k7 => omega); (case q3k8 => omega); (case q3k9 => (first | exact Nat.lt_of_lt_of_le (Nat.add_lt_add_right hdp _) (by decide) | exact Nat.lt_of_lt_of_le hdp (by decide) | omega | ((try simp only [depth_under_make, depth_under_kw, depth_in1, depth_deeper, depth_caller]); (try dsimp only [ktrTop]); omega))); (case q3k10 => (first | exact Nat.lt_of_lt_of_le (Nat.add_lt_add_right hun _) (by decide) | exact Nat.lt_of_lt_of_le hun (by decide) | omega | ((try simp only [units_in1, units_deeper, Around.mark_units, units_caller]); (try dsimp only [ktrTop]); omega)))); intro D9 t9 u9 v9 h9 tk9 F9 N9; (try dsimp only); (try k_fold))
  k_with "call type:int" => (k_here; (with_reducible show wpAny _ _ (call (Value.type "int") [Value.float _ _]) _ _ _); k_dflt (first | refine int_x (by rfl) (fun t9 tk9 => ?_) | refine int_y (by rfl) (fun t9 tk9 => ?_) | refine int_z (by rfl) (fun t9 tk9 => ?_)); (try dsimp only))
  k_with "eval ListComp" => (k_here; (with_reducible show wpAny _ _ (eval (Expr.ListComp _ _ _ _) _) _ _ _); k_dflt (refine ListComp_T (F₀ := by k_asm) (by with_unfolding_all rfl) (by decide) (by rfl) (by decide) (by rfl) ?_))
  k_with "TupSrc" => (k_here; k_dflt (refine TupSrc.ledger (by rfl) (by k_asm) (by k_asm) (by k_mem) (by exact Nat.le_of_ble_eq_true rfl) ?_; intro g'; lcg_lit))
  k_with "CompRest" => (with_unfolding_all first | (refine LCg.CompRest.succ ?_; intro v' I' oI' C' oC' D' m' h' tk' E' hv' hC' hx' F' N' off' ne'; (first | lcg_open hv' | (obtain ⟨t9', hv9'⟩ := hv'; subst hv9'))) | refine LCg.CompRest.zero ?_)
  k_with "CompEnd" => (k_dflt (first | refine cend0 (by k_asm) (by k_asm) (by assumption) (by lcg_src) ?_ | refine cend1 (by k_asm) (by k_asm) (by assumption) (by assumption) (by lcg_src) ?_))
  k_steps
  exact hret _ _ _ _ _ _ (by k_asm) (by (first | k_asm | (refine' news_sub ?n1 ?n2; (case n1 => k_asm); (case n2 => kcj_all)))) (off1_of (by (first | exact ‹AllLt _ news› | exact (‹_ ∧ AllLt _ news›).2 | exact (‹_ ∧ _ ∧ AllLt _ news›).2.2 | exact (‹_ ∧ _ ∧ _ ∧ AllLt _ news›).2.2.2 | exact (‹_ ∧ _ ∧ _ ∧ _ ∧ AllLt _ news›).2.2.2.2 | exact (‹_ ∧ _ ∧ _ ∧ _ ∧ _ ∧ AllLt _ news›).2.2.2.2.2)))
end
end
section
open PySem PySem.W PyProof.Rows
set_option maxRecDepth 100000
set_option maxHeartbeats 8000000

/-- n dots -/
noncomputable def dots (n : Nat) : Str := ⟨(List.replicate n 46).toArray⟩
noncomputable abbrev crlf : Str := Str.ofString "\r\n"
/-- a mail of three rows of dots -/
noncomputable def mailS (a b c : Nat) : Str := Str.join crlf [dots a, dots b, dots c]
theorem dots_len (n : Nat) : (dots n).length = n := by simp [dots, Str.length]
theorem crlf_len : crlf.length = 2 := by decide
theorem mailS_len (a b c : Nat) : (mailS a b c).length = a + b + c + 4 := by
  unfold mailS
  simp only [Str.join, Str.length_append, dots_len, crlf_len]
  omega
theorem one_dot : Str.ofString "." = ⟨#[46]⟩ := by decide +kernel
theorem fold_dots (n : Nat) (acc : Array Nat) : (List.replicate n (#[46] : Array Nat)).foldl (· ++ ·) acc = acc ++ (List.replicate n 46).toArray := by
  induction n generalizing acc with
  | zero => simp
  | succ n ih =>
    rw [List.replicate_succ, List.foldl_cons, ih, List.replicate_succ]
    apply Array.ext'
    simp
theorem mul_dots {n : Int} (_h : 0 ≤ n) : Txt.mul (Str.ofString ".") n = dots n.toNat := by
  rw [one_dot]
  unfold Txt.mul dots
  by_cases h1 : n < 1
  · have : n = 0 := by omega
    subst this
    rfl
  · rw [if_neg h1]
    by_cases h2 : n = 1
    · subst h2; rfl
    · have e : (n == 1 || (⟨#[46]⟩ : Str).length == 0) = false := by
        have : (n == 1) = false := by simpa using h2
        rw [this]; rfl
      rw [e, if_neg (by decide), fold_dots]
      simp
theorem join_dots (a b c : Nat) : Txt.join crlf [dots a, dots b, dots c] = mailS a b c := StrLaws.glued_eq_join _ _
section
variable {w : World} {mean : ExcName → Option Value} {mg mb : Str → Option Value} {dp un : Nat} {gd : Option (List Code)} {cn : Str} {cs : Scope} {fa : Addr} {ccd : Value} {cl : List (Str × Addr)} {outer : List Env} {A A₀ : Around} {base h₀ : Heap} {L : Addr} {m : Str → Option Value} {s : Shared} {Q E : Value → Shared → Prop} {news : List (Addr × Obj)}

theorem mul_k {n : Int} {t u : Tok} (h0 : 0 ≤ n) (h1 : n < 1000) (h : ∀ t' k, Q (.str (dots n.toNat) t') { s with toks := k }) : wpAny (model prg w) A (binaryOp .Mult (.str (Str.ofString ".") t) (.int n u)) Q E s :=
  SB.mul (mulOk_of 1 1000 (by decide) (by omega) (by omega) (by decide) (by decide)) (fun t' k => mul_dots h0 ▸ h t' k)
theorem join_k {D : Addr} {a b c k : Nat} {t t1 t2 t3 : Tok} (hl : s.heap.get? D = some { cls := .type "list", data := .seq #[.str (dots a) t1, .str (dots b) t2, .str (dots c) t3] k }) (ha : a < 1000) (hb : b < 1000) (hc : c < 1000)
    (h : ∀ t' k, Q (.str (mailS a b c) t') { s with toks := k }) : wpAny (model prg w) A (call (.builtin "str.join") [.str crlf t, .ref D]) Q E s :=
  join_list (items := #[.str (dots a) t1, .str (dots b) t2, .str (dots c) t3]) (ys := [dots a, dots b, dots c]) ⟨_, hl, rfl, _, rfl⟩ (.cons _ _ (.cons _ _ (.cons _ _ .nil))) (by simp only [List.map, List.sum_cons, List.sum_nil, dots_len, crlf_len, List.length]; omega) (fun t' k => join_dots a b c ▸ h t' k)
end
end
section
open PySem PySem.W PyProof.Rows
set_option maxRecDepth 100000
set_option maxHeartbeats 8000000


section
variable {w : World} {mean : ExcName → Option Value} {mg mb : Str → Option Value} {dp un : Nat} {gd : Option (List Code)} {cn : Str} {cs : Scope} {fa : Addr} {ccd : Value} {cl : List (Str × Addr)} {outer : List Env} {A A₀ : Around} {base h₀ : Heap} {L : Addr} {m : Str → Option Value} {s : Shared} {Q E : Value → Shared → Prop} {news : List (Addr × Obj)}

section
variable {v r g b m : Int}
theorem mn0 (h : m ≤ v) : 0 ≤ v - m + 1 := by omega
theorem mn1 (h : -400 < m) (k : v < 400) : v - m + 1 < 1000 := by omega
theorem mn2 (h : v - m + 1 < 1000) : (v - m + 1).toNat < 1000 := by omega
theorem mn_r : min (min r g) b ≤ r := Int.le_trans (Int.min_le_left _ _) (Int.min_le_left _ _)
theorem mn_g : min (min r g) b ≤ g := Int.le_trans (Int.min_le_left _ _) (Int.min_le_right _ _)
theorem mn_lt (hr : -400 < r ∧ r < 400) (hg : -400 < g ∧ g < 400) (hb : -400 < b ∧ b < 400) : -400 < min (min r g) b := Int.lt_min.mpr ⟨Int.lt_min.mpr ⟨hr.1, hg.1⟩, hb.1⟩
end
theorem mail_k {l : Addr} {r g b : Int} {tr tg tb n : Nat} (B : Below A₀ base outer h₀) (F : Fr h₀ L s.heap m) (X : (hd.heap_39 w.params).In h₀) (N : News h₀ L s.heap news) (T : Top topProg lo mean mg mb h₀) (hk : cs.kind = .function)
  (hm : (l, W.listOf #[.int r tr, .int g tg, .int b tb] n) ∈ news)
  (hr : -400 < r ∧ r < 400) (hg : -400 < g ∧ g < 400) (hb : -400 < b ∧ b < 400)
  (hdp : dp < 800) (hun : un < 8000)
  (hret : ∀ (t : Tok) (h' : Heap) (tk' : Nat), Fr h₀ L h' m → News h₀ L h' news → Q (.str (mailS (r - min (min r g) b + 1).toNat (g - min (min r g) b + 1).toNat (b - min (min r g) b + 1).toNat) t) { s with heap := h', toks := tk' }) :
  wpAny (model prg w) (ktrTop dp un gd cn cs L fa ccd cl outer) (call (.ref 128) [.ref l]) Q E s := by
  replace N := news_with N hm
  refine wpAny_call ?_
  (refine' code_defC ?k1 ?k2 ?k3 ?k4 ?k5 ?kA ?kF ?kK ?k6 ?k7 ?k8 ?k9 ?kB ?kD ?_ ?c2 ?c3 ?c4; (case kA => exact rfl); (case kF => exact rfl); (case kK => assumption); (case k1 => k_asm); (case k2 => k_asm); (case k3 => k_asm); (case k4 => k_asm); (case k5 => k_asm); (case k6 => k_is); (case k7 => k_is); (case k8 => ktr_room); (case k9 => exact BindsTo.of_eq rfl); (case kB => exact rfl); (case kD => decide +kernel); (case c2 => exact rfl); (case c3 => exact rfl); (case c4 => exact rfl); k_whole; intro g' L' h' tk' cells' FG' F' N' Y' B' X' T' l1; (try k_lt l1); k_cells Y'; (try simp only [List.cons_append, List.nil_append] at N'); (try dsimp only); (try k_lift B'); (try k_fold))
  w_top off
  k_with_none
  k_with "eval ListComp" => (k_here; (with_reducible show wpAny _ _ (eval (Expr.ListComp _ _ _ _) _) _ _ _); k_dflt (refine LCg.ListComp_U (F₀ := by k_asm) (by with_unfolding_all rfl) (by decide) (by rfl) (by decide) (by rfl) ?_))
  k_with "CompSrc" => (k_here; k_dflt (refine LCg.CompSrc.ledger (by rfl) (by k_asm) (by k_asm) (by k_mem) (by exact Nat.le_of_ble_eq_true rfl) ?_; intro g'; lcg_lit))
  k_with "CompRest" => (with_unfolding_all first | (refine LCg.CompRest.succ ?_; intro v' I' oI' C' oC' D' m' h' tk' E' hv' hC' hx' F' N' off' ne'; (first | lcg_open hv' | (obtain ⟨t9', hv9'⟩ := hv'; subst hv9'))) | refine LCg.CompRest.zero ?_)
  k_with "CompEnd" => (k_dflt (first | refine cend0 (by k_asm) (by k_asm) (by assumption) (by lcg_src) ?_ | refine cend1 (by k_asm) (by k_asm) (by assumption) (by assumption) (by lcg_src) ?_))
  k_with "call builtin:min" => (k_here; (with_reducible show wpAny _ _ (call (Value.builtin "min") [Value.ref _]) _ _ _); k_dflt (refine' minL_k ?q13k1 ?q13k2 ?q13k2b ?q13k3 ?q13k4 ?q13k5 ?_; (case q13k1 => k_asm); (case q13k2 => k_asm); (case q13k2b => k_mem); (case q13k3 => (first | rfl | assumption)); (case q13k4 => (first | exact Nat.lt_of_lt_of_le (Nat.add_lt_add_right hdp _) (by decide) | exact Nat.lt_of_lt_of_le hdp (by decide) | omega | ((try simp only [depth_under_make, depth_under_kw, depth_in1, depth_deeper, depth_caller]); (try dsimp only [ktrTop]); omega))); (case q13k5 => (first | exact Nat.lt_of_lt_of_le (Nat.add_lt_add_right hun _) (by decide) | exact Nat.lt_of_lt_of_le hun (by decide) | omega | ((try simp only [units_in1, units_deeper, Around.mark_units, units_caller]); (try dsimp only [ktrTop]); omega)))); intro t9 h9 tk9 F9 N9; (try dsimp only); (try k_fold))
  k_with "binaryOp Mult str int" => (k_here; (with_reducible show wpAny _ _ (binaryOp Operator.Mult (Value.str _ _) (Value.int _ _)) _ _ _); k_dflt (refine mul_k (by first | walk_at "mine lx" | omega) (by first | walk_at "mine lx" | omega) (fun t9 k9 => ?_)); (try dsimp only))
  k_with "call builtin:str.join" => (k_here; (with_reducible show wpAny _ _ (call (Value.builtin "str.join") _) _ _ _); k_dflt (refine join_k (News.get (by k_asm) (by k_mem)) (by first | walk_at "mine lx" | omega) (by first | walk_at "mine lx" | omega) (by first | walk_at "mine lx" | omega) (fun t9 k9 => ?_)); (try dsimp only))
  k_with "mine lx" => with_reducible first | exact mn0 mn_r | exact mn0 mn_g | exact mn0 (Int.min_le_right _ _) | exact mn1 (mn_lt hr hg hb) hr.2 | exact mn1 (mn_lt hr hg hb) hg.2 | exact mn1 (mn_lt hr hg hb) hb.2 | exact mn2 (mn1 (mn_lt hr hg hb) hr.2) | exact mn2 (mn1 (mn_lt hr hg hb) hg.2) | exact mn2 (mn1 (mn_lt hr hg hb) hb.2)
  k_steps
  exact hret _ _ _ (by k_asm) (by (first | k_asm | (refine' news_sub ?n1 ?n2; (case n1 => k_asm); (case n2 => kcj_all))))
end
end
section
open PySem PySem.W PyProof.Rows
set_option maxRecDepth 100000
set_option maxHeartbeats 8000000

open PySem.Sre PySem.Builtin.Re
noncomputable def stp : Nat → Sre.M → Sre.M
  | 0, m => m
  | n + 1, m => stp n m.step
theorem stp_add (a b : Nat) (m : Sre.M) : stp (a + b) m = stp b (stp a m) := by
  induction a generalizing m with
  | zero => simp [stp]
  | succ a ih => rw [Nat.succ_add]; exact ih _
theorem step_done {m : Sre.M} (h : m.outcome.isSome = true) : m.step = m := by
  unfold Sre.M.step; rw [if_pos h]
theorem stp_done {m : Sre.M} (h : m.outcome.isSome = true) : ∀ n, stp n m = m
  | 0 => rfl
  | n + 1 => by show stp n m.step = m; rw [step_done h]; exact stp_done h n
theorem runFor_stp : ∀ (n : Nat) (m : Sre.M), m.runFor n = stp n m
  | 0, _ => rfl
  | n + 1, m => by
    show (if m.outcome.isSome then m else Sre.M.runFor n m.step) = stp n m.step
    by_cases h : m.outcome.isSome = true
    · rw [if_pos h, step_done h, stp_done h]
    · rw [if_neg h]; exact runFor_stp n _
theorem stp_le {a b : Nat} {m : Sre.M} (h : a ≤ b) (ho : (stp a m).outcome.isSome = true) : stp b m = stp a m := by
  obtain ⟨k, rfl⟩ := Nat.exists_eq_add_of_le h
  rw [stp_add, stp_done ho]
section
variable {Md : Model} {A : Around} {E : Value → Shared → Prop} {s : Shared}
theorem wp_drive {Q : Sre.M → Shared → Prop} : ∀ (T n : Nat) (m : Sre.M), n < 4 * T → (stp n m).outcome.isSome = true → Q (stp n m) s → wpAny Md A (reDrive T m) Q E s
  | 0, n, m, h, _, _ => absurd h (by omega)
  | T + 1, n, m, hn, ho, hQ => by
    show wpAny Md A (if (m.runFor 4).outcome.isSome then pure (m.runFor 4) else do rule "sre.turn"; reDrive T (m.runFor 4)) Q E s
    rw [runFor_stp]
    by_cases h : (stp 4 m).outcome.isSome = true
    · rw [if_pos h]
      refine wpAny_pure ?_
      have : stp n m = stp 4 m := by
        rcases Nat.le_total n 4 with q | q
        · exact (stp_le q ho).symm
        · exact stp_le q h
      exact this ▸ hQ
    · rw [if_neg h]
      have q : 4 ≤ n := by
        rcases Nat.le_total n 4 with q | q
        · rw [stp_le q ho] at h; exact absurd ho h
        · exact q
      obtain ⟨k, rfl⟩ := Nat.exists_eq_add_of_le q
      rw [stp_add] at ho hQ
      exact wpAny_bind (wpAny_rule (wp_drive T k (stp 4 m) (by omega) ho hQ))
theorem wp_runToEnd {Q : Option Sre.M → Shared → Prop} {m : Sre.M} {n : Nat} (hn : n < 2 ^ 60) (ho : (stp n m).outcome.isSome = true) (h1 : ∀ o, (stp n m).outcome = some (.stuck o) → False)
    (hs : (stp n m).outcome = some .matched → Q (some (stp n m)) s) (hf : (stp n m).outcome = some .failed → Q none s) : wpAny Md A (reRunToEnd m) Q E s := by
  unfold reRunToEnd
  refine wpAny_bind (wp_drive (2 ^ 64) n m (by omega) ho ?_)
  refine wpAny_bind (wpAny_forIn_list _ (fun _ _ s' => s' = s) _ ?_ ?_ _ _ rfl)
  · rintro x rest b _ rfl
    by_cases h : (stp n m).seen.has x = true
    · simp only [h, if_true]
      exact wpAny_bind (wpAny_rule (wpAny_pure rfl))
    · simp only [h]
      exact wpAny_pure rfl
  · rintro b _ rfl
    cases e : (stp n m).outcome with
    | none => rw [e] at ho; cases ho
    | some o =>
      cases o with
      | matched => exact wpAny_pure (hs e)
      | failed => exact wpAny_pure (hf e)
      | stuck y => exact (h1 y e).elim
end
end
section
open PySem PySem.W PyProof.Rows
set_option maxRecDepth 100000
set_option maxHeartbeats 8000000

open PySem.Sre PySem.Builtin.Re
noncomputable abbrev cd1 : Array Nat := #[14, 4, 0, 1, 1, 6, 1, 16, 46, 1]
noncomputable abbrev cd2 : Array Nat := #[14, 9, 4, 1, 2, 16, 10, 16, 13, 0, 7, 7, 16, 13, 16, 10, 15, 18, 5, 16, 10, 15, 13, 11, 16, 13, 5, 5, 0, 16, 10, 1, 15, 2, 0, 1]
/-- the machine of the first pattern, about to try at s -/
noncomputable def At1 (t : Array Nat) (lim s : Nat) (must first : Bool) (hd : Nat) (σ : Sre.Seen) : Sre.M :=
  { code := cd1, text := t, lim := lim, start := s, lastStart := lim, mustAdvance := must, pc := 5, pos := s, handed := hd, outermost := first, marks := #[], frames := [{ wait := .nextStart, pc := 5, pos := s, outermost := first }], weight := 1, seen := σ }
theorem step_exec {m : Sre.M} (h1 : m.outcome = none) (h2 : m.answer = none) (h3 : m.pc < m.code.size) : stp 1 m = m.exec := by
  show m.step = _
  unfold Sre.M.step
  rw [h1, h2, if_neg (by decide)]
  simp only [h3, if_true]
theorem step_res {m : Sre.M} {b : Bool} {f : Sre.Frame} {rest : List Sre.Frame} (h1 : m.outcome = none) (h2 : m.answer = some b) (h3 : m.frames = f :: rest) : stp 1 m = Sre.M.resume { m with answer := none, frames := rest, weight := m.weight - (1 + f.kept.marks.size), pc := f.pc, pos := f.pos, outermost := f.outermost } f b := by
  show m.step = _
  unfold Sre.M.step
  rw [h1, h2, if_neg (by decide), h3]
theorem step_end {m : Sre.M} {b : Bool} (h1 : m.outcome = none) (h2 : m.answer = some b) (h3 : m.frames = []) : stp 1 m = { m with outcome := some (if b then .matched else .failed) } := by
  show m.step = _
  unfold Sre.M.step
  rw [h1, h2, if_neg (by decide), h3]
theorem exec_at {m : Sre.M} {b : Bool} (h : ops[m.word 0]? = some .AT) (hb : Sre.M.isAt { m with seen := m.seen.add (m.word 0) } (m.word 1) = .ok b) :
    m.exec = if b then { m with seen := (m.seen.add (m.word 0)).add (43 + m.word 1), pc := m.pc + 2 } else { m with seen := (m.seen.add (m.word 0)).add (43 + m.word 1), answer := some false } := by
  unfold Sre.M.exec
  rw [h]
  dsimp only
  rw [show Sre.M.word { m with seen := m.seen.add (m.word 0) } 1 = m.word 1 from rfl, hb]
  cases b <;> rfl
theorem exec_lit {m : Sre.M} (h : ops[m.word 0]? = some .LITERAL) (hp : m.pos < m.lim) :
    m.exec = if m.text.getD m.pos 0 == m.word 1 then { m with seen := m.seen.add (m.word 0), pc := m.pc + 2, pos := m.pos + 1 } else { m with seen := m.seen.add (m.word 0), answer := some false } := by
  unfold Sre.M.exec
  rw [h]
  dsimp only
  rw [if_neg (by omega)]
  have h' : ops[m.code.getD m.pc 0]? = some .LITERAL := h
  have e : ∀ c σ, accepts m.code m.pc c σ = .ok (c == m.word 1, σ) := fun c σ => by
    unfold accepts; rw [h']; rfl
  have e2 : itemWidth m.code m.pc = 2 := by
    unfold itemWidth; rw [h']
  rw [e, e2]
  cases (m.text.getD m.pos 0 == m.word 1) <;> rfl
theorem exec_succ {m : Sre.M} (h : ops[m.word 0]? = some .SUCCESS) (hp : (m.outermost && ((m.wholeText && m.pos != m.lim) || (m.mustAdvance && m.pos == m.start))) = false) :
    m.exec = { m with seen := m.seen.add (m.word 0), handed := m.pos, answer := some true } := by
  unfold Sre.M.exec
  rw [h]
  dsimp only
  rw [hp]
  rfl
theorem exec_jump {m : Sre.M} (h : ops[m.word 0]? = some .JUMP) : m.exec = { m with seen := m.seen.add (m.word 0), pc := m.pc + 1 + m.word 1 } := by
  unfold Sre.M.exec
  rw [h]
  rfl
theorem exec_branch {m : Sre.M} (h : ops[m.word 0]? = some .BRANCH) (hi : m.inner = none) : m.exec = Sre.M.alternative { m with seen := m.seen.add (m.word 0) } (m.pc + 1) (Sre.M.keep { m with seen := m.seen.add (m.word 0) } false) := by
  unfold Sre.M.exec
  rw [h]
  dsimp only
  rw [hi]
  rfl
theorem begin1 {t : Array Nat} {lim s : Nat} {must : Bool} (h : s < lim) : ∃ hd σ, Sre.forSearch cd1 t 0 s lim must = At1 t lim s must true hd σ := by
  refine ⟨s, ({} : Sre.Seen).add 14, ?_⟩
  unfold Sre.forSearch
  have e : Sre.header cd1 = (1, 5) := by decide +kernel
  rw [e]
  have h1 : ¬ (s > lim ∨ lim - s < 1) := by omega
  simp only [gt_iff_lt, Bool.or_eq_true, decide_eq_true_eq, if_neg h1]
  rfl
theorem done1 {t : Array Nat} {lim s : Nat} {must : Bool} (h : s = lim) : (stp 1 (Sre.forSearch cd1 t 0 s lim must)).outcome = some .failed := by
  unfold Sre.forSearch
  have e : Sre.header cd1 = (1, 5) := by decide +kernel
  rw [e]
  have h1 : (s > lim ∨ lim - s < 1) := by omega
  simp only [gt_iff_lt, Bool.or_eq_true, decide_eq_true_eq, if_pos h1]
  rfl
theorem at1_no {t : Array Nat} {lim s : Nat} {must first : Bool} {hd : Nat} {σ : Sre.Seen} (h0 : 0 < s) (h2 : t.getD (s - 1) 0 ≠ 10) : stp 1 (At1 t lim s must first hd σ) = { At1 t lim s must first hd ((σ.add 6).add 44) with answer := some false } := by
  have hs : (s == 0 || t.getD (s - 1) 0 == 10) = false := by
    have : (t.getD (s - 1) 0 == 10) = false := by simpa using h2
    rw [this]; simp; omega
  rw [step_exec rfl rfl (by decide : 5 < 10), exec_at (b := false) rfl (by rw [← hs]; rfl)]
  rfl
theorem miss1 {t : Array Nat} {lim s : Nat} {must first : Bool} {hd : Nat} {σ : Sre.Seen} (h0 : 0 < s) (h1 : s < lim) (h2 : t.getD (s - 1) 0 ≠ 10) : ∃ hd' σ', stp 2 (At1 t lim s must first hd σ) = At1 t lim (s + 1) false false hd' σ' := by
  rw [show 2 = 1 + 1 from rfl, stp_add, at1_no h0 h2]
  refine ⟨s + 1, (σ.add 6).add 44, ?_⟩
  rw [step_res rfl rfl rfl]
  show (if s < lim then _ else _) = _
  rw [if_pos h1]
  rfl
theorem last1 {t : Array Nat} {lim : Nat} {must first : Bool} {hd : Nat} {σ : Sre.Seen} (h0 : 0 < lim) (h2 : t.getD (lim - 1) 0 ≠ 10) : (stp 3 (At1 t lim lim must first hd σ)).outcome = some .failed := by
  rw [show 3 = 1 + (1 + 1) from rfl, stp_add, at1_no h0 h2, stp_add, step_res (m := { At1 t lim lim must first hd ((σ.add 6).add 44) with answer := some false }) rfl rfl rfl]
  have e : ∀ m : Sre.M, (if lim < lim then m else Sre.M.say { At1 t lim lim must first hd ((σ.add 6).add 44) with answer := none, frames := [], weight := 0, pc := 5, pos := lim, outermost := first } false) = Sre.M.say { At1 t lim lim must first hd ((σ.add 6).add 44) with answer := none, frames := [], weight := 0, pc := 5, pos := lim, outermost := first } false := fun m => if_neg (Nat.lt_irrefl _)
  refine Eq.trans (congrArg (fun m => (stp 1 m).outcome) (e _)) rfl
theorem hit1 {t : Array Nat} {lim s : Nat} {must first : Bool} {hd : Nat} {σ : Sre.Seen} (h0 : s = 0 ∨ t.getD (s - 1) 0 = 10) (h1 : s < lim) (h2 : t.getD s 0 = 46) :
    (stp 5 (At1 t lim s must first hd σ)).outcome = some .matched ∧ (stp 5 (At1 t lim s must first hd σ)).start = s ∧ (stp 5 (At1 t lim s must first hd σ)).handed = s + 1 := by
  have e : stp 1 (At1 t lim s must first hd σ) = { At1 t lim s must first hd ((σ.add 6).add 44) with pc := 7 } := by
    have hs : (s == 0 || t.getD (s - 1) 0 == 10) = true := by
      rcases h0 with h | h
      · simp [h]
      · rw [h]; simp
    rw [step_exec rfl rfl (by decide : 5 < 10), exec_at (b := true) rfl (by rw [← hs]; rfl)]
    rfl
  have e2 : stp 1 { At1 t lim s must first hd ((σ.add 6).add 44) with pc := 7 } = { At1 t lim s must first hd (((σ.add 6).add 44).add 16) with pc := 9, pos := s + 1 } := by
    rw [step_exec rfl rfl (by decide : 7 < 10), exec_lit rfl h1]
    rw [show (({ At1 t lim s must first hd ((σ.add 6).add 44) with pc := 7 } : Sre.M).text.getD ({ At1 t lim s must first hd ((σ.add 6).add 44) with pc := 7 } : Sre.M).pos 0 == ({ At1 t lim s must first hd ((σ.add 6).add 44) with pc := 7 } : Sre.M).word 1) = (t.getD s 0 == 46) from rfl, h2]
    rfl
  have e3 : stp 1 { At1 t lim s must first hd (((σ.add 6).add 44).add 16) with pc := 9, pos := s + 1 } = { At1 t lim s must first (s + 1) ((((σ.add 6).add 44).add 16).add 1) with pc := 9, pos := s + 1, answer := some true } := by
    have q : (first && ((false && s + 1 != lim) || (must && s + 1 == s))) = false := by
      have : (s + 1 == s) = false := by simp
      rw [this]; cases first <;> cases must <;> rfl
    rw [step_exec rfl rfl (by decide : 9 < 10), exec_succ rfl q]
    rfl
  rw [show 5 = 1 + (1 + (1 + 2)) from rfl, stp_add, stp_add, stp_add, e, e2, e3]
  exact ⟨rfl, rfl, rfl⟩
/-- the first pattern's search that ends at e -/
theorem find1 {t : Array Nat} {lim e : Nat} (h1 : e < lim) (h2 : t.getD e 0 = 46) (h3 : e = 0 ∨ t.getD (e - 1) 0 = 10) : ∀ (k s : Nat) (must first : Bool) (hd : Nat) (σ : Sre.Seen), s + k = e → (∀ j, s ≤ j → j < e → 0 < j ∧ t.getD (j - 1) 0 ≠ 10) →
    ∃ m', stp (2 * k + 5) (At1 t lim s must first hd σ) = m' ∧ m'.outcome = some .matched ∧ m'.start = e ∧ m'.handed = e + 1
  | 0, s, must, first, hd, σ, he, _ => by
    obtain rfl : s = e := he
    exact ⟨_, rfl, hit1 h3 h1 h2⟩
  | k + 1, s, must, first, hd, σ, he, hm => by
    have q := hm s (Nat.le_refl _) (by omega)
    obtain ⟨hd', σ', e1⟩ := miss1 (lim := lim) (must := must) (first := first) (hd := hd) (σ := σ) q.1 (by omega) q.2
    rw [show 2 * (k + 1) + 5 = 2 + (2 * k + 5) by omega, stp_add, e1]
    exact find1 h1 h2 h3 k (s + 1) false false hd' σ' (by omega) (fun j a b => hm j (by omega) b)
theorem none1 {t : Array Nat} {lim : Nat} (h0 : 0 < lim) (h2 : t.getD (lim - 1) 0 ≠ 10) : ∀ (k s : Nat) (must first : Bool) (hd : Nat) (σ : Sre.Seen), s + k = lim → (∀ j, s ≤ j → j < lim → 0 < j ∧ t.getD (j - 1) 0 ≠ 10) →
    (stp (2 * k + 3) (At1 t lim s must first hd σ)).outcome = some .failed
  | 0, s, must, first, hd, σ, he, _ => by
    obtain rfl : s = lim := he
    exact last1 h0 h2
  | k + 1, s, must, first, hd, σ, he, hm => by
    have q := hm s (Nat.le_refl _) (by omega)
    obtain ⟨hd', σ', e1⟩ := miss1 (lim := lim) (must := must) (first := first) (hd := hd) (σ := σ) q.1 (by omega) q.2
    rw [show 2 * (k + 1) + 3 = 2 + (2 * k + 3) by omega, stp_add, e1]
    exact none1 h0 h2 k (s + 1) false false hd' σ' (by omega) (fun j a b => hm j (by omega) b)
section
variable {Md : Model} {A : Around} {E : Value → Shared → Prop} {s : Shared}
theorem next1 {T : ReTarget} {st e : Nat} {must : Bool} {Q : Option Sre.M → Shared → Prop} (hc : T.code = cd1) (hg : T.groups = 0) (hl : T.lim < 100000) (h0 : st ≤ e) (h1 : e < T.lim) (h2 : T.text.getD e 0 = 46) (h3 : e = 0 ∨ T.text.getD (e - 1) 0 = 10) (hm : ∀ j, st ≤ j → j < e → 0 < j ∧ T.text.getD (j - 1) 0 ≠ 10)
    (h : ∀ m : Sre.M, m.start = e → m.handed = e + 1 → Q (some m) s) : wpAny Md A (reNextFound T st must) Q E s := by
  unfold reNextFound
  rw [hc, hg]
  obtain ⟨hd, σ, e1⟩ := begin1 (t := T.text) (lim := T.lim) (s := st) (must := must) (by omega)
  rw [e1]
  obtain ⟨m', e2, e3, e4, e5⟩ := find1 (t := T.text) h1 h2 h3 (e - st) st must true hd σ (by omega) hm
  refine wp_runToEnd (n := 2 * (e - st) + 5) (by omega) (by rw [e2, e3]; rfl) (fun o q => by rw [e2, e3] at q; cases q) (fun _ => ?_) (fun q => by rw [e2, e3] at q; cases q)
  rw [e2]
  exact h m' e4 e5
theorem next1_none {T : ReTarget} {st : Nat} {must : Bool} {Q : Option Sre.M → Shared → Prop} (hc : T.code = cd1) (hg : T.groups = 0) (hl : T.lim < 100000) (h0 : st ≤ T.lim) (h1 : 0 < T.lim) (h2 : T.text.getD (T.lim - 1) 0 ≠ 10) (hm : ∀ j, st ≤ j → j < T.lim → 0 < j ∧ T.text.getD (j - 1) 0 ≠ 10)
    (h : Q none s) : wpAny Md A (reNextFound T st must) Q E s := by
  unfold reNextFound
  rw [hc, hg]
  rcases Nat.lt_or_eq_of_le h0 with q | q
  · obtain ⟨hd, σ, e1⟩ := begin1 (t := T.text) (lim := T.lim) (s := st) (must := must) q
    rw [e1]
    have e3 := none1 (t := T.text) h1 h2 (T.lim - st) st must true hd σ (by omega) hm
    exact wp_runToEnd (n := 2 * (T.lim - st) + 3) (by omega) (by rw [e3]; rfl) (fun o q => by rw [e3] at q; cases q) (fun q => by rw [e3] at q; cases q) (fun _ => h)
  · have e3 := done1 (t := T.text) (must := must) q
    exact wp_runToEnd (n := 1) (by omega) (by rw [e3]; rfl) (fun o q => by rw [e3] at q; cases q) (fun q => by rw [e3] at q; cases q) (fun _ => h)
end
end
section
open PySem PySem.W PyProof.Rows
set_option maxRecDepth 100000
set_option maxHeartbeats 8000000

open PySem.Sre PySem.Builtin.Re
theorem set2_no {c : Nat} {σ : Sre.Seen} (h : c = 46) : ∃ σ', inSet cd2 c cd2.size 5 true σ = .ok (false, σ') := by
  subst h; exact ⟨((σ.add 16).add 16).add 0, rfl⟩
theorem set2_yes {c : Nat} {σ : Sre.Seen} (h : c = 13) : ∃ σ', inSet cd2 c cd2.size 5 true σ = .ok (true, σ') := by
  subst h; exact ⟨(σ.add 16).add 16, rfl⟩
theorem adm2 {m : Sre.M} {e : Nat} (hc : m.code = cd2) (h1 : e < m.lim) (h2 : m.text.getD e 0 = 13) : ∀ (k fuel s : Nat) (σ : Sre.Seen), s + k = e → k < fuel → (∀ j, s ≤ j → j < e → m.text.getD j 0 = 46) →
    ∃ σ', Sre.M.admitted m fuel s σ = .ok (some e, σ')
  | 0, 0, s, σ, _, h, _ => absurd h (Nat.lt_irrefl _)
  | 0, f + 1, s, σ, he, _, _ => by
    obtain rfl : s = e := he
    unfold Sre.M.admitted
    rw [if_neg (by omega), hc]
    obtain ⟨σ', q⟩ := set2_yes (σ := σ) h2
    rw [q]
    exact ⟨σ', rfl⟩
  | k + 1, 0, s, σ, _, h, _ => absurd h (by omega)
  | k + 1, f + 1, s, σ, he, hk, hm => by
    unfold Sre.M.admitted
    rw [if_neg (by omega), hc]
    obtain ⟨σ', q⟩ := set2_no (σ := σ) (hm s (Nat.le_refl _) (by omega))
    rw [q]
    exact adm2 hc h1 h2 k f (s + 1) σ' (by omega) (by omega) (fun j a b => hm j (by omega) b)
theorem adm2_none {m : Sre.M} (hc : m.code = cd2) : ∀ (k fuel s : Nat) (σ : Sre.Seen), s + k = m.lim → k < fuel → (∀ j, s ≤ j → j < m.lim → m.text.getD j 0 = 46) →
    ∃ σ', Sre.M.admitted m fuel s σ = .ok (none, σ')
  | 0, 0, s, σ, _, h, _ => absurd h (Nat.lt_irrefl _)
  | 0, f + 1, s, σ, he, _, _ => by
    unfold Sre.M.admitted
    rw [if_pos (by omega)]
    exact ⟨σ, rfl⟩
  | k + 1, 0, s, σ, _, h, _ => absurd h (by omega)
  | k + 1, f + 1, s, σ, he, hk, hm => by
    unfold Sre.M.admitted
    rw [if_neg (by omega), hc]
    obtain ⟨σ', q⟩ := set2_no (σ := σ) (hm s (Nat.le_refl _) (by omega))
    rw [q]
    exact adm2_none hc k f (s + 1) σ' (by omega) (by omega) (fun j a b => hm j (by omega) b)
/-- the machine of the second pattern, about to try at e -/
noncomputable def At2 (t : Array Nat) (lim s : Nat) (σ : Sre.Seen) : Sre.M :=
  { code := cd2, text := t, lim := lim, start := s, lastStart := lim, mustAdvance := false, pc := 10, pos := s, handed := s, outermost := true, marks := #[], frames := [{ wait := .nextStart, pc := 10, pos := s, outermost := true }], weight := 1, seen := σ }
theorem from_some {m : Sre.M} {s e : Nat} {first : Bool} {σ : Sre.Seen} (hf : m.hasFirstSet = true) (hq : Sre.M.admitted m (m.lim + 1 - s) s m.seen = .ok (some e, σ)) : m.attemptFrom s first = Sre.M.attemptAt { m with mustAdvance := false, seen := σ } e first := by
  unfold Sre.M.attemptFrom
  rw [hf, hq]
  rfl
theorem from_none {m : Sre.M} {s : Nat} {first : Bool} {σ : Sre.Seen} (hf : m.hasFirstSet = true) (hq : Sre.M.admitted m (m.lim + 1 - s) s m.seen = .ok (none, σ)) : m.attemptFrom s first = Sre.M.say { m with seen := σ } false := by
  unfold Sre.M.attemptFrom
  rw [hf, hq]
  rfl
noncomputable def Pre2 (t : Array Nat) (lim s : Nat) (must : Bool) : Sre.M := { code := cd2, text := t, lim := lim, start := s, lastStart := lim, mustAdvance := must, pc := 10, pos := s, handed := s, marks := #[], seen := ({} : Sre.Seen).add 14 }
theorem search2 {t : Array Nat} {lim s : Nat} {must : Bool} (h1 : s < lim) : Sre.forSearch cd2 t 0 s lim must = (Pre2 t lim s must).attemptFrom s true := by
  unfold Sre.forSearch
  have e1 : Sre.header cd2 = (1, 10) := by decide +kernel
  rw [e1]
  have h1 : ¬ (s > lim ∨ lim - s < 1) := by omega
  simp only [gt_iff_lt, Bool.or_eq_true, decide_eq_true_eq, if_neg h1]
  rfl
theorem begin2 {t : Array Nat} {lim s e : Nat} {must : Bool} (h0 : s ≤ e) (h1 : e < lim) (h2 : t.getD e 0 = 13) (hm : ∀ j, s ≤ j → j < e → t.getD j 0 = 46) : ∃ σ, Sre.forSearch cd2 t 0 s lim must = At2 t lim e σ := by
  obtain ⟨σ, q⟩ := adm2 (m := Pre2 t lim s must) (e := e) rfl h1 h2 (e - s) (lim + 1 - s) s (Pre2 t lim s must).seen (by omega) (by omega) hm
  refine ⟨σ, ?_⟩
  rw [search2 (by omega), from_some rfl q]
  rfl
theorem done2 {t : Array Nat} {lim s : Nat} {must : Bool} (h0 : s ≤ lim) (hm : ∀ j, s ≤ j → j < lim → t.getD j 0 = 46) : (stp 1 (Sre.forSearch cd2 t 0 s lim must)).outcome = some .failed := by
  by_cases h1 : s < lim
  · obtain ⟨σ, q⟩ := adm2_none (m := Pre2 t lim s must) rfl (lim - s) (lim + 1 - s) s (Pre2 t lim s must).seen (show s + (lim - s) = lim by omega) (by omega) hm
    rw [search2 h1, from_none rfl q]
    rfl
  · unfold Sre.forSearch
    have e1 : Sre.header cd2 = (1, 10) := by decide +kernel
    rw [e1]
    have h1 : (s > lim ∨ lim - s < 1) := by omega
    simp only [gt_iff_lt, Bool.or_eq_true, decide_eq_true_eq, if_pos h1]
    rfl
noncomputable def Br2 (t : Array Nat) (lim s pc pos : Nat) (hd : Nat) (σ : Sre.Seen) : Sre.M :=
  { At2 t lim s σ with pc := pc, pos := pos, handed := hd, weight := 2, frames := [{ wait := .nextBranch, pc := 11, pos := s, outermost := true, kept := { lastmark := -1, lastindex := -1, whole := false, marks := #[] } }, { wait := .nextStart, pc := 10, pos := s, outermost := true }] }
theorem hit2 {t : Array Nat} {lim s : Nat} {σ : Sre.Seen} (h1 : s + 1 < lim) (h2 : t.getD s 0 = 13) (h3 : t.getD (s + 1) 0 = 10) :
    (stp 8 (At2 t lim s σ)).outcome = some .matched ∧ (stp 8 (At2 t lim s σ)).start = s ∧ (stp 8 (At2 t lim s σ)).handed = s + 2 := by
  have e0 : stp 1 (At2 t lim s σ) = Br2 t lim s 12 s s (σ.add 7) := by
    rw [step_exec rfl rfl (by decide : 10 < 36), exec_branch rfl rfl]
    rfl
  have e1 : stp 1 (Br2 t lim s 12 s s (σ.add 7)) = Br2 t lim s 14 (s + 1) s ((σ.add 7).add 16) := by
    rw [step_exec rfl rfl (by decide : 12 < 36), exec_lit rfl (show s < lim by omega)]
    rw [show ((Br2 t lim s 12 s s (σ.add 7)).text.getD (Br2 t lim s 12 s s (σ.add 7)).pos 0 == (Br2 t lim s 12 s s (σ.add 7)).word 1) = (t.getD s 0 == 13) from rfl, h2]
    rfl
  have e2 : stp 1 (Br2 t lim s 14 (s + 1) s ((σ.add 7).add 16)) = Br2 t lim s 16 (s + 2) s (((σ.add 7).add 16).add 16) := by
    rw [step_exec rfl rfl (by decide : 14 < 36), exec_lit rfl (show s + 1 < lim by omega)]
    rw [show ((Br2 t lim s 14 (s + 1) s ((σ.add 7).add 16)).text.getD (Br2 t lim s 14 (s + 1) s ((σ.add 7).add 16)).pos 0 == (Br2 t lim s 14 (s + 1) s ((σ.add 7).add 16)).word 1) = (t.getD (s + 1) 0 == 10) from rfl, h3]
    rfl
  have e3 : stp 1 (Br2 t lim s 16 (s + 2) s (((σ.add 7).add 16).add 16)) = Br2 t lim s 35 (s + 2) s ((((σ.add 7).add 16).add 16).add 15) := by
    rw [step_exec rfl rfl (by decide : 16 < 36), exec_jump rfl]
    rfl
  have e4 : stp 1 (Br2 t lim s 35 (s + 2) s ((((σ.add 7).add 16).add 16).add 15)) = { Br2 t lim s 35 (s + 2) (s + 2) (((((σ.add 7).add 16).add 16).add 15).add 1) with answer := some true } := by
    rw [step_exec rfl rfl (by decide : 35 < 36), exec_succ rfl rfl]
    rfl
  rw [show 8 = 1 + (1 + (1 + (1 + (1 + 3)))) from rfl, stp_add, stp_add, stp_add, stp_add, stp_add, e0, e1, e2, e3, e4]
  exact ⟨rfl, rfl, rfl⟩
section
variable {Md : Model} {A : Around} {E : Value → Shared → Prop} {s : Shared}
theorem next2 {T : ReTarget} {st e : Nat} {must : Bool} {Q : Option Sre.M → Shared → Prop} (hc : T.code = cd2) (hg : T.groups = 0) (h0 : st ≤ e) (h1 : e + 1 < T.lim) (h2 : T.text.getD e 0 = 13) (h3 : T.text.getD (e + 1) 0 = 10) (hm : ∀ j, st ≤ j → j < e → T.text.getD j 0 = 46)
    (h : ∀ m : Sre.M, m.start = e → m.handed = e + 2 → Q (some m) s) : wpAny Md A (reNextFound T st must) Q E s := by
  unfold reNextFound
  rw [hc, hg]
  obtain ⟨σ, e1⟩ := begin2 (t := T.text) (lim := T.lim) (s := st) (must := must) h0 (by omega) h2 hm
  rw [e1]
  obtain ⟨e3, e4, e5⟩ := hit2 (t := T.text) (σ := σ) h1 h2 h3
  exact wp_runToEnd (n := 8) (by omega) (by rw [e3]; rfl) (fun o q => by rw [e3] at q; cases q) (fun _ => h _ e4 e5) (fun q => by rw [e3] at q; cases q)
theorem next2_none {T : ReTarget} {st : Nat} {must : Bool} {Q : Option Sre.M → Shared → Prop} (hc : T.code = cd2) (hg : T.groups = 0) (h0 : st ≤ T.lim) (hm : ∀ j, st ≤ j → j < T.lim → T.text.getD j 0 = 46)
    (h : Q none s) : wpAny Md A (reNextFound T st must) Q E s := by
  unfold reNextFound
  rw [hc, hg]
  have e3 := done2 (t := T.text) (must := must) h0 hm
  exact wp_runToEnd (n := 1) (by omega) (by rw [e3]; rfl) (fun o q => by rw [e3] at q; cases q) (fun q => by rw [e3] at q; cases q) (fun _ => h)
end
end
section
open PySem PySem.W PyProof.Rows
set_option maxRecDepth 100000
set_option maxHeartbeats 8000000

open PySem.Builtin.Re
theorem plainAttrs_pat : PlainAttrs "re.Pattern" :=
  ⟨⟨"object.__getattribute__", by rw [typeLookup_type, builtinLookup_eq_fast]; kernel_rfl, by decide +kernel⟩, by rw [typeLookup_type, builtinLookup_eq_fast]; kernel_rfl⟩
theorem slot_pat_sub : Slot "re.Pattern" "sub" "re.Pattern.sub" :=
  .of (owner := "re.Pattern") (n := "sub") (by rw [typeLookup_type, builtinLookup_eq_fast]; kernel_rfl) (by decide +kernel) (by decide +kernel) (by decide +kernel)
    (by first | exact .inl (by decide +kernel) | exact .inr (by decide +kernel)) (by rw [isSubtype_type]; kernel_rfl)
theorem type_pat_sub : typeOf (.builtin "re.Pattern.sub") = pure (.type "method_descriptor") := by show builtinType _ = _; rw [builtinType_eq_fast]; kernel_rfl
theorem entry_pat_sub : entryFor table "re.Pattern.sub" = some Builtin.«re.Pattern.sub» := entryFor_of_tree (by kernel_rfl)
theorem entry_pat_loop : entryFor table "re.Pattern.sub.loop" = some Builtin.«re.Pattern.sub.loop» := entryFor_of_tree (by kernel_rfl)
theorem owner_pat : Manifest.owners.lookup (String.ofList ['n', 'r', 'e', 't', 't', 'a', 'P', '.', 'e', 'r'].reverse) = some Manifest.sig_re_Pattern := by kernel_rfl
theorem args_pat_sub (a b c : Value) : argsOk "re.Pattern.sub" ⟨[a, b, c], []⟩ := by
  unfold argsOk; rw [signature?_of (id := "re.Pattern.sub") (n := ['b', 'u', 's']) (o := ['n', 'r', 'e', 't', 't', 'a', 'P', '.', 'e', 'r']) (by kernel_rfl) owner_pat]; kernel_rfl
/-- a compiled pattern -/
noncomputable def PatAt (h : Heap) (p c : Addr) (code : Array Nat) : Prop := ∃ a b o k items, h.get? p = some { cls := .type "re.Pattern", data := .fields #[a, b, .int 0 0, .none, .none, .ref c, .int 0 0] } ∧ h.get? c = some o ∧ o.data = .seq items k ∧ (items.map reRawOf).map (·.toNat) = code
theorem PatAt.but {h h' : Heap} {p c l : Addr} {code : Array Nat} (x : PatAt h p c code) (hp : p ≠ l) (hc : c ≠ l) (e : ∀ b o, b ≠ l → h.get? b = some o → h'.get? b = some o) : PatAt h' p c code :=
  let ⟨a, b, o, k, items, h1, h2, r⟩ := x; ⟨a, b, o, k, items, e _ _ hp h1, e _ _ hc h2, r⟩
theorem PatAt.ext {h h' : Heap} {p c : Addr} {code : Array Nat} (x : PatAt h p c code) (e : ∀ b o, h.get? b = some o → h'.get? b = some o) : PatAt h' p c code :=
  let ⟨a, b, o, k, items, h1, h2, r⟩ := x; ⟨a, b, o, k, items, e _ _ h1, e _ _ h2, r⟩
noncomputable abbrev T0 (p : Addr) (x : Str) (t : Tok) (code : Array Nat) : ReTarget := { pattern := .ref p, string := .str x t, code := code, text := x.cps, kind := 0, groups := 0, pos := 0, lim := x.cps.size }
section
variable {Md : Model} {A : Around} {E : Value → Shared → Prop} {s : Shared}
theorem wp_whole {p c : Addr} {x : Str} {t : Tok} {code : Array Nat} {Q : ReTarget → Shared → Prop} (hp : PatAt s.heap p c code) (h : Q (T0 p x t code) s) : wpAny Md A (reWholeTarget (.ref p) (.str x t)) Q E s := by
  obtain ⟨a, b, o, k, items, h1, h2, h3, h4⟩ := hp
  unfold reWholeTarget
  refine wpAny_bind (wpAny_fieldsOf h1 rfl ?_)
  show wpAny Md A (do let its ← reRawItems (.ref c); pure ({ pattern := .ref p, string := .str x t, code := its.map (·.toNat), text := x.cps, kind := 0, groups := 0, pos := 0, lim := x.cps.size } : ReTarget)) Q E s
  unfold reRawItems
  refine wpAny_bind (wpAny_bind (wpAny_seqItems h2 h3 (wpAny_pure ?_)))
  refine wpAny_pure ?_
  show Q { pattern := .ref p, string := .str x t, code := (items.map reRawOf).map (·.toNat), text := x.cps, kind := 0, groups := 0, pos := 0, lim := x.cps.size } s
  rw [h4]
  exact h
end
end
section
open PySem PySem.W PyProof.Rows
set_option maxRecDepth 100000
set_option maxHeartbeats 8000000

open PySem.Builtin.Re
noncomputable def catL (ys : List Str) : List Nat := ys.flatMap (·.cps.toList)
theorem catL_push (ys : List Str) (y : Str) : catL (ys ++ [y]) = catL ys ++ y.cps.toList := by simp [catL]
theorem sum_catL (ys : List Str) : (ys.map (·.length)).sum = (catL ys).length := by
  induction ys with
  | nil => rfl
  | cons y l ih =>
    simp only [catL, List.map_cons, List.sum_cons, List.flatMap_cons, List.length_append] at ih ⊢
    rw [ih]
    rfl
theorem join_nil (ys : List Str) : Txt.join ⟨#[]⟩ ys = ⟨(catL ys).toArray⟩ := by
  refine (StrLaws.glued_eq_join _ _).trans ?_
  induction ys with
  | nil => rfl
  | cons y l ih =>
    cases l with
    | nil => show y = _; cases y; simp [catL]
    | cons z l =>
      show y ++ (⟨#[]⟩ : Str) ++ Str.join ⟨#[]⟩ (z :: l) = _
      rw [ih]
      show (⟨y.cps ++ #[] ++ _⟩ : Str) = _
      simp [catL]
theorem strsAre_push : ∀ {vs : List Value} {ys : List Str} {y : Str} {t : Tok}, StrsAre vs ys → StrsAre (vs ++ [.str y t]) (ys ++ [y])
  | _, _, _, _, .nil => .cons _ _ .nil
  | _, _, _, _, .cons _ _ h => .cons _ _ (strsAre_push h)
noncomputable def Finds (code : Array Nat) (x : Str) : Nat → Bool → List (Nat × Nat) → Prop
  | st, must, [] => st ≤ x.cps.size ∧ ∀ (p : Addr) (t : Tok) (Md : Model) (A : Around) (s : Shared) (Q : Option Sre.M → Shared → Prop) (E : Value → Shared → Prop), Q none s → wpAny Md A (reNextFound (T0 p x t code) st must) Q E s
  | st, must, (b, e) :: r => st ≤ b ∧ b ≤ x.cps.size ∧ (∀ (p : Addr) (t : Tok) (Md : Model) (A : Around) (s : Shared) (Q : Option Sre.M → Shared → Prop) (E : Value → Shared → Prop),
      (∀ m : Sre.M, m.start = b → m.handed = e → Q (some m) s) → wpAny Md A (reNextFound (T0 p x t code) st must) Q E s) ∧ Finds code x e (e == b) r
noncomputable def subL (x r : Str) : Nat → List (Nat × Nat) → List Nat
  | st, [] => (x.cps.extract st x.cps.size).toList
  | st, (b, e) :: l => (x.cps.extract st b).toList ++ (r.cps.toList ++ subL x r e l)
section
variable {prog : Program} {w : World} {A : Around} {s : Shared} {R : Result → Shared → Prop}
theorem wp_piece {α : Type} {M : Model} {E : Value → Shared → Prop} {Q : α → Shared → Prop} {rest : Sem α} {x : Str} {st b l : Nat} {vs : Array Value} {k : Nat} {ys : List Str} (hl : s.heap.get? l = some { cls := .type "list", data := .seq vs k }) (hv : StrsAre vs.toList ys) (hz : vs.size < 1000) (hx : x.cps.size < 100000) (hb : b ≤ x.cps.size)
   (h : ∀ h' tk' vs' k' ys', (∀ a o, a ≠ l → s.heap.get? a = some o → h'.get? a = some o) → h'.get? l = some { cls := .type "list", data := .seq vs' k' } → StrsAre vs'.toList ys' → vs'.size ≤ vs.size + 1 → catL ys' = catL ys ++ (x.cps.extract st b).toList → wpAny M A rest Q E { s with heap := h', toks := tk' }) :
   wpAny M A (if st < b then do let v ← reSlice x.cps 0 st b; updateSeq l (·.push v); rest else rest) Q E s := by
  by_cases hlt : st < b
  · rw [if_pos hlt]
    unfold reSlice
    refine wpAny_bind (wpAny_mkStr ?_ ?_)
    · refine wpAny_bind (wpAny_updateSeq hl rfl ?_ (by rw [sizeLine_eq]; omega) (by simp [sizeLine_eq]; omega))
      refine h _ _ (vs.push (.str ⟨x.cps.extract st b⟩ s.toks)) _ (ys ++ [⟨x.cps.extract st b⟩]) (fun a o ha e => ?_) (Heap.get?_update_self _ hl rfl) (by simpa using strsAre_push hv) (by simp) (catL_push _ _)
      exact ((Heap.SameBut.update ..).2 a ha).trans e
    · show (x.cps.extract st b).size ≤ _
      rw [sizeLine_eq]; simp; omega
  · rw [if_neg hlt]
    refine h s.heap s.toks vs k ys (fun _ _ _ e => e) hl hv (by omega) ?_
    have : (x.cps.extract st b).toList = [] := List.eq_nil_of_length_eq_zero (by simp only [Array.length_toList, Array.size_extract]; omega)
    rw [this]; simp
theorem wp_loop {p c l : Addr} {code : Array Nat} {x r : Str} {t u : Tok} (hpl : p ≠ l) (hcl : c ≠ l) (hx : x.cps.size < 100000) (hr : r.cps.size < 100) : ∀ (ms : List (Nat × Nat)) (st : Nat) (n : Int) (must : Bool) (vs : Array Value) (k : Nat) (ys : List Str) (s : Shared),
    PatAt s.heap p c code → s.heap.get? l = some { cls := .type "list", data := .seq vs k } → StrsAre vs.toList ys → vs.size + 2 * ms.length < 900 → Finds code x st must ms → (catL ys ++ subL x r st ms).length < 1000000 →
    (∀ h' tk' t', (∀ a o, a ≠ l → s.heap.get? a = some o → h'.get? a = some o) → R (.ok (.ret (.str ⟨(catL ys ++ subL x r st ms).toArray⟩ t'))) { s with heap := h', toks := tk' }) →
    codeAny (model prog w) A (.builtin "re.Pattern.sub.loop" ⟨[.ref p, .str x t, .str r u, rawInt 0, rawInt 0, rawInt n, rawInt st, rawInt st, .bool must, .ref l, .bool false], []⟩) R s
  | [], st, n, must, vs, k, ys, s, hp, hl, hv, hz, hF, hc, hR => by
    refine codeAny_builtin entry_pat_loop ?_
    unfold Builtin.«re.Pattern.sub.loop»
    dsimp only [rawInt]
    refine wpAny_bind (wp_whole hp ?_)
    dsimp only
    rw [if_pos (by decide)]
    refine wpAny_bind (wpAny_pure ?_)
    refine wpAny_bind ?_
    rw [if_neg (by simp)]
    refine hF.2 _ _ _ _ _ _ _ ?_
    dsimp only [Int.toNat_natCast]
    refine wp_piece hl hv (by omega) hx (Nat.le_refl _) (fun h' tk' vs' k' ys' hk hl' hv' hz' hc' => ?_)
    have hcc : catL ys' = catL ys ++ subL x r st [] := hc'
    rw [← hcc] at hR hc
    unfold reSlice
    refine wpAny_bind (wpAny_mkStr ?_ (by show (x.cps.extract 0 0).size ≤ _; simp))
    refine wpAny_bind (wpAny_seqItems hl' rfl ?_)
    have e0 : (x.cps.extract 0 0) = #[] := by simp
    rw [e0]
    dsimp only [Option.getD]
    by_cases hem : vs'.isEmpty = true
    · rw [if_pos hem]
      refine wpAny_bind (wpAny_pure ?_)
      rw [if_neg (by decide)]
      refine wpAny_pure ?_
      have : catL ys' = [] := by
        have h1 : vs' = #[] := by simpa using hem
        subst h1
        cases hv'
        rfl
      rw [this] at hR
      exact hR _ _ _ hk
    · rw [if_neg hem]
      rw [if_pos (by decide)]
      refine wpAny_bind (join_list (ys := ys') ⟨_, hl', rfl, _, rfl⟩ hv' ?_ (fun t' k => ?_))
      · rw [sum_catL, show Str.length ⟨#[]⟩ = 0 from rfl, Nat.mul_zero]
        omega
      · rw [if_neg (by decide), join_nil]
        exact wpAny_pure (hR _ _ _ hk)
  | (b, e) :: ms, st, n, must, vs, k, ys, s, hp, hl, hv, hz, hF, hc, hR => by
    refine codeAny_builtin entry_pat_loop ?_
    unfold Builtin.«re.Pattern.sub.loop»
    dsimp only [rawInt]
    refine wpAny_bind (wp_whole hp ?_)
    dsimp only
    rw [if_pos (by decide)]
    refine wpAny_bind (wpAny_pure ?_)
    refine wpAny_bind ?_
    rw [if_neg (by simp)]
    obtain ⟨hb1, hb2, hf, hF'⟩ := hF
    refine hf _ _ _ _ _ _ _ (fun m hm1 hm2 => ?_)
    dsimp only [Int.toNat_natCast]
    rw [hm1, hm2]
    refine wp_piece hl hv (by omega) hx hb2 (fun h' tk' vs' k' ys' hk hl' hv' hz' hc' => ?_)
    rw [if_pos (by decide)]
    refine wpAny_bind (wpAny_pure ?_)
    rw [if_pos (by rfl)]
    have hcc : catL ys' ++ (r.cps.toList ++ subL x r e ms) = catL ys ++ subL x r st ((b, e) :: ms) := by rw [hc', List.append_assoc]; rfl
    simp only [List.length_cons] at hz
    refine wpAny_bind (wpAny_updateSeq hl' rfl ?_ (by rw [sizeLine_eq]; omega) (by simp [sizeLine_eq]; omega))
    refine wpAny_pure ⟨plainId_quiet (by decide +kernel) _, ?_⟩
    have hk2 : ∀ a o, a ≠ l → s.heap.get? a = some o → (h'.update l (Obj.mapSeq (·.push (.str r u)))).get? a = some o := fun a o ha q => ((Heap.SameBut.update ..).2 a ha).trans (hk a o ha q)
    refine wp_loop hpl hcl hx hr ms e (n + 1) (e == b) (vs'.push (.str r u)) _ (ys' ++ [r]) _ (hp.but hpl hcl hk2) (Heap.get?_update_self _ hl' rfl) (by simpa using strsAre_push hv') (by simp; omega) hF' ?_ ?_
    · rw [catL_push, List.append_assoc, hcc]; exact hc
    · intro h2 tk2 t2 hk3
      have := hR h2 tk2 t2 (fun a o ha q => hk3 a o ha (hk2 a o ha q))
      rw [catL_push, List.append_assoc, hcc]
      exact this
end
end
section
open PySem PySem.W PyProof.Rows
set_option maxRecDepth 100000
set_option maxHeartbeats 8000000

open PySem.Builtin.Re
section
variable {prog : Program} {w : World} {A : Around} {s : Shared}
theorem str_no_call : typeLookup (.type "str") "__call__" = pure none := by rw [typeLookup_type, builtinLookup_eq_fast]; kernel_rfl
theorem named_sub (r x : Value) : reNamed "re.Pattern.sub" "sub" ["repl", "string", "count"] 2 [r, x] [] = pure [some r, some x, none] := by rfl
theorem sub_k0 {p c : Addr} {code : Array Nat} {x r : Str} {t u : Tok} {ms : List (Nat × Nat)} {Q E : Value → Shared → Prop} (hp : PatAt s.heap p c code) (hx : x.cps.size < 100000) (hr : r.cps.size < 100) (hr2 : r.cps.contains 92 = false) (hm : ms.length < 400) (hF : Finds code x 0 false ms) (hc : (subL x r 0 ms).length < 1000000)
   (h : ∀ h' tk' t', (∀ a o, s.heap.get? a = some o → h'.get? a = some o) → Q (.str ⟨(subL x r 0 ms).toArray⟩ t') { s with heap := h', toks := tk' }) :
   wpAny (model prog w) A (call (.builtin "re.Pattern.sub") [.ref p, .str r u, .str x t]) Q E s := by
  have hpT : s.TypeIs (.ref p) "re.Pattern" := by
    obtain ⟨a, b, o, k, items, h1, _⟩ := hp
    exact ⟨_, h1, rfl⟩
  refine wpAny_call (codeAny_call_builtin slot_pat_sub.plain entry_pat_sub (slot_pat_sub.check _ _ _ _ _ _ _ _ hpT (args_pat_sub _ _ _) ?_))
  unfold Builtin.«re.Pattern.sub» reSubstitute
  dsimp only
  rw [named_sub]
  refine wpAny_bind (wpAny_pure ?_)
  dsimp only
  refine wpAny_bind (wpAny_pure ?_)
  refine wpAny_bind (wpAny_specialOf (typeIs_str _ _ _) str_no_call ?_)
  dsimp only [Option.isSome]
  rw [if_neg (by decide)]
  refine wpAny_bind (wpAny_pure ?_)
  dsimp only
  refine wpAny_bind (wpAny_pure ?_)
  rw [if_neg (by decide), if_pos (by rw [hr2]; rfl)]
  refine wpAny_bind (wpAny_pure ?_)
  dsimp only
  refine wpAny_bind (wpAny_holding (wp_whole hp ?_))
  rw [if_neg (by decide)]
  refine wpAny_bind (wpAny_newObj_type ?_ (by show (#[] : Array Value).size ≤ _; simp))
  refine wpAny_pure ⟨plainId_quiet (by decide +kernel) _, ?_⟩
  have up : ∀ b o, s.heap.get? b = some o → (s.heap.push { cls := .type "list", data := .seq #[] }).get? b = some o := fun b o e => Heap.get?_push_of_some _ e
  refine wp_loop (l := s.heap.objs.size) ?_ ?_ hx hr ms 0 0 false #[] _ [] _ (hp.ext up) (Heap.get?_push_size _ rfl) .nil (by simp; omega) hF (by simpa [catL] using hc) ?_
  · obtain ⟨a, b, o, k, items, h1, _⟩ := hp
    exact Nat.ne_of_lt (Heap.lt_size h1)
  · obtain ⟨a, b, o, k, items, _, h1, _⟩ := hp
    exact Nat.ne_of_lt (Heap.lt_size h1)
  · intro h' tk' t' hk
    exact h h' tk' t' fun a o e => hk a o (Nat.ne_of_lt (Heap.lt_size e)) (up a o e)
end
end
section
open PySem PySem.W PyProof.Rows
set_option maxRecDepth 100000
set_option maxHeartbeats 8000000

open PySem.Builtin.Re
theorem mail_cps (a b c : Nat) : (mailS a b c).cps = (List.replicate a 46 ++ 13 :: 10 :: (List.replicate b 46 ++ 13 :: 10 :: List.replicate c 46)).toArray := by
  show (((dots a) ++ crlf ++ ((dots b) ++ crlf ++ (dots c))) : Str).cps = _
  have e : crlf = ⟨#[13, 10]⟩ := by decide +kernel
  rw [e]
  show ((dots a).cps ++ #[13, 10]) ++ (((dots b).cps ++ #[13, 10]) ++ (dots c).cps) = _
  apply Array.ext'
  simp [dots]
theorem mail_size (a b c : Nat) : (mailS a b c).cps.size = a + b + c + 4 := by rw [mail_cps]; simp; omega
theorem mail_get (a b c j : Nat) : (mailS a b c).cps.getD j 0 = if j < a then 46 else if j = a then 13 else if j = a + 1 then 10 else if j < a + 2 + b then 46 else if j = a + 2 + b then 13 else if j = a + b + 3 then 10 else if j < a + b + c + 4 then 46 else 0 := by
  rw [mail_cps]
  rw [Array.getD_eq_getD_getElem?, List.getElem?_toArray]
  by_cases h1 : j < a
  · rw [if_pos h1, List.getElem?_append_left (by simpa using h1)]; simp [h1]
  rw [if_neg h1, List.getElem?_append_right (by simpa using Nat.le_of_not_lt h1), List.length_replicate]
  obtain ⟨k, rfl⟩ := Nat.exists_eq_add_of_le (Nat.le_of_not_lt h1)
  rw [Nat.add_sub_cancel_left]
  match k with
  | 0 => simp
  | 1 => rw [if_neg (by omega), if_pos (by omega)]; rfl
  | k + 2 =>
    rw [if_neg (by omega), if_neg (by omega)]
    show ((List.replicate b 46 ++ 13 :: 10 :: List.replicate c 46)[k]?).getD 0 = _
    by_cases h2 : k < b
    · rw [if_pos (by omega), List.getElem?_append_left (by simpa using h2)]; simp [h2]
    rw [if_neg (by omega), List.getElem?_append_right (by simpa using Nat.le_of_not_lt h2), List.length_replicate]
    obtain ⟨i, rfl⟩ := Nat.exists_eq_add_of_le (Nat.le_of_not_lt h2)
    rw [Nat.add_sub_cancel_left]
    match i with
    | 0 => rw [if_pos (by omega)]; rfl
    | 1 => rw [if_neg (by omega), if_pos (by omega)]; rfl
    | i + 2 =>
      rw [if_neg (by omega), if_neg (by omega)]
      show ((List.replicate c 46)[i]?).getD 0 = _
      by_cases h3 : i < c
      · rw [if_pos (by omega)]; simp [h3]
      · rw [if_neg (by omega)]; simp [h3]
theorem finds2 (a b c : Nat) (hl : a + b + c < 10000) : Finds cd2 (mailS a b c) 0 false [(a, a + 2), (a + b + 2, a + b + 4)] := by
  have g := mail_get a b c
  have z := mail_size a b c
  refine ⟨by omega, by omega, fun p t Md A s Q E h => next2 (T := T0 p _ t cd2) rfl rfl (by omega) (show a + 1 < (mailS a b c).cps.size by omega) (by show (mailS a b c).cps.getD _ 0 = _; rw [g]; simp) (by show (mailS a b c).cps.getD _ 0 = _; rw [g]; simp) (fun j h1 h2 => by show (mailS a b c).cps.getD _ 0 = _; rw [g, if_pos h2]) h, ?_⟩
  refine ⟨by omega, by omega, fun p t Md A s Q E h => next2 (T := T0 p _ t cd2) rfl rfl (by omega) (show a + b + 2 + 1 < (mailS a b c).cps.size by omega) (by show (mailS a b c).cps.getD _ 0 = _; rw [g, if_neg (by omega), if_neg (by omega), if_neg (by omega), if_neg (by omega), if_pos (by omega)]) (by show (mailS a b c).cps.getD _ 0 = _; rw [g, if_neg (by omega), if_neg (by omega), if_neg (by omega), if_neg (by omega), if_neg (by omega), if_pos (by omega)])
    (fun j h1 h2 => by show (mailS a b c).cps.getD _ 0 = _; rw [g, if_neg (by omega), if_neg (by omega), if_neg (by omega), if_pos (by omega)]) h, ?_⟩
  refine ⟨by omega, fun p t Md A s Q E h => next2_none (T := T0 p _ t cd2) rfl rfl (show a + b + 4 ≤ (mailS a b c).cps.size by omega) (fun j h1 h2 => ?_) h⟩
  have h2' : j < (mailS a b c).cps.size := h2
  show (mailS a b c).cps.getD _ 0 = _
  rw [g, if_neg (by omega), if_neg (by omega), if_neg (by omega), if_neg (by omega), if_neg (by omega), if_neg (by omega), if_pos (by omega)]
theorem finds1 (a b c : Nat) (ha : 0 < a) (hb : 0 < b) (hc : 0 < c) (hl : a + b + c < 10000) : Finds cd1 (mailS a b c) 0 false [(0, 1), (a + 2, a + 3), (a + b + 4, a + b + 5)] := by
  have g := mail_get a b c
  have z := mail_size a b c
  have nl : ∀ j, 0 < j → j ≠ a + 2 → j ≠ a + b + 4 → (mailS a b c).cps.getD (j - 1) 0 ≠ 10 := by
    intro j h0 h1 h2
    rw [g]
    repeat' split
    all_goals omega
  refine ⟨by omega, by omega, fun p t Md A s Q E h => next1 (T := T0 p _ t cd1) rfl rfl (show (mailS a b c).cps.size < 100000 by omega) (by omega) (show 0 < (mailS a b c).cps.size by omega) (by show (mailS a b c).cps.getD _ 0 = _; rw [g, if_pos ha]) (.inl rfl) (fun j h1 h2 => by omega) h, ?_⟩
  refine ⟨by omega, by omega, fun p t Md A s Q E h => next1 (T := T0 p _ t cd1) rfl rfl (show (mailS a b c).cps.size < 100000 by omega) (by omega) (show a + 2 < (mailS a b c).cps.size by omega) (by show (mailS a b c).cps.getD _ 0 = _; rw [g, if_neg (by omega), if_neg (by omega), if_neg (by omega), if_pos (by omega)])
    (.inr (by show (mailS a b c).cps.getD _ 0 = _; rw [g, if_neg (by omega), if_neg (by omega), if_pos (by omega)])) (fun j h1 h2 => ⟨by omega, nl j (by omega) (by omega) (by omega)⟩) h, ?_⟩
  refine ⟨by omega, by omega, fun p t Md A s Q E h => next1 (T := T0 p _ t cd1) rfl rfl (show (mailS a b c).cps.size < 100000 by omega) (by omega) (show a + b + 4 < (mailS a b c).cps.size by omega) (by show (mailS a b c).cps.getD _ 0 = _; rw [g, if_neg (by omega), if_neg (by omega), if_neg (by omega), if_neg (by omega), if_neg (by omega), if_neg (by omega), if_pos (by omega)])
    (.inr (by show (mailS a b c).cps.getD _ 0 = _; rw [g, if_neg (by omega), if_neg (by omega), if_neg (by omega), if_neg (by omega), if_neg (by omega), if_pos (by omega)])) (fun j h1 h2 => ⟨by omega, nl j (by omega) (by omega) (by omega)⟩) h, ?_⟩
  refine ⟨by omega, fun p t Md A s Q E h => next1_none (T := T0 p _ t cd1) rfl rfl (show (mailS a b c).cps.size < 100000 by omega) (show a + b + 5 ≤ (mailS a b c).cps.size by omega) (show 0 < (mailS a b c).cps.size by omega) ?_ (fun j h1 h2 => ?_) h⟩
  · show (mailS a b c).cps.getD ((mailS a b c).cps.size - 1) 0 ≠ 10
    exact nl _ (by omega) (by omega) (by omega)
  · exact ⟨by omega, nl j (by omega) (by omega) (by have h2' : j < (mailS a b c).cps.size := h2; omega)⟩
theorem seg {x : Array Nat} {P S T : List Nat} {i j : Nat} (h : x = (P ++ (S ++ T)).toArray) (hi : P.length = i) (hj : P.length + S.length = j) : (x.extract i j).toList = S := by
  subst h hi hj
  rw [Array.toList_extract, List.extract_eq_take_drop]
  show ((P ++ (S ++ T)).drop P.length).take _ = S
  rw [List.drop_left, Nat.add_sub_cancel_left, List.take_left]
theorem rep_succ {n : Nat} (h : 0 < n) : List.replicate n 46 = 46 :: List.replicate (n - 1) 46 := by
  obtain ⟨k, rfl⟩ := Nat.exists_eq_add_of_le h
  rw [Nat.add_comm 1 k, List.replicate_succ, Nat.add_sub_cancel]
theorem crlf_cps : crlf.cps = #[13, 10] := by decide +kernel
theorem two_cps : (Str.ofString "..").cps = #[46, 46] := by decide +kernel
theorem sub2 (a b c : Nat) : subL (mailS a b c) crlf 0 [(a, a + 2), (a + b + 2, a + b + 4)] = (mailS a b c).cps.toList := by
  have m := mail_cps a b c
  show _ ++ (_ ++ (_ ++ (_ ++ ((mailS a b c).cps.extract (a + b + 4) (mailS a b c).cps.size).toList))) = _
  rw [seg (i := 0) (j := a) (P := []) (S := List.replicate a 46) m rfl (by simp)]
  rw [seg (P := List.replicate a 46 ++ [13, 10]) (i := a + 2) (j := a + b + 2) (S := List.replicate b 46) (T := 13 :: 10 :: List.replicate c 46) (by rw [m]; simp) (by simp) (by simp; omega)]
  rw [seg (P := List.replicate a 46 ++ 13 :: 10 :: (List.replicate b 46 ++ [13, 10])) (i := a + b + 4) (j := (mailS a b c).cps.size) (S := List.replicate c 46) (T := []) (by rw [m]; simp) (by simp; omega) (by rw [mail_size]; simp; omega)]
  rw [m, crlf_cps]
  simp
theorem sub1 (a b c : Nat) (ha : 0 < a) (hb : 0 < b) (hc : 0 < c) : subL (mailS a b c) (Str.ofString "..") 0 [(0, 1), (a + 2, a + 3), (a + b + 4, a + b + 5)] = (mailS (a + 1) (b + 1) (c + 1)).cps.toList := by
  have m := mail_cps a b c
  show _ ++ (_ ++ (_ ++ (_ ++ (_ ++ (_ ++ ((mailS a b c).cps.extract (a + b + 5) (mailS a b c).cps.size).toList))))) = _
  rw [seg (i := 0) (j := 0) (P := []) (S := []) m rfl (by simp)]
  rw [seg (i := 1) (j := a + 2) (P := [46]) (S := List.replicate (a - 1) 46 ++ [13, 10]) (T := List.replicate b 46 ++ 13 :: 10 :: List.replicate c 46) (by rw [m, rep_succ ha]; simp) rfl (by simp; omega)]
  rw [seg (P := List.replicate a 46 ++ [13, 10, 46]) (i := a + 3) (j := a + b + 4) (S := List.replicate (b - 1) 46 ++ [13, 10]) (T := List.replicate c 46) (by rw [m, rep_succ hb]; simp) (by simp) (by simp; omega)]
  rw [seg (P := List.replicate a 46 ++ 13 :: 10 :: (List.replicate b 46 ++ [13, 10, 46])) (i := a + b + 5) (j := (mailS a b c).cps.size) (S := List.replicate (c - 1) 46) (T := []) (by rw [m, rep_succ hc]; simp) (by simp; omega) (by rw [mail_size]; simp; omega)]
  rw [mail_cps, two_cps, List.replicate_succ, List.replicate_succ, List.replicate_succ, rep_succ ha, rep_succ hb, rep_succ hc]
  simp
section
variable {w : World} {A : Around} {s : Shared}
theorem quote2 {p c : Addr} {a b d : Nat} {t u : Tok} {Q E : Value → Shared → Prop} (hp : PatAt s.heap p c cd2) (hl : a + b + d < 9000)
   (h : ∀ h' tk' t', (∀ a o, s.heap.get? a = some o → h'.get? a = some o) → Q (.str (mailS a b d) t') { s with heap := h', toks := tk' }) :
   wpAny (model prg w) A (call (.builtin "re.Pattern.sub") [.ref p, .str crlf u, .str (mailS a b d) t]) Q E s := by
  have e := sub2 a b d
  have z := mail_size a b d
  refine sub_k0 (x := mailS a b d) (r := crlf) hp (by omega) (by rw [crlf_cps]; decide +kernel) (by rw [crlf_cps]; decide +kernel) (by simp) (finds2 a b d (by omega)) (by rw [e, Array.length_toList]; omega) (fun h' tk' t' hk => ?_)
  rw [e]
  exact h h' tk' t' hk
theorem quote1 {p c : Addr} {a b d : Nat} {t u : Tok} {Q E : Value → Shared → Prop} (hp : PatAt s.heap p c cd1) (ha : 0 < a) (hb : 0 < b) (hd : 0 < d) (hl : a + b + d < 9000)
   (h : ∀ h' tk' t', (∀ a o, s.heap.get? a = some o → h'.get? a = some o) → Q (.str (mailS (a + 1) (b + 1) (d + 1)) t') { s with heap := h', toks := tk' }) :
   wpAny (model prg w) A (call (.builtin "re.Pattern.sub") [.ref p, .str (Str.ofString "..") u, .str (mailS a b d) t]) Q E s := by
  have e := sub1 a b d ha hb hd
  have z := mail_size a b d
  have z' := mail_size (a + 1) (b + 1) (d + 1)
  refine sub_k0 (x := mailS a b d) (r := Str.ofString "..") hp (by omega) (by rw [two_cps]; decide +kernel) (by rw [two_cps]; decide +kernel) (by simp) (finds1 a b d ha hb hd (by omega)) (by rw [e, Array.length_toList]; omega) (fun h' tk' t' hk => ?_)
  rw [e]
  exact h h' tk' t' hk
end
end
section
open PySem PySem.W PyProof.Rows
set_option maxRecDepth 100000
set_option maxHeartbeats 8000000

open PySem.Builtin PySem.Builtin.Str
theorem occ_skip (s sub : Str) (hi limit : Nat) (l2 : List Nat) (st : Array Nat × Nat) : ∀ (l : List Nat), (∀ i ∈ l, subAt s sub i = false) → forIn (l ++ l2) st (StrLaws.occBody s sub hi limit) = forIn l2 st (StrLaws.occBody s sub hi limit)
  | [], _ => rfl
  | a :: l, h => by
    rw [List.cons_append, List.forIn_cons]
    have e : StrLaws.occBody s sub hi limit a st = pure (ForInStep.yield (st.fst, st.snd)) := by
      unfold StrLaws.occBody
      rw [if_neg]
      intro q
      rw [h a (List.mem_cons_self ..)] at q
      exact Bool.false_ne_true q.2
    rw [e]
    exact occ_skip s sub hi limit l2 st l fun i hi' => h i (List.mem_cons_of_mem _ hi')
theorem occ_hit (s sub : Str) (hi limit : Nat) (l : List Nat) (f : Array Nat) (r a : Nat) (h1 : f.size < limit) (h2 : r ≤ a) (h3 : a + sub.length ≤ hi) (h4 : subAt s sub a = true) : forIn (a :: l) (f, r) (StrLaws.occBody s sub hi limit) = forIn l (f.push a, a + sub.length) (StrLaws.occBody s sub hi limit) := by
  rw [List.forIn_cons]
  have e : StrLaws.occBody s sub hi limit a (f, r) = pure (ForInStep.yield (f.push a, a + sub.length)) := by
    unfold StrLaws.occBody
    rw [if_pos ⟨⟨⟨h1, h2⟩, h3⟩, h4⟩]
  rw [e]
  rfl
theorem at_crlf (a b c i : Nat) (h : subAt (mailS a b c) crlf i = true) : i = a ∨ i = a + b + 2 := by
  unfold subAt at h
  have h := eq_of_beq h
  rw [crlf_cps] at h
  have g := mail_get a b c i
  have e : (mailS a b c).cps.getD i 0 = 13 := by
    have h1 : ((mailS a b c).cps.extract i (i + crlf.length))[0]? = some 13 := by rw [h]; rfl
    have h2 : ((mailS a b c).cps.extract i (i + crlf.length)).size = 2 := by rw [h]; rfl
    rw [Array.getD_eq_getD_getElem?]
    rw [Array.getElem?_extract] at h1
    split at h1
    · rw [Nat.add_zero] at h1; rw [h1]; rfl
    · cases h1
  rw [e] at g
  by_cases q1 : i = a
  · exact .inl q1
  by_cases q2 : i = a + b + 2
  · exact .inr q2
  exfalso
  revert g
  repeat' split
  all_goals omega
theorem crlf_at1 (a b c : Nat) : subAt (mailS a b c) crlf a = true := by
  unfold subAt
  rw [beq_iff_eq]
  apply Array.ext'
  rw [crlf_cps]
  exact seg (P := List.replicate a 46) (S := [13, 10]) (mail_cps a b c) (by simp) (by simp [crlf_len])
theorem crlf_at2 (a b c : Nat) : subAt (mailS a b c) crlf (a + b + 2) = true := by
  unfold subAt
  rw [beq_iff_eq]
  apply Array.ext'
  rw [crlf_cps]
  exact seg (P := List.replicate a 46 ++ 13 :: 10 :: List.replicate b 46) (S := [13, 10]) (T := List.replicate c 46) (by rw [mail_cps]; simp) (by simp; omega) (by simp [crlf_len]; omega)
theorem occ_mail (a b c : Nat) : occurrences (mailS a b c) crlf 0 (mailS a b c).length ((mailS a b c).length + 1) = [a, a + b + 2] := by
  rw [StrLaws.occ_eq]
  have z : (mailS a b c).length = a + b + c + 4 := mailS_len a b c
  have e : List.range' 0 ((mailS a b c).length + 1 - 0) = List.range' 0 a ++ a :: (List.range' (a + 1) (b + 1) ++ (a + b + 2) :: (List.range' (a + b + 3) (c + 2) ++ [])) := by
    rw [z, List.append_nil, show a + b + c + 4 + 1 - 0 = a + (b + c + 4 + 1) by omega, ← List.range'_append_1, Nat.zero_add, List.range'_succ, show b + c + 4 = (b + 1) + (c + 2 + 1) by omega, ← List.range'_append_1, show a + 1 + (b + 1) = a + b + 2 by omega, List.range'_succ (s := a + b + 2)]
  have no : ∀ i, i ≠ a → i ≠ a + b + 2 → subAt (mailS a b c) crlf i = false := fun i h1 h2 => by
    cases q : subAt (mailS a b c) crlf i with
    | false => rfl
    | true => rcases at_crlf a b c i q with h | h <;> contradiction
  rw [e, occ_skip _ _ _ _ _ _ _ (fun i hi => ?_), occ_hit _ _ _ _ _ _ _ _ (by show 0 < _; omega) (by omega) (by rw [crlf_len]; omega) (crlf_at1 a b c), occ_skip _ _ _ _ _ _ _ (fun i hi => ?_),
    occ_hit _ _ _ _ _ _ _ _ (by show 1 < _; omega) (by rw [crlf_len]; omega) (by rw [crlf_len]; omega) (crlf_at2 a b c), occ_skip _ _ _ _ _ _ _ (fun i hi => ?_)]
  · rfl
  all_goals
    simp only [List.mem_range'_1] at hi
    exact no i (by omega) (by omega)
theorem split_mail (a b c : Nat) : Txt.split (mailS a b c) crlf = [dots a, dots b, dots c] := by
  unfold Txt.split
  have z : (mailS a b c).length = a + b + c + 4 := mailS_len a b c
  have k : PySem.Builtin.Str.strKind (mailS a b c) ≥ 1 := by
    unfold PySem.Builtin.Str.strKind; repeat' split
    all_goals decide
  have k2 : PySem.Builtin.Str.strKind crlf = 1 := by decide +kernel
  rw [if_neg (by rw [crlf_len, k2]; simp; omega), occ_mail, if_neg (by simp)]
  show [strSub _ 0 a, strSub _ (a + crlf.length) (a + b + 2), strSub _ (a + b + 2 + crlf.length) (mailS a b c).length] = _
  have m := mail_cps a b c
  have e1 : strSub (mailS a b c) 0 a = dots a := by
    unfold strSub dots
    rw [← seg (i := 0) (j := a) (P := []) (S := List.replicate a 46) m rfl (by simp)]
  have e2 : strSub (mailS a b c) (a + 2) (a + b + 2) = dots b := by
    unfold strSub dots
    rw [← seg (i := a + 2) (j := a + b + 2) (x := (mailS a b c).cps) (P := List.replicate a 46 ++ [13, 10]) (S := List.replicate b 46) (T := 13 :: 10 :: List.replicate c 46) (by rw [m]; simp) (by simp) (by simp; omega)]
  have e3 : strSub (mailS a b c) (a + b + 4) (mailS a b c).length = dots c := by
    unfold strSub dots
    rw [← seg (i := a + b + 4) (j := (mailS a b c).length) (x := (mailS a b c).cps) (P := List.replicate a 46 ++ 13 :: 10 :: (List.replicate b 46 ++ [13, 10])) (S := List.replicate c 46) (T := []) (by rw [m]; simp) (by simp; omega) (by rw [z]; simp; omega)]
  rw [crlf_len, e1, e2, e3]
end
section
open PySem PySem.W PyProof.Rows
set_option maxRecDepth 100000
set_option maxHeartbeats 8000000


theorem vals3 {l : List (Str × Tok)} {x y z : Str} (e : l.map (·.1) = [x, y, z]) : ∃ t u v, strValues l = [.str x t, .str y u, .str z v] := by
  match l, e with
  | [(x', t), (y', u), (z', v)], e =>
    simp only [List.map_cons, List.map_nil, List.cons.injEq, and_true] at e
    obtain ⟨rfl, rfl, rfl⟩ := e
    exact ⟨t, u, v, rfl⟩
section
variable {w : World} {mean : ExcName → Option Value} {mg mb : Str → Option Value} {dp un : Nat} {gd : Option (List Code)} {cn : Str} {cs : Scope} {fa : Addr} {ccd : Value} {cl : List (Str × Addr)} {outer : List Env} {A A₀ : Around} {base h₀ : Heap} {L : Addr} {m : Str → Option Value} {s : Shared} {Q E : Value → Shared → Prop} {news : List (Addr × Obj)}

theorem split_k {a b c : Nat} {t u : Tok} (F : Fr h₀ L s.heap m) (N : News h₀ L s.heap news) (ha : a < 1000) (hb : b < 1000) (hc : c < 1000)
    (h : ∀ D t1 t2 t3 h' k, Fr h₀ L h' m → News h₀ L h' ((D, W.listOf #[.str (dots a) t1, .str (dots b) t2, .str (dots c) t3] 0) :: news) → AllLt D news → Q (.ref D) { s with heap := h', toks := k }) :
    wpAny (model prg w) A (call (.builtin "str.split") [.str (mailS a b c) t, .str crlf u]) Q E s :=
  KSpl.split1 F N (by decide) (fun D l h' k e _ F' N' lt => by
    rw [split_mail] at e
    obtain ⟨t1, t2, t3, e'⟩ := vals3 e
    rw [e'] at N'
    exact h D t1 t2 t3 h' k F' N' (allLt_of lt)) (by rw [mailS_len, sizeLine_eq]; omega)
theorem len_k {a : Nat} {t : Tok} (ha : a < 1000) (h : ∀ t' k, Q (.int a t') { s with toks := k }) : wpAny (model prg w) A (call (.builtin "len") [.str (dots a) t]) Q E s :=
  len_str (by rw [dots_len]; omega) (by rw [dots_len]; exact h _ _)
theorem slice_dots {n : Nat} {i : Int} (h0 : 0 ≤ i) (h1 : i ≤ n) : Txt.slice (dots n) (some i) none = dots (n - i.toNat) := by
  have h := StrLaws.sliceText_from (x := dots n) (i := i) ⟨h0, by simpa [dots] using h1⟩
  refine Eq.trans (show Txt.slice (dots n) (some i) none = StrLaws.sliceText (dots n) (some i) none from rfl) (h.trans ?_)
  unfold dots
  simp only [List.length_replicate, List.drop_replicate, List.take_replicate, List.toList_toArray]
  congr 3
  omega
theorem slice_k {value slice : Expr} {n : Nat} {i : Int} {ui t : Tok} (F : Fr h₀ L s.heap m) (N : News h₀ L s.heap news) (hn : n < 1000) (h0 : 0 ≤ i) (h1 : i ≤ n)
    (h : ∀ h' t' k, Fr h₀ L h' m → News h₀ L h' news → Q (.str (dots (n - i.toNat)) t') { s with heap := h', toks := k })
    (hs : subscripted slice false (.str (dots n) t) (.ref s.heap.objs.size) = operate [.ref s.heap.objs.size, .str (dots n) t] (getItem (.str (dots n) t) (.ref s.heap.objs.size)) := by with_unfolding_all rfl)
    (ht : ∀ r, letTemporaryGo value (.str (dots n) t) r = pure () := by intro _; with_unfolding_all rfl) :
    wpAny (model prg w) A (subscriptTail value slice (.str (dots n) t) (.ref s.heap.objs.size)) Q E { s with heap := s.heap.push { cls := .type "slice", data := .fields #[.int i ui, .none, .none] } } :=
  slice_strN_sn F N (fun h' t' k F' N' => slice_dots h0 h1 ▸ h h' t' k F' N') hs ht (by rw [dots_len, sizeLine_eq]; omega)
theorem parts_k {a b c : Nat} {t : Nat} (B : Below A₀ base outer h₀) (F : Fr h₀ L s.heap m) (X : (hd.heap_39 w.params).In h₀) (N : News h₀ L s.heap news) (T : Top topProg lo mean mg mb h₀) (hk : cs.kind = .function)
  (ha : a < 400) (hb : b < 400) (hc : c < 400)
  (hdp : dp < 800) (hun : un < 8000)
  (hret : ∀ (D : Addr) (t t' t'' : Tok) (h' : Heap) (tk' : Nat), Fr h₀ L h' m → News h₀ L h' ((D, LCg.lst [.int a t, .int b t', .int c t'']) :: news) → LCg.Off1 D news → Q (.ref D) { s with heap := h', toks := tk' }) :
  wpAny (model prg w) (ktrTop dp un gd cn cs L fa ccd cl outer) (call (.ref 133) [.str (mailS a b c) t]) Q E s := by
  refine wpAny_call ?_
  w_top off
  k_with_none
  k_with "eval ListComp" => (k_here; (with_reducible show wpAny _ _ (eval (Expr.ListComp _ _ _ _) _) _ _ _); k_dflt (refine LCg.ListComp_U (F₀ := by k_asm) (by with_unfolding_all rfl) (by decide) (by rfl) (by decide) (by rfl) ?_))
  k_with "CompSrc" => (k_here; k_dflt (refine LCg.CompSrc.ledger (by rfl) (by k_asm) (by k_asm) (by k_mem) (by exact Nat.le_of_ble_eq_true rfl) ?_; intro g'; lcg_lit))
  k_with "call builtin:len" => (k_here; (with_reducible show wpAny _ _ (call (Value.builtin "len") [Value.str _ _]) _ _ _); k_dflt (refine len_k (by omega) (fun t9 k9 => ?_)); (try dsimp only))
  k_with "CompRest" => (with_unfolding_all first | (refine LCg.CompRest.succ ?_; intro v' I' oI' C' oC' D' m' h' tk' E' hv' hC' hx' F' N' off' ne'; (first | lcg_open hv' | (obtain ⟨t9', hv9'⟩ := hv'; subst hv9'))) | refine LCg.CompRest.zero ?_)
  k_with "CompEnd" => (k_dflt (first | refine cend0 (by k_asm) (by k_asm) (by assumption) (by lcg_src) ?_ | refine cend1 (by k_asm) (by k_asm) (by assumption) (by assumption) (by lcg_src) ?_))
  k_with "call builtin:str.split" => (k_here; (with_reducible show wpAny _ _ (call (Value.builtin "str.split") _) _ _ _); k_dflt (refine split_k (by k_asm) (by k_asm) (by omega) (by omega) (by omega) ?_); intro D9 t9 u9 v9 h9 k9 F9 N9 l9; (try simp only [AllLt, and_true] at l9); (try dsimp only); (try k_fold))
  cell_enter
  w_top off
  k_with_none
  k_with "eval ListComp" => (k_here; (with_reducible show wpAny _ _ (eval (Expr.ListComp _ _ _ _) _) _ _ _); k_dflt (refine LCg.ListComp_U (F₀ := by k_asm) (by with_unfolding_all rfl) (by decide) (by rfl) (by decide) (by rfl) ?_))
  k_with "CompSrc" => (k_here; k_dflt (refine LCg.CompSrc.ledger (by rfl) (by k_asm) (by k_asm) (by k_mem) (by exact Nat.le_of_ble_eq_true rfl) ?_; intro g'; lcg_lit))
  k_with "call builtin:len" => (k_here; (with_reducible show wpAny _ _ (call (Value.builtin "len") [Value.str _ _]) _ _ _); k_dflt (refine len_k (by omega) (fun t9 k9 => ?_)); (try dsimp only))
  k_with "CompRest" => (with_unfolding_all first | (refine LCg.CompRest.succ ?_; intro v' I' oI' C' oC' D' m' h' tk' E' hv' hC' hx' F' N' off' ne'; (first | lcg_open hv' | (obtain ⟨t9', hv9'⟩ := hv'; subst hv9'))) | refine LCg.CompRest.zero ?_)
  k_with "CompEnd" => (k_dflt (first | refine cend0 (by k_asm) (by k_asm) (by assumption) (by lcg_src) ?_ | refine cend1 (by k_asm) (by k_asm) (by assumption) (by assumption) (by lcg_src) ?_))
  k_with "call builtin:str.split" => (k_here; (with_reducible show wpAny _ _ (call (Value.builtin "str.split") _) _ _ _); k_dflt (refine split_k (by k_asm) (by k_asm) (by omega) (by omega) (by omega) ?_); intro D9 t9 u9 v9 h9 k9 F9 N9 l9; (try simp only [AllLt, and_true] at l9); (try dsimp only); (try k_fold))
  k_steps
  exact hret _ _ _ _ _ _ (by k_asm) (by (first | k_asm | (refine' news_sub ?n1 ?n2; (case n1 => k_asm); (case n2 => kcj_all)))) (by (first | exact ‹LCg.Off1 _ news› | exact (‹_ ∧ LCg.Off1 _ news›).2 | exact (‹_ ∧ _ ∧ LCg.Off1 _ news›).2.2 | exact (‹_ ∧ _ ∧ _ ∧ LCg.Off1 _ news›).2.2.2 | exact (‹_ ∧ _ ∧ _ ∧ _ ∧ LCg.Off1 _ news›).2.2.2.2 | exact (‹_ ∧ _ ∧ _ ∧ _ ∧ _ ∧ LCg.Off1 _ news›).2.2.2.2.2))
end
end
section
open PySem PySem.W PyProof.Rows
set_option maxRecDepth 100000
set_option maxHeartbeats 8000000

section
open LCg
/-- the end of one element: what the turn keeps -/
noncomputable def ZEnd (h₀ : Heap) (L : Addr) (m : Str → Option Value) (s₁ : Shared) (own news : List (Addr × Obj)) (rest : Value → Prop) (y : Value) (s₂ : Shared) : Prop :=
  ∃ h' tk, s₂ = { s₁ with heap := h', toks := tk } ∧ Fr h₀ L h' m ∧ News h₀ L h' (own ++ news) ∧ rest y
theorem ZEnd.intro {h₀ : Heap} {L : Addr} {m : Str → Option Value} {s₁ : Shared} {own news : List (Addr × Obj)} {rest : Value → Prop} {y : Value} {h' : Heap} {tk : Nat}
    (F : Fr h₀ L h' m) (N : News h₀ L h' (own ++ news)) (r : rest y) : ZEnd h₀ L m s₁ own news rest y { s₁ with heap := h', toks := tk } := ⟨h', tk, rfl, F, N, r⟩
noncomputable def ZRest (prog : Program) (w : World) (A : Around) (h₀ : Heap) (L : Addr) (m : Str → Option Value) (env : Env) (elt : Expr) (x x₂ : Str) (scope : Scope) (cl : List (Str × Addr)) (s : Shared) (xs zs : Array Value) (news : List (Addr × Obj))
    (Fin : List Value → Prop) : Nat → Nat → List Value → Prop
  | 0, _, ys => Fin ys
  | k + 1, i, ys => ∀ v₁ v₂ z oz T oT U oU a oa b ob C oC D m₂ h tk (E' : Value → Shared → Prop), xs[i]? = some v₁ → zs[i]? = some v₂ → NsObj oC m₂ → m₂ x = some v₁ → m₂ x₂ = some v₂ → Fr h₀ L h m →
      News h₀ L h ((z, oz) :: (T, oT) :: (U, oU) :: (a, oa) :: (b, ob) :: (C, oC) :: (D, lst ys) :: news) →
      wpAny (model prog w) A (eval elt (compEnvC scope cl C env)) (ZEnd h₀ L m { s with heap := h, toks := tk } [(z, oz), (T, oT), (U, oU), (a, oa), (b, ob), (C, oC), (D, lst ys)] news (fun y => ZRest prog w A h₀ L m env elt x x₂ scope cl s xs zs news Fin k (i + 1) (ys ++ [y]))) E' { s with heap := h, toks := tk }
section
variable {prog : Program} {w : World} {A : Around} {E : Value → Shared → Prop} {s : Shared} {h₀ : Heap} {L : Addr} {m : Str → Option Value} {env : Env}
theorem ZRest.zero {elt : Expr} {x x₂ : Str} {scope : Scope} {cl : List (Str × Addr)} {xs zs : Array Value} {news : List (Addr × Obj)} {Fin : List Value → Prop} {i : Nat} {ys : List Value} (h : Fin ys) :
    ZRest prog w A h₀ L m env elt x x₂ scope cl s xs zs news Fin 0 i ys := h
theorem ZRest.succ {elt : Expr} {x x₂ : Str} {scope : Scope} {cl : List (Str × Addr)} {xs zs : Array Value} {news : List (Addr × Obj)} {Fin : List Value → Prop} {k i : Nat} {ys : List Value}
    (h : ∀ v₁ v₂ z oz T oT U oU a oa b ob C oC D m₂ h tk (E' : Value → Shared → Prop), xs[i]? = some v₁ → zs[i]? = some v₂ → NsObj oC m₂ → m₂ x = some v₁ → m₂ x₂ = some v₂ → Fr h₀ L h m →
      News h₀ L h ((z, oz) :: (T, oT) :: (U, oU) :: (a, oa) :: (b, ob) :: (C, oC) :: (D, lst ys) :: news) →
      wpAny (model prog w) A (eval elt (compEnvC scope cl C env)) (ZEnd h₀ L m { s with heap := h, toks := tk } [(z, oz), (T, oT), (U, oU), (a, oa), (b, ob), (C, oC), (D, lst ys)] news (fun y => ZRest prog w A h₀ L m env elt x x₂ scope cl s xs zs news Fin k (i + 1) (ys ++ [y]))) E' { s with heap := h, toks := tk }) :
    ZRest prog w A h₀ L m env elt x x₂ scope cl s xs zs news Fin (k + 1) i ys := h
theorem fr_far {h h' : Heap} {wr : List Addr} {C : Addr} (F : Fr h₀ L h m) (K : ∀ b o, b ∉ wr → b ≠ C → h.get? b = some o → h'.get? b = some o) (hL : L ∉ wr) (hC : L ≠ C) (hw : ∀ b ∈ wr, h₀.get? b = none) (hc : h₀.get? C = none) : Fr h₀ L h' m :=
  ⟨F.ns.at' fun o e => K L o hL hC e, fun b o e => K b o (fun hb => by rw [hw b hb] at e; cases e) (fun hb => by rw [hb, hc] at e; cases e) (F.keep b o e), F.above⟩
theorem news_far {h h' : Heap} {wr : List Addr} {C : Addr} {news : List (Addr × Obj)} (N : News h₀ L h news) (K : ∀ b o, b ∉ wr → b ≠ C → h.get? b = some o → h'.get? b = some o) (h1 : ∀ p ∈ news, p.1 ∉ wr) (h2 : ∀ p ∈ news, p.1 ≠ C) : News h₀ L h' news :=
  fun p hp => ⟨K _ _ (h1 p hp) (h2 p hp) (N p hp).1, (N p hp).2⟩
theorem block_Z {elt iter : Expr} {x x₂ : Str} {px px₂ tp : Pos} {kt : Nat} {scope : Scope} {cl : List (Str × Addr)} {pos : Pos} {s₂ : Shared} {z TI TO i1 i2 l1 l2 : Addr} {xs zs : Array Value} {k1 k2 : Nat} {news : List (Addr × Obj)}
    {Fin : List Value → Prop} {RR : Value → Addr → Result → Shared → Prop} (hh : A.handled = none) (D : ZipApart z TI TO i1 i2 l1 l2) (hsz : min xs.size zs.size ≤ sizeLine)
    (hcell : ∀ y ∈ scope.names, y.2 ≠ .cell) (hkind : scope.kind = .function) (hx : scope.names.lookup x = some .local) (hx₂ : scope.names.lookup x₂ = some .local) (hxx : x ≠ x₂)
    (hst : IsZip s₂.heap z TI TO .none ∧ IsPair s₂.heap TI (.ref i1) (.ref i2) ∧ (∃ a b, IsPair s₂.heap TO a b) ∧ s₂.heap.IsListIter i1 l1 0 ∧ s₂.heap.IsListIter i2 l2 0 ∧ s₂.heap.IsList l1 xs ∧ s₂.heap.IsList l2 zs)
    (F : Fr h₀ L s₂.heap m) (N : News h₀ L s₂.heap news) (hm1 : (l1, ({ cls := .type "list", data := .seq xs k1 } : Obj)) ∈ news) (hm2 : (l2, ({ cls := .type "list", data := .seq zs k2 } : Obj)) ∈ news)
    (hL : ∀ b ∈ [z, TI, TO, i1, i2], b ≠ L ∧ h₀.get? b = none) (off : ∀ p ∈ news, p.1 ∉ [z, TO, i1, i2])
    (R : ZRest prog w A h₀ L m env elt x x₂ scope cl s₂ xs zs news Fin (min xs.size zs.size) 0 [])
    (hRR : ∀ D C h tk m' ys, Fr h₀ L h m → News h₀ L h ((D, lst ys) :: news) → (∀ p ∈ news, p.1 ≠ D) → h.Ns C m' → h₀.get? C = none → h₀.get? D = none → C ≠ L → D ≠ L → C ≠ D → (∀ p ∈ news, p.1 ≠ C) → Fin ys → RR (.ref D) C (.ok .next) { s₂ with heap := h, toks := tk }) :
    wpAny (model prog w) A (newList []) (fun acc s₃ => wpAny (model prog w) A (newFunctionEnv scope env.globals cl [] env.qual none .none (some env)) (fun cenv s₄ =>
      codeAny (model prog w) A (.compStart (.ListComp elt [⟨.Tuple [.Name x px, .Name x₂ px₂] kt tp, iter, [], 0⟩] scope pos) 0 (.ref z) acc { cenv with scope := relabel scope env }) (RR acc cenv.locals) s₄) E s₃) E s₂ := by
  have W := WalksT.zip2 (prog := prog) (w := w) hh z TI TO i1 i2 l1 l2 D xs zs
  generalize hn : min xs.size zs.size = n at W R hsz
  have exs : ∀ i h, (IsZip h z TI TO .none ∧ IsPair h TI (.ref i1) (.ref i2) ∧ (∃ a b, IsPair h TO a b) ∧ h.IsListIter i1 l1 i ∧ h.IsListIter i2 l2 i ∧ h.IsList l1 xs ∧ h.IsList l2 zs) → ∀ b ∈ [z, TI, TO, i1, i2, l1, l2], ∃ o, h.get? b = some o := by
    rintro i h ⟨a1, a2, ⟨_, _, a3⟩, ⟨_, a4, _⟩, ⟨_, a5, _⟩, ⟨_, a6, _⟩, ⟨_, a7, _⟩⟩ b hb
    simp only [List.mem_cons, List.not_mem_nil, or_false] at hb
    rcases hb with rfl | rfl | rfl | rfl | rfl | rfl | rfl
    · exact ⟨_, a1⟩
    · exact ⟨_, a2⟩
    · exact ⟨_, a3⟩
    · exact ⟨_, a4⟩
    · exact ⟨_, a5⟩
    · exact ⟨_, a6⟩
    · exact ⟨_, a7⟩
  have hfp : ∀ b ∈ [z, TI, TO, i1, i2, l1, l2], b < s₂.heap.objs.size := fun b hb => by obtain ⟨o, e⟩ := exs 0 _ hst b hb; exact Heap.lt_size e
  refine wpAny_newObj_type (wpAny_newFunctionEnv hcell (by intro y hy; simp at hy) (fun h₁ hns₁ hsb₁ => ?_) hkind)
  dsimp only at hns₁ hsb₁ ⊢
  generalize hH2 : s₂.heap.push { cls := .type "list", dict := none, data := .seq ([] : List Value).toArray } = H2 at hns₁ hsb₁ ⊢
  have hC : H2.objs.size = s₂.heap.objs.size + 1 := by rw [← hH2, Heap.size_push]
  have hDC : s₂.heap.objs.size ≠ H2.objs.size := by rw [hC]; exact Nat.ne_of_lt (Nat.lt_succ_self _)
  have below : ∀ b, b < s₂.heap.objs.size → b ≠ H2.objs.size ∧ b ≠ s₂.heap.objs.size := fun b hb => ⟨by rw [hC]; exact Nat.ne_of_lt (Nat.lt_succ_of_lt hb), Nat.ne_of_lt hb⟩
  have old : ∀ b o, s₂.heap.get? b = some o → h₁.get? b = some o := fun b o e => hsb₁.extBut b o (below b (Heap.lt_size e)).1 (Heap.get?_push_of_some _ (hH2 ▸ Heap.get?_push_of_some _ e))
  have hacc : h₁.get? s₂.heap.objs.size = some (lst []) := hsb₁.extBut _ _ hDC (Heap.get?_push_of_some _ (hH2 ▸ Heap.get?_push_size _ rfl))
  have hst₁ := W.frame _ _ _ hst fun b _ o e => old b o e
  have fresh₀ : ∀ a, s₂.heap.objs.size ≤ a → h₀.get? a = none := fun a ha => by
    cases e : h₀.get? a with
    | none => rfl
    | some o' => exact absurd (Heap.lt_size (F.keep a o' e)) (Nat.not_lt.mpr ha)
  have hD₀ : h₀.get? s₂.heap.objs.size = none := fresh₀ _ (Nat.le_refl _)
  have hC₀ : h₀.get? H2.objs.size = none := fresh₀ _ (by rw [hC]; exact Nat.le_succ _)
  have hLlt : L < s₂.heap.objs.size := F.ns.lt
  have hDL : s₂.heap.objs.size ≠ L := Ne.symm (below L hLlt).2
  have hCL : H2.objs.size ≠ L := Ne.symm (below L hLlt).1
  have nlt : ∀ p ∈ news, p.1 < s₂.heap.objs.size := fun p hp => Heap.lt_size (N p hp).1
  have wrL : L ∉ [z, TO, i1, i2] := fun hm => by
    simp only [List.mem_cons, List.not_mem_nil, or_false] at hm
    rcases hm with q | q | q | q
    · exact (hL z (by simp)).1 q.symm
    · exact (hL TO (by simp)).1 q.symm
    · exact (hL i1 (by simp)).1 q.symm
    · exact (hL i2 (by simp)).1 q.symm
  have wr0 : ∀ b ∈ [z, TO, i1, i2], h₀.get? b = none := fun b hm => (hL b (by
    simp only [List.mem_cons, List.not_mem_nil, or_false] at hm ⊢
    rcases hm with q | q | q | q <;> simp [q])).2
  have wrlt : ∀ b ∈ [z, TO, i1, i2], b < s₂.heap.objs.size := fun b hm => hfp b (W.sub b hm)
  have loop : ∀ s₃ : Shared, s₃ = { s₂ with heap := h₁, toks := s₂.toks + ([] : List (Str × Value)).length } →
      codeAny (model prog w) A (.compLoop (.ListComp elt [⟨.Tuple [.Name x px, .Name x₂ px₂] kt tp, iter, [], 0⟩] scope pos) 0 (.ref z) (.ref s₂.heap.objs.size) (compEnvC scope cl H2.objs.size env))
        (RR (.ref s₂.heap.objs.size) H2.objs.size) s₃ := by
    rintro s₃ rfl
    refine LCp.codeAny_compLoop_pair
      (fun k s' => ∃ h' tk i ys m', s' = { s₂ with heap := h', toks := tk } ∧ i ≤ n ∧ k = n + 1 - i ∧ ys.length = i ∧ (IsZip h' z TI TO .none ∧ IsPair h' TI (.ref i1) (.ref i2) ∧ (∃ a b, IsPair h' TO a b) ∧ h'.IsListIter i1 l1 i ∧ h'.IsListIter i2 l2 i ∧ h'.IsList l1 xs ∧ h'.IsList l2 zs) ∧ Fr h₀ L h' m ∧ h'.Ns H2.objs.size m' ∧ News h₀ L h' ((s₂.heap.objs.size, lst ys) :: news) ∧
        ZRest prog w A h₀ L m env elt x x₂ scope cl s₂ xs zs news Fin (n - i) i ys) ?_ (n + 1)
      ⟨h₁, _, 0, [], _, rfl, Nat.zero_le _, rfl, rfl, hst₁, F.keeps old, hns₁, fun p hp => ?_, R⟩
    · rintro k s' ⟨h', tk, i, ys, m', rfl, hi, rfl, hyl, hst', F', hn', N', R'⟩
      have NN : ∀ p ∈ (s₂.heap.objs.size, lst ys) :: news, p.1 ∉ [z, TO, i1, i2] := fun p hp hm => by
        rcases List.mem_cons.mp hp with rfl | hp
        · exact Nat.lt_irrefl _ (wrlt _ hm)
        · exact off p hp hm
      have NC : ∀ p ∈ (s₂.heap.objs.size, lst ys) :: news, p.1 ≠ H2.objs.size := fun p hp => by
        rcases List.mem_cons.mp hp with rfl | hp
        · exact hDC
        · exact (below _ (nlt p hp)).1
      have Cw : H2.objs.size ∉ [z, TO, i1, i2] := fun hm => by have := wrlt _ hm; rw [hC] at this; exact Nat.lt_irrefl _ (Nat.lt_of_succ_lt this)
      by_cases hlt : i < n
      · obtain ⟨j, hj⟩ : ∃ j, n - i = j + 1 := ⟨n - i - 1, by omega⟩
        rw [hj] at R'
        refine W.item i _ _ _ hlt hst' fun T vals h₂ tk₂ hPv hle hT hMid hk₂ => ?_
        obtain ⟨v₁, v₂, hv₁, hv₂, rfl⟩ := hPv
        have Tw := W.apart _ _ _ hMid
        refine W.go _ _ _ i T _ _ _ hMid fun h₃ hst₃ hk₃ => ?_
        have ht : IsTup h₃ T #[v₁, v₂] := by
          obtain ⟨ot, e, r⟩ := hT
          exact ⟨ot, hk₃ _ _ Tw e, r⟩
        refine assign_Tuple_tuple hh ht rfl rfl fun h₅ he => ?_
        have he' : ∀ b o, h₃.get? b = some o → h₅.get? b = some o := fun b o e => he b o (Nat.ne_of_lt (Heap.lt_size e)) e
        refine assignInOrder_cons (wpAny_assign_Name (wpAny_storeName_local (lookup_relabel_local hx) (((hn'.at' fun o e => hk₂ _ o Cw e).at' fun o e => hk₃ _ o Cw e).at' fun o e => he' _ o e) (fun h₆ hn₆ hs₆ => ?_) (by simp [compEnvC, relabel, hkind])))
        refine assignInOrder_cons (wpAny_assign_Name (wpAny_storeName_local (lookup_relabel_local hx₂) hn₆ (fun h₇ hn₇ hs₇ => ?_) (by simp [compEnvC, relabel, hkind])))
        refine assignInOrder_nil ?_
        have old3 : ∀ b o, b ≠ H2.objs.size → h₃.get? b = some o → h₇.get? b = some o := fun b o hb e => hs₇.extBut b o hb (hs₆.extBut b o hb (he' b o e))
        have K : ∀ b o, b ∉ [z, TO, i1, i2] → b ≠ H2.objs.size → h'.get? b = some o → h₇.get? b = some o := fun b o hb hb' e => old3 b o hb' (hk₃ b o hb (hk₂ b o hb e))
        have hst₇ := W.frame _ _ _ hst₃ fun b hb o e => old3 b o (below b (hfp b hb)).1 e
        obtain ⟨oC, heC, hoC⟩ := ns_obj hn₇
        have F₇ : Fr h₀ L h₇ m := fr_far F' K wrL (Ne.symm hCL) wr0 hC₀
        have N₇ := news_far N' K NN NC
        have e7 := exs _ _ hst₇
        obtain ⟨oz, ez⟩ := e7 z (by simp)
        obtain ⟨oT, eT⟩ := e7 TI (by simp)
        obtain ⟨oU, eU⟩ := e7 TO (by simp)
        obtain ⟨oa, ea⟩ := e7 i1 (by simp)
        obtain ⟨ob, eb⟩ := e7 i2 (by simp)
        have NA : News h₀ L h₇ ((z, oz) :: (TI, oT) :: (TO, oU) :: (i1, oa) :: (i2, ob) :: (H2.objs.size, oC) :: (s₂.heap.objs.size, lst ys) :: news) := fun p hp => by
          rcases List.mem_cons.mp hp with rfl | hp
          · exact ⟨ez, hL z (by simp)⟩
          rcases List.mem_cons.mp hp with rfl | hp
          · exact ⟨eT, hL TI (by simp)⟩
          rcases List.mem_cons.mp hp with rfl | hp
          · exact ⟨eU, hL TO (by simp)⟩
          rcases List.mem_cons.mp hp with rfl | hp
          · exact ⟨ea, hL i1 (by simp)⟩
          rcases List.mem_cons.mp hp with rfl | hp
          · exact ⟨eb, hL i2 (by simp)⟩
          rcases List.mem_cons.mp hp with rfl | hp
          · exact ⟨heC, hCL, hC₀⟩
          · exact N₇ p hp
        refine wpAny_mono (R' v₁ v₂ z oz TI oT TO oU i1 oa i2 ob H2.objs.size oC s₂.heap.objs.size _ h₇ _ _ hv₁ hv₂ hoC (by simp [hxx]) (by simp) F₇ NA) (fun y s₄ h₄ => ?_) fun _ _ e => e
        obtain ⟨h₈, tk₈, rfl, F₈, N₈, R₈⟩ := h₄
        have g8 : ∀ p ∈ (z, oz) :: (TI, oT) :: (TO, oU) :: (i1, oa) :: (i2, ob) :: (H2.objs.size, oC) :: (s₂.heap.objs.size, lst ys) :: news, h₈.get? p.1 = some p.2 := fun p hp => (N₈ p hp).1
        have zC := g8 (H2.objs.size, oC) (by simp)
        have zD := g8 (s₂.heap.objs.size, lst ys) (by simp)
        have N₈' : News h₀ L h₈ news := fun p hp => N₈ p (by simp [hp])
        have hst₈ := W.frame _ h₇ h₈ hst₇ fun b hb o e => by
          simp only [List.mem_cons, List.not_mem_nil, or_false] at hb
          rcases hb with rfl | rfl | rfl | rfl | rfl | rfl | rfl
          · rw [ez] at e; cases e; exact g8 (_, oz) (by simp)
          · rw [eT] at e; cases e; exact g8 (_, oT) (by simp)
          · rw [eU] at e; cases e; exact g8 (_, oU) (by simp)
          · rw [ea] at e; cases e; exact g8 (_, oa) (by simp)
          · rw [eb] at e; cases e; exact g8 (_, ob) (by simp)
          · have q := (N₇ _ (List.mem_cons_of_mem _ hm1)).1; rw [e] at q; cases q; exact (N₈' _ hm1).1
          · have q := (N₇ _ (List.mem_cons_of_mem _ hm2)).1; rw [e] at q; cases q; exact (N₈' _ hm2).1
        refine append_at (hsz := by show ys.toArray.size ≤ sizeLine; rw [List.size_toArray, hyl]; exact Nat.le_trans hi hsz) zD fun h₉ hs₉ hD₉ => ?_
        refine ⟨n + 1 - (i + 1), by omega, h₉, tk₈, i + 1, ys ++ [y], _, rfl, hlt, rfl, by rw [List.length_append, List.length_singleton, hyl], W.frame _ _ _ hst₈ fun b hb o e => hs₉.extBut b o (below b (hfp b hb)).2 e, F₈.change hs₉ hDL hD₀,
          (hoC.ns zC).sameBut hs₉ (Ne.symm hDC), fun p hp => ?_, ?_⟩
        · rcases List.mem_cons.mp hp with rfl | hp
          · exact ⟨hD₉.trans (congrArg some (lst_snoc ys y)), hDL, hD₀⟩
          · exact ⟨hs₉.extBut _ _ (below _ (nlt p hp)).2 (N₈' p hp).1, (N₈' p hp).2⟩
        · rw [show n - (i + 1) = j by omega]
          exact R₈
      · obtain rfl : i = n := Nat.le_antisymm hi (Nat.not_lt.mp hlt)
        rw [Nat.sub_self] at R'
        refine W.done _ _ _ hst' fun h₂ tk₂ hk₂ => ?_
        have K : ∀ b o, b ∉ [z, TO, i1, i2] → b ≠ H2.objs.size → h'.get? b = some o → h₂.get? b = some o := fun b o hb _ e => hk₂ b o hb e
        exact hRR _ _ h₂ tk₂ _ ys (fr_far F' K wrL (Ne.symm hCL) wr0 hC₀) (news_far N' K NN NC) (fun p hp => (below _ (nlt p hp)).2) (hn'.at' fun o e => hk₂ _ o Cw e) hC₀ hD₀ hCL hDL (Ne.symm hDC) (fun p hp => (below _ (nlt p hp)).1) R'
    · rcases List.mem_cons.mp hp with rfl | hp
      · exact ⟨hacc, hDL, hD₀⟩
      · exact ⟨old _ _ (N p hp).1, (N p hp).2⟩
  exact codeAny_compStart_list (loop _ rfl) (W.self 0 _ _ _ hst₁ (loop _ rfl))
noncomputable def ZSrc (prog : Program) (w : World) (A : Around) (h₀ : Heap) (L : Addr) (m : Str → Option Value) (env : Env) (elt : Expr) (x x₂ : Str) (scope : Scope) (cl : List (Str × Addr)) (Q : Value → Shared → Prop) (xv : Value) (s₁ : Shared) : Prop :=
  ∃ z TI TO i1 i2 l1 l2 xs zs k1 k2 news n, xv = .ref z ∧ A.handled = none ∧ ZipApart z TI TO i1 i2 l1 l2 ∧
    (IsZip s₁.heap z TI TO .none ∧ IsPair s₁.heap TI (.ref i1) (.ref i2) ∧ (∃ a b, IsPair s₁.heap TO a b) ∧ s₁.heap.IsListIter i1 l1 0 ∧ s₁.heap.IsListIter i2 l2 0 ∧ s₁.heap.IsList l1 xs ∧ s₁.heap.IsList l2 zs) ∧
    Fr h₀ L s₁.heap m ∧ News h₀ L s₁.heap news ∧ (l1, ({ cls := .type "list", data := .seq xs k1 } : Obj)) ∈ news ∧ (l2, ({ cls := .type "list", data := .seq zs k2 } : Obj)) ∈ news ∧
    (∀ b ∈ [z, TI, TO, i1, i2], b ≠ L ∧ h₀.get? b = none) ∧ (∀ p ∈ news, p.1 ∉ [z, TO, i1, i2]) ∧ min xs.size zs.size = n ∧ n ≤ sizeLine ∧
    ∀ s₂ : Shared, (∃ h, s₂ = { s₁ with heap := h }) → ZRest prog w A h₀ L m env elt x x₂ scope cl s₂ xs zs news (fun ys => FinE h₀ L m s₂ Q ys news) n 0 []
theorem zip_src {elt : Expr} {x x₂ : Str} {scope : Scope} {cl : List (Str × Addr)} {Q : Value → Shared → Prop} {l1 l2 : Addr} {xs zs : Array Value} {k1 k2 n : Nat} {news : List (Addr × Obj)} (hh : A.handled = none)
    (F : Fr h₀ L s.heap m) (N : News h₀ L s.heap news) (hm1 : (l1, ({ cls := .type "list", data := .seq xs k1 } : Obj)) ∈ news) (hm2 : (l2, ({ cls := .type "list", data := .seq zs k2 } : Obj)) ∈ news) (hn : min xs.size zs.size = n) (hsz : n ≤ sizeLine)
    (R : ∀ g, ZRest prog w A h₀ L m env elt x x₂ scope cl { s with heap := g } xs zs news (fun ys => FinE h₀ L m { s with heap := g } Q ys news) n 0 []) :
    wpAny (model prog w) A (call (.type "zip") [.ref l1, .ref l2]) (ZSrc prog w A h₀ L m env elt x x₂ scope cl Q) E s := by
  have hl1 : s.heap.IsList l1 xs := ⟨_, (N _ hm1).1, rfl, _, rfl⟩
  have hl2 : s.heap.IsList l2 zs := ⟨_, (N _ hm2).1, rfl, _, rfl⟩
  have a1 : l1 < s.heap.objs.size := Heap.lt_size (N _ hm1).1
  have a2 : l2 < s.heap.objs.size := Heap.lt_size (N _ hm2).1
  have fresh₀ : ∀ a, s.heap.objs.size ≤ a → a ≠ L ∧ h₀.get? a = none := fun a ha => ⟨Nat.ne_of_gt (Nat.lt_of_lt_of_le F.ns.lt ha), by
    cases e : h₀.get? a with
    | none => rfl
    | some o' => exact absurd (Heap.lt_size (F.keep a o' e)) (Nat.not_lt.mpr ha)⟩
  refine call_zip_2 hl1 hl2 fun h' hz hTI hTO hi1 hi2 _ hk => ?_
  refine ⟨_, _, _, _, _, l1, l2, xs, zs, k1, k2, news, n, rfl, hh, zipApart_new a1 a2, ⟨hz, hTI, ⟨_, _, hTO⟩, hi1, hi2, hl1.at fun o e => hk _ o e, hl2.at fun o e => hk _ o e⟩, F.keeps hk, N.grown hk, hm1, hm2, fun b hb => fresh₀ b ?_, fun p hp hm => ?_, hn, hsz, fun _ ⟨g, e⟩ => e ▸ R g⟩
  · simp only [List.mem_cons, List.not_mem_nil, or_false] at hb
    rcases hb with rfl | rfl | rfl | rfl | rfl <;> first | exact Nat.le_add_right _ _ | exact Nat.le_refl _
  · have := Heap.lt_size (N p hp).1
    simp only [List.mem_cons, List.not_mem_nil, or_false] at hm
    rcases hm with q | q | q | q <;> rw [q] at this <;> exact absurd this (Nat.not_lt.mpr (by first | exact Nat.le_add_right _ _ | exact Nat.le_refl _))
theorem off1_all {D : Addr} : ∀ {l : List (Addr × Obj)}, (∀ p ∈ l, p.1 ≠ D) → Off1 D l
  | [], _ => trivial
  | _ :: _, h => ⟨h _ List.mem_cons_self, off1_all fun p hp => h p (List.mem_cons_of_mem _ hp)⟩
theorem ListComp_Z {elt iter : Expr} {x x₂ : Str} {px px₂ tp : Pos} {kt : Nat} {scope : Scope} {cl : List (Str × Addr)} {pos : Pos} {Q : Value → Shared → Prop} (F₀ : Fr h₀ L s.heap m)
    (hclos : closureFor scope env = pure cl) (hcell : ∀ y ∈ scope.names, y.2 ≠ .cell) (hkind : scope.kind = .function)
    (hnames : ∀ y ∈ scope.names, y.2 = .local → scope.names.lookup y.1 = some .local) (hx : scope.names.lookup x = some .local) (hx₂ : scope.names.lookup x₂ = some .local) (hxx : x ≠ x₂)
    (h : wpAny (model prog w) A (eval iter env) (ZSrc prog w A h₀ L m env elt x x₂ scope cl Q) E s)
    (hs : ∀ x, foldedSetIterable iter env x = pure x := by intro _; rfl) :
    wpAny (model prog w) A (eval (.ListComp elt [⟨.Tuple [.Name x px, .Name x₂ px₂] kt tp, iter, [], 0⟩] scope pos) env) Q E s := by
  rw [eval_ListComp]
  refine wpAny_comprehension_free (use := none) rfl hs hclos hkind hnames (wpAny_mono h (fun xv s₁ h₁ => ?_) fun _ _ e => e)
  obtain ⟨z, TI, TO, i1, i2, l1, l2, xs, zs, k1, k2, news, n, rfl, hh, D, st, F, N, hm1, hm2, hL, off, hn, hsz, R⟩ := h₁
  refine wpAny_pyIter_zip st.1 ?_
  refine block_Z hh D (hn ▸ hsz) hcell hkind hx hx₂ hxx st F N hm1 hm2 hL off (hn ▸ R s₁ ⟨_, rfl⟩) ?_
  intro D C h tk m' ys F' N' o1 hn hC₀ hD₀ hCL hDL hCD offC fin
  refine ⟨m', hn, fun h'' hs'' => fin D h'' tk (F'.change hs'' hCL hC₀) (fun p hp => ?_) (off1_all o1)⟩
  refine ⟨hs''.extBut _ _ ?_ (N' p hp).1, (N' p hp).2⟩
  rcases List.mem_cons.mp hp with rfl | hp
  · exact Ne.symm hCD
  · exact offC p hp
end
end
end
section
open PySem PySem.W PyProof.Rows
set_option maxRecDepth 100000
set_option maxHeartbeats 8000000

section
variable {prog : Program} {w : World} {A : Around} {E : Value → Shared → Prop} {Q : Flow → Shared → Prop} {s : Shared} {h₀ : Heap} {env : Env} {x : Str} {body : List Stmt}
/-- a for over range(b), by what holds ahead of its i-th turn -/
theorem range_inv {r : Addr} {b₀ : Int} {t₀ u₀ v₀ : Tok} {n : Nat} {m₀ : Str → Option Value} {news : List (Addr × Obj)} (J : Nat → (Str → Option Value) → List (Addr × Obj) → Prop)
    (hh : A.handled = none) (hr : IsRange s.heap r 0 b₀ 1 t₀ u₀ v₀) (hsmall : Builtin.Range.small 0 b₀ 1 = true) (hn : Builtin.Range.rangeSize 0 b₀ 1 = (n : Int)) (F : Fr h₀ env.locals s.heap m₀) (N : News h₀ env.locals s.heap news) (hj : J 0 m₀ news)
    (turn : ∀ (i : Nat) t m₁ news₁ h tk own, i < n → news₁.map (·.1) = news.map (·.1) → OwnOff own (news.map (·.1)) → J i m₁ news₁ → Fr h₀ env.locals h (fun y => if y = x then some (.int i t) else m₁ y) → News h₀ env.locals h (news₁ ++ own) →
      wpAny (model prog w) A (execs body env) (InvPostN h₀ env.locals (J (i + 1)) own (news.map (·.1)) { s with heap := h, toks := tk } Q) E { s with heap := h, toks := tk })
    (done : ∀ m₁ news₁ h tk, J n m₁ news₁ → Fr h₀ env.locals h m₁ → News h₀ env.locals h news₁ → Q .next { s with heap := h, toks := tk }) :
    wpAny (model prog w) A (pyIter (.ref r)) (fun it s₂ => LoopAtV prog w A h₀ env x body Q E it s₂) E s := by
  refine wpAny_pyIter_range hr hsmall ?_
  have W : Walks prog w A s.heap.objs.size [s.heap.objs.size] [s.heap.objs.size] n (fun i v => i < n ∧ ∃ t, v = .int (0 + i * 1) t)
      (fun i h => IsRangeIter h s.heap.objs.size (0 + (i : Nat) * 1) ((n : Int) - (i : Nat)) 1) := (Walks.range hh _ 0 1 n).bound
  let J' : Nat → (Str → Option Value) → List (Addr × Obj) → Prop := fun i m₁ news₁ => news₁.map (·.1) = news.map (·.1) ∧ J i m₁ news₁
  refine ⟨_, _, _, n, _, _, m₀, news, J', rfl, W, ?_, ?_, ?_, (by show IsRangeIter _ _ _ _ _; rw [hn]; simpa using Heap.get?_push_size _ rfl), F.push _, (fun p hp => ⟨Heap.get?_push_of_some _ (N p hp).1, (N p hp).2⟩), ⟨rfl, hj⟩, ?_, ?_⟩
  · intro hm
    exact absurd F.ns.lt ((List.mem_singleton.mp hm) ▸ Nat.lt_irrefl _)
  · intro b hb
    rw [List.mem_singleton.mp hb]
    exact next_is_new F
  · intro p hp hI
    exact absurd (Heap.lt_size (N p hp).1) ((List.mem_singleton.mp hI) ▸ Nat.lt_irrefl _)
  · rintro i v m₁ news₁ s₁ own ⟨hh', tk', rfl⟩ hin hP ⟨hadr, hJ⟩ hoff hown _ _ _ F₁ N₁
    have hsep : OwnOff own (news.map (·.1)) := by
      intro p hp b hb e
      obtain ⟨q, hq, rfl⟩ := List.mem_map.mp hb
      have h1 := List.mem_singleton.mp (hown p hp)
      exact absurd (Heap.lt_size (N q hq).1) (by rw [← e, h1]; exact Nat.lt_irrefl _)
    obtain ⟨_, t, rfl⟩ := hP
    have ei : (0 + (i : Int) * 1) = (i : Int) := by omega
    rw [ei] at F₁
    have N₂ : News h₀ env.locals hh' (news₁ ++ own) := fun p hp => N₁ p ((List.mem_append.mp hp).elim (fun h => List.mem_append.mpr (.inr h)) fun h => List.mem_append.mpr (.inl h))
    refine wpAny_mono (turn i t m₁ news₁ hh' tk' own hin hadr hsep hJ F₁ N₂) (fun f s₂ p => ?_) fun _ _ e => e
    have fin : InvEndN h₀ env.locals (J (i + 1)) own (news.map (·.1)) { s with heap := hh', toks := tk' } s₂ → LoopStepU h₀ env.locals [s.heap.objs.size] own (J' (i + 1)) { s with heap := hh', toks := tk' } .next s₂ := by
      rintro ⟨h', tk, m', news', nx, e, F', N', hn, ho, ha, hm⟩
      refine ⟨rfl, h', tk, m', nx, e, F', fun p hp => N' p ((List.mem_append.mp hp).elim (ho p) (hn p)), fun p hp hq => ?_, ha, hm⟩
      have h1 : p.1 ∈ nx.map (·.1) := List.mem_map.mpr ⟨p, hp, rfl⟩
      rw [ha, ← hadr] at h1
      obtain ⟨q, hq1, hq2⟩ := List.mem_map.mp h1
      exact hoff q hq1 (by rw [hq2]; exact hq)
    cases f with
    | ret v => exact .ret p
    | brk => exact .brk p
    | next => exact .next (fin p)
    | cont => exact .cont (fin p)
  · rintro h' tk m' news' F' N' _ ⟨_, hJ⟩
    exact done m' news' h' tk hJ F' N'
theorem txt_loop {r : Addr} {b₀ : Int} {t₀ u₀ v₀ : Tok} {n : Nat} {m₀ : Str → Option Value} {news : List (Addr × Obj)} {y : Str} {tc : Tok} (f : Nat → Str) (hxy : y ≠ x)
    (hh : A.handled = none) (hr : IsRange s.heap r 0 b₀ 1 t₀ u₀ v₀) (hsmall : Builtin.Range.small 0 b₀ 1 = true) (hn : Builtin.Range.rangeSize 0 b₀ 1 = (n : Int)) (F : Fr h₀ env.locals s.heap m₀) (N : News h₀ env.locals s.heap news) (hy : m₀ y = some (.str (f 0) tc))
    (turn : ∀ (i : Nat) t ta h tk own, i < n → OwnOff own (news.map (·.1)) → Fr h₀ env.locals h (fun z => if z = x then some (.int i t) else if z = y then some (.str (f i) ta) else m₀ z) → News h₀ env.locals h (news ++ own) →
      wpAny (model prog w) A (execs body env) (InvPostN h₀ env.locals (fun m' nx => nx = news ∧ (∃ t', m' y = some (.str (f (i + 1)) t')) ∧ ∀ z, z ≠ x → z ≠ y → m' z = m₀ z) own (news.map (·.1)) { s with heap := h, toks := tk } Q) E { s with heap := h, toks := tk })
    (done : ∀ (u : Str → Option Value) t h tk, Fr h₀ env.locals h (fun z => if z = x then u z else if z = y then some (.str (f n) t) else m₀ z) → News h₀ env.locals h news → Q .next { s with heap := h, toks := tk }) :
    wpAny (model prog w) A (pyIter (.ref r)) (fun it s₂ => LoopAtV prog w A h₀ env x body Q E it s₂) E s := by
  refine range_inv (fun i m' nx => nx = news ∧ (∃ t', m' y = some (.str (f i) t')) ∧ ∀ z, z ≠ x → z ≠ y → m' z = m₀ z) hh hr hsmall hn F N ⟨rfl, ⟨tc, hy⟩, fun _ _ _ => rfl⟩ ?_ ?_
  · rintro i t m₁ _ h tk own hi _ hsep ⟨rfl, ⟨ta, ha⟩, hm⟩ F₁ N₁
    have e : (fun z => if z = x then some (Value.int i t) else m₁ z) = fun z => if z = x then some (Value.int i t) else if z = y then some (.str (f i) ta) else m₀ z := by
      funext z
      by_cases h1 : z = x
      · simp [h1]
      · by_cases h2 : z = y
        · subst h2; simp [h1, ha]
        · simp only [if_neg h1, if_neg h2]; exact hm z h1 h2
    rw [e] at F₁
    exact turn i t ta h tk own hi hsep F₁ N₁
  · rintro m₁ _ h tk ⟨rfl, ⟨ta, ha⟩, hm⟩ F₁ N₁
    refine done m₁ ta h tk ?_ N₁
    have e : (fun z => if z = x then m₁ z else if z = y then some (.str (f n) ta) else m₀ z) = m₁ := by
      funext z
      by_cases h1 : z = x
      · simp [h1]
      · by_cases h2 : z = y
        · subst h2; simp [h1, ha]
        · simp only [if_neg h1, if_neg h2]; exact (hm z h1 h2).symm
    rw [e]; exact F₁
end
end
section
open PySem PySem.W PyProof.Rows
set_option maxRecDepth 100000
set_option maxHeartbeats 8000000


theorem pat1_in {w : World} {h₀ h : Heap} {L : Addr} {m : Str → Option Value} (F : Fr h₀ L h m) (X : (hd.heap_39 w.params).In h₀) : PatAt h 92 91 cd1 :=
  ⟨_, _, _, _, _, F.keep _ _ (X 92 _ rfl), F.keep _ _ (X 91 _ rfl), rfl, by decide +kernel⟩
theorem pat2_in {w : World} {h₀ h : Heap} {L : Addr} {m : Str → Option Value} (F : Fr h₀ L h m) (X : (hd.heap_39 w.params).In h₀) : PatAt h 97 96 cd2 :=
  ⟨_, _, _, _, _, F.keep _ _ (X 97 _ rfl), F.keep _ _ (X 96 _ rfl), rfl, by decide +kernel⟩
theorem pat_method {M : Model} {A : Around} {s : Shared} {E : Value → Shared → Prop} {p c : Addr} {code : Array Nat} {pl : Sem Bool} {Q : Value × List Value → Shared → Prop} (hp : PatAt s.heap p c code) (h : Q (.builtin "re.Pattern.sub", [.ref p]) s) : wpAny M A (getMethod (.ref p) (Str.ofString "sub") pl) Q E s := by
  obtain ⟨a, b, o, k, items, h1, _⟩ := hp
  exact getMethod_builtin ⟨_, h1, rfl⟩ plainAttrs_pat slot_pat_sub type_pat_sub (fun a e => by cases e; exact ⟨_, h1, rfl⟩) h
theorem fr_up {h₀ h h' : Heap} {L : Addr} {m : Str → Option Value} (F : Fr h₀ L h m) (x : ∀ a o, h.get? a = some o → h'.get? a = some o) : Fr h₀ L h' m := fr_ext F x
theorem news_up {h₀ h h' : Heap} {L : Addr} {news : List (Addr × Obj)} (N : News h₀ L h news) (x : ∀ a o, h.get? a = some o → h'.get? a = some o) : News h₀ L h' news := news_ext N x
section
variable {w : World} {mean : ExcName → Option Value} {mg mb : Str → Option Value} {dp un : Nat} {gd : Option (List Code)} {cn : Str} {cs : Scope} {fa : Addr} {ccd : Value} {cl : List (Str × Addr)} {outer : List Env} {A A₀ : Around} {base h₀ : Heap} {L : Addr} {m : Str → Option Value} {s : Shared} {Q E : Value → Shared → Prop} {news : List (Addr × Obj)}

theorem sub1_k {a b d : Nat} {t u : Tok} (F : Fr h₀ L s.heap m) (N : News h₀ L s.heap news) (X : (hd.heap_39 w.params).In h₀) (ha : 0 < a) (hb : 0 < b) (hd' : 0 < d) (hl : a + b + d < 9000)
   (h : ∀ t' h' tk', Fr h₀ L h' m → News h₀ L h' news → Q (.str (mailS (a + 1) (b + 1) (d + 1)) t') { s with heap := h', toks := tk' }) :
   wpAny (model prg w) A (call (.builtin "re.Pattern.sub") [.ref 92, .str (Str.ofString "..") u, .str (mailS a b d) t]) Q E s :=
  quote1 (pat1_in F X) ha hb hd' hl (fun h' tk' t' k => h t' h' tk' (fr_up F k) (news_up N k))
theorem sub2_k {a b d : Nat} {t u : Tok} (F : Fr h₀ L s.heap m) (N : News h₀ L s.heap news) (X : (hd.heap_39 w.params).In h₀) (hl : a + b + d < 9000)
   (h : ∀ t' h' tk', Fr h₀ L h' m → News h₀ L h' news → Q (.str (mailS a b d) t') { s with heap := h', toks := tk' }) :
   wpAny (model prg w) A (call (.builtin "re.Pattern.sub") [.ref 97, .str crlf u, .str (mailS a b d) t]) Q E s :=
  quote2 (pat2_in F X) hl (fun h' tk' t' k => h t' h' tk' (fr_up F k) (news_up N k))
theorem quote_k {a b c : Nat} {t : Nat} (B : Below A₀ base outer h₀) (F : Fr h₀ L s.heap m) (X : (hd.heap_39 w.params).In h₀) (N : News h₀ L s.heap news) (T : Top topProg lo mean mg mb h₀) (hk : cs.kind = .function)
  (ha : 0 < a ∧ a < 400) (hb : 0 < b ∧ b < 400) (hc : 0 < c ∧ c < 400)
  (hdp : dp < 800) (hun : un < 8000)
  (hret : ∀ (t : Tok) (h' : Heap) (tk' : Nat), Fr h₀ L h' m → News h₀ L h' news → Q (.str (mailS (a+1) (b+1) (c+1)) t) { s with heap := h', toks := tk' }) :
  wpAny (model prg w) (ktrTop dp un gd cn cs L fa ccd cl outer) (call (.ref 104) [.str (mailS a b c) t]) Q E s := by
  refine wpAny_call ?_
  w_top off
  k_with_none
  k_with "getMethod ref" => (k_here; (with_reducible show wpAny _ _ (getMethod (Value.ref _) (Str.ofString "sub") _) _ _ _); k_dflt (first | refine pat_method (pat1_in (by k_asm) (by k_asm)) ?_ | refine pat_method (pat2_in (by k_asm) (by k_asm)) ?_))
  k_with "call builtin:re.Pattern.sub" => (k_here; (with_reducible show wpAny _ _ (call (Value.builtin "re.Pattern.sub") _) _ _ _); k_dflt (first | refine sub1_k (by k_asm) (by k_asm) (by k_asm) (by omega) (by omega) (by omega) (by omega) ?_ | refine sub2_k (by k_asm) (by k_asm) (by k_asm) (by omega) ?_); intro t9 h9 tk9 F9 N9; (try dsimp only); (try k_fold))
  cell_enter
  w_top off
  k_with_none
  k_with "getMethod ref" => (k_here; (with_reducible show wpAny _ _ (getMethod (Value.ref _) (Str.ofString "sub") _) _ _ _); k_dflt (first | refine pat_method (pat1_in (by k_asm) (by k_asm)) ?_ | refine pat_method (pat2_in (by k_asm) (by k_asm)) ?_))
  k_with "call builtin:re.Pattern.sub" => (k_here; (with_reducible show wpAny _ _ (call (Value.builtin "re.Pattern.sub") _) _ _ _); k_dflt (first | refine sub1_k (by k_asm) (by k_asm) (by k_asm) (by omega) (by omega) (by omega) (by omega) ?_ | refine sub2_k (by k_asm) (by k_asm) (by k_asm) (by omega) ?_); intro t9 h9 tk9 F9 N9; (try dsimp only); (try k_fold))
  k_steps
  all_goals exact hret _ _ _ (by k_asm) (by (first | k_asm | (refine' news_sub ?n1 ?n2; (case n1 => k_asm); (case n2 => kcj_all))))
end
end
section
open PySem PySem.W PyProof.Rows
set_option maxRecDepth 100000
set_option maxHeartbeats 8000000


section
variable {w : World} {mean : ExcName → Option Value} {mg mb : Str → Option Value} {dp un : Nat} {gd : Option (List Code)} {cn : Str} {cs : Scope} {fa : Addr} {ccd : Value} {cl : List (Str × Addr)} {outer : List Env} {A A₀ : Around} {base h₀ : Heap} {L : Addr} {m : Str → Option Value} {s : Shared} {Q E : Value → Shared → Prop} {news : List (Addr × Obj)}

/-- how often the first mail is sent -/
noncomputable def lessN (a b c : Nat) (r g b' : Int) : Nat := (max (max (r + 1 - a) (g + 1 - b)) (b' + 1 - c) - 0).toNat
/-- what _law_less gives back -/
noncomputable def lessS (a b c : Nat) (r g b' : Int) : Str :=
  let x : Int := ((a + lessN a b c r g b' - r.toNat : Nat) : Int)
  let y : Int := ((b + lessN a b c r g b' - g.toNat : Nat) : Int)
  let z : Int := ((c + lessN a b c r g b' - b'.toNat : Nat) : Int)
  mailS (x - min (min x y) z + 1).toNat (y - min (min x y) z + 1).toNat (z - min (min x y) z + 1).toNat
section
variable {a b c i n k : Nat} {r g b' : Int}
theorem lx_m (hr : 0 < r ∧ r < 100) (hg : 0 < g ∧ g < 100) (hb' : 0 < b' ∧ b' < 100) : max (max (r + 1 - a) (g + 1 - b)) (b' + 1 - c) < 101 :=
  Int.max_lt.mpr ⟨Int.max_lt.mpr ⟨by omega, by omega⟩, by omega⟩
theorem lx_hi (hr : 0 < r ∧ r < 100) (hg : 0 < g ∧ g < 100) (hb' : 0 < b' ∧ b' < 100) : max (max (r + 1 - a) (g + 1 - b)) (b' + 1 - c) < 2 ^ 62 :=
  Int.lt_trans (lx_m hr hg hb') (by decide)
theorem lx_lo (hc : 0 < c ∧ c < 100) (hb' : 0 < b' ∧ b' < 100) : -2 ^ 62 ≤ max (max (r + 1 - a) (g + 1 - b)) (b' + 1 - c) :=
  Int.le_trans (show -2 ^ 62 ≤ b' + 1 - c by omega) (Int.le_max_right _ _)
theorem lx_n (hr : 0 < r ∧ r < 100) (hg : 0 < g ∧ g < 100) (hb' : 0 < b' ∧ b' < 100) : (max (max (r + 1 - a) (g + 1 - b)) (b' + 1 - c) - 0).toNat < 101 := by
  have h := lx_m (a := a) (b := b) (c := c) hr hg hb'
  generalize max (max (r + 1 - a) (g + 1 - b)) (b' + 1 - c) = m at *
  omega
theorem lx_i (h : 0 < a ∧ a < 100) (hn : n < 101) (hi : i < n) : 0 < a + i ∧ a + i < 400 := by omega
theorem lx_a (h : 0 < a ∧ a < 100) (hn : n < 101) : a + n < 1000 := by omega
theorem lx_s (h : 0 < a ∧ a < 100) (hn : n < 101) : a + n - k < 1000 := Nat.lt_of_le_of_lt (Nat.sub_le _ _) (lx_a h hn)
theorem lx_x (h : 0 < a ∧ a < 100) (hn : n < 101) : -400 < ((a + n - k : Nat) : Int) ∧ ((a + n - k : Nat) : Int) < 400 := by omega
theorem lx_r {r m : Int} (h : r + 1 - a ≤ m) : r ≤ ((a + (m - 0).toNat : Nat) : Int) := by omega
theorem lx_r1 : r ≤ ((a + (max (max (r + 1 - a) (g + 1 - b)) (b' + 1 - c) - 0).toNat : Nat) : Int) := lx_r (Int.le_trans (Int.le_max_left _ _) (Int.le_max_left _ _))
theorem lx_r2 : g ≤ ((b + (max (max (r + 1 - a) (g + 1 - b)) (b' + 1 - c) - 0).toNat : Nat) : Int) := lx_r (Int.le_trans (Int.le_max_right _ _) (Int.le_max_left _ _))
theorem lx_r3 : b' ≤ ((c + (max (max (r + 1 - a) (g + 1 - b)) (b' + 1 - c) - 0).toNat : Nat) : Int) := lx_r (Int.le_max_right _ _)
end
theorem less_k {a b c : Nat} {l : Addr} {r g b' : Int} {tr tg tb n t : Nat} (B : Below A₀ base outer h₀) (F : Fr h₀ L s.heap m) (X : (hd.heap_39 w.params).In h₀) (N : News h₀ L s.heap news) (T : Top topProg lo mean mg mb h₀) (hk : cs.kind = .function)
  (hm : (l, W.listOf #[.int r tr, .int g tg, .int b' tb] n) ∈ news)
  (ha : 0 < a ∧ a < 100) (hb : 0 < b ∧ b < 100) (hc : 0 < c ∧ c < 100) (hr : 0 < r ∧ r < 100) (hg : 0 < g ∧ g < 100) (hb' : 0 < b' ∧ b' < 100)
  (hdp : dp < 790) (hun : un < 7900)
  (hret : ∀ (t : Tok) (h' : Heap) (tk' : Nat), Fr h₀ L h' m → News h₀ L h' news → Q (.str (lessS a b c r g b') t) { s with heap := h', toks := tk' }) :
  wpAny (model prg w) (ktrTop dp un gd cn cs L fa ccd cl outer) (call (.ref 138) [.str (mailS a b c) t, .ref l]) Q E s := by
  replace N := news_with N hm
  refine wpAny_call ?_
  w_top off
  k_with_none
  k_with "call ref" => (k_here; (with_reducible show wpAny _ _ (call (Value.ref 133) _) _ _ _); k_dflt (refine' parts_k ?q25k1 ?q25k2 ?q25k3 ?q25k4 ?q25k5 ?q25k6 ?q25k7 ?q25k8 ?q25k9 ?q25k10 ?q25k11 ?_; (case q25k1 => k_asm); (case q25k2 => k_asm); (case q25k3 => k_asm); (case q25k4 => k_asm); (case q25k5 => k_asm); (case q25k6 => first | exact rfl | assumption); (case q25k7 => first | walk_at "mine lx" | omega); (case q25k8 => first | walk_at "mine lx" | omega); (case q25k9 => first | walk_at "mine lx" | omega); (case q25k10 => (first | exact Nat.lt_of_lt_of_le (Nat.add_lt_add_right hdp _) (by decide) | exact Nat.lt_of_lt_of_le hdp (by decide) | omega | ((try simp only [depth_under_make, depth_under_kw, depth_in1, depth_deeper, depth_caller]); (try dsimp only [ktrTop]); omega))); (case q25k11 => (first | exact Nat.lt_of_lt_of_le (Nat.add_lt_add_right hun _) (by decide) | exact Nat.lt_of_lt_of_le hun (by decide) | omega | ((try simp only [units_in1, units_deeper, Around.mark_units, units_caller]); (try dsimp only [ktrTop]); omega)))); intro D9 t9 u9 v9 h9 tk9 F9 N9 o9; (have p9 := o9); (try simp only [LCg.Off1, and_true] at p9); (try dsimp only); (try k_fold))
  k_with "call ref" => (k_here; (with_reducible show wpAny _ _ (call (Value.ref 128) _) _ _ _); k_dflt (refine' mail_k ?q26k1 ?q26k2 ?q26k3 ?q26k4 ?q26k5 ?q26k6 ?q26k6b ?q26k7 ?q26k8 ?q26k9 ?q26k10 ?q26k11 ?_; (case q26k1 => k_asm); (case q26k2 => k_asm); (case q26k3 => k_asm); (case q26k4 => k_asm); (case q26k5 => k_asm); (case q26k6 => first | exact rfl | assumption); (case q26k6b => k_mem); (case q26k7 => first | walk_at "mine lx" | omega); (case q26k8 => first | walk_at "mine lx" | omega); (case q26k9 => first | walk_at "mine lx" | omega); (case q26k10 => (first | exact Nat.lt_of_lt_of_le (Nat.add_lt_add_right hdp _) (by decide) | exact Nat.lt_of_lt_of_le hdp (by decide) | omega | ((try simp only [depth_under_make, depth_under_kw, depth_in1, depth_deeper, depth_caller]); (try dsimp only [ktrTop]); omega))); (case q26k11 => (first | exact Nat.lt_of_lt_of_le (Nat.add_lt_add_right hun _) (by decide) | exact Nat.lt_of_lt_of_le hun (by decide) | omega | ((try simp only [units_in1, units_deeper, Around.mark_units, units_caller]); (try dsimp only [ktrTop]); omega)))); intro t9 h9 tk9 F9 N9; (try dsimp only); (try k_fold))
  k_with "call ref" => (k_here; (with_reducible show wpAny _ _ (call (Value.ref 104) _) _ _ _); k_dflt (refine' quote_k ?q27k1 ?q27k2 ?q27k3 ?q27k4 ?q27k5 ?q27k6 ?q27k7 ?q27k8 ?q27k9 ?q27k10 ?q27k11 ?_; (case q27k1 => k_asm); (case q27k2 => k_asm); (case q27k3 => k_asm); (case q27k4 => k_asm); (case q27k5 => k_asm); (case q27k6 => first | exact rfl | assumption); (case q27k7 => first | walk_at "mine lx" | omega); (case q27k8 => first | walk_at "mine lx" | omega); (case q27k9 => first | walk_at "mine lx" | omega); (case q27k10 => (first | exact Nat.lt_of_lt_of_le (Nat.add_lt_add_right hdp _) (by decide) | exact Nat.lt_of_lt_of_le hdp (by decide) | omega | ((try simp only [depth_under_make, depth_under_kw, depth_in1, depth_deeper, depth_caller]); (try dsimp only [ktrTop]); omega))); (case q27k11 => (first | exact Nat.lt_of_lt_of_le (Nat.add_lt_add_right hun _) (by decide) | exact Nat.lt_of_lt_of_le hun (by decide) | omega | ((try simp only [units_in1, units_deeper, Around.mark_units, units_caller]); (try dsimp only [ktrTop]); omega)))); intro t9 h9 tk9 F9 N9; (try dsimp only); (try k_fold))
  k_with "call builtin:str.split" => (k_here; (with_reducible show wpAny _ _ (call (Value.builtin "str.split") _) _ _ _); k_dflt (refine split_k (by k_asm) (by k_asm) (by first | walk_at "mine lx" | omega) (by first | walk_at "mine lx" | omega) (by first | walk_at "mine lx" | omega) ?_); intro D9 t9 u9 v9 h9 k9 F9 N9 l9; (try simp only [AllLt, and_true] at l9); (try dsimp only); (try k_fold))
  k_with "subscriptTail" => (k_here; (with_reducible show wpAny _ _ (subscriptTail _ (Expr.Slice (some _) none none _) (Value.str _ _) (Value.ref _)) _ _ _); k_dflt (refine slice_k (s := ⟨_, _, _, _, _⟩) (by k_asm) (by k_asm) (by first | walk_at "mine lx" | omega) (by first | walk_at "mine lx" | omega) (by first | walk_at "mine lx" | omega) ?_); intro h9 t9 k9 F9 N9; (try dsimp only))
  k_with "call builtin:len" => (k_here; (with_reducible show wpAny _ _ (call (Value.builtin "len") [Value.str _ _]) _ _ _); k_dflt (refine len_k (by first | walk_at "mine lx" | omega) (fun t9 k9 => ?_)); (try dsimp only))
  k_with "eval ListComp" => (k_here; (with_reducible show wpAny _ _ (eval (Expr.ListComp _ _ _ _) _) _ _ _); k_dflt (refine LCg.ListComp_U (F₀ := by k_asm) (by with_unfolding_all rfl) (by decide) (by rfl) (by decide) (by rfl) ?_))
  k_with "CompSrc" => (k_here; k_dflt (refine LCg.CompSrc.ledger (by rfl) (by k_asm) (by k_asm) (by k_mem) (by exact Nat.le_of_ble_eq_true rfl) ?_; intro g'; lcg_lit))
  k_with "eval ListComp" => (k_here; (with_reducible show wpAny _ _ (eval (Expr.ListComp _ [⟨Expr.Tuple _ _ _, _, _, _⟩] _ _) _) _ _ _); k_dflt (refine ListComp_Z (F₀ := by k_asm) (by with_unfolding_all rfl) (by decide) (by rfl) (by decide) (by rfl) (by rfl) (by decide) ?_))
  k_with "call type:zip" => (k_here; (with_reducible show wpAny _ _ (call (Value.type "zip") [Value.ref _, Value.ref _]) _ _ _); k_dflt (refine zip_src (n := 3) (by rfl) (by k_asm) (by k_asm) (by k_mem) (by k_mem) (by rfl) (by exact Nat.le_of_ble_eq_true rfl) ?_; intro g'))
  k_with "ZRest" => (with_unfolding_all first | (refine ZRest.succ ?_; intro v' y' z' oz' T' oT' U' oU' a' oa' b' ob' C' oC' D' m' h' tk' E' hv' hy' hC' hx' hxy' F' N'; lcg_open hv'; lcg_open hy') | refine ZRest.zero ?_)
  k_with "ZEnd" => (k_dflt (refine ZEnd.intro (by k_asm) (by k_asm) ?_))
  k_with "CompRest" => (with_unfolding_all first | (refine LCg.CompRest.succ ?_; intro v' I' oI' C' oC' D' m' h' tk' E' hv' hC' hx' F' N' off' ne'; (first | lcg_open hv' | (obtain ⟨t9', hv9'⟩ := hv'; subst hv9'))) | refine LCg.CompRest.zero ?_)
  k_with "CompEnd" => (k_dflt (first | refine cend0 (by k_asm) (by k_asm) (by assumption) (by lcg_src) ?_ | refine cend1 (by k_asm) (by k_asm) (by assumption) (by assumption) (by lcg_src) ?_))
  k_with "call builtin:max" => (k_here; (with_reducible show wpAny _ _ (call (Value.builtin "max") [Value.ref _]) _ _ _); k_dflt (refine' maxL_k ?q39k1 ?q39k2 ?q39k2b ?q39k3 ?q39k4 ?q39k5 ?_; (case q39k1 => k_asm); (case q39k2 => k_asm); (case q39k2b => k_mem); (case q39k3 => (first | rfl | assumption)); (case q39k4 => (first | exact Nat.lt_of_lt_of_le (Nat.add_lt_add_right hdp _) (by decide) | exact Nat.lt_of_lt_of_le hdp (by decide) | omega | ((try simp only [depth_under_make, depth_under_kw, depth_in1, depth_deeper, depth_caller]); (try dsimp only [ktrTop]); omega))); (case q39k5 => (first | exact Nat.lt_of_lt_of_le (Nat.add_lt_add_right hun _) (by decide) | exact Nat.lt_of_lt_of_le hun (by decide) | omega | ((try simp only [units_in1, units_deeper, Around.mark_units, units_caller]); (try dsimp only [ktrTop]); omega)))); intro t9 h9 tk9 F9 N9; (try dsimp only); (try k_fold))
  k_with "mine lx" => with_reducible first | exact lx_r1 | exact lx_r2 | exact lx_r3 | exact Int.le_of_lt hr.1 | exact Int.le_of_lt hg.1 | exact Int.le_of_lt hb'.1 | exact lx_hi hr hg hb' | exact lx_lo hc hb' | exact lx_a ha (lx_n hr hg hb') | exact lx_a hb (lx_n hr hg hb') | exact lx_a hc (lx_n hr hg hb') | exact lx_s ha (lx_n hr hg hb') | exact lx_s hb (lx_n hr hg hb') | exact lx_s hc (lx_n hr hg hb') | exact lx_x ha (lx_n hr hg hb') | exact lx_x hb (lx_n hr hg hb') | exact lx_x hc (lx_n hr hg hb') | exact lx_i ha (lx_n hr hg hb') hi9 | exact lx_i hb (lx_n hr hg hb') hi9 | exact lx_i hc (lx_n hr hg hb') hi9 | exact Nat.lt_trans ha.2 (by decide) | exact Nat.lt_trans hb.2 (by decide) | exact Nat.lt_trans hc.2 (by decide)
  k_with "pyIter ref" => (k_here; (with_reducible show wpAny _ _ (pyIter (Value.ref _)) (fun it s₂ => LoopAtV _ _ _ _ _ _ _ _ _ it s₂) _ _); k_dflt (refine txt_loop (y := Str.ofString "mail") (fun i => mailS (a + i) (b + i) (c + i)) (by decide) (by rfl) (by assumption) (small_one (by omega) (by omega) (by first | walk_at "mine lx" | omega) (by first | walk_at "mine lx" | omega)) (rangeSize_nat _ _) (by k_asm) (by k_asm) rfl (fun i9 t9 u9 h9 tk9 own9 hi9 ho9 F9 N9 => ?_) (fun u9 t9 h9 tk9 F9 N9 => ?_)); (all_goals (try dsimp only)); (all_goals (try k_fold)))
  k_with "InvPostN" => (k_dflt (exact InvEndN.intro (by k_asm) (by k_asm) ⟨rfl, ⟨_, rfl⟩, fun z h1 h2 => by simp [h1, h2]⟩ rfl (fun p hp => List.mem_append_left _ hp) (fun p hp => List.mem_append_right _ hp)))
  cell_enter
  w_top off
  k_with_none
  k_with "call ref" => (k_here; (with_reducible show wpAny _ _ (call (Value.ref 133) _) _ _ _); k_dflt (refine' parts_k ?q25k1 ?q25k2 ?q25k3 ?q25k4 ?q25k5 ?q25k6 ?q25k7 ?q25k8 ?q25k9 ?q25k10 ?q25k11 ?_; (case q25k1 => k_asm); (case q25k2 => k_asm); (case q25k3 => k_asm); (case q25k4 => k_asm); (case q25k5 => k_asm); (case q25k6 => first | exact rfl | assumption); (case q25k7 => first | walk_at "mine lx" | omega); (case q25k8 => first | walk_at "mine lx" | omega); (case q25k9 => first | walk_at "mine lx" | omega); (case q25k10 => (first | exact Nat.lt_of_lt_of_le (Nat.add_lt_add_right hdp _) (by decide) | exact Nat.lt_of_lt_of_le hdp (by decide) | omega | ((try simp only [depth_under_make, depth_under_kw, depth_in1, depth_deeper, depth_caller]); (try dsimp only [ktrTop]); omega))); (case q25k11 => (first | exact Nat.lt_of_lt_of_le (Nat.add_lt_add_right hun _) (by decide) | exact Nat.lt_of_lt_of_le hun (by decide) | omega | ((try simp only [units_in1, units_deeper, Around.mark_units, units_caller]); (try dsimp only [ktrTop]); omega)))); intro D9 t9 u9 v9 h9 tk9 F9 N9 o9; (have p9 := o9); (try simp only [LCg.Off1, and_true] at p9); (try dsimp only); (try k_fold))
  k_with "call ref" => (k_here; (with_reducible show wpAny _ _ (call (Value.ref 128) _) _ _ _); k_dflt (refine' mail_k ?q26k1 ?q26k2 ?q26k3 ?q26k4 ?q26k5 ?q26k6 ?q26k6b ?q26k7 ?q26k8 ?q26k9 ?q26k10 ?q26k11 ?_; (case q26k1 => k_asm); (case q26k2 => k_asm); (case q26k3 => k_asm); (case q26k4 => k_asm); (case q26k5 => k_asm); (case q26k6 => first | exact rfl | assumption); (case q26k6b => k_mem); (case q26k7 => first | walk_at "mine lx" | omega); (case q26k8 => first | walk_at "mine lx" | omega); (case q26k9 => first | walk_at "mine lx" | omega); (case q26k10 => (first | exact Nat.lt_of_lt_of_le (Nat.add_lt_add_right hdp _) (by decide) | exact Nat.lt_of_lt_of_le hdp (by decide) | omega | ((try simp only [depth_under_make, depth_under_kw, depth_in1, depth_deeper, depth_caller]); (try dsimp only [ktrTop]); omega))); (case q26k11 => (first | exact Nat.lt_of_lt_of_le (Nat.add_lt_add_right hun _) (by decide) | exact Nat.lt_of_lt_of_le hun (by decide) | omega | ((try simp only [units_in1, units_deeper, Around.mark_units, units_caller]); (try dsimp only [ktrTop]); omega)))); intro t9 h9 tk9 F9 N9; (try dsimp only); (try k_fold))
  k_with "call ref" => (k_here; (with_reducible show wpAny _ _ (call (Value.ref 104) _) _ _ _); k_dflt (refine' quote_k ?q27k1 ?q27k2 ?q27k3 ?q27k4 ?q27k5 ?q27k6 ?q27k7 ?q27k8 ?q27k9 ?q27k10 ?q27k11 ?_; (case q27k1 => k_asm); (case q27k2 => k_asm); (case q27k3 => k_asm); (case q27k4 => k_asm); (case q27k5 => k_asm); (case q27k6 => first | exact rfl | assumption); (case q27k7 => first | walk_at "mine lx" | omega); (case q27k8 => first | walk_at "mine lx" | omega); (case q27k9 => first | walk_at "mine lx" | omega); (case q27k10 => (first | exact Nat.lt_of_lt_of_le (Nat.add_lt_add_right hdp _) (by decide) | exact Nat.lt_of_lt_of_le hdp (by decide) | omega | ((try simp only [depth_under_make, depth_under_kw, depth_in1, depth_deeper, depth_caller]); (try dsimp only [ktrTop]); omega))); (case q27k11 => (first | exact Nat.lt_of_lt_of_le (Nat.add_lt_add_right hun _) (by decide) | exact Nat.lt_of_lt_of_le hun (by decide) | omega | ((try simp only [units_in1, units_deeper, Around.mark_units, units_caller]); (try dsimp only [ktrTop]); omega)))); intro t9 h9 tk9 F9 N9; (try dsimp only); (try k_fold))
  k_with "call builtin:str.split" => (k_here; (with_reducible show wpAny _ _ (call (Value.builtin "str.split") _) _ _ _); k_dflt (refine split_k (by k_asm) (by k_asm) (by first | walk_at "mine lx" | omega) (by first | walk_at "mine lx" | omega) (by first | walk_at "mine lx" | omega) ?_); intro D9 t9 u9 v9 h9 k9 F9 N9 l9; (try simp only [AllLt, and_true] at l9); (try dsimp only); (try k_fold))
  k_with "subscriptTail" => (k_here; (with_reducible show wpAny _ _ (subscriptTail _ (Expr.Slice (some _) none none _) (Value.str _ _) (Value.ref _)) _ _ _); k_dflt (refine slice_k (s := ⟨_, _, _, _, _⟩) (by k_asm) (by k_asm) (by first | walk_at "mine lx" | omega) (by first | walk_at "mine lx" | omega) (by first | walk_at "mine lx" | omega) ?_); intro h9 t9 k9 F9 N9; (try dsimp only))
  k_with "call builtin:len" => (k_here; (with_reducible show wpAny _ _ (call (Value.builtin "len") [Value.str _ _]) _ _ _); k_dflt (refine len_k (by first | walk_at "mine lx" | omega) (fun t9 k9 => ?_)); (try dsimp only))
  k_with "eval ListComp" => (k_here; (with_reducible show wpAny _ _ (eval (Expr.ListComp _ _ _ _) _) _ _ _); k_dflt (refine LCg.ListComp_U (F₀ := by k_asm) (by with_unfolding_all rfl) (by decide) (by rfl) (by decide) (by rfl) ?_))
  k_with "CompSrc" => (k_here; k_dflt (refine LCg.CompSrc.ledger (by rfl) (by k_asm) (by k_asm) (by k_mem) (by exact Nat.le_of_ble_eq_true rfl) ?_; intro g'; lcg_lit))
  k_with "eval ListComp" => (k_here; (with_reducible show wpAny _ _ (eval (Expr.ListComp _ [⟨Expr.Tuple _ _ _, _, _, _⟩] _ _) _) _ _ _); k_dflt (refine ListComp_Z (F₀ := by k_asm) (by with_unfolding_all rfl) (by decide) (by rfl) (by decide) (by rfl) (by rfl) (by decide) ?_))
  k_with "call type:zip" => (k_here; (with_reducible show wpAny _ _ (call (Value.type "zip") [Value.ref _, Value.ref _]) _ _ _); k_dflt (refine zip_src (n := 3) (by rfl) (by k_asm) (by k_asm) (by k_mem) (by k_mem) (by rfl) (by exact Nat.le_of_ble_eq_true rfl) ?_; intro g'))
  k_with "ZRest" => (with_unfolding_all first | (refine ZRest.succ ?_; intro v' y' z' oz' T' oT' U' oU' a' oa' b' ob' C' oC' D' m' h' tk' E' hv' hy' hC' hx' hxy' F' N'; lcg_open hv'; lcg_open hy') | refine ZRest.zero ?_)
  k_with "ZEnd" => (k_dflt (refine ZEnd.intro (by k_asm) (by k_asm) ?_))
  k_with "CompRest" => (with_unfolding_all first | (refine LCg.CompRest.succ ?_; intro v' I' oI' C' oC' D' m' h' tk' E' hv' hC' hx' F' N' off' ne'; (first | lcg_open hv' | (obtain ⟨t9', hv9'⟩ := hv'; subst hv9'))) | refine LCg.CompRest.zero ?_)
  k_with "CompEnd" => (k_dflt (first | refine cend0 (by k_asm) (by k_asm) (by assumption) (by lcg_src) ?_ | refine cend1 (by k_asm) (by k_asm) (by assumption) (by assumption) (by lcg_src) ?_))
  k_with "call builtin:max" => (k_here; (with_reducible show wpAny _ _ (call (Value.builtin "max") [Value.ref _]) _ _ _); k_dflt (refine' maxL_k ?q39k1 ?q39k2 ?q39k2b ?q39k3 ?q39k4 ?q39k5 ?_; (case q39k1 => k_asm); (case q39k2 => k_asm); (case q39k2b => k_mem); (case q39k3 => (first | rfl | assumption)); (case q39k4 => (first | exact Nat.lt_of_lt_of_le (Nat.add_lt_add_right hdp _) (by decide) | exact Nat.lt_of_lt_of_le hdp (by decide) | omega | ((try simp only [depth_under_make, depth_under_kw, depth_in1, depth_deeper, depth_caller]); (try dsimp only [ktrTop]); omega))); (case q39k5 => (first | exact Nat.lt_of_lt_of_le (Nat.add_lt_add_right hun _) (by decide) | exact Nat.lt_of_lt_of_le hun (by decide) | omega | ((try simp only [units_in1, units_deeper, Around.mark_units, units_caller]); (try dsimp only [ktrTop]); omega)))); intro t9 h9 tk9 F9 N9; (try dsimp only); (try k_fold))
  k_with "mine lx" => with_reducible first | exact lx_r1 | exact lx_r2 | exact lx_r3 | exact Int.le_of_lt hr.1 | exact Int.le_of_lt hg.1 | exact Int.le_of_lt hb'.1 | exact lx_hi hr hg hb' | exact lx_lo hc hb' | exact lx_a ha (lx_n hr hg hb') | exact lx_a hb (lx_n hr hg hb') | exact lx_a hc (lx_n hr hg hb') | exact lx_s ha (lx_n hr hg hb') | exact lx_s hb (lx_n hr hg hb') | exact lx_s hc (lx_n hr hg hb') | exact lx_x ha (lx_n hr hg hb') | exact lx_x hb (lx_n hr hg hb') | exact lx_x hc (lx_n hr hg hb') | exact lx_i ha (lx_n hr hg hb') hi9 | exact lx_i hb (lx_n hr hg hb') hi9 | exact lx_i hc (lx_n hr hg hb') hi9 | exact Nat.lt_trans ha.2 (by decide) | exact Nat.lt_trans hb.2 (by decide) | exact Nat.lt_trans hc.2 (by decide)
  k_with "pyIter ref" => (k_here; (with_reducible show wpAny _ _ (pyIter (Value.ref _)) (fun it s₂ => LoopAtV _ _ _ _ _ _ _ _ _ it s₂) _ _); k_dflt (refine txt_loop (y := Str.ofString "mail") (fun i => mailS (a + i) (b + i) (c + i)) (by decide) (by rfl) (by assumption) (small_one (by omega) (by omega) (by first | walk_at "mine lx" | omega) (by first | walk_at "mine lx" | omega)) (rangeSize_nat _ _) (by k_asm) (by k_asm) rfl (fun i9 t9 u9 h9 tk9 own9 hi9 ho9 F9 N9 => ?_) (fun u9 t9 h9 tk9 F9 N9 => ?_)); (all_goals (try dsimp only)); (all_goals (try k_fold)))
  k_with "InvPostN" => (k_dflt (exact InvEndN.intro (by k_asm) (by k_asm) ⟨rfl, ⟨_, rfl⟩, fun z h1 h2 => by simp [h1, h2]⟩ rfl (fun p hp => List.mem_append_left _ hp) (fun p hp => List.mem_append_right _ hp)))
  k_steps
  exact hret _ _ _ (by k_asm) (by (first | k_asm | (refine' news_sub ?n1 ?n2; (case n1 => k_asm); (case n2 => kcj_all))))
end
end
section
open PySem PySem.W PyProof.Rows
set_option maxRecDepth 100000
set_option maxHeartbeats 8000000


section
variable {w : World} {mean : ExcName → Option Value} {mg mb : Str → Option Value} {dp un : Nat} {gd : Option (List Code)} {cn : Str} {cs : Scope} {fa : Addr} {ccd : Value} {cl : List (Str × Addr)} {outer : List Env} {A A₀ : Around} {base h₀ : Heap} {L : Addr} {m : Str → Option Value} {s : Shared} {Q E : Value → Shared → Prop} {news : List (Addr × Obj)}

noncomputable abbrev L3 (x y z : Int) (tx ty tz n : Nat) : Obj := W.listOf #[.int x tx, .int y ty, .int z tz] n
theorem size_use {l : Addr} {r g b : Int} {tr tg tb n : Nat}
  (B : Below A₀ base outer h₀) (F : Fr h₀ L s.heap m) (X : (hd.heap_39 w.params).In h₀) (N : News h₀ L s.heap news) (T : Top topProg lo mean mg mb h₀) (hk : cs.kind = .function)
  (hm : (l, L3 r g b tr tg tb n) ∈ news)
  (hr : -1000 < r ∧ r < 1000) (hg : -1000 < g ∧ g < 1000) (hb : -1000 < b ∧ b < 1000)
  (hdp : dp + 1 < recursionLimit) (hun : un + 8 < cLine)
  (hret : ∀ (t : Tok) (h' : Heap) (tk' : Nat), Fr h₀ L h' m → News h₀ L h' news → Q (.int (r*r+g*g+b*b-r*g-g*b-b*r) t) { s with heap := h', toks := tk' }) :
  wpAny (model prg w) (ktrTop dp un gd cn cs L fa ccd cl outer) (call (.ref 123) [.ref l]) Q E s :=
  size_k hr hg hb B F X (news_with N hm) T hk hdp hun (fun t h' tk' F' N' => hret t h' tk' F' (news_sub N' (fun p hp => .tail _ hp)))
noncomputable def szI (r g b : Int) : Int := r*r+g*g+b*b-r*g-g*b-b*r
noncomputable def dvI (o0 o1 o2 p0 p1 p2 : Int) : Bool := 
  let a := o0 - o2; let b := o1 - o2; let x := p0 - p2; let y := p1 - p2
  (Int.fmod (x * (a - b) + y * b) (szI o0 o1 o2) == 0) && (Int.fmod (y * a - x * b) (szI o0 o1 o2) == 0)
theorem dv_end1 {X Y : Int} (h : X = 0) : (Y == 0) = ((X == 0) && (Y == 0)) := by rw [h]; rfl
theorem dv_end2 {X Y : Int} (h : X ≠ 0) : (X == 0) = ((X == 0) && (Y == 0)) := by
  have : (X == 0) = false := by simpa using h
  rw [this]; rfl
theorem div_k {l k : Addr} {o0 o1 o2 p0 p1 p2 : Int} {t0 t1 t2 u0 u1 u2 n n' : Nat}
  (hr : 0 ≤ o0 ∧ o0 < 100) (hg : 0 ≤ o1 ∧ o1 < 100) (hb : 0 ≤ o2 ∧ o2 < 100)
  (hr' : -100 < p0 ∧ p0 < 100) (hg' : -100 < p1 ∧ p1 < 100) (hb' : -100 < p2 ∧ p2 < 100)
  (hz : o0*o0+o1*o1+o2*o2-o0*o1-o1*o2-o2*o0 ≠ 0)
  (B : Below A₀ base outer h₀) (F : Fr h₀ L s.heap m) (X : (hd.heap_39 w.params).In h₀) (N : News h₀ L s.heap ((l, L3 o0 o1 o2 t0 t1 t2 n) :: (k, L3 p0 p1 p2 u0 u1 u2 n') :: news)) (T : Top topProg lo mean mg mb h₀) (hk : cs.kind = .function)
  (hdp : dp + 2 < recursionLimit) (hun : un + 11 < cLine)
  (hret : ∀ (t : Tok) (h' : Heap) (tk' : Nat), Fr h₀ L h' m → News h₀ L h' ((l, L3 o0 o1 o2 t0 t1 t2 n) :: (k, L3 p0 p1 p2 u0 u1 u2 n') :: news) → Q (.bool (dvI o0 o1 o2 p0 p1 p2)) { s with heap := h', toks := tk' }) :
  wpAny (model prg w) (ktrTop dp un gd cn cs L fa ccd cl outer) (call (.ref 152) [.ref l, .ref k]) Q E s := by
  refine wpAny_call ?_
  w_top off
  k_with_none
  k_with "call ref" => (k_here; (with_reducible show wpAny _ _ (call (Value.ref 123) _) _ _ _); (refine' size_use ?q43k1 ?q43k2 ?q43k3 ?q43k4 ?q43k5 ?q43k6 ?q43k7 ?q43k8 ?q43k9 ?q43k10 ?q43k11 ?q43k12 ?_; (case q43k1 => k_asm); (case q43k2 => k_asm); (case q43k3 => k_asm); (case q43k4 => k_asm); (case q43k5 => k_asm); (case q43k6 => first | exact rfl | assumption); (case q43k7 => k_mem); (case q43k8 => omega); (case q43k9 => omega); (case q43k10 => omega); (case q43k11 => ktr_room); (case q43k12 => ktr_units)); intro t9 h9 tk9 F9 N9; (try dsimp only); (try k_fold))
  cell_enter
  w_top off
  k_with_none
  k_with "call ref" => (k_here; (with_reducible show wpAny _ _ (call (Value.ref 123) _) _ _ _); (refine' size_use ?q43k1 ?q43k2 ?q43k3 ?q43k4 ?q43k5 ?q43k6 ?q43k7 ?q43k8 ?q43k9 ?q43k10 ?q43k11 ?q43k12 ?_; (case q43k1 => k_asm); (case q43k2 => k_asm); (case q43k3 => k_asm); (case q43k4 => k_asm); (case q43k5 => k_asm); (case q43k6 => first | exact rfl | assumption); (case q43k7 => k_mem); (case q43k8 => omega); (case q43k9 => omega); (case q43k10 => omega); (case q43k11 => ktr_room); (case q43k12 => ktr_units)); intro t9 h9 tk9 F9 N9; (try dsimp only); (try k_fold))
  k_steps
  all_goals (refine' cb_retB (Q := Q) hret ?e1 ?e2 ?e3; (case e2 => k_asm); (case e3 => first | k_asm | (refine' news_sub ?n1 ?n2; (case n1 => k_asm); (case n2 => kcj_all))); (case e1 => first | exact dv_end1 (by assumption) | exact dv_end2 (by assumption)))
end
end
local macro_rules | `(tactic| k_room) => `(tactic| ktr_room)
local macro_rules | `(tactic| k_units) => `(tactic| ktr_units)
section
open PySem PySem.W PyProof.Rows
set_option maxRecDepth 100000
set_option maxHeartbeats 8000000


/-- one-letter texts -/
inductive Chars : List Value → List Nat → Prop
  | nil : Chars [] []
  | cons (c : Nat) (t : Tok) {vs cs} : Chars vs cs → Chars (.str ⟨#[c]⟩ t :: vs) (c :: cs)
theorem chars_of {x : List Nat} : ∀ {acc : List Value}, acc.length = x.length → (∀ (j : Nat) (v : Value), acc[j]? = some v → ∃ c u, x[j]? = some c ∧ v = .str ⟨#[c]⟩ u) → Chars acc x := by
  induction x with
  | nil => intro acc h _; cases acc with | nil => exact .nil | cons => cases h
  | cons c x ih =>
    intro acc h k
    cases acc with
    | nil => cases h
    | cons v acc =>
      obtain ⟨c', u, e, rfl⟩ := k 0 v rfl
      simp only [List.getElem?_cons_zero, Option.some.injEq] at e
      subst e
      exact .cons _ u (ih (by simpa using h) fun j v hv => k (j + 1) v (by simpa using hv))
theorem ne_allLt {d : Addr} : ∀ {l : List (Addr × Obj)}, AllLt d l → ∀ p ∈ l, p.1 ≠ d
  | [], _, _, h => nomatch h
  | _ :: _, h, p, hp => by
    rcases List.mem_cons.mp hp with rfl | hp
    · exact Nat.ne_of_lt h.1
    · exact ne_allLt h.2 p hp
theorem ne_allLt1 {k : Nat} {d : Addr} : ∀ {l : List (Addr × Obj)}, AllLt d l → ∀ p ∈ l, p.1 ≠ d + k
  | [], _, _, h => nomatch h
  | _ :: _, h, p, hp => by
    rcases List.mem_cons.mp hp with rfl | hp
    · exact Nat.ne_of_lt (Nat.lt_of_lt_of_le h.1 (Nat.le_add_right _ _))
    · exact ne_allLt1 h.2 p hp
theorem lt_allLt {k : Nat} {d : Addr} : ∀ {l : List (Addr × Obj)}, AllLt d l → ∀ p ∈ l, p.1 < d + k
  | [], _, _, h => nomatch h
  | _ :: _, h, p, hp => by
    rcases List.mem_cons.mp hp with rfl | hp
    · exact Nat.lt_of_lt_of_le h.1 (Nat.le_add_right _ _)
    · exact lt_allLt h.2 p hp
theorem ne_below {k : Nat} {L : Addr} {l : List (Addr × Obj)} (h : ∀ p ∈ l, p.1 < L) : ∀ p ∈ l, p.1 ≠ L + k := fun p hp => Nat.ne_of_lt (Nat.lt_of_lt_of_le (h p hp) (Nat.le_add_right _ _))
section
variable {w : World} {mean : ExcName → Option Value} {mg mb : Str → Option Value} {dp un : Nat} {gd : Option (List Code)} {cn : Str} {cs : Scope} {fa : Addr} {ccd : Value} {cl : List (Str × Addr)} {outer : List Env} {A A₀ : Around} {base h₀ : Heap} {L : Addr} {m : Str → Option Value} {s : Shared} {Q E : Value → Shared → Prop} {news : List (Addr × Obj)}

theorem list_k {x : Str} {t : Tok} (hh : A.handled = none) (F : Fr h₀ L s.heap m) (N : News h₀ L s.heap news) (hx : x.length < 1000)
  (hret : ∀ (D : Addr) (vs : List Value) (n : Nat) (h' : Heap) (tk' : Nat), Chars vs x.cps.toList → Fr h₀ L h' m → News h₀ L h' ((D, W.listOf vs.toArray n) :: news) → AllLt D news → Q (.ref D) { s with heap := h', toks := tk' }) :
  wpAny (model prg w) A (call (.type "list") [.str x t]) Q E s :=
  call_list_str hh x t (hn := by rw [sizeLine_eq]; unfold Str.length at hx; omega) fun h' tk acc c hk hS hacc => by
    refine hret _ acc.toList c h' tk (chars_of (by simp [hacc.1]) fun j v hv => ?_) (F.keeps hk) (fun p hp => ?_) (allLt_of fun p hp => Heap.lt_size (N p hp).1)
    · obtain ⟨c, u, hc, rfl⟩ := hacc.2 j v (by simpa using hv)
      exact ⟨c, u, by simpa using hc, rfl⟩
    · rcases List.mem_cons.mp hp with rfl | hp
      · refine ⟨by simpa using hS, Nat.ne_of_gt F.ns.lt, ?_⟩
        cases e : h₀.get? s.heap.objs.size with
        | none => rfl
        | some o => exact absurd (Heap.lt_size (F.keep _ _ e)) (Nat.lt_irrefl _)
      · exact ⟨hk _ _ (N p hp).1, (N p hp).2⟩
theorem lexer_k {y : Str} {t : Nat} (B : Below A₀ base outer h₀) (F : Fr h₀ L s.heap m) (X : (hd.heap_39 w.params).In h₀) (N : News h₀ L s.heap ((106, tabObj #[]) :: news)) (T : Top topProg lo mean mg mb h₀) (hk : cs.kind = .function)
  (CH : CodeHd base 110 106) (h106 : ∀ p ∈ news, p.1 ≠ 106) (hL6 : 106 < L)
  (hx : y.length < 1000)
  (hdp : dp < 790) (hun : un < 7900)
  (hret : ∀ (x d pb f c lf cell sx sd spb : Addr) (k1 k2 k3 k4 tw j1 j2 j3 j4 j5 jl jw tq : Nat) (jn : Int) (fq : Str) (doc pm ct : Value) (oc ocl : Obj) (vsc : Array Value) (ln : Int) (tl nlf npb : Nat) (lv : List Value) (ps : Array Value) (h' : Heap) (tk' : Nat),
    oc.data = Data.fields vsc → vsc[1]? = some (.str fq tq) → ocl.data = Data.cell (some (.ref lf)) →
    (@LT.lt Nat _ cell lf ∧ @LT.lt Nat _ lf sd ∧ @LT.lt Nat _ sd sx ∧ @LT.lt Nat _ sx spb ∧ @LT.lt Nat _ spb c ∧ @LT.lt Nat _ c f ∧ @LT.lt Nat _ f d ∧ @LT.lt Nat _ d x ∧ @LT.lt Nat _ x pb) →
    (∀ p ∈ news, p.1 < cell) → Chars lv y.cps.toList → Fr h₀ L h' m →
    News h₀ L h' ((d, dictOf [{ hash := PyData.keyHash w.params (Str.ofString "lineno"), key := Value.str (Str.ofString "lineno") k1, val := Value.int ln tl }, { hash := PyData.keyHash w.params (Str.ofString "instream"), key := Value.str (Str.ofString "instream") k2, val := Value.ref sx },
      { hash := PyData.keyHash w.params (Str.ofString "whitespace"), key := Value.str (Str.ofString "whitespace") k3, val := Value.str (Str.ofString "\n\t\x0d ") tw }, { hash := PyData.keyHash w.params (Str.ofString "pushback"), key := Value.str (Str.ofString "pushback") k4, val := Value.ref pb }] 4) :: (lf, W.listOf lv.toArray nlf) :: (x, instObj 83 d) :: (f, fnMade (Str.ofString "_law_next") fq { posonlyargs := [], args := [{ arg := Str.ofString "size", annotation := none, pos := { line := 98, col := 18, endLine := 98, endCol := 22 } }], vararg := none, kwonlyargs := [], kw_defaults := [], kwarg := none, defaults := [] }
    [Stmt.Return (some ((Expr.Name (Str.ofString "left") { line := 99, col := 30, endLine := 99, endCol := 34 }).IfExp
      (((Expr.Name (Str.ofString "left") { line := 99, col := 15, endLine := 99, endCol := 19 }).Attribute (Str.ofString "pop") { line := 99, col := 15, endLine := 99, endCol := 23 }).Call [Expr.Constant (Const.int 0) 0 { line := 99, col := 24, endLine := 99, endCol := 25 }] [] { line := 99, col := 15, endLine := 99, endCol := 26 })
      (Expr.Constant (Const.str (Str.ofString "")) 0 { line := 99, col := 40, endLine := 99, endCol := 42 }) { line := 99, col := 15, endLine := 99, endCol := 42 })) { line := 99, col := 8, endLine := 99, endCol := 42 }]
    { kind := ScopeKind.function, names := [(Str.ofString "size", NameKind.local), (Str.ofString "left", NameKind.free)], isGenerator := false, isCoroutine := false } [(Str.ofString "left", cell)] doc pm c ct) :: (c, oc) :: (sx, instObj 83 sd) ::
    (sd, dictOf [{ hash := PyData.keyHash w.params (Str.ofString "lineno"), key := Value.str (Str.ofString "lineno") j1, val := Value.int jn jl }, { hash := PyData.keyHash w.params (Str.ofString "instream"), key := Value.str (Str.ofString "instream") j2, val := Value.none },
      { hash := PyData.keyHash w.params (Str.ofString "whitespace"), key := Value.str (Str.ofString "whitespace") j3, val := Value.str (Str.ofString "\n\t\x0d ") jw }, { hash := PyData.keyHash w.params (Str.ofString "pushback"), key := Value.str (Str.ofString "pushback") j4, val := Value.ref spb },
      { hash := PyData.keyHash w.params (Str.ofString "read"), key := Value.str (Str.ofString "read") j5, val := Value.ref f }] 5) :: (cell, ocl) :: (pb, W.listOf #[] npb) :: (106, tabObj ps) :: news) → Q (.ref x) { s with heap := h', toks := tk' }) :
  wpAny (model prg w) (ktrTop dp un gd cn cs L fa ccd cl outer) (call (.ref 111) [.str y t]) Q E s := by
  refine wpAny_call ?_
  (refine' code_defC ?k1 ?k2 ?k3 ?k4 ?k5 ?kA ?kF ?kK ?k6 ?k7 ?k8 ?k9 ?kB ?kD ?_ ?c2 ?c3 ?c4; (case kA => exact rfl); (case kF => exact rfl); (case kK => assumption); (case k1 => k_asm); (case k2 => k_asm); (case k3 => k_asm); (case k4 => k_asm); (case k5 => k_asm); (case k6 => k_is); (case k7 => k_is); (case k8 => ktr_room); (case k9 => exact BindsTo.of_eq rfl); (case kB => exact rfl); (case kD => decide +kernel); (case c2 => exact rfl); (case c3 => exact rfl); (case c4 => exact rfl); k_whole; intro g' L' h' tk' cells' FG' F' N' Y' B' X' T' l1; (try k_lt l1); k_cells Y'; (try simp only [List.cons_append, List.nil_append] at N'); (try dsimp only); (try k_lift B'); (try k_fold))
  w_top off
  k_with_none
  k_with "k_all" => (show (∀ p ∈ news, _); first | exact ne_allLt ‹AllLt _ news› | exact ne_allLt (‹_ ∧ AllLt _ news›).2 | exact ne_allLt (‹_ ∧ _ ∧ AllLt _ news›).2.2 | exact ne_allLt (‹_ ∧ _ ∧ _ ∧ AllLt _ news›).2.2.2 | exact ne_allLt (‹_ ∧ _ ∧ _ ∧ _ ∧ AllLt _ news›).2.2.2.2 | exact ne_allLt (‹_ ∧ _ ∧ _ ∧ _ ∧ _ ∧ AllLt _ news›).2.2.2.2.2 | exact ne_allLt (‹_ ∧ _ ∧ _ ∧ _ ∧ _ ∧ _ ∧ AllLt _ news›).2.2.2.2.2.2 | exact ne_allLt1 ‹AllLt _ news› | exact ne_allLt1 (‹_ ∧ AllLt _ news›).2 | exact ne_allLt1 (‹_ ∧ _ ∧ AllLt _ news›).2.2 | exact ne_below ‹∀ p ∈ news, p.1 < _›)
  k_with "k_all" => exact h106
  k_with "call type:list" => (k_here; (with_reducible show wpAny _ _ (call (Value.type "list") [Value.str _ _]) _ _ _); k_dflt (refine list_k (by rfl) (by k_asm) (by k_asm) (by omega) ?_); intro D9 vs9 n9 h9 tk9 hC9 F9 N9 l9; (try simp only [AllLt, and_true] at l9); (try dsimp only); (try k_fold))
  k_steps
  k_dflt (refine' hret _ _ _ _ _ _ _ _ _ _ _ _ _ _ _ _ _ _ _ _ _ _ _ _ _ _ _ _ _ _ _ _ _ _ _ _ _ _ _ ?zc1 ?zc2 ?zc3 ?zo ?zl ?zch ?zf ?zn)
  (case zc3 => assumption)
  (case zch => assumption)
  (case zf => k_asm)
  (case zn => (first | k_asm | (refine' news_sub ?n1 ?n2; (case n1 => k_asm); (case n2 => kcj_all))))
  (case zc1 => assumption)
  (case zc2 => assumption)
  (case zo => omega)
  (case zl => exact lt_allLt l1.2)
end
end
section
open PySem PySem.W PyProof.Rows
set_option maxRecDepth 100000
set_option maxHeartbeats 8000000


theorem lt_imp {b : Addr} {l : List (Addr × Obj)} {q : Addr → Prop} (h : ∀ p ∈ l, q p.1 ∧ p.1 ≠ b) : ∀ p ∈ l, p.1 ≠ b := fun p hp => (h p hp).2
section
variable {w : World} {mean : ExcName → Option Value} {mg mb : Str → Option Value} {dp un : Nat} {gd : Option (List Code)} {cn : Str} {cs : Scope} {fa : Addr} {ccd : Value} {cl : List (Str × Addr)} {outer : List Env} {A A₀ : Around} {base h₀ : Heap} {L : Addr} {m : Str → Option Value} {s : Shared} {Q E : Value → Shared → Prop} {news : List (Addr × Obj)}

theorem truthy_cons {l : Addr} {v : Value} {lv : List Value} {n : Nat} {Q : Bool → Shared → Prop} (N : News h₀ L s.heap news) (hm : (l, W.listOf (v :: lv).toArray n) ∈ news) (hl : lv.length < 1000) (h : Q true { s with toks := s.toks + 1 + 1 }) :
    wpAny (model prg w) A (truthy (.ref l)) Q E s := 
  wpAny_truthy_list (items := (v :: lv).toArray) ⟨_, (N _ hm).1, rfl, _, rfl⟩ (by simp only [List.size_toArray, List.length_cons]; omega) h
theorem pop0_k {l : Addr} {v : Value} {lv : List Value} {n : Nat} {u : Tok} {news' : List (Addr × Obj)} (F : Fr h₀ L s.heap m) (N : News h₀ L s.heap news) (U : Upd l (W.listOf (v :: lv).toArray n) (W.listOf lv.toArray (n + 1)) news news') (hl : lv.length < 1000)
    (h : ∀ h', Fr h₀ L h' m → News h₀ L h' news' → Q v { s with heap := h' }) : wpAny (model prg w) A (call (.builtin "list.pop") [.ref l, .int 0 u]) Q E s :=
  kl_popAt (k := 0) (p := []) F N (by rfl) (by rw [List.size_toArray, List.length_cons]; unfold seqIndex?; simp) (by rfl) U (by show (v :: lv).length ≤ _; rw [List.length_cons, sizeLine_eq]; omega) h
theorem read_k {R : Result → Shared → Prop} {x d pb f c lf cell sx sd spb : Addr} {k1 k2 k3 k4 tw j1 j2 j3 j4 j5 jl jw tq : Nat} {jn : Int} {fq : Str} {doc pm ct : Value} {oc ocl : Obj} {vsc : Array Value} {ln : Int} {tl nlf : Nat} {lv : List Value} {v : Nat} {tv : Nat} (hc1 : oc.data = Data.fields vsc) (hc2 : vsc[1]? = some (.str fq tq)) (hcell : ocl.data = Data.cell (some (.ref lf)))
  (hord : @LT.lt Nat _ cell lf ∧ @LT.lt Nat _ lf sd ∧ @LT.lt Nat _ sd sx ∧ @LT.lt Nat _ sx spb ∧ @LT.lt Nat _ spb c ∧ @LT.lt Nat _ c f ∧ @LT.lt Nat _ f d ∧ @LT.lt Nat _ d x ∧ @LT.lt Nat _ x pb)
  (hoff : ∀ p ∈ news, p.1 ≠ d ∧ p.1 ≠ lf)
  (B : Below A₀ base outer h₀) (F : Fr h₀ L s.heap m) (X : (hd.heap_39 w.params).In h₀)
  (N : News h₀ L s.heap ((d, dictOf [{ hash := PyData.keyHash w.params (Str.ofString "lineno"), key := Value.str (Str.ofString "lineno") k1, val := Value.int ln tl }, { hash := PyData.keyHash w.params (Str.ofString "instream"), key := Value.str (Str.ofString "instream") k2, val := Value.ref sx },
      { hash := PyData.keyHash w.params (Str.ofString "whitespace"), key := Value.str (Str.ofString "whitespace") k3, val := Value.str (Str.ofString "\n\t\x0d ") tw }, { hash := PyData.keyHash w.params (Str.ofString "pushback"), key := Value.str (Str.ofString "pushback") k4, val := Value.ref pb }] 4) :: (lf, W.listOf (.str ⟨#[v]⟩ tv :: lv).toArray nlf) :: (x, instObj 83 d) :: (f, fnMade (Str.ofString "_law_next") fq { posonlyargs := [], args := [{ arg := Str.ofString "size", annotation := none, pos := { line := 98, col := 18, endLine := 98, endCol := 22 } }], vararg := none, kwonlyargs := [], kw_defaults := [], kwarg := none, defaults := [] }
    [Stmt.Return (some ((Expr.Name (Str.ofString "left") { line := 99, col := 30, endLine := 99, endCol := 34 }).IfExp
      (((Expr.Name (Str.ofString "left") { line := 99, col := 15, endLine := 99, endCol := 19 }).Attribute (Str.ofString "pop") { line := 99, col := 15, endLine := 99, endCol := 23 }).Call [Expr.Constant (Const.int 0) 0 { line := 99, col := 24, endLine := 99, endCol := 25 }] [] { line := 99, col := 15, endLine := 99, endCol := 26 })
      (Expr.Constant (Const.str (Str.ofString "")) 0 { line := 99, col := 40, endLine := 99, endCol := 42 }) { line := 99, col := 15, endLine := 99, endCol := 42 })) { line := 99, col := 8, endLine := 99, endCol := 42 }]
    { kind := ScopeKind.function, names := [(Str.ofString "size", NameKind.local), (Str.ofString "left", NameKind.free)], isGenerator := false, isCoroutine := false } [(Str.ofString "left", cell)] doc pm c ct) :: (c, oc) :: (sx, instObj 83 sd) ::
    (sd, dictOf [{ hash := PyData.keyHash w.params (Str.ofString "lineno"), key := Value.str (Str.ofString "lineno") j1, val := Value.int jn jl }, { hash := PyData.keyHash w.params (Str.ofString "instream"), key := Value.str (Str.ofString "instream") j2, val := Value.none },
      { hash := PyData.keyHash w.params (Str.ofString "whitespace"), key := Value.str (Str.ofString "whitespace") j3, val := Value.str (Str.ofString "\n\t\x0d ") jw }, { hash := PyData.keyHash w.params (Str.ofString "pushback"), key := Value.str (Str.ofString "pushback") j4, val := Value.ref spb },
      { hash := PyData.keyHash w.params (Str.ofString "read"), key := Value.str (Str.ofString "read") j5, val := Value.ref f }] 5) :: (cell, ocl) :: news)) (T : Top topProg lo mean mg mb h₀) (hk : cs.kind = .function)
  (CH : CodeHd base 110 106)
  (hlv : lv.length < 1000)
  (hdp : dp < 780) (hun : un < 7800)
  (hret : ∀ (t : Tok) (h' : Heap) (tk' : Nat) (ln' : Int) (tl' nlf' : Nat), Fr h₀ L h' m → News h₀ L h' ((d, dictOf [{ hash := PyData.keyHash w.params (Str.ofString "lineno"), key := Value.str (Str.ofString "lineno") k1, val := Value.int ln' tl' }, { hash := PyData.keyHash w.params (Str.ofString "instream"), key := Value.str (Str.ofString "instream") k2, val := Value.ref sx },
      { hash := PyData.keyHash w.params (Str.ofString "whitespace"), key := Value.str (Str.ofString "whitespace") k3, val := Value.str (Str.ofString "\n\t\x0d ") tw }, { hash := PyData.keyHash w.params (Str.ofString "pushback"), key := Value.str (Str.ofString "pushback") k4, val := Value.ref pb }] 4) :: (lf, W.listOf lv.toArray nlf') :: (x, instObj 83 d) :: (f, fnMade (Str.ofString "_law_next") fq { posonlyargs := [], args := [{ arg := Str.ofString "size", annotation := none, pos := { line := 98, col := 18, endLine := 98, endCol := 22 } }], vararg := none, kwonlyargs := [], kw_defaults := [], kwarg := none, defaults := [] }
    [Stmt.Return (some ((Expr.Name (Str.ofString "left") { line := 99, col := 30, endLine := 99, endCol := 34 }).IfExp
      (((Expr.Name (Str.ofString "left") { line := 99, col := 15, endLine := 99, endCol := 19 }).Attribute (Str.ofString "pop") { line := 99, col := 15, endLine := 99, endCol := 23 }).Call [Expr.Constant (Const.int 0) 0 { line := 99, col := 24, endLine := 99, endCol := 25 }] [] { line := 99, col := 15, endLine := 99, endCol := 26 })
      (Expr.Constant (Const.str (Str.ofString "")) 0 { line := 99, col := 40, endLine := 99, endCol := 42 }) { line := 99, col := 15, endLine := 99, endCol := 42 })) { line := 99, col := 8, endLine := 99, endCol := 42 }]
    { kind := ScopeKind.function, names := [(Str.ofString "size", NameKind.local), (Str.ofString "left", NameKind.free)], isGenerator := false, isCoroutine := false } [(Str.ofString "left", cell)] doc pm c ct) :: (c, oc) :: (sx, instObj 83 sd) ::
    (sd, dictOf [{ hash := PyData.keyHash w.params (Str.ofString "lineno"), key := Value.str (Str.ofString "lineno") j1, val := Value.int jn jl }, { hash := PyData.keyHash w.params (Str.ofString "instream"), key := Value.str (Str.ofString "instream") j2, val := Value.none },
      { hash := PyData.keyHash w.params (Str.ofString "whitespace"), key := Value.str (Str.ofString "whitespace") j3, val := Value.str (Str.ofString "\n\t\x0d ") jw }, { hash := PyData.keyHash w.params (Str.ofString "pushback"), key := Value.str (Str.ofString "pushback") j4, val := Value.ref spb },
      { hash := PyData.keyHash w.params (Str.ofString "read"), key := Value.str (Str.ofString "read") j5, val := Value.ref f }] 5) :: (cell, ocl) :: news) → R (.ok (.ret (.str ⟨#[v]⟩ t))) { s with heap := h', toks := tk' }) :
  codeAny (model prg w) (ktrTop dp un gd cn cs L fa ccd cl outer) (.call (.ref 66) ⟨[.ref x], []⟩) R s := by
  w_top off
  k_with_none
  k_with "k_all" => (show (∀ p ∈ news, _); first | exact fun p hp => (hoff p hp).1 | exact fun p hp => (hoff p hp).2)
  k_with "call builtin:list.pop" => (k_here; (with_reducible show wpAny _ _ (call (Value.builtin "list.pop") [Value.ref _, Value.int 0 _]) _ _ _); k_dflt (refine' pop0_k ?q48F ?q48N ?q48U ?q48l ?_; (case q48F => k_asm); (case q48N => k_asm); (case q48U => k_upd); (case q48l => omega)); intro h' F' N'; (try dsimp only [List.nil_append, List.cons_append] at N'))
  k_with "truthy ref" => (k_here; (with_reducible show wpAny _ _ (truthy (Value.ref _)) _ _ _); k_dflt (refine truthy_cons (by k_asm) (by k_mem) (by omega) ?_); skip)
  cell_enter
  w_top off
  k_with_none
  k_with "k_all" => (show (∀ p ∈ news, _); first | exact fun p hp => (hoff p hp).1 | exact fun p hp => (hoff p hp).2)
  k_with "call builtin:list.pop" => (k_here; (with_reducible show wpAny _ _ (call (Value.builtin "list.pop") [Value.ref _, Value.int 0 _]) _ _ _); k_dflt (refine' pop0_k ?q48F ?q48N ?q48U ?q48l ?_; (case q48F => k_asm); (case q48N => k_asm); (case q48U => k_upd); (case q48l => omega)); intro h' F' N'; (try dsimp only [List.nil_append, List.cons_append] at N'))
  k_with "truthy ref" => (k_here; (with_reducible show wpAny _ _ (truthy (Value.ref _)) _ _ _); k_dflt (refine truthy_cons (by k_asm) (by k_mem) (by omega) ?_); skip)
  k_steps
  all_goals (refine' hret _ _ _ _ _ _ ?e1 ?e2; (case e1 => k_asm); (case e2 => (first | k_asm | (refine' news_sub ?n1 ?n2; (case n1 => k_asm); (case n2 => kcj_all)))))
end
end
section
open PySem PySem.W PyProof.Rows
set_option maxRecDepth 100000
set_option maxHeartbeats 8000000

open PySem.Builtin PySem.Calls
theorem slot_ci_next : Slot "callable_iterator" "__next__" "callable_iterator.__next__" :=
  .of (owner := "callable_iterator") (n := "__next__") (by rw [typeLookup_type, builtinLookup_eq_fast]; kernel_rfl) (by decide +kernel) (by decide +kernel) (by decide +kernel)
    (by first | exact .inl (by decide +kernel) | exact .inr (by decide +kernel)) (by rw [isSubtype_type]; kernel_rfl)
theorem slot_ci_iter : Slot "callable_iterator" "__iter__" "callable_iterator.__iter__" :=
  .of (owner := "callable_iterator") (n := "__iter__") (by rw [typeLookup_type, builtinLookup_eq_fast]; kernel_rfl) (by decide +kernel) (by decide +kernel) (by decide +kernel)
    (by first | exact .inl (by decide +kernel) | exact .inr (by decide +kernel)) (by rw [isSubtype_type]; kernel_rfl)
theorem entry_ci_next : entryFor table "callable_iterator.__next__" = some Builtin.«callable_iterator.__next__» := entryFor_of_tree (by kernel_rfl)
theorem owner_ci : Manifest.owners.lookup (String.ofList ['r','o','t','a','r','e','t','i','_','e','l','b','a','l','l','a','c'].reverse) = some Manifest.sig_callable_iterator := by kernel_rfl
theorem args_ci_next (a : Value) : argsOk "callable_iterator.__next__" ⟨[a], []⟩ := by
  unfold argsOk; rw [signature?_of (id := "callable_iterator.__next__") (n := ['_', '_', 't', 'x', 'e', 'n', '_', '_']) (o := ['r','o','t','a','r','e','t','i','_','e','l','b','a','l','l','a','c']) (by kernel_rfl) owner_ci]; kernel_rfl
theorem entry_iter : entryFor table "iter" = some Builtin.«iter» := entryFor_of_tree (by kernel_rfl)
theorem meth_call : typeLookup (.type "method") "__call__" = pure (some (.builtin "method.__call__")) := by rw [typeLookup_type, builtinLookup_eq_fast]; kernel_rfl
noncomputable abbrev ciObj (q : Addr) (e : Str) (t : Tok) : Obj := { cls := .type "callable_iterator", data := .fields #[.ref q, .str e t, .bool false] }
section
variable {prog : Program} {w : World} {A : Around} {E : Value → Shared → Prop} {s : Shared} {h₀ : Heap} {L : Addr} {m : Str → Option Value} {news : List (Addr × Obj)}
theorem args_iter2 (a b : Value) : argsOk "iter" ⟨[a, b], []⟩ := by unfold argsOk; kernel_rfl
theorem iter2_k {q : Addr} {f self : Value} {e : Str} {t : Tok} {Q : Value → Shared → Prop} (F : Fr h₀ L s.heap m) (N : News h₀ L s.heap news) (hq : (q, methodObj f self) ∈ news)
    (h : ∀ (I : Addr) h', Fr h₀ L h' m → News h₀ L h' ((I, ciObj q e t) :: news) → (∀ p ∈ news, p.1 < I) → Q (.ref I) { s with heap := h' }) :
    wpAny (model prog w) A (call (.builtin "iter") [.ref q, .str e t]) Q E s := by
  refine call_function_entry (by decide +kernel) (by decide +kernel) entry_iter (args_iter2 _ _) ?_
  unfold Builtin.«iter»
  refine wpAny_bind (m := someArgs "iter" 1 2 _) (wpAny_of_eq (a := [Value.ref q, Value.str e t]) (by first | rfl | kernel_rfl!) ?_)
  have hT : s.TypeIs (.ref q) "method" := ⟨_, (N _ hq).1, rfl⟩
  refine wpAny_bind (wpAny_specialOf hT meth_call ?_)
  show wpAny _ _ (do rule "iter.sentinel"; ret (← newFields "callable_iterator" [.ref q, .str e t, .bool false])) _ _ _
  refine wpAny_bind (wpAny_rule (wpAny_bind (wpAny_newObj_type ?_)))
  exact wpAny_pure ⟨_, rfl, h _ _ (F.push _) (News.push F N _ rfl) (fun q hq => Heap.lt_size (N q hq).1)⟩
theorem wp_borrowed {M : Model} {f : Value} {pos : List Value} {Q : Value → Shared → Prop}
    (hc : codeAny M A (.call f ⟨pos, []⟩) (fun r s' => match r with | .ok (.ret v) => Q v s' | .ok _ => False | .error e => E e s') s) : wpAny M A (callBorrowed f pos) Q E s := fun Γ p hΓ => by
  unfold callBorrowed
  rw [Sem.wp_call]
  refine wpCode_mono (fun r s' h => ?_) (hc _ p rfl (hΓ.enter _ none p (by intro x; cases x)))
  cases r with
  | error e => exact h
  | ok f => cases f <;> first | exact h | exact h.elim
theorem wp_borrows {M : Model} {q g : Addr} {self : Value} {og : Obj} {fd : FuncData} {Q : Bool → Shared → Prop} (hq : s.heap.get? q = some (methodObj (.ref g) self)) (hg : s.heap.get? g = some og) (hgd : og.data = .func fd) (h : Q true s) : wpAny M A (borrowsExactly (.ref q)) Q E s := by
  unfold borrowsExactly
  refine wpAny_bind (wpAny_load hq ?_)
  show wpAny M A (do match (← load g).data with | .func _ => pure true | _ => pure false) Q E s
  refine wpAny_bind (wpAny_load hg ?_)
  rw [hgd]
  exact wpAny_pure h
/-- one step of iter(method, sentinel) that does not meet the sentinel -/
theorem next_ci {I q g self : Addr} {og : Obj} {fd : FuncData} {e : Str} {t : Tok} {Q : Option Value → Shared → Prop}
    (hI : s.heap.get? I = some (ciObj q e t)) (hq : s.heap.get? q = some (methodObj (.ref g) (.ref self))) (hg : s.heap.get? g = some og) (hgd : og.data = .func fd)
    (hc : codeAny (model prog w) A.in1 (.call (.ref g) ⟨[.ref self], []⟩) (fun r s' => match r with | .ok (.ret v) => s'.heap.get? I = some (ciObj q e t) ∧ ∃ x u, v = .str x u ∧ x ≠ e ∧ Q (some v) s' | _ => False) s) :
    wpAny (model prog w) A (pyNext (.ref I)) Q E s := by
  have hT : s.TypeIs (.ref I) "callable_iterator" := ⟨_, hI, rfl⟩
  unfold pyNext
  refine wpAny_bind (wpAny_attempt (wpAny_callSpecial?_slot (name := Str.ofString "__next__") hT slot_ci_next (wpAny_call_entry slot_ci_next hT entry_ci_next ?_ (args_ci_next _))))
  show wpAny _ _ (field (.ref I) 2 >>= _) _ _ s
  refine wpAny_bind (wpAny_field hI rfl (x := .bool false) rfl ?_)
  show wpAny _ _ (if (Value.bool false == Value.bool true) = true then _ else _) _ _ s
  rw [if_neg (show ¬ ((Value.bool false == Value.bool true) = true) from Bool.false_ne_true)]
  show wpAny _ _ (field (.ref I) 0 >>= _) _ _ s
  refine wpAny_bind (wpAny_field hI rfl (x := .ref q) rfl ?_)
  refine wpAny_bind (wpAny_attempt ?_)
  unfold callOutOfASlot
  refine wpAny_bind (wp_borrows hq hg hgd ?_)
  rw [if_pos rfl]
  refine wp_borrowed (method_call hq (codeAny_mono hc (fun r s' hr => ?_)))
  cases r with
  | error e => exact hr.elim
  | ok fl =>
    cases fl with
    | ret v =>
      obtain ⟨hI', x, u, rfl, hne, hQ⟩ := hr
      dsimp only
      refine wpAny_bind (wpAny_field hI' rfl (x := .bool false) rfl ?_)
      rw [if_neg (show ¬ ((Value.bool false == Value.bool true) = true) from Bool.false_ne_true)]
      refine wpAny_bind (wpAny_field hI' rfl (x := .str e t) rfl ?_)
      refine wpAny_bind (wpAny_holding (eqBool_str ?_))
      have : (e == x) = false := by simpa using fun h => hne h.symm
      rw [this, if_pos (show (!false) = true from rfl)]
      exact wpAny_pure ⟨_, rfl, wpAny_pure hQ⟩
    | _ => exact hr.elim
theorem iter_ci {I q : Addr} {e : Str} {t : Tok} {Q : Value → Shared → Prop} (hI : s.heap.get? I = some (ciObj q e t)) (h : Q (.ref I) s) : wpAny (model prog w) A (pyIter (.ref I)) Q E s := by
  have hT : s.TypeIs (.ref I) "callable_iterator" := ⟨_, hI, rfl⟩
  refine wpAny_pyIter_slot hT slot_ci_iter (wpAny_call_entry slot_ci_iter hT (b := Builtin.«dict_keyiterator.__iter__») (entryFor_alias (id' := "dict_keyiterator.__iter__") (by kernel_rfl) (by first | rfl | decide +kernel | (unfold String.splitOn; simp +decide [String.splitOnAux])) (by decide +kernel) (by kernel_rfl)) ?_ (by unfold argsOk; rw [signature?_of (id := "callable_iterator.__iter__") (n := ['_', '_', 'r', 'e', 't', 'i', '_', '_']) (o := ['r','o','t','a','r','e','t','i','_','e','l','b','a','l','l','a','c']) (by kernel_rfl) owner_ci]; kernel_rfl))
  show wpAny _ _ (ret (.ref I)) _ _ s
  exact wpAny_pure ⟨_, rfl, "callable_iterator", _, hT, slot_ci_next.lookup, h⟩
theorem for_step {R : Result → Shared → Prop} {target it body orelse env}
    (h : wpAny (model prog w) A (pyNext it) (fun r s₁ => match r with
      | none => False
      | some v => wpAny (model prog w) A (assign target env v) (fun _ s₂ => wpAny (model prog w) A (execs body env) (fun f s₃ => match f with
          | .next | .cont => codeAny (model prog w) A (.forLoop target it body orelse env) R s₃
          | .brk => R (.ok .next) s₃
          | .ret v => R (.ok (.ret v)) s₃) (notedBy (model prog w) A env fun e s' => R (.error e) s') s₂) (notedBy (model prog w) A env fun e s' => R (.error e) s') s₁) (notedBy (model prog w) A env fun e s' => R (.error e) s') s)
    (ht : ∀ v, letOwnedTupleGo target it v = pure () := by intro _; rfl) : codeAny (model prog w) A (.forLoop target it body orelse env) R s := by
  refine codeAny_of_tree ?_
  show wpAny _ _ ((forTurn target it body orelse env).onRaise (fun x => do noteFrame x env; theTreesLotGoes x)) _ _ s
  refine wpAny_noted ?_
  simp only [forTurn]
  refine wpAny_bind (wpAny_standAt (wpAny_bind (wpAny_onRaise (wpAny_mono h (fun r s₁ h₁ => ?_) fun _ _ h' => wpAny_standAt h'))))
  cases r with
  | none => exact h₁.elim
  | some v =>
    refine wpAny_bind (wpAny_of_eq (ht v) ?_)
    refine wpAny_bind (wpAny_mono h₁ (fun _ s₂ h₂ => wpAny_bind (wpAny_mono h₂ (fun f s₃ h₃ => ?_) fun _ _ h' => h')) fun _ _ h' => h')
    cases f with
    | next => exact wpAny_pure ⟨rfl, h₃⟩
    | cont => exact wpAny_pure ⟨rfl, h₃⟩
    | brk => exact wpAny_pure h₃
    | ret v => exact wpAny_pure h₃
end
end
section
open PySem PySem.W PyProof.Rows
set_option maxRecDepth 100000
set_option maxHeartbeats 8000000


noncomputable abbrev scG : Scope := { kind := ScopeKind.function, names := [(Str.ofString "self", NameKind.local), (Str.ofString "token", NameKind.local), (Str.ofString "fiter", NameKind.local), (Str.ofString "ch", NameKind.local), (Str.ofString "iter", NameKind.globalImplicit)], isGenerator := false, isCoroutine := false }
noncomputable def pushes (a : Str) (ts : List Nat) : Str := ts.foldl (fun a v => a ++ ⟨#[v]⟩) a
theorem map_ch {m : Str → Option Value} {u v : Option Value} {k : Str} : (fun y => if y = k then v else (fun y => if y = k then u else m y) y) = fun y => if y = k then v else m y := by
  funext y; dsimp only; split <;> rfl
section
variable {w : World} {mean : ExcName → Option Value} {mg mb : Str → Option Value} {dp un : Nat} {gd : Option (List Code)} {cn : Str} {cs : Scope} {fa : Addr} {ccd : Value} {cl : List (Str × Addr)} {outer : List Env} {A A₀ : Around} {base h₀ : Heap} {L : Addr} {m : Str → Option Value} {s : Shared} {Q E : Value → Shared → Prop} {news : List (Addr × Obj)}

theorem inner_k {R : Result → Shared → Prop} {x d pb f c lf cell sx sd spb : Addr} {k1 k2 k3 k4 tw j1 j2 j3 j4 j5 jl jw tq : Nat} {jn : Int} {fq : Str} {doc pm ct : Value} {oc ocl : Obj} {vsc : Array Value} {I q : Addr} {te : Tok} {rest : List Nat} (hc1 : oc.data = Data.fields vsc) (hc2 : vsc[1]? = some (.str fq tq)) (hcell : ocl.data = Data.cell (some (.ref lf)))
  (hord : @LT.lt Nat _ cell lf ∧ @LT.lt Nat _ lf sd ∧ @LT.lt Nat _ sd sx ∧ @LT.lt Nat _ sx spb ∧ @LT.lt Nat _ spb c ∧ @LT.lt Nat _ c f ∧ @LT.lt Nat _ f d ∧ @LT.lt Nat _ d x ∧ @LT.lt Nat _ x pb)
  (hoff : ∀ p ∈ news, p.1 ≠ d ∧ p.1 ≠ lf)
  (hoffq : ∀ p ∈ (I, ciObj q (Str.ofString "") te) :: (q, methodObj (.ref 66) (.ref x)) :: news, p.1 ≠ d ∧ p.1 ≠ lf)
  (B : Below A₀ base outer h₀) (X : (hd.heap_39 w.params).In h₀) (T : Top topProg lo mean mg mb h₀)
  (CH : CodeHd base 110 106) (hdp : dp < 780) (hun : un < 7790) :
  ∀ (ts : List Nat) (acc : Str) (ta : Tok) (uc : Option Value) (lv : List Value) (ln : Int) (tl nlf : Nat) (s : Shared),
  (∀ v ∈ ts, v = 46 ∨ v = 13 ∨ v = 10) → Chars lv (ts ++ 34 :: rest) → lv.length < 1000 → acc.length + ts.length < 1000 →
  Fr h₀ L s.heap (fun y => if y = Str.ofString "ch" then uc else if y = Str.ofString "token" then some (.str acc ta) else m y) →
  News h₀ L s.heap ((d, dictOf [{ hash := PyData.keyHash w.params (Str.ofString "lineno"), key := Value.str (Str.ofString "lineno") k1, val := Value.int ln tl }, { hash := PyData.keyHash w.params (Str.ofString "instream"), key := Value.str (Str.ofString "instream") k2, val := Value.ref sx },
      { hash := PyData.keyHash w.params (Str.ofString "whitespace"), key := Value.str (Str.ofString "whitespace") k3, val := Value.str (Str.ofString "\n\t\x0d ") tw }, { hash := PyData.keyHash w.params (Str.ofString "pushback"), key := Value.str (Str.ofString "pushback") k4, val := Value.ref pb }] 4) :: (lf, W.listOf lv.toArray nlf) :: (x, instObj 83 d) :: (f, fnMade (Str.ofString "_law_next") fq { posonlyargs := [], args := [{ arg := Str.ofString "size", annotation := none, pos := { line := 98, col := 18, endLine := 98, endCol := 22 } }], vararg := none, kwonlyargs := [], kw_defaults := [], kwarg := none, defaults := [] }
    [Stmt.Return (some ((Expr.Name (Str.ofString "left") { line := 99, col := 30, endLine := 99, endCol := 34 }).IfExp
      (((Expr.Name (Str.ofString "left") { line := 99, col := 15, endLine := 99, endCol := 19 }).Attribute (Str.ofString "pop") { line := 99, col := 15, endLine := 99, endCol := 23 }).Call [Expr.Constant (Const.int 0) 0 { line := 99, col := 24, endLine := 99, endCol := 25 }] [] { line := 99, col := 15, endLine := 99, endCol := 26 })
      (Expr.Constant (Const.str (Str.ofString "")) 0 { line := 99, col := 40, endLine := 99, endCol := 42 }) { line := 99, col := 15, endLine := 99, endCol := 42 })) { line := 99, col := 8, endLine := 99, endCol := 42 }]
    { kind := ScopeKind.function, names := [(Str.ofString "size", NameKind.local), (Str.ofString "left", NameKind.free)], isGenerator := false, isCoroutine := false } [(Str.ofString "left", cell)] doc pm c ct) :: (c, oc) :: (sx, instObj 83 sd) ::
    (sd, dictOf [{ hash := PyData.keyHash w.params (Str.ofString "lineno"), key := Value.str (Str.ofString "lineno") j1, val := Value.int jn jl }, { hash := PyData.keyHash w.params (Str.ofString "instream"), key := Value.str (Str.ofString "instream") j2, val := Value.none },
      { hash := PyData.keyHash w.params (Str.ofString "whitespace"), key := Value.str (Str.ofString "whitespace") j3, val := Value.str (Str.ofString "\n\t\x0d ") jw }, { hash := PyData.keyHash w.params (Str.ofString "pushback"), key := Value.str (Str.ofString "pushback") j4, val := Value.ref spb },
      { hash := PyData.keyHash w.params (Str.ofString "read"), key := Value.str (Str.ofString "read") j5, val := Value.ref f }] 5) :: (cell, ocl) :: (I, ciObj q (Str.ofString "") te) :: (q, methodObj (.ref 66) (.ref x)) :: news) →
  (∀ (t : Tok) (h' : Heap) (tk' : Nat) (ln' : Int) (tl' nlf' : Nat) (lv : List Value) (uc : Option Value), Chars lv rest → Fr h₀ L h' (fun y => if y = Str.ofString "ch" then uc else if y = Str.ofString "token" then some (.str (pushes acc ts) t) else m y) → News h₀ L h' ((d, dictOf [{ hash := PyData.keyHash w.params (Str.ofString "lineno"), key := Value.str (Str.ofString "lineno") k1, val := Value.int ln' tl' }, { hash := PyData.keyHash w.params (Str.ofString "instream"), key := Value.str (Str.ofString "instream") k2, val := Value.ref sx },
      { hash := PyData.keyHash w.params (Str.ofString "whitespace"), key := Value.str (Str.ofString "whitespace") k3, val := Value.str (Str.ofString "\n\t\x0d ") tw }, { hash := PyData.keyHash w.params (Str.ofString "pushback"), key := Value.str (Str.ofString "pushback") k4, val := Value.ref pb }] 4) :: (lf, W.listOf lv.toArray nlf') :: (x, instObj 83 d) :: (f, fnMade (Str.ofString "_law_next") fq { posonlyargs := [], args := [{ arg := Str.ofString "size", annotation := none, pos := { line := 98, col := 18, endLine := 98, endCol := 22 } }], vararg := none, kwonlyargs := [], kw_defaults := [], kwarg := none, defaults := [] }
    [Stmt.Return (some ((Expr.Name (Str.ofString "left") { line := 99, col := 30, endLine := 99, endCol := 34 }).IfExp
      (((Expr.Name (Str.ofString "left") { line := 99, col := 15, endLine := 99, endCol := 19 }).Attribute (Str.ofString "pop") { line := 99, col := 15, endLine := 99, endCol := 23 }).Call [Expr.Constant (Const.int 0) 0 { line := 99, col := 24, endLine := 99, endCol := 25 }] [] { line := 99, col := 15, endLine := 99, endCol := 26 })
      (Expr.Constant (Const.str (Str.ofString "")) 0 { line := 99, col := 40, endLine := 99, endCol := 42 }) { line := 99, col := 15, endLine := 99, endCol := 42 })) { line := 99, col := 8, endLine := 99, endCol := 42 }]
    { kind := ScopeKind.function, names := [(Str.ofString "size", NameKind.local), (Str.ofString "left", NameKind.free)], isGenerator := false, isCoroutine := false } [(Str.ofString "left", cell)] doc pm c ct) :: (c, oc) :: (sx, instObj 83 sd) ::
    (sd, dictOf [{ hash := PyData.keyHash w.params (Str.ofString "lineno"), key := Value.str (Str.ofString "lineno") j1, val := Value.int jn jl }, { hash := PyData.keyHash w.params (Str.ofString "instream"), key := Value.str (Str.ofString "instream") j2, val := Value.none },
      { hash := PyData.keyHash w.params (Str.ofString "whitespace"), key := Value.str (Str.ofString "whitespace") j3, val := Value.str (Str.ofString "\n\t\x0d ") jw }, { hash := PyData.keyHash w.params (Str.ofString "pushback"), key := Value.str (Str.ofString "pushback") j4, val := Value.ref spb },
      { hash := PyData.keyHash w.params (Str.ofString "read"), key := Value.str (Str.ofString "read") j5, val := Value.ref f }] 5) :: (cell, ocl) :: (I, ciObj q (Str.ofString "") te) :: (q, methodObj (.ref 66) (.ref x)) :: news) → R (.ok (.ret (.str (pushes acc ts) t))) { s with heap := h', toks := tk' }) →
  codeAny (model prg w) (ktrTop dp un gd cn scG L 73 (.ref 72) [] outer) (.forLoop (.Name (Str.ofString "ch") { line := 67, col := 20, endLine := 67, endCol := 22 }) (.ref I) [Stmt.If ((Expr.Name (Str.ofString "ch") { line := 68, col := 23, endLine := 68, endCol := 25 }).Compare [CmpOp.Eq] [Expr.Constant (Const.str (Str.ofString "\"")) 0 { line := 68, col := 29, endLine := 68, endCol := 32 }] { line := 68, col := 23, endLine := 68, endCol := 32 }) [Stmt.Return (some (Expr.Name (Str.ofString "token") { line := 69, col := 31, endLine := 69, endCol := 36 })) { line := 69, col := 24, endLine := 69, endCol := 36 }] [Stmt.If ((Expr.Name (Str.ofString "ch") { line := 70, col := 25, endLine := 70, endCol := 27 }).Compare [CmpOp.Eq] [Expr.Constant (Const.str (Str.ofString "\\")) 0 { line := 70, col := 31, endLine := 70, endCol := 35 }] { line := 70, col := 25, endLine := 70, endCol := 35 }) [Stmt.Assign [Expr.Name (Str.ofString "ch") { line := 71, col := 24, endLine := 71, endCol := 26 }] (((Expr.Name (Str.ofString "self") { line := 71, col := 29, endLine := 71, endCol := 33 }).Attribute (Str.ofString "_read_char") { line := 71, col := 29, endLine := 71, endCol := 44 }).Call [] [] { line := 71, col := 29, endLine := 71, endCol := 46 }) { line := 71, col := 24, endLine := 71, endCol := 46 }] [] { line := 70, col := 20, endLine := 71, endCol := 46 }] { line := 68, col := 20, endLine := 71, endCol := 46 }, Stmt.AugAssign (Expr.Name (Str.ofString "token") { line := 72, col := 20, endLine := 72, endCol := 25 }) Operator.Add (Expr.Name (Str.ofString "ch") { line := 72, col := 29, endLine := 72, endCol := 31 }) { line := 72, col := 20, endLine := 72, endCol := 31 }] [] (envOf (Str.ofString "_netrclex.get_token") scG L 73 (.ref 72))) R s
  | [], acc, ta, uc, lv, ln, tl, nlf, s, hts, hC, hlv, hacc, F, N, hret => by
    cases hC with | cons _ tv hC => ?_
    rename_i lv
    refine for_step ?_
    have gI := (N (I, ciObj q (Str.ofString "") te) (by k_mem)).1
    have gq := (N (q, methodObj (.ref 66) (.ref x)) (by k_mem)).1
    refine next_ci gI gq (F.keep _ _ (X 66 _ rfl)) rfl (read_k hc1 hc2 hcell hord hoffq B F X N T rfl CH (by simp at hlv; omega) (by (first | exact Nat.lt_of_lt_of_le (Nat.add_lt_add_right hdp _) (by decide) | exact Nat.lt_of_lt_of_le hdp (by decide) | omega | ((try simp only [depth_under_make, depth_under_kw, depth_in1, depth_deeper, depth_caller]); (try dsimp only [ktrTop]); omega))) (by (first | exact Nat.lt_of_lt_of_le (Nat.add_lt_add_right hun _) (by decide) | exact Nat.lt_of_lt_of_le hun (by decide) | omega | ((try simp only [units_in1, units_deeper, Around.mark_units, units_caller]); (try dsimp only [ktrTop]); omega))) (fun t h' tk' ln' tl' nlf' F' N' => ?_))
    refine ⟨(N' (I, ciObj q (Str.ofString "") te) (by k_mem)).1, _, _, rfl, by decide +kernel, ?_⟩
    refine wpAny_assign_Name (wpAny_storeName_local rfl F'.ns (fun h₂ hn₂ hs₂ => ?_) rfl)
    replace F' := F'.set hn₂ hs₂
    replace N' := N'.set hs₂
    rw [map_ch] at F'
    w_top off
    k_with_none
    k_steps
    exact hret ta _ _ _ _ _ _ _ hC (by k_asm) (by k_asm)
  | v :: ts, acc, ta, uc, lv, ln, tl, nlf, s, hts, hC, hlv, hacc, F, N, hret => by
    cases hC with | cons _ tv hC => ?_
    rename_i lv
    refine for_step ?_
    have gI := (N (I, ciObj q (Str.ofString "") te) (by k_mem)).1
    have gq := (N (q, methodObj (.ref 66) (.ref x)) (by k_mem)).1
    have hlv' : lv.length < 1000 := by simp at hlv; omega
    have hts' := fun u hu => hts u (List.mem_cons_of_mem _ hu)
    have hacc' : acc.length + 1 + ts.length < 1000 := by simp only [List.length_cons] at hacc; omega
    refine next_ci gI gq (F.keep _ _ (X 66 _ rfl)) rfl (read_k hc1 hc2 hcell hord hoffq B F X N T rfl CH hlv' (by (first | exact Nat.lt_of_lt_of_le (Nat.add_lt_add_right hdp _) (by decide) | exact Nat.lt_of_lt_of_le hdp (by decide) | omega | ((try simp only [depth_under_make, depth_under_kw, depth_in1, depth_deeper, depth_caller]); (try dsimp only [ktrTop]); omega))) (by (first | exact Nat.lt_of_lt_of_le (Nat.add_lt_add_right hun _) (by decide) | exact Nat.lt_of_lt_of_le hun (by decide) | omega | ((try simp only [units_in1, units_deeper, Around.mark_units, units_caller]); (try dsimp only [ktrTop]); omega))) (fun t h' tk' ln' tl' nlf' F' N' => ?_))
    have go : ∀ (ta' : Tok) (h2 : Heap) (tk2 : Nat) (uc' : Option Value), Fr h₀ L h2 (fun y => if y = Str.ofString "token" then some (.str (acc ++ (⟨#[v]⟩ : Str)) ta') else if y = Str.ofString "ch" then uc' else if y = Str.ofString "token" then some (.str acc ta) else m y) →
      News h₀ L h2 ((d, dictOf [{ hash := PyData.keyHash w.params (Str.ofString "lineno"), key := Value.str (Str.ofString "lineno") k1, val := Value.int ln' tl' }, { hash := PyData.keyHash w.params (Str.ofString "instream"), key := Value.str (Str.ofString "instream") k2, val := Value.ref sx },
      { hash := PyData.keyHash w.params (Str.ofString "whitespace"), key := Value.str (Str.ofString "whitespace") k3, val := Value.str (Str.ofString "\n\t\x0d ") tw }, { hash := PyData.keyHash w.params (Str.ofString "pushback"), key := Value.str (Str.ofString "pushback") k4, val := Value.ref pb }] 4) :: (lf, W.listOf lv.toArray nlf') :: (x, instObj 83 d) :: (f, fnMade (Str.ofString "_law_next") fq { posonlyargs := [], args := [{ arg := Str.ofString "size", annotation := none, pos := { line := 98, col := 18, endLine := 98, endCol := 22 } }], vararg := none, kwonlyargs := [], kw_defaults := [], kwarg := none, defaults := [] }
    [Stmt.Return (some ((Expr.Name (Str.ofString "left") { line := 99, col := 30, endLine := 99, endCol := 34 }).IfExp
      (((Expr.Name (Str.ofString "left") { line := 99, col := 15, endLine := 99, endCol := 19 }).Attribute (Str.ofString "pop") { line := 99, col := 15, endLine := 99, endCol := 23 }).Call [Expr.Constant (Const.int 0) 0 { line := 99, col := 24, endLine := 99, endCol := 25 }] [] { line := 99, col := 15, endLine := 99, endCol := 26 })
      (Expr.Constant (Const.str (Str.ofString "")) 0 { line := 99, col := 40, endLine := 99, endCol := 42 }) { line := 99, col := 15, endLine := 99, endCol := 42 })) { line := 99, col := 8, endLine := 99, endCol := 42 }]
    { kind := ScopeKind.function, names := [(Str.ofString "size", NameKind.local), (Str.ofString "left", NameKind.free)], isGenerator := false, isCoroutine := false } [(Str.ofString "left", cell)] doc pm c ct) :: (c, oc) :: (sx, instObj 83 sd) ::
    (sd, dictOf [{ hash := PyData.keyHash w.params (Str.ofString "lineno"), key := Value.str (Str.ofString "lineno") j1, val := Value.int jn jl }, { hash := PyData.keyHash w.params (Str.ofString "instream"), key := Value.str (Str.ofString "instream") j2, val := Value.none },
      { hash := PyData.keyHash w.params (Str.ofString "whitespace"), key := Value.str (Str.ofString "whitespace") j3, val := Value.str (Str.ofString "\n\t\x0d ") jw }, { hash := PyData.keyHash w.params (Str.ofString "pushback"), key := Value.str (Str.ofString "pushback") j4, val := Value.ref spb },
      { hash := PyData.keyHash w.params (Str.ofString "read"), key := Value.str (Str.ofString "read") j5, val := Value.ref f }] 5) :: (cell, ocl) :: (I, ciObj q (Str.ofString "") te) :: (q, methodObj (.ref 66) (.ref x)) :: news) →
      codeAny (model prg w) (ktrTop dp un gd cn scG L 73 (.ref 72) [] outer) (.forLoop (.Name (Str.ofString "ch") { line := 67, col := 20, endLine := 67, endCol := 22 }) (.ref I) [Stmt.If ((Expr.Name (Str.ofString "ch") { line := 68, col := 23, endLine := 68, endCol := 25 }).Compare [CmpOp.Eq] [Expr.Constant (Const.str (Str.ofString "\"")) 0 { line := 68, col := 29, endLine := 68, endCol := 32 }] { line := 68, col := 23, endLine := 68, endCol := 32 }) [Stmt.Return (some (Expr.Name (Str.ofString "token") { line := 69, col := 31, endLine := 69, endCol := 36 })) { line := 69, col := 24, endLine := 69, endCol := 36 }] [Stmt.If ((Expr.Name (Str.ofString "ch") { line := 70, col := 25, endLine := 70, endCol := 27 }).Compare [CmpOp.Eq] [Expr.Constant (Const.str (Str.ofString "\\")) 0 { line := 70, col := 31, endLine := 70, endCol := 35 }] { line := 70, col := 25, endLine := 70, endCol := 35 }) [Stmt.Assign [Expr.Name (Str.ofString "ch") { line := 71, col := 24, endLine := 71, endCol := 26 }] (((Expr.Name (Str.ofString "self") { line := 71, col := 29, endLine := 71, endCol := 33 }).Attribute (Str.ofString "_read_char") { line := 71, col := 29, endLine := 71, endCol := 44 }).Call [] [] { line := 71, col := 29, endLine := 71, endCol := 46 }) { line := 71, col := 24, endLine := 71, endCol := 46 }] [] { line := 70, col := 20, endLine := 71, endCol := 46 }] { line := 68, col := 20, endLine := 71, endCol := 46 }, Stmt.AugAssign (Expr.Name (Str.ofString "token") { line := 72, col := 20, endLine := 72, endCol := 25 }) Operator.Add (Expr.Name (Str.ofString "ch") { line := 72, col := 29, endLine := 72, endCol := 31 }) { line := 72, col := 20, endLine := 72, endCol := 31 }] [] (envOf (Str.ofString "_netrclex.get_token") scG L 73 (.ref 72))) R { s with heap := h2, toks := tk2 } := by
      intro ta' h2 tk2 uc' F2 N2
      have e : (fun y => if y = Str.ofString "token" then some (Value.str (acc ++ (⟨#[v]⟩ : Str)) ta') else if y = Str.ofString "ch" then uc' else if y = Str.ofString "token" then some (.str acc ta) else m y) = (fun y => if y = Str.ofString "ch" then uc' else if y = Str.ofString "token" then some (.str (acc ++ (⟨#[v]⟩ : Str)) ta') else m y) := by
        funext y
        by_cases h1 : y = Str.ofString "token"
        · subst h1; rw [if_pos rfl, if_neg (by decide), if_pos rfl]
        · rw [if_neg h1, if_neg h1, if_neg h1]
      rw [e] at F2
      have hl : (acc ++ (⟨#[v]⟩ : Str)).length = acc.length + 1 := by rw [Str.length_append]; rfl
      exact inner_k hc1 hc2 hcell hord hoff hoffq B X T CH hdp hun ts (acc ++ (⟨#[v]⟩ : Str)) ta' uc' lv ln' tl' nlf' _ hts' hC hlv' (by rw [hl]; exact hacc') F2 N2 (fun t h' tk' ln' tl' nlf' lv uc hC F N => hret t h' tk' ln' tl' nlf' lv uc hC F N)
    rcases hts v (List.mem_cons_self ..) with rfl | rfl | rfl
    all_goals
      refine ⟨(N' (I, ciObj q (Str.ofString "") te) (by k_mem)).1, _, _, rfl, by decide +kernel, ?_⟩
      refine wpAny_assign_Name (wpAny_storeName_local rfl F'.ns (fun h₂ hn₂ hs₂ => ?_) rfl)
      replace F' := F'.set hn₂ hs₂
      replace N' := N'.set hs₂
      rw [map_ch] at F'
      w_top off
      k_with_none
      k_steps
    all_goals exact go _ _ _ _ (by k_asm) (by k_asm)
end
end
section
open PySem PySem.W PyProof.Rows
set_option maxRecDepth 100000
set_option maxHeartbeats 8000000


theorem fr_sw {h₀ h : Heap} {L : Addr} {m : Str → Option Value} {k a b : Str} {u v w : Option Value} (hab : a ≠ b) (F : Fr h₀ L h (fun y => if y = k then u else if y = a then v else if y = b then w else m y)) : Fr h₀ L h (fun y => if y = k then u else if y = b then w else (fun y => if y = a then v else m y) y) := by
  have e : (fun y => if y = k then u else if y = a then v else if y = b then w else m y) = (fun y => if y = k then u else if y = b then w else (fun y => if y = a then v else m y) y) := by
    funext y
    dsimp only
    by_cases h1 : y = k
    · rw [if_pos h1, if_pos h1]
    · rw [if_neg h1, if_neg h1]
      by_cases h2 : y = a
      · subst h2; rw [if_pos rfl, if_neg hab, if_pos rfl]
      · rw [if_neg h2, if_neg h2]
  exact e ▸ F
theorem fr_ch {h₀ h : Heap} {L : Addr} {m : Str → Option Value} {k : Str} {u v : Option Value} (F : Fr h₀ L h (fun y => if y = k then u else (fun y => if y = k then v else m y) y)) : Fr h₀ L h (fun y => if y = k then u else m y) := map_ch ▸ F
noncomputable abbrev mG (I x : Addr) : Str → Option Value := fun y => if y = Str.ofString "fiter" then some (.ref I) else if y = Str.ofString "self" then some (.ref x) else none
section
variable {w : World} {mean : ExcName → Option Value} {mg mb : Str → Option Value} {dp un : Nat} {gd : Option (List Code)} {cn : Str} {cs : Scope} {fa : Addr} {ccd : Value} {cl : List (Str × Addr)} {outer : List Env} {A A₀ : Around} {base h₀ : Heap} {L : Addr} {m : Str → Option Value} {s : Shared} {Q E : Value → Shared → Prop} {news : List (Addr × Obj)}

theorem outer_k {R : Result → Shared → Prop} {x d pb f c lf cell sx sd spb : Addr} {k1 k2 k3 k4 tw j1 j2 j3 j4 j5 jl jw tq : Nat} {jn : Int} {fq : Str} {doc pm ct : Value} {oc ocl : Obj} {vsc : Array Value} {ln : Int} {tl nlf : Nat} {lv : List Value} {I q : Addr} {te ta tv : Tok} {uc : Option Value} {rest ts : List Nat} (hc1 : oc.data = Data.fields vsc) (hc2 : vsc[1]? = some (.str fq tq)) (hcell : ocl.data = Data.cell (some (.ref lf)))
  (hord : @LT.lt Nat _ cell lf ∧ @LT.lt Nat _ lf sd ∧ @LT.lt Nat _ sd sx ∧ @LT.lt Nat _ sx spb ∧ @LT.lt Nat _ spb c ∧ @LT.lt Nat _ c f ∧ @LT.lt Nat _ f d ∧ @LT.lt Nat _ d x ∧ @LT.lt Nat _ x pb)
  (hoff : ∀ p ∈ news, p.1 ≠ d ∧ p.1 ≠ lf)
  (hoffq : ∀ p ∈ (I, ciObj q (Str.ofString "") te) :: (q, methodObj (.ref 66) (.ref x)) :: news, p.1 ≠ d ∧ p.1 ≠ lf)
  (B : Below A₀ base outer h₀) (X : (hd.heap_39 w.params).In h₀) (T : Top topProg lo mean mg mb h₀)
  (CH : CodeHd base 110 106) (hdp : dp < 780) (hun : un < 7780)
  (hts : ∀ v ∈ ts, v = 46 ∨ v = 13 ∨ v = 10) (hC : Chars lv (ts ++ 34 :: rest)) (hlv : lv.length < 1000) (hacc : ts.length < 1000)
  (F : Fr h₀ L s.heap (fun y => if y = Str.ofString "ch" then uc else if y = Str.ofString "token" then some (.str (Str.ofString "") ta) else mG I x y))
  (N : News h₀ L s.heap ((d, dictOf [{ hash := PyData.keyHash w.params (Str.ofString "lineno"), key := Value.str (Str.ofString "lineno") k1, val := Value.int ln tl }, { hash := PyData.keyHash w.params (Str.ofString "instream"), key := Value.str (Str.ofString "instream") k2, val := Value.ref sx },
      { hash := PyData.keyHash w.params (Str.ofString "whitespace"), key := Value.str (Str.ofString "whitespace") k3, val := Value.str (Str.ofString "\n\t\x0d ") tw }, { hash := PyData.keyHash w.params (Str.ofString "pushback"), key := Value.str (Str.ofString "pushback") k4, val := Value.ref pb }] 4) :: (lf, W.listOf (.str ⟨#[34]⟩ tv :: lv).toArray nlf) :: (x, instObj 83 d) :: (f, fnMade (Str.ofString "_law_next") fq { posonlyargs := [], args := [{ arg := Str.ofString "size", annotation := none, pos := { line := 98, col := 18, endLine := 98, endCol := 22 } }], vararg := none, kwonlyargs := [], kw_defaults := [], kwarg := none, defaults := [] }
    [Stmt.Return (some ((Expr.Name (Str.ofString "left") { line := 99, col := 30, endLine := 99, endCol := 34 }).IfExp
      (((Expr.Name (Str.ofString "left") { line := 99, col := 15, endLine := 99, endCol := 19 }).Attribute (Str.ofString "pop") { line := 99, col := 15, endLine := 99, endCol := 23 }).Call [Expr.Constant (Const.int 0) 0 { line := 99, col := 24, endLine := 99, endCol := 25 }] [] { line := 99, col := 15, endLine := 99, endCol := 26 })
      (Expr.Constant (Const.str (Str.ofString "")) 0 { line := 99, col := 40, endLine := 99, endCol := 42 }) { line := 99, col := 15, endLine := 99, endCol := 42 })) { line := 99, col := 8, endLine := 99, endCol := 42 }]
    { kind := ScopeKind.function, names := [(Str.ofString "size", NameKind.local), (Str.ofString "left", NameKind.free)], isGenerator := false, isCoroutine := false } [(Str.ofString "left", cell)] doc pm c ct) :: (c, oc) :: (sx, instObj 83 sd) ::
    (sd, dictOf [{ hash := PyData.keyHash w.params (Str.ofString "lineno"), key := Value.str (Str.ofString "lineno") j1, val := Value.int jn jl }, { hash := PyData.keyHash w.params (Str.ofString "instream"), key := Value.str (Str.ofString "instream") j2, val := Value.none },
      { hash := PyData.keyHash w.params (Str.ofString "whitespace"), key := Value.str (Str.ofString "whitespace") j3, val := Value.str (Str.ofString "\n\t\x0d ") jw }, { hash := PyData.keyHash w.params (Str.ofString "pushback"), key := Value.str (Str.ofString "pushback") j4, val := Value.ref spb },
      { hash := PyData.keyHash w.params (Str.ofString "read"), key := Value.str (Str.ofString "read") j5, val := Value.ref f }] 5) :: (cell, ocl) :: (I, ciObj q (Str.ofString "") te) :: (q, methodObj (.ref 66) (.ref x)) :: news))
  (hret : ∀ (t : Tok) (h' : Heap) (tk' : Nat) (ln' : Int) (tl' nlf' : Nat) (lv : List Value) (uc : Option Value), Chars lv rest → Fr h₀ L h' (fun y => if y = Str.ofString "ch" then uc else if y = Str.ofString "token" then some (.str (pushes (Str.ofString "") ts) t) else mG I x y) → News h₀ L h' ((d, dictOf [{ hash := PyData.keyHash w.params (Str.ofString "lineno"), key := Value.str (Str.ofString "lineno") k1, val := Value.int ln' tl' }, { hash := PyData.keyHash w.params (Str.ofString "instream"), key := Value.str (Str.ofString "instream") k2, val := Value.ref sx },
      { hash := PyData.keyHash w.params (Str.ofString "whitespace"), key := Value.str (Str.ofString "whitespace") k3, val := Value.str (Str.ofString "\n\t\x0d ") tw }, { hash := PyData.keyHash w.params (Str.ofString "pushback"), key := Value.str (Str.ofString "pushback") k4, val := Value.ref pb }] 4) :: (lf, W.listOf lv.toArray nlf') :: (x, instObj 83 d) :: (f, fnMade (Str.ofString "_law_next") fq { posonlyargs := [], args := [{ arg := Str.ofString "size", annotation := none, pos := { line := 98, col := 18, endLine := 98, endCol := 22 } }], vararg := none, kwonlyargs := [], kw_defaults := [], kwarg := none, defaults := [] }
    [Stmt.Return (some ((Expr.Name (Str.ofString "left") { line := 99, col := 30, endLine := 99, endCol := 34 }).IfExp
      (((Expr.Name (Str.ofString "left") { line := 99, col := 15, endLine := 99, endCol := 19 }).Attribute (Str.ofString "pop") { line := 99, col := 15, endLine := 99, endCol := 23 }).Call [Expr.Constant (Const.int 0) 0 { line := 99, col := 24, endLine := 99, endCol := 25 }] [] { line := 99, col := 15, endLine := 99, endCol := 26 })
      (Expr.Constant (Const.str (Str.ofString "")) 0 { line := 99, col := 40, endLine := 99, endCol := 42 }) { line := 99, col := 15, endLine := 99, endCol := 42 })) { line := 99, col := 8, endLine := 99, endCol := 42 }]
    { kind := ScopeKind.function, names := [(Str.ofString "size", NameKind.local), (Str.ofString "left", NameKind.free)], isGenerator := false, isCoroutine := false } [(Str.ofString "left", cell)] doc pm c ct) :: (c, oc) :: (sx, instObj 83 sd) ::
    (sd, dictOf [{ hash := PyData.keyHash w.params (Str.ofString "lineno"), key := Value.str (Str.ofString "lineno") j1, val := Value.int jn jl }, { hash := PyData.keyHash w.params (Str.ofString "instream"), key := Value.str (Str.ofString "instream") j2, val := Value.none },
      { hash := PyData.keyHash w.params (Str.ofString "whitespace"), key := Value.str (Str.ofString "whitespace") j3, val := Value.str (Str.ofString "\n\t\x0d ") jw }, { hash := PyData.keyHash w.params (Str.ofString "pushback"), key := Value.str (Str.ofString "pushback") j4, val := Value.ref spb },
      { hash := PyData.keyHash w.params (Str.ofString "read"), key := Value.str (Str.ofString "read") j5, val := Value.ref f }] 5) :: (cell, ocl) :: (I, ciObj q (Str.ofString "") te) :: (q, methodObj (.ref 66) (.ref x)) :: news) → R (.ok (.ret (.str (pushes (Str.ofString "") ts) t))) { s with heap := h', toks := tk' }) :
  codeAny (model prg w) (ktrTop dp un gd cn scG L 73 (.ref 72) [] outer) (.forLoop (.Name (Str.ofString "ch") { line := 63, col := 12, endLine := 63, endCol := 14 }) (.ref I) [Stmt.If ((Expr.Name (Str.ofString "ch") { line := 64, col := 15, endLine := 64, endCol := 17 }).Compare [CmpOp.In] [(Expr.Name (Str.ofString "self") { line := 64, col := 21, endLine := 64, endCol := 25 }).Attribute (Str.ofString "whitespace") { line := 64, col := 21, endLine := 64, endCol := 36 }] { line := 64, col := 15, endLine := 64, endCol := 36 }) [Stmt.Continue { line := 65, col := 16, endLine := 65, endCol := 24 }] [] { line := 64, col := 12, endLine := 65, endCol := 24 }, Stmt.If ((Expr.Name (Str.ofString "ch") { line := 66, col := 15, endLine := 66, endCol := 17 }).Compare [CmpOp.Eq] [Expr.Constant (Const.str (Str.ofString "\"")) 0 { line := 66, col := 21, endLine := 66, endCol := 24 }] { line := 66, col := 15, endLine := 66, endCol := 24 }) [Stmt.For (Expr.Name (Str.ofString "ch") { line := 67, col := 20, endLine := 67, endCol := 22 }) (Expr.Name (Str.ofString "fiter") { line := 67, col := 26, endLine := 67, endCol := 31 }) [Stmt.If ((Expr.Name (Str.ofString "ch") { line := 68, col := 23, endLine := 68, endCol := 25 }).Compare [CmpOp.Eq] [Expr.Constant (Const.str (Str.ofString "\"")) 0 { line := 68, col := 29, endLine := 68, endCol := 32 }] { line := 68, col := 23, endLine := 68, endCol := 32 }) [Stmt.Return (some (Expr.Name (Str.ofString "token") { line := 69, col := 31, endLine := 69, endCol := 36 })) { line := 69, col := 24, endLine := 69, endCol := 36 }] [Stmt.If ((Expr.Name (Str.ofString "ch") { line := 70, col := 25, endLine := 70, endCol := 27 }).Compare [CmpOp.Eq] [Expr.Constant (Const.str (Str.ofString "\\")) 0 { line := 70, col := 31, endLine := 70, endCol := 35 }] { line := 70, col := 25, endLine := 70, endCol := 35 }) [Stmt.Assign [Expr.Name (Str.ofString "ch") { line := 71, col := 24, endLine := 71, endCol := 26 }] (((Expr.Name (Str.ofString "self") { line := 71, col := 29, endLine := 71, endCol := 33 }).Attribute (Str.ofString "_read_char") { line := 71, col := 29, endLine := 71, endCol := 44 }).Call [] [] { line := 71, col := 29, endLine := 71, endCol := 46 }) { line := 71, col := 24, endLine := 71, endCol := 46 }] [] { line := 70, col := 20, endLine := 71, endCol := 46 }] { line := 68, col := 20, endLine := 71, endCol := 46 }, Stmt.AugAssign (Expr.Name (Str.ofString "token") { line := 72, col := 20, endLine := 72, endCol := 25 }) Operator.Add (Expr.Name (Str.ofString "ch") { line := 72, col := 29, endLine := 72, endCol := 31 }) { line := 72, col := 20, endLine := 72, endCol := 31 }] [] { line := 67, col := 16, endLine := 72, endCol := 31 }] [Stmt.If ((Expr.Name (Str.ofString "ch") { line := 74, col := 19, endLine := 74, endCol := 21 }).Compare [CmpOp.Eq] [Expr.Constant (Const.str (Str.ofString "\\")) 0 { line := 74, col := 25, endLine := 74, endCol := 29 }] { line := 74, col := 19, endLine := 74, endCol := 29 }) [Stmt.Assign [Expr.Name (Str.ofString "ch") { line := 75, col := 20, endLine := 75, endCol := 22 }] (((Expr.Name (Str.ofString "self") { line := 75, col := 25, endLine := 75, endCol := 29 }).Attribute (Str.ofString "_read_char") { line := 75, col := 25, endLine := 75, endCol := 40 }).Call [] [] { line := 75, col := 25, endLine := 75, endCol := 42 }) { line := 75, col := 20, endLine := 75, endCol := 42 }] [] { line := 74, col := 16, endLine := 75, endCol := 42 }, Stmt.AugAssign (Expr.Name (Str.ofString "token") { line := 76, col := 16, endLine := 76, endCol := 21 }) Operator.Add (Expr.Name (Str.ofString "ch") { line := 76, col := 25, endLine := 76, endCol := 27 }) { line := 76, col := 16, endLine := 76, endCol := 27 }, Stmt.For (Expr.Name (Str.ofString "ch") { line := 77, col := 20, endLine := 77, endCol := 22 }) (Expr.Name (Str.ofString "fiter") { line := 77, col := 26, endLine := 77, endCol := 31 }) [Stmt.If ((Expr.Name (Str.ofString "ch") { line := 78, col := 23, endLine := 78, endCol := 25 }).Compare [CmpOp.In] [(Expr.Name (Str.ofString "self") { line := 78, col := 29, endLine := 78, endCol := 33 }).Attribute (Str.ofString "whitespace") { line := 78, col := 29, endLine := 78, endCol := 44 }] { line := 78, col := 23, endLine := 78, endCol := 44 }) [Stmt.Return (some (Expr.Name (Str.ofString "token") { line := 79, col := 31, endLine := 79, endCol := 36 })) { line := 79, col := 24, endLine := 79, endCol := 36 }] [Stmt.If ((Expr.Name (Str.ofString "ch") { line := 80, col := 25, endLine := 80, endCol := 27 }).Compare [CmpOp.Eq] [Expr.Constant (Const.str (Str.ofString "\\")) 0 { line := 80, col := 31, endLine := 80, endCol := 35 }] { line := 80, col := 25, endLine := 80, endCol := 35 }) [Stmt.Assign [Expr.Name (Str.ofString "ch") { line := 81, col := 24, endLine := 81, endCol := 26 }] (((Expr.Name (Str.ofString "self") { line := 81, col := 29, endLine := 81, endCol := 33 }).Attribute (Str.ofString "_read_char") { line := 81, col := 29, endLine := 81, endCol := 44 }).Call [] [] { line := 81, col := 29, endLine := 81, endCol := 46 }) { line := 81, col := 24, endLine := 81, endCol := 46 }] [] { line := 80, col := 20, endLine := 81, endCol := 46 }] { line := 78, col := 20, endLine := 81, endCol := 46 }, Stmt.AugAssign (Expr.Name (Str.ofString "token") { line := 82, col := 20, endLine := 82, endCol := 25 }) Operator.Add (Expr.Name (Str.ofString "ch") { line := 82, col := 29, endLine := 82, endCol := 31 }) { line := 82, col := 20, endLine := 82, endCol := 31 }] [] { line := 77, col := 16, endLine := 82, endCol := 31 }] { line := 66, col := 12, endLine := 82, endCol := 31 }] [] (envOf (Str.ofString "_netrclex.get_token") scG L 73 (.ref 72))) R s := by
    refine for_step ?_
    have gI := (N (I, ciObj q (Str.ofString "") te) (by k_mem)).1
    have gq := (N (q, methodObj (.ref 66) (.ref x)) (by k_mem)).1
    refine next_ci gI gq (F.keep _ _ (X 66 _ rfl)) rfl (read_k hc1 hc2 hcell hord hoffq B F X N T rfl CH hlv (by (first | exact Nat.lt_of_lt_of_le (Nat.add_lt_add_right hdp _) (by decide) | exact Nat.lt_of_lt_of_le hdp (by decide) | omega | ((try simp only [depth_under_make, depth_under_kw, depth_in1, depth_deeper, depth_caller]); (try dsimp only [ktrTop]); omega))) (by (first | exact Nat.lt_of_lt_of_le (Nat.add_lt_add_right hun _) (by decide) | exact Nat.lt_of_lt_of_le hun (by decide) | omega | ((try simp only [units_in1, units_deeper, Around.mark_units, units_caller]); (try dsimp only [ktrTop]); omega))) (fun t h' tk' ln' tl' nlf' F' N' => ?_))
    refine ⟨(N' (I, ciObj q (Str.ofString "") te) (by k_mem)).1, _, _, rfl, by decide +kernel, ?_⟩
    refine wpAny_assign_Name (wpAny_storeName_local rfl F'.ns (fun h₂ hn₂ hs₂ => ?_) rfl)
    replace F' := F'.set hn₂ hs₂
    replace N' := N'.set hs₂
    rw [map_ch] at F'
    w_top off
    k_with_none
    k_with "exec For Name Name cons nil" => (k_here; k_dflt (refine wpAny_For ?_))
    k_with "pyIter ref" => (k_here; k_dflt (refine iter_ci (News.get (by k_asm) (by k_mem)) ?_))
    k_steps
    · exact inner_k hc1 hc2 hcell hord hoff hoffq B X T CH hdp (by omega) ts _ _ _ lv _ _ _ _ hts hC hlv (by rw [show (Str.ofString "").length = 0 by decide +kernel]; omega) (by k_asm) (by k_asm) (fun t h' tk' ln' tl' nlf' lv uc hC F N => hret t h' tk' ln' tl' nlf' lv uc hC F N)
    · exact absurd (by assumption : (Builtin.Str.occurrences (Str.ofString "\n\t\x0d ") { cps := #[34] } 0 (Str.ofString "\n\t\x0d ").length 1).isEmpty = false) (by decide +kernel)
theorem outer_w {R : Result → Shared → Prop} {x d pb f c lf cell sx sd spb : Addr} {k1 k2 k3 k4 tw j1 j2 j3 j4 j5 jl jw tq : Nat} {jn : Int} {fq : Str} {doc pm ct : Value} {oc ocl : Obj} {vsc : Array Value} {ln : Int} {tl nlf : Nat} {lv : List Value} {I q : Addr} {te ta tv tv2 : Tok} {uc : Option Value} {rest ts : List Nat} (hc1 : oc.data = Data.fields vsc) (hc2 : vsc[1]? = some (.str fq tq)) (hcell : ocl.data = Data.cell (some (.ref lf)))
  (hord : @LT.lt Nat _ cell lf ∧ @LT.lt Nat _ lf sd ∧ @LT.lt Nat _ sd sx ∧ @LT.lt Nat _ sx spb ∧ @LT.lt Nat _ spb c ∧ @LT.lt Nat _ c f ∧ @LT.lt Nat _ f d ∧ @LT.lt Nat _ d x ∧ @LT.lt Nat _ x pb)
  (hoff : ∀ p ∈ news, p.1 ≠ d ∧ p.1 ≠ lf)
  (hoffq : ∀ p ∈ (I, ciObj q (Str.ofString "") te) :: (q, methodObj (.ref 66) (.ref x)) :: news, p.1 ≠ d ∧ p.1 ≠ lf)
  (B : Below A₀ base outer h₀) (X : (hd.heap_39 w.params).In h₀) (T : Top topProg lo mean mg mb h₀)
  (CH : CodeHd base 110 106) (hdp : dp < 780) (hun : un < 7780)
  (hts : ∀ v ∈ ts, v = 46 ∨ v = 13 ∨ v = 10) (hC : Chars lv (ts ++ 34 :: rest)) (hlv : lv.length < 900) (hacc : ts.length < 1000)
  (F : Fr h₀ L s.heap (fun y => if y = Str.ofString "ch" then uc else if y = Str.ofString "token" then some (.str (Str.ofString "") ta) else mG I x y))
  (N : News h₀ L s.heap ((d, dictOf [{ hash := PyData.keyHash w.params (Str.ofString "lineno"), key := Value.str (Str.ofString "lineno") k1, val := Value.int ln tl }, { hash := PyData.keyHash w.params (Str.ofString "instream"), key := Value.str (Str.ofString "instream") k2, val := Value.ref sx },
      { hash := PyData.keyHash w.params (Str.ofString "whitespace"), key := Value.str (Str.ofString "whitespace") k3, val := Value.str (Str.ofString "\n\t\x0d ") tw }, { hash := PyData.keyHash w.params (Str.ofString "pushback"), key := Value.str (Str.ofString "pushback") k4, val := Value.ref pb }] 4) :: (lf, W.listOf (.str ⟨#[32]⟩ tv2 :: .str ⟨#[34]⟩ tv :: lv).toArray nlf) :: (x, instObj 83 d) :: (f, fnMade (Str.ofString "_law_next") fq { posonlyargs := [], args := [{ arg := Str.ofString "size", annotation := none, pos := { line := 98, col := 18, endLine := 98, endCol := 22 } }], vararg := none, kwonlyargs := [], kw_defaults := [], kwarg := none, defaults := [] }
    [Stmt.Return (some ((Expr.Name (Str.ofString "left") { line := 99, col := 30, endLine := 99, endCol := 34 }).IfExp
      (((Expr.Name (Str.ofString "left") { line := 99, col := 15, endLine := 99, endCol := 19 }).Attribute (Str.ofString "pop") { line := 99, col := 15, endLine := 99, endCol := 23 }).Call [Expr.Constant (Const.int 0) 0 { line := 99, col := 24, endLine := 99, endCol := 25 }] [] { line := 99, col := 15, endLine := 99, endCol := 26 })
      (Expr.Constant (Const.str (Str.ofString "")) 0 { line := 99, col := 40, endLine := 99, endCol := 42 }) { line := 99, col := 15, endLine := 99, endCol := 42 })) { line := 99, col := 8, endLine := 99, endCol := 42 }]
    { kind := ScopeKind.function, names := [(Str.ofString "size", NameKind.local), (Str.ofString "left", NameKind.free)], isGenerator := false, isCoroutine := false } [(Str.ofString "left", cell)] doc pm c ct) :: (c, oc) :: (sx, instObj 83 sd) ::
    (sd, dictOf [{ hash := PyData.keyHash w.params (Str.ofString "lineno"), key := Value.str (Str.ofString "lineno") j1, val := Value.int jn jl }, { hash := PyData.keyHash w.params (Str.ofString "instream"), key := Value.str (Str.ofString "instream") j2, val := Value.none },
      { hash := PyData.keyHash w.params (Str.ofString "whitespace"), key := Value.str (Str.ofString "whitespace") j3, val := Value.str (Str.ofString "\n\t\x0d ") jw }, { hash := PyData.keyHash w.params (Str.ofString "pushback"), key := Value.str (Str.ofString "pushback") j4, val := Value.ref spb },
      { hash := PyData.keyHash w.params (Str.ofString "read"), key := Value.str (Str.ofString "read") j5, val := Value.ref f }] 5) :: (cell, ocl) :: (I, ciObj q (Str.ofString "") te) :: (q, methodObj (.ref 66) (.ref x)) :: news))
  (hret : ∀ (t : Tok) (h' : Heap) (tk' : Nat) (ln' : Int) (tl' nlf' : Nat) (lv : List Value) (uc : Option Value), Chars lv rest → Fr h₀ L h' (fun y => if y = Str.ofString "ch" then uc else if y = Str.ofString "token" then some (.str (pushes (Str.ofString "") ts) t) else mG I x y) → News h₀ L h' ((d, dictOf [{ hash := PyData.keyHash w.params (Str.ofString "lineno"), key := Value.str (Str.ofString "lineno") k1, val := Value.int ln' tl' }, { hash := PyData.keyHash w.params (Str.ofString "instream"), key := Value.str (Str.ofString "instream") k2, val := Value.ref sx },
      { hash := PyData.keyHash w.params (Str.ofString "whitespace"), key := Value.str (Str.ofString "whitespace") k3, val := Value.str (Str.ofString "\n\t\x0d ") tw }, { hash := PyData.keyHash w.params (Str.ofString "pushback"), key := Value.str (Str.ofString "pushback") k4, val := Value.ref pb }] 4) :: (lf, W.listOf lv.toArray nlf') :: (x, instObj 83 d) :: (f, fnMade (Str.ofString "_law_next") fq { posonlyargs := [], args := [{ arg := Str.ofString "size", annotation := none, pos := { line := 98, col := 18, endLine := 98, endCol := 22 } }], vararg := none, kwonlyargs := [], kw_defaults := [], kwarg := none, defaults := [] }
    [Stmt.Return (some ((Expr.Name (Str.ofString "left") { line := 99, col := 30, endLine := 99, endCol := 34 }).IfExp
      (((Expr.Name (Str.ofString "left") { line := 99, col := 15, endLine := 99, endCol := 19 }).Attribute (Str.ofString "pop") { line := 99, col := 15, endLine := 99, endCol := 23 }).Call [Expr.Constant (Const.int 0) 0 { line := 99, col := 24, endLine := 99, endCol := 25 }] [] { line := 99, col := 15, endLine := 99, endCol := 26 })
      (Expr.Constant (Const.str (Str.ofString "")) 0 { line := 99, col := 40, endLine := 99, endCol := 42 }) { line := 99, col := 15, endLine := 99, endCol := 42 })) { line := 99, col := 8, endLine := 99, endCol := 42 }]
    { kind := ScopeKind.function, names := [(Str.ofString "size", NameKind.local), (Str.ofString "left", NameKind.free)], isGenerator := false, isCoroutine := false } [(Str.ofString "left", cell)] doc pm c ct) :: (c, oc) :: (sx, instObj 83 sd) ::
    (sd, dictOf [{ hash := PyData.keyHash w.params (Str.ofString "lineno"), key := Value.str (Str.ofString "lineno") j1, val := Value.int jn jl }, { hash := PyData.keyHash w.params (Str.ofString "instream"), key := Value.str (Str.ofString "instream") j2, val := Value.none },
      { hash := PyData.keyHash w.params (Str.ofString "whitespace"), key := Value.str (Str.ofString "whitespace") j3, val := Value.str (Str.ofString "\n\t\x0d ") jw }, { hash := PyData.keyHash w.params (Str.ofString "pushback"), key := Value.str (Str.ofString "pushback") j4, val := Value.ref spb },
      { hash := PyData.keyHash w.params (Str.ofString "read"), key := Value.str (Str.ofString "read") j5, val := Value.ref f }] 5) :: (cell, ocl) :: (I, ciObj q (Str.ofString "") te) :: (q, methodObj (.ref 66) (.ref x)) :: news) → R (.ok (.ret (.str (pushes (Str.ofString "") ts) t))) { s with heap := h', toks := tk' }) :
  codeAny (model prg w) (ktrTop dp un gd cn scG L 73 (.ref 72) [] outer) (.forLoop (.Name (Str.ofString "ch") { line := 63, col := 12, endLine := 63, endCol := 14 }) (.ref I) [Stmt.If ((Expr.Name (Str.ofString "ch") { line := 64, col := 15, endLine := 64, endCol := 17 }).Compare [CmpOp.In] [(Expr.Name (Str.ofString "self") { line := 64, col := 21, endLine := 64, endCol := 25 }).Attribute (Str.ofString "whitespace") { line := 64, col := 21, endLine := 64, endCol := 36 }] { line := 64, col := 15, endLine := 64, endCol := 36 }) [Stmt.Continue { line := 65, col := 16, endLine := 65, endCol := 24 }] [] { line := 64, col := 12, endLine := 65, endCol := 24 }, Stmt.If ((Expr.Name (Str.ofString "ch") { line := 66, col := 15, endLine := 66, endCol := 17 }).Compare [CmpOp.Eq] [Expr.Constant (Const.str (Str.ofString "\"")) 0 { line := 66, col := 21, endLine := 66, endCol := 24 }] { line := 66, col := 15, endLine := 66, endCol := 24 }) [Stmt.For (Expr.Name (Str.ofString "ch") { line := 67, col := 20, endLine := 67, endCol := 22 }) (Expr.Name (Str.ofString "fiter") { line := 67, col := 26, endLine := 67, endCol := 31 }) [Stmt.If ((Expr.Name (Str.ofString "ch") { line := 68, col := 23, endLine := 68, endCol := 25 }).Compare [CmpOp.Eq] [Expr.Constant (Const.str (Str.ofString "\"")) 0 { line := 68, col := 29, endLine := 68, endCol := 32 }] { line := 68, col := 23, endLine := 68, endCol := 32 }) [Stmt.Return (some (Expr.Name (Str.ofString "token") { line := 69, col := 31, endLine := 69, endCol := 36 })) { line := 69, col := 24, endLine := 69, endCol := 36 }] [Stmt.If ((Expr.Name (Str.ofString "ch") { line := 70, col := 25, endLine := 70, endCol := 27 }).Compare [CmpOp.Eq] [Expr.Constant (Const.str (Str.ofString "\\")) 0 { line := 70, col := 31, endLine := 70, endCol := 35 }] { line := 70, col := 25, endLine := 70, endCol := 35 }) [Stmt.Assign [Expr.Name (Str.ofString "ch") { line := 71, col := 24, endLine := 71, endCol := 26 }] (((Expr.Name (Str.ofString "self") { line := 71, col := 29, endLine := 71, endCol := 33 }).Attribute (Str.ofString "_read_char") { line := 71, col := 29, endLine := 71, endCol := 44 }).Call [] [] { line := 71, col := 29, endLine := 71, endCol := 46 }) { line := 71, col := 24, endLine := 71, endCol := 46 }] [] { line := 70, col := 20, endLine := 71, endCol := 46 }] { line := 68, col := 20, endLine := 71, endCol := 46 }, Stmt.AugAssign (Expr.Name (Str.ofString "token") { line := 72, col := 20, endLine := 72, endCol := 25 }) Operator.Add (Expr.Name (Str.ofString "ch") { line := 72, col := 29, endLine := 72, endCol := 31 }) { line := 72, col := 20, endLine := 72, endCol := 31 }] [] { line := 67, col := 16, endLine := 72, endCol := 31 }] [Stmt.If ((Expr.Name (Str.ofString "ch") { line := 74, col := 19, endLine := 74, endCol := 21 }).Compare [CmpOp.Eq] [Expr.Constant (Const.str (Str.ofString "\\")) 0 { line := 74, col := 25, endLine := 74, endCol := 29 }] { line := 74, col := 19, endLine := 74, endCol := 29 }) [Stmt.Assign [Expr.Name (Str.ofString "ch") { line := 75, col := 20, endLine := 75, endCol := 22 }] (((Expr.Name (Str.ofString "self") { line := 75, col := 25, endLine := 75, endCol := 29 }).Attribute (Str.ofString "_read_char") { line := 75, col := 25, endLine := 75, endCol := 40 }).Call [] [] { line := 75, col := 25, endLine := 75, endCol := 42 }) { line := 75, col := 20, endLine := 75, endCol := 42 }] [] { line := 74, col := 16, endLine := 75, endCol := 42 }, Stmt.AugAssign (Expr.Name (Str.ofString "token") { line := 76, col := 16, endLine := 76, endCol := 21 }) Operator.Add (Expr.Name (Str.ofString "ch") { line := 76, col := 25, endLine := 76, endCol := 27 }) { line := 76, col := 16, endLine := 76, endCol := 27 }, Stmt.For (Expr.Name (Str.ofString "ch") { line := 77, col := 20, endLine := 77, endCol := 22 }) (Expr.Name (Str.ofString "fiter") { line := 77, col := 26, endLine := 77, endCol := 31 }) [Stmt.If ((Expr.Name (Str.ofString "ch") { line := 78, col := 23, endLine := 78, endCol := 25 }).Compare [CmpOp.In] [(Expr.Name (Str.ofString "self") { line := 78, col := 29, endLine := 78, endCol := 33 }).Attribute (Str.ofString "whitespace") { line := 78, col := 29, endLine := 78, endCol := 44 }] { line := 78, col := 23, endLine := 78, endCol := 44 }) [Stmt.Return (some (Expr.Name (Str.ofString "token") { line := 79, col := 31, endLine := 79, endCol := 36 })) { line := 79, col := 24, endLine := 79, endCol := 36 }] [Stmt.If ((Expr.Name (Str.ofString "ch") { line := 80, col := 25, endLine := 80, endCol := 27 }).Compare [CmpOp.Eq] [Expr.Constant (Const.str (Str.ofString "\\")) 0 { line := 80, col := 31, endLine := 80, endCol := 35 }] { line := 80, col := 25, endLine := 80, endCol := 35 }) [Stmt.Assign [Expr.Name (Str.ofString "ch") { line := 81, col := 24, endLine := 81, endCol := 26 }] (((Expr.Name (Str.ofString "self") { line := 81, col := 29, endLine := 81, endCol := 33 }).Attribute (Str.ofString "_read_char") { line := 81, col := 29, endLine := 81, endCol := 44 }).Call [] [] { line := 81, col := 29, endLine := 81, endCol := 46 }) { line := 81, col := 24, endLine := 81, endCol := 46 }] [] { line := 80, col := 20, endLine := 81, endCol := 46 }] { line := 78, col := 20, endLine := 81, endCol := 46 }, Stmt.AugAssign (Expr.Name (Str.ofString "token") { line := 82, col := 20, endLine := 82, endCol := 25 }) Operator.Add (Expr.Name (Str.ofString "ch") { line := 82, col := 29, endLine := 82, endCol := 31 }) { line := 82, col := 20, endLine := 82, endCol := 31 }] [] { line := 77, col := 16, endLine := 82, endCol := 31 }] { line := 66, col := 12, endLine := 82, endCol := 31 }] [] (envOf (Str.ofString "_netrclex.get_token") scG L 73 (.ref 72))) R s := by
    refine for_step ?_
    have gI := (N (I, ciObj q (Str.ofString "") te) (by k_mem)).1
    have gq := (N (q, methodObj (.ref 66) (.ref x)) (by k_mem)).1
    refine next_ci gI gq (F.keep _ _ (X 66 _ rfl)) rfl (read_k hc1 hc2 hcell hord hoffq B F X N T rfl CH (by simp only [List.length_cons]; omega) (by (first | exact Nat.lt_of_lt_of_le (Nat.add_lt_add_right hdp _) (by decide) | exact Nat.lt_of_lt_of_le hdp (by decide) | omega | ((try simp only [depth_under_make, depth_under_kw, depth_in1, depth_deeper, depth_caller]); (try dsimp only [ktrTop]); omega))) (by (first | exact Nat.lt_of_lt_of_le (Nat.add_lt_add_right hun _) (by decide) | exact Nat.lt_of_lt_of_le hun (by decide) | omega | ((try simp only [units_in1, units_deeper, Around.mark_units, units_caller]); (try dsimp only [ktrTop]); omega))) (fun t h' tk' ln' tl' nlf' F' N' => ?_))
    refine ⟨(N' (I, ciObj q (Str.ofString "") te) (by k_mem)).1, _, _, rfl, by decide +kernel, ?_⟩
    refine wpAny_assign_Name (wpAny_storeName_local rfl F'.ns (fun h₂ hn₂ hs₂ => ?_) rfl)
    replace F' := F'.set hn₂ hs₂
    replace N' := N'.set hs₂
    rw [map_ch] at F'
    w_top off
    k_with_none
    k_with "exec For Name Name cons nil" => (k_here; k_dflt (refine wpAny_For ?_))
    k_with "pyIter ref" => (k_here; k_dflt (refine iter_ci (News.get (by k_asm) (by k_mem)) ?_))
    k_steps
    · exact absurd (by assumption : (Builtin.Str.occurrences (Str.ofString "\n\t\x0d ") { cps := #[32] } 0 (Str.ofString "\n\t\x0d ").length 1).isEmpty = true) (by decide +kernel)
    · exact outer_k hc1 hc2 hcell hord hoff hoffq B X T CH hdp (by omega) hts hC (by omega) hacc (by k_asm) (by k_asm) (fun t h' tk' ln' tl' nlf' lv uc hC F N => hret t h' tk' ln' tl' nlf' lv uc hC F N)
end
end
section
open PySem PySem.W PyProof.Rows
set_option maxRecDepth 100000
set_option maxHeartbeats 8000000


theorem fr_tok {h₀ h : Heap} {L I x : Addr} {m : Str → Option Value} {v : Option Value} (F : Fr h₀ L h m) (e : m = fun y => if y = Str.ofString "fiter" then some (.ref I) else if y = Str.ofString "token" then v else if y = Str.ofString "self" then some (.ref x) else none) :
    Fr h₀ L h (fun y => if y = Str.ofString "ch" then none else if y = Str.ofString "token" then v else mG I x y) := by
  have e2 : m = (fun y => if y = Str.ofString "ch" then none else if y = Str.ofString "token" then v else mG I x y) := by
    rw [e]
    funext y
    by_cases h1 : y = Str.ofString "ch"
    · subst h1; rw [if_pos rfl, if_neg (by decide), if_neg (by decide), if_neg (by decide)]
    · rw [if_neg h1]
      unfold mG
      by_cases h2 : y = Str.ofString "token"
      · subst h2; rw [if_neg (by decide), if_pos rfl, if_pos rfl]
      · rw [if_neg h2, if_neg h2]
  exact e2 ▸ F
theorem lk_one {k : Str} {v : Value} (y : Str) : List.lookup y [(k, v)] = if y = k then some v else none := by
  rw [List.lookup_cons]
  by_cases h : y = k
  · subst h; simp
  · have : (y == k) = false := by simpa using h
    rw [this, if_neg h]; rfl
section
variable {w : World} {mean : ExcName → Option Value} {mg mb : Str → Option Value} {dp un : Nat} {gd : Option (List Code)} {cn : Str} {cs : Scope} {fa : Addr} {ccd : Value} {cl : List (Str × Addr)} {outer : List Env} {A A₀ : Around} {base h₀ : Heap} {L : Addr} {m : Str → Option Value} {s : Shared} {Q E : Value → Shared → Prop} {news : List (Addr × Obj)}

theorem truthy_nil {l : Addr} {n : Nat} {Q : Bool → Shared → Prop} (N : News h₀ L s.heap news) (hm : (l, W.listOf #[] n) ∈ news) (h : Q false { s with toks := s.toks + 1 + 1 }) :
    wpAny (model prg w) A (truthy (.ref l)) Q E s := 
  wpAny_truthy_list (items := #[]) ⟨_, (N _ hm).1, rfl, _, rfl⟩ (by decide) h
theorem token_1 {x d pb f c lf cell sx sd spb : Addr} {k1 k2 k3 k4 tw j1 j2 j3 j4 j5 jl jw tq : Nat} {jn : Int} {fq : Str} {doc pm ct : Value} {oc ocl : Obj} {vsc : Array Value} {ln : Int} {tl nlf : Nat} {lv : List Value} {npb : Nat} {tv : Tok} {rest ts : List Nat} (hc1 : oc.data = Data.fields vsc) (hc2 : vsc[1]? = some (.str fq tq)) (hcell : ocl.data = Data.cell (some (.ref lf)))
  (hord : @LT.lt Nat _ cell lf ∧ @LT.lt Nat _ lf sd ∧ @LT.lt Nat _ sd sx ∧ @LT.lt Nat _ sx spb ∧ @LT.lt Nat _ spb c ∧ @LT.lt Nat _ c f ∧ @LT.lt Nat _ f d ∧ @LT.lt Nat _ d x ∧ @LT.lt Nat _ x pb)
  (hoff : ∀ p ∈ news, p.1 ≠ d ∧ p.1 ≠ lf)
  (B : Below A₀ base outer h₀) (F : Fr h₀ L s.heap m) (X : (hd.heap_39 w.params).In h₀)
  (N : News h₀ L s.heap ((d, dictOf [{ hash := PyData.keyHash w.params (Str.ofString "lineno"), key := Value.str (Str.ofString "lineno") k1, val := Value.int ln tl }, { hash := PyData.keyHash w.params (Str.ofString "instream"), key := Value.str (Str.ofString "instream") k2, val := Value.ref sx },
      { hash := PyData.keyHash w.params (Str.ofString "whitespace"), key := Value.str (Str.ofString "whitespace") k3, val := Value.str (Str.ofString "\n\t\x0d ") tw }, { hash := PyData.keyHash w.params (Str.ofString "pushback"), key := Value.str (Str.ofString "pushback") k4, val := Value.ref pb }] 4) :: (lf, W.listOf (.str ⟨#[34]⟩ tv :: lv).toArray nlf) :: (x, instObj 83 d) :: (f, fnMade (Str.ofString "_law_next") fq { posonlyargs := [], args := [{ arg := Str.ofString "size", annotation := none, pos := { line := 98, col := 18, endLine := 98, endCol := 22 } }], vararg := none, kwonlyargs := [], kw_defaults := [], kwarg := none, defaults := [] }
    [Stmt.Return (some ((Expr.Name (Str.ofString "left") { line := 99, col := 30, endLine := 99, endCol := 34 }).IfExp
      (((Expr.Name (Str.ofString "left") { line := 99, col := 15, endLine := 99, endCol := 19 }).Attribute (Str.ofString "pop") { line := 99, col := 15, endLine := 99, endCol := 23 }).Call [Expr.Constant (Const.int 0) 0 { line := 99, col := 24, endLine := 99, endCol := 25 }] [] { line := 99, col := 15, endLine := 99, endCol := 26 })
      (Expr.Constant (Const.str (Str.ofString "")) 0 { line := 99, col := 40, endLine := 99, endCol := 42 }) { line := 99, col := 15, endLine := 99, endCol := 42 })) { line := 99, col := 8, endLine := 99, endCol := 42 }]
    { kind := ScopeKind.function, names := [(Str.ofString "size", NameKind.local), (Str.ofString "left", NameKind.free)], isGenerator := false, isCoroutine := false } [(Str.ofString "left", cell)] doc pm c ct) :: (c, oc) :: (sx, instObj 83 sd) ::
    (sd, dictOf [{ hash := PyData.keyHash w.params (Str.ofString "lineno"), key := Value.str (Str.ofString "lineno") j1, val := Value.int jn jl }, { hash := PyData.keyHash w.params (Str.ofString "instream"), key := Value.str (Str.ofString "instream") j2, val := Value.none },
      { hash := PyData.keyHash w.params (Str.ofString "whitespace"), key := Value.str (Str.ofString "whitespace") j3, val := Value.str (Str.ofString "\n\t\x0d ") jw }, { hash := PyData.keyHash w.params (Str.ofString "pushback"), key := Value.str (Str.ofString "pushback") j4, val := Value.ref spb },
      { hash := PyData.keyHash w.params (Str.ofString "read"), key := Value.str (Str.ofString "read") j5, val := Value.ref f }] 5) :: (cell, ocl) :: (pb, W.listOf #[] npb) :: news)) (T : Top topProg lo mean mg mb h₀) (hk : cs.kind = .function)
  (CH : CodeHd base 110 106)
  (hts : ∀ v ∈ ts, v = 46 ∨ v = 13 ∨ v = 10) (hC : Chars lv (ts ++ 34 :: rest)) (hlv : lv.length < 900) (hacc : ts.length < 1000)
  (hdp : dp < 770) (hun : un < 7700)
  (hret : ∀ (t : Tok) (h' : Heap) (tk' : Nat) (ln' : Int) (tl' nlf' : Nat) (lv : List Value), Chars lv rest → Fr h₀ L h' m → News h₀ L h' ((d, dictOf [{ hash := PyData.keyHash w.params (Str.ofString "lineno"), key := Value.str (Str.ofString "lineno") k1, val := Value.int ln' tl' }, { hash := PyData.keyHash w.params (Str.ofString "instream"), key := Value.str (Str.ofString "instream") k2, val := Value.ref sx },
      { hash := PyData.keyHash w.params (Str.ofString "whitespace"), key := Value.str (Str.ofString "whitespace") k3, val := Value.str (Str.ofString "\n\t\x0d ") tw }, { hash := PyData.keyHash w.params (Str.ofString "pushback"), key := Value.str (Str.ofString "pushback") k4, val := Value.ref pb }] 4) :: (lf, W.listOf lv.toArray nlf') :: (x, instObj 83 d) :: (f, fnMade (Str.ofString "_law_next") fq { posonlyargs := [], args := [{ arg := Str.ofString "size", annotation := none, pos := { line := 98, col := 18, endLine := 98, endCol := 22 } }], vararg := none, kwonlyargs := [], kw_defaults := [], kwarg := none, defaults := [] }
    [Stmt.Return (some ((Expr.Name (Str.ofString "left") { line := 99, col := 30, endLine := 99, endCol := 34 }).IfExp
      (((Expr.Name (Str.ofString "left") { line := 99, col := 15, endLine := 99, endCol := 19 }).Attribute (Str.ofString "pop") { line := 99, col := 15, endLine := 99, endCol := 23 }).Call [Expr.Constant (Const.int 0) 0 { line := 99, col := 24, endLine := 99, endCol := 25 }] [] { line := 99, col := 15, endLine := 99, endCol := 26 })
      (Expr.Constant (Const.str (Str.ofString "")) 0 { line := 99, col := 40, endLine := 99, endCol := 42 }) { line := 99, col := 15, endLine := 99, endCol := 42 })) { line := 99, col := 8, endLine := 99, endCol := 42 }]
    { kind := ScopeKind.function, names := [(Str.ofString "size", NameKind.local), (Str.ofString "left", NameKind.free)], isGenerator := false, isCoroutine := false } [(Str.ofString "left", cell)] doc pm c ct) :: (c, oc) :: (sx, instObj 83 sd) ::
    (sd, dictOf [{ hash := PyData.keyHash w.params (Str.ofString "lineno"), key := Value.str (Str.ofString "lineno") j1, val := Value.int jn jl }, { hash := PyData.keyHash w.params (Str.ofString "instream"), key := Value.str (Str.ofString "instream") j2, val := Value.none },
      { hash := PyData.keyHash w.params (Str.ofString "whitespace"), key := Value.str (Str.ofString "whitespace") j3, val := Value.str (Str.ofString "\n\t\x0d ") jw }, { hash := PyData.keyHash w.params (Str.ofString "pushback"), key := Value.str (Str.ofString "pushback") j4, val := Value.ref spb },
      { hash := PyData.keyHash w.params (Str.ofString "read"), key := Value.str (Str.ofString "read") j5, val := Value.ref f }] 5) :: (cell, ocl) :: (pb, W.listOf #[] npb) :: news) → Q (.str (pushes (Str.ofString "") ts) t) { s with heap := h', toks := tk' }) :
  wpAny (model prg w) (ktrTop dp un gd cn cs L fa ccd cl outer) (call (.ref 73) [.ref x]) Q E s := by
  refine wpAny_call ?_
  w_top off
  k_with_none
  k_with "k_all" => (show (∀ p ∈ news, _); first | exact fun p hp => (hoff p hp).1 | exact fun p hp => (hoff p hp).2.1 | exact fun p hp => (hoff p hp).2.2)
  k_with "truthy ref" => (k_here; (with_reducible show wpAny _ _ (truthy (Value.ref _)) _ _ _); k_dflt (refine truthy_nil (by k_asm) (by k_mem) ?_); skip)
  k_with "call builtin:iter" => (k_here; (with_reducible show wpAny _ _ (call (Value.builtin "iter") [Value.ref _, Value.str _ _]) _ _ _); k_dflt (refine iter2_k (by k_asm) (by k_asm) (by k_mem) ?_); intro I9 h9 F9 N9 l9; (have p9 := allLt_of l9); (try simp only [AllLt, and_true] at p9); (try dsimp only))
  k_with "exec For Name Name cons nil" => (k_here; k_dflt (refine wpAny_For ?_))
  k_with "pyIter ref" => (k_here; k_dflt (refine iter_ci (News.get (by k_asm) (by k_mem)) ?_))
  cell_enter
  w_top off
  k_with_none
  k_with "k_all" => (show (∀ p ∈ news, _); first | exact fun p hp => (hoff p hp).1 | exact fun p hp => (hoff p hp).2.1 | exact fun p hp => (hoff p hp).2.2)
  k_with "truthy ref" => (k_here; (with_reducible show wpAny _ _ (truthy (Value.ref _)) _ _ _); k_dflt (refine truthy_nil (by k_asm) (by k_mem) ?_); skip)
  k_with "call builtin:iter" => (k_here; (with_reducible show wpAny _ _ (call (Value.builtin "iter") [Value.ref _, Value.str _ _]) _ _ _); k_dflt (refine iter2_k (by k_asm) (by k_asm) (by k_mem) ?_); intro I9 h9 F9 N9 l9; (have p9 := allLt_of l9); (try simp only [AllLt, and_true] at p9); (try dsimp only))
  k_with "exec For Name Name cons nil" => (k_here; k_dflt (refine wpAny_For ?_))
  k_with "pyIter ref" => (k_here; k_dflt (refine iter_ci (News.get (by k_asm) (by k_mem)) ?_))
  k_steps
  k_dflt (refine' outer_k (news := (pb, W.listOf #[] npb) :: news) hc1 hc2 hcell hord ?zo1 ?zo2 ?zb1 ?zb2 ?zb3 ?zb4 ?zb5 ?zb6 hts hC (by omega) hacc (fr_tok ?zf ?zfe) ?zn ?_)
  (case zf => k_asm)
  (case zfe => funext y; exact congrArg (fun z => if y = Str.ofString "fiter" then _ else if y = Str.ofString "token" then _ else z) (lk_one y))
  (case zn => (first | k_asm | (refine' news_sub ?n1 ?n2; (case n1 => k_asm); (case n2 => kcj_all))))
  (case zo1 => intro p hp; rcases List.mem_cons.mp hp with rfl | hp; (exact ⟨by k_ne, by k_ne⟩); exact hoff p hp)
  (case zo2 => intro p hp; rcases List.mem_cons.mp hp with rfl | hp; (exact ⟨by k_ne, by k_ne⟩); rcases List.mem_cons.mp hp with rfl | hp; (exact ⟨by k_ne, by k_ne⟩); rcases List.mem_cons.mp hp with rfl | hp; (exact ⟨by k_ne, by k_ne⟩); exact hoff p hp)
  (case zb1 => k_asm)
  (case zb2 => k_asm)
  (case zb3 => k_asm)
  (case zb4 => kn_code)
  (case zb5 => (first | exact Nat.lt_of_lt_of_le (Nat.add_lt_add_right hdp _) (by decide) | exact Nat.lt_of_lt_of_le hdp (by decide) | omega | ((try simp only [depth_under_make, depth_under_kw, depth_in1, depth_deeper, depth_caller]); (try dsimp only [ktrTop]); omega)))
  (case zb6 => (first | exact Nat.lt_of_lt_of_le (Nat.add_lt_add_right hun _) (by decide) | exact Nat.lt_of_lt_of_le hun (by decide) | omega | ((try simp only [units_in1, units_deeper, Around.mark_units, units_caller]); (try dsimp only [ktrTop]); omega)))
  intro t h' tk' ln' tl' nlf' lv uc hC F N
  w_top off
  k_with_none
  k_with "k_all" => (show (∀ p ∈ news, _); first | exact fun p hp => (hoff p hp).1 | exact fun p hp => (hoff p hp).2.1 | exact fun p hp => (hoff p hp).2.2)
  k_with "truthy ref" => (k_here; (with_reducible show wpAny _ _ (truthy (Value.ref _)) _ _ _); k_dflt (refine truthy_nil (by k_asm) (by k_mem) ?_); skip)
  k_with "call builtin:iter" => (k_here; (with_reducible show wpAny _ _ (call (Value.builtin "iter") [Value.ref _, Value.str _ _]) _ _ _); k_dflt (refine iter2_k (by k_asm) (by k_asm) (by k_mem) ?_); intro I9 h9 F9 N9 l9; (have p9 := allLt_of l9); (try simp only [AllLt, and_true] at p9); (try dsimp only))
  k_with "exec For Name Name cons nil" => (k_here; k_dflt (refine wpAny_For ?_))
  k_with "pyIter ref" => (k_here; k_dflt (refine iter_ci (News.get (by k_asm) (by k_mem)) ?_))
  k_steps
  exact hret _ _ _ _ _ _ _ hC (by k_asm) (by (first | k_asm | (refine' news_sub ?n1 ?n2; (case n1 => k_asm); (case n2 => kcj_all))))
theorem token_2 {x d pb f c lf cell sx sd spb : Addr} {k1 k2 k3 k4 tw j1 j2 j3 j4 j5 jl jw tq : Nat} {jn : Int} {fq : Str} {doc pm ct : Value} {oc ocl : Obj} {vsc : Array Value} {ln : Int} {tl nlf : Nat} {lv : List Value} {npb : Nat} {tv tv2 : Tok} {rest ts : List Nat} (hc1 : oc.data = Data.fields vsc) (hc2 : vsc[1]? = some (.str fq tq)) (hcell : ocl.data = Data.cell (some (.ref lf)))
  (hord : @LT.lt Nat _ cell lf ∧ @LT.lt Nat _ lf sd ∧ @LT.lt Nat _ sd sx ∧ @LT.lt Nat _ sx spb ∧ @LT.lt Nat _ spb c ∧ @LT.lt Nat _ c f ∧ @LT.lt Nat _ f d ∧ @LT.lt Nat _ d x ∧ @LT.lt Nat _ x pb)
  (hoff : ∀ p ∈ news, p.1 ≠ d ∧ p.1 ≠ lf)
  (B : Below A₀ base outer h₀) (F : Fr h₀ L s.heap m) (X : (hd.heap_39 w.params).In h₀)
  (N : News h₀ L s.heap ((d, dictOf [{ hash := PyData.keyHash w.params (Str.ofString "lineno"), key := Value.str (Str.ofString "lineno") k1, val := Value.int ln tl }, { hash := PyData.keyHash w.params (Str.ofString "instream"), key := Value.str (Str.ofString "instream") k2, val := Value.ref sx },
      { hash := PyData.keyHash w.params (Str.ofString "whitespace"), key := Value.str (Str.ofString "whitespace") k3, val := Value.str (Str.ofString "\n\t\x0d ") tw }, { hash := PyData.keyHash w.params (Str.ofString "pushback"), key := Value.str (Str.ofString "pushback") k4, val := Value.ref pb }] 4) :: (lf, W.listOf (.str ⟨#[32]⟩ tv2 :: .str ⟨#[34]⟩ tv :: lv).toArray nlf) :: (x, instObj 83 d) :: (f, fnMade (Str.ofString "_law_next") fq { posonlyargs := [], args := [{ arg := Str.ofString "size", annotation := none, pos := { line := 98, col := 18, endLine := 98, endCol := 22 } }], vararg := none, kwonlyargs := [], kw_defaults := [], kwarg := none, defaults := [] }
    [Stmt.Return (some ((Expr.Name (Str.ofString "left") { line := 99, col := 30, endLine := 99, endCol := 34 }).IfExp
      (((Expr.Name (Str.ofString "left") { line := 99, col := 15, endLine := 99, endCol := 19 }).Attribute (Str.ofString "pop") { line := 99, col := 15, endLine := 99, endCol := 23 }).Call [Expr.Constant (Const.int 0) 0 { line := 99, col := 24, endLine := 99, endCol := 25 }] [] { line := 99, col := 15, endLine := 99, endCol := 26 })
      (Expr.Constant (Const.str (Str.ofString "")) 0 { line := 99, col := 40, endLine := 99, endCol := 42 }) { line := 99, col := 15, endLine := 99, endCol := 42 })) { line := 99, col := 8, endLine := 99, endCol := 42 }]
    { kind := ScopeKind.function, names := [(Str.ofString "size", NameKind.local), (Str.ofString "left", NameKind.free)], isGenerator := false, isCoroutine := false } [(Str.ofString "left", cell)] doc pm c ct) :: (c, oc) :: (sx, instObj 83 sd) ::
    (sd, dictOf [{ hash := PyData.keyHash w.params (Str.ofString "lineno"), key := Value.str (Str.ofString "lineno") j1, val := Value.int jn jl }, { hash := PyData.keyHash w.params (Str.ofString "instream"), key := Value.str (Str.ofString "instream") j2, val := Value.none },
      { hash := PyData.keyHash w.params (Str.ofString "whitespace"), key := Value.str (Str.ofString "whitespace") j3, val := Value.str (Str.ofString "\n\t\x0d ") jw }, { hash := PyData.keyHash w.params (Str.ofString "pushback"), key := Value.str (Str.ofString "pushback") j4, val := Value.ref spb },
      { hash := PyData.keyHash w.params (Str.ofString "read"), key := Value.str (Str.ofString "read") j5, val := Value.ref f }] 5) :: (cell, ocl) :: (pb, W.listOf #[] npb) :: news)) (T : Top topProg lo mean mg mb h₀) (hk : cs.kind = .function)
  (CH : CodeHd base 110 106)
  (hts : ∀ v ∈ ts, v = 46 ∨ v = 13 ∨ v = 10) (hC : Chars lv (ts ++ 34 :: rest)) (hlv : lv.length < 900) (hacc : ts.length < 1000)
  (hdp : dp < 770) (hun : un < 7700)
  (hret : ∀ (t : Tok) (h' : Heap) (tk' : Nat) (ln' : Int) (tl' nlf' : Nat) (lv : List Value), Chars lv rest → Fr h₀ L h' m → News h₀ L h' ((d, dictOf [{ hash := PyData.keyHash w.params (Str.ofString "lineno"), key := Value.str (Str.ofString "lineno") k1, val := Value.int ln' tl' }, { hash := PyData.keyHash w.params (Str.ofString "instream"), key := Value.str (Str.ofString "instream") k2, val := Value.ref sx },
      { hash := PyData.keyHash w.params (Str.ofString "whitespace"), key := Value.str (Str.ofString "whitespace") k3, val := Value.str (Str.ofString "\n\t\x0d ") tw }, { hash := PyData.keyHash w.params (Str.ofString "pushback"), key := Value.str (Str.ofString "pushback") k4, val := Value.ref pb }] 4) :: (lf, W.listOf lv.toArray nlf') :: (x, instObj 83 d) :: (f, fnMade (Str.ofString "_law_next") fq { posonlyargs := [], args := [{ arg := Str.ofString "size", annotation := none, pos := { line := 98, col := 18, endLine := 98, endCol := 22 } }], vararg := none, kwonlyargs := [], kw_defaults := [], kwarg := none, defaults := [] }
    [Stmt.Return (some ((Expr.Name (Str.ofString "left") { line := 99, col := 30, endLine := 99, endCol := 34 }).IfExp
      (((Expr.Name (Str.ofString "left") { line := 99, col := 15, endLine := 99, endCol := 19 }).Attribute (Str.ofString "pop") { line := 99, col := 15, endLine := 99, endCol := 23 }).Call [Expr.Constant (Const.int 0) 0 { line := 99, col := 24, endLine := 99, endCol := 25 }] [] { line := 99, col := 15, endLine := 99, endCol := 26 })
      (Expr.Constant (Const.str (Str.ofString "")) 0 { line := 99, col := 40, endLine := 99, endCol := 42 }) { line := 99, col := 15, endLine := 99, endCol := 42 })) { line := 99, col := 8, endLine := 99, endCol := 42 }]
    { kind := ScopeKind.function, names := [(Str.ofString "size", NameKind.local), (Str.ofString "left", NameKind.free)], isGenerator := false, isCoroutine := false } [(Str.ofString "left", cell)] doc pm c ct) :: (c, oc) :: (sx, instObj 83 sd) ::
    (sd, dictOf [{ hash := PyData.keyHash w.params (Str.ofString "lineno"), key := Value.str (Str.ofString "lineno") j1, val := Value.int jn jl }, { hash := PyData.keyHash w.params (Str.ofString "instream"), key := Value.str (Str.ofString "instream") j2, val := Value.none },
      { hash := PyData.keyHash w.params (Str.ofString "whitespace"), key := Value.str (Str.ofString "whitespace") j3, val := Value.str (Str.ofString "\n\t\x0d ") jw }, { hash := PyData.keyHash w.params (Str.ofString "pushback"), key := Value.str (Str.ofString "pushback") j4, val := Value.ref spb },
      { hash := PyData.keyHash w.params (Str.ofString "read"), key := Value.str (Str.ofString "read") j5, val := Value.ref f }] 5) :: (cell, ocl) :: (pb, W.listOf #[] npb) :: news) → Q (.str (pushes (Str.ofString "") ts) t) { s with heap := h', toks := tk' }) :
  wpAny (model prg w) (ktrTop dp un gd cn cs L fa ccd cl outer) (call (.ref 73) [.ref x]) Q E s := by
  refine wpAny_call ?_
  w_top off
  k_with_none
  k_with "k_all" => (show (∀ p ∈ news, _); first | exact fun p hp => (hoff p hp).1 | exact fun p hp => (hoff p hp).2.1 | exact fun p hp => (hoff p hp).2.2)
  k_with "truthy ref" => (k_here; (with_reducible show wpAny _ _ (truthy (Value.ref _)) _ _ _); k_dflt (refine truthy_nil (by k_asm) (by k_mem) ?_); skip)
  k_with "call builtin:iter" => (k_here; (with_reducible show wpAny _ _ (call (Value.builtin "iter") [Value.ref _, Value.str _ _]) _ _ _); k_dflt (refine iter2_k (by k_asm) (by k_asm) (by k_mem) ?_); intro I9 h9 F9 N9 l9; (have p9 := allLt_of l9); (try simp only [AllLt, and_true] at p9); (try dsimp only))
  k_with "exec For Name Name cons nil" => (k_here; k_dflt (refine wpAny_For ?_))
  k_with "pyIter ref" => (k_here; k_dflt (refine iter_ci (News.get (by k_asm) (by k_mem)) ?_))
  cell_enter
  w_top off
  k_with_none
  k_with "k_all" => (show (∀ p ∈ news, _); first | exact fun p hp => (hoff p hp).1 | exact fun p hp => (hoff p hp).2.1 | exact fun p hp => (hoff p hp).2.2)
  k_with "truthy ref" => (k_here; (with_reducible show wpAny _ _ (truthy (Value.ref _)) _ _ _); k_dflt (refine truthy_nil (by k_asm) (by k_mem) ?_); skip)
  k_with "call builtin:iter" => (k_here; (with_reducible show wpAny _ _ (call (Value.builtin "iter") [Value.ref _, Value.str _ _]) _ _ _); k_dflt (refine iter2_k (by k_asm) (by k_asm) (by k_mem) ?_); intro I9 h9 F9 N9 l9; (have p9 := allLt_of l9); (try simp only [AllLt, and_true] at p9); (try dsimp only))
  k_with "exec For Name Name cons nil" => (k_here; k_dflt (refine wpAny_For ?_))
  k_with "pyIter ref" => (k_here; k_dflt (refine iter_ci (News.get (by k_asm) (by k_mem)) ?_))
  k_steps
  k_dflt (refine' outer_w (news := (pb, W.listOf #[] npb) :: news) hc1 hc2 hcell hord ?zo1 ?zo2 ?zb1 ?zb2 ?zb3 ?zb4 ?zb5 ?zb6 hts hC (by omega) hacc (fr_tok ?zf ?zfe) ?zn ?_)
  (case zf => k_asm)
  (case zfe => funext y; exact congrArg (fun z => if y = Str.ofString "fiter" then _ else if y = Str.ofString "token" then _ else z) (lk_one y))
  (case zn => (first | k_asm | (refine' news_sub ?n1 ?n2; (case n1 => k_asm); (case n2 => kcj_all))))
  (case zo1 => intro p hp; rcases List.mem_cons.mp hp with rfl | hp; (exact ⟨by k_ne, by k_ne⟩); exact hoff p hp)
  (case zo2 => intro p hp; rcases List.mem_cons.mp hp with rfl | hp; (exact ⟨by k_ne, by k_ne⟩); rcases List.mem_cons.mp hp with rfl | hp; (exact ⟨by k_ne, by k_ne⟩); rcases List.mem_cons.mp hp with rfl | hp; (exact ⟨by k_ne, by k_ne⟩); exact hoff p hp)
  (case zb1 => k_asm)
  (case zb2 => k_asm)
  (case zb3 => k_asm)
  (case zb4 => kn_code)
  (case zb5 => (first | exact Nat.lt_of_lt_of_le (Nat.add_lt_add_right hdp _) (by decide) | exact Nat.lt_of_lt_of_le hdp (by decide) | omega | ((try simp only [depth_under_make, depth_under_kw, depth_in1, depth_deeper, depth_caller]); (try dsimp only [ktrTop]); omega)))
  (case zb6 => (first | exact Nat.lt_of_lt_of_le (Nat.add_lt_add_right hun _) (by decide) | exact Nat.lt_of_lt_of_le hun (by decide) | omega | ((try simp only [units_in1, units_deeper, Around.mark_units, units_caller]); (try dsimp only [ktrTop]); omega)))
  intro t h' tk' ln' tl' nlf' lv uc hC F N
  w_top off
  k_with_none
  k_with "k_all" => (show (∀ p ∈ news, _); first | exact fun p hp => (hoff p hp).1 | exact fun p hp => (hoff p hp).2.1 | exact fun p hp => (hoff p hp).2.2)
  k_with "truthy ref" => (k_here; (with_reducible show wpAny _ _ (truthy (Value.ref _)) _ _ _); k_dflt (refine truthy_nil (by k_asm) (by k_mem) ?_); skip)
  k_with "call builtin:iter" => (k_here; (with_reducible show wpAny _ _ (call (Value.builtin "iter") [Value.ref _, Value.str _ _]) _ _ _); k_dflt (refine iter2_k (by k_asm) (by k_asm) (by k_mem) ?_); intro I9 h9 F9 N9 l9; (have p9 := allLt_of l9); (try simp only [AllLt, and_true] at p9); (try dsimp only))
  k_with "exec For Name Name cons nil" => (k_here; k_dflt (refine wpAny_For ?_))
  k_with "pyIter ref" => (k_here; k_dflt (refine iter_ci (News.get (by k_asm) (by k_mem)) ?_))
  k_steps
  exact hret _ _ _ _ _ _ _ hC (by k_asm) (by (first | k_asm | (refine' news_sub ?n1 ?n2; (case n1 => k_asm); (case n2 => kcj_all))))
end
end
section
open PySem PySem.W PyProof.Rows
set_option maxRecDepth 100000
set_option maxHeartbeats 8000000


section
variable {w : World} {mean : ExcName → Option Value} {mg mb : Str → Option Value} {dp un : Nat} {gd : Option (List Code)} {cn : Str} {cs : Scope} {fa : Addr} {ccd : Value} {cl : List (Str × Addr)} {outer : List Env} {A A₀ : Around} {base h₀ : Heap} {L : Addr} {m : Str → Option Value} {s : Shared} {Q E : Value → Shared → Prop} {news : List (Addr × Obj)}

theorem append_k {l : Addr} {its : Array Value} {v : Value} {n : Nat} {news' : List (Addr × Obj)} (F : Fr h₀ L s.heap m) (N : News h₀ L s.heap news) (U : Upd l (W.listOf its n) (W.listOf (its.push v) (n + 1)) news news') (hl : its.size < 1000)
    (h : ∀ h', Fr h₀ L h' m → News h₀ L h' news' → Q .none { s with heap := h' }) : wpAny (model prg w) A (call (.builtin "list.append") [.ref l, v]) Q E s := by
  obtain ⟨pre, post, rfl, rfl, a, b⟩ := U.split
  have z := N (l, W.listOf its n) (List.mem_append.mpr (.inr (.head _)))
  exact append_at (hsz := by rw [sizeLine_eq]; omega) z.1 (fun h' hs ho => h h' (F.change hs z.2.1 z.2.2) (news_set N a b hs ho))
theorem pop_k {x d pb sx : Addr} {k1 k2 k3 k4 tw npb : Nat} {ln : Int} {tl : Nat} {tok : Str} {tt : Tok} {pv : List Value}
  (hord : @LT.lt Nat _ d x ∧ @LT.lt Nat _ x pb) (hoffp : ∀ p ∈ news, p.1 ≠ pb) (hpv : pv.length < 900)
  (B : Below A₀ base outer h₀) (F : Fr h₀ L s.heap m) (X : (hd.heap_39 w.params).In h₀)
  (N : News h₀ L s.heap ((pb, W.listOf (.str tok tt :: pv).toArray npb) :: (x, instObj 83 d) :: (d, dictOf [{ hash := PyData.keyHash w.params (Str.ofString "lineno"), key := Value.str (Str.ofString "lineno") k1, val := Value.int ln tl }, { hash := PyData.keyHash w.params (Str.ofString "instream"), key := Value.str (Str.ofString "instream") k2, val := Value.ref sx },
      { hash := PyData.keyHash w.params (Str.ofString "whitespace"), key := Value.str (Str.ofString "whitespace") k3, val := Value.str (Str.ofString "\n\t\x0d ") tw }, { hash := PyData.keyHash w.params (Str.ofString "pushback"), key := Value.str (Str.ofString "pushback") k4, val := Value.ref pb }] 4) :: news)) (T : Top topProg lo mean mg mb h₀) (hk : cs.kind = .function)
  (hdp : dp < 770) (hun : un < 7700)
  (hret : ∀ (h' : Heap) (tk' : Nat), Fr h₀ L h' m → News h₀ L h' ((pb, W.listOf pv.toArray (npb + 1)) :: (x, instObj 83 d) :: (d, dictOf [{ hash := PyData.keyHash w.params (Str.ofString "lineno"), key := Value.str (Str.ofString "lineno") k1, val := Value.int ln tl }, { hash := PyData.keyHash w.params (Str.ofString "instream"), key := Value.str (Str.ofString "instream") k2, val := Value.ref sx },
      { hash := PyData.keyHash w.params (Str.ofString "whitespace"), key := Value.str (Str.ofString "whitespace") k3, val := Value.str (Str.ofString "\n\t\x0d ") tw }, { hash := PyData.keyHash w.params (Str.ofString "pushback"), key := Value.str (Str.ofString "pushback") k4, val := Value.ref pb }] 4) :: news) → Q (.str tok tt) { s with heap := h', toks := tk' }) :
  wpAny (model prg w) (ktrTop dp un gd cn cs L fa ccd cl outer) (call (.ref 73) [.ref x]) Q E s := by
  refine wpAny_call ?_
  w_top off
  k_with_none
  k_with "k_all" => (show (∀ p ∈ news, _); exact hoffp)
  k_with "call builtin:list.pop" => (k_here; (with_reducible show wpAny _ _ (call (Value.builtin "list.pop") [Value.ref _, Value.int 0 _]) _ _ _); k_dflt (refine' pop0_k ?q58F ?q58N ?q58U ?q58l ?_; (case q58F => k_asm); (case q58N => k_asm); (case q58U => k_upd); (case q58l => omega)); intro h' F' N'; (try dsimp only [List.nil_append, List.cons_append] at N'))
  k_with "truthy ref" => (k_here; (with_reducible show wpAny _ _ (truthy (Value.ref _)) _ _ _); k_dflt (refine truthy_cons (by k_asm) (by k_mem) (by omega) ?_); skip)
  k_with "call builtin:list.append" => (k_here; (with_reducible show wpAny _ _ (call (Value.builtin "list.append") [Value.ref _, _]) _ _ _); k_dflt (refine' append_k ?q60F ?q60N ?q60U ?q60l ?_; (case q60F => k_asm); (case q60N => k_asm); (case q60U => k_upd); (case q60l => omega)); intro h' F' N'; (try dsimp only [List.nil_append, List.cons_append] at N'))
  cell_enter
  w_top off
  k_with_none
  k_with "k_all" => (show (∀ p ∈ news, _); exact hoffp)
  k_with "call builtin:list.pop" => (k_here; (with_reducible show wpAny _ _ (call (Value.builtin "list.pop") [Value.ref _, Value.int 0 _]) _ _ _); k_dflt (refine' pop0_k ?q58F ?q58N ?q58U ?q58l ?_; (case q58F => k_asm); (case q58N => k_asm); (case q58U => k_upd); (case q58l => omega)); intro h' F' N'; (try dsimp only [List.nil_append, List.cons_append] at N'))
  k_with "truthy ref" => (k_here; (with_reducible show wpAny _ _ (truthy (Value.ref _)) _ _ _); k_dflt (refine truthy_cons (by k_asm) (by k_mem) (by omega) ?_); skip)
  k_with "call builtin:list.append" => (k_here; (with_reducible show wpAny _ _ (call (Value.builtin "list.append") [Value.ref _, _]) _ _ _); k_dflt (refine' append_k ?q60F ?q60N ?q60U ?q60l ?_; (case q60F => k_asm); (case q60N => k_asm); (case q60U => k_upd); (case q60l => omega)); intro h' F' N'; (try dsimp only [List.nil_append, List.cons_append] at N'))
  k_steps
  exact hret _ _ (by k_asm) (by (first | k_asm | (refine' news_sub ?n1 ?n2; (case n1 => k_asm); (case n2 => kcj_all))))
theorem push_k {x d pb sx : Addr} {k1 k2 k3 k4 tw npb : Nat} {ln : Int} {tl : Nat} {tok : Str} {tt : Tok} {pv : Array Value}
  (hord : @LT.lt Nat _ d x ∧ @LT.lt Nat _ x pb) (hoffp : ∀ p ∈ news, p.1 ≠ pb) (hpv : pv.size < 900)
  (B : Below A₀ base outer h₀) (F : Fr h₀ L s.heap m) (X : (hd.heap_39 w.params).In h₀)
  (N : News h₀ L s.heap ((pb, W.listOf pv npb) :: (x, instObj 83 d) :: (d, dictOf [{ hash := PyData.keyHash w.params (Str.ofString "lineno"), key := Value.str (Str.ofString "lineno") k1, val := Value.int ln tl }, { hash := PyData.keyHash w.params (Str.ofString "instream"), key := Value.str (Str.ofString "instream") k2, val := Value.ref sx },
      { hash := PyData.keyHash w.params (Str.ofString "whitespace"), key := Value.str (Str.ofString "whitespace") k3, val := Value.str (Str.ofString "\n\t\x0d ") tw }, { hash := PyData.keyHash w.params (Str.ofString "pushback"), key := Value.str (Str.ofString "pushback") k4, val := Value.ref pb }] 4) :: news)) (T : Top topProg lo mean mg mb h₀) (hk : cs.kind = .function)
  (hdp : dp < 770) (hun : un < 7700)
  (hret : ∀ (h' : Heap) (tk' : Nat), Fr h₀ L h' m → News h₀ L h' ((pb, W.listOf (pv.push (.str tok tt)) (npb + 1)) :: (x, instObj 83 d) :: (d, dictOf [{ hash := PyData.keyHash w.params (Str.ofString "lineno"), key := Value.str (Str.ofString "lineno") k1, val := Value.int ln tl }, { hash := PyData.keyHash w.params (Str.ofString "instream"), key := Value.str (Str.ofString "instream") k2, val := Value.ref sx },
      { hash := PyData.keyHash w.params (Str.ofString "whitespace"), key := Value.str (Str.ofString "whitespace") k3, val := Value.str (Str.ofString "\n\t\x0d ") tw }, { hash := PyData.keyHash w.params (Str.ofString "pushback"), key := Value.str (Str.ofString "pushback") k4, val := Value.ref pb }] 4) :: news) → Q .none { s with heap := h', toks := tk' }) :
  wpAny (model prg w) (ktrTop dp un gd cn cs L fa ccd cl outer) (call (.ref 80) [.ref x, .str tok tt]) Q E s := by
  refine wpAny_call ?_
  w_top off
  k_with_none
  k_with "k_all" => (show (∀ p ∈ news, _); exact hoffp)
  k_with "call builtin:list.pop" => (k_here; (with_reducible show wpAny _ _ (call (Value.builtin "list.pop") [Value.ref _, Value.int 0 _]) _ _ _); k_dflt (refine' pop0_k ?q58F ?q58N ?q58U ?q58l ?_; (case q58F => k_asm); (case q58N => k_asm); (case q58U => k_upd); (case q58l => omega)); intro h' F' N'; (try dsimp only [List.nil_append, List.cons_append] at N'))
  k_with "truthy ref" => (k_here; (with_reducible show wpAny _ _ (truthy (Value.ref _)) _ _ _); k_dflt (refine truthy_cons (by k_asm) (by k_mem) (by omega) ?_); skip)
  k_with "call builtin:list.append" => (k_here; (with_reducible show wpAny _ _ (call (Value.builtin "list.append") [Value.ref _, _]) _ _ _); k_dflt (refine' append_k ?q60F ?q60N ?q60U ?q60l ?_; (case q60F => k_asm); (case q60N => k_asm); (case q60U => k_upd); (case q60l => omega)); intro h' F' N'; (try dsimp only [List.nil_append, List.cons_append] at N'))
  cell_enter
  w_top off
  k_with_none
  k_with "k_all" => (show (∀ p ∈ news, _); exact hoffp)
  k_with "call builtin:list.pop" => (k_here; (with_reducible show wpAny _ _ (call (Value.builtin "list.pop") [Value.ref _, Value.int 0 _]) _ _ _); k_dflt (refine' pop0_k ?q58F ?q58N ?q58U ?q58l ?_; (case q58F => k_asm); (case q58N => k_asm); (case q58U => k_upd); (case q58l => omega)); intro h' F' N'; (try dsimp only [List.nil_append, List.cons_append] at N'))
  k_with "truthy ref" => (k_here; (with_reducible show wpAny _ _ (truthy (Value.ref _)) _ _ _); k_dflt (refine truthy_cons (by k_asm) (by k_mem) (by omega) ?_); skip)
  k_with "call builtin:list.append" => (k_here; (with_reducible show wpAny _ _ (call (Value.builtin "list.append") [Value.ref _, _]) _ _ _); k_dflt (refine' append_k ?q60F ?q60N ?q60U ?q60l ?_; (case q60F => k_asm); (case q60N => k_asm); (case q60U => k_upd); (case q60l => omega)); intro h' F' N'; (try dsimp only [List.nil_append, List.cons_append] at N'))
  k_steps
  exact hret _ _ (by k_asm) (by (first | k_asm | (refine' news_sub ?n1 ?n2; (case n1 => k_asm); (case n2 => kcj_all))))
theorem pushes_cps (ts : List Nat) (a : Str) : (pushes a ts).cps.toList = a.cps.toList ++ ts := by
  induction ts generalizing a with
  | nil => simp [pushes]
  | cons v ts ih =>
    show (pushes (a ++ ⟨#[v]⟩) ts).cps.toList = _
    rw [ih]
    show (a.cps ++ #[v]).toList ++ ts = _
    simp
noncomputable def mailL (a b c : Nat) : List Nat := List.replicate a 46 ++ 13 :: 10 :: (List.replicate b 46 ++ 13 :: 10 :: List.replicate c 46)
theorem pushes_mail (a b c : Nat) : pushes (Str.ofString "") (mailL a b c) = mailS a b c := by
  have h := pushes_cps (mailL a b c) (Str.ofString "")
  have e : (Str.ofString "").cps.toList = [] := by decide +kernel
  rw [e, List.nil_append] at h
  have h2 : (mailS a b c).cps.toList = mailL a b c := by rw [mail_cps]; rfl
  have h3 : (pushes (Str.ofString "") (mailL a b c)).cps = (mailS a b c).cps := Array.toList_inj.mp (h.trans h2.symm)
  revert h3
  generalize pushes (Str.ofString "") (mailL a b c) = u
  generalize mailS a b c = v
  intro h3
  cases u; cases v; cases h3; rfl
theorem mailL_mem (a b c : Nat) : ∀ v ∈ mailL a b c, v = 46 ∨ v = 13 ∨ v = 10 := by
  intro v hv
  simp only [mailL, List.mem_append, List.mem_cons, List.mem_replicate] at hv
  omega
theorem mailL_len (a b c : Nat) : (mailL a b c).length = a + b + c + 4 := by simp [mailL]; omega
end
end
section
open PySem PySem.W PyProof.Rows
set_option maxRecDepth 100000
set_option maxHeartbeats 8000000

inductive Rem (d : Addr) (o : Obj) : List (Addr × Obj) → List (Addr × Obj) → Prop
  | head {r} : (∀ p ∈ r, p.1 ≠ d) → Rem d o ((d, o) :: r) r
  | tail {p r r'} : p.1 ≠ d → Rem d o r r' → Rem d o (p :: r) (p :: r')
  | drop {p r r'} : Rem d o r r' → Rem d o (p :: r) r'
theorem Rem.off {d : Addr} {o : Obj} {l r : List (Addr × Obj)} (R : Rem d o l r) : ∀ p ∈ r, p.1 ≠ d := by
  induction R with
  | head h => exact h
  | tail h _ ih => intro p hp; rcases List.mem_cons.mp hp with rfl | hp; exact h; exact ih p hp
  | drop _ ih => exact ih
theorem Rem.sub {d : Addr} {o : Obj} {l r : List (Addr × Obj)} (R : Rem d o l r) : ∀ p ∈ (d, o) :: r, p ∈ l := by
  induction R with
  | head h => intro p hp; exact hp
  | tail h _ ih =>
    intro p hp
    rcases List.mem_cons.mp hp with rfl | hp
    · exact List.mem_cons_of_mem _ (ih _ (List.mem_cons_self ..))
    · rcases List.mem_cons.mp hp with rfl | hp
      · exact List.mem_cons_self ..
      · exact List.mem_cons_of_mem _ (ih _ (List.mem_cons_of_mem _ hp))
  | drop _ ih => intro p hp; exact List.mem_cons_of_mem _ (ih p hp)
theorem Rem.mem {d : Addr} {o : Obj} {l r : List (Addr × Obj)} (R : Rem d o l r) {p : Addr × Obj} (hp : p ∈ r) : p ∈ l := R.sub p (List.mem_cons_of_mem _ hp)
theorem Rem.news {h₀ h : Heap} {L : Addr} {d : Addr} {o : Obj} {l r : List (Addr × Obj)} (R : Rem d o l r) (N : News h₀ L h l) : News h₀ L h ((d, o) :: r) := news_sub N R.sub
/-- three counts of dots -/
noncomputable abbrev Tri := Nat × Nat × Nat
noncomputable abbrev mailT (p : Tri) : Str := mailS p.1 p.2.1 p.2.2
noncomputable abbrev mailLT (p : Tri) : List Nat := mailL p.1 p.2.1 p.2.2
noncomputable def Small (p : Tri) : Prop := (0 < p.1 ∧ p.1 < 60) ∧ (0 < p.2.1 ∧ p.2.1 < 60) ∧ (0 < p.2.2 ∧ p.2.2 < 60)
/-- what the lexer will hand out -/
inductive TS : List Value → List Value → List Tri → Prop
  | two {lv p q} : Chars lv (34 :: (mailLT p ++ 34 :: 32 :: 34 :: (mailLT q ++ [34]))) → TS lv [] [p, q]
  | one {lv q} : Chars lv (32 :: 34 :: (mailLT q ++ [34])) → TS lv [] [q]
  | nil : TS [] [] []
  | cons {pv p ts t} : TS [] pv ts → TS [] (.str (mailT p) t :: pv) (p :: ts)
theorem TS.snoc {pv : List Value} {ts : List Tri} (h : TS [] pv ts) (p : Tri) (t : Tok) : TS [] (pv ++ [.str (mailT p) t]) (ts ++ [p]) := by
  generalize e : ([] : List Value) = lv at h
  induction h with
  | two h => subst e; cases h
  | one h => subst e; cases h
  | nil => exact .cons .nil
  | cons _ ih => exact .cons (ih rfl)
theorem Chars.len {vs : List Value} {cs : List Nat} (h : Chars vs cs) : vs.length = cs.length := by
  induction h with
  | nil => rfl
  | cons _ _ _ ih => simp [ih]
theorem TS.len {lv pv : List Value} {ts : List Tri} (h : TS lv pv ts) : pv.length ≤ ts.length := by
  induction h with
  | two | one => simp
  | nil => exact Nat.le_refl _
  | cons _ ih => simpa using ih
theorem TS.lvnil {lv pv : List Value} (h : TS lv pv []) : lv = [] ∧ pv = [] := by cases h; exact ⟨rfl, rfl⟩
theorem chars_append {vs : List Value} {as bs : List Nat} (h : Chars vs (as ++ bs)) : Chars vs (as ++ bs) := h
section
variable {w : World} {mean : ExcName → Option Value} {mg mb : Str → Option Value} {dp un : Nat} {gd : Option (List Code)} {cn : Str} {cs : Scope} {fa : Addr} {ccd : Value} {cl : List (Str × Addr)} {outer : List Env} {A A₀ : Around} {base h₀ : Heap} {L : Addr} {m : Str → Option Value} {s : Shared} {Q E : Value → Shared → Prop} {news : List (Addr × Obj)}

/-- the lexer in the ledger, in its place ahead of the rest -/
noncomputable abbrev LexN (w : World) (h₀ : Heap) (L : Addr) (h : Heap) (news : List (Addr × Obj)) (x d pb f c lf cell sx sd : Addr) (k1 k2 k3 k4 tw j1 j2 j3 j4 j5 jl jw : Nat) (spb : Addr) (jn : Int) (fq : Str) (doc pm ct : Value) (oc ocl : Obj) (ln : Int) (tl nlf npb : Nat) (lv pv : List Value) : Prop :=
  News h₀ L h ((d, dictOf [{ hash := PyData.keyHash w.params (Str.ofString "lineno"), key := Value.str (Str.ofString "lineno") k1, val := Value.int ln tl }, { hash := PyData.keyHash w.params (Str.ofString "instream"), key := Value.str (Str.ofString "instream") k2, val := Value.ref sx },
      { hash := PyData.keyHash w.params (Str.ofString "whitespace"), key := Value.str (Str.ofString "whitespace") k3, val := Value.str (Str.ofString "\n\t\x0d ") tw }, { hash := PyData.keyHash w.params (Str.ofString "pushback"), key := Value.str (Str.ofString "pushback") k4, val := Value.ref pb }] 4) :: (lf, W.listOf lv.toArray nlf) :: (x, instObj 83 d) :: (f, fnMade (Str.ofString "_law_next") fq { posonlyargs := [], args := [{ arg := Str.ofString "size", annotation := none, pos := { line := 98, col := 18, endLine := 98, endCol := 22 } }], vararg := none, kwonlyargs := [], kw_defaults := [], kwarg := none, defaults := [] }
    [Stmt.Return (some ((Expr.Name (Str.ofString "left") { line := 99, col := 30, endLine := 99, endCol := 34 }).IfExp
      (((Expr.Name (Str.ofString "left") { line := 99, col := 15, endLine := 99, endCol := 19 }).Attribute (Str.ofString "pop") { line := 99, col := 15, endLine := 99, endCol := 23 }).Call [Expr.Constant (Const.int 0) 0 { line := 99, col := 24, endLine := 99, endCol := 25 }] [] { line := 99, col := 15, endLine := 99, endCol := 26 })
      (Expr.Constant (Const.str (Str.ofString "")) 0 { line := 99, col := 40, endLine := 99, endCol := 42 }) { line := 99, col := 15, endLine := 99, endCol := 42 })) { line := 99, col := 8, endLine := 99, endCol := 42 }]
    { kind := ScopeKind.function, names := [(Str.ofString "size", NameKind.local), (Str.ofString "left", NameKind.free)], isGenerator := false, isCoroutine := false } [(Str.ofString "left", cell)] doc pm c ct) :: (c, oc) :: (sx, instObj 83 sd) ::
    (sd, dictOf [{ hash := PyData.keyHash w.params (Str.ofString "lineno"), key := Value.str (Str.ofString "lineno") j1, val := Value.int jn jl }, { hash := PyData.keyHash w.params (Str.ofString "instream"), key := Value.str (Str.ofString "instream") j2, val := Value.none },
      { hash := PyData.keyHash w.params (Str.ofString "whitespace"), key := Value.str (Str.ofString "whitespace") j3, val := Value.str (Str.ofString "\n\t\x0d ") jw }, { hash := PyData.keyHash w.params (Str.ofString "pushback"), key := Value.str (Str.ofString "pushback") j4, val := Value.ref spb },
      { hash := PyData.keyHash w.params (Str.ofString "read"), key := Value.str (Str.ofString "read") j5, val := Value.ref f }] 5) :: (cell, ocl) :: (pb, W.listOf pv.toArray npb) :: news)
theorem get_k {x d pb f c lf cell sx sd spb : Addr} {k1 k2 k3 k4 tw j1 j2 j3 j4 j5 jl jw tq : Nat} {jn : Int} {fq : Str} {doc pm ct : Value} {oc ocl : Obj} {vsc : Array Value} {ln : Int} {tl nlf : Nat} {lv : List Value} {npb : Nat} {pv : List Value} {p : Tri} {ts : List Tri} (hc1 : oc.data = Data.fields vsc) (hc2 : vsc[1]? = some (.str fq tq)) (hcell : ocl.data = Data.cell (some (.ref lf)))
  (hord : @LT.lt Nat _ cell lf ∧ @LT.lt Nat _ lf sd ∧ @LT.lt Nat _ sd sx ∧ @LT.lt Nat _ sx spb ∧ @LT.lt Nat _ spb c ∧ @LT.lt Nat _ c f ∧ @LT.lt Nat _ f d ∧ @LT.lt Nat _ d x ∧ @LT.lt Nat _ x pb)
  (hoff : ∀ p ∈ news, p.1 ≠ d ∧ p.1 ≠ lf) (hoffp : ∀ p ∈ news, p.1 ≠ pb)
  (B : Below A₀ base outer h₀) (F : Fr h₀ L s.heap m) (X : (hd.heap_39 w.params).In h₀)
  (N : LexN w h₀ L s.heap news x d pb f c lf cell sx sd k1 k2 k3 k4 tw j1 j2 j3 j4 j5 jl jw spb jn fq doc pm ct oc ocl ln tl nlf npb lv pv) (T : Top topProg lo mean mg mb h₀) (hk : cs.kind = .function)
  (CH : CodeHd base 110 106) (hS : TS lv pv (p :: ts)) (hp : Small p) (hts : ∀ q ∈ ts, Small q) (hl : ts.length < 5)
  (hdp : dp < 770) (hun : un < 7700)
  (hret : ∀ (t : Tok) (h' : Heap) (tk' : Nat) (ln' : Int) (tl' nlf' npb' : Nat) (lv' pv' : List Value), TS lv' pv' ts → Fr h₀ L h' m → LexN w h₀ L h' news x d pb f c lf cell sx sd k1 k2 k3 k4 tw j1 j2 j3 j4 j5 jl jw spb jn fq doc pm ct oc ocl ln' tl' nlf' npb' lv' pv' → Q (.str (mailT p) t) { s with heap := h', toks := tk' }) :
  wpAny (model prg w) (ktrTop dp un gd cn cs L fa ccd cl outer) (call (.ref 73) [.ref x]) Q E s := by
  obtain ⟨⟨p1, p2⟩, ⟨p3, p4⟩, p5, p6⟩ := hp
  have hml : (mailLT p).length < 200 := by rw [mailL_len]; omega
  cases hS with
  | two hC =>
    rename_i q
    obtain ⟨⟨q1, q2⟩, ⟨q3, q4⟩, q5, q6⟩ := hts q (by simp)
    have hml2 : (mailLT q).length < 200 := by rw [mailL_len]; omega
    have hlen := hC.len
    cases hC with | cons _ tv hC => ?_
    rename_i lv
    simp only [List.length_cons, List.length_append, List.length_nil] at hlen
    refine token_1 (ts := mailLT p) (rest := 32 :: 34 :: (mailLT q ++ [34])) hc1 hc2 hcell hord hoff B F X N T hk CH (mailL_mem _ _ _) hC (by omega) (by omega) hdp hun (fun t h' tk' ln' tl' nlf' lv' hC' F' N' => ?_)
    rw [pushes_mail]
    exact hret t h' tk' ln' tl' nlf' npb lv' [] (.one hC') F' N'
  | one hC =>
    have hlen := hC.len
    cases hC with | cons _ tv2 hC => ?_
    cases hC with | cons _ tv hC => ?_
    rename_i lv
    simp only [List.length_cons, List.length_append, List.length_nil] at hlen
    refine token_2 (ts := mailLT p) (rest := []) hc1 hc2 hcell hord hoff B F X N T hk CH (mailL_mem _ _ _) hC (by omega) (by omega) hdp hun (fun t h' tk' ln' tl' nlf' lv' hC' F' N' => ?_)
    rw [pushes_mail]
    cases hC'
    exact hret t h' tk' ln' tl' nlf' npb [] [] .nil F' N'
  | cons hS =>
    rename_i pv t
    have hl2 := hS.len
    have hl3 : pv.length < 900 := by omega
    have N2 : News h₀ L s.heap ((pb, W.listOf (.str (mailT p) t :: pv).toArray npb) :: (x, instObj 83 d) :: (d, dictOf [{ hash := PyData.keyHash w.params (Str.ofString "lineno"), key := Value.str (Str.ofString "lineno") k1, val := Value.int ln tl }, { hash := PyData.keyHash w.params (Str.ofString "instream"), key := Value.str (Str.ofString "instream") k2, val := Value.ref sx },
      { hash := PyData.keyHash w.params (Str.ofString "whitespace"), key := Value.str (Str.ofString "whitespace") k3, val := Value.str (Str.ofString "\n\t\x0d ") tw }, { hash := PyData.keyHash w.params (Str.ofString "pushback"), key := Value.str (Str.ofString "pushback") k4, val := Value.ref pb }] 4) :: ((lf, W.listOf ([] : List Value).toArray nlf) :: (f, fnMade (Str.ofString "_law_next") fq { posonlyargs := [], args := [{ arg := Str.ofString "size", annotation := none, pos := { line := 98, col := 18, endLine := 98, endCol := 22 } }], vararg := none, kwonlyargs := [], kw_defaults := [], kwarg := none, defaults := [] }
    [Stmt.Return (some ((Expr.Name (Str.ofString "left") { line := 99, col := 30, endLine := 99, endCol := 34 }).IfExp
      (((Expr.Name (Str.ofString "left") { line := 99, col := 15, endLine := 99, endCol := 19 }).Attribute (Str.ofString "pop") { line := 99, col := 15, endLine := 99, endCol := 23 }).Call [Expr.Constant (Const.int 0) 0 { line := 99, col := 24, endLine := 99, endCol := 25 }] [] { line := 99, col := 15, endLine := 99, endCol := 26 })
      (Expr.Constant (Const.str (Str.ofString "")) 0 { line := 99, col := 40, endLine := 99, endCol := 42 }) { line := 99, col := 15, endLine := 99, endCol := 42 })) { line := 99, col := 8, endLine := 99, endCol := 42 }]
    { kind := ScopeKind.function, names := [(Str.ofString "size", NameKind.local), (Str.ofString "left", NameKind.free)], isGenerator := false, isCoroutine := false } [(Str.ofString "left", cell)] doc pm c ct) :: (c, oc) :: (sx, instObj 83 sd) ::
    (sd, dictOf [{ hash := PyData.keyHash w.params (Str.ofString "lineno"), key := Value.str (Str.ofString "lineno") j1, val := Value.int jn jl }, { hash := PyData.keyHash w.params (Str.ofString "instream"), key := Value.str (Str.ofString "instream") j2, val := Value.none },
      { hash := PyData.keyHash w.params (Str.ofString "whitespace"), key := Value.str (Str.ofString "whitespace") j3, val := Value.str (Str.ofString "\n\t\x0d ") jw }, { hash := PyData.keyHash w.params (Str.ofString "pushback"), key := Value.str (Str.ofString "pushback") j4, val := Value.ref spb },
      { hash := PyData.keyHash w.params (Str.ofString "read"), key := Value.str (Str.ofString "read") j5, val := Value.ref f }] 5) :: (cell, ocl) :: news)) := by
      (refine' news_sub ?n1 ?n2; (case n1 => exact N); (case n2 => kcj_all))
    refine pop_k ⟨hord.2.2.2.2.2.2.2.1, hord.2.2.2.2.2.2.2.2⟩ ?_ hl3 B F X N2 T hk hdp hun (fun h' tk' F' N' => ?_)
    · intro p hp
      simp only [List.mem_cons] at hp
      rcases hp with rfl | rfl | rfl | rfl | rfl | rfl | hp
      all_goals first | exact hoffp p hp | k_ne
    · refine hret t h' tk' ln tl nlf (npb + 1) [] pv hS F' ?_
      show News _ _ _ _
      (refine' news_sub ?n1 ?n2; (case n1 => exact N'); (case n2 => kcj_all))
theorem psh_k {x d pb f c lf cell sx sd spb : Addr} {k1 k2 k3 k4 tw j1 j2 j3 j4 j5 jl jw tq : Nat} {jn : Int} {fq : Str} {doc pm ct : Value} {oc ocl : Obj} {vsc : Array Value} {ln : Int} {tl nlf : Nat} {lv : List Value} {npb : Nat} {pv : List Value} {p : Tri} {ts : List Tri} {t : Nat} (hc1 : oc.data = Data.fields vsc) (hc2 : vsc[1]? = some (.str fq tq)) (hcell : ocl.data = Data.cell (some (.ref lf)))
  (hord : @LT.lt Nat _ cell lf ∧ @LT.lt Nat _ lf sd ∧ @LT.lt Nat _ sd sx ∧ @LT.lt Nat _ sx spb ∧ @LT.lt Nat _ spb c ∧ @LT.lt Nat _ c f ∧ @LT.lt Nat _ f d ∧ @LT.lt Nat _ d x ∧ @LT.lt Nat _ x pb)
  (hoff : ∀ p ∈ news, p.1 ≠ d ∧ p.1 ≠ lf) (hoffp : ∀ p ∈ news, p.1 ≠ pb)
  (B : Below A₀ base outer h₀) (F : Fr h₀ L s.heap m) (X : (hd.heap_39 w.params).In h₀)
  (N : LexN w h₀ L s.heap news x d pb f c lf cell sx sd k1 k2 k3 k4 tw j1 j2 j3 j4 j5 jl jw spb jn fq doc pm ct oc ocl ln tl nlf npb lv pv) (T : Top topProg lo mean mg mb h₀) (hk : cs.kind = .function)
  (hlv : lv = []) (hS : TS lv pv ts) (hl : ts.length < 5)
  (hdp : dp < 770) (hun : un < 7700)
  (hret : ∀ (h' : Heap) (tk' : Nat) (npb' : Nat) (pv' : List Value), TS [] pv' (ts ++ [p]) → Fr h₀ L h' m → LexN w h₀ L h' news x d pb f c lf cell sx sd k1 k2 k3 k4 tw j1 j2 j3 j4 j5 jl jw spb jn fq doc pm ct oc ocl ln tl nlf npb' [] pv' → Q .none { s with heap := h', toks := tk' }) :
  wpAny (model prg w) (ktrTop dp un gd cn cs L fa ccd cl outer) (call (.ref 80) [.ref x, .str (mailT p) t]) Q E s := by
  subst hlv
  have hl2 := hS.len
  have hl3 : pv.toArray.size < 900 := by rw [List.size_toArray]; omega
  have N2 : News h₀ L s.heap ((pb, W.listOf pv.toArray npb) :: (x, instObj 83 d) :: (d, dictOf [{ hash := PyData.keyHash w.params (Str.ofString "lineno"), key := Value.str (Str.ofString "lineno") k1, val := Value.int ln tl }, { hash := PyData.keyHash w.params (Str.ofString "instream"), key := Value.str (Str.ofString "instream") k2, val := Value.ref sx },
      { hash := PyData.keyHash w.params (Str.ofString "whitespace"), key := Value.str (Str.ofString "whitespace") k3, val := Value.str (Str.ofString "\n\t\x0d ") tw }, { hash := PyData.keyHash w.params (Str.ofString "pushback"), key := Value.str (Str.ofString "pushback") k4, val := Value.ref pb }] 4) :: ((lf, W.listOf ([] : List Value).toArray nlf) :: (f, fnMade (Str.ofString "_law_next") fq { posonlyargs := [], args := [{ arg := Str.ofString "size", annotation := none, pos := { line := 98, col := 18, endLine := 98, endCol := 22 } }], vararg := none, kwonlyargs := [], kw_defaults := [], kwarg := none, defaults := [] }
    [Stmt.Return (some ((Expr.Name (Str.ofString "left") { line := 99, col := 30, endLine := 99, endCol := 34 }).IfExp
      (((Expr.Name (Str.ofString "left") { line := 99, col := 15, endLine := 99, endCol := 19 }).Attribute (Str.ofString "pop") { line := 99, col := 15, endLine := 99, endCol := 23 }).Call [Expr.Constant (Const.int 0) 0 { line := 99, col := 24, endLine := 99, endCol := 25 }] [] { line := 99, col := 15, endLine := 99, endCol := 26 })
      (Expr.Constant (Const.str (Str.ofString "")) 0 { line := 99, col := 40, endLine := 99, endCol := 42 }) { line := 99, col := 15, endLine := 99, endCol := 42 })) { line := 99, col := 8, endLine := 99, endCol := 42 }]
    { kind := ScopeKind.function, names := [(Str.ofString "size", NameKind.local), (Str.ofString "left", NameKind.free)], isGenerator := false, isCoroutine := false } [(Str.ofString "left", cell)] doc pm c ct) :: (c, oc) :: (sx, instObj 83 sd) ::
    (sd, dictOf [{ hash := PyData.keyHash w.params (Str.ofString "lineno"), key := Value.str (Str.ofString "lineno") j1, val := Value.int jn jl }, { hash := PyData.keyHash w.params (Str.ofString "instream"), key := Value.str (Str.ofString "instream") j2, val := Value.none },
      { hash := PyData.keyHash w.params (Str.ofString "whitespace"), key := Value.str (Str.ofString "whitespace") j3, val := Value.str (Str.ofString "\n\t\x0d ") jw }, { hash := PyData.keyHash w.params (Str.ofString "pushback"), key := Value.str (Str.ofString "pushback") j4, val := Value.ref spb },
      { hash := PyData.keyHash w.params (Str.ofString "read"), key := Value.str (Str.ofString "read") j5, val := Value.ref f }] 5) :: (cell, ocl) :: news)) := by
    (refine' news_sub ?n1 ?n2; (case n1 => exact N); (case n2 => kcj_all))
  refine push_k ⟨hord.2.2.2.2.2.2.2.1, hord.2.2.2.2.2.2.2.2⟩ ?_ hl3 B F X N2 T hk hdp hun (fun h' tk' F' N' => ?_)
  · intro p hp
    simp only [List.mem_cons] at hp
    rcases hp with rfl | rfl | rfl | rfl | rfl | rfl | hp
    all_goals first | exact hoffp p hp | k_ne
  · refine hret h' tk' (npb + 1) (pv ++ [.str (mailT p) t]) (hS.snoc p t) F' ?_
    have e : (pv ++ [Value.str (mailT p) t]).toArray = pv.toArray.push (.str (mailT p) t) := by simp
    show News _ _ _ _
    rw [e]
    (refine' news_sub ?n1 ?n2; (case n1 => exact N'); (case n2 => kcj_all))
end
end
section
open PySem PySem.W PyProof.Rows
set_option maxRecDepth 100000
set_option maxHeartbeats 8000000

section
variable {w : World} {mean : ExcName → Option Value} {mg mb : Str → Option Value} {dp un : Nat} {gd : Option (List Code)} {cn : Str} {cs : Scope} {fa : Addr} {ccd : Value} {cl : List (Str × Addr)} {outer : List Env} {A A₀ : Around} {base h₀ : Heap} {L : Addr} {m : Str → Option Value} {s : Shared} {Q E : Value → Shared → Prop} {news : List (Addr × Obj)}

theorem rem_lex {x d pb f c lf cell sx sd spb : Addr} {k1 k2 k3 k4 tw j1 j2 j3 j4 j5 jl jw tq : Nat} {jn : Int} {fq : Str} {doc pm ct : Value} {oc ocl : Obj} {vsc : Array Value} {ln : Int} {tl nlf : Nat} {lv : List Value} {h : Heap} {npb : Nat} {pv : List Value} {r0 r1 r2 r3 : List (Addr × Obj)}
  (N : News h₀ L h r0) (R1 : Rem d (Prod.snd (d, dictOf [{ hash := PyData.keyHash w.params (Str.ofString "lineno"), key := Value.str (Str.ofString "lineno") k1, val := Value.int ln tl }, { hash := PyData.keyHash w.params (Str.ofString "instream"), key := Value.str (Str.ofString "instream") k2, val := Value.ref sx },
      { hash := PyData.keyHash w.params (Str.ofString "whitespace"), key := Value.str (Str.ofString "whitespace") k3, val := Value.str (Str.ofString "\n\t\x0d ") tw }, { hash := PyData.keyHash w.params (Str.ofString "pushback"), key := Value.str (Str.ofString "pushback") k4, val := Value.ref pb }] 4)) r0 r1) (R2 : Rem lf (W.listOf lv.toArray nlf) r1 r2) (R3 : Rem pb (W.listOf pv.toArray npb) r2 r3) (hm0 : ((x, instObj 83 d) : Addr × Obj) ∈ r3) (hm1 : ((f, fnMade (Str.ofString "_law_next") fq { posonlyargs := [], args := [{ arg := Str.ofString "size", annotation := none, pos := { line := 98, col := 18, endLine := 98, endCol := 22 } }], vararg := none, kwonlyargs := [], kw_defaults := [], kwarg := none, defaults := [] }
    [Stmt.Return (some ((Expr.Name (Str.ofString "left") { line := 99, col := 30, endLine := 99, endCol := 34 }).IfExp
      (((Expr.Name (Str.ofString "left") { line := 99, col := 15, endLine := 99, endCol := 19 }).Attribute (Str.ofString "pop") { line := 99, col := 15, endLine := 99, endCol := 23 }).Call [Expr.Constant (Const.int 0) 0 { line := 99, col := 24, endLine := 99, endCol := 25 }] [] { line := 99, col := 15, endLine := 99, endCol := 26 })
      (Expr.Constant (Const.str (Str.ofString "")) 0 { line := 99, col := 40, endLine := 99, endCol := 42 }) { line := 99, col := 15, endLine := 99, endCol := 42 })) { line := 99, col := 8, endLine := 99, endCol := 42 }]
    { kind := ScopeKind.function, names := [(Str.ofString "size", NameKind.local), (Str.ofString "left", NameKind.free)], isGenerator := false, isCoroutine := false } [(Str.ofString "left", cell)] doc pm c ct) : Addr × Obj) ∈ r3) (hm2 : ((c, oc) : Addr × Obj) ∈ r3) (hm3 : ((sx, instObj 83 sd) : Addr × Obj) ∈ r3) (hm4 : ((sd, dictOf [{ hash := PyData.keyHash w.params (Str.ofString "lineno"), key := Value.str (Str.ofString "lineno") j1, val := Value.int jn jl }, { hash := PyData.keyHash w.params (Str.ofString "instream"), key := Value.str (Str.ofString "instream") j2, val := Value.none },
      { hash := PyData.keyHash w.params (Str.ofString "whitespace"), key := Value.str (Str.ofString "whitespace") j3, val := Value.str (Str.ofString "\n\t\x0d ") jw }, { hash := PyData.keyHash w.params (Str.ofString "pushback"), key := Value.str (Str.ofString "pushback") j4, val := Value.ref spb },
      { hash := PyData.keyHash w.params (Str.ofString "read"), key := Value.str (Str.ofString "read") j5, val := Value.ref f }] 5) : Addr × Obj) ∈ r3) (hm5 : ((cell, ocl) : Addr × Obj) ∈ r3) :
  LexN w h₀ L h r3 x d pb f c lf cell sx sd k1 k2 k3 k4 tw j1 j2 j3 j4 j5 jl jw spb jn fq doc pm ct oc ocl ln tl nlf npb lv pv := by
  have N1 := R1.news N
  intro p hp
  simp only [List.mem_cons] at hp
  have a3 : ∀ q ∈ r3, q ∈ r0 := fun q hq => R1.mem (R2.mem (R3.mem hq))
  rcases hp with rfl | rfl | rfl | rfl | rfl | rfl | rfl | rfl | rfl | hp
  · exact N1 _ (List.mem_cons_self ..)
  · exact N _ (R1.mem (R2.sub _ (List.mem_cons_self ..)))
  · exact N _ (a3 _ hm0)
  · exact N _ (a3 _ hm1)
  · exact N _ (a3 _ hm2)
  · exact N _ (a3 _ hm3)
  · exact N _ (a3 _ hm4)
  · exact N _ (a3 _ hm5)
  · exact N _ (R1.mem (R2.mem (R3.sub _ (List.mem_cons_self ..))))
  · exact N _ (a3 _ hp)
theorem get_r {x d pb f c lf cell sx sd spb : Addr} {k1 k2 k3 k4 tw j1 j2 j3 j4 j5 jl jw tq : Nat} {jn : Int} {fq : Str} {doc pm ct : Value} {oc ocl : Obj} {vsc : Array Value} {ln : Int} {tl nlf : Nat} {lv : List Value} {npb : Nat} {pv : List Value} {a1 b1 c1 : Nat} {ts : List Tri} {r0 r1 r2 r3 : List (Addr × Obj)}
  (hc1 : oc.data = Data.fields vsc) (hc2 : vsc[1]? = some (.str fq tq)) (hcell : ocl.data = Data.cell (some (.ref lf)))
  (hord : @LT.lt Nat _ cell lf ∧ @LT.lt Nat _ lf sd ∧ @LT.lt Nat _ sd sx ∧ @LT.lt Nat _ sx spb ∧ @LT.lt Nat _ spb c ∧ @LT.lt Nat _ c f ∧ @LT.lt Nat _ f d ∧ @LT.lt Nat _ d x ∧ @LT.lt Nat _ x pb)
  (B : Below A₀ base outer h₀) (F : Fr h₀ L s.heap m) (X : (hd.heap_39 w.params).In h₀)
  (N : News h₀ L s.heap r0) (R1 : Rem d (Prod.snd (d, dictOf [{ hash := PyData.keyHash w.params (Str.ofString "lineno"), key := Value.str (Str.ofString "lineno") k1, val := Value.int ln tl }, { hash := PyData.keyHash w.params (Str.ofString "instream"), key := Value.str (Str.ofString "instream") k2, val := Value.ref sx },
      { hash := PyData.keyHash w.params (Str.ofString "whitespace"), key := Value.str (Str.ofString "whitespace") k3, val := Value.str (Str.ofString "\n\t\x0d ") tw }, { hash := PyData.keyHash w.params (Str.ofString "pushback"), key := Value.str (Str.ofString "pushback") k4, val := Value.ref pb }] 4)) r0 r1) (R2 : Rem lf (W.listOf lv.toArray nlf) r1 r2) (R3 : Rem pb (W.listOf pv.toArray npb) r2 r3) (hm0 : ((x, instObj 83 d) : Addr × Obj) ∈ r3) (hm1 : ((f, fnMade (Str.ofString "_law_next") fq { posonlyargs := [], args := [{ arg := Str.ofString "size", annotation := none, pos := { line := 98, col := 18, endLine := 98, endCol := 22 } }], vararg := none, kwonlyargs := [], kw_defaults := [], kwarg := none, defaults := [] }
    [Stmt.Return (some ((Expr.Name (Str.ofString "left") { line := 99, col := 30, endLine := 99, endCol := 34 }).IfExp
      (((Expr.Name (Str.ofString "left") { line := 99, col := 15, endLine := 99, endCol := 19 }).Attribute (Str.ofString "pop") { line := 99, col := 15, endLine := 99, endCol := 23 }).Call [Expr.Constant (Const.int 0) 0 { line := 99, col := 24, endLine := 99, endCol := 25 }] [] { line := 99, col := 15, endLine := 99, endCol := 26 })
      (Expr.Constant (Const.str (Str.ofString "")) 0 { line := 99, col := 40, endLine := 99, endCol := 42 }) { line := 99, col := 15, endLine := 99, endCol := 42 })) { line := 99, col := 8, endLine := 99, endCol := 42 }]
    { kind := ScopeKind.function, names := [(Str.ofString "size", NameKind.local), (Str.ofString "left", NameKind.free)], isGenerator := false, isCoroutine := false } [(Str.ofString "left", cell)] doc pm c ct) : Addr × Obj) ∈ r3) (hm2 : ((c, oc) : Addr × Obj) ∈ r3) (hm3 : ((sx, instObj 83 sd) : Addr × Obj) ∈ r3) (hm4 : ((sd, dictOf [{ hash := PyData.keyHash w.params (Str.ofString "lineno"), key := Value.str (Str.ofString "lineno") j1, val := Value.int jn jl }, { hash := PyData.keyHash w.params (Str.ofString "instream"), key := Value.str (Str.ofString "instream") j2, val := Value.none },
      { hash := PyData.keyHash w.params (Str.ofString "whitespace"), key := Value.str (Str.ofString "whitespace") j3, val := Value.str (Str.ofString "\n\t\x0d ") jw }, { hash := PyData.keyHash w.params (Str.ofString "pushback"), key := Value.str (Str.ofString "pushback") j4, val := Value.ref spb },
      { hash := PyData.keyHash w.params (Str.ofString "read"), key := Value.str (Str.ofString "read") j5, val := Value.ref f }] 5) : Addr × Obj) ∈ r3) (hm5 : ((cell, ocl) : Addr × Obj) ∈ r3)
  (T : Top topProg lo mean mg mb h₀) (hk : cs.kind = .function)
  (CH : CodeHd base 110 106) (hS : TS lv pv ((a1, b1, c1) :: ts)) (hp : ∀ q ∈ (a1, b1, c1) :: ts, Small q) (hl : ts.length < 5)
  (hdp : dp < 770) (hun : un < 7700)
  (hret : ∀ (t : Tok) (h' : Heap) (tk' : Nat) (ln' : Int) (tl' nlf' npb' : Nat) (lv' pv' : List Value), TS lv' pv' ts → Fr h₀ L h' m → News h₀ L h' ((d, dictOf [{ hash := PyData.keyHash w.params (Str.ofString "lineno"), key := Value.str (Str.ofString "lineno") k1, val := Value.int ln' tl' }, { hash := PyData.keyHash w.params (Str.ofString "instream"), key := Value.str (Str.ofString "instream") k2, val := Value.ref sx },
      { hash := PyData.keyHash w.params (Str.ofString "whitespace"), key := Value.str (Str.ofString "whitespace") k3, val := Value.str (Str.ofString "\n\t\x0d ") tw }, { hash := PyData.keyHash w.params (Str.ofString "pushback"), key := Value.str (Str.ofString "pushback") k4, val := Value.ref pb }] 4) :: (lf, W.listOf lv'.toArray nlf') :: (pb, W.listOf pv'.toArray npb') :: r3) → Q (.str (mailS a1 b1 c1) t) { s with heap := h', toks := tk' }) :
  wpAny (model prg w) (ktrTop dp un gd cn cs L fa ccd cl outer) (call (.ref 73) [.ref x]) Q E s := by
  refine get_k hc1 hc2 hcell hord (fun p hp => ⟨R1.off p (R2.mem (R3.mem hp)), R2.off p (R3.mem hp)⟩) R3.off B F X (rem_lex (vsc := vsc) (tq := tq) N R1 R2 R3 hm0 hm1 hm2 hm3 hm4 hm5) T hk CH hS (hp _ (List.mem_cons_self ..)) (fun q hq => hp q (List.mem_cons_of_mem _ hq)) hl hdp hun (fun t h' tk' ln' tl' nlf' npb' lv' pv' hS' F' N' => ?_)
  refine hret t h' tk' ln' tl' nlf' npb' lv' pv' hS' F' ?_
  refine news_sub N' (fun p hp => ?_)
  simp only [List.mem_cons] at hp ⊢
  rcases hp with h | h | h | h <;> simp [h]
theorem psh_r {x d pb f c lf cell sx sd spb : Addr} {k1 k2 k3 k4 tw j1 j2 j3 j4 j5 jl jw tq : Nat} {jn : Int} {fq : Str} {doc pm ct : Value} {oc ocl : Obj} {vsc : Array Value} {ln : Int} {tl nlf : Nat} {lv : List Value} {npb : Nat} {pv : List Value} {a1 b1 c1 : Nat} {ts : List Tri} {t : Nat} {r0 r1 r2 r3 : List (Addr × Obj)}
  (hc1 : oc.data = Data.fields vsc) (hc2 : vsc[1]? = some (.str fq tq)) (hcell : ocl.data = Data.cell (some (.ref lf)))
  (hord : @LT.lt Nat _ cell lf ∧ @LT.lt Nat _ lf sd ∧ @LT.lt Nat _ sd sx ∧ @LT.lt Nat _ sx spb ∧ @LT.lt Nat _ spb c ∧ @LT.lt Nat _ c f ∧ @LT.lt Nat _ f d ∧ @LT.lt Nat _ d x ∧ @LT.lt Nat _ x pb)
  (B : Below A₀ base outer h₀) (F : Fr h₀ L s.heap m) (X : (hd.heap_39 w.params).In h₀)
  (N : News h₀ L s.heap r0) (R1 : Rem d (Prod.snd (d, dictOf [{ hash := PyData.keyHash w.params (Str.ofString "lineno"), key := Value.str (Str.ofString "lineno") k1, val := Value.int ln tl }, { hash := PyData.keyHash w.params (Str.ofString "instream"), key := Value.str (Str.ofString "instream") k2, val := Value.ref sx },
      { hash := PyData.keyHash w.params (Str.ofString "whitespace"), key := Value.str (Str.ofString "whitespace") k3, val := Value.str (Str.ofString "\n\t\x0d ") tw }, { hash := PyData.keyHash w.params (Str.ofString "pushback"), key := Value.str (Str.ofString "pushback") k4, val := Value.ref pb }] 4)) r0 r1) (R2 : Rem lf (W.listOf lv.toArray nlf) r1 r2) (R3 : Rem pb (W.listOf pv.toArray npb) r2 r3) (hm0 : ((x, instObj 83 d) : Addr × Obj) ∈ r3) (hm1 : ((f, fnMade (Str.ofString "_law_next") fq { posonlyargs := [], args := [{ arg := Str.ofString "size", annotation := none, pos := { line := 98, col := 18, endLine := 98, endCol := 22 } }], vararg := none, kwonlyargs := [], kw_defaults := [], kwarg := none, defaults := [] }
    [Stmt.Return (some ((Expr.Name (Str.ofString "left") { line := 99, col := 30, endLine := 99, endCol := 34 }).IfExp
      (((Expr.Name (Str.ofString "left") { line := 99, col := 15, endLine := 99, endCol := 19 }).Attribute (Str.ofString "pop") { line := 99, col := 15, endLine := 99, endCol := 23 }).Call [Expr.Constant (Const.int 0) 0 { line := 99, col := 24, endLine := 99, endCol := 25 }] [] { line := 99, col := 15, endLine := 99, endCol := 26 })
      (Expr.Constant (Const.str (Str.ofString "")) 0 { line := 99, col := 40, endLine := 99, endCol := 42 }) { line := 99, col := 15, endLine := 99, endCol := 42 })) { line := 99, col := 8, endLine := 99, endCol := 42 }]
    { kind := ScopeKind.function, names := [(Str.ofString "size", NameKind.local), (Str.ofString "left", NameKind.free)], isGenerator := false, isCoroutine := false } [(Str.ofString "left", cell)] doc pm c ct) : Addr × Obj) ∈ r3) (hm2 : ((c, oc) : Addr × Obj) ∈ r3) (hm3 : ((sx, instObj 83 sd) : Addr × Obj) ∈ r3) (hm4 : ((sd, dictOf [{ hash := PyData.keyHash w.params (Str.ofString "lineno"), key := Value.str (Str.ofString "lineno") j1, val := Value.int jn jl }, { hash := PyData.keyHash w.params (Str.ofString "instream"), key := Value.str (Str.ofString "instream") j2, val := Value.none },
      { hash := PyData.keyHash w.params (Str.ofString "whitespace"), key := Value.str (Str.ofString "whitespace") j3, val := Value.str (Str.ofString "\n\t\x0d ") jw }, { hash := PyData.keyHash w.params (Str.ofString "pushback"), key := Value.str (Str.ofString "pushback") j4, val := Value.ref spb },
      { hash := PyData.keyHash w.params (Str.ofString "read"), key := Value.str (Str.ofString "read") j5, val := Value.ref f }] 5) : Addr × Obj) ∈ r3) (hm5 : ((cell, ocl) : Addr × Obj) ∈ r3)
  (T : Top topProg lo mean mg mb h₀) (hk : cs.kind = .function)
  (hlv : lv = []) (hS : TS lv pv ts) (hl : ts.length < 5)
  (hdp : dp < 770) (hun : un < 7700)
  (hret : ∀ (h' : Heap) (tk' : Nat) (npb' : Nat) (pv' : List Value), TS [] pv' (ts ++ [(a1, b1, c1)]) → Fr h₀ L h' m → News h₀ L h' ((d, dictOf [{ hash := PyData.keyHash w.params (Str.ofString "lineno"), key := Value.str (Str.ofString "lineno") k1, val := Value.int ln tl }, { hash := PyData.keyHash w.params (Str.ofString "instream"), key := Value.str (Str.ofString "instream") k2, val := Value.ref sx },
      { hash := PyData.keyHash w.params (Str.ofString "whitespace"), key := Value.str (Str.ofString "whitespace") k3, val := Value.str (Str.ofString "\n\t\x0d ") tw }, { hash := PyData.keyHash w.params (Str.ofString "pushback"), key := Value.str (Str.ofString "pushback") k4, val := Value.ref pb }] 4) :: (lf, W.listOf ([] : List Value).toArray nlf) :: (pb, W.listOf pv'.toArray npb') :: r3) → Q .none { s with heap := h', toks := tk' }) :
  wpAny (model prg w) (ktrTop dp un gd cn cs L fa ccd cl outer) (call (.ref 80) [.ref x, .str (mailS a1 b1 c1) t]) Q E s := by
  refine psh_k (p := (a1, b1, c1)) hc1 hc2 hcell hord (fun p hp => ⟨R1.off p (R2.mem (R3.mem hp)), R2.off p (R3.mem hp)⟩) R3.off B F X (rem_lex (vsc := vsc) (tq := tq) N R1 R2 R3 hm0 hm1 hm2 hm3 hm4 hm5) T hk hlv hS hl hdp hun (fun h' tk' npb' pv' hS' F' N' => ?_)
  refine hret h' tk' npb' pv' hS' F' ?_
  refine news_sub N' (fun p hp => ?_)
  simp only [List.mem_cons] at hp ⊢
  rcases hp with h | h | h | h <;> simp [h]
theorem map_meas {m₁ m₀ : Str → Option Value} {v : Option Value} (h : ∀ z, z ≠ Str.ofString "step" → z ≠ Str.ofString "first" → z ≠ Str.ofString "second" → z ≠ Str.ofString "one" → z ≠ Str.ofString "two" → z ≠ Str.ofString "apart" → m₁ z = m₀ z) :
    (fun z => if z = Str.ofString "step" then v else m₁ z) = (fun z => if z = Str.ofString "step" then v else if z = Str.ofString "first" then m₁ (Str.ofString "first") else if z = Str.ofString "second" then m₁ (Str.ofString "second") else if z = Str.ofString "one" then m₁ (Str.ofString "one") else if z = Str.ofString "two" then m₁ (Str.ofString "two") else if z = Str.ofString "apart" then m₁ (Str.ofString "apart") else m₀ z) := by
  funext z
  by_cases h0 : z = Str.ofString "step"
  · rw [if_pos h0, if_pos h0]
  by_cases h1 : z = Str.ofString "first"
  · subst h1; rw [if_neg h0, if_neg h0, if_pos rfl]
  by_cases h2 : z = Str.ofString "second"
  · subst h2; rw [if_neg h0, if_neg h0, if_neg h1, if_pos rfl]
  by_cases h3 : z = Str.ofString "one"
  · subst h3; rw [if_neg h0, if_neg h0, if_neg h1, if_neg h2, if_pos rfl]
  by_cases h4 : z = Str.ofString "two"
  · subst h4; rw [if_neg h0, if_neg h0, if_neg h1, if_neg h2, if_neg h3, if_pos rfl]
  by_cases h5 : z = Str.ofString "apart"
  · subst h5; rw [if_neg h0, if_neg h0, if_neg h1, if_neg h2, if_neg h3, if_neg h4, if_pos rfl]
  rw [if_neg h0, if_neg h0, if_neg h1, if_neg h2, if_neg h3, if_neg h4, if_neg h5]
  exact h z h0 h1 h2 h3 h4 h5
noncomputable def MeasPost (w : World) (h₀ : Heap) (L : Addr) (m₀ : Str → Option Value) (St : Tri → Tri → Prop) (news : List (Addr × Obj)) (x d pb f c lf cell sx sd : Addr) (k1 k2 k3 k4 tw j1 j2 j3 j4 j5 jl jw : Nat) (spb : Addr) (jn : Int) (fq : Str) (doc pm ct : Value) (oc ocl : Obj) (s₁ : Shared) (Q : Flow → Shared → Prop) (fl : Flow) (s₂ : Shared) : Prop :=
  match fl with
  | .ret v => Q (.ret v) s₂
  | .brk => Q .next s₂
  | _ => ∃ h' tk m' ln tl nlf npb lv pv p q, s₂ = { s₁ with heap := h', toks := tk } ∧ (∀ z, z ≠ Str.ofString "step" → z ≠ Str.ofString "first" → z ≠ Str.ofString "second" → z ≠ Str.ofString "one" → z ≠ Str.ofString "two" → z ≠ Str.ofString "apart" → m' z = m₀ z) ∧ Fr h₀ L h' m' ∧ LexN w h₀ L h' news x d pb f c lf cell sx sd k1 k2 k3 k4 tw j1 j2 j3 j4 j5 jl jw spb jn fq doc pm ct oc ocl ln tl nlf npb lv pv ∧ TS lv pv [p, q] ∧ St p q
theorem MeasPost.intro {h₀ : Heap} {L : Addr} {m₀ : Str → Option Value} {St : Tri → Tri → Prop} {news : List (Addr × Obj)} {x d pb f c lf cell sx sd spb : Addr} {k1 k2 k3 k4 tw j1 j2 j3 j4 j5 jl jw tq : Nat} {jn : Int} {fq : Str} {doc pm ct : Value} {oc ocl : Obj} {vsc : Array Value} {s₁ : Shared} {Q : Flow → Shared → Prop} {h' : Heap} {tk : Nat} {m' : Str → Option Value} {ln : Int} {tl nlf npb : Nat} {lv pv : List Value} {p q : Tri}
  (hm : ∀ z, z ≠ Str.ofString "step" → z ≠ Str.ofString "first" → z ≠ Str.ofString "second" → z ≠ Str.ofString "one" → z ≠ Str.ofString "two" → z ≠ Str.ofString "apart" → m' z = m₀ z) (F : Fr h₀ L h' m') (N : LexN w h₀ L h' news x d pb f c lf cell sx sd k1 k2 k3 k4 tw j1 j2 j3 j4 j5 jl jw spb jn fq doc pm ct oc ocl ln tl nlf npb lv pv) (hS : TS lv pv [p, q]) (hs : St p q) :
  MeasPost w h₀ L m₀ St news x d pb f c lf cell sx sd k1 k2 k3 k4 tw j1 j2 j3 j4 j5 jl jw spb jn fq doc pm ct oc ocl s₁ Q .next { s₁ with heap := h', toks := tk } := ⟨h', tk, m', ln, tl, nlf, npb, lv, pv, p, q, rfl, hm, F, N, hS, hs⟩
theorem meas_loop {x d pb f c lf cell sx sd spb : Addr} {k1 k2 k3 k4 tw j1 j2 j3 j4 j5 jl jw tq : Nat} {jn : Int} {fq : Str} {doc pm ct : Value} {oc ocl : Obj} {vsc : Array Value} {ln : Int} {tl nlf : Nat} {lv : List Value} {env : Env} {body : List Stmt} {Q : Flow → Shared → Prop} {r : Addr} {b₀ : Int} {t₀ u₀ v₀ : Tok} {n : Nat} {m₀ : Str → Option Value} {npb : Nat} {pv : List Value} {p₀ q₀ : Tri} (St : Nat → Tri → Tri → Prop)
    (hh : A.handled = none) (hr : IsRange s.heap r 0 b₀ 1 t₀ u₀ v₀) (hsmall : Builtin.Range.small 0 b₀ 1 = true) (hn : Builtin.Range.rangeSize 0 b₀ 1 = (n : Int)) (F : Fr h₀ env.locals s.heap m₀)
    (N : LexN w h₀ env.locals s.heap news x d pb f c lf cell sx sd k1 k2 k3 k4 tw j1 j2 j3 j4 j5 jl jw spb jn fq doc pm ct oc ocl ln tl nlf npb lv pv) (hS : TS lv pv [p₀, q₀]) (h0 : St 0 p₀ q₀)
    (hoff : ∀ p ∈ news, p.1 ≠ d ∧ p.1 ≠ lf ∧ p.1 ≠ pb)
    (turn : ∀ (i : Nat) t (u1 u2 u3 u4 u5 : Option Value) h tk tail ln tl nlf npb lv pv a1 b1 c1 a2 b2 c2, i < n → (∀ p ∈ tail, p.1 ≠ d ∧ p.1 ≠ lf ∧ p.1 ≠ pb) → (∀ p ∈ news, p ∈ tail) → TS lv pv [(a1, b1, c1), (a2, b2, c2)] → St i (a1, b1, c1) (a2, b2, c2) →
      Fr h₀ env.locals h (fun z => if z = Str.ofString "step" then some (.int i t) else if z = Str.ofString "first" then u1 else if z = Str.ofString "second" then u2 else if z = Str.ofString "one" then u3 else if z = Str.ofString "two" then u4 else if z = Str.ofString "apart" then u5 else m₀ z) → LexN w h₀ env.locals h tail x d pb f c lf cell sx sd k1 k2 k3 k4 tw j1 j2 j3 j4 j5 jl jw spb jn fq doc pm ct oc ocl ln tl nlf npb lv pv →
      wpAny (model prg w) A (execs body env) (MeasPost w h₀ env.locals m₀ (St (i + 1)) tail x d pb f c lf cell sx sd k1 k2 k3 k4 tw j1 j2 j3 j4 j5 jl jw spb jn fq doc pm ct oc ocl { s with heap := h, toks := tk } Q) E { s with heap := h, toks := tk })
    (fin : ∀ p q, ¬ St n p q) :
    wpAny (model prg w) A (pyIter (.ref r)) (fun it s₂ => LoopAtV prg w A h₀ env (Str.ofString "step") body Q E it s₂) E s := by
  refine range_inv (fun i m' nx => (∀ z, z ≠ Str.ofString "step" → z ≠ Str.ofString "first" → z ≠ Str.ofString "second" → z ≠ Str.ofString "one" → z ≠ Str.ofString "two" → z ≠ Str.ofString "apart" → m' z = m₀ z) ∧
    ∃ ln tl nlf npb lv pv p q, nx = ((d, dictOf [{ hash := PyData.keyHash w.params (Str.ofString "lineno"), key := Value.str (Str.ofString "lineno") k1, val := Value.int ln tl }, { hash := PyData.keyHash w.params (Str.ofString "instream"), key := Value.str (Str.ofString "instream") k2, val := Value.ref sx },
      { hash := PyData.keyHash w.params (Str.ofString "whitespace"), key := Value.str (Str.ofString "whitespace") k3, val := Value.str (Str.ofString "\n\t\x0d ") tw }, { hash := PyData.keyHash w.params (Str.ofString "pushback"), key := Value.str (Str.ofString "pushback") k4, val := Value.ref pb }] 4) :: (lf, W.listOf lv.toArray nlf) :: (x, instObj 83 d) :: (f, fnMade (Str.ofString "_law_next") fq { posonlyargs := [], args := [{ arg := Str.ofString "size", annotation := none, pos := { line := 98, col := 18, endLine := 98, endCol := 22 } }], vararg := none, kwonlyargs := [], kw_defaults := [], kwarg := none, defaults := [] }
    [Stmt.Return (some ((Expr.Name (Str.ofString "left") { line := 99, col := 30, endLine := 99, endCol := 34 }).IfExp
      (((Expr.Name (Str.ofString "left") { line := 99, col := 15, endLine := 99, endCol := 19 }).Attribute (Str.ofString "pop") { line := 99, col := 15, endLine := 99, endCol := 23 }).Call [Expr.Constant (Const.int 0) 0 { line := 99, col := 24, endLine := 99, endCol := 25 }] [] { line := 99, col := 15, endLine := 99, endCol := 26 })
      (Expr.Constant (Const.str (Str.ofString "")) 0 { line := 99, col := 40, endLine := 99, endCol := 42 }) { line := 99, col := 15, endLine := 99, endCol := 42 })) { line := 99, col := 8, endLine := 99, endCol := 42 }]
    { kind := ScopeKind.function, names := [(Str.ofString "size", NameKind.local), (Str.ofString "left", NameKind.free)], isGenerator := false, isCoroutine := false } [(Str.ofString "left", cell)] doc pm c ct) :: (c, oc) :: (sx, instObj 83 sd) ::
    (sd, dictOf [{ hash := PyData.keyHash w.params (Str.ofString "lineno"), key := Value.str (Str.ofString "lineno") j1, val := Value.int jn jl }, { hash := PyData.keyHash w.params (Str.ofString "instream"), key := Value.str (Str.ofString "instream") j2, val := Value.none },
      { hash := PyData.keyHash w.params (Str.ofString "whitespace"), key := Value.str (Str.ofString "whitespace") j3, val := Value.str (Str.ofString "\n\t\x0d ") jw }, { hash := PyData.keyHash w.params (Str.ofString "pushback"), key := Value.str (Str.ofString "pushback") j4, val := Value.ref spb },
      { hash := PyData.keyHash w.params (Str.ofString "read"), key := Value.str (Str.ofString "read") j5, val := Value.ref f }] 5) :: (cell, ocl) :: (pb, W.listOf pv.toArray npb) :: news) ∧ TS lv pv [p, q] ∧ St i p q) hh hr hsmall hn F N ⟨fun _ _ _ _ _ _ _ => rfl, ln, tl, nlf, npb, lv, pv, p₀, q₀, rfl, hS, h0⟩ ?_ ?_
  · rintro i t m₁ _ h tk own hi _ hsep ⟨hm, ln', tl', nlf', npb', lv', pv', ⟨a1, b1, c1⟩, ⟨a2, b2, c2⟩, rfl, hS', hs⟩ F₁ N₁
    rw [map_meas hm] at F₁
    have hd9 : ∀ b, b ∈ [d, lf, pb] → ∀ p ∈ own, p.1 ≠ b := fun b hb p hp => hsep p hp b (by
      simp only [List.mem_cons, List.not_mem_nil, or_false] at hb
      simp only [List.map_cons, List.mem_cons]
      rcases hb with rfl | rfl | rfl <;> simp)
    have hoff' : ∀ p ∈ news ++ own, p.1 ≠ d ∧ p.1 ≠ lf ∧ p.1 ≠ pb := fun p hp => by
      rcases List.mem_append.mp hp with h | h
      · exact hoff p h
      · exact ⟨hd9 d (by simp) p h, hd9 lf (by simp) p h, hd9 pb (by simp) p h⟩
    have N₂ : LexN w h₀ env.locals h (news ++ own) x d pb f c lf cell sx sd k1 k2 k3 k4 tw j1 j2 j3 j4 j5 jl jw spb jn fq doc pm ct oc ocl ln' tl' nlf' npb' lv' pv' := N₁
    refine wpAny_mono (turn i t _ _ _ _ _ h tk (news ++ own) ln' tl' nlf' npb' lv' pv' a1 b1 c1 a2 b2 c2 hi hoff' (fun p hp => List.mem_append_left _ hp) hS' hs F₁ N₂) (fun fl s₂ hq => ?_) fun _ _ e => e
    cases fl with
    | ret v => exact hq
    | brk => exact hq
    | next =>
      obtain ⟨h', tk', m', ln2, tl2, nlf2, npb2, lv2, pv2, p2, q2, rfl, hm2, F2, N2, hS2, hs2⟩ := hq
      exact InvEndN.intro F2 N2 ⟨hm2, ln2, tl2, nlf2, npb2, lv2, pv2, p2, q2, rfl, hS2, hs2⟩ rfl
        (fun p hp => by
          simp only [List.mem_cons, List.mem_append] at hp ⊢
          rcases hp with h | h | h | h | h | h | h | h | h | h <;> simp [h])
        (fun p hp => by simp only [List.mem_cons, List.mem_append]; simp [hp])
    | cont =>
      obtain ⟨h', tk', m', ln2, tl2, nlf2, npb2, lv2, pv2, p2, q2, rfl, hm2, F2, N2, hS2, hs2⟩ := hq
      exact InvEndN.intro F2 N2 ⟨hm2, ln2, tl2, nlf2, npb2, lv2, pv2, p2, q2, rfl, hS2, hs2⟩ rfl
        (fun p hp => by
          simp only [List.mem_cons, List.mem_append] at hp ⊢
          rcases hp with h | h | h | h | h | h | h | h | h | h <;> simp [h])
        (fun p hp => by simp only [List.mem_cons, List.mem_append]; simp [hp])
  · rintro m₁ _ h tk ⟨hm, ln', tl', nlf', npb', lv', pv', p, q, rfl, hS', hs⟩ F₁ N₁
    exact absurd hs (fin p q)
end
end
section
open PySem PySem.W PyProof.Rows
set_option maxRecDepth 100000
set_option maxHeartbeats 8000000


noncomputable abbrev szT (p : Tri) : Int := szI p.1 p.2.1 p.2.2
noncomputable abbrev cc6 : UInt64 := 4618441417868443648
noncomputable abbrev c65 : UInt64 := 4619004367821864960
/-- the rounded sixths between the hues -/
noncomputable def hueX (p q : Tri) : UInt64 := Float64.add (Float64.mul (Float64.sub (hueF p.1 p.2.1 p.2.2) (hueF q.1 q.2.1 q.2.2)) (Float64.ofInt 6)) c65
/-- what _law_less leaves -/
noncomputable def lessT (a b c : Nat) (r g b' : Int) : Tri :=
  let x : Int := ((a + lessN a b c r g b' - r.toNat : Nat) : Int)
  let y : Int := ((b + lessN a b c r g b' - g.toNat : Nat) : Int)
  let z : Int := ((c + lessN a b c r g b' - b'.toNat : Nat) : Int)
  ((x - min (min x y) z + 1).toNat, (y - min (min x y) z + 1).toNat, (z - min (min x y) z + 1).toNat)
structure StOk (St : Nat → Tri → Tri → Prop) : Prop where
  small : ∀ i p q, St i p q → ((0 < p.1 ∧ p.1 < 8) ∧ (0 < p.2.1 ∧ p.2.1 < 8) ∧ (0 < p.2.2 ∧ p.2.2 < 8)) ∧ ((0 < q.1 ∧ q.1 < 8) ∧ (0 < q.2.1 ∧ q.2.1 < 8) ∧ (0 < q.2.2 ∧ q.2.2 < 8))
  fin : ∀ p q, ¬ St 99 p q
  swap : ∀ i p q, St i p q → szT q ≠ 0 → szT p < szT q → St (i + 1) q p
  flt : ∀ i p q, St i p q → Float64.isNaN (hueX p q) = false ∧ Float64.isInf (hueX p q) = false
  less : ∀ i p q, St i p q → szT q ≠ 0 → ¬ szT p < szT q → ∀ X Y Z : Int,
    X = q.1 * xi ((Flt.toInt Float64.truncOf (hueX p q)).fmod 6) + q.2.1 * zi ((Flt.toInt Float64.truncOf (hueX p q)).fmod 6) + q.2.2 * yi ((Flt.toInt Float64.truncOf (hueX p q)).fmod 6) →
    Y = q.1 * yi ((Flt.toInt Float64.truncOf (hueX p q)).fmod 6) + q.2.1 * xi ((Flt.toInt Float64.truncOf (hueX p q)).fmod 6) + q.2.2 * zi ((Flt.toInt Float64.truncOf (hueX p q)).fmod 6) →
    Z = q.1 * zi ((Flt.toInt Float64.truncOf (hueX p q)).fmod 6) + q.2.2 * xi ((Flt.toInt Float64.truncOf (hueX p q)).fmod 6) + q.2.1 * yi ((Flt.toInt Float64.truncOf (hueX p q)).fmod 6) →
    St (i + 1) (lessT p.1 p.2.1 p.2.2 X Y Z) q
section
variable {cell lf sd sx spb c f d x pb : Addr}
theorem o01 (h : @LT.lt Nat _ cell lf ∧ @LT.lt Nat _ lf sd ∧ @LT.lt Nat _ sd sx ∧ @LT.lt Nat _ sx spb ∧ @LT.lt Nat _ spb c ∧ @LT.lt Nat _ c f ∧ @LT.lt Nat _ f d ∧ @LT.lt Nat _ d x ∧ @LT.lt Nat _ x pb) : @LT.lt Nat _ cell lf := h.1
theorem o02 (h : @LT.lt Nat _ cell lf ∧ @LT.lt Nat _ lf sd ∧ @LT.lt Nat _ sd sx ∧ @LT.lt Nat _ sx spb ∧ @LT.lt Nat _ spb c ∧ @LT.lt Nat _ c f ∧ @LT.lt Nat _ f d ∧ @LT.lt Nat _ d x ∧ @LT.lt Nat _ x pb) : @LT.lt Nat _ cell sd := (Nat.lt_trans h.1 h.2.1)
theorem o03 (h : @LT.lt Nat _ cell lf ∧ @LT.lt Nat _ lf sd ∧ @LT.lt Nat _ sd sx ∧ @LT.lt Nat _ sx spb ∧ @LT.lt Nat _ spb c ∧ @LT.lt Nat _ c f ∧ @LT.lt Nat _ f d ∧ @LT.lt Nat _ d x ∧ @LT.lt Nat _ x pb) : @LT.lt Nat _ cell sx := (Nat.lt_trans (Nat.lt_trans h.1 h.2.1) h.2.2.1)
theorem o04 (h : @LT.lt Nat _ cell lf ∧ @LT.lt Nat _ lf sd ∧ @LT.lt Nat _ sd sx ∧ @LT.lt Nat _ sx spb ∧ @LT.lt Nat _ spb c ∧ @LT.lt Nat _ c f ∧ @LT.lt Nat _ f d ∧ @LT.lt Nat _ d x ∧ @LT.lt Nat _ x pb) : @LT.lt Nat _ cell spb := (Nat.lt_trans (Nat.lt_trans (Nat.lt_trans h.1 h.2.1) h.2.2.1) h.2.2.2.1)
theorem o05 (h : @LT.lt Nat _ cell lf ∧ @LT.lt Nat _ lf sd ∧ @LT.lt Nat _ sd sx ∧ @LT.lt Nat _ sx spb ∧ @LT.lt Nat _ spb c ∧ @LT.lt Nat _ c f ∧ @LT.lt Nat _ f d ∧ @LT.lt Nat _ d x ∧ @LT.lt Nat _ x pb) : @LT.lt Nat _ cell c := (Nat.lt_trans (Nat.lt_trans (Nat.lt_trans (Nat.lt_trans h.1 h.2.1) h.2.2.1) h.2.2.2.1) h.2.2.2.2.1)
theorem o06 (h : @LT.lt Nat _ cell lf ∧ @LT.lt Nat _ lf sd ∧ @LT.lt Nat _ sd sx ∧ @LT.lt Nat _ sx spb ∧ @LT.lt Nat _ spb c ∧ @LT.lt Nat _ c f ∧ @LT.lt Nat _ f d ∧ @LT.lt Nat _ d x ∧ @LT.lt Nat _ x pb) : @LT.lt Nat _ cell f := (Nat.lt_trans (Nat.lt_trans (Nat.lt_trans (Nat.lt_trans (Nat.lt_trans h.1 h.2.1) h.2.2.1) h.2.2.2.1) h.2.2.2.2.1) h.2.2.2.2.2.1)
theorem o07 (h : @LT.lt Nat _ cell lf ∧ @LT.lt Nat _ lf sd ∧ @LT.lt Nat _ sd sx ∧ @LT.lt Nat _ sx spb ∧ @LT.lt Nat _ spb c ∧ @LT.lt Nat _ c f ∧ @LT.lt Nat _ f d ∧ @LT.lt Nat _ d x ∧ @LT.lt Nat _ x pb) : @LT.lt Nat _ cell d := (Nat.lt_trans (Nat.lt_trans (Nat.lt_trans (Nat.lt_trans (Nat.lt_trans (Nat.lt_trans h.1 h.2.1) h.2.2.1) h.2.2.2.1) h.2.2.2.2.1) h.2.2.2.2.2.1) h.2.2.2.2.2.2.1)
theorem o08 (h : @LT.lt Nat _ cell lf ∧ @LT.lt Nat _ lf sd ∧ @LT.lt Nat _ sd sx ∧ @LT.lt Nat _ sx spb ∧ @LT.lt Nat _ spb c ∧ @LT.lt Nat _ c f ∧ @LT.lt Nat _ f d ∧ @LT.lt Nat _ d x ∧ @LT.lt Nat _ x pb) : @LT.lt Nat _ cell x := (Nat.lt_trans (Nat.lt_trans (Nat.lt_trans (Nat.lt_trans (Nat.lt_trans (Nat.lt_trans (Nat.lt_trans h.1 h.2.1) h.2.2.1) h.2.2.2.1) h.2.2.2.2.1) h.2.2.2.2.2.1) h.2.2.2.2.2.2.1) h.2.2.2.2.2.2.2.1)
theorem o09 (h : @LT.lt Nat _ cell lf ∧ @LT.lt Nat _ lf sd ∧ @LT.lt Nat _ sd sx ∧ @LT.lt Nat _ sx spb ∧ @LT.lt Nat _ spb c ∧ @LT.lt Nat _ c f ∧ @LT.lt Nat _ f d ∧ @LT.lt Nat _ d x ∧ @LT.lt Nat _ x pb) : @LT.lt Nat _ cell pb := (Nat.lt_trans (Nat.lt_trans (Nat.lt_trans (Nat.lt_trans (Nat.lt_trans (Nat.lt_trans (Nat.lt_trans (Nat.lt_trans h.1 h.2.1) h.2.2.1) h.2.2.2.1) h.2.2.2.2.1) h.2.2.2.2.2.1) h.2.2.2.2.2.2.1) h.2.2.2.2.2.2.2.1) h.2.2.2.2.2.2.2.2)
theorem o12 (h : @LT.lt Nat _ cell lf ∧ @LT.lt Nat _ lf sd ∧ @LT.lt Nat _ sd sx ∧ @LT.lt Nat _ sx spb ∧ @LT.lt Nat _ spb c ∧ @LT.lt Nat _ c f ∧ @LT.lt Nat _ f d ∧ @LT.lt Nat _ d x ∧ @LT.lt Nat _ x pb) : @LT.lt Nat _ lf sd := h.2.1
theorem o13 (h : @LT.lt Nat _ cell lf ∧ @LT.lt Nat _ lf sd ∧ @LT.lt Nat _ sd sx ∧ @LT.lt Nat _ sx spb ∧ @LT.lt Nat _ spb c ∧ @LT.lt Nat _ c f ∧ @LT.lt Nat _ f d ∧ @LT.lt Nat _ d x ∧ @LT.lt Nat _ x pb) : @LT.lt Nat _ lf sx := (Nat.lt_trans h.2.1 h.2.2.1)
theorem o14 (h : @LT.lt Nat _ cell lf ∧ @LT.lt Nat _ lf sd ∧ @LT.lt Nat _ sd sx ∧ @LT.lt Nat _ sx spb ∧ @LT.lt Nat _ spb c ∧ @LT.lt Nat _ c f ∧ @LT.lt Nat _ f d ∧ @LT.lt Nat _ d x ∧ @LT.lt Nat _ x pb) : @LT.lt Nat _ lf spb := (Nat.lt_trans (Nat.lt_trans h.2.1 h.2.2.1) h.2.2.2.1)
theorem o15 (h : @LT.lt Nat _ cell lf ∧ @LT.lt Nat _ lf sd ∧ @LT.lt Nat _ sd sx ∧ @LT.lt Nat _ sx spb ∧ @LT.lt Nat _ spb c ∧ @LT.lt Nat _ c f ∧ @LT.lt Nat _ f d ∧ @LT.lt Nat _ d x ∧ @LT.lt Nat _ x pb) : @LT.lt Nat _ lf c := (Nat.lt_trans (Nat.lt_trans (Nat.lt_trans h.2.1 h.2.2.1) h.2.2.2.1) h.2.2.2.2.1)
theorem o16 (h : @LT.lt Nat _ cell lf ∧ @LT.lt Nat _ lf sd ∧ @LT.lt Nat _ sd sx ∧ @LT.lt Nat _ sx spb ∧ @LT.lt Nat _ spb c ∧ @LT.lt Nat _ c f ∧ @LT.lt Nat _ f d ∧ @LT.lt Nat _ d x ∧ @LT.lt Nat _ x pb) : @LT.lt Nat _ lf f := (Nat.lt_trans (Nat.lt_trans (Nat.lt_trans (Nat.lt_trans h.2.1 h.2.2.1) h.2.2.2.1) h.2.2.2.2.1) h.2.2.2.2.2.1)
theorem o17 (h : @LT.lt Nat _ cell lf ∧ @LT.lt Nat _ lf sd ∧ @LT.lt Nat _ sd sx ∧ @LT.lt Nat _ sx spb ∧ @LT.lt Nat _ spb c ∧ @LT.lt Nat _ c f ∧ @LT.lt Nat _ f d ∧ @LT.lt Nat _ d x ∧ @LT.lt Nat _ x pb) : @LT.lt Nat _ lf d := (Nat.lt_trans (Nat.lt_trans (Nat.lt_trans (Nat.lt_trans (Nat.lt_trans h.2.1 h.2.2.1) h.2.2.2.1) h.2.2.2.2.1) h.2.2.2.2.2.1) h.2.2.2.2.2.2.1)
theorem o18 (h : @LT.lt Nat _ cell lf ∧ @LT.lt Nat _ lf sd ∧ @LT.lt Nat _ sd sx ∧ @LT.lt Nat _ sx spb ∧ @LT.lt Nat _ spb c ∧ @LT.lt Nat _ c f ∧ @LT.lt Nat _ f d ∧ @LT.lt Nat _ d x ∧ @LT.lt Nat _ x pb) : @LT.lt Nat _ lf x := (Nat.lt_trans (Nat.lt_trans (Nat.lt_trans (Nat.lt_trans (Nat.lt_trans (Nat.lt_trans h.2.1 h.2.2.1) h.2.2.2.1) h.2.2.2.2.1) h.2.2.2.2.2.1) h.2.2.2.2.2.2.1) h.2.2.2.2.2.2.2.1)
theorem o19 (h : @LT.lt Nat _ cell lf ∧ @LT.lt Nat _ lf sd ∧ @LT.lt Nat _ sd sx ∧ @LT.lt Nat _ sx spb ∧ @LT.lt Nat _ spb c ∧ @LT.lt Nat _ c f ∧ @LT.lt Nat _ f d ∧ @LT.lt Nat _ d x ∧ @LT.lt Nat _ x pb) : @LT.lt Nat _ lf pb := (Nat.lt_trans (Nat.lt_trans (Nat.lt_trans (Nat.lt_trans (Nat.lt_trans (Nat.lt_trans (Nat.lt_trans h.2.1 h.2.2.1) h.2.2.2.1) h.2.2.2.2.1) h.2.2.2.2.2.1) h.2.2.2.2.2.2.1) h.2.2.2.2.2.2.2.1) h.2.2.2.2.2.2.2.2)
theorem o23 (h : @LT.lt Nat _ cell lf ∧ @LT.lt Nat _ lf sd ∧ @LT.lt Nat _ sd sx ∧ @LT.lt Nat _ sx spb ∧ @LT.lt Nat _ spb c ∧ @LT.lt Nat _ c f ∧ @LT.lt Nat _ f d ∧ @LT.lt Nat _ d x ∧ @LT.lt Nat _ x pb) : @LT.lt Nat _ sd sx := h.2.2.1
theorem o24 (h : @LT.lt Nat _ cell lf ∧ @LT.lt Nat _ lf sd ∧ @LT.lt Nat _ sd sx ∧ @LT.lt Nat _ sx spb ∧ @LT.lt Nat _ spb c ∧ @LT.lt Nat _ c f ∧ @LT.lt Nat _ f d ∧ @LT.lt Nat _ d x ∧ @LT.lt Nat _ x pb) : @LT.lt Nat _ sd spb := (Nat.lt_trans h.2.2.1 h.2.2.2.1)
theorem o25 (h : @LT.lt Nat _ cell lf ∧ @LT.lt Nat _ lf sd ∧ @LT.lt Nat _ sd sx ∧ @LT.lt Nat _ sx spb ∧ @LT.lt Nat _ spb c ∧ @LT.lt Nat _ c f ∧ @LT.lt Nat _ f d ∧ @LT.lt Nat _ d x ∧ @LT.lt Nat _ x pb) : @LT.lt Nat _ sd c := (Nat.lt_trans (Nat.lt_trans h.2.2.1 h.2.2.2.1) h.2.2.2.2.1)
theorem o26 (h : @LT.lt Nat _ cell lf ∧ @LT.lt Nat _ lf sd ∧ @LT.lt Nat _ sd sx ∧ @LT.lt Nat _ sx spb ∧ @LT.lt Nat _ spb c ∧ @LT.lt Nat _ c f ∧ @LT.lt Nat _ f d ∧ @LT.lt Nat _ d x ∧ @LT.lt Nat _ x pb) : @LT.lt Nat _ sd f := (Nat.lt_trans (Nat.lt_trans (Nat.lt_trans h.2.2.1 h.2.2.2.1) h.2.2.2.2.1) h.2.2.2.2.2.1)
theorem o27 (h : @LT.lt Nat _ cell lf ∧ @LT.lt Nat _ lf sd ∧ @LT.lt Nat _ sd sx ∧ @LT.lt Nat _ sx spb ∧ @LT.lt Nat _ spb c ∧ @LT.lt Nat _ c f ∧ @LT.lt Nat _ f d ∧ @LT.lt Nat _ d x ∧ @LT.lt Nat _ x pb) : @LT.lt Nat _ sd d := (Nat.lt_trans (Nat.lt_trans (Nat.lt_trans (Nat.lt_trans h.2.2.1 h.2.2.2.1) h.2.2.2.2.1) h.2.2.2.2.2.1) h.2.2.2.2.2.2.1)
theorem o28 (h : @LT.lt Nat _ cell lf ∧ @LT.lt Nat _ lf sd ∧ @LT.lt Nat _ sd sx ∧ @LT.lt Nat _ sx spb ∧ @LT.lt Nat _ spb c ∧ @LT.lt Nat _ c f ∧ @LT.lt Nat _ f d ∧ @LT.lt Nat _ d x ∧ @LT.lt Nat _ x pb) : @LT.lt Nat _ sd x := (Nat.lt_trans (Nat.lt_trans (Nat.lt_trans (Nat.lt_trans (Nat.lt_trans h.2.2.1 h.2.2.2.1) h.2.2.2.2.1) h.2.2.2.2.2.1) h.2.2.2.2.2.2.1) h.2.2.2.2.2.2.2.1)
theorem o29 (h : @LT.lt Nat _ cell lf ∧ @LT.lt Nat _ lf sd ∧ @LT.lt Nat _ sd sx ∧ @LT.lt Nat _ sx spb ∧ @LT.lt Nat _ spb c ∧ @LT.lt Nat _ c f ∧ @LT.lt Nat _ f d ∧ @LT.lt Nat _ d x ∧ @LT.lt Nat _ x pb) : @LT.lt Nat _ sd pb := (Nat.lt_trans (Nat.lt_trans (Nat.lt_trans (Nat.lt_trans (Nat.lt_trans (Nat.lt_trans h.2.2.1 h.2.2.2.1) h.2.2.2.2.1) h.2.2.2.2.2.1) h.2.2.2.2.2.2.1) h.2.2.2.2.2.2.2.1) h.2.2.2.2.2.2.2.2)
theorem o34 (h : @LT.lt Nat _ cell lf ∧ @LT.lt Nat _ lf sd ∧ @LT.lt Nat _ sd sx ∧ @LT.lt Nat _ sx spb ∧ @LT.lt Nat _ spb c ∧ @LT.lt Nat _ c f ∧ @LT.lt Nat _ f d ∧ @LT.lt Nat _ d x ∧ @LT.lt Nat _ x pb) : @LT.lt Nat _ sx spb := h.2.2.2.1
theorem o35 (h : @LT.lt Nat _ cell lf ∧ @LT.lt Nat _ lf sd ∧ @LT.lt Nat _ sd sx ∧ @LT.lt Nat _ sx spb ∧ @LT.lt Nat _ spb c ∧ @LT.lt Nat _ c f ∧ @LT.lt Nat _ f d ∧ @LT.lt Nat _ d x ∧ @LT.lt Nat _ x pb) : @LT.lt Nat _ sx c := (Nat.lt_trans h.2.2.2.1 h.2.2.2.2.1)
theorem o36 (h : @LT.lt Nat _ cell lf ∧ @LT.lt Nat _ lf sd ∧ @LT.lt Nat _ sd sx ∧ @LT.lt Nat _ sx spb ∧ @LT.lt Nat _ spb c ∧ @LT.lt Nat _ c f ∧ @LT.lt Nat _ f d ∧ @LT.lt Nat _ d x ∧ @LT.lt Nat _ x pb) : @LT.lt Nat _ sx f := (Nat.lt_trans (Nat.lt_trans h.2.2.2.1 h.2.2.2.2.1) h.2.2.2.2.2.1)
theorem o37 (h : @LT.lt Nat _ cell lf ∧ @LT.lt Nat _ lf sd ∧ @LT.lt Nat _ sd sx ∧ @LT.lt Nat _ sx spb ∧ @LT.lt Nat _ spb c ∧ @LT.lt Nat _ c f ∧ @LT.lt Nat _ f d ∧ @LT.lt Nat _ d x ∧ @LT.lt Nat _ x pb) : @LT.lt Nat _ sx d := (Nat.lt_trans (Nat.lt_trans (Nat.lt_trans h.2.2.2.1 h.2.2.2.2.1) h.2.2.2.2.2.1) h.2.2.2.2.2.2.1)
theorem o38 (h : @LT.lt Nat _ cell lf ∧ @LT.lt Nat _ lf sd ∧ @LT.lt Nat _ sd sx ∧ @LT.lt Nat _ sx spb ∧ @LT.lt Nat _ spb c ∧ @LT.lt Nat _ c f ∧ @LT.lt Nat _ f d ∧ @LT.lt Nat _ d x ∧ @LT.lt Nat _ x pb) : @LT.lt Nat _ sx x := (Nat.lt_trans (Nat.lt_trans (Nat.lt_trans (Nat.lt_trans h.2.2.2.1 h.2.2.2.2.1) h.2.2.2.2.2.1) h.2.2.2.2.2.2.1) h.2.2.2.2.2.2.2.1)
theorem o39 (h : @LT.lt Nat _ cell lf ∧ @LT.lt Nat _ lf sd ∧ @LT.lt Nat _ sd sx ∧ @LT.lt Nat _ sx spb ∧ @LT.lt Nat _ spb c ∧ @LT.lt Nat _ c f ∧ @LT.lt Nat _ f d ∧ @LT.lt Nat _ d x ∧ @LT.lt Nat _ x pb) : @LT.lt Nat _ sx pb := (Nat.lt_trans (Nat.lt_trans (Nat.lt_trans (Nat.lt_trans (Nat.lt_trans h.2.2.2.1 h.2.2.2.2.1) h.2.2.2.2.2.1) h.2.2.2.2.2.2.1) h.2.2.2.2.2.2.2.1) h.2.2.2.2.2.2.2.2)
theorem o45 (h : @LT.lt Nat _ cell lf ∧ @LT.lt Nat _ lf sd ∧ @LT.lt Nat _ sd sx ∧ @LT.lt Nat _ sx spb ∧ @LT.lt Nat _ spb c ∧ @LT.lt Nat _ c f ∧ @LT.lt Nat _ f d ∧ @LT.lt Nat _ d x ∧ @LT.lt Nat _ x pb) : @LT.lt Nat _ spb c := h.2.2.2.2.1
theorem o46 (h : @LT.lt Nat _ cell lf ∧ @LT.lt Nat _ lf sd ∧ @LT.lt Nat _ sd sx ∧ @LT.lt Nat _ sx spb ∧ @LT.lt Nat _ spb c ∧ @LT.lt Nat _ c f ∧ @LT.lt Nat _ f d ∧ @LT.lt Nat _ d x ∧ @LT.lt Nat _ x pb) : @LT.lt Nat _ spb f := (Nat.lt_trans h.2.2.2.2.1 h.2.2.2.2.2.1)
theorem o47 (h : @LT.lt Nat _ cell lf ∧ @LT.lt Nat _ lf sd ∧ @LT.lt Nat _ sd sx ∧ @LT.lt Nat _ sx spb ∧ @LT.lt Nat _ spb c ∧ @LT.lt Nat _ c f ∧ @LT.lt Nat _ f d ∧ @LT.lt Nat _ d x ∧ @LT.lt Nat _ x pb) : @LT.lt Nat _ spb d := (Nat.lt_trans (Nat.lt_trans h.2.2.2.2.1 h.2.2.2.2.2.1) h.2.2.2.2.2.2.1)
theorem o48 (h : @LT.lt Nat _ cell lf ∧ @LT.lt Nat _ lf sd ∧ @LT.lt Nat _ sd sx ∧ @LT.lt Nat _ sx spb ∧ @LT.lt Nat _ spb c ∧ @LT.lt Nat _ c f ∧ @LT.lt Nat _ f d ∧ @LT.lt Nat _ d x ∧ @LT.lt Nat _ x pb) : @LT.lt Nat _ spb x := (Nat.lt_trans (Nat.lt_trans (Nat.lt_trans h.2.2.2.2.1 h.2.2.2.2.2.1) h.2.2.2.2.2.2.1) h.2.2.2.2.2.2.2.1)
theorem o49 (h : @LT.lt Nat _ cell lf ∧ @LT.lt Nat _ lf sd ∧ @LT.lt Nat _ sd sx ∧ @LT.lt Nat _ sx spb ∧ @LT.lt Nat _ spb c ∧ @LT.lt Nat _ c f ∧ @LT.lt Nat _ f d ∧ @LT.lt Nat _ d x ∧ @LT.lt Nat _ x pb) : @LT.lt Nat _ spb pb := (Nat.lt_trans (Nat.lt_trans (Nat.lt_trans (Nat.lt_trans h.2.2.2.2.1 h.2.2.2.2.2.1) h.2.2.2.2.2.2.1) h.2.2.2.2.2.2.2.1) h.2.2.2.2.2.2.2.2)
theorem o56 (h : @LT.lt Nat _ cell lf ∧ @LT.lt Nat _ lf sd ∧ @LT.lt Nat _ sd sx ∧ @LT.lt Nat _ sx spb ∧ @LT.lt Nat _ spb c ∧ @LT.lt Nat _ c f ∧ @LT.lt Nat _ f d ∧ @LT.lt Nat _ d x ∧ @LT.lt Nat _ x pb) : @LT.lt Nat _ c f := h.2.2.2.2.2.1
theorem o57 (h : @LT.lt Nat _ cell lf ∧ @LT.lt Nat _ lf sd ∧ @LT.lt Nat _ sd sx ∧ @LT.lt Nat _ sx spb ∧ @LT.lt Nat _ spb c ∧ @LT.lt Nat _ c f ∧ @LT.lt Nat _ f d ∧ @LT.lt Nat _ d x ∧ @LT.lt Nat _ x pb) : @LT.lt Nat _ c d := (Nat.lt_trans h.2.2.2.2.2.1 h.2.2.2.2.2.2.1)
theorem o58 (h : @LT.lt Nat _ cell lf ∧ @LT.lt Nat _ lf sd ∧ @LT.lt Nat _ sd sx ∧ @LT.lt Nat _ sx spb ∧ @LT.lt Nat _ spb c ∧ @LT.lt Nat _ c f ∧ @LT.lt Nat _ f d ∧ @LT.lt Nat _ d x ∧ @LT.lt Nat _ x pb) : @LT.lt Nat _ c x := (Nat.lt_trans (Nat.lt_trans h.2.2.2.2.2.1 h.2.2.2.2.2.2.1) h.2.2.2.2.2.2.2.1)
theorem o59 (h : @LT.lt Nat _ cell lf ∧ @LT.lt Nat _ lf sd ∧ @LT.lt Nat _ sd sx ∧ @LT.lt Nat _ sx spb ∧ @LT.lt Nat _ spb c ∧ @LT.lt Nat _ c f ∧ @LT.lt Nat _ f d ∧ @LT.lt Nat _ d x ∧ @LT.lt Nat _ x pb) : @LT.lt Nat _ c pb := (Nat.lt_trans (Nat.lt_trans (Nat.lt_trans h.2.2.2.2.2.1 h.2.2.2.2.2.2.1) h.2.2.2.2.2.2.2.1) h.2.2.2.2.2.2.2.2)
theorem o67 (h : @LT.lt Nat _ cell lf ∧ @LT.lt Nat _ lf sd ∧ @LT.lt Nat _ sd sx ∧ @LT.lt Nat _ sx spb ∧ @LT.lt Nat _ spb c ∧ @LT.lt Nat _ c f ∧ @LT.lt Nat _ f d ∧ @LT.lt Nat _ d x ∧ @LT.lt Nat _ x pb) : @LT.lt Nat _ f d := h.2.2.2.2.2.2.1
theorem o68 (h : @LT.lt Nat _ cell lf ∧ @LT.lt Nat _ lf sd ∧ @LT.lt Nat _ sd sx ∧ @LT.lt Nat _ sx spb ∧ @LT.lt Nat _ spb c ∧ @LT.lt Nat _ c f ∧ @LT.lt Nat _ f d ∧ @LT.lt Nat _ d x ∧ @LT.lt Nat _ x pb) : @LT.lt Nat _ f x := (Nat.lt_trans h.2.2.2.2.2.2.1 h.2.2.2.2.2.2.2.1)
theorem o69 (h : @LT.lt Nat _ cell lf ∧ @LT.lt Nat _ lf sd ∧ @LT.lt Nat _ sd sx ∧ @LT.lt Nat _ sx spb ∧ @LT.lt Nat _ spb c ∧ @LT.lt Nat _ c f ∧ @LT.lt Nat _ f d ∧ @LT.lt Nat _ d x ∧ @LT.lt Nat _ x pb) : @LT.lt Nat _ f pb := (Nat.lt_trans (Nat.lt_trans h.2.2.2.2.2.2.1 h.2.2.2.2.2.2.2.1) h.2.2.2.2.2.2.2.2)
theorem o78 (h : @LT.lt Nat _ cell lf ∧ @LT.lt Nat _ lf sd ∧ @LT.lt Nat _ sd sx ∧ @LT.lt Nat _ sx spb ∧ @LT.lt Nat _ spb c ∧ @LT.lt Nat _ c f ∧ @LT.lt Nat _ f d ∧ @LT.lt Nat _ d x ∧ @LT.lt Nat _ x pb) : @LT.lt Nat _ d x := h.2.2.2.2.2.2.2.1
theorem o79 (h : @LT.lt Nat _ cell lf ∧ @LT.lt Nat _ lf sd ∧ @LT.lt Nat _ sd sx ∧ @LT.lt Nat _ sx spb ∧ @LT.lt Nat _ spb c ∧ @LT.lt Nat _ c f ∧ @LT.lt Nat _ f d ∧ @LT.lt Nat _ d x ∧ @LT.lt Nat _ x pb) : @LT.lt Nat _ d pb := (Nat.lt_trans h.2.2.2.2.2.2.2.1 h.2.2.2.2.2.2.2.2)
theorem o89 (h : @LT.lt Nat _ cell lf ∧ @LT.lt Nat _ lf sd ∧ @LT.lt Nat _ sd sx ∧ @LT.lt Nat _ sx spb ∧ @LT.lt Nat _ spb c ∧ @LT.lt Nat _ c f ∧ @LT.lt Nat _ f d ∧ @LT.lt Nat _ d x ∧ @LT.lt Nat _ x pb) : @LT.lt Nat _ x pb := h.2.2.2.2.2.2.2.2
end
theorem six_n : ∀ n < 6, (n : Nat) = 0 ∨ n = 1 ∨ n = 2 ∨ n = 3 ∨ n = 4 ∨ n = 5 := by decide
theorem xyz {k : Int} (h0 : 0 ≤ k) (h6 : k < 6) : (xi k = 1 ∧ yi k = 0 ∧ zi k = 0) ∨ (xi k = 1 ∧ yi k = 1 ∧ zi k = 0) ∨ (xi k = 0 ∧ yi k = 1 ∧ zi k = 0) ∨ (xi k = 0 ∧ yi k = 1 ∧ zi k = 1) ∨ (xi k = 0 ∧ yi k = 0 ∧ zi k = 1) ∨ (xi k = 1 ∧ yi k = 0 ∧ zi k = 1) := by
  obtain ⟨n, rfl⟩ := Int.eq_ofNat_of_zero_le h0
  rcases six_n n (Int.ofNat_lt.mp h6) with rfl | rfl | rfl | rfl | rfl | rfl <;> decide
theorem unit_b1 {r g b x y z : Int} (h : (x = 1 ∧ y = 0 ∧ z = 0) ∨ (x = 1 ∧ y = 1 ∧ z = 0) ∨ (x = 0 ∧ y = 1 ∧ z = 0) ∨ (x = 0 ∧ y = 1 ∧ z = 1) ∨ (x = 0 ∧ y = 0 ∧ z = 1) ∨ (x = 1 ∧ y = 0 ∧ z = 1)) (hr : 0 < r ∧ r < 8) (hg : 0 < g ∧ g < 8) (hb : 0 < b ∧ b < 8) :
    0 < r * x + g * z + b * y ∧ r * x + g * z + b * y < 100 := by
  rcases h with ⟨rfl, rfl, rfl⟩ | ⟨rfl, rfl, rfl⟩ | ⟨rfl, rfl, rfl⟩ | ⟨rfl, rfl, rfl⟩ | ⟨rfl, rfl, rfl⟩ | ⟨rfl, rfl, rfl⟩ <;> omega
theorem unit_b2 {r g b x y z : Int} (h : (x = 1 ∧ y = 0 ∧ z = 0) ∨ (x = 1 ∧ y = 1 ∧ z = 0) ∨ (x = 0 ∧ y = 1 ∧ z = 0) ∨ (x = 0 ∧ y = 1 ∧ z = 1) ∨ (x = 0 ∧ y = 0 ∧ z = 1) ∨ (x = 1 ∧ y = 0 ∧ z = 1)) (hr : 0 < r ∧ r < 8) (hg : 0 < g ∧ g < 8) (hb : 0 < b ∧ b < 8) :
    0 < r * y + g * x + b * z ∧ r * y + g * x + b * z < 100 := by
  rcases h with ⟨rfl, rfl, rfl⟩ | ⟨rfl, rfl, rfl⟩ | ⟨rfl, rfl, rfl⟩ | ⟨rfl, rfl, rfl⟩ | ⟨rfl, rfl, rfl⟩ | ⟨rfl, rfl, rfl⟩ <;> omega
theorem unit_b3 {r g b x y z : Int} (h : (x = 1 ∧ y = 0 ∧ z = 0) ∨ (x = 1 ∧ y = 1 ∧ z = 0) ∨ (x = 0 ∧ y = 1 ∧ z = 0) ∨ (x = 0 ∧ y = 1 ∧ z = 1) ∨ (x = 0 ∧ y = 0 ∧ z = 1) ∨ (x = 1 ∧ y = 0 ∧ z = 1)) (hr : 0 < r ∧ r < 8) (hg : 0 < g ∧ g < 8) (hb : 0 < b ∧ b < 8) :
    0 < r * z + b * x + g * y ∧ r * z + b * x + g * y < 100 := by
  rcases h with ⟨rfl, rfl, rfl⟩ | ⟨rfl, rfl, rfl⟩ | ⟨rfl, rfl, rfl⟩ | ⟨rfl, rfl, rfl⟩ | ⟨rfl, rfl, rfl⟩ | ⟨rfl, rfl, rfl⟩ <;> omega
theorem nat8 {a : Nat} (h : 0 < a ∧ a < 8) : 0 < (a : Int) ∧ (a : Int) < 8 := ⟨Int.ofNat_lt.mpr h.1, Int.ofNat_lt.mpr h.2⟩
theorem rng8 {a : Nat} (h : 0 < a ∧ a < 8) : -1000 < (a : Int) ∧ (a : Int) < 1000 := by omega
theorem rng40 {a : Nat} (h : 0 < a ∧ a < 8) : 1 ≤ (a : Int) ∧ (a : Int) < 40 := by omega
theorem rng100 {a : Nat} (h : 0 < a ∧ a < 8) : 0 < a ∧ a < 100 := by omega
theorem rng400 {a : Nat} (h : 0 < a ∧ a < 8) : a < 400 := by omega
theorem small_all {a1 b1 c1 a2 b2 c2 : Nat} (h : ((0 < a1 ∧ a1 < 8) ∧ (0 < b1 ∧ b1 < 8) ∧ (0 < c1 ∧ c1 < 8)) ∧ ((0 < a2 ∧ a2 < 8) ∧ (0 < b2 ∧ b2 < 8) ∧ (0 < c2 ∧ c2 < 8))) : (∀ r ∈ [(a1, b1, c1), (a2, b2, c2)], Small r) ∧ (∀ r ∈ [(a2, b2, c2)], Small r) := by
  have k : ∀ {v : Nat}, v < 8 → v < 60 := fun h => Nat.lt_trans h (by decide)
  have h1 : Small (a1, b1, c1) := ⟨⟨h.1.1.1, k h.1.1.2⟩, ⟨h.1.2.1.1, k h.1.2.1.2⟩, h.1.2.2.1, k h.1.2.2.2⟩
  have h2 : Small (a2, b2, c2) := ⟨⟨h.2.1.1, k h.2.1.2⟩, ⟨h.2.2.1.1, k h.2.2.1.2⟩, h.2.2.2.1, k h.2.2.2.2⟩
  constructor
  · intro r hr
    simp only [List.mem_cons, List.not_mem_nil, or_false] at hr
    rcases hr with rfl | rfl
    · exact h1
    · exact h2
  · intro r hr
    rw [List.mem_singleton.mp hr]
    exact h2
section
variable {w : World} {mean : ExcName → Option Value} {mg mb : Str → Option Value} {dp un : Nat} {gd : Option (List Code)} {cn : Str} {cs : Scope} {fa : Addr} {ccd : Value} {cl : List (Str × Addr)} {outer : List Env} {A A₀ : Around} {base h₀ : Heap} {L : Addr} {m : Str → Option Value} {s : Shared} {Q E : Value → Shared → Prop} {news : List (Addr × Obj)}

theorem times_u {l : Addr} {r g b : Nat} {K : Int} {tr tg tb n t : Nat} (B : Below A₀ base outer h₀) (F : Fr h₀ L s.heap m) (X : (hd.heap_39 w.params).In h₀) (N : News h₀ L s.heap news) (T : Top topProg lo mean mg mb h₀) (hk : cs.kind = .function)
  (hm : (l, W.listOf #[.int r tr, .int g tg, .int b tb] n) ∈ news)
  (hr : 0 < r ∧ r < 8) (hg : 0 < g ∧ g < 8) (hb : 0 < b ∧ b < 8) (hdp : dp < 790) (hun : un < 7900)
  (hret : ∀ (X Y Z : Int), X = r * xi (K.fmod 6) + g * zi (K.fmod 6) + b * yi (K.fmod 6) → Y = r * yi (K.fmod 6) + g * xi (K.fmod 6) + b * zi (K.fmod 6) → Z = r * zi (K.fmod 6) + b * xi (K.fmod 6) + g * yi (K.fmod 6) →
    (0 < X ∧ X < 100) → (0 < Y ∧ Y < 100) → (0 < Z ∧ Z < 100) →
    ∀ (D : Addr) (t t' t'' : Tok) (h' : Heap) (tk' : Nat), Fr h₀ L h' m → News h₀ L h' ((D, W.listOf #[.int X t, .int Y t', .int Z t''] 0) :: news) → Q (.ref D) { s with heap := h', toks := tk' }) :
  wpAny (model prg w) (ktrTop dp un gd cn cs L fa ccd cl outer) (call (.ref 116) [.ref l, .int (K.fmod 6) t]) Q E s := by
  have h6 : 0 ≤ K.fmod 6 ∧ K.fmod 6 < 6 := by
    rw [Int.fmod_eq_emod_of_nonneg _ (by decide)]
    omega
  generalize K.fmod 6 = k at h6 hret ⊢
  have hb8 := xyz h6.1 h6.2
  have nr := nat8 hr
  have ng := nat8 hg
  have nb := nat8 hb
  refine times_k B F X N T hk hm ⟨Int.lt_of_lt_of_le (by decide) (Int.le_of_lt nr.1), Int.lt_trans nr.2 (by decide)⟩ ⟨Int.lt_of_lt_of_le (by decide) (Int.le_of_lt ng.1), Int.lt_trans ng.2 (by decide)⟩ ⟨Int.lt_of_lt_of_le (by decide) (Int.le_of_lt nb.1), Int.lt_trans nb.2 (by decide)⟩ h6.1 h6.2 hdp hun (fun D t t' t'' h' tk' F' N' _ => ?_)
  exact hret _ _ _ rfl rfl rfl (unit_b1 hb8 nr ng nb) (unit_b2 hb8 nr ng nb) (unit_b3 hb8 nr ng nb) D t t' t'' h' tk' F' N'
theorem less_u {a b c : Nat} {l : Addr} {r g b' : Int} {tr tg tb n t : Nat} (B : Below A₀ base outer h₀) (F : Fr h₀ L s.heap m) (X : (hd.heap_39 w.params).In h₀) (N : News h₀ L s.heap news) (T : Top topProg lo mean mg mb h₀) (hk : cs.kind = .function)
  (hm : (l, W.listOf #[.int r tr, .int g tg, .int b' tb] n) ∈ news)
  (ha : 0 < a ∧ a < 100) (hb : 0 < b ∧ b < 100) (hc : 0 < c ∧ c < 100) (hr : 0 < r ∧ r < 100) (hg : 0 < g ∧ g < 100) (hb' : 0 < b' ∧ b' < 100)
  (hdp : dp < 790) (hun : un < 7900)
  (hret : ∀ (A B C : Nat) (t : Tok) (h' : Heap) (tk' : Nat), (A, B, C) = lessT a b c r g b' → Fr h₀ L h' m → News h₀ L h' news → Q (.str (mailS A B C) t) { s with heap := h', toks := tk' }) :
  wpAny (model prg w) (ktrTop dp un gd cn cs L fa ccd cl outer) (call (.ref 138) [.str (mailS a b c) t, .ref l]) Q E s :=
  less_k B F X N T hk hm ha hb hc hr hg hb' hdp hun (fun t h' tk' F' N' => hret _ _ _ t h' tk' rfl F' N')
theorem measure_k {x d pb f c lf cell sx sd spb : Addr} {k1 k2 k3 k4 tw j1 j2 j3 j4 j5 jl jw tq : Nat} {jn : Int} {fq : Str} {doc pm ct : Value} {oc ocl : Obj} {vsc : Array Value} {ln : Int} {tl nlf : Nat} {lv : List Value} {npb : Nat} {pv : List Value} {p₀ q₀ : Tri} {St : Nat → Tri → Tri → Prop} (SO : StOk St)
  (hc1 : oc.data = Data.fields vsc) (hc2 : vsc[1]? = some (.str fq tq)) (hcell : ocl.data = Data.cell (some (.ref lf)))
  (hord : @LT.lt Nat _ cell lf ∧ @LT.lt Nat _ lf sd ∧ @LT.lt Nat _ sd sx ∧ @LT.lt Nat _ sx spb ∧ @LT.lt Nat _ spb c ∧ @LT.lt Nat _ c f ∧ @LT.lt Nat _ f d ∧ @LT.lt Nat _ d x ∧ @LT.lt Nat _ x pb)
  (hoff : ∀ p ∈ news, p.1 ≠ d ∧ p.1 ≠ lf ∧ p.1 ≠ pb)
  (B : Below A₀ base outer h₀) (F : Fr h₀ L s.heap m) (X : (hd.heap_39 w.params).In h₀)
  (N : LexN w h₀ L s.heap news x d pb f c lf cell sx sd k1 k2 k3 k4 tw j1 j2 j3 j4 j5 jl jw spb jn fq doc pm ct oc ocl ln tl nlf npb lv pv)
  (T : Top topProg lo mean mg mb h₀) (hk : cs.kind = .function) (CH : CodeHd base 110 106) (hS : TS lv pv [p₀, q₀]) (h0 : St 0 p₀ q₀)
  (hdp : dp < 700) (hun : un < 7000)
  (hret : ∀ (i : Nat) (a b e : Nat) (q : Tri) (D : Addr) (t t' t'' : Tok) (h' : Heap) (tk' : Nat), St i (a, b, e) q → szT q = 0 → Fr h₀ L h' m → News h₀ L h' ((D, LCg.lst [.int a t, .int b t', .int e t'']) :: news) → Q (.ref D) { s with heap := h', toks := tk' }) :
  wpAny (model prg w) (ktrTop dp un gd cn cs L fa ccd cl outer) (call (.ref 145) [.ref x]) Q E s := by
  refine wpAny_call ?_
  w_top off
  k_with_none
  k_with "k_all" => (first | (show (∀ p ∈ tail9, _); first | exact fun p hp => (hT9 p hp).1 | exact fun p hp => (hT9 p hp).2.1 | exact fun p hp => (hT9 p hp).2.2) | (refine' List.forall_mem_cons.mpr (And.intro ?_ ?_); (focus walk_at "mine ord"); k_all))
  k_with "mine ord" => (first | exact Nat.ne_of_lt (o01 hord) | exact Nat.ne_of_gt (o01 hord) | exact Nat.ne_of_lt (o02 hord) | exact Nat.ne_of_gt (o02 hord) | exact Nat.ne_of_lt (o03 hord) | exact Nat.ne_of_gt (o03 hord) | exact Nat.ne_of_lt (o04 hord) | exact Nat.ne_of_gt (o04 hord) | exact Nat.ne_of_lt (o05 hord) | exact Nat.ne_of_gt (o05 hord) | exact Nat.ne_of_lt (o06 hord) | exact Nat.ne_of_gt (o06 hord) | exact Nat.ne_of_lt (o07 hord) | exact Nat.ne_of_gt (o07 hord) | exact Nat.ne_of_lt (o08 hord) | exact Nat.ne_of_gt (o08 hord) | exact Nat.ne_of_lt (o09 hord) | exact Nat.ne_of_gt (o09 hord) | exact Nat.ne_of_lt (o12 hord) | exact Nat.ne_of_gt (o12 hord) | exact Nat.ne_of_lt (o13 hord) | exact Nat.ne_of_gt (o13 hord) | exact Nat.ne_of_lt (o14 hord) | exact Nat.ne_of_gt (o14 hord) | exact Nat.ne_of_lt (o15 hord) | exact Nat.ne_of_gt (o15 hord) | exact Nat.ne_of_lt (o16 hord) | exact Nat.ne_of_gt (o16 hord) | exact Nat.ne_of_lt (o17 hord) | exact Nat.ne_of_gt (o17 hord) | exact Nat.ne_of_lt (o18 hord) | exact Nat.ne_of_gt (o18 hord) | exact Nat.ne_of_lt (o19 hord) | exact Nat.ne_of_gt (o19 hord) | exact Nat.ne_of_lt (o23 hord) | exact Nat.ne_of_gt (o23 hord) | exact Nat.ne_of_lt (o24 hord) | exact Nat.ne_of_gt (o24 hord) | exact Nat.ne_of_lt (o25 hord) | exact Nat.ne_of_gt (o25 hord) | exact Nat.ne_of_lt (o26 hord) | exact Nat.ne_of_gt (o26 hord) | exact Nat.ne_of_lt (o27 hord) | exact Nat.ne_of_gt (o27 hord) | exact Nat.ne_of_lt (o28 hord) | exact Nat.ne_of_gt (o28 hord) | exact Nat.ne_of_lt (o29 hord) | exact Nat.ne_of_gt (o29 hord) | exact Nat.ne_of_lt (o34 hord) | exact Nat.ne_of_gt (o34 hord) | exact Nat.ne_of_lt (o35 hord) | exact Nat.ne_of_gt (o35 hord) | exact Nat.ne_of_lt (o36 hord) | exact Nat.ne_of_gt (o36 hord) | exact Nat.ne_of_lt (o37 hord) | exact Nat.ne_of_gt (o37 hord) | exact Nat.ne_of_lt (o38 hord) | exact Nat.ne_of_gt (o38 hord) | exact Nat.ne_of_lt (o39 hord) | exact Nat.ne_of_gt (o39 hord) | exact Nat.ne_of_lt (o45 hord) | exact Nat.ne_of_gt (o45 hord) | exact Nat.ne_of_lt (o46 hord) | exact Nat.ne_of_gt (o46 hord) | exact Nat.ne_of_lt (o47 hord) | exact Nat.ne_of_gt (o47 hord) | exact Nat.ne_of_lt (o48 hord) | exact Nat.ne_of_gt (o48 hord) | exact Nat.ne_of_lt (o49 hord) | exact Nat.ne_of_gt (o49 hord) | exact Nat.ne_of_lt (o56 hord) | exact Nat.ne_of_gt (o56 hord) | exact Nat.ne_of_lt (o57 hord) | exact Nat.ne_of_gt (o57 hord) | exact Nat.ne_of_lt (o58 hord) | exact Nat.ne_of_gt (o58 hord) | exact Nat.ne_of_lt (o59 hord) | exact Nat.ne_of_gt (o59 hord) | exact Nat.ne_of_lt (o67 hord) | exact Nat.ne_of_gt (o67 hord) | exact Nat.ne_of_lt (o68 hord) | exact Nat.ne_of_gt (o68 hord) | exact Nat.ne_of_lt (o69 hord) | exact Nat.ne_of_gt (o69 hord) | exact Nat.ne_of_lt (o78 hord) | exact Nat.ne_of_gt (o78 hord) | exact Nat.ne_of_lt (o79 hord) | exact Nat.ne_of_gt (o79 hord) | exact Nat.ne_of_lt (o89 hord) | exact Nat.ne_of_gt (o89 hord) | k_ne)
  k_with "mine rem" => first | (refine Rem.head ?_; k_all) | (refine' Rem.tail ?q63za ?q63zb; (case q63za => walk_at "mine ord"); (case q63zb => walk_at "mine rem"))
  k_with "mine rem1" => first | (refine Rem.head ?_; k_all) | (apply Rem.drop; walk_at "mine rem1")
  k_with "call ref" => (k_here; (with_reducible show wpAny _ _ (call (Value.ref 133) _) _ _ _); k_dflt (refine' parts_k ?q65k1 ?q65k2 ?q65k3 ?q65k4 ?q65k5 ?q65k6 ?q65k7 ?q65k8 ?q65k9 ?q65k10 ?q65k11 ?_; (case q65k1 => k_asm); (case q65k2 => k_asm); (case q65k3 => k_asm); (case q65k4 => k_asm); (case q65k5 => k_asm); (case q65k6 => first | exact rfl | assumption); (case q65k7 => first | exact rng400 sm9.1.1 | exact rng400 sm9.1.2.1 | exact rng400 sm9.1.2.2 | exact rng400 sm9.2.1 | exact rng400 sm9.2.2.1 | exact rng400 sm9.2.2.2 | omega); (case q65k8 => first | exact rng400 sm9.1.1 | exact rng400 sm9.1.2.1 | exact rng400 sm9.1.2.2 | exact rng400 sm9.2.1 | exact rng400 sm9.2.2.1 | exact rng400 sm9.2.2.2 | omega); (case q65k9 => first | exact rng400 sm9.1.1 | exact rng400 sm9.1.2.1 | exact rng400 sm9.1.2.2 | exact rng400 sm9.2.1 | exact rng400 sm9.2.2.1 | exact rng400 sm9.2.2.2 | omega); (case q65k10 => (first | exact Nat.lt_of_lt_of_le (Nat.add_lt_add_right hdp _) (by decide) | exact Nat.lt_of_lt_of_le hdp (by decide) | omega | ((try simp only [depth_under_make, depth_under_kw, depth_in1, depth_deeper, depth_caller]); (try dsimp only [ktrTop]); omega))); (case q65k11 => (first | exact Nat.lt_of_lt_of_le (Nat.add_lt_add_right hun _) (by decide) | exact Nat.lt_of_lt_of_le hun (by decide) | omega | ((try simp only [units_in1, units_deeper, Around.mark_units, units_caller]); (try dsimp only [ktrTop]); omega)))); intro D9 t9 u9 v9 h9 tk9 F9 N9 o9; (have p9 := o9); (try simp only [LCg.Off1, and_true] at p9); (try dsimp only); (try k_fold))
  k_with "call ref" => (k_here; (with_reducible show wpAny _ _ (call (Value.ref 123) _) _ _ _); (refine' size_use ?q66k1 ?q66k2 ?q66k3 ?q66k4 ?q66k5 ?q66k6 ?q66k7 ?q66k8 ?q66k9 ?q66k10 ?q66k11 ?q66k12 ?_; (case q66k1 => k_asm); (case q66k2 => k_asm); (case q66k3 => k_asm); (case q66k4 => k_asm); (case q66k5 => k_asm); (case q66k6 => first | exact rfl | assumption); (case q66k7 => k_mem); (case q66k8 => first | exact rng8 sm9.1.1 | exact rng8 sm9.1.2.1 | exact rng8 sm9.1.2.2 | exact rng8 sm9.2.1 | exact rng8 sm9.2.2.1 | exact rng8 sm9.2.2.2 | omega); (case q66k9 => first | exact rng8 sm9.1.1 | exact rng8 sm9.1.2.1 | exact rng8 sm9.1.2.2 | exact rng8 sm9.2.1 | exact rng8 sm9.2.2.1 | exact rng8 sm9.2.2.2 | omega); (case q66k10 => first | exact rng8 sm9.1.1 | exact rng8 sm9.1.2.1 | exact rng8 sm9.1.2.2 | exact rng8 sm9.2.1 | exact rng8 sm9.2.2.1 | exact rng8 sm9.2.2.2 | omega); (case q66k11 => ktr_room); (case q66k12 => ktr_units)); intro t9 h9 tk9 F9 N9; (try dsimp only); (try k_fold))
  k_with "call ref" => (k_here; (with_reducible show wpAny _ _ (call (Value.ref 73) _) _ _ _); k_dflt (refine' get_r hc1 hc2 hcell hord ?q67zb ?q67zf ?q67zx ?q67zn ?q67zr1 ?q67zr2 ?q67zr3 ?q67zm0 ?q67zm1 ?q67zm2 ?q67zm3 ?q67zm4 ?q67zm5 ?q67zt ?q67zk ?q67zc ?q67zs ?q67zp ?q67zl ?q67zd ?q67zu ?_; (case q67zb => k_asm); (case q67zf => k_asm); (case q67zx => k_asm); (case q67zn => k_asm); (case q67zr1 => walk_at "mine rem1"); (case q67zr2 => walk_at "mine rem"); (case q67zr3 => walk_at "mine rem"); (case q67zm0 => k_mem); (case q67zm1 => k_mem); (case q67zm2 => k_mem); (case q67zm3 => k_mem); (case q67zm4 => k_mem); (case q67zm5 => k_mem); (case q67zt => k_asm); (case q67zk => first | exact rfl | assumption); (case q67zc => kn_code); (case q67zs => assumption); (case q67zp => assumption); (case q67zl => simp); (case q67zd => (first | exact Nat.lt_of_lt_of_le (Nat.add_lt_add_right hdp _) (by decide) | exact Nat.lt_of_lt_of_le hdp (by decide) | omega | ((try simp only [depth_under_make, depth_under_kw, depth_in1, depth_deeper, depth_caller]); (try dsimp only [ktrTop]); omega))); (case q67zu => (first | exact Nat.lt_of_lt_of_le (Nat.add_lt_add_right hun _) (by decide) | exact Nat.lt_of_lt_of_le hun (by decide) | omega | ((try simp only [units_in1, units_deeper, Around.mark_units, units_caller]); (try dsimp only [ktrTop]); omega)))); intro t9 h9 tk9 ln9 tl9 nlf9 npb9 lv9 pv9 hS9 F9 N9; (try (obtain ⟨rfl, rfl⟩ := TS.lvnil hS9)); (try dsimp only); (try k_fold))
  k_with "call ref" => (k_here; (with_reducible show wpAny _ _ (call (Value.ref 80) [Value.ref _, Value.str _ _]) _ _ _); k_dflt (refine' psh_r hc1 hc2 hcell hord ?q68zb ?q68zf ?q68zx ?q68zn ?q68zr1 ?q68zr2 ?q68zr3 ?q68zm0 ?q68zm1 ?q68zm2 ?q68zm3 ?q68zm4 ?q68zm5 ?q68zt ?q68zk ?q68zv ?q68zs ?q68zl ?q68zd ?q68zu ?_; (case q68zb => k_asm); (case q68zf => k_asm); (case q68zx => k_asm); (case q68zn => k_asm); (case q68zr1 => walk_at "mine rem1"); (case q68zr2 => walk_at "mine rem"); (case q68zr3 => walk_at "mine rem"); (case q68zm0 => k_mem); (case q68zm1 => k_mem); (case q68zm2 => k_mem); (case q68zm3 => k_mem); (case q68zm4 => k_mem); (case q68zm5 => k_mem); (case q68zt => k_asm); (case q68zk => first | exact rfl | assumption); (case q68zv => rfl); (case q68zs => assumption); (case q68zl => simp); (case q68zd => (first | exact Nat.lt_of_lt_of_le (Nat.add_lt_add_right hdp _) (by decide) | exact Nat.lt_of_lt_of_le hdp (by decide) | omega | ((try simp only [depth_under_make, depth_under_kw, depth_in1, depth_deeper, depth_caller]); (try dsimp only [ktrTop]); omega))); (case q68zu => (first | exact Nat.lt_of_lt_of_le (Nat.add_lt_add_right hun _) (by decide) | exact Nat.lt_of_lt_of_le hun (by decide) | omega | ((try simp only [units_in1, units_deeper, Around.mark_units, units_caller]); (try dsimp only [ktrTop]); omega)))); intro h9 tk9 npb9 pv9 hS9 F9 N9; (try dsimp only); (try k_fold))
  k_with "call ref" => (k_here; (with_reducible show wpAny _ _ (call (Value.ref 38) [Value.int _ _, Value.int _ _, Value.int _ _]) _ _ _); k_dflt ((first | refine' rgb_k (r := (a1 : Int)) (g := (b1 : Int)) (b := (c1 : Int)) ?q69k1 ?q69k2 ?q69k3 ?q69k4 ?q69k5 ?q69k6 ?q69k7 ?q69k8 ?q69k9 ?q69k10 ?q69k11 ?_ | refine' rgb_k (r := (a2 : Int)) (g := (b2 : Int)) (b := (c2 : Int)) ?q69k1 ?q69k2 ?q69k3 ?q69k4 ?q69k5 ?q69k6 ?q69k7 ?q69k8 ?q69k9 ?q69k10 ?q69k11 ?_); (case q69k1 => k_asm); (case q69k2 => k_asm); (case q69k3 => k_asm); (case q69k4 => k_asm); (case q69k5 => k_asm); (case q69k6 => first | exact rfl | assumption); (case q69k7 => first | exact rng40 sm9.1.1 | exact rng40 sm9.1.2.1 | exact rng40 sm9.1.2.2 | exact rng40 sm9.2.1 | exact rng40 sm9.2.2.1 | exact rng40 sm9.2.2.2 | omega); (case q69k8 => first | exact rng40 sm9.1.1 | exact rng40 sm9.1.2.1 | exact rng40 sm9.1.2.2 | exact rng40 sm9.2.1 | exact rng40 sm9.2.2.1 | exact rng40 sm9.2.2.2 | omega); (case q69k9 => first | exact rng40 sm9.1.1 | exact rng40 sm9.1.2.1 | exact rng40 sm9.1.2.2 | exact rng40 sm9.2.1 | exact rng40 sm9.2.2.1 | exact rng40 sm9.2.2.2 | omega); (case q69k10 => (first | exact Nat.lt_of_lt_of_le (Nat.add_lt_add_right hdp _) (by decide) | exact Nat.lt_of_lt_of_le hdp (by decide) | omega | ((try simp only [depth_under_make, depth_under_kw, depth_in1, depth_deeper, depth_caller]); (try dsimp only [ktrTop]); omega))); (case q69k11 => (first | exact Nat.lt_of_lt_of_le (Nat.add_lt_add_right hun _) (by decide) | exact Nat.lt_of_lt_of_le hun (by decide) | omega | ((try simp only [units_in1, units_deeper, Around.mark_units, units_caller]); (try dsimp only [ktrTop]); omega)))); intro D9 t9 v9 w9 h9 tk9 F9 N9; (try dsimp only); (try k_fold))
  k_with "call ref" => (k_here; (with_reducible show wpAny _ _ (call (Value.ref 116) [Value.ref _, Value.int _ _]) _ _ _); k_dflt (refine' times_u ?q70k1 ?q70k2 ?q70k3 ?q70k4 ?q70k5 ?q70k6 ?q70k7 ?q70k8 ?q70k9 ?q70k10 ?q70k11 ?q70k12 ?_; (case q70k1 => k_asm); (case q70k2 => k_asm); (case q70k3 => k_asm); (case q70k4 => k_asm); (case q70k5 => k_asm); (case q70k6 => first | exact rfl | assumption); (case q70k7 => k_mem); (case q70k8 => first | exact id sm9.1.1 | exact id sm9.1.2.1 | exact id sm9.1.2.2 | exact id sm9.2.1 | exact id sm9.2.2.1 | exact id sm9.2.2.2 | omega); (case q70k9 => first | exact id sm9.1.1 | exact id sm9.1.2.1 | exact id sm9.1.2.2 | exact id sm9.2.1 | exact id sm9.2.2.1 | exact id sm9.2.2.2 | omega); (case q70k10 => first | exact id sm9.1.1 | exact id sm9.1.2.1 | exact id sm9.1.2.2 | exact id sm9.2.1 | exact id sm9.2.2.1 | exact id sm9.2.2.2 | omega); (case q70k11 => (first | exact Nat.lt_of_lt_of_le (Nat.add_lt_add_right hdp _) (by decide) | exact Nat.lt_of_lt_of_le hdp (by decide) | omega | ((try simp only [depth_under_make, depth_under_kw, depth_in1, depth_deeper, depth_caller]); (try dsimp only [ktrTop]); omega))); (case q70k12 => (first | exact Nat.lt_of_lt_of_le (Nat.add_lt_add_right hun _) (by decide) | exact Nat.lt_of_lt_of_le hun (by decide) | omega | ((try simp only [units_in1, units_deeper, Around.mark_units, units_caller]); (try dsimp only [ktrTop]); omega)))); intro X9 Y9 Z9 hX9 hY9 hZ9 bX9 bY9 bZ9 D9 t9 u9 v9 h9 tk9 F9 N9; (try dsimp only); (try k_fold))
  k_with "call ref" => (k_here; (with_reducible show wpAny _ _ (call (Value.ref 138) [Value.str _ _, Value.ref _]) _ _ _); k_dflt (refine' less_u ?q71k1 ?q71k2 ?q71k3 ?q71k4 ?q71k5 ?q71k6 ?q71k7 ?q71k8 ?q71k9 ?q71k10 ?q71k11 ?q71k12 ?q71k13 ?q71k14 ?q71k15 ?_; (case q71k1 => k_asm); (case q71k2 => k_asm); (case q71k3 => k_asm); (case q71k4 => k_asm); (case q71k5 => k_asm); (case q71k6 => first | exact rfl | assumption); (case q71k7 => k_mem); (case q71k8 => first | exact rng100 sm9.1.1 | exact rng100 sm9.1.2.1 | exact rng100 sm9.1.2.2 | exact rng100 sm9.2.1 | exact rng100 sm9.2.2.1 | exact rng100 sm9.2.2.2 | omega); (case q71k9 => first | exact rng100 sm9.1.1 | exact rng100 sm9.1.2.1 | exact rng100 sm9.1.2.2 | exact rng100 sm9.2.1 | exact rng100 sm9.2.2.1 | exact rng100 sm9.2.2.2 | omega); (case q71k10 => first | exact rng100 sm9.1.1 | exact rng100 sm9.1.2.1 | exact rng100 sm9.1.2.2 | exact rng100 sm9.2.1 | exact rng100 sm9.2.2.1 | exact rng100 sm9.2.2.2 | omega); (case q71k11 => first | assumption | omega); (case q71k12 => first | assumption | omega); (case q71k13 => first | assumption | omega); (case q71k14 => (first | exact Nat.lt_of_lt_of_le (Nat.add_lt_add_right hdp _) (by decide) | exact Nat.lt_of_lt_of_le hdp (by decide) | omega | ((try simp only [depth_under_make, depth_under_kw, depth_in1, depth_deeper, depth_caller]); (try dsimp only [ktrTop]); omega))); (case q71k15 => (first | exact Nat.lt_of_lt_of_le (Nat.add_lt_add_right hun _) (by decide) | exact Nat.lt_of_lt_of_le hun (by decide) | omega | ((try simp only [units_in1, units_deeper, Around.mark_units, units_caller]); (try dsimp only [ktrTop]); omega)))); intro A9 B9 C9 t9 h9 tk9 hL9 F9 N9; (try dsimp only); (try k_fold))
  k_with "MeasPost" => ((with_reducible show MeasPost _ _ _ _ _ _ _ _ _ _ _ _ _ _ _ _ _ _ _ _ _ _ _ _ _ _ _ _ _ _ _ _ _ _ _ _ _ Flow.brk _); dsimp only [MeasPost])
  k_with "pyIter ref" => (k_here; (with_reducible show wpAny _ _ (pyIter (Value.ref _)) (fun it s₂ => LoopAtV _ _ _ _ _ _ _ _ _ it s₂) _ _); k_dflt (refine' meas_loop (n := 99) (vsc := vsc) (tq := tq) (spb := spb) (x := x) (d := d) (pb := pb) (f := f) (c := c) (lf := lf) (cell := cell) (sx := sx) (sd := sd) (news := news) (lv := lv) (pv := pv) St ?q73zh ?q73zr ?q73zs ?q73zn ?q73zf ?q73zN hS h0 hoff (fun i9 t9 u1 u2 u3 u4 u5 h9 tk9 tail9 ln9 tl9 nlf9 npb9 lv9 pv9 a1 b1 c1 a2 b2 c2 hi9 hT9 hT8 hS9 hs9 F9 N9 => ?_) (SO.fin); (case q73zh => exact rfl); (case q73zr => assumption); (case q73zs => exact rfl); (case q73zn => exact rfl); (case q73zf => k_asm); (case q73zN => k_asm)); (have sm9 := SO.small _ _ _ hs9); (have sm8 := small_all sm9); (have sm7 := sm8.1); (have sm6 := sm8.2); clear sm8; (try dsimp only at sm9); (all_goals (try dsimp only)); (all_goals (try k_fold)))
  cell_enter
  w_top off
  k_with_none
  k_with "k_all" => (first | (show (∀ p ∈ tail9, _); first | exact fun p hp => (hT9 p hp).1 | exact fun p hp => (hT9 p hp).2.1 | exact fun p hp => (hT9 p hp).2.2) | (refine' List.forall_mem_cons.mpr (And.intro ?_ ?_); (focus walk_at "mine ord"); k_all))
  k_with "mine ord" => (first | exact Nat.ne_of_lt (o01 hord) | exact Nat.ne_of_gt (o01 hord) | exact Nat.ne_of_lt (o02 hord) | exact Nat.ne_of_gt (o02 hord) | exact Nat.ne_of_lt (o03 hord) | exact Nat.ne_of_gt (o03 hord) | exact Nat.ne_of_lt (o04 hord) | exact Nat.ne_of_gt (o04 hord) | exact Nat.ne_of_lt (o05 hord) | exact Nat.ne_of_gt (o05 hord) | exact Nat.ne_of_lt (o06 hord) | exact Nat.ne_of_gt (o06 hord) | exact Nat.ne_of_lt (o07 hord) | exact Nat.ne_of_gt (o07 hord) | exact Nat.ne_of_lt (o08 hord) | exact Nat.ne_of_gt (o08 hord) | exact Nat.ne_of_lt (o09 hord) | exact Nat.ne_of_gt (o09 hord) | exact Nat.ne_of_lt (o12 hord) | exact Nat.ne_of_gt (o12 hord) | exact Nat.ne_of_lt (o13 hord) | exact Nat.ne_of_gt (o13 hord) | exact Nat.ne_of_lt (o14 hord) | exact Nat.ne_of_gt (o14 hord) | exact Nat.ne_of_lt (o15 hord) | exact Nat.ne_of_gt (o15 hord) | exact Nat.ne_of_lt (o16 hord) | exact Nat.ne_of_gt (o16 hord) | exact Nat.ne_of_lt (o17 hord) | exact Nat.ne_of_gt (o17 hord) | exact Nat.ne_of_lt (o18 hord) | exact Nat.ne_of_gt (o18 hord) | exact Nat.ne_of_lt (o19 hord) | exact Nat.ne_of_gt (o19 hord) | exact Nat.ne_of_lt (o23 hord) | exact Nat.ne_of_gt (o23 hord) | exact Nat.ne_of_lt (o24 hord) | exact Nat.ne_of_gt (o24 hord) | exact Nat.ne_of_lt (o25 hord) | exact Nat.ne_of_gt (o25 hord) | exact Nat.ne_of_lt (o26 hord) | exact Nat.ne_of_gt (o26 hord) | exact Nat.ne_of_lt (o27 hord) | exact Nat.ne_of_gt (o27 hord) | exact Nat.ne_of_lt (o28 hord) | exact Nat.ne_of_gt (o28 hord) | exact Nat.ne_of_lt (o29 hord) | exact Nat.ne_of_gt (o29 hord) | exact Nat.ne_of_lt (o34 hord) | exact Nat.ne_of_gt (o34 hord) | exact Nat.ne_of_lt (o35 hord) | exact Nat.ne_of_gt (o35 hord) | exact Nat.ne_of_lt (o36 hord) | exact Nat.ne_of_gt (o36 hord) | exact Nat.ne_of_lt (o37 hord) | exact Nat.ne_of_gt (o37 hord) | exact Nat.ne_of_lt (o38 hord) | exact Nat.ne_of_gt (o38 hord) | exact Nat.ne_of_lt (o39 hord) | exact Nat.ne_of_gt (o39 hord) | exact Nat.ne_of_lt (o45 hord) | exact Nat.ne_of_gt (o45 hord) | exact Nat.ne_of_lt (o46 hord) | exact Nat.ne_of_gt (o46 hord) | exact Nat.ne_of_lt (o47 hord) | exact Nat.ne_of_gt (o47 hord) | exact Nat.ne_of_lt (o48 hord) | exact Nat.ne_of_gt (o48 hord) | exact Nat.ne_of_lt (o49 hord) | exact Nat.ne_of_gt (o49 hord) | exact Nat.ne_of_lt (o56 hord) | exact Nat.ne_of_gt (o56 hord) | exact Nat.ne_of_lt (o57 hord) | exact Nat.ne_of_gt (o57 hord) | exact Nat.ne_of_lt (o58 hord) | exact Nat.ne_of_gt (o58 hord) | exact Nat.ne_of_lt (o59 hord) | exact Nat.ne_of_gt (o59 hord) | exact Nat.ne_of_lt (o67 hord) | exact Nat.ne_of_gt (o67 hord) | exact Nat.ne_of_lt (o68 hord) | exact Nat.ne_of_gt (o68 hord) | exact Nat.ne_of_lt (o69 hord) | exact Nat.ne_of_gt (o69 hord) | exact Nat.ne_of_lt (o78 hord) | exact Nat.ne_of_gt (o78 hord) | exact Nat.ne_of_lt (o79 hord) | exact Nat.ne_of_gt (o79 hord) | exact Nat.ne_of_lt (o89 hord) | exact Nat.ne_of_gt (o89 hord) | k_ne)
  k_with "mine rem" => first | (refine Rem.head ?_; k_all) | (refine' Rem.tail ?q63za ?q63zb; (case q63za => walk_at "mine ord"); (case q63zb => walk_at "mine rem"))
  k_with "mine rem1" => first | (refine Rem.head ?_; k_all) | (apply Rem.drop; walk_at "mine rem1")
  k_with "call ref" => (k_here; (with_reducible show wpAny _ _ (call (Value.ref 133) _) _ _ _); k_dflt (refine' parts_k ?q65k1 ?q65k2 ?q65k3 ?q65k4 ?q65k5 ?q65k6 ?q65k7 ?q65k8 ?q65k9 ?q65k10 ?q65k11 ?_; (case q65k1 => k_asm); (case q65k2 => k_asm); (case q65k3 => k_asm); (case q65k4 => k_asm); (case q65k5 => k_asm); (case q65k6 => first | exact rfl | assumption); (case q65k7 => first | exact rng400 sm9.1.1 | exact rng400 sm9.1.2.1 | exact rng400 sm9.1.2.2 | exact rng400 sm9.2.1 | exact rng400 sm9.2.2.1 | exact rng400 sm9.2.2.2 | omega); (case q65k8 => first | exact rng400 sm9.1.1 | exact rng400 sm9.1.2.1 | exact rng400 sm9.1.2.2 | exact rng400 sm9.2.1 | exact rng400 sm9.2.2.1 | exact rng400 sm9.2.2.2 | omega); (case q65k9 => first | exact rng400 sm9.1.1 | exact rng400 sm9.1.2.1 | exact rng400 sm9.1.2.2 | exact rng400 sm9.2.1 | exact rng400 sm9.2.2.1 | exact rng400 sm9.2.2.2 | omega); (case q65k10 => (first | exact Nat.lt_of_lt_of_le (Nat.add_lt_add_right hdp _) (by decide) | exact Nat.lt_of_lt_of_le hdp (by decide) | omega | ((try simp only [depth_under_make, depth_under_kw, depth_in1, depth_deeper, depth_caller]); (try dsimp only [ktrTop]); omega))); (case q65k11 => (first | exact Nat.lt_of_lt_of_le (Nat.add_lt_add_right hun _) (by decide) | exact Nat.lt_of_lt_of_le hun (by decide) | omega | ((try simp only [units_in1, units_deeper, Around.mark_units, units_caller]); (try dsimp only [ktrTop]); omega)))); intro D9 t9 u9 v9 h9 tk9 F9 N9 o9; (have p9 := o9); (try simp only [LCg.Off1, and_true] at p9); (try dsimp only); (try k_fold))
  k_with "call ref" => (k_here; (with_reducible show wpAny _ _ (call (Value.ref 123) _) _ _ _); (refine' size_use ?q66k1 ?q66k2 ?q66k3 ?q66k4 ?q66k5 ?q66k6 ?q66k7 ?q66k8 ?q66k9 ?q66k10 ?q66k11 ?q66k12 ?_; (case q66k1 => k_asm); (case q66k2 => k_asm); (case q66k3 => k_asm); (case q66k4 => k_asm); (case q66k5 => k_asm); (case q66k6 => first | exact rfl | assumption); (case q66k7 => k_mem); (case q66k8 => first | exact rng8 sm9.1.1 | exact rng8 sm9.1.2.1 | exact rng8 sm9.1.2.2 | exact rng8 sm9.2.1 | exact rng8 sm9.2.2.1 | exact rng8 sm9.2.2.2 | omega); (case q66k9 => first | exact rng8 sm9.1.1 | exact rng8 sm9.1.2.1 | exact rng8 sm9.1.2.2 | exact rng8 sm9.2.1 | exact rng8 sm9.2.2.1 | exact rng8 sm9.2.2.2 | omega); (case q66k10 => first | exact rng8 sm9.1.1 | exact rng8 sm9.1.2.1 | exact rng8 sm9.1.2.2 | exact rng8 sm9.2.1 | exact rng8 sm9.2.2.1 | exact rng8 sm9.2.2.2 | omega); (case q66k11 => ktr_room); (case q66k12 => ktr_units)); intro t9 h9 tk9 F9 N9; (try dsimp only); (try k_fold))
  k_with "call ref" => (k_here; (with_reducible show wpAny _ _ (call (Value.ref 73) _) _ _ _); k_dflt (refine' get_r hc1 hc2 hcell hord ?q67zb ?q67zf ?q67zx ?q67zn ?q67zr1 ?q67zr2 ?q67zr3 ?q67zm0 ?q67zm1 ?q67zm2 ?q67zm3 ?q67zm4 ?q67zm5 ?q67zt ?q67zk ?q67zc ?q67zs ?q67zp ?q67zl ?q67zd ?q67zu ?_; (case q67zb => k_asm); (case q67zf => k_asm); (case q67zx => k_asm); (case q67zn => k_asm); (case q67zr1 => walk_at "mine rem1"); (case q67zr2 => walk_at "mine rem"); (case q67zr3 => walk_at "mine rem"); (case q67zm0 => k_mem); (case q67zm1 => k_mem); (case q67zm2 => k_mem); (case q67zm3 => k_mem); (case q67zm4 => k_mem); (case q67zm5 => k_mem); (case q67zt => k_asm); (case q67zk => first | exact rfl | assumption); (case q67zc => kn_code); (case q67zs => assumption); (case q67zp => assumption); (case q67zl => simp); (case q67zd => (first | exact Nat.lt_of_lt_of_le (Nat.add_lt_add_right hdp _) (by decide) | exact Nat.lt_of_lt_of_le hdp (by decide) | omega | ((try simp only [depth_under_make, depth_under_kw, depth_in1, depth_deeper, depth_caller]); (try dsimp only [ktrTop]); omega))); (case q67zu => (first | exact Nat.lt_of_lt_of_le (Nat.add_lt_add_right hun _) (by decide) | exact Nat.lt_of_lt_of_le hun (by decide) | omega | ((try simp only [units_in1, units_deeper, Around.mark_units, units_caller]); (try dsimp only [ktrTop]); omega)))); intro t9 h9 tk9 ln9 tl9 nlf9 npb9 lv9 pv9 hS9 F9 N9; (try (obtain ⟨rfl, rfl⟩ := TS.lvnil hS9)); (try dsimp only); (try k_fold))
  k_with "call ref" => (k_here; (with_reducible show wpAny _ _ (call (Value.ref 80) [Value.ref _, Value.str _ _]) _ _ _); k_dflt (refine' psh_r hc1 hc2 hcell hord ?q68zb ?q68zf ?q68zx ?q68zn ?q68zr1 ?q68zr2 ?q68zr3 ?q68zm0 ?q68zm1 ?q68zm2 ?q68zm3 ?q68zm4 ?q68zm5 ?q68zt ?q68zk ?q68zv ?q68zs ?q68zl ?q68zd ?q68zu ?_; (case q68zb => k_asm); (case q68zf => k_asm); (case q68zx => k_asm); (case q68zn => k_asm); (case q68zr1 => walk_at "mine rem1"); (case q68zr2 => walk_at "mine rem"); (case q68zr3 => walk_at "mine rem"); (case q68zm0 => k_mem); (case q68zm1 => k_mem); (case q68zm2 => k_mem); (case q68zm3 => k_mem); (case q68zm4 => k_mem); (case q68zm5 => k_mem); (case q68zt => k_asm); (case q68zk => first | exact rfl | assumption); (case q68zv => rfl); (case q68zs => assumption); (case q68zl => simp); (case q68zd => (first | exact Nat.lt_of_lt_of_le (Nat.add_lt_add_right hdp _) (by decide) | exact Nat.lt_of_lt_of_le hdp (by decide) | omega | ((try simp only [depth_under_make, depth_under_kw, depth_in1, depth_deeper, depth_caller]); (try dsimp only [ktrTop]); omega))); (case q68zu => (first | exact Nat.lt_of_lt_of_le (Nat.add_lt_add_right hun _) (by decide) | exact Nat.lt_of_lt_of_le hun (by decide) | omega | ((try simp only [units_in1, units_deeper, Around.mark_units, units_caller]); (try dsimp only [ktrTop]); omega)))); intro h9 tk9 npb9 pv9 hS9 F9 N9; (try dsimp only); (try k_fold))
  k_with "call ref" => (k_here; (with_reducible show wpAny _ _ (call (Value.ref 38) [Value.int _ _, Value.int _ _, Value.int _ _]) _ _ _); k_dflt ((first | refine' rgb_k (r := (a1 : Int)) (g := (b1 : Int)) (b := (c1 : Int)) ?q69k1 ?q69k2 ?q69k3 ?q69k4 ?q69k5 ?q69k6 ?q69k7 ?q69k8 ?q69k9 ?q69k10 ?q69k11 ?_ | refine' rgb_k (r := (a2 : Int)) (g := (b2 : Int)) (b := (c2 : Int)) ?q69k1 ?q69k2 ?q69k3 ?q69k4 ?q69k5 ?q69k6 ?q69k7 ?q69k8 ?q69k9 ?q69k10 ?q69k11 ?_); (case q69k1 => k_asm); (case q69k2 => k_asm); (case q69k3 => k_asm); (case q69k4 => k_asm); (case q69k5 => k_asm); (case q69k6 => first | exact rfl | assumption); (case q69k7 => first | exact rng40 sm9.1.1 | exact rng40 sm9.1.2.1 | exact rng40 sm9.1.2.2 | exact rng40 sm9.2.1 | exact rng40 sm9.2.2.1 | exact rng40 sm9.2.2.2 | omega); (case q69k8 => first | exact rng40 sm9.1.1 | exact rng40 sm9.1.2.1 | exact rng40 sm9.1.2.2 | exact rng40 sm9.2.1 | exact rng40 sm9.2.2.1 | exact rng40 sm9.2.2.2 | omega); (case q69k9 => first | exact rng40 sm9.1.1 | exact rng40 sm9.1.2.1 | exact rng40 sm9.1.2.2 | exact rng40 sm9.2.1 | exact rng40 sm9.2.2.1 | exact rng40 sm9.2.2.2 | omega); (case q69k10 => (first | exact Nat.lt_of_lt_of_le (Nat.add_lt_add_right hdp _) (by decide) | exact Nat.lt_of_lt_of_le hdp (by decide) | omega | ((try simp only [depth_under_make, depth_under_kw, depth_in1, depth_deeper, depth_caller]); (try dsimp only [ktrTop]); omega))); (case q69k11 => (first | exact Nat.lt_of_lt_of_le (Nat.add_lt_add_right hun _) (by decide) | exact Nat.lt_of_lt_of_le hun (by decide) | omega | ((try simp only [units_in1, units_deeper, Around.mark_units, units_caller]); (try dsimp only [ktrTop]); omega)))); intro D9 t9 v9 w9 h9 tk9 F9 N9; (try dsimp only); (try k_fold))
  k_with "call ref" => (k_here; (with_reducible show wpAny _ _ (call (Value.ref 116) [Value.ref _, Value.int _ _]) _ _ _); k_dflt (refine' times_u ?q70k1 ?q70k2 ?q70k3 ?q70k4 ?q70k5 ?q70k6 ?q70k7 ?q70k8 ?q70k9 ?q70k10 ?q70k11 ?q70k12 ?_; (case q70k1 => k_asm); (case q70k2 => k_asm); (case q70k3 => k_asm); (case q70k4 => k_asm); (case q70k5 => k_asm); (case q70k6 => first | exact rfl | assumption); (case q70k7 => k_mem); (case q70k8 => first | exact id sm9.1.1 | exact id sm9.1.2.1 | exact id sm9.1.2.2 | exact id sm9.2.1 | exact id sm9.2.2.1 | exact id sm9.2.2.2 | omega); (case q70k9 => first | exact id sm9.1.1 | exact id sm9.1.2.1 | exact id sm9.1.2.2 | exact id sm9.2.1 | exact id sm9.2.2.1 | exact id sm9.2.2.2 | omega); (case q70k10 => first | exact id sm9.1.1 | exact id sm9.1.2.1 | exact id sm9.1.2.2 | exact id sm9.2.1 | exact id sm9.2.2.1 | exact id sm9.2.2.2 | omega); (case q70k11 => (first | exact Nat.lt_of_lt_of_le (Nat.add_lt_add_right hdp _) (by decide) | exact Nat.lt_of_lt_of_le hdp (by decide) | omega | ((try simp only [depth_under_make, depth_under_kw, depth_in1, depth_deeper, depth_caller]); (try dsimp only [ktrTop]); omega))); (case q70k12 => (first | exact Nat.lt_of_lt_of_le (Nat.add_lt_add_right hun _) (by decide) | exact Nat.lt_of_lt_of_le hun (by decide) | omega | ((try simp only [units_in1, units_deeper, Around.mark_units, units_caller]); (try dsimp only [ktrTop]); omega)))); intro X9 Y9 Z9 hX9 hY9 hZ9 bX9 bY9 bZ9 D9 t9 u9 v9 h9 tk9 F9 N9; (try dsimp only); (try k_fold))
  k_with "call ref" => (k_here; (with_reducible show wpAny _ _ (call (Value.ref 138) [Value.str _ _, Value.ref _]) _ _ _); k_dflt (refine' less_u ?q71k1 ?q71k2 ?q71k3 ?q71k4 ?q71k5 ?q71k6 ?q71k7 ?q71k8 ?q71k9 ?q71k10 ?q71k11 ?q71k12 ?q71k13 ?q71k14 ?q71k15 ?_; (case q71k1 => k_asm); (case q71k2 => k_asm); (case q71k3 => k_asm); (case q71k4 => k_asm); (case q71k5 => k_asm); (case q71k6 => first | exact rfl | assumption); (case q71k7 => k_mem); (case q71k8 => first | exact rng100 sm9.1.1 | exact rng100 sm9.1.2.1 | exact rng100 sm9.1.2.2 | exact rng100 sm9.2.1 | exact rng100 sm9.2.2.1 | exact rng100 sm9.2.2.2 | omega); (case q71k9 => first | exact rng100 sm9.1.1 | exact rng100 sm9.1.2.1 | exact rng100 sm9.1.2.2 | exact rng100 sm9.2.1 | exact rng100 sm9.2.2.1 | exact rng100 sm9.2.2.2 | omega); (case q71k10 => first | exact rng100 sm9.1.1 | exact rng100 sm9.1.2.1 | exact rng100 sm9.1.2.2 | exact rng100 sm9.2.1 | exact rng100 sm9.2.2.1 | exact rng100 sm9.2.2.2 | omega); (case q71k11 => first | assumption | omega); (case q71k12 => first | assumption | omega); (case q71k13 => first | assumption | omega); (case q71k14 => (first | exact Nat.lt_of_lt_of_le (Nat.add_lt_add_right hdp _) (by decide) | exact Nat.lt_of_lt_of_le hdp (by decide) | omega | ((try simp only [depth_under_make, depth_under_kw, depth_in1, depth_deeper, depth_caller]); (try dsimp only [ktrTop]); omega))); (case q71k15 => (first | exact Nat.lt_of_lt_of_le (Nat.add_lt_add_right hun _) (by decide) | exact Nat.lt_of_lt_of_le hun (by decide) | omega | ((try simp only [units_in1, units_deeper, Around.mark_units, units_caller]); (try dsimp only [ktrTop]); omega)))); intro A9 B9 C9 t9 h9 tk9 hL9 F9 N9; (try dsimp only); (try k_fold))
  k_with "MeasPost" => ((with_reducible show MeasPost _ _ _ _ _ _ _ _ _ _ _ _ _ _ _ _ _ _ _ _ _ _ _ _ _ _ _ _ _ _ _ _ _ _ _ _ _ Flow.brk _); dsimp only [MeasPost])
  k_with "pyIter ref" => (k_here; (with_reducible show wpAny _ _ (pyIter (Value.ref _)) (fun it s₂ => LoopAtV _ _ _ _ _ _ _ _ _ it s₂) _ _); k_dflt (refine' meas_loop (n := 99) (vsc := vsc) (tq := tq) (spb := spb) (x := x) (d := d) (pb := pb) (f := f) (c := c) (lf := lf) (cell := cell) (sx := sx) (sd := sd) (news := news) (lv := lv) (pv := pv) St ?q73zh ?q73zr ?q73zs ?q73zn ?q73zf ?q73zN hS h0 hoff (fun i9 t9 u1 u2 u3 u4 u5 h9 tk9 tail9 ln9 tl9 nlf9 npb9 lv9 pv9 a1 b1 c1 a2 b2 c2 hi9 hT9 hT8 hS9 hs9 F9 N9 => ?_) (SO.fin); (case q73zh => exact rfl); (case q73zr => assumption); (case q73zs => exact rfl); (case q73zn => exact rfl); (case q73zf => k_asm); (case q73zN => k_asm)); (have sm9 := SO.small _ _ _ hs9); (have sm8 := small_all sm9); (have sm7 := sm8.1); (have sm6 := sm8.2); clear sm8; (try dsimp only at sm9); (all_goals (try dsimp only)); (all_goals (try k_fold)))
  k_steps
  · exact hret _ _ _ _ _ _ _ _ _ _ _ hs9 (by assumption) (by k_asm) (by
      refine news_sub (by k_asm) (fun p hp => ?_)
      rcases List.mem_cons.mp hp with rfl | hp
      · k_mem
      · have := hT8 p hp
        simp only [List.mem_cons]
        simp [this])
  · k_dflt (refine' MeasPost.intro (vsc := vsc) (tq := tq) ?zm ?zf ?zN ?zS ?zs)
    (case zf => k_asm)
    (case zm => (intro z e0 e1 e2 e3 e4 e5; simp only [if_neg e0, if_neg e1, if_neg e2, if_neg e3, if_neg e4, if_neg e5]))
    (case zN => (first | k_asm | (refine' news_sub ?n1 ?n2; (case n1 => k_asm); (case n2 => kcj_all))))
    (case zS => exact hS9)
    (case zs => exact SO.swap _ _ _ hs9 (by assumption) (by assumption))
  · exact Bool.noConfusion ((SO.flt _ _ _ hs9).1.symm.trans ‹Float64.isNaN _ = true›)
  · exact Bool.noConfusion ((SO.flt _ _ _ hs9).2.symm.trans ‹Float64.isInf _ = true›)
  · k_dflt (refine' MeasPost.intro (vsc := vsc) (tq := tq) ?ym ?yf ?yN ?yS ?ys)
    (case yf => k_asm)
    (case ym => (intro z e0 e1 e2 e3 e4 e5; simp only [if_neg e0, if_neg e1, if_neg e2, if_neg e3, if_neg e4, if_neg e5]))
    (case yN => (first | k_asm | (refine' news_sub ?n1 ?n2; (case n1 => k_asm); (case n2 => kcj_all))))
    (case yS => exact hS9)
    (case ys => (rw [hL9]; exact SO.less _ (a1, b1, c1) (a2, b2, c2) hs9 (by assumption) (by first | assumption | omega) X9 Y9 Z9 hX9 hY9 hZ9))
end
end
section
open PySem PySem.W PyProof.Rows
set_option maxRecDepth 100000
set_option maxHeartbeats 8000000

open PySem.Float64
/-- sixty times the hue's sixths -/
noncomputable def hueT (r g b : Int) : Int :=
  if min (min r g) b = max (max r g) b then 0 else
  (if r = max (max r g) b then 60 * (g - b) / (max (max r g) b - min (min r g) b)
   else if g = max (max r g) b then 120 + 60 * (b - r) / (max (max r g) b - min (min r g) b)
   else 240 + 60 * (r - g) / (max (max r g) b - min (min r g) b)) % 360
noncomputable def hueOk (x : UInt64) (T : Int) : Bool :=
  (match decode x with | .fin .. => true | _ => false) && decide (T * 2 ^ 1074 - 2 ^ 1030 ≤ 360 * val x) && decide (360 * val x ≤ T * 2 ^ 1074 + 2 ^ 1030) && decide (0 ≤ T) && decide (T < 360)
/-- a normal triple of size 36 at most -/
noncomputable abbrev InS (p : Tri) : Prop := min (min p.1 p.2.1) p.2.2 = 1 ∧ szT p ≤ 36
noncomputable def row (a : Nat) : List Tri := ((List.range 7).flatMap fun b => (List.range 7).map fun c => ((a, b + 1, c + 1) : Tri)).filter fun p => decide (InS p)
theorem sq_pos (z : Int) : 0 ≤ z * z := by
  rcases Int.le_total 0 z with q | q
  · exact Int.mul_nonneg q q
  · have := Int.mul_nonneg (Int.neg_nonneg_of_nonpos q) (Int.neg_nonneg_of_nonpos q)
    rwa [Int.neg_mul_neg] at this
theorem form_lt {x y : Int} (hx : 0 ≤ x) (h : x * x + y * y - x * y ≤ 36) : x < 7 := by
  refine Int.not_le.mp fun q => ?_
  have e1 := sq_pos (2 * y - x)
  have f1 : (2 * y - x) * (2 * y - x) = 4 * (x * x + y * y - x * y) - 3 * (x * x) := by grind
  rw [f1] at e1
  have : 7 * 7 ≤ x * x := Int.mul_le_mul q q (by decide) hx
  generalize x * x + y * y - x * y = u at *
  omega
theorem form_eq (u v w : Int) : u * u + v * v + w * w - u * v - v * w - w * u = (u - w) * (u - w) + (v - w) * (v - w) - (u - w) * (v - w) := by grind
theorem lt8 {a c : Nat} (h : (a : Int) - c < 7) (hc : c = 1) : a < 8 := by omega
theorem sub_one {a c : Nat} (h : 1 ≤ a) (hc : c = 1) : (0 : Int) ≤ (a : Int) - c := by omega
theorem cube8 {a b c : Nat} (ha : 1 ≤ a) (hb : 1 ≤ b) (hc : c = 1) (h : (a : Int) * a + b * b + c * c - a * b - b * c - c * a ≤ 36) : a < 8 ∧ b < 8 ∧ c < 8 := by
  rw [form_eq] at h
  refine ⟨lt8 (form_lt (sub_one ha hc) h) hc, lt8 (form_lt (y := (a : Int) - c) (sub_one hb hc) ?_) hc, by rw [hc]; decide⟩
  rw [Int.mul_comm ((b : Int) - c) ((a : Int) - c), Int.add_comm]
  exact h
theorem rot (u v w : Int) : u * u + v * v + w * w - u * v - v * w - w * u = v * v + w * w + u * u - v * w - w * u - u * v := by grind
theorem inS_le {p : Tri} (h : InS p) : (0 < p.1 ∧ p.1 < 8) ∧ (0 < p.2.1 ∧ p.2.1 < 8) ∧ (0 < p.2.2 ∧ p.2.2 < 8) := by
  obtain ⟨a, b, c⟩ := p
  obtain ⟨h1, h2⟩ := h
  dsimp only at h1 h2 ⊢
  have h2 : (a : Int) * a + b * b + c * c - a * b - b * c - c * a ≤ 36 := h2
  have ha : 1 ≤ a := h1 ▸ Nat.le_trans (Nat.min_le_left _ _) (Nat.min_le_left _ _)
  have hb : 1 ≤ b := h1 ▸ Nat.le_trans (Nat.min_le_left _ _) (Nat.min_le_right _ _)
  have hc : 1 ≤ c := h1 ▸ Nat.min_le_right _ _
  have hm : a = 1 ∨ b = 1 ∨ c = 1 := by
    rcases Nat.le_total (min a b) c with q | q
    · rw [Nat.min_eq_left q] at h1
      rcases Nat.le_total a b with q | q
      · rw [Nat.min_eq_left q] at h1; exact .inl h1
      · rw [Nat.min_eq_right q] at h1; exact .inr (.inl h1)
    · rw [Nat.min_eq_right q] at h1; exact .inr (.inr h1)
  rcases hm with q | q | q
  · rw [rot] at h2
    obtain ⟨k1, k2, k3⟩ := cube8 hb hc q h2
    exact ⟨⟨ha, k3⟩, ⟨hb, k1⟩, hc, k2⟩
  · rw [rot, rot] at h2
    obtain ⟨k1, k2, k3⟩ := cube8 hc ha q h2
    exact ⟨⟨ha, k2⟩, ⟨hb, k3⟩, hc, k1⟩
  · obtain ⟨k1, k2, k3⟩ := cube8 ha hb q h2
    exact ⟨⟨ha, k1⟩, ⟨hb, k2⟩, hc, k3⟩
theorem seven : ∀ n < 8, 0 < n → n = 1 ∨ n = 2 ∨ n = 3 ∨ n = 4 ∨ n = 5 ∨ n = 6 ∨ n = 7 := by decide
theorem mem_row {p : Tri} (h : InS p) : p ∈ row p.1 := by
  have hl := inS_le h
  obtain ⟨a, b, c⟩ := p
  unfold row
  rw [List.mem_filter]
  refine ⟨?_, decide_eq_true h⟩
  rw [List.mem_flatMap]
  refine ⟨b - 1, List.mem_range.mpr (by have := hl.2.1; dsimp only at this; omega), ?_⟩
  rw [List.mem_map]
  refine ⟨c - 1, List.mem_range.mpr (by have := hl.2.2; dsimp only at this; omega), ?_⟩
  have h1 := hl.2.1.1
  have h2 := hl.2.2.1
  dsimp only at h1 h2
  rw [Nat.sub_add_cancel h1, Nat.sub_add_cancel h2]
theorem tab1 : (row 1).all (fun p => hueOk (hueF p.1 p.2.1 p.2.2) (hueT p.1 p.2.1 p.2.2)) = true := by decide +kernel
theorem tab2 : (row 2).all (fun p => hueOk (hueF p.1 p.2.1 p.2.2) (hueT p.1 p.2.1 p.2.2)) = true := by decide +kernel
theorem tab3 : (row 3).all (fun p => hueOk (hueF p.1 p.2.1 p.2.2) (hueT p.1 p.2.1 p.2.2)) = true := by decide +kernel
theorem tab4 : (row 4).all (fun p => hueOk (hueF p.1 p.2.1 p.2.2) (hueT p.1 p.2.1 p.2.2)) = true := by decide +kernel
theorem tab5 : (row 5).all (fun p => hueOk (hueF p.1 p.2.1 p.2.2) (hueT p.1 p.2.1 p.2.2)) = true := by decide +kernel
theorem tab6 : (row 6).all (fun p => hueOk (hueF p.1 p.2.1 p.2.2) (hueT p.1 p.2.1 p.2.2)) = true := by decide +kernel
theorem tab7 : (row 7).all (fun p => hueOk (hueF p.1 p.2.1 p.2.2) (hueT p.1 p.2.1 p.2.2)) = true := by decide +kernel
theorem hue_ok {p : Tri} (h : InS p) : hueOk (hueF p.1 p.2.1 p.2.2) (hueT p.1 p.2.1 p.2.2) = true := by
  have hm := mem_row h
  have hl := (inS_le h).1
  rcases seven p.1 hl.2 hl.1 with e | e | e | e | e | e | e <;> rw [e] at hm
  · exact List.all_eq_true.mp tab1 p hm
  · exact List.all_eq_true.mp tab2 p hm
  · exact List.all_eq_true.mp tab3 p hm
  · exact List.all_eq_true.mp tab4 p hm
  · exact List.all_eq_true.mp tab5 p hm
  · exact List.all_eq_true.mp tab6 p hm
  · exact List.all_eq_true.mp tab7 p hm
theorem hueOk_iff {x : UInt64} {T : Int} (h : hueOk x T = true) : (∃ a m e, decode x = .fin a m e) ∧ T * 2 ^ 1074 - 2 ^ 1030 ≤ 360 * val x ∧ 360 * val x ≤ T * 2 ^ 1074 + 2 ^ 1030 ∧ 0 ≤ T ∧ T < 360 := by
  unfold hueOk at h
  simp only [Bool.and_eq_true, decide_eq_true_eq] at h
  obtain ⟨⟨⟨⟨h1, h2⟩, h3⟩, h4⟩, h5⟩ := h
  refine ⟨?_, h2, h3, h4, h5⟩
  cases hd : decode x with
  | nan => rw [hd] at h1; cases h1
  | inf _ => rw [hd] at h1; cases h1
  | fin a m e => exact ⟨a, m, e, rfl⟩
section
variable {U O S T D vx vy d v1 v2 v3 c K R W : Int}
theorem sx1 (x1 : S * O - 16 * U ≤ 360 * vx) (x2 : 360 * vx ≤ S * O + 16 * U) (y1 : T * O - 16 * U ≤ 360 * vy) (y2 : 360 * vy ≤ T * O + 16 * U) : (S - T) * O - 32 * U ≤ 360 * (vx - vy) ∧ 360 * (vx - vy) ≤ (S - T) * O + 32 * U := by
  rw [Int.sub_mul]; omega
theorem sx2 (h : D - 32 * U ≤ 360 * d ∧ 360 * d ≤ D + 32 * U) (k : d - U ≤ v1 ∧ v1 ≤ d + U) : D - 392 * U ≤ 360 * v1 ∧ 360 * v1 ≤ D + 392 * U := by omega
theorem sx3 (h : D - 392 * U ≤ 360 * v1 ∧ 360 * v1 ≤ D + 392 * U) (k : 6 * v1 - U ≤ v2 ∧ v2 ≤ 6 * v1 + U) : D - 452 * U ≤ 60 * v2 ∧ 60 * v2 ≤ D + 452 * U := by omega
theorem sx4 (h : D - 452 * U ≤ 60 * v2 ∧ 60 * v2 ≤ D + 452 * U) (hc : 2 * c = 13 * O) : D + 390 * O - 452 * U ≤ 60 * (v2 + c) ∧ 60 * (v2 + c) ≤ D + 390 * O + 452 * U := by omega
theorem sx5 (h : D + 390 * O - 452 * U ≤ 60 * d ∧ 60 * d ≤ D + 390 * O + 452 * U) (k : d - U ≤ v3 ∧ v3 ≤ d + U) : D + 390 * O - 512 * U ≤ 60 * v3 ∧ 60 * v3 ≤ D + 390 * O + 512 * U := by omega
theorem sx_abs {U' : Nat} (hc : (U' : Int) = U) (hU : 0 < U) (h : -(360 * 281474976710656 * U) ≤ D ∧ D ≤ 360 * 281474976710656 * U) (k : D - 32 * U ≤ 360 * d ∧ 360 * d ≤ D + 32 * U) : d.natAbs < 4503599627370496 * U' := by omega
theorem sx_abs6 {U' : Nat} (hc : (U' : Int) = U) (hU : 0 < U) (h : -(360 * 281474976710656 * U) ≤ D ∧ D ≤ 360 * 281474976710656 * U) (k : D - 392 * U ≤ 360 * d ∧ 360 * d ≤ D + 392 * U) : (6 * d).natAbs < 4503599627370496 * U' := by omega
theorem sx_abs7 {U' : Nat} (hc : (U' : Int) = U) (hU : 0 < U) (hO : O = 281474976710656 * U) (h : -(360 * 281474976710656 * U) ≤ D ∧ D ≤ 360 * 281474976710656 * U) (k : D + 390 * O - 452 * U ≤ 60 * d ∧ 60 * d ≤ D + 390 * O + 452 * U) : d.natAbs < 4503599627370496 * U' := by omega
theorem sx_pos (hU : 0 < U) (hO : O = 281474976710656 * U) (h : -(360 * 281474976710656 * U) ≤ D ∧ D ≤ 360 * 281474976710656 * U) (k : D + 390 * O - 512 * U ≤ 60 * d ∧ 60 * d ≤ D + 390 * O + 512 * U) : 0 < d := by omega
theorem sx_end (hU : 0 < U) (hO : O = 281474976710656 * U) (h : W * O - 512 * U ≤ 60 * v3 ∧ 60 * v3 ≤ W * O + 512 * U) (e : O * K + R = v3) (r0 : 0 ≤ R) (r1 : R < O) : 60 * K ≤ W ∧ W ≤ 60 * (K + 1) := by
  have hOp : 0 ≤ O := by omega
  have e1 : 60 * K * O = 60 * (O * K) := by rw [Int.mul_comm O K, Int.mul_assoc]
  constructor
  · refine Int.not_lt.mp fun q => ?_
    have m1 : (W + 1) * O ≤ 60 * K * O := Int.mul_le_mul_of_nonneg_right q hOp
    rw [e1, Int.add_mul] at m1
    clear r1 q e1
    generalize W * O = P at *
    generalize O * K = M at *
    omega
  · refine Int.not_lt.mp fun q => ?_
    have m1 : (60 * K + 61) * O ≤ W * O := Int.mul_le_mul_of_nonneg_right (by omega) hOp
    rw [Int.add_mul, e1] at m1
    clear r0 q e1
    generalize W * O = P at *
    generalize O * K = M at *
    omega
end
/-- the rounded sixths between two hues -/
theorem sixths {x y : UInt64} {S T : Int} (hx : hueOk x S = true) (hy : hueOk y T = true) :
    (∃ a m e, decode (add (mul (sub x y) (ofInt 6)) c65) = .fin a m e) ∧ 60 * Flt.toInt truncOf (add (mul (sub x y) (ofInt 6)) c65) ≤ S - T + 390 ∧ S - T + 390 ≤ 60 * (Flt.toInt truncOf (add (mul (sub x y) (ofInt 6)) c65) + 1) := by
  obtain ⟨fx, x1, x2, x3, x4⟩ := hueOk_iff hx
  obtain ⟨fy, y1, y2, y3, y4⟩ := hueOk_iff hy
  have hU : (0 : Int) < 2 ^ 1026 := Int.pow_pos (by decide)
  have hO : (2 : Int) ^ 1074 = 281474976710656 * 2 ^ 1026 := by rw [show (1074 : Nat) = 48 + 1026 from rfl, Int.pow_add]; rfl
  have hE : (2 : Int) ^ 1030 = 16 * 2 ^ 1026 := by rw [show (1030 : Nat) = 4 + 1026 from rfl, Int.pow_add]; rfl
  have hB : (2 : Nat) ^ 1078 = 4503599627370496 * 2 ^ 1026 := by rw [show (1078 : Nat) = 52 + 1026 from rfl, Nat.pow_add]
  have hc : ((2 ^ 1026 : Nat) : Int) = 2 ^ 1026 := by rw [Int.natCast_pow]; rfl
  have hOp : (0 : Int) < 2 ^ 1074 := Int.pow_pos (by decide)
  have hv65 : 2 * val c65 = 13 * 2 ^ 1074 := by decide +kernel
  have f65 : ∃ a m e, decode c65 = .fin a m e := by
    have e : (match decode c65 with | .fin _ _ _ => true | _ => false) = true := by decide +kernel
    cases h : decode c65 with
    | nan => rw [h] at e; cases e
    | inf _ => rw [h] at e; cases e
    | fin b k f => exact ⟨b, k, f, rfl⟩
  rw [hE] at x1 x2 y1 y2
  have a1 := sx1 x1 x2 y1 y2
  have hD : -(360 * 281474976710656 * 2 ^ 1026) ≤ (S - T) * 2 ^ 1074 ∧ (S - T) * 2 ^ 1074 ≤ 360 * 281474976710656 * (2 : Int) ^ 1026 := by
    rw [Int.mul_assoc 360, ← hO, ← Int.neg_mul]
    exact ⟨Int.mul_le_mul_of_nonneg_right (by omega) (Int.le_of_lt hOp), Int.mul_le_mul_of_nonneg_right (by omega) (Int.le_of_lt hOp)⟩
  have n1 := near_sub fx fy (by rw [hB]; exact sx_abs hc hU hD a1)
  have a2 := sx2 a1 n1.2
  have n2 := near_six n1.1 (by rw [hB]; exact sx_abs6 hc hU hD a2)
  have a3 := sx4 (sx3 a2 n2.2) hv65
  have n3 := near_add n2.1 f65 (by rw [hB]; exact sx_abs7 hc hU hO hD a3)
  have a4 := sx5 a3 n3.2
  refine ⟨n3.1, ?_⟩
  have hpos : 0 < val (add (mul (sub x y) (ofInt 6)) c65) := sx_pos hU hO hD a4
  rw [trunc_val n3.1 hpos]
  rw [← Int.add_mul] at a4
  exact sx_end hU hO a4 (Int.mul_ediv_add_emod _ _) (Int.emod_nonneg _ (Int.ne_of_gt hOp)) (Int.emod_lt_of_pos _ hOp)
end
section
open PySem PySem.W PyProof.Rows
set_option maxRecDepth 100000
set_option maxHeartbeats 8000000

noncomputable def fall (p q : Tri) (k : Int) : Bool :=
  decide (szI (p.1 - (q.1 * xi k + q.2.1 * zi k + q.2.2 * yi k)) (p.2.1 - (q.1 * yi k + q.2.1 * xi k + q.2.2 * zi k)) (p.2.2 - (q.1 * zi k + q.2.2 * xi k + q.2.1 * yi k)) < szT p)
noncomputable def chk (p q : Tri) (S T : Int) : Bool :=
  decide (szT q = 0) || decide (szT p < szT q) ||
  (fall p q ((S - T + 390) / 60 % 6) && (decide ((S - T + 390) % 60 ≠ 0) || fall p q (((S - T + 390) / 60 - 1) % 6)))
noncomputable def rowT (a : Nat) : List (Tri × Int) := (row a).map fun p => (p, hueT p.1 p.2.1 p.2.2)
theorem chk11 : (rowT 1).all (fun e => (rowT 1).all fun f => chk e.1 f.1 e.2 f.2) = true := by decide +kernel
end
section
open PySem PySem.W PyProof.Rows
set_option maxRecDepth 100000
set_option maxHeartbeats 8000000

theorem szI_shift (r g b s : Int) : szI (r + s) (g + s) (b + s) = szI r g b := by
  unfold szI
  grind
theorem tri_norm {x y z mm : Int} (h1 : mm ≤ x) (h2 : mm ≤ y) (h3 : mm ≤ z) (h4 : mm = x ∨ mm = y ∨ mm = z) : ((x - mm + 1).toNat : Int) = x - mm + 1 ∧ ((y - mm + 1).toNat : Int) = y - mm + 1 ∧ ((z - mm + 1).toNat : Int) = z - mm + 1 ∧ min (min (x - mm + 1).toNat (y - mm + 1).toNat) (z - mm + 1).toNat = 1 := by
  have e1 : 1 ≤ (x - mm + 1).toNat := by clear h2 h3 h4; omega
  have e2 : 1 ≤ (y - mm + 1).toNat := by clear h1 h3 h4 e1; omega
  have e3 : 1 ≤ (z - mm + 1).toNat := by clear h1 h2 h4 e1 e2; omega
  refine ⟨Int.toNat_of_nonneg (by clear h2 h3 h4 e1 e2 e3; omega), Int.toNat_of_nonneg (by clear h1 h3 h4 e1 e2 e3; omega), Int.toNat_of_nonneg (by clear h1 h2 h4 e1 e2 e3; omega), Nat.le_antisymm ?_ (Nat.le_min.mpr ⟨Nat.le_min.mpr ⟨e1, e2⟩, e3⟩)⟩
  have one : ∀ u : Int, mm = u → (u - mm + 1).toNat = 1 := fun u e => by rw [e, Int.sub_self]; rfl
  rcases h4 with h | h | h
  · exact Nat.le_trans (Nat.le_trans (Nat.min_le_left ..) (Nat.min_le_left ..)) (Nat.le_of_eq (one x h))
  · exact Nat.le_trans (Nat.le_trans (Nat.min_le_left ..) (Nat.min_le_right ..)) (Nat.le_of_eq (one y h))
  · exact Nat.le_trans (Nat.min_le_right ..) (Nat.le_of_eq (one z h))
theorem min_facts (x y z : Int) : min (min x y) z ≤ x ∧ min (min x y) z ≤ y ∧ min (min x y) z ≤ z ∧ (min (min x y) z = x ∨ min (min x y) z = y ∨ min (min x y) z = z) := by
  refine ⟨Int.le_trans (Int.min_le_left _ _) (Int.min_le_left _ _), Int.le_trans (Int.min_le_left _ _) (Int.min_le_right _ _), Int.min_le_right _ _, ?_⟩
  rcases Int.le_total (min x y) z with h | h
  · rw [Int.min_eq_left h]
    rcases Int.le_total x y with k | k
    · exact .inl (Int.min_eq_left k)
    · exact .inr (.inl (Int.min_eq_right k))
  · exact .inr (.inr (Int.min_eq_right h))
theorem ls1 {a n : Nat} {X : Int} (hX : 0 < X) (h : X + 1 - a ≤ n) : ((a + n - X.toNat : Nat) : Int) = a + n - X := by omega
theorem ls2 {a n X m : Int} : a + n - X - m + 1 = a - X + (n - m + 1) := by omega
theorem ls3 {u m : Int} (h : u ≤ m) : u ≤ ((m - 0).toNat : Int) := by omega
theorem less_spec {a b c : Nat} {X Y Z : Int} (hX : 0 < X ∧ X < 100) (hY : 0 < Y ∧ Y < 100) (hZ : 0 < Z ∧ Z < 100) :
    ∃ s : Int, ((lessT a b c X Y Z).1 : Int) = a - X + s ∧ ((lessT a b c X Y Z).2.1 : Int) = b - Y + s ∧ ((lessT a b c X Y Z).2.2 : Int) = c - Z + s ∧ min (min (lessT a b c X Y Z).1 (lessT a b c X Y Z).2.1) (lessT a b c X Y Z).2.2 = 1 := by
  unfold lessT
  have hn : ∃ n : Nat, lessN a b c X Y Z = n ∧ X + 1 - a ≤ n ∧ Y + 1 - b ≤ n ∧ Z + 1 - c ≤ n := ⟨_, rfl, ls3 (Int.le_trans (Int.le_max_left _ _) (Int.le_max_left _ _)), ls3 (Int.le_trans (Int.le_max_right _ _) (Int.le_max_left _ _)), ls3 (Int.le_max_right _ _)⟩
  obtain ⟨n, e, h1, h2, h3⟩ := hn
  rw [e]
  dsimp only
  rw [ls1 hX.1 h1, ls1 hY.1 h2, ls1 hZ.1 h3]
  obtain ⟨m1, m2, m3, m4⟩ := min_facts ((a : Int) + n - X) (b + n - Y) (c + n - Z)
  generalize min (min ((a : Int) + n - X) (b + n - Y)) (c + n - Z) = mm at *
  obtain ⟨r1, r2, r3, r4⟩ := tri_norm m1 m2 m3 m4
  exact ⟨n - mm + 1, r1.trans ls2, r2.trans ls2, r3.trans ls2, r4⟩
/-- the two forms of which a divisor speaks -/
noncomputable def dv1 (o0 o1 o2 p0 p1 p2 : Int) : Int := (p0 - p2) * ((o0 - o2) - (o1 - o2)) + (p1 - p2) * (o1 - o2)
noncomputable def dv2 (o0 o1 o2 p0 p1 p2 : Int) : Int := (p1 - p2) * (o0 - o2) - (p0 - p2) * (o1 - o2)
theorem fz (a n : Int) : a.fmod n = 0 ↔ n ∣ a := ⟨fun h => ⟨a.fdiv n, (Int.mul_fdiv_cancel_of_fmod_eq_zero h).symm⟩, Int.fmod_eq_zero_of_dvd⟩
theorem dvI_iff (o0 o1 o2 p0 p1 p2 : Int) : dvI o0 o1 o2 p0 p1 p2 = true ↔ szI o0 o1 o2 ∣ dv1 o0 o1 o2 p0 p1 p2 ∧ szI o0 o1 o2 ∣ dv2 o0 o1 o2 p0 p1 p2 := by
  unfold dvI
  simp only [Bool.and_eq_true, beq_iff_eq]
  rw [fz, fz]
  exact Iff.rfl
end
section
open PySem PySem.W PyProof.Rows
set_option maxRecDepth 100000
set_option maxHeartbeats 8000000

theorem chk12 : (rowT 1).all (fun e => (rowT 2).all fun f => chk e.1 f.1 e.2 f.2) = true := by decide +kernel
theorem chk13 : (rowT 1).all (fun e => (rowT 3).all fun f => chk e.1 f.1 e.2 f.2) = true := by decide +kernel
theorem chk14 : (rowT 1).all (fun e => (rowT 4).all fun f => chk e.1 f.1 e.2 f.2) = true := by decide +kernel
theorem chk15 : (rowT 1).all (fun e => (rowT 5).all fun f => chk e.1 f.1 e.2 f.2) = true := by decide +kernel
theorem chk16 : (rowT 1).all (fun e => (rowT 6).all fun f => chk e.1 f.1 e.2 f.2) = true := by decide +kernel
theorem chk17 : (rowT 1).all (fun e => (rowT 7).all fun f => chk e.1 f.1 e.2 f.2) = true := by decide +kernel
theorem chk21 : (rowT 2).all (fun e => (rowT 1).all fun f => chk e.1 f.1 e.2 f.2) = true := by decide +kernel
theorem chk22 : (rowT 2).all (fun e => (rowT 2).all fun f => chk e.1 f.1 e.2 f.2) = true := by decide +kernel
theorem chk23 : (rowT 2).all (fun e => (rowT 3).all fun f => chk e.1 f.1 e.2 f.2) = true := by decide +kernel
theorem chk24 : (rowT 2).all (fun e => (rowT 4).all fun f => chk e.1 f.1 e.2 f.2) = true := by decide +kernel
theorem chk25 : (rowT 2).all (fun e => (rowT 5).all fun f => chk e.1 f.1 e.2 f.2) = true := by decide +kernel
theorem chk26 : (rowT 2).all (fun e => (rowT 6).all fun f => chk e.1 f.1 e.2 f.2) = true := by decide +kernel
theorem chk27 : (rowT 2).all (fun e => (rowT 7).all fun f => chk e.1 f.1 e.2 f.2) = true := by decide +kernel
theorem chk31 : (rowT 3).all (fun e => (rowT 1).all fun f => chk e.1 f.1 e.2 f.2) = true := by decide +kernel
theorem chk32 : (rowT 3).all (fun e => (rowT 2).all fun f => chk e.1 f.1 e.2 f.2) = true := by decide +kernel
theorem chk33 : (rowT 3).all (fun e => (rowT 3).all fun f => chk e.1 f.1 e.2 f.2) = true := by decide +kernel
theorem chk34 : (rowT 3).all (fun e => (rowT 4).all fun f => chk e.1 f.1 e.2 f.2) = true := by decide +kernel
theorem chk35 : (rowT 3).all (fun e => (rowT 5).all fun f => chk e.1 f.1 e.2 f.2) = true := by decide +kernel
theorem chk36 : (rowT 3).all (fun e => (rowT 6).all fun f => chk e.1 f.1 e.2 f.2) = true := by decide +kernel
theorem chk37 : (rowT 3).all (fun e => (rowT 7).all fun f => chk e.1 f.1 e.2 f.2) = true := by decide +kernel
theorem chk41 : (rowT 4).all (fun e => (rowT 1).all fun f => chk e.1 f.1 e.2 f.2) = true := by decide +kernel
theorem chk42 : (rowT 4).all (fun e => (rowT 2).all fun f => chk e.1 f.1 e.2 f.2) = true := by decide +kernel
theorem chk43 : (rowT 4).all (fun e => (rowT 3).all fun f => chk e.1 f.1 e.2 f.2) = true := by decide +kernel
theorem chk44 : (rowT 4).all (fun e => (rowT 4).all fun f => chk e.1 f.1 e.2 f.2) = true := by decide +kernel
theorem chk45 : (rowT 4).all (fun e => (rowT 5).all fun f => chk e.1 f.1 e.2 f.2) = true := by decide +kernel
theorem chk46 : (rowT 4).all (fun e => (rowT 6).all fun f => chk e.1 f.1 e.2 f.2) = true := by decide +kernel
theorem chk47 : (rowT 4).all (fun e => (rowT 7).all fun f => chk e.1 f.1 e.2 f.2) = true := by decide +kernel
theorem chk51 : (rowT 5).all (fun e => (rowT 1).all fun f => chk e.1 f.1 e.2 f.2) = true := by decide +kernel
theorem chk52 : (rowT 5).all (fun e => (rowT 2).all fun f => chk e.1 f.1 e.2 f.2) = true := by decide +kernel
theorem chk53 : (rowT 5).all (fun e => (rowT 3).all fun f => chk e.1 f.1 e.2 f.2) = true := by decide +kernel
theorem chk54 : (rowT 5).all (fun e => (rowT 4).all fun f => chk e.1 f.1 e.2 f.2) = true := by decide +kernel
theorem chk55 : (rowT 5).all (fun e => (rowT 5).all fun f => chk e.1 f.1 e.2 f.2) = true := by decide +kernel
theorem chk56 : (rowT 5).all (fun e => (rowT 6).all fun f => chk e.1 f.1 e.2 f.2) = true := by decide +kernel
theorem chk57 : (rowT 5).all (fun e => (rowT 7).all fun f => chk e.1 f.1 e.2 f.2) = true := by decide +kernel
theorem chk61 : (rowT 6).all (fun e => (rowT 1).all fun f => chk e.1 f.1 e.2 f.2) = true := by decide +kernel
theorem chk62 : (rowT 6).all (fun e => (rowT 2).all fun f => chk e.1 f.1 e.2 f.2) = true := by decide +kernel
theorem chk63 : (rowT 6).all (fun e => (rowT 3).all fun f => chk e.1 f.1 e.2 f.2) = true := by decide +kernel
theorem chk64 : (rowT 6).all (fun e => (rowT 4).all fun f => chk e.1 f.1 e.2 f.2) = true := by decide +kernel
theorem chk65 : (rowT 6).all (fun e => (rowT 5).all fun f => chk e.1 f.1 e.2 f.2) = true := by decide +kernel
theorem chk66 : (rowT 6).all (fun e => (rowT 6).all fun f => chk e.1 f.1 e.2 f.2) = true := by decide +kernel
theorem chk67 : (rowT 6).all (fun e => (rowT 7).all fun f => chk e.1 f.1 e.2 f.2) = true := by decide +kernel
theorem chk71 : (rowT 7).all (fun e => (rowT 1).all fun f => chk e.1 f.1 e.2 f.2) = true := by decide +kernel
theorem chk72 : (rowT 7).all (fun e => (rowT 2).all fun f => chk e.1 f.1 e.2 f.2) = true := by decide +kernel
theorem chk73 : (rowT 7).all (fun e => (rowT 3).all fun f => chk e.1 f.1 e.2 f.2) = true := by decide +kernel
theorem chk74 : (rowT 7).all (fun e => (rowT 4).all fun f => chk e.1 f.1 e.2 f.2) = true := by decide +kernel
theorem chk75 : (rowT 7).all (fun e => (rowT 5).all fun f => chk e.1 f.1 e.2 f.2) = true := by decide +kernel
theorem chk76 : (rowT 7).all (fun e => (rowT 6).all fun f => chk e.1 f.1 e.2 f.2) = true := by decide +kernel
theorem chk77 : (rowT 7).all (fun e => (rowT 7).all fun f => chk e.1 f.1 e.2 f.2) = true := by decide +kernel
theorem chk_of {a b : Nat} (h : (rowT a).all (fun e => (rowT b).all fun f => chk e.1 f.1 e.2 f.2) = true) {p q : Tri} (hp : p ∈ row a) (hq : q ∈ row b) : chk p q (hueT p.1 p.2.1 p.2.2) (hueT q.1 q.2.1 q.2.2) = true := by
  have h1 := List.all_eq_true.mp h (p, hueT p.1 p.2.1 p.2.2) (List.mem_map.mpr ⟨p, hp, rfl⟩)
  exact List.all_eq_true.mp h1 (q, hueT q.1 q.2.1 q.2.2) (List.mem_map.mpr ⟨q, hq, rfl⟩)
theorem chk_all {p q : Tri} (hp : InS p) (hq : InS q) : chk p q (hueT p.1 p.2.1 p.2.2) (hueT q.1 q.2.1 q.2.2) = true := by
  have mp := mem_row hp
  have mq := mem_row hq
  have lp := (inS_le hp).1
  have lq := (inS_le hq).1
  rcases seven p.1 lp.2 lp.1 with e | e | e | e | e | e | e <;> rw [e] at mp <;> rcases seven q.1 lq.2 lq.1 with f | f | f | f | f | f | f <;> rw [f] at mq
  · exact chk_of chk11 mp mq
  · exact chk_of chk12 mp mq
  · exact chk_of chk13 mp mq
  · exact chk_of chk14 mp mq
  · exact chk_of chk15 mp mq
  · exact chk_of chk16 mp mq
  · exact chk_of chk17 mp mq
  · exact chk_of chk21 mp mq
  · exact chk_of chk22 mp mq
  · exact chk_of chk23 mp mq
  · exact chk_of chk24 mp mq
  · exact chk_of chk25 mp mq
  · exact chk_of chk26 mp mq
  · exact chk_of chk27 mp mq
  · exact chk_of chk31 mp mq
  · exact chk_of chk32 mp mq
  · exact chk_of chk33 mp mq
  · exact chk_of chk34 mp mq
  · exact chk_of chk35 mp mq
  · exact chk_of chk36 mp mq
  · exact chk_of chk37 mp mq
  · exact chk_of chk41 mp mq
  · exact chk_of chk42 mp mq
  · exact chk_of chk43 mp mq
  · exact chk_of chk44 mp mq
  · exact chk_of chk45 mp mq
  · exact chk_of chk46 mp mq
  · exact chk_of chk47 mp mq
  · exact chk_of chk51 mp mq
  · exact chk_of chk52 mp mq
  · exact chk_of chk53 mp mq
  · exact chk_of chk54 mp mq
  · exact chk_of chk55 mp mq
  · exact chk_of chk56 mp mq
  · exact chk_of chk57 mp mq
  · exact chk_of chk61 mp mq
  · exact chk_of chk62 mp mq
  · exact chk_of chk63 mp mq
  · exact chk_of chk64 mp mq
  · exact chk_of chk65 mp mq
  · exact chk_of chk66 mp mq
  · exact chk_of chk67 mp mq
  · exact chk_of chk71 mp mq
  · exact chk_of chk72 mp mq
  · exact chk_of chk73 mp mq
  · exact chk_of chk74 mp mq
  · exact chk_of chk75 mp mq
  · exact chk_of chk76 mp mq
  · exact chk_of chk77 mp mq
end
section
open PySem PySem.W PyProof.Rows
set_option maxRecDepth 100000
set_option maxHeartbeats 8000000

open PySem.Float64
theorem fin_flags {x : UInt64} (h : ∃ a m e, decode x = .fin a m e) : Float64.isNaN x = false ∧ Float64.isInf x = false := by
  obtain ⟨a, m, e, h⟩ := h
  unfold Float64.isNaN Float64.isInf
  rw [h]
  exact ⟨rfl, rfl⟩
theorem step_fall {p q : Tri} (hp : InS p) (hq : InS q) (h0 : szT q ≠ 0) (h1 : ¬ szT p < szT q) : fall p q ((Flt.toInt truncOf (hueX p q)).fmod 6) = true := by
  have h := chk_all hp hq
  obtain ⟨_, k1, k2⟩ := sixths (hue_ok hp) (hue_ok hq)
  unfold chk at h
  rw [show decide (szT q = 0) = false from decide_eq_false h0, show decide (szT p < szT q) = false from decide_eq_false h1, Bool.false_or, Bool.false_or, Bool.and_eq_true, Bool.or_eq_true] at h
  obtain ⟨h2, h3⟩ := h
  rw [Int.fmod_eq_emod_of_nonneg _ (by decide : (0 : Int) ≤ 6)]
  have e : Flt.toInt truncOf (hueX p q) = Flt.toInt truncOf (add (mul (sub (hueF p.1 p.2.1 p.2.2) (hueF q.1 q.2.1 q.2.2)) (ofInt 6)) c65) := rfl
  rw [← e] at k1 k2
  generalize Flt.toInt truncOf (hueX p q) = K at *
  generalize hueT p.1 p.2.1 p.2.2 - hueT q.1 q.2.1 q.2.2 + 390 = d at *
  by_cases hd : d % 60 = 0
  · rcases h3 with h3 | h3
    · exact absurd hd (by simpa using h3)
    · have : K = d / 60 ∨ K = d / 60 - 1 := by omega
      rcases this with rfl | rfl
      · exact h2
      · exact h3
  · have : K = d / 60 := by omega
    rw [this]; exact h2
/-- the sizes that there are -/
noncomputable def sizes : List Int := [0, 1, 3, 4, 7, 9, 12, 13, 16, 19, 21, 25, 27, 28, 31, 36]
noncomputable def rk (n : Int) : Nat := (sizes.filter fun x => decide (x < n)).length
theorem rk_le (n : Int) : rk n ≤ 16 := List.length_filter_le _ _
theorem szt1 : (row 1).all (fun p => sizes.contains (szT p) && (decide (szT p ≠ 0) || decide (p = (1, 1, 1)))) = true := by decide +kernel
theorem szt2 : (row 2).all (fun p => sizes.contains (szT p) && (decide (szT p ≠ 0) || decide (p = (1, 1, 1)))) = true := by decide +kernel
theorem szt3 : (row 3).all (fun p => sizes.contains (szT p) && (decide (szT p ≠ 0) || decide (p = (1, 1, 1)))) = true := by decide +kernel
theorem szt4 : (row 4).all (fun p => sizes.contains (szT p) && (decide (szT p ≠ 0) || decide (p = (1, 1, 1)))) = true := by decide +kernel
theorem szt5 : (row 5).all (fun p => sizes.contains (szT p) && (decide (szT p ≠ 0) || decide (p = (1, 1, 1)))) = true := by decide +kernel
theorem szt6 : (row 6).all (fun p => sizes.contains (szT p) && (decide (szT p ≠ 0) || decide (p = (1, 1, 1)))) = true := by decide +kernel
theorem szt7 : (row 7).all (fun p => sizes.contains (szT p) && (decide (szT p ≠ 0) || decide (p = (1, 1, 1)))) = true := by decide +kernel
theorem by_rows {f : Tri → Bool} (h1 : (row 1).all f = true) (h2 : (row 2).all f = true) (h3 : (row 3).all f = true) (h4 : (row 4).all f = true) (h5 : (row 5).all f = true) (h6 : (row 6).all f = true) (h7 : (row 7).all f = true) {p : Tri} (h : InS p) : f p = true := by
  have hm := mem_row h
  have hl := (inS_le h).1
  rcases seven p.1 hl.2 hl.1 with e | e | e | e | e | e | e <;> rw [e] at hm
  · exact List.all_eq_true.mp h1 p hm
  · exact List.all_eq_true.mp h2 p hm
  · exact List.all_eq_true.mp h3 p hm
  · exact List.all_eq_true.mp h4 p hm
  · exact List.all_eq_true.mp h5 p hm
  · exact List.all_eq_true.mp h6 p hm
  · exact List.all_eq_true.mp h7 p hm
theorem sz_mem {p : Tri} (h : InS p) : szT p ∈ sizes ∧ (szT p = 0 → p = (1, 1, 1)) := by
  have := by_rows szt1 szt2 szt3 szt4 szt5 szt6 szt7 h
  rw [Bool.and_eq_true, Bool.or_eq_true, List.contains_iff_mem, decide_eq_true_iff, decide_eq_true_iff] at this
  exact ⟨this.1, fun e => this.2.resolve_left (fun n => n e)⟩
theorem rk_all : ∀ a ∈ sizes, ∀ b ∈ sizes, a < b → rk a < rk b := by decide +kernel
theorem rk_lt {p q : Tri} (hp : InS p) (hq : InS q) (h : szT p < szT q) : rk (szT p) < rk (szT q) := rk_all _ (sz_mem hp).1 _ (sz_mem hq).1 h
noncomputable def mu (p q : Tri) : Nat := 2 * (rk (szT p) + rk (szT q)) + (if szT p < szT q then 1 else 0)
theorem mu_le (p q : Tri) : mu p q ≤ 65 := by
  unfold mu
  have h1 := rk_le (szT p)
  have h2 := rk_le (szT q)
  split <;> omega
theorem dv_un (o0 o1 o2 p0 p1 p2 x y z : Int) :
    dv1 o0 o1 o2 (p0 * x + p1 * z + p2 * y) (p0 * y + p1 * x + p2 * z) (p0 * z + p2 * x + p1 * y) = (x - z) * dv1 o0 o1 o2 p0 p1 p2 + (z - y) * dv2 o0 o1 o2 p0 p1 p2 ∧
    dv2 o0 o1 o2 (p0 * x + p1 * z + p2 * y) (p0 * y + p1 * x + p2 * z) (p0 * z + p2 * x + p1 * y) = (y - z) * dv1 o0 o1 o2 p0 p1 p2 + (x - y) * dv2 o0 o1 o2 p0 p1 p2 := by
  unfold dv1 dv2
  constructor <;> grind
theorem dv_unit (o0 o1 o2 p0 p1 p2 k : Int) : ∃ a b c d : Int,
    dv1 o0 o1 o2 (p0 * xi k + p1 * zi k + p2 * yi k) (p0 * yi k + p1 * xi k + p2 * zi k) (p0 * zi k + p2 * xi k + p1 * yi k) = a * dv1 o0 o1 o2 p0 p1 p2 + b * dv2 o0 o1 o2 p0 p1 p2 ∧
    dv2 o0 o1 o2 (p0 * xi k + p1 * zi k + p2 * yi k) (p0 * yi k + p1 * xi k + p2 * zi k) (p0 * zi k + p2 * xi k + p1 * yi k) = c * dv1 o0 o1 o2 p0 p1 p2 + d * dv2 o0 o1 o2 p0 p1 p2 :=
  ⟨_, _, _, _, dv_un o0 o1 o2 p0 p1 p2 (xi k) (yi k) (zi k)⟩
theorem dv_shift (o0 o1 o2 p0 p1 p2 X Y Z s : Int) : dv1 o0 o1 o2 (p0 - X + s) (p1 - Y + s) (p2 - Z + s) = dv1 o0 o1 o2 p0 p1 p2 - dv1 o0 o1 o2 X Y Z ∧ dv2 o0 o1 o2 (p0 - X + s) (p1 - Y + s) (p2 - Z + s) = dv2 o0 o1 o2 p0 p1 p2 - dv2 o0 o1 o2 X Y Z := by
  unfold dv1 dv2
  constructor <;> grind
theorem dvI_less (o0 o1 o2 p0 p1 p2 q0 q1 q2 s : Int) {k : Int} :
    (dvI o0 o1 o2 (p0 - (q0 * xi k + q1 * zi k + q2 * yi k) + s) (p1 - (q0 * yi k + q1 * xi k + q2 * zi k) + s) (p2 - (q0 * zi k + q2 * xi k + q1 * yi k) + s) && dvI o0 o1 o2 q0 q1 q2) = (dvI o0 o1 o2 p0 p1 p2 && dvI o0 o1 o2 q0 q1 q2) := by
  cases hq : dvI o0 o1 o2 q0 q1 q2 with
  | false => simp
  | true =>
    rw [Bool.and_true, Bool.and_true]
    obtain ⟨a, b, c, d, u1, u2⟩ := dv_unit o0 o1 o2 q0 q1 q2 k
    obtain ⟨s1, s2⟩ := dv_shift o0 o1 o2 p0 p1 p2 (q0 * xi k + q1 * zi k + q2 * yi k) (q0 * yi k + q1 * xi k + q2 * zi k) (q0 * zi k + q2 * xi k + q1 * yi k) s
    have hd := (dvI_iff o0 o1 o2 q0 q1 q2).mp hq
    have w1 : szI o0 o1 o2 ∣ a * dv1 o0 o1 o2 q0 q1 q2 + b * dv2 o0 o1 o2 q0 q1 q2 := Int.dvd_add (Int.dvd_mul_of_dvd_right hd.1) (Int.dvd_mul_of_dvd_right hd.2)
    have w2 : szI o0 o1 o2 ∣ c * dv1 o0 o1 o2 q0 q1 q2 + d * dv2 o0 o1 o2 q0 q1 q2 := Int.dvd_add (Int.dvd_mul_of_dvd_right hd.1) (Int.dvd_mul_of_dvd_right hd.2)
    rw [← u1] at w1
    rw [← u2] at w2
    rw [Bool.eq_iff_iff, dvI_iff, dvI_iff, s1, s2]
    have back : ∀ {n a b : Int}, n ∣ a - b → n ∣ b → n ∣ a := fun h w => by have := Int.dvd_add h w; rwa [Int.sub_add_cancel] at this
    exact ⟨fun h => ⟨back h.1 w1, back h.2 w2⟩, fun h => ⟨Int.dvd_sub h.1 w1, Int.dvd_sub h.2 w2⟩⟩
/-- what holds ahead of each step of Euclid's way -/
noncomputable def LawSt (G : Int → Int → Int → Bool) (i : Nat) (p q : Tri) : Prop :=
  InS p ∧ InS q ∧ mu p q + i ≤ 98 ∧ (szT p ≠ 0 ∨ szT q ≠ 0) ∧ ∀ o0 o1 o2, (dvI o0 o1 o2 p.1 p.2.1 p.2.2 && dvI o0 o1 o2 q.1 q.2.1 q.2.2) = G o0 o1 o2
theorem law_ok (G : Int → Int → Int → Bool) : StOk (LawSt G) where
  small := fun _ _ _ h => ⟨inS_le h.1, inS_le h.2.1⟩
  fin := fun p q h => by have := h.2.2.1; omega
  swap := fun i p q h _ hlt => by
    obtain ⟨hp, hq, hm, hn, hg⟩ := h
    refine ⟨hq, hp, ?_, hn.symm, fun o0 o1 o2 => by rw [Bool.and_comm]; exact hg o0 o1 o2⟩
    unfold mu at hm ⊢
    rw [if_pos hlt] at hm
    rw [if_neg (by omega)]
    omega
  flt := fun _ _ _ h => fin_flags (sixths (hue_ok h.1) (hue_ok h.2.1)).1
  less := fun i p q h h0 hlt X Y Z hX hY hZ => by
    obtain ⟨hp, hq, hm, hn, hg⟩ := h
    have hf := step_fall hp hq h0 hlt
    have k0 : 0 ≤ (Flt.toInt truncOf (hueX p q)).fmod 6 ∧ (Flt.toInt truncOf (hueX p q)).fmod 6 < 6 := by
      rw [Int.fmod_eq_emod_of_nonneg _ (by decide : (0 : Int) ≤ 6)]
      omega
    generalize (Flt.toInt truncOf (hueX p q)).fmod 6 = k at *
    have lq := inS_le hq
    have hb8 := xyz k0.1 k0.2
    have bb : (0 < X ∧ X < 100) ∧ (0 < Y ∧ Y < 100) ∧ (0 < Z ∧ Z < 100) := by
      rw [hX, hY, hZ]
      exact ⟨unit_b1 hb8 (nat8 lq.1) (nat8 lq.2.1) (nat8 lq.2.2), unit_b2 hb8 (nat8 lq.1) (nat8 lq.2.1) (nat8 lq.2.2), unit_b3 hb8 (nat8 lq.1) (nat8 lq.2.1) (nat8 lq.2.2)⟩
    obtain ⟨s, e1, e2, e3, e4⟩ := less_spec (a := p.1) (b := p.2.1) (c := p.2.2) bb.1 bb.2.1 bb.2.2
    have hsz : szT (lessT p.1 p.2.1 p.2.2 X Y Z) < szT p := by
      show szI _ _ _ < _
      rw [e1, e2, e3, szI_shift]
      unfold fall at hf
      rw [← hX, ← hY, ← hZ] at hf
      exact of_decide_eq_true hf
    have hS : InS (lessT p.1 p.2.1 p.2.2 X Y Z) := ⟨e4, Int.le_of_lt (Int.lt_of_lt_of_le hsz hp.2)⟩
    refine ⟨hS, hq, ?_, Or.inr h0, fun o0 o1 o2 => ?_⟩
    · have r1 := rk_lt hS hp hsz
      unfold mu at hm ⊢
      rw [if_neg hlt] at hm
      split <;> omega
    · rw [e1, e2, e3, hX, hY, hZ, dvI_less o0 o1 o2 _ _ _ _ _ _ _]
      exact hg o0 o1 o2
theorem dvI_one (o0 o1 o2 : Int) : dvI o0 o1 o2 ((1 : Nat) : Int) ((1 : Nat) : Int) ((1 : Nat) : Int) = true := by
  rw [dvI_iff]
  unfold dv1 dv2
  simp
/-- what holds at the end -/
theorem law_end {G : Int → Int → Int → Bool} {i : Nat} {p q : Tri} (h : LawSt G i p q) (hq : szT q = 0) : InS p ∧ szT p ≠ 0 ∧ ∀ o0 o1 o2, dvI o0 o1 o2 p.1 p.2.1 p.2.2 = G o0 o1 o2 := by
  obtain ⟨h1, h2, _, h4, h5⟩ := h
  refine ⟨h1, h4.resolve_right (fun n => n hq), fun o0 o1 o2 => ?_⟩
  have e := (sz_mem h2).2 hq
  have := h5 o0 o1 o2
  rw [e, dvI_one, Bool.and_true] at this
  exact this
end
section
open PySem PySem.W PyProof.Rows
set_option maxRecDepth 100000
set_option maxHeartbeats 8000000

open AutoSeq1 (wpAny_loadPart')
open MeetsSeq MeetsSeq2 MeetsSeq3 SeqAt
/-- a > b comes back with this truth -/
noncomputable def GtAt (A : Around) (s : Shared) (y x : Value) (b : Bool) : Prop :=
  ∀ (prog : Program) (w : World) (E : Value → Shared → Prop) (Q : Value → Shared → Prop), Q (.bool b) s → wpAny (model prog w) A (richCompare .Gt y x) Q E s
theorem GtAt.ints (A : Around) (s : Shared) (a b : Int) (t u : Tok) : GtAt A s (.int a t) (.int b u) (decide (a > b)) := fun prog w E Q h =>
  CmpOf.ints_gt (prog := prog) (w := w) (A := A) (P := fun i v => ∃ t, v = .int (if i = 0 then a else b) t) (fun i => if i = 0 then a else b) (fun _ _ h => h) 0 1 _ _ _ _ _ ⟨t, rfl⟩ ⟨u, rfl⟩ h
theorem gt_loop (l b : Addr) (items items2 : Array Value) (n n2 : Nat) (dd dd2 : Option Addr) (sl sl2 : Array (Option Value)) (hsz : items.size = items2.size) (e : Nat → Bool) (g : Bool) (k : Nat) :
    ∀ i : Nat, items.size - i = k → Meets (Builtin.«list.__eq__.loop» ⟨[.ref l, .ref b, rawInt i, rawInt 4], []⟩)
      (fun A R s => s.heap.get? l = some { cls := .type "list", dict := dd, data := .seq items n, slots := sl } ∧ s.heap.get? b = some { cls := .type "list", dict := dd2, data := .seq items2 n2, slots := sl2 } ∧
        (∀ j (h1 : j < items.size) (h2 : j < items2.size), EqAt A.in1 s items[j] items2[j] (e j)) ∧
        (∀ j (h1 : j < items.size) (h2 : j < items2.size), i ≤ j → e j = false → (∀ j', i ≤ j' → j' < j → e j' = true) → GtAt A.in1 s items[j] items2[j] g) ∧ ((∀ j, i ≤ j → j < items.size → e j = true) → g = false) ∧
        R (.ok (.ret (.bool g))) s) := by
  induction k with
  | zero =>
    intro i hk prog w A R s h
    obtain ⟨hp, gn, d, tk, os⟩ := s; obtain ⟨hl, hb, he, hg, hf, h⟩ := h
    have hi1 : items[((i : Nat) : Int).toNat]? = none := by simp; omega
    have hi2 : items2[((i : Nat) : Int).toNat]? = none := by simp; omega
    have hgf : g = false := hf (fun j h1 h2 => absurd h2 (by omega))
    subst hgf
    wp_walk using wpAny_loadPart' hl, wpAny_loadPart' hb
    rw [hi1, hi2]
    wp_walk using wpAny_loadPart' hl, wpAny_loadPart' hb
    show R (.ok (.ret (.bool (decide (items.size > items2.size))))) _
    rw [hsz]
    simpa using h
  | succ k ih =>
    intro i hk prog w A R s h
    obtain ⟨hp, gn, d, tk, os⟩ := s; obtain ⟨hl, hb, he, hg, hf, h⟩ := h
    wp_walk using wpAny_loadPart' hl, wpAny_loadPart' hb
    have hlt : i < items.size := by omega
    have hlt2 : i < items2.size := by omega
    have hi1 : items[((i : Nat) : Int).toNat]? = some items[i] := by simp [hlt]
    have hi2 : items2[((i : Nat) : Int).toNat]? = some items2[i] := by simp [hlt2]
    have hc : ((i : Int) + 1) = ((i + 1 : Nat) : Int) := by push_cast; rfl
    rw [hi1, hi2]
    refine wpAny_bind (he i hlt hlt2 prog w _ _ ?_)
    cases hb' : e i with
    | true =>
      wp_walk
      rw [hc]
      exact ⟨plainId_quiet plain_eq_loop _, codeAny_builtin entry_eq_loop (by
        rw [Around.under_plainId plain_eq_loop _]
        exact ih (i + 1) (by omega) prog w A R _ ⟨hl, hb, he, fun j h1 h2 h3 h4 h5 => hg j h1 h2 (by omega) h4 (fun j' h6 h7 => by
          rcases Nat.lt_or_ge j' (i + 1) with q | q
          · have : j' = i := by omega
            rw [this]; exact hb'
          · exact h5 j' q h7), fun h3 => hf (fun j h6 h7 => by
          rcases Nat.lt_or_ge j (i + 1) with q | q
          · have : j = i := by omega
            rw [this]; exact hb'
          · exact h3 j q h7), h⟩)⟩
    | false =>
      wp_walk using wpAny_loadPart' hl, wpAny_loadPart' hb
      rw [hi1, hi2]
      refine wpAny_bind (hg i hlt hlt2 (Nat.le_refl _) hb' (fun j' h1 h2 => absurd h2 (by omega)) prog w _ _ ?_)
      wp_walk
      exact h
theorem list_gt (l b : Addr) (items items2 : Array Value) (n n2 : Nat) (dd dd2 : Option Addr) (sl sl2 : Array (Option Value)) (hsz : items.size = items2.size) (e : Nat → Bool) (g : Bool) :
    Meets (Builtin.«list.__gt__» ⟨[.ref l, .ref b], []⟩)
      (fun A R s => s.heap.get? l = some { cls := .type "list", dict := dd, data := .seq items n, slots := sl } ∧ s.heap.get? b = some { cls := .type "list", dict := dd2, data := .seq items2 n2, slots := sl2 } ∧
        (∀ j (h1 : j < items.size) (h2 : j < items2.size), EqAt A.in1 s items[j] items2[j] (e j)) ∧
        (∀ j (h1 : j < items.size) (h2 : j < items2.size), e j = false → (∀ j', j' < j → e j' = true) → GtAt A.in1 s items[j] items2[j] g) ∧ ((∀ j, j < items.size → e j = true) → g = false) ∧
        R (.ok (.ret (.bool g))) s) := by
  intro prog w A R s h
  obtain ⟨hp, gn, d, tk, os⟩ := s; obtain ⟨hl, hb, he, hg, hf, h⟩ := h
  have f3 := AutoSeq1.sub_list_list
  wp_walk using wpAny_loadPart' hl, wpAny_loadPart' hb
  exact ⟨plainId_quiet plain_eq_loop _, codeAny_builtin entry_eq_loop (by
    rw [Around.under_plainId plain_eq_loop _]
    exact gt_loop l b items items2 n n2 dd dd2 sl sl2 hsz e g _ 0 rfl prog w A R _ ⟨hl, hb, he, fun j h1 h2 _ h4 h5 => hg j h1 h2 h4 (fun j' h6 => h5 j' (Nat.zero_le _) h6), fun h3 => hf (fun j h6 => h3 j (Nat.zero_le _) h6), h⟩)⟩
theorem GtAt.lists {A : Around} {s : Shared} {l b : Addr} {items items2 : Array Value} {e : Nat → Bool} {g : Bool} (hl : s.heap.IsList l items) (hb : s.heap.IsList b items2) (hsz : items.size = items2.size) (hu : A.units < cLine)
    (he : ∀ j (h1 : j < items.size) (h2 : j < items2.size), EqAt A.in1 s items[j] items2[j] (e j))
    (hg : ∀ j (h1 : j < items.size) (h2 : j < items2.size), e j = false → (∀ j', j' < j → e j' = true) → GtAt A.in1 s items[j] items2[j] g) (hf : (∀ j, j < items.size → e j = true) → g = false) : GtAt A s (.ref l) (.ref b) g := fun prog w E Q h => by
  obtain ⟨⟨cls, dd, data, sl⟩, ho, hc, n, hd⟩ := id hl
  obtain ⟨⟨cls2, dd2, data2, sl2⟩, ho2, hc2, n2, hd2⟩ := id hb
  simp only at hc hd hc2 hd2
  subst hc hd hc2 hd2
  exact richCompare_meets_room (op := .Gt) ⟨_, ho, rfl⟩ ⟨_, ho2, rfl⟩ F.slot_list_gt F.entry_list_gt (F.args_list_gt_2 _ _) (list_gt l b items items2 n n2 dd dd2 sl sl2 hsz e g)
    ⟨ho, ho2, he, hg, hf, show Value.bool g ≠ Value.notImplemented ∧ Q (.bool g) s from ⟨(fun x => nomatch x), h⟩⟩ hu
/-- the order of [size, [r, g, 0]] -/
noncomputable abbrev GtK (s₁ r₁ g₁ s₂ r₂ g₂ : Int) : Prop := s₂ < s₁ ∨ (s₁ = s₂ ∧ (r₂ < r₁ ∨ (r₁ = r₂ ∧ g₂ < g₁)))
theorem gt_three {A : Around} {s : Shared} {l k : Addr} {r₁ g₁ r₂ g₂ : Int} {t1 t2 t3 u1 u2 u3 : Nat} (hl : s.heap.IsList l #[.int r₁ t1, .int g₁ t2, .int 0 t3]) (hk : s.heap.IsList k #[.int r₂ u1, .int g₂ u2, .int 0 u3]) (hu : A.units < cLine) :
    GtAt A s (.ref l) (.ref k) (decide (r₂ < r₁ ∨ (r₁ = r₂ ∧ g₂ < g₁))) := by
  refine GtAt.lists (e := fun j => if j = 0 then r₁ == r₂ else if j = 1 then g₁ == g₂ else (0 : Int) == 0) hl hk rfl hu (fun j h1 h2 => ?_) (fun j h1 h2 h3 h4 => ?_) (fun h => ?_)
  · match j, h1, h2 with
    | 0, _, _ => exact EqAt.int_int _ _ _ _
    | 1, _, _ => exact EqAt.int_int _ _ _ _
    | 2, _, _ => exact EqAt.int_int _ _ _ _
    | j + 3, h1, _ => exact absurd (show j + 3 < 3 from h1) (by omega)
  · match j, h1, h2 with
    | 0, _, _ =>
      have q : ¬ r₁ = r₂ := by simpa using h3
      have e : decide (r₂ < r₁ ∨ (r₁ = r₂ ∧ g₂ < g₁)) = decide (r₁ > r₂) := by rw [decide_eq_decide]; omega
      rw [e]; exact GtAt.ints _ _ _ _ _ _
    | 1, _, _ =>
      have p : r₁ = r₂ := by simpa using h4 0 (by decide)
      have e : decide (r₂ < r₁ ∨ (r₁ = r₂ ∧ g₂ < g₁)) = decide (g₁ > g₂) := by rw [decide_eq_decide]; omega
      rw [e]; exact GtAt.ints _ _ _ _ _ _
    | 2, _, _ => exact absurd h3 (by simp)
    | j + 3, h1, _ => exact absurd (show j + 3 < 3 from h1) (by omega)
  · have p : r₁ = r₂ := by simpa using h 0 (by show 0 < 3; decide)
    have q : g₁ = g₂ := by simpa using h 1 (by show 1 < 3; decide)
    rw [decide_eq_false_iff_not]; omega
theorem gt_pair {A : Around} {s : Shared} {a b l k : Addr} {s₁ s₂ r₁ g₁ r₂ g₂ : Int} {v1 v2 t1 t2 t3 u1 u2 u3 : Nat} (ha : s.heap.IsList a #[.int s₁ v1, .ref l]) (hb : s.heap.IsList b #[.int s₂ v2, .ref k])
    (hl : s.heap.IsList l #[.int r₁ t1, .int g₁ t2, .int 0 t3]) (hk : s.heap.IsList k #[.int r₂ u1, .int g₂ u2, .int 0 u3]) (hu : A.units + 1 < cLine) :
    GtAt A s (.ref a) (.ref b) (decide (GtK s₁ r₁ g₁ s₂ r₂ g₂)) := by
  have hu0 : A.units < cLine := Nat.lt_of_succ_lt hu
  by_cases hlk : l = k
  · subst hlk
    obtain ⟨o, ho, _, n, hd⟩ := id hl
    obtain ⟨o', ho', _, n', hd'⟩ := id hk
    rw [ho] at ho'
    cases ho'
    rw [hd] at hd'
    injection hd' with hs hn
    simp only [Array.mk.injEq, List.cons.injEq, Value.int.injEq] at hs
    obtain ⟨⟨rfl, _⟩, ⟨rfl, _⟩, _⟩ := hs
    refine GtAt.lists (e := fun j => if j = 0 then s₁ == s₂ else true) ha hb rfl hu0 (fun j h1 h2 => ?_) (fun j h1 h2 h3 h4 => ?_) (fun h => ?_)
    · match j, h1, h2 with
      | 0, _, _ => exact EqAt.int_int _ _ _ _
      | 1, _, _ => exact EqAt.same _
      | j + 2, h1, _ => exact absurd (show j + 2 < 2 from h1) (by omega)
    · match j, h1, h2 with
      | 0, _, _ =>
        have q : ¬ s₁ = s₂ := by simpa using h3
        have e : decide (GtK s₁ r₁ g₁ s₂ r₁ g₁) = decide (s₁ > s₂) := by rw [decide_eq_decide]; omega
        rw [e]; exact GtAt.ints _ _ _ _ _ _
      | 1, _, _ => exact absurd h3 (by simp)
      | j + 2, h1, _ => exact absurd (show j + 2 < 2 from h1) (by omega)
    · have p : s₁ = s₂ := by simpa using h 0 (by show 0 < 2; decide)
      rw [decide_eq_false_iff_not]; omega
  · have rc : RcAt A.in1 s (.ref l) (.ref k) (r₁ == r₂ && (g₁ == g₂)) := by
      have := RcAt.lists (A := A.in1) (s := s) (e := fun j => if j = 0 then r₁ == r₂ else if j = 1 then g₁ == g₂ else (0 : Int) == 0) hl hk rfl (show A.units + 1 < cLine from hu) (fun j h1 h2 => by
        match j, h1, h2 with
        | 0, _, _ => exact EqAt.int_int _ _ _ _
        | 1, _, _ => exact EqAt.int_int _ _ _ _
        | 2, _, _ => exact EqAt.int_int _ _ _ _
        | j + 3, h1, _ => exact absurd (show j + 3 < 3 from h1) (by omega))
      have e3 : (List.range 3).all (fun j => if j = 0 then r₁ == r₂ else if j = 1 then g₁ == g₂ else (0 : Int) == 0) = (r₁ == r₂ && (g₁ == g₂)) := by
        simp [List.range_succ]
      rw [← e3]; exact this
    refine GtAt.lists (e := fun j => if j = 0 then s₁ == s₂ else (r₁ == r₂ && (g₁ == g₂))) ha hb rfl hu0 (fun j h1 h2 => ?_) (fun j h1 h2 h3 h4 => ?_) (fun h => ?_)
    · match j, h1, h2 with
      | 0, _, _ => exact EqAt.int_int _ _ _ _
      | 1, _, _ => exact EqAt.of_refs hlk rc
      | j + 2, h1, _ => exact absurd (show j + 2 < 2 from h1) (by omega)
    · match j, h1, h2 with
      | 0, _, _ =>
        have q : ¬ s₁ = s₂ := by simpa using h3
        have e : decide (GtK s₁ r₁ g₁ s₂ r₂ g₂) = decide (s₁ > s₂) := by rw [decide_eq_decide]; omega
        rw [e]; exact GtAt.ints _ _ _ _ _ _
      | 1, _, _ =>
        have p : s₁ = s₂ := by simpa using h4 0 (by decide)
        have e : decide (GtK s₁ r₁ g₁ s₂ r₂ g₂) = decide (r₂ < r₁ ∨ (r₁ = r₂ ∧ g₂ < g₁)) := by rw [decide_eq_decide]; omega
        rw [e]; exact gt_three hl hk (show A.units + 1 < cLine from hu)
      | j + 2, h1, _ => exact absurd (show j + 2 < 2 from h1) (by omega)
    · have p : s₁ = s₂ := by simpa using h 0 (by show 0 < 2; decide)
      have q := h 1 (by show 1 < 2; decide)
      simp at q
      rw [decide_eq_false_iff_not]; omega
end
section
open PySem PySem.W PyProof.Rows
set_option maxRecDepth 100000
set_option maxHeartbeats 8000000

theorem compTurn_two (elt t1 t2 it1 it2 : Expr) (scope : Scope) (pos : Pos) (it acc : Value) (env : Env) :
    compTurn (.ListComp elt [⟨t1, it1, [], 0⟩, ⟨t2, it2, [], 0⟩] scope pos) 0 it acc env = (standAt it1.pos >>= fun _ => pyNext it >>= fun r => match r with
      | none => pure (.done .next)
      | some v => letOwnedTupleGo t1 it v >>= fun _ => assign t1 env v >>= fun _ =>
        eval it2 env >>= fun x => standAt it2.pos >>= fun _ => foldedSetIterable it2 env x >>= fun x => holding [x] (pyIter x) >>= fun it' => runOwn (.compStart (.ListComp elt [⟨t1, it1, [], 0⟩, ⟨t2, it2, [], 0⟩] scope pos) 1 it' acc env) env >>= fun _ =>
          again (.compLoop (.ListComp elt [⟨t1, it1, [], 0⟩, ⟨t2, it2, [], 0⟩] scope pos) 0 it acc env)) := by rfl
theorem compTurn_in (elt t1 t2 it1 it2 : Expr) (scope : Scope) (pos : Pos) (it acc : Value) (env : Env) :
    compTurn (.ListComp elt [⟨t1, it1, [], 0⟩, ⟨t2, it2, [], 0⟩] scope pos) 1 it acc env = (standAt it2.pos >>= fun _ => pyNext it >>= fun r => match r with
      | none => pure (.done .next)
      | some v => letOwnedTupleGo t2 it v >>= fun _ => assign t2 env v >>= fun _ =>
        (eval elt env >>= fun x => call (.builtin "list.append") [acc, x] >>= fun _ => pure ()) >>= fun _ =>
          again (.compLoop (.ListComp elt [⟨t1, it1, [], 0⟩, ⟨t2, it2, [], 0⟩] scope pos) 1 it acc env)) := by rfl
section
variable {prog : Program} {w : World} {A : Around} {E : Value → Shared → Prop} {R : Result → Shared → Prop} {s : Shared} {elt it1 it2 : Expr} {x y : Str} {px py : Pos} {scope : Scope} {pos : Pos} {acc : Value} {env : Env}
theorem comp_in {it : Value} (J : Nat → Shared → Prop)
    (turn : ∀ n s, J n s → wpAny (model prog w) A (pyNext it) (fun r s₁ => match r with
      | none => R (.ok .next) s₁
      | some v => wpAny (model prog w) A (assign (.Name y py) env v) (fun _ s₂ => wpAny (model prog w) A (eval elt env) (fun x s₃ =>
          wpAny (model prog w) A (call (.builtin "list.append") [acc, x]) (fun _ s₄ => ∃ m, m < n ∧ J m s₄) (notedBy (model prog w) A env fun e s' => R (.error e) s') s₃)
          (notedBy (model prog w) A env fun e s' => R (.error e) s') s₂) (notedBy (model prog w) A env fun e s' => R (.error e) s') s₁) (notedBy (model prog w) A env fun e s' => R (.error e) s') s)
    (n : Nat) (h : J n s) :
    codeAny (model prog w) A (.compLoop (.ListComp elt [⟨.Name x px, it1, [], 0⟩, ⟨.Name y py, it2, [], 0⟩] scope pos) 1 it acc env) R s := by
  refine codeAny_loop rfl J (fun n s hI => ?_) n h
  show wpAny _ _ ((compTurn (.ListComp elt [⟨.Name x px, it1, [], 0⟩, ⟨.Name y py, it2, [], 0⟩] scope pos) 1 it acc env).onRaise (fun x => do noteFrame x env; theTreesLotGoes x)) _ _ s
  refine wpAny_noted ?_
  rw [compTurn_in]
  refine wpAny_bind (wpAny_standAt (wpAny_bind (wpAny_mono (turn n s hI) (fun r s₁ h₁ => ?_) fun _ _ h' => h')))
  cases r with
  | none => exact wpAny_pure h₁
  | some v =>
    refine wpAny_bind (wpAny_of_eq (show letOwnedTupleGo (.Name y py) it v = pure () from rfl) ?_)
    exact wpAny_bind (wpAny_mono h₁ (fun _ s₂ h₂ => wpAny_bind (wpAny_bind (wpAny_mono h₂ (fun x s₃ h₃ => wpAny_bind (wpAny_mono h₃
      (fun _ s₄ h₄ => wpAny_pure (wpAny_pure ⟨rfl, h₄⟩)) fun _ _ h' => h')) fun _ _ h' => h'))) fun _ _ h' => h')
theorem comp_in0 {it : Value}
    (h : ∀ s', s' = s → codeAny (model prog w) A (.compLoop (.ListComp elt [⟨.Name x px, it1, [], 0⟩, ⟨.Name y py, it2, [], 0⟩] scope pos) 1 it acc env) R s')
    (h1 : wpAny (model prog w) A (pyIter it) (fun it' s' => codeAny (model prog w) A (.compLoop (.ListComp elt [⟨.Name x px, it1, [], 0⟩, ⟨.Name y py, it2, [], 0⟩] scope pos) 1 it' acc env) R s')
      (notedBy (model prog w) A env fun x s' => R (.error x) s') s) :
    codeAny (model prog w) A (.compStart (.ListComp elt [⟨.Name x px, it1, [], 0⟩, ⟨.Name y py, it2, [], 0⟩] scope pos) 1 it acc env) R s := by
  have h0 := h s rfl
  refine codeAny_of_tree ?_
  show wpAny _ _ ((compStart (.ListComp elt [⟨.Name x px, it1, [], 0⟩, ⟨.Name y py, it2, [], 0⟩] scope pos) 1 it acc env).onRaise (fun x => do noteFrame x env; standAt theWindowsPlace)) _ _ s
  refine wpAny_notedAt ?_
  unfold compStart
  show wpAny _ _ (ask >>= _) _ _ s
  refine wpAny_bind (wpAny_askSetting (wpAny_ite ?_))
  split
  · first
      | exact wpAny_bind (wpAny_pure (wpAny_pure (And.intro rfl h0)))
      | exact wpAny_pure (And.intro rfl h0)
  · first
      | exact wpAny_bind (wpAny_rule (wpAny_bind (wpAny_standAt (wpAny_bind (wpAny_mono h1 (fun it' s' h' => wpAny_pure (And.intro rfl h')) fun _ _ x => x)))))
      | (refine wpAny_bind (wpAny_rule ?_); show wpAny _ _ (standAt it2.pos >>= _) _ _ s; exact wpAny_bind (wpAny_standAt (wpAny_bind (wpAny_mono h1 (fun it' s' h' => wpAny_pure (And.intro rfl h')) fun _ _ x => x))))
theorem comp_out {it : Value} (J : Nat → Shared → Prop)
    (turn : ∀ n s, J n s → wpAny (model prog w) A (pyNext it) (fun r s₁ => match r with
      | none => R (.ok .next) s₁
      | some v => wpAny (model prog w) A (assign (.Name x px) env v) (fun _ s₂ => wpAny (model prog w) A (eval it2 env) (fun xv s₃ =>
          wpAny (model prog w) A (pyIter xv) (fun it' s₄ => codeAny (model prog w) (A.mark none) (.compStart (.ListComp elt [⟨.Name x px, it1, [], 0⟩, ⟨.Name y py, it2, [], 0⟩] scope pos) 1 it' acc env)
            (fun r s₅ => match r with | .ok _ => ∃ m, m < n ∧ J m s₅ | .error e => cameBackBy (model prog w) A env (notedBy (model prog w) A env fun e s' => R (.error e) s') e s₅) s₄) (notedBy (model prog w) A env fun e s' => R (.error e) s') s₃)
          (notedBy (model prog w) A env fun e s' => R (.error e) s') s₂) (notedBy (model prog w) A env fun e s' => R (.error e) s') s₁) (notedBy (model prog w) A env fun e s' => R (.error e) s') s)
    (n : Nat) (h : J n s) (hs : ∀ v, foldedSetIterable it2 env v = pure v) :
    codeAny (model prog w) A (.compLoop (.ListComp elt [⟨.Name x px, it1, [], 0⟩, ⟨.Name y py, it2, [], 0⟩] scope pos) 0 it acc env) R s := by
  refine codeAny_loop rfl J (fun n s hI => ?_) n h
  show wpAny _ A ((compTurn (.ListComp elt [⟨.Name x px, it1, [], 0⟩, ⟨.Name y py, it2, [], 0⟩] scope pos) 0 it acc env).onRaise (fun x => do noteFrame x env; theTreesLotGoes x)) _ _ s
  refine wpAny_noted ?_
  rw [compTurn_two]
  refine wpAny_bind (wpAny_standAt (wpAny_bind (wpAny_mono (turn n s hI) (fun r s₁ h₁ => ?_) fun _ _ h' => h')))
  cases r with
  | none => exact wpAny_pure h₁
  | some v =>
    refine wpAny_bind (wpAny_of_eq (show letOwnedTupleGo (.Name x px) it v = pure () from rfl) ?_)
    refine wpAny_bind (wpAny_mono h₁ (fun _ s₂ h₂ => wpAny_bind (wpAny_mono h₂ (fun xv s₃ h₃ => wpAny_bind (wpAny_standAt (wpAny_bind (wpAny_of_eq (hs xv) (wpAny_bind (wpAny_holding (wpAny_mono h₃ (fun it' s₄ h₄ => wpAny_bind (wpAny_runOwn (codeAny_mono h₄ fun r s₅ h₅ => ?_))) fun _ _ h' => h'))))))) fun _ _ h' => h')) fun _ _ h' => h')
    cases r with
    | ok f => exact wpAny_pure ⟨rfl, h₅⟩
    | error e => exact h₅
end
end
section
open PySem PySem.W PyProof.Rows
set_option maxRecDepth 100000
set_option maxHeartbeats 8000000

section
open LCg
/-- an element [r, g, 0] of the ledger's -/
noncomputable def ItemAt (news : List (Addr × Obj)) (y : Value) (rg : Int × Int) : Prop := ∃ D t t' t'' n, y = .ref D ∧ (D, W.listOf #[.int rg.1 t, .int rg.2 t', .int 0 t''] n) ∈ news
theorem ItemAt.mono {news news' : List (Addr × Obj)} {y : Value} {rg : Int × Int} (h : ItemAt news y rg) (hs : ∀ p ∈ news, p ∈ news') : ItemAt news' y rg := by
  obtain ⟨D, t, t', t'', n, e, hm⟩ := h
  exact ⟨D, t, t', t'', n, e, hs _ hm⟩
theorem paired_mono {news news' : List (Addr × Obj)} (hs : ∀ p ∈ news, p ∈ news') {ys : List Value} {rs : List (Int × Int)} (h : Paired (ItemAt news) ys rs) : Paired (ItemAt news') ys rs := by
  induction h with
  | nil => exact .nil
  | cons a _ ih => exact .cons (a.mono hs) ih
/-- what stands after i whole rows and j more -/
noncomputable def pre (i j : Nat) : List (Int × Int) := ((List.range i).flatMap fun a => (List.range (a + 1)).map fun g => (((a : Nat) : Int) + 1, ((g : Nat) : Int))) ++ (List.range j).map fun g => (((i : Nat) : Int) + 1, ((g : Nat) : Int))
theorem pre_snoc (i j : Nat) : pre i (j + 1) = pre i j ++ [((i : Int) + 1, (j : Int))] := by
  unfold pre
  rw [List.range_succ, List.map_append, ← List.append_assoc]
  rfl
theorem pre_next (i : Nat) : pre (i + 1) 0 = pre i (i + 1) := by
  unfold pre
  rw [List.range_succ, List.flatMap_append]
  simp [List.range_succ]
theorem pre_len : ∀ i ≤ 6, ∀ j ≤ 7, (pre i j).length ≤ 100 := by decide
theorem fr_w {h₀ h h' : Heap} {L X : Addr} {m : Str → Option Value} (F : Fr h₀ L h m) (K : ∀ b o, b ≠ X → h.get? b = some o → h'.get? b = some o) (hL : L ≠ X) (hX : h₀.get? X = none) : Fr h₀ L h' m :=
  ⟨F.ns.at' fun o e => K L o hL e, fun b o e => K b o (fun q => by rw [q, hX] at e; cases e) (F.keep b o e), F.above⟩
theorem news_w {h₀ h h' : Heap} {L X : Addr} {news : List (Addr × Obj)} (N : News h₀ L h news) (K : ∀ b o, b ≠ X → h.get? b = some o → h'.get? b = some o) (off : ∀ p ∈ news, p.1 ≠ X) : News h₀ L h' news :=
  fun p hp => ⟨K _ _ (off p hp) (N p hp).1, (N p hp).2⟩
theorem iter_w {h h' : Heap} {I X : Addr} {a b : Int} (K : ∀ b o, b ≠ X → h.get? b = some o → h'.get? b = some o) (st : IsRangeIter h I a b 1) (hI : I ≠ X) : IsRangeIter h' I a b 1 := K _ _ hI st
section
variable {prog : Program} {w : World} {A : Around} {E : Value → Shared → Prop} {s : Shared} {h₀ : Heap} {L : Addr} {m : Str → Option Value} {env : Env}
/-- the inner iterable: range(red) -/
noncomputable def SrcN (prog : Program) (w : World) (A : Around) (h₀ : Heap) (L : Addr) (m : Str → Option Value) (env : Env) (it2 : Expr) (x : Str) (scope : Scope) (cl : List (Str × Addr)) : Prop :=
  ∀ (C : Addr) (oC : Obj) (i : Nat) (t : Tok) (m₂ : Str → Option Value) (nw : List (Addr × Obj)) (s₃ : Shared) (Q' E' : Value → Shared → Prop), i < 6 → NsObj oC m₂ → m₂ x = some (.int (1 + (i : Int)) t) → Fr h₀ L s₃.heap m → News h₀ L s₃.heap ((C, oC) :: nw) →
      (∀ r u v w' h' tk', IsRange h' r 0 (1 + (i : Int)) 1 u v w' → Fr h₀ L h' m → News h₀ L h' ((C, oC) :: nw) → Q' (.ref r) { s₃ with heap := h', toks := tk' }) → wpAny (model prog w) A (eval it2 (compEnvC scope cl C env)) Q' E' s₃
/-- the element: [red, green, 0] -/
noncomputable def EltN (prog : Program) (w : World) (A : Around) (env : Env) (elt : Expr) (x y : Str) (scope : Scope) (cl : List (Str × Addr)) : Prop :=
  ∀ (C : Addr) (i j : Int) (t u : Tok) (m₂ : Str → Option Value) (s₃ : Shared) (Q' E' : Value → Shared → Prop), s₃.heap.Ns C m₂ → m₂ x = some (.int i t) → m₂ y = some (.int j u) →
      (∀ tk' a b c, Q' (.ref s₃.heap.objs.size) { s₃ with heap := s₃.heap.push (W.listOf #[.int i a, .int j b, .int 0 c] 0), toks := tk' }) → wpAny (model prog w) A (eval elt (compEnvC scope cl C env)) Q' E' s₃
theorem in_N {elt it1 it2 : Expr} {x y : Str} {px py : Pos} {scope : Scope} {cl : List (Str × Addr)} {pos : Pos} {s₂ : Shared} {I J C D : Addr} {i : Nat} {t : Tok} {news news₀ : List (Addr × Obj)} {ys : List Value} {m' : Str → Option Value} {R : Result → Shared → Prop}
    (hh : A.handled = none) (hkind : scope.kind = .function) (hy : scope.names.lookup y = some .local) (hxy : x ≠ y) (hi : i < 6)
    (el : EltN prog w A env elt x y scope cl)
    (hJ : IsRangeIter s₂.heap J (0 + ((0 : Nat) : Int) * 1) (((i + 1 : Nat) : Int) - ((0 : Nat) : Int)) 1) (hI : IsRangeIter s₂.heap I (1 + ((i + 1 : Nat) : Int) * 1) (((6 : Nat) : Int) - ((i + 1 : Nat) : Int)) 1)
    (F : Fr h₀ L s₂.heap m) (hn : s₂.heap.Ns C m') (hmx : m' x = some (.int (1 + (i : Int)) t)) (N : News h₀ L s₂.heap ((D, lst ys) :: news))
    (off : ∀ p ∈ news, p.1 ≠ I ∧ p.1 ≠ J ∧ p.1 ≠ C ∧ p.1 ≠ D) (ap : I ≠ J ∧ I ≠ C ∧ I ≠ D ∧ J ≠ C ∧ J ≠ D ∧ C ≠ D) (apL : L ≠ I ∧ L ≠ J ∧ L ≠ C ∧ L ≠ D)
    (z : h₀.get? I = none ∧ h₀.get? J = none ∧ h₀.get? C = none ∧ h₀.get? D = none) (sub : ∀ p ∈ news₀, p ∈ news) (P : Paired (ItemAt news) ys (pre i 0))
    (hR : ∀ h tk ys' news' m'', IsRangeIter h I (1 + ((i + 1 : Nat) : Int) * 1) (((6 : Nat) : Int) - ((i + 1 : Nat) : Int)) 1 → Fr h₀ L h m → h.Ns C m'' → News h₀ L h ((D, lst ys') :: news') → (∀ p ∈ news', p.1 ≠ I ∧ p.1 ≠ C ∧ p.1 ≠ D) → (∀ p ∈ news₀, p ∈ news') →
      Paired (ItemAt news') ys' (pre (i + 1) 0) → R (.ok .next) { s₂ with heap := h, toks := tk }) :
    codeAny (model prog w) A (.compStart (.ListComp elt [⟨.Name x px, it1, [], 0⟩, ⟨.Name y py, it2, [], 0⟩] scope pos) 1 (.ref J) (.ref D) (compEnvC scope cl C env)) R s₂ := by
  have W2 := range_walks (prog := prog) (w := w) (I := J) hh 0 (i + 1)
  have loop : ∀ s₃ : Shared, s₃ = s₂ → codeAny (model prog w) A (.compLoop (.ListComp elt [⟨.Name x px, it1, [], 0⟩, ⟨.Name y py, it2, [], 0⟩] scope pos) 1 (.ref J) (.ref D) (compEnvC scope cl C env)) R s₃ := by
    rintro s₃ rfl
    refine comp_in (fun k s' => ∃ h' tk j ys' m'' news', s' = { s₃ with heap := h', toks := tk } ∧ j ≤ i + 1 ∧ k = i + 2 - j ∧
        IsRangeIter h' J (0 + ((j : Nat) : Int) * 1) (((i + 1 : Nat) : Int) - ((j : Nat) : Int)) 1 ∧ IsRangeIter h' I (1 + ((i + 1 : Nat) : Int) * 1) (((6 : Nat) : Int) - ((i + 1 : Nat) : Int)) 1 ∧
        Fr h₀ L h' m ∧ h'.Ns C m'' ∧ m'' x = some (.int (1 + (i : Int)) t) ∧ News h₀ L h' ((D, lst ys') :: news') ∧ (∀ p ∈ news', p.1 ≠ I ∧ p.1 ≠ J ∧ p.1 ≠ C ∧ p.1 ≠ D) ∧ (∀ p ∈ news₀, p ∈ news') ∧ Paired (ItemAt news') ys' (pre i j)) ?_ (i + 2)
      ⟨s₃.heap, s₃.toks, 0, ys, m', news, rfl, Nat.zero_le _, rfl, hJ, hI, F, hn, hmx, N, off, sub, P⟩
    rintro k s' ⟨h', tk, j, ys', m'', news', rfl, hj, rfl, hJ', hI', F', hn', hmx', N', off', sub', P'⟩
    by_cases hlt : j < i + 1
    · refine W2.item j _ _ _ hlt hJ' fun v h₂ tk₂ hPv hst₂ hk₂ => ?_
      obtain ⟨u, rfl⟩ := hPv
      have K2 : ∀ b o, b ≠ J → h'.get? b = some o → h₂.get? b = some o := fun b o hb e => hk₂ b o (by simpa using hb) e
      refine wpAny_assign_Name (wpAny_storeName_local (lookup_relabel_local hy) (hn'.at' fun o e => K2 _ o (Ne.symm ap.2.2.2.1) e) (fun h₃ hn₃ hs₃ => ?_) (by simp [compEnvC, relabel, hkind]))
      have K3 : ∀ b o, b ≠ C → h₂.get? b = some o → h₃.get? b = some o := fun b o hb e => hs₃.extBut b o hb e
      refine el C (1 + (i : Int)) (0 + (j : Int)) t u _ _ _ _ hn₃ (by rw [if_neg hxy]; exact hmx') (by rw [if_pos rfl]) (fun tk' a b c => ?_)
      have F3 := fr_w (fr_w F' K2 apL.2.1 z.2.1) K3 apL.2.2.1 z.2.2.1
      have oD : ∀ p ∈ (D, lst ys') :: news', p.1 ≠ J ∧ p.1 ≠ C := fun p hp => by
        rcases List.mem_cons.mp hp with rfl | hp
        · exact ⟨Ne.symm ap.2.2.2.2.1, Ne.symm ap.2.2.2.2.2⟩
        · exact ⟨(off' p hp).2.1, (off' p hp).2.2.1⟩
      have N3 := news_w (news_w N' K2 fun p hp => (oD p hp).1) K3 fun p hp => (oD p hp).2
      have J3 := iter_w K3 hst₂ ap.2.2.2.1
      have I3 := iter_w K3 (iter_w K2 hI' ap.1) ap.2.1
      obtain ⟨hp, ehp⟩ : ∃ hp, hp = h₃.push (W.listOf #[.int (1 + (i : Int)) a, .int (0 + (j : Int)) b, .int 0 c] 0) := ⟨_, rfl⟩
      have up : ∀ b o, h₃.get? b = some o → hp.get? b = some o := fun b o e => by rw [ehp]; exact Heap.get?_push_of_some _ e
      have gN' : hp.get? h₃.objs.size = some (W.listOf #[.int (1 + (i : Int)) a, .int (0 + (j : Int)) b, .int 0 c] 0) := by rw [ehp]; exact Heap.get?_push_size _ rfl
      rw [← ehp]
      have F4 := Fr.keeps F3 up
      have N4 := News.grown N3 up
      have gD := N4 (D, lst ys') (List.mem_cons_self ..)
      have hyl : ys'.length ≤ 100 := by rw [P'.length]; exact pre_len i (by omega) j (by omega)
      refine append_at (hsz := by show ys'.toArray.size ≤ sizeLine; rw [List.size_toArray, sizeLine_eq]; omega) gD.1 fun h₅ hs₅ hD₅ => ?_
      have K5 : ∀ b o, b ≠ D → hp.get? b = some o → h₅.get? b = some o := fun b o hb e => hs₅.extBut b o hb e
      have F5 := fr_w F4 K5 apL.2.2.2 z.2.2.2
      have N4' : News h₀ L hp news' := fun p hq => N4 p (List.mem_cons_of_mem _ hq)
      have N5 := news_w N4' K5 fun p hq => (off' p hq).2.2.2
      have ltI : @LT.lt Nat _ I h₃.objs.size := Heap.lt_size I3
      have ltJ : @LT.lt Nat _ J h₃.objs.size := Heap.lt_size J3
      have ltC : @LT.lt Nat _ C h₃.objs.size := hn₃.lt
      have ltD : @LT.lt Nat _ D h₃.objs.size := Heap.lt_size (N3 (D, lst ys') (List.mem_cons_self ..)).1
      have eN : (0 + (j : Int)) = (j : Int) := Int.zero_add _
      have gN : h₅.get? h₃.objs.size = some (W.listOf #[.int (1 + (i : Int)) a, .int (0 + (j : Int)) b, .int 0 c] 0) := K5 _ _ (Nat.ne_of_gt ltD) gN'
      have nL : @Ne Nat h₃.objs.size L := Nat.ne_of_gt F3.ns.lt
      have n0 : h₀.get? h₃.objs.size = none := next_is_new F3
      refine ⟨i + 2 - (j + 1), by omega, h₅, tk', j + 1, ys' ++ [.ref h₃.objs.size], _, (h₃.objs.size, W.listOf #[.int (1 + (i : Int)) a, .int (0 + (j : Int)) b, .int 0 c] 0) :: news', rfl, hlt, rfl,
        iter_w K5 (up _ _ J3) ap.2.2.2.2.1, iter_w K5 (up _ _ I3) ap.2.2.1, F5, (hn₃.keeps up).at' (fun o e => K5 _ o ap.2.2.2.2.2 e), by rw [if_neg hxy]; exact hmx', fun p hq => ?_, fun p hq => ?_, fun p hq => List.mem_cons_of_mem _ (sub' p hq), ?_⟩
      · rcases List.mem_cons.mp hq with rfl | hq
        · exact ⟨hD₅.trans (congrArg some (lst_snoc ys' _)), gD.2⟩
        · rcases List.mem_cons.mp hq with rfl | hq
          · exact ⟨gN, nL, n0⟩
          · exact N5 p hq
      · rcases List.mem_cons.mp hq with rfl | hq
        · exact ⟨Nat.ne_of_gt ltI, Nat.ne_of_gt ltJ, Nat.ne_of_gt ltC, Nat.ne_of_gt ltD⟩
        · exact off' p hq
      · rw [pre_snoc]
        refine Paired.snoc (paired_mono (fun p hq => List.mem_cons_of_mem _ hq) P') ⟨_, a, b, c, 0, rfl, ?_⟩
        rw [eN, Int.add_comm]
        exact List.mem_cons_self ..
    · obtain rfl : j = i + 1 := Nat.le_antisymm hj (Nat.not_lt.mp hlt)
      refine W2.done _ _ _ hJ' fun h₂ tk₂ hk₂ => ?_
      have K2 : ∀ b o, b ≠ J → h'.get? b = some o → h₂.get? b = some o := fun b o hb e => hk₂ b o (by simpa using hb) e
      refine hR h₂ tk₂ ys' news' m'' (iter_w K2 hI' ap.1) (fr_w F' K2 apL.2.1 z.2.1) (hn'.at' fun o e => K2 _ o (Ne.symm ap.2.2.2.1) e) (news_w N' K2 fun p hp => ?_) (fun p hp => ⟨(off' p hp).1, (off' p hp).2.2.1, (off' p hp).2.2.2⟩) sub' (by rw [pre_next]; exact P')
      rcases List.mem_cons.mp hp with rfl | hp
      · exact Ne.symm ap.2.2.2.2.1
      · exact (off' p hp).2.1
  exact comp_in0 loop (W2.self 0 _ _ _ hJ (loop _ rfl))
end
end
end
section
open PySem PySem.W PyProof.Rows
set_option maxRecDepth 100000
set_option maxHeartbeats 8000000

section
variable {prog : Program} {w : World} {A : Around} {E : Value → Shared → Prop} {s : Shared} {h₀ : Heap} {L l : Addr} {m : Str → Option Value} {news : List (Addr × Obj)} {vs : List Value} {Q : Value → Shared → Prop}
theorem max_turns {I S : Addr} {R : Result → Shared → Prop} (bt : Nat → Nat → Bool) (hh : A.handled = none) (hm : (l, LCg.lst vs) ∈ news) (hlI : l ≠ I) (hSI : S ≠ I) (oI : ∀ p ∈ news, p.1 ≠ I) (oS : ∀ p ∈ news, p.1 ≠ S)
    (zL : L ≠ I ∧ L ≠ S) (z0 : h₀.get? I = none ∧ h₀.get? S = none)
    (gt : ∀ i j vi vj (s' : Shared), vs[i]? = some vi → vs[j]? = some vj → Fr h₀ L s'.heap m → News h₀ L s'.heap news → GtAt A.in1 s' vi vj (bt i j))
    (hR : ∀ v h' tk', vs[argBest bt (vs.length - 1)]? = some v → Fr h₀ L h' m → News h₀ L h' news → R (.ok (.ret v)) { s with heap := h', toks := tk' }) :
    ∀ (k j : Nat) (h : Heap) (tk : Nat) (vb : Value) (c : Nat), vs.length - (j + 1) = k → j + 1 ≤ vs.length → Fr h₀ L h m → News h₀ L h news → h.IsListIter I l (j + 1) → vs[argBest bt j]? = some vb →
      h.get? S = some { cls := .type "list", dict := none, data := .seq #[vb, vb] c, slots := #[] } →
      codeAny (model prog w) A (.builtin "max.loop" ⟨[.ref I, .none, .ref S], []⟩) R { s with heap := h, toks := tk } := by
  have hname : (toString "max" ++ toString ".loop" : String) = "max.loop" := by decide
  have W := Walks.list (prog := prog) (w := w) (A := A.in1) hh I l hlI vs.toArray
  have hsz : vs.toArray.size = vs.length := List.size_toArray ..
  have lis : ∀ h, News h₀ L h news → h.IsList l vs.toArray := fun h N => ⟨_, (N _ hm).1, rfl, _, rfl⟩
  intro k
  induction k with
  | zero =>
    intro j h tk vb c hk hj F N hit hvb hS
    have hin : j + 1 = vs.length := by omega
    refine codeAny_builtin PySem.F.entry_max_loop ?_
    rw [Around.under_plainId PySem.F.plain_max_loop _]
    show wpAny _ A.in1 (seqItems? (.ref S) >>= _) _ _ _
    refine wpAny_bind (wpAny_seqItems hS rfl ?_)
    show wpAny _ A.in1 (tryCatch (pyNext (.ref I)) _ >>= _) _ _ _
    refine wpAny_bind (wpAny_tryCatch (W.done _ _ _ ⟨by rw [hsz, ← hin]; exact hit, lis h N⟩ fun h' tk' hk' => ?_))
    have K : ∀ b o, b ≠ I → h.get? b = some o → h'.get? b = some o := fun b o hb e => hk' b o (by simpa using hb) e
    have hS' := K S _ hSI hS
    show wpAny _ A.in1 (updateSeq S (fun _ => #[]) >>= _) _ _ _
    refine wpAny_bind ?_
    refine wpAny_updateSeq hS' rfl (wpAny_bind (wpAny_letGo (wpAny_pure ?_)))
    have K2 : ∀ b o, b ≠ S → h'.get? b = some o → (h'.update S (Obj.mapSeq fun _ => (#[] : Array Value))).get? b = some o := fun b o hb e => (Heap.get?_update_other _ _ (Ne.symm hb)).trans e
    exact hR vb _ _ (by rw [← hin]; exact hvb) (fr_w (fr_w F K zL.1 z0.1) K2 zL.2 z0.2) (news_w (news_w N K oI) K2 oS)
  | succ k ih =>
    intro j h tk vb c hk hj F N hit hvb hS
    have hlt : j + 1 < vs.length := by omega
    refine codeAny_builtin PySem.F.entry_max_loop ?_
    rw [Around.under_plainId PySem.F.plain_max_loop _]
    show wpAny _ A.in1 (seqItems? (.ref S) >>= _) _ _ _
    refine wpAny_bind (wpAny_seqItems hS rfl ?_)
    show wpAny _ A.in1 (tryCatch (pyNext (.ref I)) _ >>= _) _ _ _
    refine wpAny_bind (wpAny_tryCatch (W.item (j + 1) _ _ _ (by rw [hsz]; exact hlt) ⟨hit, lis h N⟩ fun v h' tk' hP hst' hk' => ?_))
    have hv : vs[j + 1]? = some v := by simpa using hP
    have K : ∀ b o, b ≠ I → h.get? b = some o → h'.get? b = some o := fun b o hb e => hk' b o (by simpa using hb) e
    have hS' := K S _ hSI hS
    have F1 := fr_w F K zL.1 z0.1
    have N1 := news_w N K oI
    show wpAny _ A.in1 (tryCatch (holding [v, v] (richCompare .Gt v vb >>= _)) _ >>= _) _ _ _
    refine wpAny_bind (wpAny_tryCatch (wpAny_holding (wpAny_bind (gt (j + 1) (argBest bt j) v vb _ hv hvb F1 N1 _ _ _ _ ?_))))
    refine wpAny_bind (wpAny_holding (wpAny_truthy_bool ?_))
    refine wpAny_bind (wpAny_letGo (wpAny_pure ?_))
    cases hb : bt (j + 1) (argBest bt j) with
    | true =>
      simp only [if_true]
      refine wpAny_bind ?_
      refine wpAny_updateSeq hS' rfl (wpAny_bind (wpAny_letGo ?_))
      rw [hname]
      have K2 : ∀ b o, b ≠ S → h'.get? b = some o → (h'.update S (Obj.mapSeq fun _ => #[v, v])).get? b = some o := fun b o hb e => (Heap.get?_update_other _ _ (Ne.symm hb)).trans e
      obtain ⟨oI', hoI', hoc, hod⟩ := hst'.1
      refine wpAny_pure ⟨plainId_quiet PySem.F.plain_max_loop _, ih (j + 1) _ _ v _ (by omega) hlt (fr_w F1 K2 zL.2 z0.2) (news_w N1 K2 oS) ⟨oI', K2 _ _ (Ne.symm hSI) hoI', hoc, hod⟩ (by simp only [argBest, hb, if_true]; exact hv) (Heap.get?_update_self _ hS' rfl)⟩
    | false =>
      simp only [Bool.false_eq_true, if_false]
      refine wpAny_bind (wpAny_letGo ?_)
      rw [hname]
      exact wpAny_pure ⟨plainId_quiet PySem.F.plain_max_loop _, ih (j + 1) _ _ vb c (by omega) hlt F1 N1 hst'.1 (by simp only [argBest, hb, Bool.false_eq_true, if_false]; exact hvb) hS'⟩
theorem max_k (bt : Nat → Nat → Bool) (hh : A.handled = none) (F : Fr h₀ L s.heap m) (N : News h₀ L s.heap news) (hm : (l, LCg.lst vs) ∈ news) (hne : 0 < vs.length)
    (gt : ∀ i j vi vj (s' : Shared), vs[i]? = some vi → vs[j]? = some vj → Fr h₀ L s'.heap m → News h₀ L s'.heap news → GtAt A.in1 s' vi vj (bt i j))
    (hQ : ∀ v h' tk', vs[argBest bt (vs.length - 1)]? = some v → Fr h₀ L h' m → News h₀ L h' news → Q v { s with heap := h', toks := tk' }) :
    wpAny (model prog w) A (call (.builtin "max") [.ref l]) Q E s := by
  have hname : (toString "max" ++ toString ".loop" : String) = "max.loop" := by decide
  refine call_function_tree PySem.F.kind_max PySem.F.plain_max PySem.F.entry_max (PySem.F.args_max1 _) ?_
  show wpAny _ A.in1 (Builtin.Builtins.bindParams "max" ["key", "default"] 0 ⟨[], []⟩ >>= _) _ _ s
  refine wpAny_bind (wpAny_of_eq (show Builtin.Builtins.bindParams "max" ["key", "default"] 0 ⟨[], []⟩ = pure [none, none] from rfl) ?_)
  refine wpAny_bind (wpAny_pure ?_)
  have hl : s.heap.IsList l vs.toArray := ⟨_, (N _ hm).1, rfl, _, rfl⟩
  refine wpAny_bind (wpAny_pyIter_list hl ?_)
  refine wpAny_bind (wpAny_newObj_type ?_)
  rw [hname]
  have hll : l < s.heap.objs.size := by obtain ⟨_, e, _⟩ := hl; exact Heap.lt_size e
  have hlI : l ≠ s.heap.objs.size := Nat.ne_of_lt hll
  have F1 : Fr h₀ L (s.heap.push { cls := .type "list_iterator", data := .fields #[.ref l, .int 0 0] }) m := F.push _
  have N1 : News h₀ L (s.heap.push { cls := .type "list_iterator", data := .fields #[.ref l, .int 0 0] }) news := N.grown fun b x e => Heap.get?_push_of_some _ e
  have hI1 : (s.heap.push { cls := .type "list_iterator", data := .fields #[.ref l, .int 0 0] }).get? s.heap.objs.size = some { cls := .type "list_iterator", data := .fields #[.ref l, .int 0 0] } := Heap.get?_push_size _ rfl
  have zI := next_is_new F
  have oI : ∀ p ∈ news, p.1 ≠ s.heap.objs.size := fun p hp => Nat.ne_of_lt (Heap.lt_size (N p hp).1)
  have LI : L ≠ s.heap.objs.size := Nat.ne_of_lt F.ns.lt
  dsimp only
  generalize s.heap.push { cls := .type "list_iterator", data := .fields #[.ref l, .int 0 0] } = h1 at F1 N1 hI1 ⊢
  generalize s.heap.objs.size = I at *
  have F2 : Fr h₀ L (h1.push { cls := .type "list", dict := none, data := .seq ([] : List Value).toArray }) m := F1.push _
  have N2 : News h₀ L (h1.push { cls := .type "list", dict := none, data := .seq ([] : List Value).toArray }) news := N1.grown fun b x e => Heap.get?_push_of_some _ e
  have hI2 := Heap.get?_push_of_some { cls := .type "list", dict := none, data := .seq ([] : List Value).toArray } hI1
  have hS2 : (h1.push { cls := .type "list", dict := none, data := .seq ([] : List Value).toArray }).get? h1.objs.size = some { cls := .type "list", dict := none, data := .seq ([] : List Value).toArray } := Heap.get?_push_size _ rfl
  have zS := next_is_new F1
  have oS : ∀ p ∈ news, p.1 ≠ h1.objs.size := fun p hp => Nat.ne_of_lt (Heap.lt_size (N1 p hp).1)
  have LS : L ≠ h1.objs.size := Nat.ne_of_lt F1.ns.lt
  have hSI : h1.objs.size ≠ I := Nat.ne_of_gt (Heap.lt_size hI1)
  generalize h1.push { cls := .type "list", dict := none, data := .seq ([] : List Value).toArray } = h2 at F2 N2 hI2 hS2 ⊢
  generalize h1.objs.size = S at *
  refine wpAny_pure ⟨plainId_quiet PySem.F.plain_max_loop _, ?_⟩
  have W := Walks.list (prog := prog) (w := w) (A := A.in1) hh I l hlI vs.toArray
  refine codeAny_builtin PySem.F.entry_max_loop ?_
  rw [Around.under_plainId PySem.F.plain_max_loop _]
  show wpAny _ A.in1 (seqItems? (.ref S) >>= _) _ _ _
  refine wpAny_bind (wpAny_seqItems hS2 rfl ?_)
  show wpAny _ A.in1 (tryCatch (pyNext (.ref I)) _ >>= _) _ _ _
  refine wpAny_bind (wpAny_tryCatch (W.item 0 _ _ _ (by rw [List.size_toArray]; exact hne) ⟨⟨_, hI2, rfl, rfl⟩, ⟨_, (N2 _ hm).1, rfl, _, rfl⟩⟩ fun v h' tk' hP hst' hk' => ?_))
  have hv : vs[0]? = some v := by simpa using hP
  have K : ∀ b o, b ≠ I → h2.get? b = some o → h'.get? b = some o := fun b o hb e => hk' b o (by simpa using hb) e
  have hS' := K S _ hSI hS2
  show wpAny _ A.in1 (updateSeq S (fun _ => #[v, v]) >>= _) _ _ _
  refine wpAny_bind ?_
  refine wpAny_updateSeq hS' rfl ?_
  rw [hname]
  have K2 : ∀ b o, b ≠ S → h'.get? b = some o → (h'.update S (Obj.mapSeq fun _ => #[v, v])).get? b = some o := fun b o hb e => (Heap.get?_update_other _ _ (Ne.symm hb)).trans e
  obtain ⟨oI', hoI', hoc, hod⟩ := hst'.1
  exact wpAny_pure ⟨plainId_quiet PySem.F.plain_max_loop _, max_turns bt hh hm hlI hSI oI oS ⟨LI, LS⟩ ⟨zI, zS⟩ gt hQ _ 0 _ _ v _ rfl hne (fr_w (fr_w F2 K LI zI) K2 LS zS) (news_w (news_w N2 K oI) K2 oS) ⟨oI', K2 _ _ (Ne.symm hSI) hoI', hoc, hod⟩ hv (Heap.get?_update_self _ hS' rfl)⟩
end
end
section
open PySem PySem.W PyProof.Rows
set_option maxRecDepth 100000
set_option maxHeartbeats 8000000

section
open LCg
variable {prog : Program} {w : World} {A : Around} {E : Value → Shared → Prop} {s : Shared} {h₀ : Heap} {L : Addr} {m : Str → Option Value} {env : Env}
theorem block_N {elt it1 it2 : Expr} {x y : Str} {px py : Pos} {scope : Scope} {cl : List (Str × Addr)} {pos : Pos} {s₂ : Shared} {I : Addr} {news : List (Addr × Obj)} {RR : Value → Addr → Result → Shared → Prop}
    (hh : A.handled = none) (hcell : ∀ z ∈ scope.names, z.2 ≠ .cell) (hkind : scope.kind = .function) (hx : scope.names.lookup x = some .local) (hy : scope.names.lookup y = some .local) (hxy : x ≠ y)
    (hst : IsRangeIter s₂.heap I (1 + ((0 : Nat) : Int) * 1) (((6 : Nat) : Int) - ((0 : Nat) : Int)) 1)
    (F : Fr h₀ L s₂.heap m) (N : News h₀ L s₂.heap news) (hIL : L ≠ I) (hI₀ : h₀.get? I = none) (off : ∀ p ∈ news, p.1 ≠ I)
    (src : SrcN prog w A h₀ L m env it2 x scope cl) (el : EltN prog w A env elt x y scope cl)
    (hs : ∀ C v, foldedSetIterable it2 (compEnvC scope cl C env) v = pure v)
    (hRR : ∀ D C h tk m' ys news', Fr h₀ L h m → News h₀ L h ((D, lst ys) :: news') → (∀ p ∈ news', p.1 ≠ D) → h.Ns C m' → h₀.get? C = none → h₀.get? D = none → C ≠ L → D ≠ L → C ≠ D → (∀ p ∈ news', p.1 ≠ C) → (∀ p ∈ news, p ∈ news') →
      Paired (ItemAt news') ys (pre 6 0) → RR (.ref D) C (.ok .next) { s₂ with heap := h, toks := tk }) :
    wpAny (model prog w) A (newList []) (fun acc s₃ => wpAny (model prog w) A (newFunctionEnv scope env.globals cl [] env.qual none .none (some env)) (fun cenv s₄ =>
      codeAny (model prog w) A (.compStart (.ListComp elt [⟨.Name x px, it1, [], 0⟩, ⟨.Name y py, it2, [], 0⟩] scope pos) 0 (.ref I) acc { cenv with scope := relabel scope env }) (RR acc cenv.locals) s₄) E s₃) E s₂ := by
  refine wpAny_newObj_type (wpAny_newFunctionEnv hcell (by intro y hy; simp at hy) (fun h₁ hns₁ hsb₁ => ?_) hkind)
  dsimp only at hns₁ hsb₁ ⊢
  generalize hH2 : s₂.heap.push { cls := .type "list", dict := none, data := .seq ([] : List Value).toArray } = H2 at hns₁ hsb₁ ⊢
  have hC : H2.objs.size = s₂.heap.objs.size + 1 := by rw [← hH2, Heap.size_push]
  have hDC : s₂.heap.objs.size ≠ H2.objs.size := by rw [hC]; exact Nat.ne_of_lt (Nat.lt_succ_self _)
  have below : ∀ b, b < s₂.heap.objs.size → b ≠ H2.objs.size ∧ b ≠ s₂.heap.objs.size := fun b hb => ⟨by rw [hC]; exact Nat.ne_of_lt (Nat.lt_succ_of_lt hb), Nat.ne_of_lt hb⟩
  have hIlt : I < s₂.heap.objs.size := Heap.lt_size hst
  have old : ∀ b o, s₂.heap.get? b = some o → h₁.get? b = some o := fun b o e => hsb₁.extBut b o (below b (Heap.lt_size e)).1 (Heap.get?_push_of_some _ (hH2 ▸ Heap.get?_push_of_some _ e))
  have hacc : h₁.get? s₂.heap.objs.size = some (lst []) := hsb₁.extBut _ _ hDC (Heap.get?_push_of_some _ (hH2 ▸ Heap.get?_push_size _ rfl))
  have fresh₀ : ∀ a, s₂.heap.objs.size ≤ a → h₀.get? a = none := fun a ha => by
    cases e : h₀.get? a with
    | none => rfl
    | some o' => exact absurd (Heap.lt_size (F.keep a o' e)) (Nat.not_lt.mpr ha)
  have hD₀ : h₀.get? s₂.heap.objs.size = none := fresh₀ _ (Nat.le_refl _)
  have hC₀ : h₀.get? H2.objs.size = none := fresh₀ _ (by rw [hC]; exact Nat.le_succ _)
  have hLlt : L < s₂.heap.objs.size := F.ns.lt
  have hDL : s₂.heap.objs.size ≠ L := Ne.symm (below L hLlt).2
  have hCL : H2.objs.size ≠ L := Ne.symm (below L hLlt).1
  have hCI : I ≠ H2.objs.size := (below I hIlt).1
  have hDI : I ≠ s₂.heap.objs.size := (below I hIlt).2
  have W1 := range_walks (prog := prog) (w := w) (I := I) hh 1 6
  have loop : ∀ s₃ : Shared, s₃ = { s₂ with heap := h₁, toks := s₂.toks + ([] : List (Str × Value)).length } →
      codeAny (model prog w) A (.compLoop (.ListComp elt [⟨.Name x px, it1, [], 0⟩, ⟨.Name y py, it2, [], 0⟩] scope pos) 0 (.ref I) (.ref s₂.heap.objs.size) (compEnvC scope cl H2.objs.size env))
        (RR (.ref s₂.heap.objs.size) H2.objs.size) s₃ := by
    rintro s₃ rfl
    refine comp_out (fun k s' => ∃ h' tk i ys m' news', s' = { s₂ with heap := h', toks := tk } ∧ i ≤ 6 ∧ k = 7 - i ∧ IsRangeIter h' I (1 + ((i : Nat) : Int) * 1) (((6 : Nat) : Int) - ((i : Nat) : Int)) 1 ∧ Fr h₀ L h' m ∧ h'.Ns H2.objs.size m' ∧
        News h₀ L h' ((s₂.heap.objs.size, lst ys) :: news') ∧ (∀ p ∈ news', p.1 ≠ I ∧ p.1 ≠ H2.objs.size ∧ p.1 ≠ s₂.heap.objs.size) ∧ (∀ p ∈ news, p ∈ news') ∧ Paired (ItemAt news') ys (pre i 0)) ?_ 7
      ⟨h₁, _, 0, [], _, news, rfl, Nat.zero_le _, rfl, old _ _ hst, F.keeps old, hns₁, fun p hp => ?_, fun p hp => ⟨off p hp, below _ (Heap.lt_size (N p hp).1)⟩, fun p hp => hp, .nil⟩ (hs _)
    · rintro k s' ⟨h', tk, i, ys, m', news', rfl, hi, rfl, hst', F', hn', N', off', sub', P'⟩
      have oI : ∀ p ∈ (s₂.heap.objs.size, lst ys) :: news', p.1 ≠ I := fun p hp => by
        rcases List.mem_cons.mp hp with rfl | hp
        · exact Ne.symm hDI
        · exact (off' p hp).1
      have oC : ∀ p ∈ (s₂.heap.objs.size, lst ys) :: news', p.1 ≠ H2.objs.size := fun p hp => by
        rcases List.mem_cons.mp hp with rfl | hp
        · exact hDC
        · exact (off' p hp).2.1
      by_cases hlt : i < 6
      · refine W1.item i _ _ _ hlt hst' fun v h₂ tk₂ hPv hst₂ hk₂ => ?_
        obtain ⟨t, rfl⟩ := hPv
        have K2 : ∀ b o, b ≠ I → h'.get? b = some o → h₂.get? b = some o := fun b o hb e => hk₂ b o (by simpa using hb) e
        refine wpAny_assign_Name (wpAny_storeName_local (lookup_relabel_local hx) (hn'.at' fun o e => K2 _ o (Ne.symm hCI) e) (fun h₃ hn₃ hs₃ => ?_) (by simp [compEnvC, relabel, hkind]))
        have K3 : ∀ b o, b ≠ H2.objs.size → h₂.get? b = some o → h₃.get? b = some o := fun b o hb e => hs₃.extBut b o hb e
        have F3 := fr_w (fr_w F' K2 hIL hI₀) K3 (Ne.symm hCL) hC₀
        have N3 := news_w (news_w N' K2 oI) K3 oC
        have I3 := iter_w K3 hst₂ hCI
        obtain ⟨oC3, heC, hoC⟩ := ns_obj hn₃
        have NA : News h₀ L h₃ ((H2.objs.size, oC3) :: (I, { cls := .type "range_iterator", data := .fields #[rawInt (1 + ((i + 1 : Nat) : Int) * 1), rawInt (((6 : Nat) : Int) - ((i + 1 : Nat) : Int)), rawInt 1] }) :: (s₂.heap.objs.size, lst ys) :: news') := fun p hp => by
          rcases List.mem_cons.mp hp with rfl | hp
          · exact ⟨heC, hCL, hC₀⟩
          · rcases List.mem_cons.mp hp with rfl | hp
            · exact ⟨I3, Ne.symm hIL, hI₀⟩
            · exact N3 p hp
        refine src _ oC3 i t _ _ _ _ _ hlt hoC (by rw [if_pos rfl]) F3 NA (fun r u v w' h₄ tk₄ hr F4 N4 => ?_)
        have e1 : Builtin.Range.small 0 (1 + (i : Int)) 1 = true := by
          have : ∀ j < 6, Builtin.Range.small 0 (1 + ((j : Nat) : Int)) 1 = true := by decide +kernel
          exact this i hlt
        have e2 : Builtin.Range.rangeSize 0 (1 + (i : Int)) 1 = ((i + 1 : Nat) : Int) := by
          have : ∀ j < 6, Builtin.Range.rangeSize 0 (1 + ((j : Nat) : Int)) 1 = ((j + 1 : Nat) : Int) := by decide +kernel
          exact this i hlt
        refine wpAny_pyIter_range hr e1 ?_
        have up : ∀ b o, h₄.get? b = some o → (h₄.push { cls := .type "range_iterator", data := .fields #[rawInt 0, rawInt (Builtin.Range.rangeSize 0 (1 + (i : Int)) 1), rawInt 1] }).get? b = some o := fun b o e => Heap.get?_push_of_some _ e
        have J5 : (h₄.push { cls := .type "range_iterator", data := .fields #[rawInt 0, rawInt (Builtin.Range.rangeSize 0 (1 + (i : Int)) 1), rawInt 1] }).get? h₄.objs.size = some { cls := .type "range_iterator", data := .fields #[rawInt 0, rawInt (Builtin.Range.rangeSize 0 (1 + (i : Int)) 1), rawInt 1] } := Heap.get?_push_size _ rfl
        generalize h₄.push { cls := .type "range_iterator", data := .fields #[rawInt 0, rawInt (Builtin.Range.rangeSize 0 (1 + (i : Int)) 1), rawInt 1] } = h₅ at up J5 ⊢
        rw [e2] at J5
        have gC := N4 (H2.objs.size, oC3) (List.mem_cons_self ..)
        have gI := N4 _ (List.mem_cons_of_mem _ (List.mem_cons_self ..))
        have N4' : News h₀ L h₄ ((s₂.heap.objs.size, lst ys) :: news') := fun p hp => N4 p (List.mem_cons_of_mem _ (List.mem_cons_of_mem _ hp))
        have lt : ∀ {b o}, h₄.get? b = some o → @Ne Nat b h₄.objs.size := fun e => Nat.ne_of_lt (Heap.lt_size e)
        have gD := N4' _ (List.mem_cons_self ..)
        refine in_N (t := t) (m' := fun z => if z = x then some (.int (1 + (i : Int)) t) else m' z) (ys := ys) (news := news') (news₀ := news) (I := I) hh hkind hy hxy hlt el ?_ (up _ _ gI.1) (Fr.keeps F4 up) ((hoC.ns gC.1).keeps up) (by rw [if_pos rfl]) (News.grown N4' up)
          (fun p hp => ⟨(off' p hp).1, lt (N4' p (List.mem_cons_of_mem _ hp)).1, (off' p hp).2⟩) ⟨lt gI.1, hCI, hDI, Ne.symm (lt gC.1), Ne.symm (lt gD.1), Ne.symm hDC⟩ ⟨hIL, Nat.ne_of_lt F4.ns.lt, Ne.symm hCL, Ne.symm hDL⟩ ⟨hI₀, next_is_new F4, hC₀, hD₀⟩ sub' P' (fun h₆ tk₆ ys' news'' m'' st6 F6 hn6 N6 off6 sub6 P6 => ?_)
        · show h₅.get? h₄.objs.size = _
          rw [J5]
          simp [rawInt]
        · exact ⟨7 - (i + 1), by omega, h₆, tk₆, i + 1, ys', m'', news'', rfl, hlt, rfl, st6, F6, hn6, N6, off6, sub6, P6⟩
      · obtain rfl : i = 6 := Nat.le_antisymm hi (Nat.not_lt.mp hlt)
        refine W1.done _ _ _ hst' fun h₂ tk₂ hk₂ => ?_
        have K2 : ∀ b o, b ≠ I → h'.get? b = some o → h₂.get? b = some o := fun b o hb e => hk₂ b o (by simpa using hb) e
        exact hRR _ _ h₂ tk₂ _ ys news' (fr_w F' K2 hIL hI₀) (news_w N' K2 oI) (fun p hp => (off' p hp).2.2) (hn'.at' fun o e => K2 _ o (Ne.symm hCI) e) hC₀ hD₀ hCL hDL (Ne.symm hDC) (fun p hp => (off' p hp).2.1) sub' P'
    · rcases List.mem_cons.mp hp with rfl | hp
      · exact ⟨hacc, hDL, hD₀⟩
      · exact ⟨old _ _ (N p hp).1, (N p hp).2⟩
  exact codeAny_compStart_list (loop _ rfl) (W1.self 0 _ _ _ (old _ _ hst) (loop _ rfl))
end
end
section
open PySem PySem.W PyProof.Rows
set_option maxRecDepth 100000
set_option maxHeartbeats 8000000

section
open LCg
variable {prog : Program} {w : World} {A : Around} {E : Value → Shared → Prop} {s : Shared} {h₀ : Heap} {L : Addr} {m : Str → Option Value} {env : Env}
/-- the outer iterable: range(1, 7) -/
noncomputable def SrcO (h₀ : Heap) (L : Addr) (m : Str → Option Value) (news : List (Addr × Obj)) (s : Shared) (xv : Value) (s₁ : Shared) : Prop :=
  ∃ r t u v h' tk', xv = .ref r ∧ s₁ = { s with heap := h', toks := tk' } ∧ Fr h₀ L h' m ∧ News h₀ L h' news ∧ IsRange h' r 1 7 1 t u v
theorem Assign_N {elt it1 it2 : Expr} {x y z : Str} {px py pz : Pos} {scope : Scope} {cl : List (Str × Addr)} {pos spos : Pos} {Q : Flow → Shared → Prop} {news : List (Addr × Obj)} (hh : A.handled = none) (hLe : env.locals = L)
    (hsw : swapsWith (.ListComp elt [⟨.Name x px, it1, [], 0⟩, ⟨.Name y py, it2, [], 0⟩] scope pos) (some (.Name z pz)) spos.line env = pure true)
    (hclos : closureFor scope env = pure cl) (hcell : ∀ y ∈ scope.names, y.2 ≠ .cell) (hkind : scope.kind = .function)
    (hnames : ∀ y ∈ scope.names, y.2 = .local → scope.names.lookup y.1 = some .local) (hx : scope.names.lookup x = some .local) (hy : scope.names.lookup y = some .local) (hxy : x ≠ y)
    (hz : env.kindOf z = some .local) (hp : (env.scope.kind == .class || (env.scope.kind == .module && env.locals != env.globals)) = false)
    (h : wpAny (model prog w) A (eval it1 env) (SrcO h₀ L m news s) E s)
    (hs : ∀ x, foldedSetIterable it1 env x = pure x) (hs2 : ∀ C v, foldedSetIterable it2 (compEnvC scope cl C env) v = pure v)
    (src : SrcN prog w A h₀ L m env it2 x scope cl) (el : EltN prog w A env elt x y scope cl)
    (hret : ∀ D h' tk ys news' m', m' z = some (.ref D) → (∀ y, y ≠ z → m' y = m y) → Fr h₀ L h' m' → News h₀ L h' ((D, lst ys) :: news') → (∀ p ∈ news, p ∈ news') → Paired (ItemAt news') ys (pre 6 0) → Q .next { s with heap := h', toks := tk }) :
    wpAny (model prog w) A (exec (.Assign [.Name z pz] (.ListComp elt [⟨.Name x px, it1, [], 0⟩, ⟨.Name y py, it2, [], 0⟩] scope pos) spos) env) Q E s := by
  subst hLe
  rw [exec_Assign_Name_used _ _ _ _ hsw]
  refine wpAny_bind (wpAny_standAt (wpAny_bind ?_))
  show wpAny _ A (do let _ ← comprehension (.ListComp elt [⟨.Name x px, it1, [], 0⟩, ⟨.Name y py, it2, [], 0⟩] scope pos) scope env _ (newList []) false (eval it1 env) (some (assign (.Name z pz) env))) _ _ s
  refine wpAny_bind (wpAny_mono (wpAny_comprehension_free (use := some (assign (.Name z pz) env)) (Q := fun _ s' => Q .next s') rfl hs hclos hkind hnames
    (wpAny_mono h (fun xv s₁ h₁ => ?_) fun _ _ e => e)) (fun _ s' hq => wpAny_pure (wpAny_pure hq)) fun _ _ e => e)
  obtain ⟨r, t, u, v, h1, tk1, rfl, rfl, F, N, hr⟩ := h₁
  have hsm : Builtin.Range.small 1 7 1 = true := by decide +kernel
  have hn : Builtin.Range.rangeSize 1 7 1 = 6 := by decide +kernel
  refine wpAny_pyIter_range hr hsm ?_
  refine block_N hh hcell hkind hx hy hxy (by show IsRangeIter _ _ _ _ _; rw [hn]; simpa using Heap.get?_push_size _ rfl)
    (F.keeps fun _ _ e => Heap.get?_push_of_some _ e) (N.grown fun _ _ e => Heap.get?_push_of_some _ e) (Nat.ne_of_lt F.ns.lt) (next_is_new F) (fun p hp => Nat.ne_of_lt (Heap.lt_size (N p hp).1)) src el hs2 ?_
  intro D C h' tk m' ys news' F' N' oD hn' hC₀ hD₀ hCL hDL hCD offC sub P'
  show wpAny _ A (assign (.Name z pz) env (.ref D)) _ _ _
  refine wpAny_assign_Name (wpAny_storeName_local hz F'.ns (fun h₂ hn₂ hs₂ => ?_) hp)
  have hL₀ : h₀.get? env.locals = none := Heap.get?_none_of_le F'.above
  have F₂ : Fr h₀ env.locals h₂ (fun y => if y = z then some (.ref D) else m y) := ⟨hn₂, fun b o e => hs₂.extBut b o (fun q => by rw [q, hL₀] at e; cases e) (F'.keep b o e), F'.above⟩
  refine ⟨m', hn'.sameBut hs₂ hCL, fun h'' hs'' => hret D h'' _ ys news' _ (if_pos rfl) (fun y hy => if_neg hy) (F₂.change hs'' hCL hC₀) (fun p hp => ?_) sub P'⟩
  have zz : h₂.get? p.1 = some p.2 := hs₂.extBut _ _ (N' p hp).2.1 (N' p hp).1
  refine ⟨hs''.extBut _ _ ?_ zz, (N' p hp).2⟩
  rcases List.mem_cons.mp hp with rfl | hp
  · exact Ne.symm hCD
  · exact offC p hp
end
end
section
open PySem PySem.W PyProof.Rows
set_option maxRecDepth 100000
set_option maxHeartbeats 8000000

section
variable {w : World} {A : Around} {s : Shared} {Q E : Value → Shared → Prop} {h₀ : Heap} {L : Addr} {m : Str → Option Value} {news : List (Addr × Obj)}
theorem slice17 {value slice : PySem.Expr} {l : Addr} {n : Nat} {t u v : Tok} {k : Nat} (F : Fr h₀ L s.heap m) (N : News h₀ L s.heap news) (hl : (l, W.listOf #[.int 17 t, .int 75 u] k) ∈ news)
    (h : ∀ D ws h', Fr h₀ L h' m → News h₀ L h' ((D, W.listOf (List.toArray ws) 0) :: news) → (∀ p ∈ news, p.1 < D) → IntsAre ws (([17, 75] : List Int).drop n) → Q (.ref D) { s with heap := h' })
    (hs : subscripted slice false (.ref l) (.ref s.heap.objs.size) = operate [.ref s.heap.objs.size, .ref l] (getItem (.ref l) (.ref s.heap.objs.size))) (ht : ∀ r, letTemporaryGo value (.ref l) r = pure ()) :
    wpAny (model prg w) A (subscriptTail value slice (.ref l) (.ref s.heap.objs.size)) Q E { s with heap := s.heap.push { cls := .type "slice", data := .fields #[.int n v, .none, .none] } } :=
  kmk_slice_ints (vs := [.int 17 t, .int 75 u]) (ns := [17, 75]) (ms := ([17, 75] : List Int).drop n) (lo := some (n : Int)) (hi := none) F N ⟨_, (N _ hl).1, rfl, _, rfl⟩ (IsPart.int _ _) IsPart.none (.cons _ _ (.cons _ _ .nil))
    (by have := kmk_from (vs := [.int 17 t, .int 75 u]) (ns := [17, 75]) (x := (n : Int)) (.cons _ _ (.cons _ _ .nil)) (by omega); rwa [Int.toNat_natCast] at this) rfl (fun D ws h' F' N' l1 hi _ _ => h D ws h' F' N' l1 hi) hs ht (by show 2 ≤ _; rw [sizeLine_eq]; decide)
theorem slice17' {value slice : PySem.Expr} {l : Addr} {n : Nat} {t u v : Tok} {k : Nat} (F : Fr h₀ L s.heap m) (N : News h₀ L s.heap news) (hl : (l, W.listOf #[.int 17 t, .int 75 u] k) ∈ news)
    (h : ∀ D ws h', Fr h₀ L h' m → News h₀ L h' ((D, W.listOf (List.toArray ws) 0) :: news) → (∀ p ∈ news, p.1 < D) → IntsAre ws (([17, 75] : List Int).drop n) → Q (.ref D) { s with heap := h' })
    (hs : subscripted slice false (.ref l) (.ref s.heap.objs.size) = operate [.ref s.heap.objs.size, .ref l] (getItem (.ref l) (.ref s.heap.objs.size))) :
    wpAny (model prg w) A (subscriptTail value slice (.ref l) (.ref s.heap.objs.size)) Q E { s with heap := s.heap.push { cls := .type "slice", data := .fields #[.int n v, .none, .none] } } :=
  kba_turn (value' := .Name (Str.ofString "x") ⟨0, 0, 0, 0⟩) (fun _ => rfl) (slice17 F N hl h hs (fun _ => rfl))
theorem two_ints {us : List Value} {ns : List Int} (h : IntsAre us (ns.take 2 ++ ([17, 75] : List Int).drop ns.length)) : ∃ a b t u, us = [.int a t, .int b u] := by
  match ns with
  | [] => cases h with | cons _ _ h => cases h with | cons _ _ h => cases h; exact ⟨_, _, _, _, rfl⟩
  | [x] => cases h with | cons _ _ h => cases h with | cons _ _ h => cases h; exact ⟨_, _, _, _, rfl⟩
  | x :: y :: r =>
    have e : (x :: y :: r).take 2 ++ ([17, 75] : List Int).drop (x :: y :: r).length = [x, y] := by
      simp
    rw [e] at h
    cases h with | cons _ _ h => cases h with | cons _ _ h => cases h; exact ⟨_, _, _, _, rfl⟩
theorem add2_k {a b : Addr} {vs ws : List Value} {ns : List Int} (F : Fr h₀ L s.heap m) (N : News h₀ L s.heap news) (ha : s.heap.IsList a vs.toArray) (hb : s.heap.IsList b ws.toArray) (hi : IntsAre vs (ns.take 2)) (hj : IntsAre ws (([17, 75] : List Int).drop ns.length))
    (h : ∀ D x y t u h', Fr h₀ L h' m → News h₀ L h' ((D, W.listOf #[.int x t, .int y u] 0) :: news) → (∀ p ∈ news, p.1 < D) → Q (.ref D) { s with heap := h' }) :
    wpAny (model prg w) A (binaryOp .Add (.ref a) (.ref b)) Q E s :=
  kmk_add_ints F N ha hb hi hj (fun D us h' F' N' l1 hu => by
    obtain ⟨x, y, t, u, rfl⟩ := two_ints hu
    exact h D x y t u h' F' N' l1) (by rw [List.length_take, List.length_drop, sizeLine_eq]; simp; omega)
end
/-- a drawn pair's number: one more than r, g, nought, times a unit -/
noncomputable def Start (X Y Z : Int) : Prop := ∃ r g k : Int, (1 ≤ r ∧ r ≤ 6) ∧ (0 ≤ g ∧ g ≤ 5) ∧ (0 ≤ k ∧ k < 6) ∧ X = r * xi k + g * zi k ∧ Y = r * yi k + g * xi k ∧ Z = r * zi k + g * yi k
theorem Start.small {X Y Z : Int} (h : Start X Y Z) : (0 ≤ X ∧ X < 20) ∧ (0 ≤ Y ∧ Y < 20) ∧ (0 ≤ Z ∧ Z < 20) := by
  obtain ⟨r, g, k, hr, hg, hk, rfl, rfl, rfl⟩ := h
  have hk6 : k = 0 ∨ k = 1 ∨ k = 2 ∨ k = 3 ∨ k = 4 ∨ k = 5 := by omega
  unfold xi yi zi
  rcases hk6 with rfl | rfl | rfl | rfl | rfl | rfl <;> simp <;> omega
section
variable {w : World} {mean : ExcName → Option Value} {mg mb : Str → Option Value} {dp un : Nat} {gd : Option (List Code)} {cn : Str} {cs : Scope} {fa : Addr} {ccd : Value} {cl : List (Str × Addr)} {outer : List Env} {A A₀ : Around} {base h₀ : Heap} {L : Addr} {m : Str → Option Value} {s : Shared} {Q E : Value → Shared → Prop} {news : List (Addr × Obj)}

theorem times_w {l : Addr} {v : Int} {tr tg tb n t : Nat} (B : Below A₀ base outer h₀) (F : Fr h₀ L s.heap m) (X : (hd.heap_39 w.params).In h₀) (N : News h₀ L s.heap news) (T : Top topProg lo mean mg mb h₀) (hk : cs.kind = .function) (hv : 0 ≤ v ∧ v < 216)
  (hm : (l, W.listOf #[.int (1 + v.fmod 6) tr, .int ((v.fdiv 6).fmod 6) tg, .int 0 tb] n) ∈ news)
  (hdp : dp < 790) (hun : un < 7900)
  (hret : ∀ (X Y Z : Int), Start X Y Z → (0 ≤ X ∧ X < 20) → (0 ≤ Y ∧ Y < 20) → (0 ≤ Z ∧ Z < 20) →
    ∀ (D : Addr) (t t' t'' : Tok) (h' : Heap) (tk' : Nat), Fr h₀ L h' m → News h₀ L h' ((D, W.listOf #[.int X t, .int Y t', .int Z t''] 0) :: news) → LCg.Off1 D news → Q (.ref D) { s with heap := h', toks := tk' }) :
  wpAny (model prg w) (ktrTop dp un gd cn cs L fa ccd cl outer) (call (.ref 116) [.ref l, .int (v.fdiv 36) t]) Q E s := by
  have e1 : v.fmod 6 = v % 6 := Int.fmod_eq_emod_of_nonneg _ (by decide)
  have e2 : v.fdiv 6 = v / 6 := Int.fdiv_eq_ediv_of_nonneg _ (by decide)
  have e3 : v.fdiv 36 = v / 36 := Int.fdiv_eq_ediv_of_nonneg _ (by decide)
  have e4 : (v.fdiv 6).fmod 6 = (v.fdiv 6) % 6 := Int.fmod_eq_emod_of_nonneg _ (by decide)
  have h1 : 1 ≤ 1 + v.fmod 6 ∧ 1 + v.fmod 6 ≤ 6 := by omega
  have h2 : 0 ≤ (v.fdiv 6).fmod 6 ∧ (v.fdiv 6).fmod 6 ≤ 5 := by omega
  have h3 : 0 ≤ v.fdiv 36 ∧ v.fdiv 36 < 6 := by omega
  refine times_k B F X N T hk hm (by omega) (by omega) (by omega) h3.1 h3.2 hdp hun (fun D t t' t'' h' tk' F' N' o' => ?_)
  have hs : Start ((1 + v.fmod 6) * xi (v.fdiv 36) + (v.fdiv 6).fmod 6 * zi (v.fdiv 36) + 0 * yi (v.fdiv 36)) ((1 + v.fmod 6) * yi (v.fdiv 36) + (v.fdiv 6).fmod 6 * xi (v.fdiv 36) + 0 * zi (v.fdiv 36)) ((1 + v.fmod 6) * zi (v.fdiv 36) + 0 * xi (v.fdiv 36) + (v.fdiv 6).fmod 6 * yi (v.fdiv 36)) :=
    ⟨_, _, _, h1, h2, h3, by rw [Int.zero_mul, Int.add_zero], by rw [Int.zero_mul, Int.add_zero], by rw [Int.zero_mul, Int.add_zero]⟩
  exact hret _ _ _ hs hs.small.1 hs.small.2.1 hs.small.2.2 D t t' t'' h' tk' F' N' o'
theorem fmod216 (x : Int) : 0 ≤ x.fmod 216 ∧ x.fmod 216 < 216 := by
  rw [Int.fmod_eq_emod_of_nonneg _ (by decide)]
  omega
theorem times_x {l : Addr} {x : Int} {tr tg tb n t : Nat}
  (B : Below A₀ base outer h₀) (F : Fr h₀ L s.heap m) (X : (hd.heap_39 w.params).In h₀)
  (N : News h₀ L s.heap ((l, W.listOf #[.int (1 + (x.fmod 216).fmod 6) tr, .int (((x.fmod 216).fdiv 6).fmod 6) tg, .int 0 tb] n) :: news)) (T : Top topProg lo mean mg mb h₀) (hk : cs.kind = .function)
  (hdp : dp < 790) (hun : un < 7900)
  (hret : ∀ (X Y Z : Int), Start X Y Z → (0 ≤ X ∧ X < 20) → (0 ≤ Y ∧ Y < 20) → (0 ≤ Z ∧ Z < 20) →
    ∀ (D : Addr) (t t' t'' : Tok) (h' : Heap) (tk' : Nat), Fr h₀ L h' m → News h₀ L h' ((D, W.listOf #[.int X t, .int Y t', .int Z t''] 0) :: news) → LCg.Off1 D news → Q (.ref D) { s with heap := h', toks := tk' }) :
  wpAny (model prg w) (ktrTop dp un gd cn cs L fa ccd cl outer) (call (.ref 116) [.ref l, .int ((x.fmod 216).fdiv 36) t]) Q E s :=
  times_w B F X N T hk (fmod216 x) (List.mem_cons_self ..) hdp hun (fun X Y Z h1 h2 h3 h4 D t t' t'' h' tk' F' N' o' => hret X Y Z h1 h2 h3 h4 D t t' t'' h' tk' F' (news_sub N' (fun p hp => by
    rcases List.mem_cons.mp hp with rfl | hp
    · exact List.mem_cons_self ..
    · exact List.mem_cons_of_mem _ (List.mem_cons_of_mem _ hp))) o'.2)
end
end
section
open PySem PySem.W PyProof.Rows
set_option maxRecDepth 100000
set_option maxHeartbeats 8000000


noncomputable abbrev lawSc : Scope := { kind := ScopeKind.function, names := [(Str.ofString "script", NameKind.local), (Str.ofString "drawn", NameKind.local), (Str.ofString "pair", NameKind.cell), (Str.ofString "measure", NameKind.cell), (Str.ofString "some", NameKind.local), (Str.ofString "both", NameKind.local), (Str.ofString "whole", NameKind.local), (Str.ofString "turned", NameKind.cell), (Str.ofString "len", NameKind.globalImplicit), (Str.ofString "_law_measure", NameKind.globalImplicit), (Str.ofString "_law_lexer", NameKind.globalImplicit), (Str.ofString "range", NameKind.globalImplicit), (Str.ofString "int", NameKind.globalImplicit), (Str.ofString "rgb_to_hsv", NameKind.globalImplicit), (Str.ofString "_law_times", NameKind.globalImplicit), (Str.ofString "max", NameKind.globalImplicit)], isGenerator := false, isCoroutine := false, more := [(Str.ofString "fast", Const.str (Str.ofString "script")), (Str.ofString "fast", Const.str (Str.ofString "v")), (Str.ofString "fast", Const.str (Str.ofString "drawn")), (Str.ofString "fast", Const.str (Str.ofString "pair")), (Str.ofString "fast", Const.str (Str.ofString "parts")), (Str.ofString "fast", Const.str (Str.ofString "measure")), (Str.ofString "fast", Const.str (Str.ofString "red")), (Str.ofString "fast", Const.str (Str.ofString "green")), (Str.ofString "fast", Const.str (Str.ofString "some")), (Str.ofString "fast", Const.str (Str.ofString "one")), (Str.ofString "fast", Const.str (Str.ofString "both")), (Str.ofString "fast", Const.str (Str.ofString "whole")), (Str.ofString "fast", Const.str (Str.ofString "turned")), (Str.ofString "fast", Const.str (Str.ofString "part"))] }
noncomputable abbrev lawEnv (L fa : Addr) (cd : Value) : Env := envOfC (Str.ofString "law") lawSc L fa cd
theorem fr_at {h₀ h : Heap} {L : Addr} {m : Str → Option Value} {x : Str} {v : Value} (F : Fr h₀ L h m) (e : m x = some v) : Fr h₀ L h (fun z => if z = x then some v else m z) := by
  have : (fun z => if z = x then some v else m z) = m := by
    funext z
    by_cases q : z = x
    · rw [if_pos q, q, e]
    · rw [if_neg q]
  rw [this]; exact F
/-- a statement's end, by name -/
noncomputable def EndS (Q : Flow → Shared → Prop) (f : Flow) (s : Shared) : Prop := Q f s
theorem by_end {M : Model} {A : Around} {t : Sem Flow} {Q : Flow → Shared → Prop} {E : Value → Shared → Prop} {s : Shared} (h : wpAny M A t (EndS Q) E s) : wpAny M A t Q E s := h
theorem storeC_k {M : Model} {A : Around} {E : Value → Shared → Prop} {s : Shared} {h₀ : Heap} {L fa : Addr} {m : Str → Option Value} {cn : Str} {sc : Scope} {cd : Value} {x : Str} {v : Value} {Q : Unit → Shared → Prop} {news : List (Addr × Obj)} {c : Addr} {o : Obj} {v₀ : Option Value} (rest : List (Addr × Obj))
    (F : Fr h₀ L s.heap m) (N : News h₀ L s.heap news) (hc : (cellsFrom (L + 1) sc.names []).lookup x = some c) (hm : (c, o) ∈ news) (hd : o.data = .cell v₀) (hs : ∀ p ∈ rest, p ∈ news ∧ (p.1 ≠ c ∨ ∀ u, p.2.data ≠ .cell u))
    (h : ∀ h' o', o'.data = .cell (some v) → Fr h₀ L h' m → News h₀ L h' ((c, o') :: rest) → Q () { s with heap := h' })
    (hk : sc.kind = .function) (hx : (envOfC cn sc L fa cd).kindOf x = some .cell) : wpAny M A (storeName (envOfC cn sc L fa cd) x v) Q E s := by
  have hmem := N (c, o) hm
  refine wpAny_storeName_cell hk hx hc ⟨o, hmem.1, hd⟩ fun h' hv hb => ?_
  obtain ⟨o', ho', hd'⟩ := hv
  refine h h' o' hd' ⟨F.ns.sameBut hb (Ne.symm hmem.2.1), fun b ob e => (hb.2 b (fun q => ?_)).trans (F.keep b ob e), F.above⟩ fun p hp => ?_
  · rw [q, hmem.2.2] at e; cases e
  · rcases List.mem_cons.mp hp with rfl | hp
    · exact ⟨ho', hmem.2⟩
    · obtain ⟨h1, h2⟩ := hs p hp
      have z := N p h1
      refine ⟨(hb.2 p.1 ?_).trans z.1, z.2⟩
      rcases h2 with h2 | h2
      · exact h2
      · intro e
        have := z.1
        rw [e, hmem.1] at this
        cases this
        exact h2 _ hd
theorem nc_seq {a : Array Value} {n : Nat} : ∀ u, Data.seq a n ≠ Data.cell u := fun _ h => nomatch h
theorem nc_fields {a : Array Value} : ∀ u, Data.fields a ≠ Data.cell u := fun _ h => nomatch h
theorem c12 {L : Nat} : L + 1 ≠ L + 1 + 1 := by omega
theorem c13 {L : Nat} : L + 1 ≠ L + 1 + 1 + 1 := by omega
theorem c21 {L : Nat} : L + 1 + 1 ≠ L + 1 := by omega
theorem c31 {L : Nat} : L + 1 + 1 + 1 ≠ L + 1 := by omega
theorem c32 {L : Nat} : L + 1 + 1 + 1 ≠ L + 1 + 1 := by omega
theorem c23 {L : Nat} : L + 1 + 1 ≠ L + 1 + 1 + 1 := by omega
section
variable {w : World} {mean : ExcName → Option Value} {mg mb : Str → Option Value} {h₀ : Heap} {L fa : Addr} {cd : Value} {m : Str → Option Value} {s : Shared} {Q : Flow → Shared → Prop} {E : Value → Shared → Prop} {o1 o2 o3 : Obj}
theorem st_pair {p1 p2 p3 p4 p5 p6 p7 p8 p9 p10 p11 p12 p13 p14 p15 p16 p17 p18 p19 p20 p21 p22 : Pos} {k1 k2 k3 k4 k5 k6 : Nat} {D : Addr} {x y : Int} {tx ty : Nat}
  (B : Below callerA h₀ [] h₀) (X : (hd.heap_39 w.params).In h₀) (T : Top topProg lo mean mg mb h₀) (F : Fr h₀ L s.heap m) (hm : m (Str.ofString "drawn") = some (.ref D))
  (N : News h₀ L s.heap [(D, LCg.lst [.int (x.fmod 216) tx, .int (y.fmod 216) ty]), (L + 1, o1), (L + 1 + 1, o2), (L + 1 + 1 + 1, o3), (106, tabObj #[])]) (d1 : o1.data = .cell none)
  (hret : ∀ (X₁ Y₁ Z₁ X₂ Y₂ Z₂ : Int) (P a b : Addr) (t1 t2 t3 t4 t5 t6 n1 n2 : Nat) (o1' : Obj) (m' : Str → Option Value) (h' : Heap) (tk' : Nat), Start X₁ Y₁ Z₁ → Start X₂ Y₂ Z₂ → o1'.data = .cell (some (.ref P)) → Fr h₀ L h' m' →
    News h₀ L h' [(P, LCg.lst [.ref a, .ref b]), (a, L3 X₁ Y₁ Z₁ t1 t2 t3 n1), (b, L3 X₂ Y₂ Z₂ t4 t5 t6 n2), (L + 1, o1'), (L + 1 + 1, o2), (L + 1 + 1 + 1, o3), (106, tabObj #[])] → Q .next { s with heap := h', toks := tk' }) :
  wpAny (model prg w) (callerA.deeper (lawEnv L fa cd)) (exec (.Assign [.Name (Str.ofString "pair") p1] (.ListComp (.Call (.Name (Str.ofString "_law_times") p2) [.List [.BinOp (.Constant (.int 1) k1 p3) .Add (.BinOp (.Name (Str.ofString "v") p4) .Mod (.Constant (.int 6) k2 p5) p6) p7,
    .BinOp (.BinOp (.Name (Str.ofString "v") p8) .FloorDiv (.Constant (.int 6) k3 p9) p10) .Mod (.Constant (.int 6) k4 p11) p12, .Constant (.int 0) k5 p13] p14, .BinOp (.Name (Str.ofString "v") p15) .FloorDiv (.Constant (.int 36) k6 p16) p17] [] p18)
    [⟨.Name (Str.ofString "v") p19, .Name (Str.ofString "drawn") p20, [], 0⟩] { kind := .function, names := [(Str.ofString ".0", .local), (Str.ofString "v", .local), (Str.ofString "_law_times", .globalImplicit)], isGenerator := false, isCoroutine := false } p21) p22) (lawEnv L fa cd)) Q E s := by
  replace F := fr_at F hm
  refine by_end ?_
  w_top off
  k_with_none
  k_with "exec Assign cons ListComp" => (k_here; k_dflt (first | refine wpAny_Assign_Name (hs := by with_unfolding_all rfl) ?_ | (refine LCg.Assign_ListComp_U (F₀ := by k_asm) (by rfl) (by with_unfolding_all rfl) (by rfl) (by decide) (by rfl) (by decide) (by rfl) (by rfl) (by rfl) ?_)))
  k_with "eval ListComp" => (k_here; (with_reducible show wpAny _ _ (eval (Expr.ListComp _ _ _ _) _) _ _ _); k_dflt (refine LCg.ListComp_U (F₀ := by k_asm) (by with_unfolding_all rfl) (by decide) (by rfl) (by decide) (by rfl) ?_))
  k_with "CompSrc" => (k_here; k_dflt (refine LCg.CompSrc.ledger (by rfl) (by k_asm) (by k_asm) (by k_mem) (by exact Nat.le_of_ble_eq_true rfl) ?_; intro g'; lcg_lit))
  k_with "CompRest" => (with_unfolding_all first | (refine LCg.CompRest.succ ?_; intro v' I' oI' C' oC' D' m' h' tk' E' hv' hC' hx' F' N' off' ne'; (first | lcg_open hv' | (obtain ⟨t9', hv9'⟩ := hv'; subst hv9'))) | refine LCg.CompRest.zero ?_)
  k_with "CompEnd" => (k_dflt (first | refine cend0 (by k_asm) (by k_asm) (by assumption) (by lcg_src) ?_ | refine cend1 (by k_asm) (by k_asm) (by assumption) (by assumption) (by lcg_src) ?_))
  k_with "call ref" => (k_here; (with_reducible show wpAny _ _ (call (Value.ref 128) _) _ _ _); k_dflt (refine' mail_k ?q79k1 ?q79k2 ?q79k3 ?q79k4 ?q79k5 ?q79k6 ?q79k6b ?q79k7 ?q79k8 ?q79k9 ?q79k10 ?q79k11 ?_; (case q79k1 => k_asm); (case q79k2 => k_asm); (case q79k3 => k_asm); (case q79k4 => k_asm); (case q79k5 => k_asm); (case q79k6 => first | exact rfl | assumption); (case q79k6b => k_mem); (case q79k7 => omega); (case q79k8 => omega); (case q79k9 => omega); (case q79k10 => (first | exact Nat.lt_of_lt_of_le (Nat.add_lt_add_right hdp _) (by decide) | exact Nat.lt_of_lt_of_le hdp (by decide) | omega | ((try simp only [depth_under_make, depth_under_kw, depth_in1, depth_deeper, depth_caller]); (try dsimp only [ktrTop]); omega))); (case q79k11 => (first | exact Nat.lt_of_lt_of_le (Nat.add_lt_add_right hun _) (by decide) | exact Nat.lt_of_lt_of_le hun (by decide) | omega | ((try simp only [units_in1, units_deeper, Around.mark_units, units_caller]); (try dsimp only [ktrTop]); omega)))); intro t9 h9 tk9 F9 N9; (try dsimp only); (try k_fold))
  k_with "call ref" => (k_here; (with_reducible show wpAny _ _ (call (Value.ref 116) [Value.ref _, Value.int _ _]) _ _ _); k_dflt (refine' times_x ?q80k1 ?q80k2 ?q80k3 ?q80k4 ?q80k5 ?q80k6 ?q80k9 ?q80k10 ?_; (case q80k1 => k_asm); (case q80k2 => k_asm); (case q80k3 => k_asm); (case q80k4 => k_asm); (case q80k5 => k_asm); (case q80k6 => first | exact rfl | assumption); (case q80k9 => (first | exact Nat.lt_of_lt_of_le (Nat.add_lt_add_right hdp _) (by decide) | exact Nat.lt_of_lt_of_le hdp (by decide) | omega | ((try simp only [depth_under_make, depth_under_kw, depth_in1, depth_deeper, depth_caller]); (try dsimp only [ktrTop]); omega))); (case q80k10 => (first | exact Nat.lt_of_lt_of_le (Nat.add_lt_add_right hun _) (by decide) | exact Nat.lt_of_lt_of_le hun (by decide) | omega | ((try simp only [units_in1, units_deeper, Around.mark_units, units_caller]); (try dsimp only [ktrTop]); omega)))); intro X9 Y9 Z9 hX9 bX9 bY9 bZ9 D9 t9 u9 v9 h9 tk9 F9 N9 o9; (have p9 := o9); (try simp only [LCg.Off1, and_true] at p9); (try dsimp only); (try k_fold))
  k_with "mine oth" => first | exact List.forall_mem_nil _ | (refine' List.forall_mem_cons.mpr ⟨⟨?q81zo1, ?q81zo2⟩, ?q81zo3⟩; (case q81zo1 => k_mem); (case q81zo2 => first | exact Or.inr nc_seq | exact Or.inr nc_fields | exact Or.inl c12 | exact Or.inl c13 | exact Or.inl c21 | exact Or.inl c23 | exact Or.inl c31 | exact Or.inl c32); (case q81zo3 => walk_at "mine oth"))
  k_with "storeName" => (k_here; k_dflt (refine' storeC_k [(_, LCg.lst [.ref ?q82zra, .ref ?q82zrb]), (?q82zra, L3 _ _ _ _ _ _ _), (?q82zrb, L3 _ _ _ _ _ _ _), (L + 1 + 1, _), (L + 1 + 1 + 1, _), (106, tabObj _)] ?q82zcF ?q82zcN ?q82zcl ?q82zcm ?q82zcd ?q82zcs ?_ ?q82zck ?q82zcx; (case q82zck => rfl); (case q82zcx => rfl); (case q82zcF => k_asm); (case q82zcN => k_asm); (case q82zcl => rfl); (case q82zcm => k_mem); (case q82zcd => assumption); (case q82zcs => walk_at "mine oth")); intro h9 o9 d9 F9 N9; (try dsimp only))
  k_with "EndS" => ((with_reducible show EndS _ _ _); k_dflt (refine' hret _ _ _ _ _ _ _ _ _ _ _ _ _ _ _ _ _ _ _ _ _ ?q83zh1 ?q83zh2 ?q83zh3 ?q83zh4 ?q83zh5; (case q83zh4 => k_asm); (case q83zh5 => (first | k_asm | (refine' news_sub ?q83n1 ?q83n2; (case q83n1 => k_asm); (case q83n2 => kcj_all)))); (case q83zh1 => assumption); (case q83zh2 => assumption); (case q83zh3 => assumption)))
  k_steps
end
end
section
open PySem PySem.W PyProof.Rows
set_option maxRecDepth 100000
set_option maxHeartbeats 8000000


/-- a value's end, by name -/
noncomputable def EndV (Q : Value → Shared → Prop) (v : Value) (s : Shared) : Prop := Q v s
theorem by_endV {M : Model} {A : Around} {t : Sem Value} {Q : Value → Shared → Prop} {E : Value → Shared → Prop} {s : Shared} (h : wpAny M A t (EndV Q) E s) : wpAny M A t Q E s := h
noncomputable abbrev someSc : Scope := { kind := .function, names := [(Str.ofString ".0", .local), (Str.ofString "red", .local), (Str.ofString "green", .local), (Str.ofString "range", .globalImplicit)], isGenerator := false, isCoroutine := false }
section
variable {w : World} {mean : ExcName → Option Value} {mg mb : Str → Option Value} {h₀ : Heap} {L fa : Addr} {cd : Value} {m : Str → Option Value} {s : Shared} {Q : Flow → Shared → Prop} {E : Value → Shared → Prop} {o1 o2 o3 : Obj}
theorem src_law {A : Around} {p1 p2 p3 : Pos} (X : (hd.heap_39 w.params).In h₀) (T : Top topProg lo mean mg mb h₀) (hh : A.handled = none) : SrcN prg w A h₀ L m (lawEnv L fa cd) (.Call (.Name (Str.ofString "range") p1) [.Name (Str.ofString "red") p2] [] p3) (Str.ofString "red") someSc [] := by
  intro C oC i t m₂ nw s₃ Q' E' hi hC hx F N hret
  refine by_endV ?_
  w_top off
  k_with_none
  k_with "EndV" => ((with_reducible show EndV _ _ _); k_dflt (refine' hret _ _ _ _ _ _ ?q84zh1 ?q84zh2 ?q84zh3; (case q84zh1 => assumption); (case q84zh2 => k_asm); (case q84zh3 => (first | k_asm | (refine' news_sub ?q84n1 ?q84n2; (case q84n1 => k_asm); (case q84n2 => kcj_all))))))
  k_steps
theorem elt_law {A : Around} {p1 p2 p3 p4 : Pos} {k : Nat} : EltN prg w A (lawEnv L fa cd) (.List [.Name (Str.ofString "red") p1, .Name (Str.ofString "green") p2, .Constant (.int 0) k p3] p4) (Str.ofString "red") (Str.ofString "green") someSc [] := by
  intro C i j t u m₂ s₃ Q' E' hn hx hy hret
  refine wpAny_List (wpAny_items_cons (ldVarK hn hx (wpAny_items_cons (ldVarK hn hy (wpAny_items_cons (wpAny_Constant_int (wpAny_items_nil ⟨?_, ?_⟩)))))))
  · exact Nat.le_of_ble_eq_true rfl
  · exact hret _ _ _ _
theorem rng_law {news : List (Addr × Obj)} {p1 p2 p3 p4 : Pos} {k1 k2 : Nat} (X : (hd.heap_39 w.params).In h₀) (T : Top topProg lo mean mg mb h₀) (B : Below callerA h₀ [] h₀) (F : Fr h₀ L s.heap m) (N : News h₀ L s.heap news) :
    wpAny (model prg w) (callerA.deeper (lawEnv L fa cd)) (eval (.Call (.Name (Str.ofString "range") p1) [.Constant (.int 1) k1 p2, .Constant (.int 7) k2 p3] [] p4) (lawEnv L fa cd)) (SrcO h₀ L m news s) E s := by
  w_top off
  k_with_none
  k_with "EndV" => ((with_reducible show EndV _ _ _); k_dflt (refine' hret _ _ _ _ _ _ ?q84zh1 ?q84zh2 ?q84zh3; (case q84zh1 => assumption); (case q84zh2 => k_asm); (case q84zh3 => (first | k_asm | (refine' news_sub ?q84n1 ?q84n2; (case q84n1 => k_asm); (case q84n2 => kcj_all))))))
  k_with "SrcO" => ((with_reducible show SrcO _ _ _ _ _ _ _); k_dflt (refine' ⟨_, _, _, _, _, _, rfl, rfl, ?q85zh1, ?q85zh2, ?q85zh3⟩; (case q85zh1 => k_asm); (case q85zh2 => (first | k_asm | (refine' news_sub ?q85n1 ?q85n2; (case q85n1 => k_asm); (case q85n2 => kcj_all)))); (case q85zh3 => assumption)))
  k_steps
theorem st_some {news : List (Addr × Obj)} {p1 p2 p3 p4 p5 p6 p7 p8 p9 p10 p11 p12 p13 p14 : Pos} {k1 k2 k3 : Nat} (X : (hd.heap_39 w.params).In h₀) (T : Top topProg lo mean mg mb h₀) (B : Below callerA h₀ [] h₀) (F : Fr h₀ L s.heap m) (N : News h₀ L s.heap news)
  (hret : ∀ D h' tk ys news' m', m' (Str.ofString "some") = some (.ref D) → (∀ y, y ≠ Str.ofString "some" → m' y = m y) → Fr h₀ L h' m' → News h₀ L h' ((D, LCg.lst ys) :: news') → (∀ p ∈ news, p ∈ news') → Paired (ItemAt news') ys (pre 6 0) → Q .next { s with heap := h', toks := tk }) :
  wpAny (model prg w) (callerA.deeper (lawEnv L fa cd)) (exec (.Assign [.Name (Str.ofString "some") ⟨141, 4, 141, 8⟩] (.ListComp (.List [.Name (Str.ofString "red") p1, .Name (Str.ofString "green") p2, .Constant (.int 0) k1 p3] p4)
    [⟨.Name (Str.ofString "red") p5, .Call (.Name (Str.ofString "range") p6) [.Constant (.int 1) k2 p7, .Constant (.int 7) k3 p8] [] p9, [], 0⟩, ⟨.Name (Str.ofString "green") p10, .Call (.Name (Str.ofString "range") p11) [.Name (Str.ofString "red") p12] [] p13, [], 0⟩] someSc ⟨141, 11, 141, 75⟩) p14) (lawEnv L fa cd)) Q E s :=
  Assign_N (by rfl) (by rfl) (by with_unfolding_all rfl) (by rfl) (by decide) (by rfl) (by decide) (by rfl) (by rfl) (by decide) (by rfl) (by rfl)
    (rng_law X T B F N) (fun _ => by rfl) (fun _ _ => by rfl) (src_law X T (by rfl)) elt_law hret
end
end
section
open PySem PySem.W PyProof.Rows
set_option maxRecDepth 100000
set_option maxHeartbeats 8000000


noncomputable abbrev bothSc (n : Str) : Scope := { kind := .function, names := [(Str.ofString ".0", .local), (Str.ofString "one", .local), (Str.ofString "_law_divides", .globalImplicit), (n, .free)], isGenerator := false, isCoroutine := false }
section
variable {w : World} {mean : ExcName → Option Value} {mg mb : Str → Option Value} {dp un : Nat} {gd : Option (List Code)} {cn : Str} {cs : Scope} {fa : Addr} {ccd : Value} {cl : List (Str × Addr)} {outer : List Env} {A A₀ : Around} {base h₀ : Heap} {L : Addr} {m : Str → Option Value} {s : Shared} {Q E : Value → Shared → Prop} {news : List (Addr × Obj)}

theorem div_u {l k : Addr} {o0 o1 o2 p0 p1 p2 : Int} {t0 t1 t2 u0 u1 u2 n n' : Nat} (B : Below A₀ base outer h₀) (F : Fr h₀ L s.heap m) (X : (hd.heap_39 w.params).In h₀) (N : News h₀ L s.heap news) (T : Top topProg lo mean mg mb h₀) (hk : cs.kind = .function) (hm : (l, L3 o0 o1 o2 t0 t1 t2 n) ∈ news) (hm' : (k, L3 p0 p1 p2 u0 u1 u2 n') ∈ news)
  (hr : 0 ≤ o0 ∧ o0 < 100) (hg : 0 ≤ o1 ∧ o1 < 100) (hb : 0 ≤ o2 ∧ o2 < 100)
  (hr' : -100 < p0 ∧ p0 < 100) (hg' : -100 < p1 ∧ p1 < 100) (hb' : -100 < p2 ∧ p2 < 100)
  (hz : o0*o0+o1*o1+o2*o2-o0*o1-o1*o2-o2*o0 ≠ 0)
  (hdp : dp + 2 < recursionLimit) (hun : un + 11 < cLine)
  (hret : ∀ (h' : Heap) (tk' : Nat), Fr h₀ L h' m → News h₀ L h' news → Q (.bool (dvI o0 o1 o2 p0 p1 p2)) { s with heap := h', toks := tk' }) :
  wpAny (model prg w) (ktrTop dp un gd cn cs L fa ccd cl outer) (call (.ref 152) [.ref l, .ref k]) Q E s :=
  div_k hr hg hb hr' hg' hb' hz B F X (news_with (news_with N hm') (List.mem_cons_of_mem _ hm)) T hk hdp hun (fun t h' tk' F' N' => hret h' tk' F' (news_sub N' (fun p hp => .tail _ (.tail _ hp))))
end
section
variable {w : World} {mean : ExcName → Option Value} {mg mb : Str → Option Value} {h₀ : Heap} {L fa : Addr} {cd : Value} {m : Str → Option Value} {s : Shared} {Q : Value → Shared → Prop} {E : Value → Shared → Prop} {o1 o2 o3 oC : Obj} {C : Addr} {m₂ : Str → Option Value} {tl : List (Addr × Obj)}
theorem dv_a {l P a b : Addr} {r g X₁ Y₁ Z₁ X₂ Y₂ Z₂ : Int} {p1 p2 p3 p4 p5 p6 : Pos} {k1 : Nat} {t1 t2 t3 t4 t5 t6 u1 u2 u3 n1 n2 n3 : Nat} (X : (hd.heap_39 w.params).In h₀) (T : Top topProg lo mean mg mb h₀) (B : Below callerA h₀ [] h₀)
  (hC : LCg.NsObj oC m₂) (hx : m₂ (Str.ofString "one") = some (.ref l)) (F : Fr h₀ L s.heap m) (d1 : o1.data = .cell (some (.ref P)))
  (N : News h₀ L s.heap ((C, oC) :: (l, L3 r g 0 u1 u2 u3 n3) :: (P, LCg.lst [.ref a, .ref b]) :: (a, L3 X₁ Y₁ Z₁ t1 t2 t3 n1) :: (b, L3 X₂ Y₂ Z₂ t4 t5 t6 n2) :: (L + 1, o1) :: tl))
  (hr : 0 ≤ r ∧ r < 100) (hg : 0 ≤ g ∧ g < 100) (hz : r*r+g*g+0*0-r*g-g*0-0*r ≠ 0) (bX : 0 ≤ X₁ ∧ X₁ < 20) (bY : 0 ≤ Y₁ ∧ Y₁ < 20) (bZ : 0 ≤ Z₁ ∧ Z₁ < 20)
  (hret : ∀ (h' : Heap) (tk' : Nat), Fr h₀ L h' m → News h₀ L h' ((C, oC) :: (l, L3 r g 0 u1 u2 u3 n3) :: (P, LCg.lst [.ref a, .ref b]) :: (a, L3 X₁ Y₁ Z₁ t1 t2 t3 n1) :: (b, L3 X₂ Y₂ Z₂ t4 t5 t6 n2) :: (L + 1, o1) :: tl) → Q (.bool (dvI r g 0 X₁ Y₁ Z₁)) { s with heap := h', toks := tk' }) :
  wpAny (model prg w) (callerA.deeper (lawEnv L fa cd)) (eval (.Call (.Name (Str.ofString "_law_divides") p1) [.Name (Str.ofString "one") p2, .Subscript (.Name (Str.ofString "pair") p3) (.Constant (.int 0) k1 p4) p5] [] p6) (compEnvC (bothSc (Str.ofString "pair")) [(Str.ofString "pair", L + 1)] C (lawEnv L fa cd))) Q E s := by
  refine by_endV ?_
  w_top off
  k_with_none
  k_with "call ref" => (k_here; (with_reducible show wpAny _ _ (call (Value.ref 152) _) _ _ _); k_dflt (refine' div_u ?q86k1 ?q86k2 ?q86k3 ?q86k4 ?q86k5 ?q86k6 ?q86k7 ?q86k7b ?q86k8 ?q86k9 ?q86k10 ?q86k8b ?q86k9b ?q86k10b ?q86k11 ?q86k12 ?q86k13 ?_; (case q86k1 => k_asm); (case q86k2 => k_asm); (case q86k3 => k_asm); (case q86k4 => k_asm); (case q86k5 => k_asm); (case q86k6 => first | exact rfl | assumption); (case q86k7 => k_mem); (case q86k7b => k_mem); (case q86k8 => omega); (case q86k9 => omega); (case q86k10 => omega); (case q86k8b => omega); (case q86k9b => omega); (case q86k10b => omega); (case q86k11 => assumption); (case q86k12 => ktr_room); (case q86k13 => ktr_units)); intro h9 tk9 F9 N9; (try dsimp only); (try k_fold))
  k_with "EndV" => ((with_reducible show EndV _ _ _); k_dflt (refine' hret _ _ ?q87zh1 ?q87zh2; (case q87zh1 => k_asm); (case q87zh2 => k_asm)))
  k_steps
theorem dv_b {l P a b : Addr} {r g X₁ Y₁ Z₁ X₂ Y₂ Z₂ : Int} {p1 p2 p3 p4 p5 p6 : Pos} {k1 : Nat} {t1 t2 t3 t4 t5 t6 u1 u2 u3 n1 n2 n3 : Nat} (X : (hd.heap_39 w.params).In h₀) (T : Top topProg lo mean mg mb h₀) (B : Below callerA h₀ [] h₀)
  (hC : LCg.NsObj oC m₂) (hx : m₂ (Str.ofString "one") = some (.ref l)) (F : Fr h₀ L s.heap m) (d1 : o1.data = .cell (some (.ref P)))
  (N : News h₀ L s.heap ((C, oC) :: (l, L3 r g 0 u1 u2 u3 n3) :: (P, LCg.lst [.ref a, .ref b]) :: (a, L3 X₁ Y₁ Z₁ t1 t2 t3 n1) :: (b, L3 X₂ Y₂ Z₂ t4 t5 t6 n2) :: (L + 1, o1) :: tl))
  (hr : 0 ≤ r ∧ r < 100) (hg : 0 ≤ g ∧ g < 100) (hz : r*r+g*g+0*0-r*g-g*0-0*r ≠ 0) (bX : 0 ≤ X₂ ∧ X₂ < 20) (bY : 0 ≤ Y₂ ∧ Y₂ < 20) (bZ : 0 ≤ Z₂ ∧ Z₂ < 20)
  (hret : ∀ (h' : Heap) (tk' : Nat), Fr h₀ L h' m → News h₀ L h' ((C, oC) :: (l, L3 r g 0 u1 u2 u3 n3) :: (P, LCg.lst [.ref a, .ref b]) :: (a, L3 X₁ Y₁ Z₁ t1 t2 t3 n1) :: (b, L3 X₂ Y₂ Z₂ t4 t5 t6 n2) :: (L + 1, o1) :: tl) → Q (.bool (dvI r g 0 X₂ Y₂ Z₂)) { s with heap := h', toks := tk' }) :
  wpAny (model prg w) (callerA.deeper (lawEnv L fa cd)) (eval (.Call (.Name (Str.ofString "_law_divides") p1) [.Name (Str.ofString "one") p2, .Subscript (.Name (Str.ofString "pair") p3) (.Constant (.int 1) k1 p4) p5] [] p6) (compEnvC (bothSc (Str.ofString "pair")) [(Str.ofString "pair", L + 1)] C (lawEnv L fa cd))) Q E s := by
  refine by_endV ?_
  w_top off
  k_with_none
  k_with "call ref" => (k_here; (with_reducible show wpAny _ _ (call (Value.ref 152) _) _ _ _); k_dflt (refine' div_u ?q86k1 ?q86k2 ?q86k3 ?q86k4 ?q86k5 ?q86k6 ?q86k7 ?q86k7b ?q86k8 ?q86k9 ?q86k10 ?q86k8b ?q86k9b ?q86k10b ?q86k11 ?q86k12 ?q86k13 ?_; (case q86k1 => k_asm); (case q86k2 => k_asm); (case q86k3 => k_asm); (case q86k4 => k_asm); (case q86k5 => k_asm); (case q86k6 => first | exact rfl | assumption); (case q86k7 => k_mem); (case q86k7b => k_mem); (case q86k8 => omega); (case q86k9 => omega); (case q86k10 => omega); (case q86k8b => omega); (case q86k9b => omega); (case q86k10b => omega); (case q86k11 => assumption); (case q86k12 => ktr_room); (case q86k13 => ktr_units)); intro h9 tk9 F9 N9; (try dsimp only); (try k_fold))
  k_with "EndV" => ((with_reducible show EndV _ _ _); k_dflt (refine' hret _ _ ?q87zh1 ?q87zh2; (case q87zh1 => k_asm); (case q87zh2 => k_asm)))
  k_steps
theorem dv_m {l M : Addr} {r g : Int} {u v e : Nat} {p1 p2 p3 p4 : Pos} {t1 t2 t3 u1 u2 u3 n3 : Nat} (X : (hd.heap_39 w.params).In h₀) (T : Top topProg lo mean mg mb h₀) (B : Below callerA h₀ [] h₀)
  (hC : LCg.NsObj oC m₂) (hx : m₂ (Str.ofString "one") = some (.ref l)) (F : Fr h₀ L s.heap m) (d2 : o2.data = .cell (some (.ref M)))
  (N : News h₀ L s.heap ((C, oC) :: (l, L3 r g 0 u1 u2 u3 n3) :: (M, LCg.lst [.int u t1, .int v t2, .int e t3]) :: (L + 1 + 1, o2) :: tl))
  (hr : 0 ≤ r ∧ r < 100) (hg : 0 ≤ g ∧ g < 100) (hz : r*r+g*g+0*0-r*g-g*0-0*r ≠ 0) (bX : u < 100) (bY : v < 100) (bZ : e < 100)
  (hret : ∀ (h' : Heap) (tk' : Nat), Fr h₀ L h' m → News h₀ L h' ((C, oC) :: (l, L3 r g 0 u1 u2 u3 n3) :: (M, LCg.lst [.int u t1, .int v t2, .int e t3]) :: (L + 1 + 1, o2) :: tl) → Q (.bool (dvI r g 0 u v e)) { s with heap := h', toks := tk' }) :
  wpAny (model prg w) (callerA.deeper (lawEnv L fa cd)) (eval (.Call (.Name (Str.ofString "_law_divides") p1) [.Name (Str.ofString "one") p2, .Name (Str.ofString "measure") p3] [] p4) (compEnvC (bothSc (Str.ofString "measure")) [(Str.ofString "measure", L + 1 + 1)] C (lawEnv L fa cd))) Q E s := by
  refine by_endV ?_
  w_top off
  k_with_none
  k_with "call ref" => (k_here; (with_reducible show wpAny _ _ (call (Value.ref 152) _) _ _ _); k_dflt (refine' div_u ?q86k1 ?q86k2 ?q86k3 ?q86k4 ?q86k5 ?q86k6 ?q86k7 ?q86k7b ?q86k8 ?q86k9 ?q86k10 ?q86k8b ?q86k9b ?q86k10b ?q86k11 ?q86k12 ?q86k13 ?_; (case q86k1 => k_asm); (case q86k2 => k_asm); (case q86k3 => k_asm); (case q86k4 => k_asm); (case q86k5 => k_asm); (case q86k6 => first | exact rfl | assumption); (case q86k7 => k_mem); (case q86k7b => k_mem); (case q86k8 => omega); (case q86k9 => omega); (case q86k10 => omega); (case q86k8b => omega); (case q86k9b => omega); (case q86k10b => omega); (case q86k11 => assumption); (case q86k12 => ktr_room); (case q86k13 => ktr_units)); intro h9 tk9 F9 N9; (try dsimp only); (try k_fold))
  k_with "EndV" => ((with_reducible show EndV _ _ _); k_dflt (refine' hret _ _ ?q87zh1 ?q87zh2; (case q87zh1 => k_asm); (case q87zh2 => k_asm)))
  k_steps
end
end
section
open PySem PySem.W PyProof.Rows
set_option maxRecDepth 100000
set_option maxHeartbeats 8000000

open LCg
/-- what a filter leaves -/
noncomputable def sel (p : Int × Int → Bool) : List Value → List (Int × Int) → List Value
  | y :: ys, r :: rs => if p r then y :: sel p ys rs else sel p ys rs
  | _, _ => []
theorem sel_congr {p q : Int × Int → Bool} : ∀ {ys : List Value} {rs : List (Int × Int)}, (∀ r ∈ rs, p r = q r) → sel p ys rs = sel q ys rs
  | [], _, _ => by unfold sel; rfl
  | _ :: _, [], _ => by unfold sel; rfl
  | y :: ys, r :: rs, h => by
    have h1 := h r (List.mem_cons_self ..)
    have h2 := sel_congr (ys := ys) fun r hr => h r (List.mem_cons_of_mem _ hr)
    unfold sel
    rw [h1, h2]
theorem sel_paired {R : Value → Int × Int → Prop} {p : Int × Int → Bool} {ys : List Value} {rs : List (Int × Int)} (h : Paired R ys rs) : Paired R (sel p ys rs) (rs.filter p) := by
  induction h with
  | nil => unfold sel; exact .nil
  | @cons a b l₁ l₂ hab _ ih =>
    unfold sel
    rw [List.filter_cons]
    cases p b with
    | true => simp only [if_true]; exact .cons hab ih
    | false => simp only [Bool.false_eq_true, if_false]; exact ih
section
variable {w : World} {A : Around} {h₀ : Heap} {L : Addr} {m : Str → Option Value} {env : Env}
/-- one test of the filter: it comes back with p -/
noncomputable def TurnT (w : World) (A : Around) (h₀ : Heap) (L : Addr) (m : Str → Option Value) (news : List (Addr × Obj)) (ct : Expr) (x : Str) (scope : Scope) (cl : List (Str × Addr)) (env : Env) (rs : List (Int × Int)) (p : Int × Int → Bool) : Prop :=
  ∀ v rg I oI C oC D oD m₂ (s' : Shared) (Q' : Bool → Shared → Prop) (E' : Value → Shared → Prop), rg ∈ rs → ItemAt news v rg → NsObj oC m₂ → m₂ x = some v → Fr h₀ L s'.heap m → News h₀ L s'.heap ((I, oI) :: (C, oC) :: (D, oD) :: news) →
    (∀ h' tk', Fr h₀ L h' m → News h₀ L h' ((I, oI) :: (C, oC) :: (D, oD) :: news) → Q' (p rg) { s' with heap := h', toks := tk' }) → wpAny (model prg w) A (isTrue ct (compEnvC scope cl C env) (eval ct (compEnvC scope cl C env))) Q' E' s'
theorem filt_rest {ct : Expr} {x : Str} {px : Pos} {scope : Scope} {cl : List (Str × Addr)} {s : Shared} {S : List (Addr × Obj) → Prop} {Fin : List Value → List (Addr × Obj) → Prop} {news : List (Addr × Obj)} {rs : List (Int × Int)} {p : Int × Int → Bool} {its : Array Value}
    (turn : TurnT w A h₀ L m news ct x scope cl env rs p) (hk : ∀ C, (compEnvC scope cl C env).scope.kind = .function) (hl : ∀ C, (compEnvC scope cl C env).kindOf x = some .local) (hd : (x == ("__debug__" : Str)) = false) (hS : S news)
    {ysr : List Value} {rsr : List (Int × Int)} (P : Paired (ItemAt news) ysr rsr) :
    ∀ (pr : List Value) (i : Nat) (zs : List Value), (∀ r ∈ rsr, r ∈ rs) → its = (pr ++ ysr).toArray → pr.length = i → Fin (zs ++ sel p ysr rsr) news →
      LCt.CompRestT prg w A h₀ L m env ct (.Name x px) x scope cl s S (fun i v => its[i]? = some v) Fin ysr.length i zs news := by
  induction P with
  | nil =>
    intro pr i zs _ _ _ hf
    refine LCt.CompRestT.zero ?_
    unfold sel at hf
    rwa [List.append_nil] at hf
  | @cons y r ysr rsr hy hP ih =>
    intro pr i zs hrs hits hpr hf
    refine LCt.CompRestT.succ fun v I oI C oC D m₂ h tk E' hv hC hx F N off ne => ?_
    have hvy : v = y := by
      rw [hits] at hv
      simp [← hpr] at hv
      exact hv.symm
    subst hvy
    refine turn v r I oI C oC D _ m₂ _ _ _ (hrs r (List.mem_cons_self ..)) hy hC hx F N fun h' tk' F' N' => ?_
    have ih1 := fun zs hf => ih (pr ++ [v]) (i + 1) zs (fun r hr => hrs r (List.mem_cons_of_mem _ hr)) (by rw [hits, List.append_assoc]; rfl) (by rw [List.length_append, hpr]; rfl) hf
    unfold sel at hf
    cases hp : p r with
    | true =>
      rw [hp] at hf
      simp only [if_true] at hf ⊢
      refine ldVarK (hC.ns (N' (C, oC) (by simp)).1) hx ?_ (hk C) (hl C) hd
      refine CompEnd.intro F' N' news (fun _ hp => hp) off hS (ih1 _ ?_)
      rwa [List.append_assoc]
    | false =>
      rw [hp] at hf
      simp only [Bool.false_eq_true, if_false] at hf ⊢
      exact CompEnd.intro F' N' news (fun _ hp => hp) off hS (ih1 _ hf)
end
theorem pre_ok : ∀ r ∈ pre 6 0, ((0 ≤ r.1 ∧ r.1 < 100) ∧ (0 ≤ r.2 ∧ r.2 < 100)) ∧ r.1 * r.1 + r.2 * r.2 + 0 * 0 - r.1 * r.2 - r.2 * 0 - 0 * r.1 ≠ 0 := by decide
/-- a divisor of both drawn numbers -/
noncomputable def dvB (X₁ Y₁ Z₁ X₂ Y₂ Z₂ : Int) (r : Int × Int) : Bool := dvI r.1 r.2 0 X₁ Y₁ Z₁ && dvI r.1 r.2 0 X₂ Y₂ Z₂
section
variable {w : World} {mean : ExcName → Option Value} {mg mb : Str → Option Value} {h₀ : Heap} {L fa : Addr} {cd : Value} {m : Str → Option Value} {s : Shared} {E : Value → Shared → Prop} {o1 o2 o3 : Obj} {news : List (Addr × Obj)}
theorem turn_both {P a b : Addr} {X₁ Y₁ Z₁ X₂ Y₂ Z₂ : Int} {t1 t2 t3 t4 t5 t6 n1 n2 : Nat} {p1 p2 p3 p4 p5 p6 p7 p8 p9 p10 p11 p12 p13 : Pos} {k1 k2 : Nat} (X : (hd.heap_39 w.params).In h₀) (T : Top topProg lo mean mg mb h₀) (B : Below callerA h₀ [] h₀)
  (hP : (P, LCg.lst [.ref a, .ref b]) ∈ news) (ha : (a, L3 X₁ Y₁ Z₁ t1 t2 t3 n1) ∈ news) (hb : (b, L3 X₂ Y₂ Z₂ t4 t5 t6 n2) ∈ news) (h1 : (L + 1, o1) ∈ news) (d1 : o1.data = .cell (some (.ref P)))
  (bX1 : 0 ≤ X₁ ∧ X₁ < 20) (bY1 : 0 ≤ Y₁ ∧ Y₁ < 20) (bZ1 : 0 ≤ Z₁ ∧ Z₁ < 20) (bX2 : 0 ≤ X₂ ∧ X₂ < 20) (bY2 : 0 ≤ Y₂ ∧ Y₂ < 20) (bZ2 : 0 ≤ Z₂ ∧ Z₂ < 20) :
  TurnT w (callerA.deeper (lawEnv L fa cd)) h₀ L m news (.BoolOp .And [.Call (.Name (Str.ofString "_law_divides") p1) [.Name (Str.ofString "one") p2, .Subscript (.Name (Str.ofString "pair") p3) (.Constant (.int 0) k1 p4) p5] [] p6,
    .Call (.Name (Str.ofString "_law_divides") p7) [.Name (Str.ofString "one") p8, .Subscript (.Name (Str.ofString "pair") p9) (.Constant (.int 1) k2 p10) p11] [] p12] p13) (Str.ofString "one") (bothSc (Str.ofString "pair")) [(Str.ofString "pair", L + 1)] (lawEnv L fa cd) (pre 6 0) (dvB X₁ Y₁ Z₁ X₂ Y₂ Z₂) := by
  intro v rg I oI C oC D oD m₂ s' Q' E' hrg hv hC hx F N hret
  obtain ⟨l, u1, u2, u3, n3, rfl, hl⟩ := hv
  obtain ⟨⟨b1, b2⟩, hz⟩ := pre_ok rg hrg
  have N2 : News h₀ L s'.heap ((C, oC) :: (l, L3 rg.1 rg.2 0 u1 u2 u3 n3) :: (P, LCg.lst [.ref a, .ref b]) :: (a, L3 X₁ Y₁ Z₁ t1 t2 t3 n1) :: (b, L3 X₂ Y₂ Z₂ t4 t5 t6 n2) :: (L + 1, o1) :: ((I, oI) :: (C, oC) :: (D, oD) :: news)) := by
    refine news_sub N (fun q hq => ?_)
    simp only [List.mem_cons] at hq ⊢
    rcases hq with rfl | rfl | rfl | rfl | rfl | rfl | hq
    · exact Or.inr (Or.inl rfl)
    · exact Or.inr (Or.inr (Or.inr hl))
    · exact Or.inr (Or.inr (Or.inr hP))
    · exact Or.inr (Or.inr (Or.inr ha))
    · exact Or.inr (Or.inr (Or.inr hb))
    · exact Or.inr (Or.inr (Or.inr h1))
    · exact hq
  refine wpAny_isTrue_BoolOp (wpAny_allTrue_And_cons (wpAny_isTrue_value (dv_a X T B hC hx F d1 N2 b1 b2 hz bX1 bY1 bZ1 fun h' tk' F' N' => wpAny_truthy_bool ?_)))
  have back : ∀ h'', News h₀ L h'' ((C, oC) :: (l, L3 rg.1 rg.2 0 u1 u2 u3 n3) :: (P, LCg.lst [.ref a, .ref b]) :: (a, L3 X₁ Y₁ Z₁ t1 t2 t3 n1) :: (b, L3 X₂ Y₂ Z₂ t4 t5 t6 n2) :: (L + 1, o1) :: ((I, oI) :: (C, oC) :: (D, oD) :: news)) → News h₀ L h'' ((I, oI) :: (C, oC) :: (D, oD) :: news) :=
    fun h'' N'' => news_sub N'' (fun q hq => .tail _ (.tail _ (.tail _ (.tail _ (.tail _ (.tail _ hq))))))
  unfold dvB at hret
  cases e : dvI rg.1 rg.2 0 X₁ Y₁ Z₁ with
  | false =>
    rw [e] at hret
    exact hret h' tk' F' (back _ N')
  | true =>
    rw [e] at hret
    refine wpAny_allTrue_And_cons (wpAny_isTrue_value (dv_b X T B hC hx F' d1 N' b1 b2 hz bX2 bY2 bZ2 fun h'' tk'' F'' N'' => wpAny_truthy_bool ?_))
    cases e2 : dvI rg.1 rg.2 0 X₂ Y₂ Z₂ with
    | false =>
      rw [e2] at hret
      exact hret h'' tk'' F'' (back _ N'')
    | true =>
      rw [e2] at hret
      exact wpAny_allTrue_And_nil (hret h'' tk'' F'' (back _ N''))
theorem turn_m {M : Addr} {u v e : Nat} {t1 t2 t3 : Nat} {p1 p2 p3 p4 : Pos} (X : (hd.heap_39 w.params).In h₀) (T : Top topProg lo mean mg mb h₀) (B : Below callerA h₀ [] h₀)
  (hM : (M, LCg.lst [.int u t1, .int v t2, .int e t3]) ∈ news) (h2 : (L + 1 + 1, o2) ∈ news) (d2 : o2.data = .cell (some (.ref M))) (bX : u < 100) (bY : v < 100) (bZ : e < 100) :
  TurnT w (callerA.deeper (lawEnv L fa cd)) h₀ L m news (.Call (.Name (Str.ofString "_law_divides") p1) [.Name (Str.ofString "one") p2, .Name (Str.ofString "measure") p3] [] p4) (Str.ofString "one") (bothSc (Str.ofString "measure")) [(Str.ofString "measure", L + 1 + 1)] (lawEnv L fa cd) (pre 6 0) (fun r => dvI r.1 r.2 0 u v e) := by
  intro v' rg I oI C oC D oD m₂ s' Q' E' hrg hv hC hx F N hret
  obtain ⟨l, u1, u2, u3, n3, rfl, hl⟩ := hv
  obtain ⟨⟨b1, b2⟩, hz⟩ := pre_ok rg hrg
  have N2 : News h₀ L s'.heap ((C, oC) :: (l, L3 rg.1 rg.2 0 u1 u2 u3 n3) :: (M, LCg.lst [.int u t1, .int v t2, .int e t3]) :: (L + 1 + 1, o2) :: ((I, oI) :: (C, oC) :: (D, oD) :: news)) := by
    refine news_sub N (fun q hq => ?_)
    simp only [List.mem_cons] at hq ⊢
    rcases hq with rfl | rfl | rfl | rfl | hq
    · exact Or.inr (Or.inl rfl)
    · exact Or.inr (Or.inr (Or.inr hl))
    · exact Or.inr (Or.inr (Or.inr hM))
    · exact Or.inr (Or.inr (Or.inr h2))
    · exact hq
  refine wpAny_isTrue_value (dv_m X T B hC hx F d2 N2 b1 b2 hz bX bY bZ fun h' tk' F' N' => wpAny_truthy_bool ?_)
  exact hret h' tk' F' (news_sub N' (fun q hq => .tail _ (.tail _ (.tail _ (.tail _ hq)))))
end
end
section
open PySem PySem.W PyProof.Rows
set_option maxRecDepth 100000
set_option maxHeartbeats 8000000


open LCg
theorem paired_size {news : List (Addr × Obj)} {ys : List Value} (P : Paired (ItemAt news) ys (pre 6 0)) : ys.toArray.size ≤ sizeLine := by
  have h1 := P.length
  have h2 := pre_len 6 (by omega) 0 (by omega)
  rw [List.size_toArray, sizeLine_eq]
  omega
section
variable {w : World} {mean : ExcName → Option Value} {mg mb : Str → Option Value} {h₀ : Heap} {L fa : Addr} {cd : Value} {m : Str → Option Value} {s : Shared} {Q : Flow → Shared → Prop} {E : Value → Shared → Prop} {o1 o2 o3 : Obj} {news : List (Addr × Obj)}
theorem st_both {S P a b : Addr} {ys : List Value} {X₁ Y₁ Z₁ X₂ Y₂ Z₂ : Int} {t1 t2 t3 t4 t5 t6 n1 n2 : Nat} {p1 p2 p3 p4 p5 p6 p7 p8 p9 p10 p11 p12 p13 q1 q2 q3 q4 : Pos} {k1 k2 : Nat} (X : (hd.heap_39 w.params).In h₀) (T : Top topProg lo mean mg mb h₀) (B : Below callerA h₀ [] h₀)
  (F : Fr h₀ L s.heap m) (N : News h₀ L s.heap news) (hms : m (Str.ofString "some") = some (.ref S)) (hS : (S, lst ys) ∈ news) (Pr : Paired (ItemAt news) ys (pre 6 0))
  (hP : (P, LCg.lst [.ref a, .ref b]) ∈ news) (ha : (a, L3 X₁ Y₁ Z₁ t1 t2 t3 n1) ∈ news) (hb : (b, L3 X₂ Y₂ Z₂ t4 t5 t6 n2) ∈ news) (h1 : (L + 1, o1) ∈ news) (d1 : o1.data = .cell (some (.ref P)))
  (bX1 : 0 ≤ X₁ ∧ X₁ < 20) (bY1 : 0 ≤ Y₁ ∧ Y₁ < 20) (bZ1 : 0 ≤ Z₁ ∧ Z₁ < 20) (bX2 : 0 ≤ X₂ ∧ X₂ < 20) (bY2 : 0 ≤ Y₂ ∧ Y₂ < 20) (bZ2 : 0 ≤ Z₂ ∧ Z₂ < 20)
  (hret : ∀ D h' tk' m', m' (Str.ofString "both") = some (.ref D) → (∀ y, y ≠ Str.ofString "both" → m' y = m y) → Fr h₀ L h' m' → News h₀ L h' ((D, lst (sel (dvB X₁ Y₁ Z₁ X₂ Y₂ Z₂) ys (pre 6 0))) :: news) → Q .next { s with heap := h', toks := tk' }) :
  wpAny (model prg w) (callerA.deeper (lawEnv L fa cd)) (exec (.Assign [.Name (Str.ofString "both") ⟨142, 4, 142, 8⟩] (.ListComp (.Name (Str.ofString "one") q1) [⟨.Name (Str.ofString "one") q2, .Name (Str.ofString "some") q3,
    [.BoolOp .And [.Call (.Name (Str.ofString "_law_divides") p1) [.Name (Str.ofString "one") p2, .Subscript (.Name (Str.ofString "pair") p3) (.Constant (.int 0) k1 p4) p5] [] p6,
    .Call (.Name (Str.ofString "_law_divides") p7) [.Name (Str.ofString "one") p8, .Subscript (.Name (Str.ofString "pair") p9) (.Constant (.int 1) k2 p10) p11] [] p12] p13], 0⟩] (bothSc (Str.ofString "pair")) ⟨142, 11, 142, 93⟩) q4) (lawEnv L fa cd)) Q E s := by
  refine LCt.Assign_ListComp_T (F₀ := F) (cl := [(Str.ofString "pair", L + 1)]) (by rfl) (by with_unfolding_all rfl) (by with_unfolding_all rfl) (by decide) (by rfl) (by decide) (by rfl) (by rfl) (by rfl)
    (nameX_L F hms (LCt.CompSrcT.ledger (by rfl) F N hS (paired_size Pr) fun g => ?_))
  refine filt_rest (turn_both X T B hP ha hb h1 d1 bX1 bY1 bZ1 bX2 bY2 bZ2) (fun _ => by rfl) (fun _ => by rfl) (by decide) (Or.inr ⟨_, hS, rfl, _, rfl⟩) Pr [] 0 [] (fun r h => h) rfl rfl ?_
  intro D h' tk' F' N' _
  exact hret D h' tk' _ (if_pos rfl) (fun y hy => if_neg hy) F' N'
theorem st_if {S D M : Addr} {ys : List Value} {u v e : Nat} {t1 t2 t3 : Nat} {pb : Int × Int → Bool} {p1 p2 p3 p4 q1 q2 q3 q4 q5 q6 q7 : Pos} {body : List Stmt} (X : (hd.heap_39 w.params).In h₀) (T : Top topProg lo mean mg mb h₀) (B : Below callerA h₀ [] h₀)
  (F : Fr h₀ L s.heap m) (N : News h₀ L s.heap news) (hms : m (Str.ofString "some") = some (.ref S)) (hmb : m (Str.ofString "both") = some (.ref D)) (hS : (S, lst ys) ∈ news) (hD : (D, lst (sel pb ys (pre 6 0))) ∈ news) (Pr : Paired (ItemAt news) ys (pre 6 0))
  (hM : (M, LCg.lst [.int u t1, .int v t2, .int e t3]) ∈ news) (h2 : (L + 1 + 1, o2) ∈ news) (d2 : o2.data = .cell (some (.ref M))) (bX : u < 100) (bY : v < 100) (bZ : e < 100)
  (hpb : ∀ r ∈ pre 6 0, pb r = dvI r.1 r.2 0 u v e)
  (hret : ∀ h' tk', Fr h₀ L h' m → News h₀ L h' news → Q .next { s with heap := h', toks := tk' }) :
  wpAny (model prg w) (callerA.deeper (lawEnv L fa cd)) (exec (.If (.Compare (.Name (Str.ofString "both") q1) [.NotEq] [.ListComp (.Name (Str.ofString "one") q2) [⟨.Name (Str.ofString "one") q3, .Name (Str.ofString "some") q4,
    [.Call (.Name (Str.ofString "_law_divides") p1) [.Name (Str.ofString "one") p2, .Name (Str.ofString "measure") p3] [] p4], 0⟩] (bothSc (Str.ofString "measure")) q5] q6) body [] q7) (lawEnv L fa cd)) Q E s := by
  refine wpAny_If (wpAny_isTrue_Compare1 (nameX_L F hmb ?_))
  refine LCt.ListComp_T (F₀ := F) (cl := [(Str.ofString "measure", L + 1 + 1)]) (by with_unfolding_all rfl) (by decide) (by rfl) (by decide) (by rfl) (nameX_L F hms (LCt.CompSrcT.ledger (by rfl) F N hS (paired_size Pr) fun g => ?_))
  refine filt_rest (turn_m X T B hM h2 d2 bX bY bZ) (fun _ => by rfl) (fun _ => by rfl) (by decide) (Or.inr ⟨_, hS, rfl, _, rfl⟩) Pr [] 0 [] (fun r h => h) rfl rfl ?_
  intro D' h' tk' F' N' _
  have N2 : News h₀ L h' news := fun p hp => N' p (List.mem_cons_of_mem _ hp)
  have e0 : sel (fun r => dvI r.1 r.2 0 u v e) ys (pre 6 0) = sel pb ys (pre 6 0) := sel_congr fun r hr => (hpb r hr).symm
  rw [List.nil_append, e0] at N'
  have l1 : h'.IsList D (sel pb ys (pre 6 0)).toArray := ⟨_, (N2 _ hD).1, rfl, _, rfl⟩
  have l2 : h'.IsList D' (sel pb ys (pre 6 0)).toArray := ⟨_, (N' _ (List.mem_cons_self ..)).1, rfl, _, rfl⟩
  refine EqBoolInt.of_rcne (SeqAt.RcNeAt.lists (e := fun _ => true) l1 l2 rfl (by first | ktr_units | (show callerA.units + 1 < cLine; decide) | (show callerA.units < cLine; decide) | exact Nat.lt_of_ble_eq_true rfl) fun j _ _ => SeqAt.EqAt.same _) ?_
  have e1 : (!(List.range (sel pb ys (pre 6 0)).toArray.size).all fun _ => true) = false := by simp
  rw [e1]
  refine wpAny_truthy_bool ?_
  simp only [Bool.false_eq_true, if_false]
  exact wpAny_execs_nil (hret h' tk' F' N2)
end
end
section
open PySem PySem.W PyProof.Rows
set_option maxRecDepth 100000
set_option maxHeartbeats 8000000


open LCg
/-- the entries that are lists -/
noncomputable def seqs (news : List (Addr × Obj)) : List (Addr × Obj) := news.filter fun p => match p.2.data with | .seq .. => true | _ => false
theorem seqs_sub {news : List (Addr × Obj)} : ∀ p ∈ seqs news, p ∈ news := fun _ hp => (List.mem_filter.mp hp).1
theorem seqs_nc {news : List (Addr × Obj)} : ∀ p ∈ seqs news, ∀ u, p.2.data ≠ .cell u := fun p hp u e => by
  have h := (List.mem_filter.mp hp).2
  rw [e] at h
  cases h
theorem seqs_mem {news : List (Addr × Obj)} {a : Addr} {vs : Array Value} {n : Nat} (h : (a, ({ cls := .type "list", data := .seq vs n } : Obj)) ∈ news) : (a, ({ cls := .type "list", data := .seq vs n } : Obj)) ∈ seqs news := List.mem_filter.mpr ⟨h, rfl⟩
theorem item_seqs {news : List (Addr × Obj)} {y : Value} {rg : Int × Int} (h : ItemAt news y rg) : ItemAt (seqs news) y rg := by
  obtain ⟨D, t, t', t'', n, e, hm⟩ := h
  exact ⟨D, t, t', t'', n, e, seqs_mem hm⟩
section
variable {w : World} {mean : ExcName → Option Value} {mg mb : Str → Option Value} {h₀ : Heap} {L fa : Addr} {cd : Value} {m : Str → Option Value} {s : Shared} {Q : Flow → Shared → Prop} {E : Value → Shared → Prop} {o1 o2 o3 : Obj} {news tl : List (Addr × Obj)}
theorem st_whole {M : Addr} {u v e t1 t2 t3 : Nat} {p1 p2 p3 p4 p5 p6 p7 p8 p9 p10 p11 p12 p13 p14 p15 p16 p17 p18 p19 : Pos} {k1 k2 k3 k4 k5 : Nat} (X : (hd.heap_39 w.params).In h₀) (T : Top topProg lo mean mg mb h₀) (B : Below callerA h₀ [] h₀)
  (F : Fr h₀ L s.heap m) (N : News h₀ L s.heap ((M, LCg.lst [.int u t1, .int v t2, .int e t3]) :: (L + 1 + 1, o2) :: tl)) (d2 : o2.data = .cell (some (.ref M))) (bX : 0 < u ∧ u < 8) (bY : 0 < v ∧ v < 8) (bZ : 0 < e ∧ e < 8)
  (f1 : Float64.isNaN (Float64.mul (hueF u v e) (Float64.ofInt 6)) = false) (f2 : Float64.isInf (Float64.mul (hueF u v e) (Float64.ofInt 6)) = false)
  (hret : ∀ t h' tk' m', m' (Str.ofString "whole") = some (.int (Flt.toInt Float64.truncOf (Float64.mul (hueF u v e) (Float64.ofInt 6))) t) → (∀ y, y ≠ Str.ofString "whole" → m' y = m y) → Fr h₀ L h' m' → News h₀ L h' ((M, LCg.lst [.int u t1, .int v t2, .int e t3]) :: (L + 1 + 1, o2) :: tl) → Q .next { s with heap := h', toks := tk' }) :
  wpAny (model prg w) (callerA.deeper (lawEnv L fa cd)) (exec (.Assign [.Name (Str.ofString "whole") p1] (.Call (.Name (Str.ofString "int") p2) [.BinOp (.Subscript (.Call (.Name (Str.ofString "rgb_to_hsv") p3) [.Subscript (.Name (Str.ofString "measure") p4) (.Constant (.int 0) k1 p5) p6, .Subscript (.Name (Str.ofString "measure") p7) (.Constant (.int 1) k2 p8) p9, .Subscript (.Name (Str.ofString "measure") p10) (.Constant (.int 2) k3 p11) p12] [] p13)
    (.Constant (.int 0) k4 p14) p15) .Mult (.Constant (.int 6) k5 p16) p17] [] p18) p19) (lawEnv L fa cd)) Q E s := by
  refine by_end ?_
  w_top off
  k_with_none
  k_with "call ref" => (k_here; (with_reducible show wpAny _ _ (call (Value.ref 38) [Value.int _ _, Value.int _ _, Value.int _ _]) _ _ _); k_dflt (refine' rgb_k (r := (u : Int)) (g := (v : Int)) (b := (e : Int)) ?q88k1 ?q88k2 ?q88k3 ?q88k4 ?q88k5 ?q88k6 ?q88k7 ?q88k8 ?q88k9 ?q88k10 ?q88k11 ?_; (case q88k1 => k_asm); (case q88k2 => k_asm); (case q88k3 => k_asm); (case q88k4 => k_asm); (case q88k5 => k_asm); (case q88k6 => first | exact rfl | assumption); (case q88k7 => omega); (case q88k8 => omega); (case q88k9 => omega); (case q88k10 => (first | exact Nat.lt_of_lt_of_le (Nat.add_lt_add_right hdp _) (by decide) | exact Nat.lt_of_lt_of_le hdp (by decide) | omega | ((try simp only [depth_under_make, depth_under_kw, depth_in1, depth_deeper, depth_caller]); (try dsimp only [ktrTop]); omega))); (case q88k11 => (first | exact Nat.lt_of_lt_of_le (Nat.add_lt_add_right hun _) (by decide) | exact Nat.lt_of_lt_of_le hun (by decide) | omega | ((try simp only [units_in1, units_deeper, Around.mark_units, units_caller]); (try dsimp only [ktrTop]); omega)))); intro D9 t9 v9 w9 h9 tk9 F9 N9; (try dsimp only); (try k_fold))
  k_with "exec Assign cons Call" => (k_here; k_dflt (refine wpAny_Assign_Name (hs := by with_unfolding_all rfl) ?_))
  k_with "EndS" => ((with_reducible show EndS _ _ _); k_dflt (refine' hret _ _ _ _ ?q90zh1 ?q90zh2 ?q90zh3 ?q90zh4; (case q90zh3 => k_asm); (case q90zh4 => (first | k_asm | (refine' news_sub ?q90n1 ?q90n2; (case q90n1 => k_asm); (case q90n2 => kcj_all)))); (case q90zh1 => exact if_pos rfl); (case q90zh2 => exact fun y hy => if_neg hy)))
  k_steps
theorem st_turned {M : Addr} {u v e t1 t2 t3 tw : Nat} {W : Int} {p1 p2 p3 p4 p5 p6 p7 p8 p9 p10 : Pos} {k1 k2 : Nat} (X : (hd.heap_39 w.params).In h₀) (T : Top topProg lo mean mg mb h₀) (B : Below callerA h₀ [] h₀)
  (F : Fr h₀ L s.heap m) (N : News h₀ L s.heap ((M, LCg.lst [.int u t1, .int v t2, .int e t3]) :: (L + 1 + 1, o2) :: (L + 1 + 1 + 1, o3) :: tl)) (d2 : o2.data = .cell (some (.ref M))) (d3 : o3.data = .cell none) (htl : ∀ p ∈ tl, ∀ u, p.2.data ≠ .cell u)
  (hmw : m (Str.ofString "whole") = some (.int W tw)) (bW : 0 ≤ W ∧ W < 7) (bX : 0 < u ∧ u < 8) (bY : 0 < v ∧ v < 8) (bZ : 0 < e ∧ e < 8)
  (hret : ∀ (X Y Z : Int) (D : Addr) (x1 x2 x3 : Nat) (o3' : Obj) (h' : Heap) (tk' : Nat), X = u * xi ((6 - W).fmod 6) + v * zi ((6 - W).fmod 6) + e * yi ((6 - W).fmod 6) → Y = u * yi ((6 - W).fmod 6) + v * xi ((6 - W).fmod 6) + e * zi ((6 - W).fmod 6) → Z = u * zi ((6 - W).fmod 6) + e * xi ((6 - W).fmod 6) + v * yi ((6 - W).fmod 6) →
    (0 < X ∧ X < 100) → (0 < Y ∧ Y < 100) → (0 < Z ∧ Z < 100) → o3'.data = .cell (some (.ref D)) → Fr h₀ L h' (fun z => if z = Str.ofString "whole" then some (.int W tw) else m z) → News h₀ L h' ((L + 1 + 1 + 1, o3') :: (D, L3 X Y Z x1 x2 x3 0) :: tl) → Q .next { s with heap := h', toks := tk' }) :
  wpAny (model prg w) (callerA.deeper (lawEnv L fa cd)) (exec (.Assign [.Name (Str.ofString "turned") p1] (.Call (.Name (Str.ofString "_law_times") p2) [.Name (Str.ofString "measure") p3, .BinOp (.BinOp (.Constant (.int 6) k1 p4) .Sub (.Name (Str.ofString "whole") p5) p6) .Mod (.Constant (.int 6) k2 p7) p8] [] p9) p10) (lawEnv L fa cd)) Q E s := by
  replace F := fr_at F hmw
  refine by_end ?_
  w_top off
  k_with_none
  k_with "call ref" => (k_here; (with_reducible show wpAny _ _ (call (Value.ref 38) [Value.int _ _, Value.int _ _, Value.int _ _]) _ _ _); k_dflt (refine' rgb_k (r := (u : Int)) (g := (v : Int)) (b := (e : Int)) ?q88k1 ?q88k2 ?q88k3 ?q88k4 ?q88k5 ?q88k6 ?q88k7 ?q88k8 ?q88k9 ?q88k10 ?q88k11 ?_; (case q88k1 => k_asm); (case q88k2 => k_asm); (case q88k3 => k_asm); (case q88k4 => k_asm); (case q88k5 => k_asm); (case q88k6 => first | exact rfl | assumption); (case q88k7 => omega); (case q88k8 => omega); (case q88k9 => omega); (case q88k10 => (first | exact Nat.lt_of_lt_of_le (Nat.add_lt_add_right hdp _) (by decide) | exact Nat.lt_of_lt_of_le hdp (by decide) | omega | ((try simp only [depth_under_make, depth_under_kw, depth_in1, depth_deeper, depth_caller]); (try dsimp only [ktrTop]); omega))); (case q88k11 => (first | exact Nat.lt_of_lt_of_le (Nat.add_lt_add_right hun _) (by decide) | exact Nat.lt_of_lt_of_le hun (by decide) | omega | ((try simp only [units_in1, units_deeper, Around.mark_units, units_caller]); (try dsimp only [ktrTop]); omega)))); intro D9 t9 v9 w9 h9 tk9 F9 N9; (try dsimp only); (try k_fold))
  k_with "exec Assign cons Call" => (k_here; k_dflt (refine wpAny_Assign_Name (hs := by with_unfolding_all rfl) ?_))
  k_with "EndS" => ((with_reducible show EndS _ _ _); k_dflt (refine' hret _ _ _ _ ?q90zh1 ?q90zh2 ?q90zh3 ?q90zh4; (case q90zh3 => k_asm); (case q90zh4 => (first | k_asm | (refine' news_sub ?q90n1 ?q90n2; (case q90n1 => k_asm); (case q90n2 => kcj_all)))); (case q90zh1 => exact if_pos rfl); (case q90zh2 => exact fun y hy => if_neg hy)))
  k_with "call ref" => (k_here; (with_reducible show wpAny _ _ (call (Value.ref 116) [Value.ref _, Value.int _ _]) _ _ _); k_dflt (refine' times_u (r := u) (g := v) (b := e) ?q91k1 ?q91k2 ?q91k3 ?q91k4 ?q91k5 ?q91k6 ?q91k7 ?q91k8 ?q91k9 ?q91k10 ?q91k11 ?q91k12 ?_; (case q91k1 => k_asm); (case q91k2 => k_asm); (case q91k3 => k_asm); (case q91k4 => k_asm); (case q91k5 => k_asm); (case q91k6 => first | exact rfl | assumption); (case q91k7 => k_mem); (case q91k8 => omega); (case q91k9 => omega); (case q91k10 => omega); (case q91k11 => (first | exact Nat.lt_of_lt_of_le (Nat.add_lt_add_right hdp _) (by decide) | exact Nat.lt_of_lt_of_le hdp (by decide) | omega | ((try simp only [depth_under_make, depth_under_kw, depth_in1, depth_deeper, depth_caller]); (try dsimp only [ktrTop]); omega))); (case q91k12 => (first | exact Nat.lt_of_lt_of_le (Nat.add_lt_add_right hun _) (by decide) | exact Nat.lt_of_lt_of_le hun (by decide) | omega | ((try simp only [units_in1, units_deeper, Around.mark_units, units_caller]); (try dsimp only [ktrTop]); omega)))); intro X9 Y9 Z9 hX9 hY9 hZ9 bX9 bY9 bZ9 D9 t9 u9 v9 h9 tk9 F9 N9; (try dsimp only); (try k_fold))
  k_with "storeName" => (k_here; k_dflt (refine' storeC_k ((D9, L3 X9 Y9 Z9 t9 u9 v9 0) :: tl) ?q92zcF ?q92zcN ?q92zcl ?q92zcm ?q92zcd ?q92zcs ?_ ?q92zck ?q92zcx; (case q92zck => rfl); (case q92zcx => rfl); (case q92zcF => k_asm); (case q92zcN => exact N9); (case q92zcl => rfl); (case q92zcm => k_mem); (case q92zcd => assumption); (case q92zcs => exact List.forall_mem_cons.mpr ⟨⟨List.mem_cons_self .., Or.inr nc_seq⟩, fun q hq => ⟨.tail _ (.tail _ (.tail _ (.tail _ hq))), Or.inr (htl q hq)⟩⟩)); intro h8 o9 d9 F8 N8; (try dsimp only))
  k_with "EndS" => ((with_reducible show EndS _ _ _); k_dflt (exact hret X9 Y9 Z9 _ _ _ _ _ _ _ hX9 hY9 hZ9 bX9 bY9 bZ9 d9 F8 N8))
  k_steps
end
end
section
open PySem PySem.W PyProof.Rows
set_option maxRecDepth 100000
set_option maxHeartbeats 8000000


open LCg
noncomputable abbrev sizeSc : Scope := { kind := .function, names := [(Str.ofString ".0", .local), (Str.ofString "one", .local), (Str.ofString "_law_size", .globalImplicit)], isGenerator := false, isCoroutine := false }
noncomputable abbrev partSc : Scope := { kind := .function, names := [(Str.ofString ".0", .local), (Str.ofString "part", .local), (Str.ofString "min", .globalImplicit), (Str.ofString "turned", .free)], isGenerator := false, isCoroutine := false }
section
variable {w : World} {mean : ExcName → Option Value} {mg mb : Str → Option Value} {h₀ : Heap} {L fa : Addr} {cd : Value} {m : Str → Option Value} {s : Shared} {Q : Value → Shared → Prop} {E : Value → Shared → Prop} {o1 o2 o3 oC : Obj} {C : Addr} {m₂ : Str → Option Value} {news tl : List (Addr × Obj)}
section
theorem sz_call {l : Addr} {r g : Int} {p1 p2 p3 : Pos} {u1 u2 u3 n3 : Nat} (X : (hd.heap_39 w.params).In h₀) (T : Top topProg lo mean mg mb h₀) (B : Below callerA h₀ [] h₀)
  (hC : LCg.NsObj oC m₂) (hx : m₂ (Str.ofString "one") = some (.ref l)) (F : Fr h₀ L s.heap m) (N : News h₀ L s.heap ((C, oC) :: (l, L3 r g 0 u1 u2 u3 n3) :: tl))
  (hr : 0 ≤ r ∧ r < 100) (hg : 0 ≤ g ∧ g < 100)
  (hret : ∀ (t : Tok) (h' : Heap) (tk' : Nat), Fr h₀ L h' m → News h₀ L h' ((C, oC) :: (l, L3 r g 0 u1 u2 u3 n3) :: tl) → Q (.int (szI r g 0) t) { s with heap := h', toks := tk' }) :
  wpAny (model prg w) (callerA.deeper (lawEnv L fa cd)) (eval (.Call (.Name (Str.ofString "_law_size") p1) [.Name (Str.ofString "one") p2] [] p3) (compEnvC sizeSc [] C (lawEnv L fa cd))) Q E s := by
  refine by_endV ?_
  w_top off
  k_with_none
  k_with "call ref" => (k_here; (with_reducible show wpAny _ _ (call (Value.ref 123) _) _ _ _); (refine' size_use ?q94k1 ?q94k2 ?q94k3 ?q94k4 ?q94k5 ?q94k6 ?q94k7 ?q94k8 ?q94k9 ?q94k10 ?q94k11 ?q94k12 ?_; (case q94k1 => k_asm); (case q94k2 => k_asm); (case q94k3 => k_asm); (case q94k4 => k_asm); (case q94k5 => k_asm); (case q94k6 => first | exact rfl | assumption); (case q94k7 => k_mem); (case q94k8 => omega); (case q94k9 => omega); (case q94k10 => omega); (case q94k11 => ktr_room); (case q94k12 => ktr_units)); intro t9 h9 tk9 F9 N9; (try dsimp only); (try k_fold))
  k_with "EndV" => ((with_reducible show EndV _ _ _); k_dflt (refine' hret _ _ _ ?q95zh1 ?q95zh2; (case q95zh1 => k_asm); (case q95zh2 => k_asm)))
  k_steps
end
section
theorem ev_left {D : Addr} {x y z : Int} {u1 u2 u3 : Nat} {p1 p2 p3 p4 p5 p6 p7 p8 : Pos} (X : (hd.heap_39 w.params).In h₀) (T : Top topProg lo mean mg mb h₀) (B : Below callerA h₀ [] h₀)
  (F : Fr h₀ L s.heap m) (N : News h₀ L s.heap ((L + 1 + 1 + 1, o3) :: (D, L3 x y z u1 u2 u3 0) :: tl)) (d3 : o3.data = .cell (some (.ref D))) (bX : 0 < x ∧ x < 100) (bY : 0 < y ∧ y < 100) (bZ : 0 < z ∧ z < 100)
  (hret : ∀ (R : Addr) (t1 t2 t3 : Tok) (h' : Heap) (tk' : Nat), Fr h₀ L h' m → News h₀ L h' ((R, lst [.int (x - min (min x y) z) t1, .int (y - min (min x y) z) t2, .int (z - min (min x y) z) t3]) :: tl) → Q (.ref R) { s with heap := h', toks := tk' }) :
  wpAny (model prg w) (callerA.deeper (lawEnv L fa cd)) (eval (.ListComp (.BinOp (.Name (Str.ofString "part") p1) .Sub (.Call (.Name (Str.ofString "min") p2) [.Name (Str.ofString "turned") p3] [] p4) p5) [⟨.Name (Str.ofString "part") p6, .Name (Str.ofString "turned") p7, [], 0⟩] partSc p8) (lawEnv L fa cd)) Q E s := by
  refine by_endV ?_
  w_top off
  k_with_none
  k_with "eval ListComp" => (k_here; (with_reducible show wpAny _ _ (eval (Expr.ListComp _ _ _ _) _) _ _ _); k_dflt (refine LCg.ListComp_U (F₀ := by k_asm) (by with_unfolding_all rfl) (by decide) (by rfl) (by decide) (by rfl) ?_))
  k_with "CompSrc" => (k_here; k_dflt (refine LCg.CompSrc.ledger (by rfl) (by k_asm) (by k_asm) (by k_mem) (by exact Nat.le_of_ble_eq_true rfl) ?_; intro g'; lcg_lit))
  k_with "CompRest" => (with_unfolding_all first | (refine LCg.CompRest.succ ?_; intro v' I' oI' C' oC' D' m' h' tk' E' hv' hC' hx' F' N' off' ne'; (first | lcg_open hv' | (obtain ⟨t9', hv9'⟩ := hv'; subst hv9'))) | refine LCg.CompRest.zero ?_)
  k_with "CompEnd" => (k_dflt (first | refine cend0 (by k_asm) (by k_asm) (by assumption) (by lcg_src) ?_ | refine cend1 (by k_asm) (by k_asm) (by assumption) (by assumption) (by lcg_src) ?_))
  k_with "call builtin:min" => (k_here; (with_reducible show wpAny _ _ (call (Value.builtin "min") [Value.ref _]) _ _ _); k_dflt (refine' minL_k ?q100k1 ?q100k2 ?q100k2b ?q100k3 ?q100k4 ?q100k5 ?_; (case q100k1 => k_asm); (case q100k2 => k_asm); (case q100k2b => k_mem); (case q100k3 => (first | rfl | assumption)); (case q100k4 => (first | exact Nat.lt_of_lt_of_le (Nat.add_lt_add_right hdp _) (by decide) | exact Nat.lt_of_lt_of_le hdp (by decide) | omega | ((try simp only [depth_under_make, depth_under_kw, depth_in1, depth_deeper, depth_caller]); (try dsimp only [ktrTop]); omega))); (case q100k5 => (first | exact Nat.lt_of_lt_of_le (Nat.add_lt_add_right hun _) (by decide) | exact Nat.lt_of_lt_of_le hun (by decide) | omega | ((try simp only [units_in1, units_deeper, Around.mark_units, units_caller]); (try dsimp only [ktrTop]); omega)))); intro t9 h9 tk9 F9 N9; (try dsimp only); (try k_fold))
  k_with "EndV" => ((with_reducible show EndV _ _ _); k_dflt (refine' hret _ _ _ _ _ _ ?q101zh1 ?q101zh2; (case q101zh1 => k_asm); (case q101zh2 => (first | k_asm | (refine' news_sub ?q101n1 ?q101n2; (case q101n1 => k_asm); (case q101n2 => kcj_all))))))
  k_steps
end
end
end
section
open PySem PySem.W PyProof.Rows
set_option maxRecDepth 100000
set_option maxHeartbeats 8000000


open LCg
/-- an element [size, [r, g, 0]] of the ledger's -/
noncomputable def PairAt (news : List (Addr × Obj)) (v : Value) (rg : Int × Int) : Prop := ∃ a l t u1 u2 u3 n n', v = .ref a ∧ (a, W.listOf #[.int (szI rg.1 rg.2 0) t, .ref l] n) ∈ news ∧ (l, L3 rg.1 rg.2 0 u1 u2 u3 n') ∈ news
theorem PairAt.mono {news news' : List (Addr × Obj)} {v : Value} {rg : Int × Int} (h : PairAt news v rg) (hs : ∀ p ∈ news, p ∈ news') : PairAt news' v rg := by
  obtain ⟨a, l, t, u1, u2, u3, n, n', e, h1, h2⟩ := h
  exact ⟨a, l, t, u1, u2, u3, n, n', e, hs _ h1, hs _ h2⟩
theorem pairs_mono {news news' : List (Addr × Obj)} (hs : ∀ p ∈ news, p ∈ news') {ys : List Value} {rs : List (Int × Int)} (h : Paired (PairAt news) ys rs) : Paired (PairAt news') ys rs := by
  induction h with
  | nil => exact .nil
  | cons a _ ih => exact .cons (a.mono hs) ih
theorem paired_get {R : Value → Int × Int → Prop} {ys : List Value} {rs : List (Int × Int)} (h : Paired R ys rs) : ∀ {i : Nat} {y : Value}, ys[i]? = some y → ∃ r, rs[i]? = some r ∧ R y r := by
  induction h with
  | nil => intro i y h; cases h
  | @cons a b l₁ l₂ hab _ ih =>
    intro i y h
    cases i with
    | zero =>
      simp only [List.getElem?_cons_zero, Option.some.injEq] at h
      subst h
      exact ⟨b, rfl, hab⟩
    | succ i =>
      simp only [List.getElem?_cons_succ] at h ⊢
      exact ih h
/-- one element of the sizes' list -/
noncomputable def TurnS (w : World) (A : Around) (h₀ : Heap) (L : Addr) (m : Str → Option Value) (elt : Expr) (x : Str) (scope : Scope) (cl : List (Str × Addr)) (env : Env) (rs : List (Int × Int)) : Prop :=
  ∀ l u1 u2 u3 n3 rg I oI C oC D oD m₂ (nw : List (Addr × Obj)) (s' : Shared) (Q' E' : Value → Shared → Prop), rg ∈ rs → (l, L3 rg.1 rg.2 0 u1 u2 u3 n3) ∈ nw → NsObj oC m₂ → m₂ x = some (.ref l) → Fr h₀ L s'.heap m → News h₀ L s'.heap ((I, oI) :: (C, oC) :: (D, oD) :: nw) →
    (∀ a t h' tk', Fr h₀ L h' m → News h₀ L h' ((a, W.listOf #[.int (szI rg.1 rg.2 0) t, .ref l] 0) :: (I, oI) :: (C, oC) :: (D, oD) :: nw) → (@Ne Nat a I ∧ @Ne Nat a C ∧ @Ne Nat a D) → Q' (.ref a) { s' with heap := h', toks := tk' }) →
    wpAny (model prg w) A (eval elt (compEnvC scope cl C env)) Q' E' s'
section
variable {w : World} {A : Around} {h₀ : Heap} {L : Addr} {m : Str → Option Value} {env : Env}
theorem size_rest {elt : Expr} {x : Str} {scope : Scope} {cl : List (Str × Addr)} {s : Shared} {ax : Addr} {Fin : List Value → List (Addr × Obj) → Prop} {news : List (Addr × Obj)} {rs : List (Int × Int)} {its : Array Value} {n0 : Nat}
    (turn : TurnS w A h₀ L m elt x scope cl env rs) (hax : (ax, ({ cls := .type "list", data := .seq its n0 } : Obj)) ∈ news)
    (fin : ∀ zs nw, (∀ p ∈ news, p ∈ nw) → Paired (PairAt nw) zs rs → Fin zs nw)
    {ysr : List Value} {rsr : List (Int × Int)} (P : Paired (ItemAt news) ysr rsr) :
    ∀ (pr : List Value) (ds : List (Int × Int)) (i : Nat) (zs : List Value) (nw : List (Addr × Obj)), ds ++ rsr = rs → its = (pr ++ ysr).toArray → pr.length = i → (∀ p ∈ news, p ∈ nw) → Paired (PairAt nw) zs ds →
      CompRest prg w A h₀ L m env elt x scope cl s (SrcAt h₀ ax its) (fun i v => its[i]? = some v) Fin ysr.length i zs nw := by
  induction P with
  | nil =>
    intro pr ds i zs nw hds _ _ sub hP
    refine CompRest.zero (fin zs nw sub ?_)
    rw [List.append_nil] at hds
    rw [← hds]; exact hP
  | @cons y r ysr rsr hy hP ih =>
    intro pr ds i zs nw hds hits hpr sub hZ
    refine CompRest.succ fun v I oI C oC D m₂ h tk E' hv hC hx F N off ne => ?_
    have hvy : v = y := by
      rw [hits] at hv
      simp [← hpr] at hv
      exact hv.symm
    subst hvy
    obtain ⟨l, u1, u2, u3, n3, rfl, hl⟩ := hy
    refine turn l u1 u2 u3 n3 r I oI C oC D _ m₂ nw _ _ _ (by rw [← hds]; simp) (sub _ hl) hC hx F N fun a t h' tk' F' N' ap => ?_
    refine CompEnd.intro F' N' ((a, W.listOf #[.int (szI r.1 r.2 0) t, .ref l] 0) :: nw) (fun p hp => ?_) ⟨ap, off⟩ (Or.inr ⟨_, .tail _ (sub _ hax), rfl, _, rfl⟩) ?_
    · simp only [List.mem_cons] at hp ⊢
      rcases hp with h | h | h | h | h <;> simp [h]
    · refine ih (pr ++ [.ref l]) (ds ++ [r]) (i + 1) _ _ (by rw [← hds, List.append_assoc]; rfl) (by rw [hits, List.append_assoc]; rfl) (by rw [List.length_append, hpr]; rfl) (fun p hp => .tail _ (sub p hp)) ?_
      exact Paired.snoc (pairs_mono (fun p hp => .tail _ hp) hZ) ⟨a, l, t, u1, u2, u3, 0, n3, rfl, .head _, .tail _ (sub _ hl)⟩
end
section
variable {w : World} {mean : ExcName → Option Value} {mg mb : Str → Option Value} {h₀ : Heap} {L fa : Addr} {cd : Value} {m : Str → Option Value} {s : Shared} {E : Value → Shared → Prop} {o1 o2 o3 : Obj} {news : List (Addr × Obj)}
theorem turn_s {p1 p2 p3 p4 p5 : Pos} {rs : List (Int × Int)} (X : (hd.heap_39 w.params).In h₀) (T : Top topProg lo mean mg mb h₀) (B : Below callerA h₀ [] h₀) (hrs : ∀ r ∈ rs, r ∈ pre 6 0) :
  TurnS w (callerA.deeper (lawEnv L fa cd)) h₀ L m (.List [.Call (.Name (Str.ofString "_law_size") p1) [.Name (Str.ofString "one") p2] [] p3, .Name (Str.ofString "one") p4] p5) (Str.ofString "one") sizeSc [] (lawEnv L fa cd) rs := by
  intro l u1 u2 u3 n3 rg I oI C oC D oD m₂ nw s' Q' E' hrg hl hC hx F N hret
  obtain ⟨⟨b1, b2⟩, hz⟩ := pre_ok rg (hrs rg hrg)
  have N2 : News h₀ L s'.heap ((C, oC) :: (l, L3 rg.1 rg.2 0 u1 u2 u3 n3) :: ((I, oI) :: (C, oC) :: (D, oD) :: nw)) := by
    refine news_sub N (fun q hq => ?_)
    simp only [List.mem_cons] at hq ⊢
    rcases hq with rfl | rfl | hq
    · exact Or.inr (Or.inl rfl)
    · exact Or.inr (Or.inr (Or.inr hl))
    · exact hq
  refine wpAny_List (wpAny_items_cons (sz_call X T B hC hx F N2 b1 b2 fun t h' tk' F' N' => ?_))
  have gC := N' (C, oC) (List.mem_cons_self ..)
  refine wpAny_items_cons (ldVarK (hC.ns gC.1) hx (wpAny_items_nil ⟨Nat.le_of_ble_eq_true rfl, ?_⟩))
  have N3 : News h₀ L h' ((I, oI) :: (C, oC) :: (D, oD) :: nw) := news_sub N' (fun q hq => .tail _ (.tail _ hq))
  have lt : ∀ {b : Addr} {o}, h'.get? b = some o → @Ne Nat h'.objs.size b := fun e => Nat.ne_of_gt (Heap.lt_size e)
  refine hret h'.objs.size t _ _ (F'.push _) (fun p hp => ?_) ⟨lt (N3 (I, oI) (by simp)).1, lt (N3 (C, oC) (by simp)).1, lt (N3 (D, oD) (by simp)).1⟩
  rcases List.mem_cons.mp hp with rfl | hp
  · exact ⟨Heap.get?_push_size _ rfl, Nat.ne_of_gt F'.ns.lt, next_is_new F'⟩
  · exact ⟨Heap.get?_push_of_some _ (N3 p hp).1, (N3 p hp).2⟩
/-- the order of the pairs -/
noncomputable def gtR (a b : Int × Int) : Bool := decide (GtK (szI a.1 a.2 0) a.1 a.2 (szI b.1 b.2 0) b.1 b.2)
noncomputable def btR (rs : List (Int × Int)) (i j : Nat) : Bool := gtR (rs[i]?.getD (0, 0)) (rs[j]?.getD (0, 0))
/-- the greatest of them -/
noncomputable def bestR (rs : List (Int × Int)) : Int × Int := rs[argBest (btR rs) (rs.length - 1)]?.getD (0, 0)
theorem pair_lists {h : Heap} {L : Addr} {nw : List (Addr × Obj)} {a l : Addr} {t u1 u2 u3 n n' : Nat} {k r g : Int} (N : News h₀ L h nw) (h1 : (a, W.listOf #[.int k t, .ref l] n) ∈ nw) (h2 : (l, L3 r g 0 u1 u2 u3 n') ∈ nw) : h.IsList a #[.int k t, .ref l] ∧ h.IsList l #[.int r u1, .int g u2, .int 0 u3] :=
  ⟨⟨_, (N _ h1).1, rfl, _, rfl⟩, ⟨_, (N _ h2).1, rfl, _, rfl⟩⟩
theorem gt_all {A : Around} {h₀ : Heap} {L D : Addr} {m : Str → Option Value} {nw : List (Addr × Obj)} {vs : List Value} {rs : List (Int × Int)} (P : Paired (PairAt nw) vs rs) (hu : A.units + 1 < cLine) :
    ∀ i j vi vj (s' : Shared), vs[i]? = some vi → vs[j]? = some vj → Fr h₀ L s'.heap m → News h₀ L s'.heap ((D, lst vs) :: nw) → GtAt A s' vi vj (btR rs i j) := by
  intro i j vi vj s' hi hj _ N
  have N2 : News h₀ L s'.heap nw := fun p hp => N p (.tail _ hp)
  obtain ⟨r, hr, a, l, t, u1, u2, u3, n, n', rfl, h1, h2⟩ := paired_get P hi
  obtain ⟨r', hr', a', l', t', u1', u2', u3', n1, n1', rfl, h1', h2'⟩ := paired_get P hj
  unfold btR gtR
  rw [hr, hr']
  simp only [Option.getD_some]
  exact gt_pair (pair_lists N2 h1 h2).1 (pair_lists N2 h1' h2').1 (pair_lists N2 h1 h2).2 (pair_lists N2 h1' h2').2 hu
theorem best_pair {nw : List (Addr × Obj)} {vs : List Value} {rs : List (Int × Int)} {v : Value} (P : Paired (PairAt nw) vs rs) (hv : vs[argBest (btR rs) (vs.length - 1)]? = some v) : PairAt nw v (bestR rs) := by
  obtain ⟨r, hr, h⟩ := paired_get P hv
  unfold bestR
  rw [← P.length, hr]
  exact h
section
variable {Q : Value → Shared → Prop}
theorem ev_right {D : Addr} {zs : List Value} {rs : List (Int × Int)} {p1 p2 p3 p4 p5 p6 p7 p8 p9 p10 p11 p12 : Pos} {k1 : Nat} (X : (hd.heap_39 w.params).In h₀) (T : Top topProg lo mean mg mb h₀) (B : Below callerA h₀ [] h₀)
  (F : Fr h₀ L s.heap m) (N : News h₀ L s.heap news) (hmb : m (Str.ofString "both") = some (.ref D)) (hD : (D, lst zs) ∈ news) (hsz : zs.toArray.size ≤ sizeLine) (Pr : Paired (ItemAt news) zs rs) (hrs : ∀ r ∈ rs, r ∈ pre 6 0) (hne : 0 < rs.length)
  (hret : ∀ (l : Addr) (u1 u2 u3 n : Nat) (nw : List (Addr × Obj)) (h' : Heap) (tk' : Nat), (∀ p ∈ news, p ∈ nw) → Fr h₀ L h' m → News h₀ L h' ((l, L3 (bestR rs).1 (bestR rs).2 0 u1 u2 u3 n) :: nw) → Q (.ref l) { s with heap := h', toks := tk' }) :
  wpAny (model prg w) (callerA.deeper (lawEnv L fa cd)) (eval (.Subscript (.Call (.Name (Str.ofString "max") p1) [.ListComp (.List [.Call (.Name (Str.ofString "_law_size") p2) [.Name (Str.ofString "one") p3] [] p4, .Name (Str.ofString "one") p5] p6) [⟨.Name (Str.ofString "one") p7, .Name (Str.ofString "both") p8, [], 0⟩] sizeSc p9] [] p10) (.Constant (.int 1) k1 p11) p12) (lawEnv L fa cd)) Q E s := by
  have F0 := fr_at F hmb
  have em : (fun z => if z = Str.ofString "both" then some (Value.ref D) else m z) = m := by
    funext z
    by_cases q : z = Str.ofString "both"
    · rw [if_pos q, q, hmb]
    · rw [if_neg q]
  rw [← em] at hret
  clear F em
  refine by_endV ?_
  w_top off
  k_with_none
  k_with "eval ListComp" => (k_here; k_dflt (refine LCg.ListComp_U (F₀ := by k_asm) (by with_unfolding_all rfl) (by decide) (by rfl) (by decide) (by rfl) ?_))
  k_with "CompSrc" => (k_here; k_dflt (refine LCg.CompSrc.ledger (by rfl) (by k_asm) (by k_asm) hD hsz ?_; intro g5; refine size_rest (turn_s X T B hrs) hD ?_ Pr [] [] 0 [] news rfl rfl rfl (fun p hp => hp) .nil; intro zs5 nw5 sub5 P5 D5 h5 tk5 F5 N5 off5; clear off5); (try dsimp only); (try k_fold))
  k_with "call builtin:max" => (k_here; (with_reducible show wpAny _ _ (call (Value.builtin "max") [Value.ref _]) _ _ _); k_dflt (refine max_k (btR rs) (by rfl) F5 N5 (List.mem_cons_self ..) (by rw [P5.length]; exact hne) (gt_all P5 (by first | ktr_units | exact Nat.lt_of_ble_eq_true rfl)) ?_; intro v6 h6 tk6 hv6 F6 N6; obtain ⟨a6, l6, t6, u6, v7, w6, n6, n7, rfl, ha6, hl6⟩ := best_pair P5 hv6; (have N7 := news_with (news_with (news_sub N6 (fun q hq => .tail _ hq)) hl6) (.tail _ ha6)); clear N6); (try dsimp only); (try k_fold))
  k_with "EndV" => ((with_reducible show EndV _ _ _); k_dflt (exact hret l6 _ _ _ _ nw5 _ _ sub5 (by k_asm) (news_sub N7 (fun q hq => .tail _ hq))))
  k_steps
end
end
end
section
open PySem PySem.W PyProof.Rows
set_option maxRecDepth 100000
set_option maxHeartbeats 8000000


/-- a mail in quotes -/
noncomputable def quo (a b c : Nat) : Str := Str.ofString "\"" ++ mailS a b c ++ Str.ofString "\""
noncomputable def mails (a b c d e f : Nat) : Str := Str.join (Str.ofString " ") [quo a b c, quo d e f]
theorem q_len : (Str.ofString "\"").length = 1 := by decide
theorem sp_len : (Str.ofString " ").length = 1 := by decide
theorem quo_len (a b c : Nat) : (quo a b c).length = a + b + c + 6 := by
  unfold quo
  rw [Str.length_append, Str.length_append, mailS_len, q_len]
  omega
theorem mails_len (a b c d e f : Nat) : (mails a b c d e f).length = a + b + c + d + e + f + 13 := by
  unfold mails
  simp only [Str.join, Str.length_append, quo_len, sp_len]
  omega
theorem mails_cps (a b c d e f : Nat) : (mails a b c d e f).cps.toList = 34 :: (mailL a b c ++ 34 :: 32 :: 34 :: (mailL d e f ++ [34])) := by
  have hq : (Str.ofString "\"").cps.toList = [34] := by decide +kernel
  have hs : (Str.ofString " ").cps.toList = [32] := by decide +kernel
  have ap : ∀ x y : Str, (x ++ y).cps.toList = x.cps.toList ++ y.cps.toList := fun x y => Array.toList_append
  have hm : ∀ u v z, (mailS u v z).cps.toList = mailL u v z := fun u v z => by rw [mail_cps]; rfl
  unfold mails quo
  simp only [Str.join]
  simp only [ap, hq, hs, hm]
  simp
section
variable {w : World} {A : Around} {s : Shared} {Q E : Value → Shared → Prop} {t u : Tok}
theorem addq1 {a b c : Nat} (h : a + b + c < 1000) (hQ : ∀ t' k, Q (.str (Str.ofString "\"" ++ mailS a b c) t') { s with toks := k }) : wpAny (model prg w) A (binaryOp .Add (.str (Str.ofString "\"") t) (.str (mailS a b c) u)) Q E s :=
  add_str hQ (by rw [mailS_len, q_len, sizeLine_eq]; omega)
theorem addq2 {a b c : Nat} (h : a + b + c < 1000) (hQ : ∀ t' k, Q (.str (quo a b c) t') { s with toks := k }) : wpAny (model prg w) A (binaryOp .Add (.str (Str.ofString "\"" ++ mailS a b c) t) (.str (Str.ofString "\"") u)) Q E s :=
  add_str hQ (by rw [Str.length_append, mailS_len, q_len, sizeLine_eq]; omega)
theorem join2_k {D : Addr} {a b c d e f k : Nat} {t1 t2 : Tok} (hl : s.heap.get? D = some { cls := .type "list", data := .seq #[.str (quo a b c) t1, .str (quo d e f) t2] k }) (h1 : a + b + c < 1000) (h2 : d + e + f < 1000)
    (h : ∀ t' k, Q (.str (mails a b c d e f) t') { s with toks := k }) : wpAny (model prg w) A (call (.builtin "str.join") [.str (Str.ofString " ") t, .ref D]) Q E s :=
  join_list (items := #[.str (quo a b c) t1, .str (quo d e f) t2]) (ys := [quo a b c, quo d e f]) ⟨_, hl, rfl, _, rfl⟩ (.cons _ _ (.cons _ _ .nil)) (by simp only [List.map, List.sum_cons, List.sum_nil, quo_len, sp_len, List.length]; omega)
    (fun t' k => (show Txt.join (Str.ofString " ") [quo a b c, quo d e f] = mails a b c d e f from StrLaws.glued_eq_join _ _) ▸ h t' k)
end
theorem lex_off {L : Addr} {x d pb f c lf cell sx sd spb : Addr} {o1 : Obj} {ps : Array Value} (hL6 : 106 < L) (hord : @LT.lt Nat _ cell lf ∧ @LT.lt Nat _ lf sd ∧ @LT.lt Nat _ sd sx ∧ @LT.lt Nat _ sx spb ∧ @LT.lt Nat _ spb c ∧ @LT.lt Nat _ c f ∧ @LT.lt Nat _ f d ∧ @LT.lt Nat _ d x ∧ @LT.lt Nat _ x pb)
    {P a b : Addr} {oP oa ob o2 o3 : Obj} (h : ∀ p ∈ [(P, oP), (a, oa), (b, ob), (L + 1, o1), (L + 1 + 1, o2), (L + 1 + 1 + 1, o3)], p.1 < cell) : ∀ p ∈ (106, tabObj ps) :: [(P, oP), (a, oa), (b, ob), (L + 1, o1), (L + 1 + 1, o2), (L + 1 + 1 + 1, o3)], p.1 ≠ d ∧ p.1 ≠ lf ∧ p.1 ≠ pb := by
  have k : ∀ y : Nat, @LT.lt Nat _ y cell → y ≠ d ∧ y ≠ lf ∧ y ≠ pb := fun y hy => by clear h; omega
  intro p hp
  rcases List.mem_cons.mp hp with rfl | hp
  · refine k _ ?_
    have : @LT.lt Nat _ (L + 1) cell := h (L + 1, o1) (by simp)
    have h6 : @LT.lt Nat _ 106 L := hL6
    show @LT.lt Nat _ 106 cell
    omega
  · exact k _ (h p hp)
section
variable {x y z m : Int} {a b c d e f : Nat}
theorem mz1 (hx : x < 20) (hm : 0 ≤ m) : (x - m + 1).toNat < 21 := by omega
theorem mz3 (h1 : a < 21) (h2 : b < 21) (h3 : c < 21) : a + b + c < 100 := by omega
theorem mz (hx : 0 ≤ x ∧ x < 20) (hy : 0 ≤ y ∧ y < 20) (hz : 0 ≤ z ∧ z < 20) : (x - min (min x y) z + 1).toNat + (y - min (min x y) z + 1).toNat + (z - min (min x y) z + 1).toNat < 100 :=
  have hm : 0 ≤ min (min x y) z := Int.le_min.mpr ⟨Int.le_min.mpr ⟨hx.1, hy.1⟩, hz.1⟩
  mz3 (mz1 hx.2 hm) (mz1 hy.2 hm) (mz1 hz.2 hm)
theorem mz6 (h : a + b + c < 100) (k : d + e + f < 100) : a + b + c + d + e + f + 13 < 300 := by omega
theorem mz400 (h : 0 ≤ x ∧ x < 20) : -400 < x ∧ x < 400 := by omega
end
/-- a drawn number as the mail's three counts -/
noncomputable abbrev triN (X Y Z : Int) : Tri := ((X - min (min X Y) Z + 1).toNat, (Y - min (min X Y) Z + 1).toNat, (Z - min (min X Y) Z + 1).toNat)
section
variable {w : World} {mean : ExcName → Option Value} {mg mb : Str → Option Value} {h₀ : Heap} {L fa : Addr} {cd : Value} {m : Str → Option Value} {s : Shared} {Q : Flow → Shared → Prop} {E : Value → Shared → Prop} {o1 o2 o3 : Obj}
theorem st_measure {p1 p2 p3 p6 p7 p8 p9 p10 p11 p12 p13 p14 p15 p17 p18 p19 : Pos} {k1 k2 k3 : Nat} {P a b : Addr} {X₁ Y₁ Z₁ X₂ Y₂ Z₂ : Int} {t1 t2 t3 t4 t5 t6 n1 n2 : Nat} {St : Nat → Tri → Tri → Prop} (SO : StOk St)
  (B : Below callerA h₀ [] h₀) (X : (hd.heap_39 w.params).In h₀) (T : Top topProg lo mean mg mb h₀) (CH : CodeHd h₀ 110 106) (hL6 : 106 < L) (F : Fr h₀ L s.heap m)
  (N : News h₀ L s.heap [(106, tabObj #[]), (P, LCg.lst [.ref a, .ref b]), (a, L3 X₁ Y₁ Z₁ t1 t2 t3 n1), (b, L3 X₂ Y₂ Z₂ t4 t5 t6 n2), (L + 1, o1), (L + 1 + 1, o2), (L + 1 + 1 + 1, o3)]) (d1 : o1.data = .cell (some (.ref P))) (d2 : o2.data = .cell none)
  (h106 : ∀ p ∈ [(P, LCg.lst [.ref a, .ref b]), (a, L3 X₁ Y₁ Z₁ t1 t2 t3 n1), (b, L3 X₂ Y₂ Z₂ t4 t5 t6 n2), (L + 1, o1), (L + 1 + 1, o2), (L + 1 + 1 + 1, o3)], p.1 ≠ 106)
  (bX1 : 0 ≤ X₁ ∧ X₁ < 20) (bY1 : 0 ≤ Y₁ ∧ Y₁ < 20) (bZ1 : 0 ≤ Z₁ ∧ Z₁ < 20) (bX2 : 0 ≤ X₂ ∧ X₂ < 20) (bY2 : 0 ≤ Y₂ ∧ Y₂ < 20) (bZ2 : 0 ≤ Z₂ ∧ Z₂ < 20)
  (h0 : St 0 (triN X₁ Y₁ Z₁) (triN X₂ Y₂ Z₂))
  (hret : ∀ (i : Nat) (u v e : Nat) (q : Tri) (M : Addr) (t t' t'' : Nat) (o2' : Obj) (ps : Array Value) (m' : Str → Option Value) (h' : Heap) (tk' : Nat), St i (u, v, e) q → szT q = 0 → o2'.data = .cell (some (.ref M)) → Fr h₀ L h' m' →
    News h₀ L h' [(M, LCg.lst [.int u t, .int v t', .int e t'']), (106, tabObj ps), (P, LCg.lst [.ref a, .ref b]), (a, L3 X₁ Y₁ Z₁ t1 t2 t3 n1), (b, L3 X₂ Y₂ Z₂ t4 t5 t6 n2), (L + 1, o1), (L + 1 + 1, o2'), (L + 1 + 1 + 1, o3)] → Q .next { s with heap := h', toks := tk' }) :
  wpAny (model prg w) (callerA.deeper (lawEnv L fa cd)) (exec (.Assign [.Name (Str.ofString "measure") p1] (.Call (.Name (Str.ofString "_law_measure") p2) [.Call (.Name (Str.ofString "_law_lexer") p3) [.Call (.Attribute (.Constant (.str (Str.ofString " ")) k1 ⟨140, 38, 140, 41⟩) (Str.ofString "join") ⟨140, 38, 140, 46⟩)
    [.ListComp (.BinOp (.BinOp (.Constant (.str (Str.ofString "\"")) k2 p6) .Add (.Call (.Name (Str.ofString "_law_mail") p7) [.Name (Str.ofString "parts") p8] [] p9) p10) .Add (.Constant (.str (Str.ofString "\"")) k3 p11) p12)
      [⟨.Name (Str.ofString "parts") p13, .Name (Str.ofString "pair") p14, [], 0⟩] { kind := .function, names := [(Str.ofString ".0", .local), (Str.ofString "parts", .local), (Str.ofString "_law_mail", .globalImplicit)], isGenerator := false, isCoroutine := false } p15] [] ⟨140, 38, 140, 96⟩] [] p17] [] p18) p19) (lawEnv L fa cd)) Q E s := by
  refine by_end ?_
  w_top off
  k_with_none
  k_with "eval ListComp" => (k_here; (with_reducible show wpAny _ _ (eval (Expr.ListComp _ _ _ _) _) _ _ _); k_dflt (refine LCg.ListComp_U (F₀ := by k_asm) (by with_unfolding_all rfl) (by decide) (by rfl) (by decide) (by rfl) ?_))
  k_with "CompSrc" => (k_here; k_dflt (refine LCg.CompSrc.ledger (by rfl) (by k_asm) (by k_asm) (by k_mem) (by exact Nat.le_of_ble_eq_true rfl) ?_; intro g'; lcg_lit))
  k_with "CompRest" => (with_unfolding_all first | (refine LCg.CompRest.succ ?_; intro v' I' oI' C' oC' D' m' h' tk' E' hv' hC' hx' F' N' off' ne'; (first | lcg_open hv' | (obtain ⟨t9', hv9'⟩ := hv'; subst hv9'))) | refine LCg.CompRest.zero ?_)
  k_with "CompEnd" => (k_dflt (first | refine cend0 (by k_asm) (by k_asm) (by assumption) (by lcg_src) ?_ | refine cend1 (by k_asm) (by k_asm) (by assumption) (by assumption) (by lcg_src) ?_))
  k_with "call ref" => (k_here; (with_reducible show wpAny _ _ (call (Value.ref 128) _) _ _ _); k_dflt (refine' mail_k ?q110k1 ?q110k2 ?q110k3 ?q110k4 ?q110k5 ?q110k6 ?q110k6b ?q110k7 ?q110k8 ?q110k9 ?q110k10 ?q110k11 ?_; (case q110k1 => k_asm); (case q110k2 => k_asm); (case q110k3 => k_asm); (case q110k4 => k_asm); (case q110k5 => k_asm); (case q110k6 => first | exact rfl | assumption); (case q110k6b => k_mem); (case q110k7 => first | walk_at "mine lx" | omega); (case q110k8 => first | walk_at "mine lx" | omega); (case q110k9 => first | walk_at "mine lx" | omega); (case q110k10 => (first | exact Nat.lt_of_lt_of_le (Nat.add_lt_add_right hdp _) (by decide) | exact Nat.lt_of_lt_of_le hdp (by decide) | omega | ((try simp only [depth_under_make, depth_under_kw, depth_in1, depth_deeper, depth_caller]); (try dsimp only [ktrTop]); omega))); (case q110k11 => (first | exact Nat.lt_of_lt_of_le (Nat.add_lt_add_right hun _) (by decide) | exact Nat.lt_of_lt_of_le hun (by decide) | omega | ((try simp only [units_in1, units_deeper, Around.mark_units, units_caller]); (try dsimp only [ktrTop]); omega)))); intro t9 h9 tk9 F9 N9; (try dsimp only); (try k_fold))
  k_with "binaryOp Add str str" => (k_here; (first | ((with_reducible show wpAny _ _ (binaryOp _ (Value.str (HAppend.hAppend _ _) _) _) _ _ _); k_dflt (refine addq2 (by first | walk_at "mine lx" | omega) (fun t9 k9 => ?_))) | k_dflt (refine addq1 (by first | walk_at "mine lx" | omega) (fun t9 k9 => ?_))); (try dsimp only))
  k_with "call builtin:str.join" => (k_here; (with_reducible show wpAny _ _ (call (Value.builtin "str.join") _) _ _ _); k_dflt (refine join2_k (News.get (by k_asm) (by k_mem)) (by first | walk_at "mine lx" | omega) (by first | walk_at "mine lx" | omega) (fun t9 k9 => ?_)); (try dsimp only))
  k_with "mine oth" => first | exact List.forall_mem_nil _ | (refine' List.forall_mem_cons.mpr ⟨⟨?q113zo1, ?q113zo2⟩, ?q113zo3⟩; (case q113zo1 => k_mem); (case q113zo2 => first | exact Or.inr nc_seq | exact Or.inr nc_fields | exact Or.inl c12 | exact Or.inl c13 | exact Or.inl c21 | exact Or.inl c23 | exact Or.inl c31 | exact Or.inl c32); (case q113zo3 => walk_at "mine oth"))
  k_with "mine lx" => with_reducible first | exact mz400 bX1 | exact mz400 bY1 | exact mz400 bZ1 | exact mz400 bX2 | exact mz400 bY2 | exact mz400 bZ2 | exact Nat.lt_trans (mz bX1 bY1 bZ1) (by decide) | exact Nat.lt_trans (mz bX2 bY2 bZ2) (by decide) | exact Nat.lt_trans (mz6 (mz bX1 bY1 bZ1) (mz bX2 bY2 bZ2)) (by decide)
  k_with "call ref" => (k_here; (with_reducible show wpAny _ _ (call (Value.ref 111) [Value.str _ _]) _ _ _); k_dflt (refine' lexer_k (news := [(P, LCg.lst [.ref a, .ref b]), (a, L3 X₁ Y₁ Z₁ t1 t2 t3 n1), (b, L3 X₂ Y₂ Z₂ t4 t5 t6 n2), (L + 1, o1), (L + 1 + 1, o2), (L + 1 + 1 + 1, o3)]) ?q115zk1 ?q115zk2 ?q115zk3 ?q115zk4 ?q115zk5 ?q115zk6 CH h106 hL6 ?q115zk7 ?q115zk8 ?q115zk9 ?_; (case q115zk1 => k_asm); (case q115zk2 => k_asm); (case q115zk3 => k_asm); (case q115zk4 => (first | k_asm | (refine' news_sub ?q115n1 ?q115n2; (case q115n1 => k_asm); (case q115n2 => kcj_all)))); (case q115zk5 => k_asm); (case q115zk6 => first | exact rfl | assumption); (case q115zk7 => (rw [mails_len]; first | walk_at "mine lx" | omega)); (case q115zk8 => (first | exact Nat.lt_of_lt_of_le (Nat.add_lt_add_right hdp _) (by decide) | exact Nat.lt_of_lt_of_le hdp (by decide) | omega | ((try simp only [depth_under_make, depth_under_kw, depth_in1, depth_deeper, depth_caller]); (try dsimp only [ktrTop]); omega))); (case q115zk9 => (first | exact Nat.lt_of_lt_of_le (Nat.add_lt_add_right hun _) (by decide) | exact Nat.lt_of_lt_of_le hun (by decide) | omega | ((try simp only [units_in1, units_deeper, Around.mark_units, units_caller]); (try dsimp only [ktrTop]); omega)))); intro x d pb f c lf cell sx sd spb q1 q2 q3 q4 tw j1 j2 j3 j4 j5 jl jw tq jn fq doc pm ct oc ocl vsc ln tl nlf npb lv ps h9 tk9 hc1 hc2 hcell hord hbel hch F9 N9; (try dsimp only); (try k_fold))
  k_with "call ref" => (k_here; (with_reducible show wpAny _ _ (call (Value.ref 145) [Value.ref _]) _ _ _); k_dflt (refine' measure_k (p₀ := triN X₁ Y₁ Z₁) (q₀ := triN X₂ Y₂ Z₂) (news := (106, tabObj ps) :: [(P, LCg.lst [.ref a, .ref b]), (a, L3 X₁ Y₁ Z₁ t1 t2 t3 n1), (b, L3 X₂ Y₂ Z₂ t4 t5 t6 n2), (L + 1, o1), (L + 1 + 1, o2), (L + 1 + 1 + 1, o3)]) SO hc1 hc2 hcell hord ?q116zo ?q116zk1 ?q116zk2 ?q116zk3 N9 ?q116zk5 ?q116zk6 CH (TS.two (by rw [mails_cps] at hch; exact hch)) h0 ?q116zk8 ?q116zk9 ?_; (case q116zo => exact lex_off hL6 hord hbel); (case q116zk1 => k_asm); (case q116zk2 => k_asm); (case q116zk3 => k_asm); (case q116zk5 => k_asm); (case q116zk6 => first | exact rfl | assumption); (case q116zk8 => (first | exact Nat.lt_of_lt_of_le (Nat.add_lt_add_right hdp _) (by decide) | exact Nat.lt_of_lt_of_le hdp (by decide) | omega | ((try simp only [depth_under_make, depth_under_kw, depth_in1, depth_deeper, depth_caller]); (try dsimp only [ktrTop]); omega))); (case q116zk9 => (first | exact Nat.lt_of_lt_of_le (Nat.add_lt_add_right hun _) (by decide) | exact Nat.lt_of_lt_of_le hun (by decide) | omega | ((try simp only [units_in1, units_deeper, Around.mark_units, units_caller]); (try dsimp only [ktrTop]); omega)))); intro i9 u9 v9 e9 q9 M9 w1 w2 w3 h8 tk8 hSt hz F8 N8; (try dsimp only); (try k_fold))
  k_with "storeName" => (k_here; k_dflt (refine' storeC_k [(_, LCg.lst [.int _ _, .int _ _, .int _ _]), (106, tabObj _), (_, LCg.lst [.ref ?q117zra, .ref ?q117zrb]), (?q117zra, L3 _ _ _ _ _ _ _), (?q117zrb, L3 _ _ _ _ _ _ _), (L + 1, _), (L + 1 + 1 + 1, _)] ?q117zcF ?q117zcN ?q117zcl ?q117zcm ?q117zcd ?q117zcs ?_ ?q117zck ?q117zcx; (case q117zck => rfl); (case q117zcx => rfl); (case q117zcF => k_asm); (case q117zcN => k_asm); (case q117zcl => rfl); (case q117zcm => k_mem); (case q117zcd => assumption); (case q117zcs => walk_at "mine oth")); intro h9 o9 d9 F9 N9; (try dsimp only))
  k_with "EndS" => ((with_reducible show EndS _ _ _); k_dflt (refine' hret _ _ _ _ _ _ _ _ _ _ _ _ _ _ ?q118zh1 ?q118zh2 ?q118zh3 ?q118zh4 ?q118zh5; (case q118zh4 => k_asm); (case q118zh5 => (first | k_asm | (refine' news_sub ?q118n1 ?q118n2; (case q118n1 => k_asm); (case q118n2 => kcj_all)))); (case q118zh1 => assumption); (case q118zh2 => assumption); (case q118zh3 => assumption)))
  k_steps
end
end
section
open PySem PySem.W PyProof.Rows
set_option maxRecDepth 100000
set_option maxHeartbeats 8000000

/-- the end of the law for one measure -/
noncomputable def tailChk (p : Tri) : Bool :=
  let f := Float64.mul (hueF p.1 p.2.1 p.2.2) (Float64.ofInt 6)
  let W := Flt.toInt Float64.truncOf f
  let k := (6 - W).fmod 6
  let X := p.1 * xi k + p.2.1 * zi k + p.2.2 * yi k
  let Y := p.1 * yi k + p.2.1 * xi k + p.2.2 * zi k
  let Z := p.1 * zi k + p.2.2 * xi k + p.2.1 * yi k
  let rs := (pre 6 0).filter fun r => dvI r.1 r.2 0 p.1 p.2.1 p.2.2
  (!Float64.isNaN f) && (!Float64.isInf f) && decide (0 ≤ W) && decide (W < 7) && decide (0 < rs.length) && decide (bestR rs = (X - min (min X Y) Z, Y - min (min X Y) Z)) && decide (Z - min (min X Y) Z = 0)
theorem tl1 : (row 1).all (fun p => decide (szT p = 0) || tailChk p) = true := by decide +kernel
theorem tl2 : (row 2).all (fun p => decide (szT p = 0) || tailChk p) = true := by decide +kernel
theorem tl3 : (row 3).all (fun p => decide (szT p = 0) || tailChk p) = true := by decide +kernel
theorem tl4 : (row 4).all (fun p => decide (szT p = 0) || tailChk p) = true := by decide +kernel
theorem tl5 : (row 5).all (fun p => decide (szT p = 0) || tailChk p) = true := by decide +kernel
theorem tl6 : (row 6).all (fun p => decide (szT p = 0) || tailChk p) = true := by decide +kernel
theorem tl7 : (row 7).all (fun p => decide (szT p = 0) || tailChk p) = true := by decide +kernel
theorem tail_ok {p : Tri} (h : InS p) (h0 : szT p ≠ 0) : tailChk p = true := by
  have := by_rows tl1 tl2 tl3 tl4 tl5 tl6 tl7 h
  rw [Bool.or_eq_true, decide_eq_true_iff] at this
  exact this.resolve_left h0
theorem start_all : ∀ r < 6, ∀ g < 6, ∀ k < 6, szI (((r : Nat) + 1 : Int) * xi (k : Nat) + (g : Nat) * zi (k : Nat)) (((r : Nat) + 1 : Int) * yi (k : Nat) + (g : Nat) * xi (k : Nat)) (((r : Nat) + 1 : Int) * zi (k : Nat) + (g : Nat) * yi (k : Nat)) ≤ 36 ∧
    szI (((r : Nat) + 1 : Int) * xi (k : Nat) + (g : Nat) * zi (k : Nat)) (((r : Nat) + 1 : Int) * yi (k : Nat) + (g : Nat) * xi (k : Nat)) (((r : Nat) + 1 : Int) * zi (k : Nat) + (g : Nat) * yi (k : Nat)) ≠ 0 := by decide +kernel
theorem start_sz {X Y Z : Int} (h : Start X Y Z) : szI X Y Z ≤ 36 ∧ szI X Y Z ≠ 0 := by
  obtain ⟨r, g, k, hr, hg, hk, rfl, rfl, rfl⟩ := h
  have := start_all (r - 1).toNat (by omega) g.toNat (by omega) k.toNat (by omega)
  rw [show (((r - 1).toNat : Nat) : Int) + 1 = r by omega, show ((g.toNat : Nat) : Int) = g by omega, show ((k.toNat : Nat) : Int) = k by omega] at this
  exact this
theorem tri_cast {X Y Z : Int} : ∃ s : Int, ((triN X Y Z).1 : Int) = X + s ∧ ((triN X Y Z).2.1 : Int) = Y + s ∧ ((triN X Y Z).2.2 : Int) = Z + s ∧ min (min (triN X Y Z).1 (triN X Y Z).2.1) (triN X Y Z).2.2 = 1 := by
  obtain ⟨m1, m2, m3, m4⟩ := min_facts X Y Z
  obtain ⟨r1, r2, r3, r4⟩ := tri_norm m1 m2 m3 m4
  unfold triN
  generalize min (min X Y) Z = mm at *
  refine ⟨1 - mm, r1.trans (by clear r1 r2 r3 r4 m1 m2 m3 m4; omega), r2.trans (by clear r1 r2 r3 r4 m1 m2 m3 m4; omega), r3.trans (by clear r1 r2 r3 r4 m1 m2 m3 m4; omega), r4⟩
theorem start_inS {X Y Z : Int} (h : Start X Y Z) : InS (triN X Y Z) ∧ szT (triN X Y Z) ≠ 0 ∧ ∀ o0 o1 o2, dvI o0 o1 o2 (triN X Y Z).1 (triN X Y Z).2.1 (triN X Y Z).2.2 = dvI o0 o1 o2 X Y Z := by
  obtain ⟨s, e1, e2, e3, e4⟩ := tri_cast (X := X) (Y := Y) (Z := Z)
  have hs := start_sz h
  have es : szT (triN X Y Z) = szI X Y Z := by
    show szI _ _ _ = _
    rw [e1, e2, e3, szI_shift]
  refine ⟨⟨e4, by rw [es]; exact hs.1⟩, by rw [es]; exact hs.2, fun o0 o1 o2 => ?_⟩
  rw [e1, e2, e3]
  unfold dvI
  have d1 : X + s - (Z + s) = X - Z := by omega
  have d2 : Y + s - (Z + s) = Y - Z := by omega
  dsimp only
  rw [d1, d2]
theorem start_law {X₁ Y₁ Z₁ X₂ Y₂ Z₂ : Int} (h1 : Start X₁ Y₁ Z₁) (h2 : Start X₂ Y₂ Z₂) : LawSt (fun o0 o1 o2 => dvI o0 o1 o2 X₁ Y₁ Z₁ && dvI o0 o1 o2 X₂ Y₂ Z₂) 0 (triN X₁ Y₁ Z₁) (triN X₂ Y₂ Z₂) := by
  obtain ⟨a1, a2, a3⟩ := start_inS h1
  obtain ⟨b1, b2, b3⟩ := start_inS h2
  refine ⟨a1, b1, ?_, Or.inl a2, fun o0 o1 o2 => by rw [a3, b3]⟩
  have := mu_le (triN X₁ Y₁ Z₁) (triN X₂ Y₂ Z₂)
  omega
end
section
open PySem PySem.W PyProof.Rows
set_option maxRecDepth 100000
set_option maxHeartbeats 8000000


open LCg
section
variable {w : World} {mean : ExcName → Option Value} {mg mb : Str → Option Value} {h₀ : Heap} {L fa : Addr} {cd : Value} {m : Str → Option Value} {s : Shared} {Q : Flow → Shared → Prop} {E : Value → Shared → Prop} {o1 o2 o3 : Obj} {news tl : List (Addr × Obj)}
theorem st_return {D Tn : Addr} {zs : List Value} {rs : List (Int × Int)} {x y z : Int} {u1 u2 u3 : Nat} {p1 p2 p3 p4 p5 p6 p7 p8 q1 q2 q3 q4 q5 q6 q7 q8 q9 q10 q11 q12 r1 r2 : Pos} {k1 : Nat} (X : (hd.heap_39 w.params).In h₀) (T : Top topProg lo mean mg mb h₀) (B : Below callerA h₀ [] h₀)
  (F : Fr h₀ L s.heap m) (N : News h₀ L s.heap ((L + 1 + 1 + 1, o3) :: (Tn, L3 x y z u1 u2 u3 0) :: tl)) (d3 : o3.data = .cell (some (.ref Tn))) (bX : 0 < x ∧ x < 100) (bY : 0 < y ∧ y < 100) (bZ : 0 < z ∧ z < 100)
  (hmb : m (Str.ofString "both") = some (.ref D)) (hD : (D, lst zs) ∈ tl) (hsz : zs.toArray.size ≤ sizeLine) (Pr : Paired (ItemAt tl) zs rs) (hrs : ∀ r ∈ rs, r ∈ pre 6 0) (hne : 0 < rs.length)
  (hb : bestR rs = (x - min (min x y) z, y - min (min x y) z)) (hz : z - min (min x y) z = 0)
  (hret : ∀ (h' : Heap) (tk' : Nat), Fr h₀ L h' m → News h₀ L h' tl → Q (.ret (.bool true)) { s with heap := h', toks := tk' }) :
  wpAny (model prg w) (callerA.deeper (lawEnv L fa cd)) (exec (.Return (some (.Compare (.ListComp (.BinOp (.Name (Str.ofString "part") p1) .Sub (.Call (.Name (Str.ofString "min") p2) [.Name (Str.ofString "turned") p3] [] p4) p5) [⟨.Name (Str.ofString "part") p6, .Name (Str.ofString "turned") p7, [], 0⟩] partSc p8) [.Eq]
    [.Subscript (.Call (.Name (Str.ofString "max") q1) [.ListComp (.List [.Call (.Name (Str.ofString "_law_size") q2) [.Name (Str.ofString "one") q3] [] q4, .Name (Str.ofString "one") q5] q6) [⟨.Name (Str.ofString "one") q7, .Name (Str.ofString "both") q8, [], 0⟩] sizeSc q9] [] q10) (.Constant (.int 1) k1 q11) q12] r1)) r2) (lawEnv L fa cd)) Q E s := by
  refine wpAny_Return_some (wpAny_Compare1 (ev_left X T B F N d3 bX bY bZ fun R t1 t2 t3 h' tk' F' N' => ?_))
  refine ev_right X T B F' N' hmb (.tail _ hD) hsz (paired_mono (fun p hp => .tail _ hp) Pr) hrs hne fun l v1 v2 v3 n nw h'' tk'' sub F'' N'' => ?_
  have gR := N'' _ (.tail _ (sub _ (List.mem_cons_self ..)))
  have gl := N'' _ (List.mem_cons_self ..)
  rw [hb, hz] at *
  have l1 : h''.IsList R #[.int (x - min (min x y) z) t1, .int (y - min (min x y) z) t2, .int 0 t3] := ⟨_, gR.1, rfl, _, rfl⟩
  have l2 : h''.IsList l #[.int (x - min (min x y) z) v1, .int (y - min (min x y) z) v2, .int 0 v3] := ⟨_, gl.1, rfl, _, rfl⟩
  refine EqBoolInt.of_rc (SeqAt.RcAt.lists (e := fun _ => true) l1 l2 rfl (by first | ktr_units | exact Nat.lt_of_ble_eq_true rfl) fun j h1 h2 => ?_) ?_
  · have eqt : ∀ (A : Around) (s : Shared) (a : Int) (t u : Tok), SeqAt.EqAt A s (.int a t) (.int a u) true := fun A s a t u => by
      have := SeqAt.EqAt.int_int (A := A) (s := s) a t a u
      rwa [show (a == a) = true by simp] at this
    match j, h1, h2 with
    | 0, _, _ => exact eqt _ _ _ _ _
    | 1, _, _ => exact eqt _ _ _ _ _
    | 2, _, _ => exact eqt _ _ _ _ _
    | j + 3, h1, _ => exact absurd (show j + 3 < 3 from h1) (by omega)
  · have e1 : ((List.range #[Value.int (x - min (min x y) z) t1, .int (y - min (min x y) z) t2, .int 0 t3].size).all fun _ => true) = true := by simp
    rw [e1]
    exact hret h'' tk'' F'' (fun p hp => N'' p (.tail _ (sub p (.tail _ hp))))
end
end
section
open PySem PySem.W PyProof.Rows
set_option maxRecDepth 100000
set_option maxHeartbeats 8000000


open LCg
theorem ne_cls {h₀ h : Heap} {L : Addr} {l : List (Addr × Obj)} {a : Addr} {o o' : Obj} (N : News h₀ L h l) (h1 : (a, o) ∈ l) (h2 : (106, o') ∈ l) (e : o.data ≠ o'.data) : a ≠ 106 := fun q => by
  subst q
  have := (N _ h1).1.symm.trans (N _ h2).1
  cases this
  exact e rfl
theorem paired_seqs {o : Addr × Obj} {news : List (Addr × Obj)} {ys : List Value} {rs : List (Int × Int)} (h : Paired (ItemAt news) ys rs) : Paired (ItemAt (o :: seqs news)) ys rs := by
  induction h with
  | nil => exact .nil
  | cons a _ ih => exact .cons ((item_seqs a).mono fun _ hp => .tail _ hp) ih
section
variable {w : World} {mean : ExcName → Option Value} {mg mb : Str → Option Value} {h₀ : Heap} {L fa : Addr} {cd : Value} {m : Str → Option Value} {s : Shared} {Q : Flow → Shared → Prop} {E : Value → Shared → Prop} {o1 o2 o3 : Obj}
theorem law_rest {ap1 ap2 ap3 ap4 ap5 ap6 ap7 ap8 ap9 ap10 ap11 ap12 ap13 ap14 ap15 ap16 ap17 ap18 ap19 ap20 ap21 ap22 bp1 bp2 bp3 bp6 bp7 bp8 bp9 bp10 bp11 bp12 bp13 bp14 bp15 bp17 bp18 bp19 cp1 cp2 cp3 cp4 cp5 cp6 cp7 cp8 cp9 cp10 cp11 cp12 cp13 cp14 dp1 dp2 dp3 dp4 dp5 dp6 dp7 dp8 dp9 dp10 dp11 dp12 dp13 dq1 dq2 dq3 dq4 ep1 ep2 ep3 ep4 eq1 eq2 eq3 eq4 eq5 eq6 eq7 fp1 fp2 fp3 fp4 fp5 fp6 fp7 fp8 fp9 fp10 fp11 fp12 fp13 fp14 fp15 fp16 fp17 fp18 fp19 gp1 gp2 gp3 gp4 gp5 gp6 gp7 gp8 gp9 gp10 hp1 hp2 hp3 hp4 hp5 hp6 hp7 hp8 hq1 hq2 hq3 hq4 hq5 hq6 hq7 hq8 hq9 hq10 hq11 hq12 hr1 hr2 : Pos} {ak1 ak2 ak3 ak4 ak5 ak6 bk1 bk2 bk3 ck1 ck2 ck3 dk1 dk2 fk1 fk2 fk3 fk4 fk5 gk1 gk2 hk1 : Nat} {ebody : List Stmt} {D : Addr} {x y : Int} {tx ty : Nat}
  (B : Below callerA h₀ [] h₀) (X : (hd.heap_39 w.params).In h₀) (T : Top topProg lo mean mg mb h₀) (CH : CodeHd h₀ 110 106) (hL6 : 106 < L) (F : Fr h₀ L s.heap m) (hm : m (Str.ofString "drawn") = some (.ref D))
  (N : News h₀ L s.heap [(D, LCg.lst [.int (x.fmod 216) tx, .int (y.fmod 216) ty]), (L + 1, o1), (L + 1 + 1, o2), (L + 1 + 1 + 1, o3), (106, tabObj #[])]) (d1 : o1.data = .cell none) (d2 : o2.data = .cell none) (d3 : o3.data = .cell none)
  (hret : ∀ (ps : Array Value) (m' : Str → Option Value) (h' : Heap) (tk' : Nat), Fr h₀ L h' m' → News h₀ L h' [(106, tabObj ps)] → Q (.ret (.bool true)) { s with heap := h', toks := tk' }) :
  wpAny (model prg w) (callerA.deeper (lawEnv L fa cd)) (execs [(.Assign [.Name (Str.ofString "pair") ap1] (.ListComp (.Call (.Name (Str.ofString "_law_times") ap2) [.List [.BinOp (.Constant (.int 1) ak1 ap3) .Add (.BinOp (.Name (Str.ofString "v") ap4) .Mod (.Constant (.int 6) ak2 ap5) ap6) ap7, .BinOp (.BinOp (.Name (Str.ofString "v") ap8) .FloorDiv (.Constant (.int 6) ak3 ap9) ap10) .Mod (.Constant (.int 6) ak4 ap11) ap12, .Constant (.int 0) ak5 ap13] ap14, .BinOp (.Name (Str.ofString "v") ap15) .FloorDiv (.Constant (.int 36) ak6 ap16) ap17] [] ap18) [⟨.Name (Str.ofString "v") ap19, .Name (Str.ofString "drawn") ap20, [], 0⟩] { kind := .function, names := [(Str.ofString ".0", .local), (Str.ofString "v", .local), (Str.ofString "_law_times", .globalImplicit)], isGenerator := false, isCoroutine := false } ap21) ap22),
    (.Assign [.Name (Str.ofString "measure") bp1] (.Call (.Name (Str.ofString "_law_measure") bp2) [.Call (.Name (Str.ofString "_law_lexer") bp3) [.Call (.Attribute (.Constant (.str (Str.ofString " ")) bk1 ⟨140, 38, 140, 41⟩) (Str.ofString "join") ⟨140, 38, 140, 46⟩) [.ListComp (.BinOp (.BinOp (.Constant (.str (Str.ofString "\"")) bk2 bp6) .Add (.Call (.Name (Str.ofString "_law_mail") bp7) [.Name (Str.ofString "parts") bp8] [] bp9) bp10) .Add (.Constant (.str (Str.ofString "\"")) bk3 bp11) bp12) [⟨.Name (Str.ofString "parts") bp13, .Name (Str.ofString "pair") bp14, [], 0⟩] { kind := .function, names := [(Str.ofString ".0", .local), (Str.ofString "parts", .local), (Str.ofString "_law_mail", .globalImplicit)], isGenerator := false, isCoroutine := false } bp15] [] ⟨140, 38, 140, 96⟩] [] bp17] [] bp18) bp19),
    (.Assign [.Name (Str.ofString "some") ⟨141, 4, 141, 8⟩] (.ListComp (.List [.Name (Str.ofString "red") cp1, .Name (Str.ofString "green") cp2, .Constant (.int 0) ck1 cp3] cp4) [⟨.Name (Str.ofString "red") cp5, .Call (.Name (Str.ofString "range") cp6) [.Constant (.int 1) ck2 cp7, .Constant (.int 7) ck3 cp8] [] cp9, [], 0⟩, ⟨.Name (Str.ofString "green") cp10, .Call (.Name (Str.ofString "range") cp11) [.Name (Str.ofString "red") cp12] [] cp13, [], 0⟩] someSc ⟨141, 11, 141, 75⟩) cp14),
    (.Assign [.Name (Str.ofString "both") ⟨142, 4, 142, 8⟩] (.ListComp (.Name (Str.ofString "one") dq1) [⟨.Name (Str.ofString "one") dq2, .Name (Str.ofString "some") dq3, [.BoolOp .And [.Call (.Name (Str.ofString "_law_divides") dp1) [.Name (Str.ofString "one") dp2, .Subscript (.Name (Str.ofString "pair") dp3) (.Constant (.int 0) dk1 dp4) dp5] [] dp6, .Call (.Name (Str.ofString "_law_divides") dp7) [.Name (Str.ofString "one") dp8, .Subscript (.Name (Str.ofString "pair") dp9) (.Constant (.int 1) dk2 dp10) dp11] [] dp12] dp13], 0⟩] (bothSc (Str.ofString "pair")) ⟨142, 11, 142, 93⟩) dq4),
    (.If (.Compare (.Name (Str.ofString "both") eq1) [.NotEq] [.ListComp (.Name (Str.ofString "one") eq2) [⟨.Name (Str.ofString "one") eq3, .Name (Str.ofString "some") eq4, [.Call (.Name (Str.ofString "_law_divides") ep1) [.Name (Str.ofString "one") ep2, .Name (Str.ofString "measure") ep3] [] ep4], 0⟩] (bothSc (Str.ofString "measure")) eq5] eq6) ebody [] eq7),
    (.Assign [.Name (Str.ofString "whole") fp1] (.Call (.Name (Str.ofString "int") fp2) [.BinOp (.Subscript (.Call (.Name (Str.ofString "rgb_to_hsv") fp3) [.Subscript (.Name (Str.ofString "measure") fp4) (.Constant (.int 0) fk1 fp5) fp6, .Subscript (.Name (Str.ofString "measure") fp7) (.Constant (.int 1) fk2 fp8) fp9, .Subscript (.Name (Str.ofString "measure") fp10) (.Constant (.int 2) fk3 fp11) fp12] [] fp13) (.Constant (.int 0) fk4 fp14) fp15) .Mult (.Constant (.int 6) fk5 fp16) fp17] [] fp18) fp19),
    (.Assign [.Name (Str.ofString "turned") gp1] (.Call (.Name (Str.ofString "_law_times") gp2) [.Name (Str.ofString "measure") gp3, .BinOp (.BinOp (.Constant (.int 6) gk1 gp4) .Sub (.Name (Str.ofString "whole") gp5) gp6) .Mod (.Constant (.int 6) gk2 gp7) gp8] [] gp9) gp10),
    (.Return (some (.Compare (.ListComp (.BinOp (.Name (Str.ofString "part") hp1) .Sub (.Call (.Name (Str.ofString "min") hp2) [.Name (Str.ofString "turned") hp3] [] hp4) hp5) [⟨.Name (Str.ofString "part") hp6, .Name (Str.ofString "turned") hp7, [], 0⟩] partSc hp8) [.Eq] [.Subscript (.Call (.Name (Str.ofString "max") hq1) [.ListComp (.List [.Call (.Name (Str.ofString "_law_size") hq2) [.Name (Str.ofString "one") hq3] [] hq4, .Name (Str.ofString "one") hq5] hq6) [⟨.Name (Str.ofString "one") hq7, .Name (Str.ofString "both") hq8, [], 0⟩] sizeSc hq9] [] hq10) (.Constant (.int 1) hk1 hq11) hq12] hr1)) hr2)] (lawEnv L fa cd)) Q E s := by
  refine wpAny_execs_cons (st_pair B X T F hm N d1 fun X₁ Y₁ Z₁ X₂ Y₂ Z₂ P a b t1 t2 t3 t4 t5 t6 n1 n2 o1' m1 h1 tk1 hs1 hs2 d1' F1 N1 => ?_)
  obtain ⟨bX1, bY1, bZ1⟩ := hs1.small
  obtain ⟨bX2, bY2, bZ2⟩ := hs2.small
  have h106 : ∀ p ∈ [(P, LCg.lst [.ref a, .ref b]), (a, L3 X₁ Y₁ Z₁ t1 t2 t3 n1), (b, L3 X₂ Y₂ Z₂ t4 t5 t6 n2), (L + 1, o1'), (L + 1 + 1, o2), (L + 1 + 1 + 1, o3)], p.1 ≠ 106 := by
    intro p hp
    refine ne_cls N1 (o := p.2) (o' := tabObj #[]) ?_ (by simp) ?_
    · simp only [List.mem_cons, List.not_mem_nil, or_false] at hp ⊢
      rcases hp with rfl | rfl | rfl | rfl | rfl | rfl <;> simp
    · simp only [List.mem_cons, List.not_mem_nil, or_false] at hp
      rcases hp with rfl | rfl | rfl | rfl | rfl | rfl
      · exact fun h => nomatch h
      · exact fun h => nomatch h
      · exact fun h => nomatch h
      · dsimp only; rw [d1']; exact fun h => nomatch h
      · dsimp only; rw [d2]; exact fun h => nomatch h
      · dsimp only; rw [d3]; exact fun h => nomatch h
  refine wpAny_execs_cons (st_measure (law_ok (fun o0 o1 o2 => dvI o0 o1 o2 X₁ Y₁ Z₁ && dvI o0 o1 o2 X₂ Y₂ Z₂)) B X T CH hL6 F1 (news_sub N1 (fun p hp => by
      simp only [List.mem_cons, List.not_mem_nil, or_false] at hp ⊢
      rcases hp with rfl | rfl | rfl | rfl | rfl | rfl | rfl <;> simp)) d1' d2 h106 bX1 bY1 bZ1 bX2 bY2 bZ2 (start_law hs1 hs2) fun i u v e q M w1 w2 w3 o2' ps m2 h2 tk2 hSt hq d2' F2 N2 => ?_)
  obtain ⟨hIn, hM0, hG⟩ := law_end hSt hq
  have lI := inS_le hIn
  dsimp only at lI hG
  have htail := tail_ok hIn hM0
  unfold tailChk at htail
  simp only [Bool.and_eq_true, Bool.not_eq_true', decide_eq_true_eq] at htail
  obtain ⟨⟨⟨⟨⟨⟨f1, f2⟩, w0⟩, w7⟩, hlen⟩, hbest⟩, hz0⟩ := htail
  clear h106 hSt N1 F1
  refine wpAny_execs_cons (st_some X T B F2 N2 fun S h3 tk3 ys news3 m3 hms _ F3 N3 sub3 P3 => ?_)
  have yP := sub3 (P, LCg.lst [.ref a, .ref b]) (by simp)
  have ya := sub3 (a, L3 X₁ Y₁ Z₁ t1 t2 t3 n1) (by simp)
  have yb := sub3 (b, L3 X₂ Y₂ Z₂ t4 t5 t6 n2) (by simp)
  have y1 := sub3 (L + 1, o1') (by simp)
  have yM := sub3 (M, LCg.lst [.int u w1, .int v w2, .int e w3]) (by simp)
  have y2 := sub3 (L + 1 + 1, o2') (by simp)
  have y3 := sub3 (L + 1 + 1 + 1, o3) (by simp)
  have y6 := sub3 (106, tabObj ps) (by simp)
  have nS : ∀ p ∈ news3, p ∈ (S, lst ys) :: news3 := fun p hp => .tail _ hp
  refine wpAny_execs_cons (st_both X T B F3 N3 hms (List.mem_cons_self ..) (paired_mono nS P3) (nS _ yP) (nS _ ya) (nS _ yb) (nS _ y1) d1' bX1 bY1 bZ1 bX2 bY2 bZ2 fun Bo h4 tk4 m4 hmb hm4 F4 N4 => ?_)
  have nB : ∀ p ∈ news3, p ∈ (Bo, lst (sel (dvB X₁ Y₁ Z₁ X₂ Y₂ Z₂) ys (pre 6 0))) :: (S, lst ys) :: news3 := fun p hp => .tail _ (.tail _ hp)
  have hpb : ∀ r ∈ pre 6 0, dvB X₁ Y₁ Z₁ X₂ Y₂ Z₂ r = dvI r.1 r.2 0 u v e := fun r _ => (hG r.1 r.2 0).symm
  refine wpAny_execs_cons (st_if X T B F4 N4 ((hm4 _ (by decide)).trans hms) hmb (.tail _ (List.mem_cons_self ..)) (List.mem_cons_self ..) (paired_mono nB P3) (nB _ yM) (nB _ y2) d2' (by omega) (by omega) (by omega) hpb fun h5 tk5 F5 N5 => ?_)
  have zM := nB _ yM
  have z2 := nB _ y2
  have z3 := nB _ y3
  have z6 := nB _ y6
  refine wpAny_execs_cons (st_whole X T B F5 (news_with (news_with N5 z2) (.tail _ zM)) d2' lI.1 lI.2.1 lI.2.2 f1 f2 fun tw h6 tk6 m6 hmw hm6 F6 N6 => ?_)
  have N6' : News h₀ L h6 ((M, LCg.lst [.int u w1, .int v w2, .int e w3]) :: (L + 1 + 1, o2') :: (L + 1 + 1 + 1, o3) :: (106, tabObj ps) :: seqs ((Bo, lst (sel (dvB X₁ Y₁ Z₁ X₂ Y₂ Z₂) ys (pre 6 0))) :: (S, lst ys) :: news3)) := by
    refine news_sub N6 (fun p hp => ?_)
    rcases List.mem_cons.mp hp with rfl | hp
    · exact .head _
    rcases List.mem_cons.mp hp with rfl | hp
    · exact .tail _ (.head _)
    rcases List.mem_cons.mp hp with rfl | hp
    · exact .tail _ (.tail _ z3)
    rcases List.mem_cons.mp hp with rfl | hp
    · exact .tail _ (.tail _ z6)
    · exact .tail _ (.tail _ (seqs_sub _ hp))
  refine wpAny_execs_cons (st_turned X T B F6 N6' d2' d3 (fun p hp u => by
    rcases List.mem_cons.mp hp with rfl | hp
    · exact fun h => nomatch h
    · exact seqs_nc p hp u) hmw ⟨w0, w7⟩ lI.1 lI.2.1 lI.2.2 fun X Y Z Tn x1 x2 x3 o3' h7 tk7 hX hY hZ bX bY bZ d3' F7 N7 => ?_)
  have Pq := sel_paired (p := dvB X₁ Y₁ Z₁ X₂ Y₂ Z₂) (paired_mono nB P3)
  have efl : (pre 6 0).filter (dvB X₁ Y₁ Z₁ X₂ Y₂ Z₂) = (pre 6 0).filter fun r => dvI r.1 r.2 0 u v e := List.filter_congr hpb
  have hsz : (sel (dvB X₁ Y₁ Z₁ X₂ Y₂ Z₂) ys (pre 6 0)).toArray.size ≤ sizeLine := by
    have a1 := Pq.length
    have a2 : ((pre 6 0).filter (dvB X₁ Y₁ Z₁ X₂ Y₂ Z₂)).length ≤ (pre 6 0).length := List.length_filter_le _ _
    have a3 := pre_len 6 (by omega) 0 (by omega)
    rw [List.size_toArray, sizeLine_eq]
    omega
  rw [← hX, ← hY, ← hZ] at hbest hz0
  refine wpAny_execs_cons (st_return (D := Bo) ‹(hd.heap_39 w.params).In h₀› T B F7 N7 d3' bX bY bZ ((if_neg (by decide)).trans ((hm6 _ (by decide)).trans hmb)) (.tail _ (seqs_mem (List.mem_cons_self ..))) hsz (rs := (pre 6 0).filter (dvB X₁ Y₁ Z₁ X₂ Y₂ Z₂))
    (by
      refine paired_seqs ?_
      exact Pq) (fun r hr => (List.mem_filter.mp hr).1) (by rw [efl]; exact hlen) (by rw [efl]; exact hbest) hz0 fun h8 tk8 F8 N8 => ?_)
  exact hret ps _ h8 tk8 F8 (news_sub N8 (fun p hp => by rw [List.mem_singleton.mp hp]; exact .head _))
end
end
section
open PySem PySem.W PyProof.Rows
set_option maxRecDepth 100000
set_option maxHeartbeats 8000000


theorem law_holds : PySem.Challenge.rw_pg0096_01.Holds := by
  refine hd ?_
  w_top off
  k_with_none
  k_with "subscriptTail" => (k_here; (with_reducible show wpAny _ _ (subscriptTail (PySem.Expr.List _ _) (PySem.Expr.Slice (some _) none none _) (Value.ref _) (Value.ref _)) _ _ _); k_dflt (refine' slice17' ?q119zaF ?q119zaN ?q119zal ?_ ?q119zas; (case q119zaF => k_asm); (case q119zaN => k_asm); (case q119zal => k_mem); (case q119zas => with_unfolding_all rfl)); intro D' ws' h' F' N' l1 hI'; (try k_lt l1); (try k_sweep))
  k_with "binaryOp Add ref ref" => (k_here; (with_reducible show wpAny _ _ (binaryOp _ (Value.ref _) (Value.ref _)) _ _ _); k_dflt (refine' add2_k ?q120zbF ?q120zbN ?q120zba ?q120zbb ?q120zbi ?q120zbj ?_; (case q120zbF => k_asm); (case q120zbN => k_asm); (case q120zba => kmk_list); (case q120zbb => kmk_list); (case q120zbi => l_ints); (case q120zbj => l_ints)); intro D' x' y' t' u' h' F' N' l1; (try k_lt l1); (try k_sweep))
  k_with "exec Assign cons ListComp" => (k_here; k_dflt (first | refine wpAny_Assign_Name (hs := by with_unfolding_all rfl) ?_ | (refine LCg.Assign_ListComp_U (F₀ := by k_asm) (by rfl) (by with_unfolding_all rfl) (by rfl) (by decide) (by rfl) (by decide) (by rfl) (by rfl) (by rfl) ?_)))
  k_with "eval ListComp" => (k_here; (with_reducible show wpAny _ _ (eval (Expr.ListComp _ _ _ _) _) _ _ _); k_dflt (refine LCg.ListComp_U (F₀ := by k_asm) (by with_unfolding_all rfl) (by decide) (by rfl) (by decide) (by rfl) ?_))
  k_with "CompSrc" => (k_here; k_dflt (refine LCg.CompSrc.ledger (by rfl) (by k_asm) (by k_asm) (by k_mem) (by exact Nat.le_of_ble_eq_true rfl) ?_; intro g'; lcg_lit))
  k_with "CompRest" => (with_unfolding_all first | (refine LCg.CompRest.succ ?_; intro v' I' oI' C' oC' D' m' h' tk' E' hv' hC' hx' F' N' off' ne'; (first | lcg_open hv' | (obtain ⟨t9', hv9'⟩ := hv'; subst hv9'))) | refine LCg.CompRest.zero ?_)
  k_with "CompEnd" => (k_dflt (first | refine cend0 (by k_asm) (by k_asm) (by assumption) (by lcg_src) ?_ | refine cend1 (by k_asm) (by k_asm) (by assumption) (by assumption) (by lcg_src) ?_))
  k_with "execs cons" => (k_here; (with_reducible show wpAny _ _ (execs (Stmt.Assign [Expr.Name (Str.ofString "pair") _] _ _ :: _) _) _ _ _); k_dflt (refine' law_rest ?q126zB ?q126zX ?q126zT ?q126zC ?q126zL ?q126zF ?q126zm ?q126zN ?q126z1 ?q126z2 ?q126z3 ?_; (case q126zB => k_asm); (case q126zX => k_asm); (case q126zT => k_asm); (case q126zC => assumption); (case q126zL => assumption); (case q126zF => k_asm); (case q126zm => exact if_pos rfl); (case q126zN => (first | k_asm | (refine' news_sub ?q126n1 ?q126n2; (case q126n1 => k_asm); (case q126n2 => kcj_all)))); (case q126z1 => assumption); (case q126z2 => assumption); (case q126z3 => assumption)); intro ps9 m9 h9 tk9 F9 N9)
  k_go0
  all_goals try k_fold
  w_top off
  k_with_none
  k_with "subscriptTail" => (k_here; (with_reducible show wpAny _ _ (subscriptTail (PySem.Expr.List _ _) (PySem.Expr.Slice (some _) none none _) (Value.ref _) (Value.ref _)) _ _ _); k_dflt (refine' slice17' ?q119zaF ?q119zaN ?q119zal ?_ ?q119zas; (case q119zaF => k_asm); (case q119zaN => k_asm); (case q119zal => k_mem); (case q119zas => with_unfolding_all rfl)); intro D' ws' h' F' N' l1 hI'; (try k_lt l1); (try k_sweep))
  k_with "binaryOp Add ref ref" => (k_here; (with_reducible show wpAny _ _ (binaryOp _ (Value.ref _) (Value.ref _)) _ _ _); k_dflt (refine' add2_k ?q120zbF ?q120zbN ?q120zba ?q120zbb ?q120zbi ?q120zbj ?_; (case q120zbF => k_asm); (case q120zbN => k_asm); (case q120zba => kmk_list); (case q120zbb => kmk_list); (case q120zbi => l_ints); (case q120zbj => l_ints)); intro D' x' y' t' u' h' F' N' l1; (try k_lt l1); (try k_sweep))
  k_with "exec Assign cons ListComp" => (k_here; k_dflt (first | refine wpAny_Assign_Name (hs := by with_unfolding_all rfl) ?_ | (refine LCg.Assign_ListComp_U (F₀ := by k_asm) (by rfl) (by with_unfolding_all rfl) (by rfl) (by decide) (by rfl) (by decide) (by rfl) (by rfl) (by rfl) ?_)))
  k_with "eval ListComp" => (k_here; (with_reducible show wpAny _ _ (eval (Expr.ListComp _ _ _ _) _) _ _ _); k_dflt (refine LCg.ListComp_U (F₀ := by k_asm) (by with_unfolding_all rfl) (by decide) (by rfl) (by decide) (by rfl) ?_))
  k_with "CompSrc" => (k_here; k_dflt (refine LCg.CompSrc.ledger (by rfl) (by k_asm) (by k_asm) (by k_mem) (by exact Nat.le_of_ble_eq_true rfl) ?_; intro g'; lcg_lit))
  k_with "CompRest" => (with_unfolding_all first | (refine LCg.CompRest.succ ?_; intro v' I' oI' C' oC' D' m' h' tk' E' hv' hC' hx' F' N' off' ne'; (first | lcg_open hv' | (obtain ⟨t9', hv9'⟩ := hv'; subst hv9'))) | refine LCg.CompRest.zero ?_)
  k_with "CompEnd" => (k_dflt (first | refine cend0 (by k_asm) (by k_asm) (by assumption) (by lcg_src) ?_ | refine cend1 (by k_asm) (by k_asm) (by assumption) (by assumption) (by lcg_src) ?_))
  k_with "execs cons" => (k_here; (with_reducible show wpAny _ _ (execs (Stmt.Assign [Expr.Name (Str.ofString "pair") _] _ _ :: _) _) _ _ _); k_dflt (refine' law_rest ?q126zB ?q126zX ?q126zT ?q126zC ?q126zL ?q126zF ?q126zm ?q126zN ?q126z1 ?q126z2 ?q126z3 ?_; (case q126zB => k_asm); (case q126zX => k_asm); (case q126zT => k_asm); (case q126zC => assumption); (case q126zL => assumption); (case q126zF => k_asm); (case q126zm => exact if_pos rfl); (case q126zN => (first | k_asm | (refine' news_sub ?q126n1 ?q126n2; (case q126n1 => k_asm); (case q126n2 => kcj_all)))); (case q126z1 => assumption); (case q126z2 => assumption); (case q126z3 => assumption)); intro ps9 m9 h9 tk9 F9 N9)
  k_steps
end
end
end Mine
theorem PySem.Challenge.cw_pg0096_01_holds : PySem.Challenge.rw_pg0096_01.Holds :=
  Mine.law_holds
