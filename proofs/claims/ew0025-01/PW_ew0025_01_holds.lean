import PyProof.Rows.All
import Wide.All
import OpenK.AllK
import Wide.FinOn
import PySem.Challenge.RW_ew0025_01
open PySem PySem.W PyProof.Rows
set_option Elab.async false
set_option maxRecDepth 100000
set_option maxHeartbeats 8000000
namespace Mine
open_top hd for PySem.Challenge.rw_ew0025_01
theorem news_tail {h₀ h : Heap} {L : Addr} {p : Addr × Obj} {r : List (Addr × Obj)} (N : News h₀ L h (p :: r)) : News h₀ L h r := fun q hq => N q (List.mem_cons_of_mem _ hq)
theorem rg_mod {a v : Int} (h : 0 ≤ a ∧ a ≤ 3999) (hv : 0 < v) : 0 ≤ a.fmod v ∧ a.fmod v ≤ 3999 := by
  rw [Int.fmod_eq_emod_of_nonneg _ (Int.le_of_lt hv)]
  have h1 := Int.emod_nonneg a (Int.ne_of_gt hv)
  have h2 : a % v ≤ a := by
    have h3 := Int.emod_add_mul_ediv a v
    have h4 : 0 ≤ v * (a / v) := Int.mul_nonneg (Int.le_of_lt hv) (Int.ediv_nonneg h.1 (Int.le_of_lt hv))
    omega
  exact ⟨h1, by omega⟩
theorem rg_div {a v : Int} (h : 0 ≤ a ∧ a ≤ 3999) (hv : 0 < v) : 0 ≤ a.fdiv v ∧ a.fdiv v ≤ 3999 := by
  rw [Int.fdiv_eq_ediv_of_nonneg _ (Int.le_of_lt hv)]
  exact ⟨Int.ediv_nonneg h.1 (Int.le_of_lt hv), Int.le_trans (Int.ediv_le_self _ h.1) h.2⟩
theorem mulS {prog : Program} {w : World} {A : Around} {E : Value → Shared → Prop} {s : Shared} {x : Str} {t u : Tok} {k : Int} {Q : Value → Shared → Prop} (hx : x.length ≤ 2) (hk : 0 ≤ k ∧ k ≤ 3999)
    (h : ∀ t' j, Q (.str (Txt.mul x k) t') { s with toks := j }) : wpAny (model prog w) A (binaryOp .Mult (.str x t) (.int k u)) Q E s :=
  SB.mul (mulOk_of 2 4000 hx (by omega) (by omega) (by decide) (by decide)) h
/-- the thirteen texts that the roman function joins -/
def romParts (n : Int) : List Str :=
  [Txt.mul (Str.ofString "M") (n.fdiv 1000),
   Txt.mul (Str.ofString "CM") ((n.fmod 1000).fdiv 900),
   Txt.mul (Str.ofString "D") (((n.fmod 1000).fmod 900).fdiv 500),
   Txt.mul (Str.ofString "CD") ((((n.fmod 1000).fmod 900).fmod 500).fdiv 400),
   Txt.mul (Str.ofString "C") (((((n.fmod 1000).fmod 900).fmod 500).fmod 400).fdiv 100),
   Txt.mul (Str.ofString "XC") ((((((n.fmod 1000).fmod 900).fmod 500).fmod 400).fmod 100).fdiv 90),
   Txt.mul (Str.ofString "L") (((((((n.fmod 1000).fmod 900).fmod 500).fmod 400).fmod 100).fmod 90).fdiv 50),
   Txt.mul (Str.ofString "XL") ((((((((n.fmod 1000).fmod 900).fmod 500).fmod 400).fmod 100).fmod 90).fmod 50).fdiv 40),
   Txt.mul (Str.ofString "X") (((((((((n.fmod 1000).fmod 900).fmod 500).fmod 400).fmod 100).fmod 90).fmod 50).fmod 40).fdiv 10),
   Txt.mul (Str.ofString "IX") ((((((((((n.fmod 1000).fmod 900).fmod 500).fmod 400).fmod 100).fmod 90).fmod 50).fmod 40).fmod 10).fdiv 9),
   Txt.mul (Str.ofString "V") (((((((((((n.fmod 1000).fmod 900).fmod 500).fmod 400).fmod 100).fmod 90).fmod 50).fmod 40).fmod 10).fmod 9).fdiv 5),
   Txt.mul (Str.ofString "IV") ((((((((((((n.fmod 1000).fmod 900).fmod 500).fmod 400).fmod 100).fmod 90).fmod 50).fmod 40).fmod 10).fmod 9).fmod 5).fdiv 4),
   Txt.mul (Str.ofString "I") (((((((((((((n.fmod 1000).fmod 900).fmod 500).fmod 400).fmod 100).fmod 90).fmod 50).fmod 40).fmod 10).fmod 9).fmod 5).fmod 4).fdiv 1)]
def romanS (n : Int) : Str := Txt.join (Str.ofString "") (romParts n)
theorem len_mul_le {x : Str} {k : Int} (hx : x.length ≤ 2) (hk : 0 ≤ k ∧ k ≤ 3999) : (Txt.mul x k).length ≤ 7998 := by
  have h := len_mul x k
  have h0 : (if decide (k < 0) = true then (0 : Int) else k) = k := if_neg (by simpa using hk.1)
  rw [h0] at h
  have h2 : (x.length : Int) * k ≤ 2 * k := Int.mul_le_mul_of_nonneg_right (by omega) hk.1
  omega
theorem rom_each (n : Int) (h : 0 ≤ n ∧ n ≤ 3999) : ∀ y ∈ romParts n, y.length ≤ 7998 := by
  unfold romParts
  repeat (first | exact List.forall_mem_nil _ | refine List.forall_mem_cons.mpr ⟨len_mul_le (by decide +kernel) (by repeat (first | exact h | (with_reducible apply rg_div; (case hv => decide)) | (with_reducible apply rg_mod; (case hv => decide)))), ?_⟩)
theorem rom_fits {n : Int} (h : 0 ≤ n ∧ n ≤ 3999) : ((romParts n).map (·.length)).sum + (romParts n).length * (Str.ofString "").length ≤ 16777216 := by
  have h1 := StrLaws.sumLen_le (romParts n) (rom_each n h)
  have h2 : (romParts n).length = 13 := rfl
  have h3 : (Str.ofString "").length = 0 := by decide +kernel
  rw [h2] at h1 ⊢
  rw [h3]
  omega
theorem txt_join_eq (sep : Str) (l : List Str) : Txt.join sep l = Str.join sep l := StrLaws.glued_eq_join sep l
theorem rom_len {n : Int} (h : 0 ≤ n ∧ n ≤ 3999) : (romanS n).length ≤ 103974 := by
  have h1 := StrLaws.sumLen_le (romParts n) (rom_each n h)
  have h2 : (romParts n).length = 13 := rfl
  have h3 : (Str.ofString "").length = 0 := by decide +kernel
  have h4 : (romanS n).length ≤ ((romParts n).map (·.length)).sum + (romParts n).length * (Str.ofString "").length := by
    unfold romanS
    rw [txt_join_eq]
    unfold romParts
    rw [len_join_cons, h3]
    omega
  rw [h2] at h1 h4
  rw [h3] at h4
  omega
section Roman
variable {w : World} {mean : ExcName → Option Value} {mg mb : Str → Option Value} {d0 d1 d2 : Addr} {o0 o1 o2 : Obj} {n : Int} {t : Tok}
  {dp un : Nat} {gd : Option (List Code)} {cn : Str} {cs : Scope} {a : Addr} {ccd : Value} {cl : List (Str × Addr)} {outer : List Env} {A₀ : Around} {base h₀ : Heap} {L : Addr} {m : Str → Option Value} {s : Shared} {Q E : Value → Shared → Prop}
local macro_rules | `(tactic| walk_at "binaryOp Mult str int") => `(tactic| (k_here; k_dflt (refine' mulS ?hx ?hk ?_; (case hx => decide +kernel); (case hk => (repeat (first | (with_reducible assumption) | (with_reducible apply rg_div; (case hv => decide)) | (with_reducible apply rg_mod; (case hv => decide)))))); intro _ _))
local macro_rules | `(tactic| walk_at "exec Expr") => `(tactic| (k_here; k_dflt (rename News _ _ _ _ => nW; replace nW := news_tail nW; refine wpAny_Expr ?_)))
local macro_rules | `(tactic| walk_at "call builtin:str.join") => `(tactic| (k_here; (with_reducible show wpAny _ _ (call (Value.builtin "str.join") [Value.str _ _, Value.ref _]) _ _ _); k_dflt (refine' join_list ?hl ?hi ?hb ?_; (case hl => exact News.isList (by k_asm) (by k_mem)); (case hi => repeat constructor); (case hb => exact rom_fits (by assumption))); intro _ _))
local macro_rules | `(tactic| walk_at "call builtin:list.append") => `(tactic| (k_here; (with_reducible show wpAny _ _ (call (Value.builtin _) [Value.ref _, _]) _ _ _); k_dflt (refine' append_K ?k1 ?k2 ?k3 ?_ ?z; (case k1 => k_asm); (case k2 => k_asm); (case k3 => k_upd); (case z => size_fits); k_whole); intro h' F' N'; (try simp only [List.push_toArray, List.nil_append, List.cons_append] at N'); (try k_sweep)))
theorem roman_c (B : Below A₀ base outer h₀) (F : Fr h₀ L s.heap m) (N : News h₀ L s.heap [(d0, o0), (d1, o1), (d2, o2)]) (T : Top hd.view_39 (looseW hd.view_39 []) mean mg mb h₀) (hk : cs.kind = .function)
    (hp : 1 ≤ n ∧ n ≤ 3999) (hdp : dp + 1 < recursionLimit) (hu : un + 8 < cLine) (hret : CbRet h₀ L m [(d0, o0), (d1, o1), (d2, o2)] s Q (fun t => Value.str (romanS n) t)) :
    (hd.heap_39 w.params).In h₀ → wpAny (model Challenge.rw_ew0025_01.row.prog w) (ktrTop dp un gd cn cs L a ccd cl outer) (call (.ref 21) [Value.int n t]) Q E s := by
  k_fill
  w_top off
  intro X
  have hR : 0 ≤ n ∧ n ≤ 3999 := ⟨by omega, hp.2⟩
  dsimp only [CbRet] at hret
  refine wpAny_call ?_
  k_dflt cell_enter
  k_steps

  all_goals cb_end hret
end Roman
def rep (c k : Nat) : Str := ⟨Array.replicate k c⟩
theorem rep_len (c k : Nat) : (rep c k).length = k := by simp [rep, Str.length]
theorem foldl_rep (c : Nat) : ∀ (k j : Nat), (List.replicate k (#[c] : Array Nat)).foldl (· ++ ·) (Array.replicate j c) = Array.replicate (j + k) c
  | 0, j => by simp
  | k + 1, j => by
    rw [List.replicate_succ, List.foldl_cons]
    have e : Array.replicate j c ++ #[c] = Array.replicate (j + 1) c := by
      apply Array.ext'
      simp [List.replicate_succ']
    rw [e, foldl_rep c k (j + 1)]
    congr 1
    omega
theorem mul_rep (c : Nat) (k : Int) (_hk : 0 ≤ k) : Txt.mul (rep c 1) k = rep c k.toNat := by
  unfold Txt.mul
  by_cases h1 : k < 1
  · rw [if_pos h1]
    have e : k.toNat = 0 := by omega
    rw [e]
    rfl
  · rw [if_neg h1]
    by_cases h2 : k = 1
    · subst h2
      rfl
    · have h3 : (k == 1 || (rep c 1).length == 0) = false := by
        rw [rep_len]
        simpa using h2
      rw [if_neg (by rw [h3]; decide)]
      have h4 := foldl_rep c k.toNat 0
      simp only [Nat.zero_add] at h4
      show Str.mk _ = Str.mk _
      rw [← h4]
      rfl
def abc : Str := Str.ofString "ABCDEFGHIJKLMNOPQRSTUVWXYZ"
theorem item_abc' : ∀ j : Nat, j < 26 → Txt.item abc (j : Int) = rep (65 + j) 1 := by decide +kernel
theorem item_abc {p : Int} (h0 : 0 ≤ p) (h1 : p < 26) : Txt.item abc p = rep (65 + p.toNat) 1 := by
  have e : ((p.toNat : Nat) : Int) = p := Int.toNat_of_nonneg h0
  have := item_abc' p.toNat (by omega)
  rwa [e] at this
/-- the letters' label of a number -/
def letterS (n : Int) : Str := rep (65 + ((n - 1).fmod 26).toNat) ((n - 1).fdiv 26 + 1).toNat
theorem fm26 (a : Int) : 0 ≤ a.fmod 26 ∧ a.fmod 26 < 26 ∧ a.fdiv 26 * 26 + a.fmod 26 = a := by
  rw [Int.fmod_eq_emod_of_nonneg _ (by decide), Int.fdiv_eq_ediv_of_nonneg _ (by decide)]
  omega
theorem mul_letter {prog : Program} {w : World} {A : Around} {E : Value → Shared → Prop} {s : Shared} {t u : Tok} {n : Int} {Q : Value → Shared → Prop} (hn : 1 ≤ n ∧ n ≤ 13312)
    (h : ∀ t' j, Q (.str (letterS n) t') { s with toks := j }) :
    wpAny (model prog w) A (binaryOp .Mult (.str (Txt.item (Str.ofString "ABCDEFGHIJKLMNOPQRSTUVWXYZ") ((n - 1).fmod 26)) t) (.int ((n - 1).fdiv 26 + 1) u)) Q E s := by
  obtain ⟨h1, h2, h3⟩ := fm26 (n - 1)
  have e := item_abc h1 h2
  have e' : Txt.mul (Txt.item abc ((n - 1).fmod 26)) ((n - 1).fdiv 26 + 1) = letterS n := by
    rw [e, mul_rep _ _ (by omega)]
    rfl
  show wpAny (model prog w) A (binaryOp .Mult (.str (Txt.item abc ((n - 1).fmod 26)) t) (.int ((n - 1).fdiv 26 + 1) u)) Q E s
  refine SB.mul (mulOk_of 1 4000 ?_ (by omega) (by omega) (by decide) (by decide)) ?_
  · rw [e, rep_len]
    decide
  · rw [e']
    exact h
theorem letter_len {n : Int} (hn : 1 ≤ n ∧ n ≤ 13312) : (letterS n).length ≤ 512 := by
  unfold letterS
  rw [rep_len]
  obtain ⟨h1, h2, h3⟩ := fm26 (n - 1)
  omega
section Letter
variable {w : World} {mean : ExcName → Option Value} {mg mb : Str → Option Value} {news : List (Addr × Obj)} {n : Int} {t : Tok}
  {dp un : Nat} {gd : Option (List Code)} {cn : Str} {cs : Scope} {a : Addr} {ccd : Value} {cl : List (Str × Addr)} {outer : List Env} {A₀ : Around} {base h₀ : Heap} {L : Addr} {m : Str → Option Value} {s : Shared} {Q E : Value → Shared → Prop}
local macro_rules | `(tactic| walk_at "binaryOp Mult str int") => `(tactic| (k_here; k_dflt (refine' mul_letter ?hx ?_; (case hx => assumption)); intro _ _))
theorem letter_c (B : Below A₀ base outer h₀) (F : Fr h₀ L s.heap m) (N : News h₀ L s.heap news) (T : Top hd.view_39 (looseW hd.view_39 []) mean mg mb h₀) (hk : cs.kind = .function)
    (hp : 1 ≤ n ∧ n ≤ 13312) (hdp : dp + 1 < recursionLimit) (hu : un + 8 < cLine) (hret : CbRet h₀ L m news s Q (fun t => Value.str (letterS n) t)) :
    (hd.heap_39 w.params).In h₀ → wpAny (model Challenge.rw_ew0025_01.row.prog w) (ktrTop dp un gd cn cs L a ccd cl outer) (call (.ref 35) [Value.int n t]) Q E s := by
  k_fill
  w_top off
  intro X
  dsimp only [CbRet] at hret
  refine wpAny_call ?_
  k_dflt cell_enter
  k_steps
  all_goals cb_end hret
end Letter
section LowerLetter
variable {w : World} {mean : ExcName → Option Value} {mg mb : Str → Option Value} {news : List (Addr × Obj)} {n : Int} {t : Tok}
  {dp un : Nat} {gd : Option (List Code)} {cn : Str} {cs : Scope} {a : Addr} {ccd : Value} {cl : List (Str × Addr)} {outer : List Env} {A₀ : Around} {base h₀ : Heap} {L : Addr} {m : Str → Option Value} {s : Shared} {Q E : Value → Shared → Prop}
local macro_rules | `(tactic| walk_at "call ref") => `(tactic| (k_here; k_dflt (refine' letter_c ?k1 ?k2 ?k4 ?k5 ?kK ?kp ?kd ?ku ?_ ?k3; (case k1 => k_asm); (case k2 => k_asm); (case k3 => k_asm); (case k4 => k_asm); (case k5 => k_asm); (case kK => first | exact rfl | assumption); (case kp => assumption); (case kd => ktr_room); (case ku => ktr_units)); dsimp only [CbRet]; intro t9 h9 tk9 F9 N9; (try dsimp only)))
local macro_rules | `(tactic| walk_at "call builtin:str.lower") => `(tactic| (k_here; k_dflt (refine' SCL.lower ?hx ?_; (case hx => exact Nat.le_trans (letter_len (by assumption)) (by decide))); intro _))
theorem lletter_c (B : Below A₀ base outer h₀) (F : Fr h₀ L s.heap m) (N : News h₀ L s.heap news) (T : Top hd.view_39 (looseW hd.view_39 []) mean mg mb h₀) (hk : cs.kind = .function)
    (hp : 1 ≤ n ∧ n ≤ 13312) (hdp : dp + 2 < recursionLimit) (hu : un + 16 < cLine) (hret : CbRet h₀ L m news s Q (fun t => Value.str (Txt.lower (letterS n)) t)) :
    (hd.heap_39 w.params).In h₀ → wpAny (model Challenge.rw_ew0025_01.row.prog w) (ktrTop dp un gd cn cs L a ccd cl outer) (call (.ref 42) [Value.int n t]) Q E s := by
  k_fill
  w_top off
  intro X
  dsimp only [CbRet] at hret
  refine wpAny_call ?_
  k_dflt cell_enter
  k_steps
  all_goals cb_end hret
end LowerLetter
section LowerRoman
variable {w : World} {mean : ExcName → Option Value} {mg mb : Str → Option Value} {d0 d1 d2 : Addr} {o0 o1 o2 : Obj} {n : Int} {t : Tok}
  {dp un : Nat} {gd : Option (List Code)} {cn : Str} {cs : Scope} {a : Addr} {ccd : Value} {cl : List (Str × Addr)} {outer : List Env} {A₀ : Around} {base h₀ : Heap} {L : Addr} {m : Str → Option Value} {s : Shared} {Q E : Value → Shared → Prop}
local macro_rules | `(tactic| walk_at "no key") => `(tactic| fail)
local macro_rules | `(tactic| walk_at "call ref") => `(tactic| (k_here; k_dflt (refine' roman_c ?k1 ?k2 ?k4 ?k5 ?kK ?kp ?kd ?ku ?_ ?k3; (case k1 => k_asm); (case k2 => k_asm); (case k3 => k_asm); (case k4 => k_asm); (case k5 => k_asm); (case kK => first | exact rfl | assumption); (case kp => assumption); (case kd => ktr_room); (case ku => ktr_units)); dsimp only [CbRet]; intro t9 h9 tk9 F9 N9; (try dsimp only)))
local macro_rules | `(tactic| walk_at "call builtin:str.lower") => `(tactic| (k_here; k_dflt (refine' SCL.lower ?hx ?_; (case hx => exact Nat.le_trans (rom_len (by assumption)) (by decide))); intro _))
theorem lroman_c (B : Below A₀ base outer h₀) (F : Fr h₀ L s.heap m) (N : News h₀ L s.heap [(d0, o0), (d1, o1), (d2, o2)]) (T : Top hd.view_39 (looseW hd.view_39 []) mean mg mb h₀) (hk : cs.kind = .function)
    (hp : 1 ≤ n ∧ n ≤ 3999) (hdp : dp + 2 < recursionLimit) (hu : un + 16 < cLine) (hret : CbRet h₀ L m [(d0, o0), (d1, o1), (d2, o2)] s Q (fun t => Value.str (Txt.lower (romanS n)) t)) :
    (hd.heap_39 w.params).In h₀ → wpAny (model Challenge.rw_ew0025_01.row.prog w) (ktrTop dp un gd cn cs L a ccd cl outer) (call (.ref 28) [Value.int n t]) Q E s := by
  k_fill
  w_top off
  intro X
  have hR : 0 ≤ n ∧ n ≤ 3999 := ⟨by omega, hp.2⟩
  dsimp only [CbRet] at hret
  refine wpAny_call ?_
  k_dflt cell_enter
  k_steps
  all_goals cb_end hret
end LowerRoman
section Refused
variable {w : World} {mean : ExcName → Option Value} {mg mb : Str → Option Value} {news : List (Addr × Obj)} {n : Int} {t tk : Tok} {ns : List (Str × NameKind)}
  {cn : Str} {a : Addr} {ccd : Value} {h₀ : Heap} {L : Addr} {m : Str → Option Value} {s : Shared} {Q E : Value → Shared → Prop}
theorem ref0_c (B : Below callerA h₀ [] h₀) (F : Fr h₀ L s.heap m) (N : News h₀ L s.heap news) (T : Top hd.view_39 (looseW hd.view_39 []) mean mg mb h₀)
    (hp : n ≤ 0 ∨ 4000 ≤ n) (hret : CbRet h₀ L m news s Q (fun _ => Value.bool true)) :
    (hd.heap_39 w.params).In h₀ → wpAny (model Challenge.rw_ew0025_01.row.prog w) (callerA.deeper (envOf cn { kind := .function, names := ns, isGenerator := false, isCoroutine := false, more := [] } L a ccd)) (call (.ref 49) [Value.int 0 tk, Value.int n t]) Q E s := by
  k_fill
  w_top off
  intro X
  dsimp only [CbRet] at hret
  k_dflt (refine wpAny_call ?_; kts_go)
  k_steps
  all_goals cb_end hret
theorem ref1_c (B : Below callerA h₀ [] h₀) (F : Fr h₀ L s.heap m) (N : News h₀ L s.heap news) (T : Top hd.view_39 (looseW hd.view_39 []) mean mg mb h₀)
    (hp : n ≤ 0 ∨ 4000 ≤ n) (hret : CbRet h₀ L m news s Q (fun _ => Value.bool true)) :
    (hd.heap_39 w.params).In h₀ → wpAny (model Challenge.rw_ew0025_01.row.prog w) (callerA.deeper (envOf cn { kind := .function, names := ns, isGenerator := false, isCoroutine := false, more := [] } L a ccd)) (call (.ref 49) [Value.int 1 tk, Value.int n t]) Q E s := by
  k_fill
  w_top off
  intro X
  dsimp only [CbRet] at hret
  k_dflt (refine wpAny_call ?_; kts_go)
  k_steps
  all_goals cb_end hret
theorem ref2_c (B : Below callerA h₀ [] h₀) (F : Fr h₀ L s.heap m) (N : News h₀ L s.heap news) (T : Top hd.view_39 (looseW hd.view_39 []) mean mg mb h₀)
    (hp : n ≤ 0 ∨ 13313 ≤ n) (hret : CbRet h₀ L m news s Q (fun _ => Value.bool true)) :
    (hd.heap_39 w.params).In h₀ → wpAny (model Challenge.rw_ew0025_01.row.prog w) (callerA.deeper (envOf cn { kind := .function, names := ns, isGenerator := false, isCoroutine := false, more := [] } L a ccd)) (call (.ref 49) [Value.int 2 tk, Value.int n t]) Q E s := by
  k_fill
  w_top off
  intro X
  dsimp only [CbRet] at hret
  k_dflt (refine wpAny_call ?_; kts_go)
  k_steps
  all_goals cb_end hret
theorem ref3_c (B : Below callerA h₀ [] h₀) (F : Fr h₀ L s.heap m) (N : News h₀ L s.heap news) (T : Top hd.view_39 (looseW hd.view_39 []) mean mg mb h₀)
    (hp : n ≤ 0 ∨ 13313 ≤ n) (hret : CbRet h₀ L m news s Q (fun _ => Value.bool true)) :
    (hd.heap_39 w.params).In h₀ → wpAny (model Challenge.rw_ew0025_01.row.prog w) (callerA.deeper (envOf cn { kind := .function, names := ns, isGenerator := false, isCoroutine := false, more := [] } L a ccd)) (call (.ref 49) [Value.int 3 tk, Value.int n t]) Q E s := by
  k_fill
  w_top off
  intro X
  dsimp only [CbRet] at hret
  k_dflt (refine wpAny_call ?_; kts_go)
  k_steps
  all_goals cb_end hret
end Refused
/-- the law's own text, by its place in the row's program: its scope, and what its loop runs -/
def lawParts : Option (Scope × List Stmt) := match PySem.Challenge.pw_ew0025_01.main.body.drop 10 with
  | [.FunctionDef _ _ body _ _ _ scope _ _ _] => (match body with
    | [_, .For _ _ b _ _, _] => some (scope, b)
    | _ => none)
  | _ => none
theorem lawParts_some : lawParts.isSome = true := rfl
def lawScope : Scope := (lawParts.get lawParts_some).1
def lawBody : List Stmt := (lawParts.get lawParts_some).2
theorem lawBody_length : lawBody.length = 12 := rfl
/-- the loop's twelve statements, in five groups -/
def lawCut : Option (List Stmt × List Stmt × List Stmt × List Stmt × List Stmt) := match lawBody with
  | [s0, s1, s2, s3, s4, s5, s6, s7, s8, s9, s10, s11] => some ([s0, s1, s2, s3], [s4, s5], [s6, s7, s8, s9], [s10], [s11])
  | _ => none
theorem lawCut_some : lawCut.isSome = true := rfl
def lawA : List Stmt := (lawCut.get lawCut_some).1
def lawB : List Stmt := (lawCut.get lawCut_some).2.1
def lawC : List Stmt := (lawCut.get lawCut_some).2.2.1
def lawD : List Stmt := (lawCut.get lawCut_some).2.2.2.1
def lawE : List Stmt := (lawCut.get lawCut_some).2.2.2.2
theorem lawBody_cut : lawBody = lawA ++ (lawB ++ (lawC ++ (lawD ++ lawE))) := rfl
theorem fr_puts {h₀ h : Heap} {L : Addr} {m : Str → Option Value} (ps : List (Str × Value)) (F : Fr h₀ L h m) (e : ∀ p ∈ ps, m p.1 = some p.2) : Fr h₀ L h (kstB m ps) := by
  have q : kstB m ps = m := funext fun y => kstB_eq e fun _ => rfl
  rw [q]
  exact F
theorem put2 {m : Str → Option Value} {x y : Str} {v w : Value} (a : m x = some v) (b : m y = some w) : ∀ p ∈ [(x, v), (y, w)], m p.1 = some p.2 :=
  List.forall_mem_cons.mpr ⟨a, List.forall_mem_cons.mpr ⟨b, List.forall_mem_nil _⟩⟩
theorem put3 {m : Str → Option Value} {x y z : Str} {v w u : Value} (a : m x = some v) (b : m y = some w) (c : m z = some u) : ∀ p ∈ [(x, v), (y, w), (z, u)], m p.1 = some p.2 :=
  List.forall_mem_cons.mpr ⟨a, put2 b c⟩
theorem put4 {m : Str → Option Value} {x y z q : Str} {v w u r : Value} (a : m x = some v) (b : m y = some w) (c : m z = some u) (d : m q = some r) : ∀ p ∈ [(x, v), (y, w), (z, u), (q, r)], m p.1 = some p.2 :=
  List.forall_mem_cons.mpr ⟨a, put3 b c d⟩
theorem execs_app {M : Model} {A : Around} {E : Value → Shared → Prop} {env : Env} {Q : Flow → Shared → Prop} (l2 : List Stmt) (l1 : List Stmt) (s : Shared)
    (h : wpAny M A (execs l1 env) (fun f s' => match f with | .next => wpAny M A (execs l2 env) Q E s' | f => Q f s') E s) : wpAny M A (execs (l1 ++ l2) env) Q E s := by
  intro Γ p hΓ
  have key : ∀ (l1 : List Stmt) (s : Shared) (p : Pos), Sem.wp M Γ (execs l1 env) (fun f _ s' => match f with | .next => wpAny M A (execs l2 env) Q E s' | f => Q f s') (fun e _ s' => E e s') p s →
      Sem.wp M Γ (execs (l1 ++ l2) env) (fun f _ s' => Q f s') (fun e _ s' => E e s') p s := by
    intro l1
    induction l1 with
    | nil => exact fun s p h => h Γ p hΓ
    | cons st r ih =>
      intro s p h
      rw [List.cons_append, execs_cons, Sem.wp_bind']
      rw [execs_cons, Sem.wp_bind'] at h
      refine Sem.wp_mono M Γ _ (fun f p' s' h' => ?_) (fun _ _ _ h' => h') _ _ h
      cases f <;> first | exact ih _ _ h' | exact h'
  exact key l1 s p (h Γ p hΓ)
theorem getD_line {prog : Program} {w : World} {A : Around} {E : Value → Shared → Prop} {s : Shared} {value slice : PySem.Expr} {l : Addr} {vs : List Value} {ws : List PySem.Str} {i : Int} {u : Tok} {Q : Value → Shared → Prop}
    (hl : s.heap.IsList l vs.toArray) (hw : StrsAre vs ws) (h0 : 0 ≤ i ∧ i < (ws.length : Int)) (hfit : ws.length ≤ 100) (h : ∀ t', Q (.str (ws.getD i.toNat PySem.Str.empty) t') s)
    (hs : subscripted slice false (.ref l) (.int i u) = operate [.ref l, .int i u] (getItem (.ref l) (.int i u)) := by with_unfolding_all rfl) :
    wpAny (model prog w) A (subscriptTail value slice (.ref l) (.int i u)) Q E s :=
  KTb.item_list hl hw h0.1 h0.2 (by have := h0.2; omega) (fun t' _ => h t') hs
theorem fig_lo (n : Int) : 0 ≤ (1 + (if n < 0 then -n else n).fmod 3999).fdiv 1000 ∧ (1 + (if n < 0 then -n else n).fmod 3999).fdiv 1000 < 4 := by
  have h : 0 ≤ (if n < 0 then -n else n) := by split <;> omega
  generalize (if n < 0 then -n else n) = a at h ⊢
  rw [Int.fmod_eq_emod_of_nonneg _ (by decide), Int.fdiv_eq_ediv_of_nonneg _ (by decide)]
  omega
theorem fig_dig (a : Int) : 0 ≤ a.fmod 10 ∧ a.fmod 10 < 10 := by
  rw [Int.fmod_eq_emod_of_nonneg _ (by decide)]
  omega
theorem news_pick2 {h₀ h : Heap} {L : Addr} {l : List (Addr × Obj)} {p q : Addr × Obj} (N : News h₀ L h l) (h1 : p ∈ l) (h2 : q ∈ l) : News h₀ L h [p, q] :=
  List.forall_mem_cons.mpr ⟨N p h1, List.forall_mem_cons.mpr ⟨N q h2, List.forall_mem_nil _⟩⟩
theorem news_pick3 {h₀ h : Heap} {L : Addr} {l : List (Addr × Obj)} {p q r : Addr × Obj} (N : News h₀ L h l) (h1 : p ∈ l) (h2 : q ∈ l) (h3 : r ∈ l) : News h₀ L h [p, q, r] :=
  List.forall_mem_cons.mpr ⟨N p h1, news_pick2 N h2 h3⟩
/-- the size that the law takes of a number -/
def sz (n : Int) : Int := if n < 0 then -n else n
theorem sz_nn (n : Int) : 0 ≤ sz n := by unfold sz; split <;> omega
/-- the four figures' texts of a number -/
def figParts (r : Int) : List Str :=
  [[Str.ofString "", Str.ofString "M", Str.ofString "MM", Str.ofString "MMM"].getD (r.fdiv 1000).toNat Str.empty,
   [Str.ofString "", Str.ofString "C", Str.ofString "CC", Str.ofString "CCC", Str.ofString "CD", Str.ofString "D", Str.ofString "DC", Str.ofString "DCC", Str.ofString "DCCC", Str.ofString "CM"].getD ((r.fdiv 100).fmod 10).toNat Str.empty,
   [Str.ofString "", Str.ofString "X", Str.ofString "XX", Str.ofString "XXX", Str.ofString "XL", Str.ofString "L", Str.ofString "LX", Str.ofString "LXX", Str.ofString "LXXX", Str.ofString "XC"].getD ((r.fdiv 10).fmod 10).toNat Str.empty,
   [Str.ofString "", Str.ofString "I", Str.ofString "II", Str.ofString "III", Str.ofString "IV", Str.ofString "V", Str.ofString "VI", Str.ofString "VII", Str.ofString "VIII", Str.ofString "IX"].getD ((r.fdiv 1).fmod 10).toNat Str.empty]
section GroupA
variable {w : World} {mean : ExcName → Option Value} {mg mb : Str → Option Value} {fa : Addr} {cd : Value} {h₀ : Heap} {L : Addr} {s : Shared} {I ax : Addr} {vs : Array Value} {k : Nat} {o : Obj} {n : Int} {t tl : Tok} {m : Str → Option Value} {body : List Stmt} {scope : Scope} {Q : Flow → Shared → Prop}
local macro_rules | `(tactic| walk_at "subscriptTail") => `(tactic| (k_here; (with_reducible show wpAny _ _ (subscriptTail _ _ (Value.ref _) (Value.int _ _)) _ _ _); k_dflt (refine' getD_line ?gl ?gw ?gi ?gf ?_; (case gl => exact News.isList (by k_asm) (by k_mem)); (case gw => repeat constructor); (case gi => first | exact fig_lo _ | exact fig_dig _); (case gf => decide)); intro _))
theorem groupA (hb : body = lawA) (hsc : scope = lawScope) (B : Below callerA h₀ [] h₀) (F : Fr h₀ L s.heap m) (hl : m (Str.ofString "letters") = some (Value.str (Str.ofString "ABCDEFGHIJKLMNOPQRSTUVWXYZ") tl)) (hn : m (Str.ofString "number") = some (Value.int n t))
    (N : News h₀ L s.heap [(I, o), (ax, listOf vs k)]) (hlt : ax < I) (T : Top hd.view_39 (looseW hd.view_39 []) mean mg mb h₀)
    (hQ : ∀ (h : Heap) (tk : Nat) (m' : Str → Option Value) (lf : Addr) (ws : List Value) (j : Nat) (t1 t2 : Tok), Fr h₀ L h m' → News h₀ L h [(I, o), (ax, listOf vs k), (lf, listOf ws.toArray j)] → StrsAre ws (figParts (1 + (sz n).fmod 3999)) → I < lf →
      m' (Str.ofString "letters") = some (Value.str (Str.ofString "ABCDEFGHIJKLMNOPQRSTUVWXYZ") tl) → m' (Str.ofString "size") = some (Value.int (sz n) t1) → m' (Str.ofString "roman") = some (Value.int (1 + (sz n).fmod 3999) t2) →
      m' (Str.ofString "figures") = some (Value.ref lf) → Q .next { s with heap := h, toks := tk }) :
    (hd.heap_39 w.params).In h₀ → wpAny (model Challenge.rw_ew0025_01.row.prog w) (callerA.deeper (envOf (Str.ofString "law") scope L fa cd)) (execs body (envOf (Str.ofString "law") scope L fa cd)) Q (fun _ _ => False) s := by
  k_fill
  w_top off
  intro X
  replace F := fr_puts _ F (put2 hl hn)
  dsimp only [kstB] at F
  clear hl hn
  conv at hb => rhs; whnf
  conv at hsc => rhs; whnf
  subst hb hsc
  k_steps
  rename Fr _ _ _ _ => fE
  rename News _ _ _ _ => nE
  simp only [List.push_toArray, List.nil_append, List.cons_append] at nE
  refine' hQ _ _ _ ?lf ?ws ?j ?t1 ?t2 fE ?n ?st ?lt ?e1 ?e2 ?e3 ?e4
  (case e1 => with_unfolding_all rfl)
  (case e2 => with_unfolding_all rfl)
  (case e3 => with_unfolding_all rfl)
  (case e4 => with_unfolding_all rfl)
  (case n => exact news_pick3 nE (by k_mem) (by k_mem) (by k_mem))
  (case st => exact .cons _ _ (.cons _ _ (.cons _ _ (.cons _ _ .nil))))
  (case lt => exact ltN (by omega))
end GroupA
theorem join_cps : ∀ l : List Str, (Str.join (Str.ofString "") l).cps.toList = (l.map fun s => s.cps.toList).flatten
  | [] => rfl
  | [x] => by
    show x.cps.toList = _
    simp
  | x :: y :: r => by
    have ih := join_cps (y :: r)
    show (x ++ Str.ofString "" ++ Str.join (Str.ofString "") (y :: r)).cps.toList = _
    rw [Str.cps_append, Str.cps_append, List.map_cons, List.flatten_cons, ← ih]
    have e : (Str.ofString "").cps.toList = [] := by decide +kernel
    simp [e]
/-- a text's signs -/
def sg (s : Str) : List Nat := s.cps.toList
def tH : List Str := [Str.ofString "", Str.ofString "C", Str.ofString "CC", Str.ofString "CCC", Str.ofString "CD", Str.ofString "D", Str.ofString "DC", Str.ofString "DCC", Str.ofString "DCCC", Str.ofString "CM"]
def tT : List Str := [Str.ofString "", Str.ofString "X", Str.ofString "XX", Str.ofString "XXX", Str.ofString "XL", Str.ofString "L", Str.ofString "LX", Str.ofString "LXX", Str.ofString "LXXX", Str.ofString "XC"]
def tU : List Str := [Str.ofString "", Str.ofString "I", Str.ofString "II", Str.ofString "III", Str.ofString "IV", Str.ofString "V", Str.ofString "VI", Str.ofString "VII", Str.ofString "VIII", Str.ofString "IX"]
def tM : List Str := [Str.ofString "", Str.ofString "M", Str.ofString "MM", Str.ofString "MMM"]
theorem segH (y : Int) (h : 0 ≤ y ∧ y < 1000) : sg (Txt.mul (Str.ofString "CM") (y / 900)) ++ (sg (Txt.mul (Str.ofString "D") (y % 900 / 500)) ++ (sg (Txt.mul (Str.ofString "CD") (y % 900 % 500 / 400)) ++ sg (Txt.mul (Str.ofString "C") (y % 900 % 500 % 400 / 100)))) = sg (tH.getD (y / 100).toNat Str.empty) ∧ y % 900 % 500 % 400 % 100 = y % 100 := by
  refine ⟨?_, by omega⟩
  have hb : y / 100 = 0 ∨ y / 100 = 1 ∨ y / 100 = 2 ∨ y / 100 = 3 ∨ y / 100 = 4 ∨ y / 100 = 5 ∨ y / 100 = 6 ∨ y / 100 = 7 ∨ y / 100 = 8 ∨ y / 100 = 9 := by omega
  rcases hb with e | e | e | e | e | e | e | e | e | e <;> rw [e]
  · rw [show y / 900 = 0 by omega, show y % 900 / 500 = 0 by omega, show y % 900 % 500 / 400 = 0 by omega, show y % 900 % 500 % 400 / 100 = 0 by omega]; decide +kernel
  · rw [show y / 900 = 0 by omega, show y % 900 / 500 = 0 by omega, show y % 900 % 500 / 400 = 0 by omega, show y % 900 % 500 % 400 / 100 = 1 by omega]; decide +kernel
  · rw [show y / 900 = 0 by omega, show y % 900 / 500 = 0 by omega, show y % 900 % 500 / 400 = 0 by omega, show y % 900 % 500 % 400 / 100 = 2 by omega]; decide +kernel
  · rw [show y / 900 = 0 by omega, show y % 900 / 500 = 0 by omega, show y % 900 % 500 / 400 = 0 by omega, show y % 900 % 500 % 400 / 100 = 3 by omega]; decide +kernel
  · rw [show y / 900 = 0 by omega, show y % 900 / 500 = 0 by omega, show y % 900 % 500 / 400 = 1 by omega, show y % 900 % 500 % 400 / 100 = 0 by omega]; decide +kernel
  · rw [show y / 900 = 0 by omega, show y % 900 / 500 = 1 by omega, show y % 900 % 500 / 400 = 0 by omega, show y % 900 % 500 % 400 / 100 = 0 by omega]; decide +kernel
  · rw [show y / 900 = 0 by omega, show y % 900 / 500 = 1 by omega, show y % 900 % 500 / 400 = 0 by omega, show y % 900 % 500 % 400 / 100 = 1 by omega]; decide +kernel
  · rw [show y / 900 = 0 by omega, show y % 900 / 500 = 1 by omega, show y % 900 % 500 / 400 = 0 by omega, show y % 900 % 500 % 400 / 100 = 2 by omega]; decide +kernel
  · rw [show y / 900 = 0 by omega, show y % 900 / 500 = 1 by omega, show y % 900 % 500 / 400 = 0 by omega, show y % 900 % 500 % 400 / 100 = 3 by omega]; decide +kernel
  · rw [show y / 900 = 1 by omega, show y % 900 / 500 = 0 by omega, show y % 900 % 500 / 400 = 0 by omega, show y % 900 % 500 % 400 / 100 = 0 by omega]; decide +kernel
theorem segT (y : Int) (h : 0 ≤ y ∧ y < 100) : sg (Txt.mul (Str.ofString "XC") (y / 90)) ++ (sg (Txt.mul (Str.ofString "L") (y % 90 / 50)) ++ (sg (Txt.mul (Str.ofString "XL") (y % 90 % 50 / 40)) ++ sg (Txt.mul (Str.ofString "X") (y % 90 % 50 % 40 / 10)))) = sg (tT.getD (y / 10).toNat Str.empty) ∧ y % 90 % 50 % 40 % 10 = y % 10 := by
  refine ⟨?_, by omega⟩
  have hb : y / 10 = 0 ∨ y / 10 = 1 ∨ y / 10 = 2 ∨ y / 10 = 3 ∨ y / 10 = 4 ∨ y / 10 = 5 ∨ y / 10 = 6 ∨ y / 10 = 7 ∨ y / 10 = 8 ∨ y / 10 = 9 := by omega
  rcases hb with e | e | e | e | e | e | e | e | e | e <;> rw [e]
  · rw [show y / 90 = 0 by omega, show y % 90 / 50 = 0 by omega, show y % 90 % 50 / 40 = 0 by omega, show y % 90 % 50 % 40 / 10 = 0 by omega]; decide +kernel
  · rw [show y / 90 = 0 by omega, show y % 90 / 50 = 0 by omega, show y % 90 % 50 / 40 = 0 by omega, show y % 90 % 50 % 40 / 10 = 1 by omega]; decide +kernel
  · rw [show y / 90 = 0 by omega, show y % 90 / 50 = 0 by omega, show y % 90 % 50 / 40 = 0 by omega, show y % 90 % 50 % 40 / 10 = 2 by omega]; decide +kernel
  · rw [show y / 90 = 0 by omega, show y % 90 / 50 = 0 by omega, show y % 90 % 50 / 40 = 0 by omega, show y % 90 % 50 % 40 / 10 = 3 by omega]; decide +kernel
  · rw [show y / 90 = 0 by omega, show y % 90 / 50 = 0 by omega, show y % 90 % 50 / 40 = 1 by omega, show y % 90 % 50 % 40 / 10 = 0 by omega]; decide +kernel
  · rw [show y / 90 = 0 by omega, show y % 90 / 50 = 1 by omega, show y % 90 % 50 / 40 = 0 by omega, show y % 90 % 50 % 40 / 10 = 0 by omega]; decide +kernel
  · rw [show y / 90 = 0 by omega, show y % 90 / 50 = 1 by omega, show y % 90 % 50 / 40 = 0 by omega, show y % 90 % 50 % 40 / 10 = 1 by omega]; decide +kernel
  · rw [show y / 90 = 0 by omega, show y % 90 / 50 = 1 by omega, show y % 90 % 50 / 40 = 0 by omega, show y % 90 % 50 % 40 / 10 = 2 by omega]; decide +kernel
  · rw [show y / 90 = 0 by omega, show y % 90 / 50 = 1 by omega, show y % 90 % 50 / 40 = 0 by omega, show y % 90 % 50 % 40 / 10 = 3 by omega]; decide +kernel
  · rw [show y / 90 = 1 by omega, show y % 90 / 50 = 0 by omega, show y % 90 % 50 / 40 = 0 by omega, show y % 90 % 50 % 40 / 10 = 0 by omega]; decide +kernel
theorem segU' : ∀ j : Nat, j < 10 → sg (Txt.mul (Str.ofString "IX") ((j : Int) / 9)) ++ (sg (Txt.mul (Str.ofString "V") ((j : Int) % 9 / 5)) ++ (sg (Txt.mul (Str.ofString "IV") ((j : Int) % 9 % 5 / 4)) ++ sg (Txt.mul (Str.ofString "I") ((j : Int) % 9 % 5 % 4 / 1)))) = sg (tU.getD j Str.empty) := by decide +kernel
theorem segU (y : Int) (h : 0 ≤ y ∧ y < 10) : sg (Txt.mul (Str.ofString "IX") (y / 9)) ++ (sg (Txt.mul (Str.ofString "V") (y % 9 / 5)) ++ (sg (Txt.mul (Str.ofString "IV") (y % 9 % 5 / 4)) ++ sg (Txt.mul (Str.ofString "I") (y % 9 % 5 % 4 / 1)))) = sg (tU.getD y.toNat Str.empty) := by
  have e : ((y.toNat : Nat) : Int) = y := Int.toNat_of_nonneg h.1
  have := segU' y.toNat (by omega)
  rwa [e] at this
theorem segM' : ∀ j : Nat, j < 4 → sg (Txt.mul (Str.ofString "M") (j : Int)) = sg (tM.getD j Str.empty) := by decide +kernel
theorem segM (y : Int) (h : 0 ≤ y ∧ y < 4) : sg (Txt.mul (Str.ofString "M") y) = sg (tM.getD y.toNat Str.empty) := by
  have e : ((y.toNat : Nat) : Int) = y := Int.toNat_of_nonneg h.1
  have := segM' y.toNat (by omega)
  rwa [e] at this
/-- the plain law: what the roman function joins is what the figures join -/
theorem roman_eq {r : Int} (h : 1 ≤ r ∧ r ≤ 3999) : Txt.join (Str.ofString "") (figParts r) = romanS r := by
  refine Str.ext' (Array.ext' ?_)
  unfold romanS
  rw [txt_join_eq, txt_join_eq, join_cps, join_cps]
  unfold figParts romParts
  simp (disch := decide) only [Int.fdiv_eq_ediv_of_nonneg, Int.fmod_eq_emod_of_nonneg]
  have h1 := segM (r / 1000) (by omega)
  obtain ⟨h2, e2⟩ := segH (r % 1000) (by omega)
  obtain ⟨h3, e3⟩ := segT (r % 1000 % 100) (by omega)
  have h4 := segU (r % 1000 % 100 % 10) (by omega)
  rw [e2, e3]
  simp only [List.map_cons, List.map_nil, List.flatten_cons, List.flatten_nil, List.append_nil]
  unfold sg at h1 h2 h3 h4
  rw [show r / 100 % 10 = r % 1000 / 100 by omega, show r / 10 % 10 = r % 1000 % 100 / 10 by omega, show r / 1 % 10 = r % 1000 % 100 % 10 by omega]
  unfold tM tH tT tU at *
  rw [← h1, ← h2, ← h3, ← h4]
  simp only [List.append_assoc]
theorem fig_each (r : Int) : ∀ y ∈ figParts r, y.length ≤ 4 := by
  unfold figParts
  exact List.forall_mem_cons.mpr ⟨KOpn.len_getD (by decide +kernel), List.forall_mem_cons.mpr ⟨KOpn.len_getD (by decide +kernel), List.forall_mem_cons.mpr ⟨KOpn.len_getD (by decide +kernel), List.forall_mem_cons.mpr ⟨KOpn.len_getD (by decide +kernel), List.forall_mem_nil _⟩⟩⟩⟩
theorem fig_fits (r : Int) : ((figParts r).map (·.length)).sum + (figParts r).length * (Str.ofString "").length ≤ 16777216 := by
  have h1 := StrLaws.sumLen_le (figParts r) (fig_each r)
  have h2 : (figParts r).length = 4 := rfl
  have h3 : (Str.ofString "").length = 0 := by decide +kernel
  rw [h2] at h1 ⊢
  rw [h3]
  omega
section Lines
variable {prog : Program} {w : World} {A : Around} {E : Value → Shared → Prop} {s : Shared} {x : Str} {t u : Tok} {Q : Value → Shared → Prop}
theorem join_fig {D : Addr} {items : List Value} {r : Int} (hr : 1 ≤ r ∧ r ≤ 3999) (hl : s.heap.IsList D items.toArray) (hi : StrsAre items (figParts r))
    (h : ∀ t' k, Q (.str (romanS r) t') { s with toks := k }) : wpAny (model prog w) A (call (.builtin "str.join") [.str (Str.ofString "") t, .ref D]) Q E s :=
  join_list hl hi (fig_fits r) (by rw [roman_eq hr]; exact h)
theorem ne_same (h : Q (.bool false) s) : wpAny (model prog w) A (compareOp .NotEq (.str x t) (.str x u)) Q E s :=
  ne_str (by simpa using h)
end Lines
section GroupB
variable {w : World} {mean : ExcName → Option Value} {mg mb : Str → Option Value} {fa : Addr} {cd : Value} {h₀ : Heap} {L : Addr} {s : Shared} {I ax lf : Addr} {vs : Array Value} {ws : List Value} {k j : Nat} {o : Obj} {z r : Int} {t1 t2 tl : Tok} {m : Str → Option Value} {body : List Stmt} {scope : Scope} {Q : Flow → Shared → Prop}
local macro_rules | `(tactic| walk_at "call ref") => `(tactic| (k_here; k_dflt (first
  | (refine' roman_c ?k1 ?k2 ?k4 ?k5 ?kK ?kp ?kd ?ku ?_ ?k3; (case k1 => k_asm); (case k2 => k_asm); (case k3 => k_asm); (case k4 => k_asm); (case k5 => k_asm); (case kK => first | exact rfl | assumption); (case kp => assumption); (case kd => ktr_room); (case ku => ktr_units))
  | (refine' lroman_c ?k1 ?k2 ?k4 ?k5 ?kK ?kp ?kd ?ku ?_ ?k3; (case k1 => k_asm); (case k2 => k_asm); (case k3 => k_asm); (case k4 => k_asm); (case k5 => k_asm); (case kK => first | exact rfl | assumption); (case kp => assumption); (case kd => ktr_room); (case ku => ktr_units))); dsimp only [CbRet]; intro t9 h9 tk9 F9 N9; (try dsimp only); (try k_fold)))
local macro_rules | `(tactic| walk_at "call builtin:str.join") => `(tactic| (k_here; (with_reducible show wpAny _ _ (call (Value.builtin "str.join") [Value.str _ _, Value.ref _]) _ _ _); k_dflt (refine' join_fig ?jr ?jl ?ji ?_; (case ji => assumption); (case jr => assumption); (case jl => exact News.isList (by k_asm) (by k_mem))); intro _ _))
local macro_rules | `(tactic| walk_at "compareOp NotEq str str") => `(tactic| (k_here; (with_reducible refine ne_same ?_)))
local macro_rules | `(tactic| walk_at "call builtin:str.lower") => `(tactic| (k_here; k_dflt (refine' SCL.lower ?hx ?_; (case hx => exact Nat.le_trans (rom_len (by assumption)) (by decide))); intro _))
theorem groupB (hb : body = lawB) (hsc : scope = lawScope) (B : Below callerA h₀ [] h₀) (F : Fr h₀ L s.heap m) (hl : m (Str.ofString "letters") = some (Value.str (Str.ofString "ABCDEFGHIJKLMNOPQRSTUVWXYZ") tl)) (hz : m (Str.ofString "size") = some (Value.int z t1)) (hr : m (Str.ofString "roman") = some (Value.int r t2)) (hf : m (Str.ofString "figures") = some (Value.ref lf))
    (N : News h₀ L s.heap [(I, o), (ax, listOf vs k), (lf, listOf ws.toArray j)]) (hws : StrsAre ws (figParts r)) (hR : 1 ≤ r ∧ r ≤ 3999) (T : Top hd.view_39 (looseW hd.view_39 []) mean mg mb h₀)
    (hQ : ∀ (h : Heap) (tk : Nat) (m' : Str → Option Value), Fr h₀ L h m' → News h₀ L h [(I, o), (ax, listOf vs k)] →
      m' (Str.ofString "letters") = some (Value.str (Str.ofString "ABCDEFGHIJKLMNOPQRSTUVWXYZ") tl) → m' (Str.ofString "size") = some (Value.int z t1) → Q .next { s with heap := h, toks := tk }) :
    (hd.heap_39 w.params).In h₀ → wpAny (model Challenge.rw_ew0025_01.row.prog w) (callerA.deeper (envOf (Str.ofString "law") scope L fa cd)) (execs body (envOf (Str.ofString "law") scope L fa cd)) Q (fun _ _ => False) s := by
  k_fill
  w_top off
  intro X
  replace F := fr_puts _ F (put4 hl hz hr hf)
  dsimp only [kstB] at F
  clear hl hz hr hf
  have hR0 : 0 ≤ r ∧ r ≤ 3999 := ⟨by omega, hR.2⟩
  conv at hb => rhs; whnf
  conv at hsc => rhs; whnf
  subst hb hsc
  k_steps
  rename Fr _ _ _ _ => fE
  rename News _ _ _ _ => nE
  refine' hQ _ _ _ fE ?n ?e1 ?e2
  (case e1 => with_unfolding_all rfl)
  (case e2 => with_unfolding_all rfl)
  (case n => exact news_pick2 nE (by k_mem) (by k_mem))
end GroupB
theorem letter_form {p : Int} (hp : 1 ≤ p ∧ p ≤ 13312) : ∃ q K : Nat, q < 26 ∧ K < 512 ∧ p = 26 * (K : Int) + (q : Int) + 1 ∧ letterS p = rep (65 + q) (K + 1) := by
  obtain ⟨h1, h2, h3⟩ := fm26 (p - 1)
  refine ⟨((p - 1).fmod 26).toNat, ((p - 1).fdiv 26).toNat, by omega, by omega, by omega, ?_⟩
  unfold letterS
  congr 1
  omega
theorem letter_next_z {p : Int} {q K : Nat} (h : p = 26 * (K : Int) + (q : Int) + 1) (hq : q = 25) : letterS (p + 1) = rep 65 (K + 1 + 1) := by
  obtain ⟨h1, h2, h3⟩ := fm26 (p + 1 - 1)
  have e1 : (p + 1 - 1).fmod 26 = 0 := by omega
  have e2 : (p + 1 - 1).fdiv 26 = (K : Int) + 1 := by omega
  unfold letterS
  rw [e1, e2]
  exact congrArg (rep 65) (by omega)
theorem letter_next {p : Int} {q K : Nat} (h : p = 26 * (K : Int) + (q : Int) + 1) (hq : q < 26) (hq' : ¬ q = 25) : letterS (p + 1) = rep (65 + (q + 1)) (K + 1) := by
  obtain ⟨h1, h2, h3⟩ := fm26 (p + 1 - 1)
  have e1 : (p + 1 - 1).fmod 26 = (q : Int) + 1 := by omega
  have e2 : (p + 1 - 1).fdiv 26 = (K : Int) := by omega
  unfold letterS
  rw [e1, e2, show ((q : Int) + 1).toNat = q + 1 by omega, show ((K : Int) + 1).toNat = K + 1 by omega]
theorem eq_z' : ∀ q : Nat, q < 26 → (rep (65 + q) 1 == Str.ofString "Z") = decide (q = 25) := by decide +kernel
theorem rep_inj {c c' K K' : Nat} (h : c = c') (h' : K = K') : rep c K = rep c' K' := by rw [h, h']
theorem slice_rep_eq (c K : Nat) : Txt.slice (rep c (K + 1)) none (some 1) = rep c 1 := by
  have h := StrLaws.sliceText_to (x := rep c (K + 1)) (j := 1) ⟨by decide, by simp [rep]; omega⟩
  show StrLaws.sliceText _ _ _ = _
  rw [h]
  simp [rep, List.replicate_succ]
theorem item_rep_eq (c K : Nat) : Txt.item (rep c (K + 1)) 0 = rep c 1 := by
  have h : (rep c (K + 1)).cps[(0 : Int).toNat]? = some c := by simp [rep]
  unfold Txt.item Txt.charAt
  rw [StrLaws.at_nonneg (Int.le_refl 0) h]
  rfl
theorem idx_abc : ∀ q : Nat, q < 26 → Builtin.Str.occurrences (Str.ofString "ABCDEFGHIJKLMNOPQRSTUVWXYZ") (rep (65 + q) 1) 0 (Str.ofString "ABCDEFGHIJKLMNOPQRSTUVWXYZ").length 1 = [q] := by decide +kernel
theorem any_abc : ∀ q : Nat, q < 26 → (signs (Str.ofString "ABCDEFGHIJKLMNOPQRSTUVWXYZ")).any (· == rep (65 + q) 1) = true := by decide +kernel
section
variable {prog : Program} {w : World} {A : Around} {E : Value → Shared → Prop} {s : Shared} {t u uj : Tok} {Q : Value → Shared → Prop} {h₀ : Heap} {L : Addr} {m : Str → Option Value} {news : List (Addr × Obj)} {c q K : Nat} {value slice : PySem.Expr}
theorem rep_fit (hK : K < 1024) : (rep c (K + 1)).length ≤ sizeLine := by
  rw [rep_len, sizeLine_eq]
  omega
theorem slice_rep (hF : Fr h₀ L s.heap m) (hN : News h₀ L s.heap news) (hK : K < 512) (h : ∀ h' t' k, Fr h₀ L h' m → News h₀ L h' news → Q (.str (rep c 1) t') { s with heap := h', toks := k })
    (hs : subscripted slice false (.str (rep c (K + 1)) t) (.ref s.heap.objs.size) = operate [.ref s.heap.objs.size, .str (rep c (K + 1)) t] (getItem (.str (rep c (K + 1)) t) (.ref s.heap.objs.size)) := by with_unfolding_all rfl)
    (ht : ∀ r, letTemporaryGo value (.str (rep c (K + 1)) t) r = pure () := by intro _; with_unfolding_all rfl) :
    wpAny (model prog w) A (subscriptTail value slice (.str (rep c (K + 1)) t) (.ref s.heap.objs.size)) Q E { s with heap := s.heap.push { cls := .type "slice", data := .fields #[.none, .int 1 uj, .none] } } :=
  slice_strN_ns hF hN (by rw [slice_rep_eq]; exact h) hs ht (rep_fit (by omega))
theorem item_rep (hK : K < 512) (h : ∀ t' k, Q (.str (rep c 1) t') { s with toks := k })
    (hs : subscripted slice false (.str (rep c (K + 1)) t) (.int 0 u) = operate [.str (rep c (K + 1)) t, .int 0 u] (getItem (.str (rep c (K + 1)) t) (.int 0 u)) := by with_unfolding_all rfl)
    (ht : ∀ r, letTemporaryGo value (.str (rep c (K + 1)) t) r = pure () := by intro _; with_unfolding_all rfl) :
    wpAny (model prog w) A (subscriptTail value slice (.str (rep c (K + 1)) t) (.int 0 u)) Q E s :=
  item_str (by decide) (by rw [rep_len]; omega) (by rw [rep_len]; omega) (fun _ => by rw [item_rep_eq]; exact h _ _) hs ht
theorem len_rep (hK : K < 512) (h : ∀ t' k, Q (.int ((K : Int) + 1) t') { s with toks := k }) : wpAny (model prog w) A (call (.builtin "len") [.str (rep c (K + 1)) t]) Q E s := by
  have e : (((rep c (K + 1)).length : Nat) : Int) = (K : Int) + 1 := by rw [rep_len]; omega
  refine P.len_str (by omega) ?_
  rw [e]
  exact h _ _
theorem mul_rep1 {k : Int} (hk : 0 ≤ k ∧ k ≤ 600) (h : ∀ t' j, Q (.str (rep c k.toNat) t') { s with toks := j }) : wpAny (model prog w) A (binaryOp .Mult (.str (rep c 1) t) (.int k u)) Q E s := by
  refine SB.mul (mulOk_of 1 4000 (by rw [rep_len]; decide) (by omega) (by omega) (by decide) (by decide)) ?_
  rw [mul_rep _ _ hk.1]
  exact h
theorem ne_int_no {a b : Int} (e : a = b) (h : Q (.bool false) s) : wpAny (model prog w) A (compareOp .NotEq (.int a t) (.int b u)) Q E s :=
  ne_int (by subst e; simpa using h)
theorem eq_z (hq : q < 26) (h : Q (.bool (decide (q = 25))) s) : wpAny (model prog w) A (compareOp .Eq (.str (rep (65 + q) 1) t) (.str (Str.ofString "Z") u)) Q E s :=
  eq_str (by rw [eq_z' q hq]; exact h)
theorem mul_A (hK : K < 512) (h : ∀ t' j, Q (.str (rep 65 (K + 1 + 1)) t') { s with toks := j }) : wpAny (model prog w) A (binaryOp .Mult (.str (Str.ofString "A") t) (.int ((K : Int) + 1 + 1) u)) Q E s := by
  have e : Str.ofString "A" = rep 65 1 := by decide +kernel
  rw [e]
  exact mul_rep1 (by omega) (by rw [show ((K : Int) + 1 + 1).toNat = K + 1 + 1 by omega]; exact h)
theorem item_abcL (hq : q < 26) (hq' : ¬ q = 25) (h : ∀ t' k, Q (.str (rep (65 + (q + 1)) 1) t') { s with toks := k })
    (hs : subscripted slice false (.str (Str.ofString "ABCDEFGHIJKLMNOPQRSTUVWXYZ") t) (.int ((q : Int) + 1) u) = operate [.str (Str.ofString "ABCDEFGHIJKLMNOPQRSTUVWXYZ") t, .int ((q : Int) + 1) u] (getItem (.str (Str.ofString "ABCDEFGHIJKLMNOPQRSTUVWXYZ") t) (.int ((q : Int) + 1) u)) := by with_unfolding_all rfl)
    (ht : ∀ r, letTemporaryGo value (.str (Str.ofString "ABCDEFGHIJKLMNOPQRSTUVWXYZ") t) r = pure () := by intro _; with_unfolding_all rfl) :
    wpAny (model prog w) A (subscriptTail value slice (.str (Str.ofString "ABCDEFGHIJKLMNOPQRSTUVWXYZ") t) (.int ((q : Int) + 1) u)) Q E s := by
  have e : Txt.item (Str.ofString "ABCDEFGHIJKLMNOPQRSTUVWXYZ") ((q : Int) + 1) = rep (65 + (q + 1)) 1 := item_abc' (q + 1) (by omega)
  have el : (Str.ofString "ABCDEFGHIJKLMNOPQRSTUVWXYZ").length = 26 := by decide +kernel
  refine item_str ?_ (by rw [el]; omega) (by rw [el]; omega) (fun _ => by rw [e]; exact h _ _) hs ht
  unfold fitsSsize
  simp
  omega
theorem mul_repK (hK : K < 599) (h : ∀ t' j, Q (.str (rep c (K + 1)) t') { s with toks := j }) : wpAny (model prog w) A (binaryOp .Mult (.str (rep c 1) t) (.int ((K : Int) + 1) u)) Q E s :=
  mul_rep1 (by omega) (by rw [show ((K : Int) + 1).toNat = K + 1 by omega]; exact h)
theorem lower_rep (hK : K < 512) (h : Q (.str (Txt.lower (rep c (K + 1))) s.toks) { s with toks := s.toks + 1 }) : wpAny (model prog w) A (call (.builtin "str.lower") [.str (rep c (K + 1)) t]) Q E s :=
  SCL.lower (by rw [rep_len]; omega) (fun _ => h)
theorem index_rep (hq : q < 26) (h : ∀ t' k, Q (.int (q : Int) t') { s with toks := k }) : wpAny (model prog w) A (call (.builtin "str.index") [.str (Str.ofString "ABCDEFGHIJKLMNOPQRSTUVWXYZ") t, .str (rep (65 + q) 1) u]) Q E s :=
  SC.index (idx_abc q hq) (h _ _)
theorem list_abc (hh : A.handled = none) (Fh : Fr h₀ L s.heap m) (N : News h₀ L s.heap news)
    (hQ : ∀ (D : Addr) (ys : List Value) h' tk, Fr h₀ L h' m → News h₀ L h' news → h'.IsList D ys.toArray → StrsAre ys (signs (Str.ofString "ABCDEFGHIJKLMNOPQRSTUVWXYZ")) → Q (.ref D) { s with heap := h', toks := tk }) :
    wpAny (model prog w) A (call (.type "list") [.str (Str.ofString "ABCDEFGHIJKLMNOPQRSTUVWXYZ") t]) Q E s :=
  list_strD hh Fh N (fun h' tk ys F' N' _ _ hl _ hc => hQ _ ys h' tk F' N' hl (StrsAre.of_carried hc)) (by rw [sizeLine_eq]; decide +kernel)
theorem notin_abc {D : Addr} {ys : List Value} (hq : q < 26) (hl : s.heap.IsList D ys.toArray) (hi : StrsAre ys (signs (Str.ofString "ABCDEFGHIJKLMNOPQRSTUVWXYZ"))) (h : Q (.bool false) s) :
    wpAny (model prog w) A (compareOp .NotIn (.str (rep (65 + q) 1) t) (.ref D)) Q E s :=
  notin_list_strs hl hi (by rw [any_abc q hq]; exact h)
end
section GroupC
variable {w : World} {mean : ExcName → Option Value} {mg mb : Str → Option Value} {fa : Addr} {cd : Value} {h₀ : Heap} {L : Addr} {s : Shared} {I ax lf : Addr} {vs : Array Value} {k : Nat} {o : Obj} {z : Int} {t1 tl : Tok} {m : Str → Option Value} {body : List Stmt} {scope : Scope} {Q : Flow → Shared → Prop}
local macro_rules | `(tactic| walk_at "call ref") => `(tactic| (k_here; k_dflt (first
  | (refine' letter_c ?k1 ?k2 ?k4 ?k5 ?kK ?kp ?kd ?ku ?_ ?k3; (case k1 => k_asm); (case k2 => k_asm); (case k3 => k_asm); (case k4 => k_asm); (case k5 => k_asm); (case kK => first | exact rfl | assumption); (case kp => assumption); (case kd => ktr_room); (case ku => ktr_units))
  | (refine' lletter_c ?k1 ?k2 ?k4 ?k5 ?kK ?kp ?kd ?ku ?_ ?k3; (case k1 => k_asm); (case k2 => k_asm); (case k3 => k_asm); (case k4 => k_asm); (case k5 => k_asm); (case kK => first | exact rfl | assumption); (case kp => assumption); (case kd => ktr_room); (case ku => ktr_units))); dsimp only [CbRet]; intro t9 h9 tk9 F9 N9; (try dsimp only); (rw [(by assumption : letterS _ = rep _ _)]); (try k_fold)))
local macro_rules | `(tactic| walk_at "compareOp NotEq str str") => `(tactic| (k_here; (with_reducible refine ne_same ?_)))
local macro_rules | `(tactic| walk_at "subscriptTail Name Slice str ref") => `(tactic| (k_here; (with_reducible rename Fr _ _ _ _ => F'); (with_reducible rename News _ _ _ _ => N'); k_dflt (refine slice_rep (s := ⟨_, _, _, _, _⟩) F' N' (by assumption) ?_); intro h' t' k' F' N'; (try k_sweep)))
local macro_rules | `(tactic| walk_at "subscriptTail Name Constant str int") => `(tactic| (k_here; k_dflt (refine item_rep (by assumption) ?_); intro _ _))
local macro_rules | `(tactic| walk_at "call builtin:len") => `(tactic| (k_here; k_dflt (refine len_rep (by assumption) ?_); intro _ _))
local macro_rules | `(tactic| walk_at "binaryOp Mult str int") => `(tactic| (k_here; k_dflt (refine mul_repK (by omega) ?_); intro _ _))
local macro_rules | `(tactic| walk_at "call type:list") => `(tactic| (k_here; (with_reducible rename Fr _ _ _ _ => F'); (with_reducible rename News _ _ _ _ => N'); k_dflt (refine list_abc (by rfl) F' N' ?_); intro D' ys' h' tk' F' N' hl' hs'; (try k_sweep)))
local macro_rules | `(tactic| walk_at "compareOp NotIn str ref") => `(tactic| (k_here; k_dflt (refine notin_abc (by assumption) (by assumption) (by assumption) ?_)))
local macro_rules | `(tactic| walk_at "call builtin:str.index") => `(tactic| (k_here; k_dflt (refine index_rep (by assumption) ?_); intro _ _))
local macro_rules | `(tactic| walk_at "call builtin:str.lower") => `(tactic| (k_here; k_dflt (refine lower_rep (by assumption) ?_)))
local macro_rules | `(tactic| walk_at "compareOp NotEq int int") => `(tactic| (k_here; (refine ne_int_no (by omega) ?_)))
theorem groupC (hb : body = lawC) (hsc : scope = lawScope) (B : Below callerA h₀ [] h₀) (F : Fr h₀ L s.heap m) (hl : m (Str.ofString "letters") = some (Value.str (Str.ofString "ABCDEFGHIJKLMNOPQRSTUVWXYZ") tl)) (hz : m (Str.ofString "size") = some (Value.int z t1))
    (N : News h₀ L s.heap [(I, o), (ax, listOf vs k)]) (T : Top hd.view_39 (looseW hd.view_39 []) mean mg mb h₀)
    (hQ : ∀ (h : Heap) (tk : Nat) (m' : Str → Option Value) (t2 t3 : Tok), Fr h₀ L h m' → News h₀ L h [(I, o), (ax, listOf vs k)] →
      m' (Str.ofString "letters") = some (Value.str (Str.ofString "ABCDEFGHIJKLMNOPQRSTUVWXYZ") tl) → m' (Str.ofString "size") = some (Value.int z t1) → m' (Str.ofString "place") = some (Value.int (1 + z.fmod 13312) t2) → m' (Str.ofString "label") = some (Value.str (letterS (1 + z.fmod 13312)) t3) →
      Q .next { s with heap := h, toks := tk }) :
    (hd.heap_39 w.params).In h₀ → wpAny (model Challenge.rw_ew0025_01.row.prog w) (callerA.deeper (envOf (Str.ofString "law") scope L fa cd)) (execs body (envOf (Str.ofString "law") scope L fa cd)) Q (fun _ _ => False) s := by
  k_fill
  w_top off
  intro X
  have hP : 1 ≤ 1 + z.fmod 13312 ∧ 1 + z.fmod 13312 ≤ 13312 := by
    rw [Int.fmod_eq_emod_of_nonneg _ (by decide)]
    omega
  obtain ⟨q, K, hq, hK, hpq, hform⟩ := letter_form hP
  replace F := fr_puts _ F (put2 hl hz)
  dsimp only [kstB] at F
  clear hl hz
  conv at hb => rhs; whnf
  conv at hsc => rhs; whnf
  subst hb hsc
  k_steps
  rename Fr _ _ _ _ => fE
  rename News _ _ _ _ => nE
  refine' hQ _ _ _ _ _ fE ?n ?e1 ?e2 ?e3 ?e4
  (case e1 => with_unfolding_all rfl)
  (case e2 => with_unfolding_all rfl)
  (case e3 => with_unfolding_all rfl)
  (case e4 => rw [hform]; with_unfolding_all rfl)
  (case n => exact news_pick2 nE (by k_mem) (by k_mem))
end GroupC
section GroupD
variable {w : World} {mean : ExcName → Option Value} {mg mb : Str → Option Value} {fa : Addr} {cd : Value} {h₀ : Heap} {L : Addr} {s : Shared} {I ax lf : Addr} {vs : Array Value} {k : Nat} {o : Obj} {z p : Int} {q K : Nat} {t1 t2 t3 tl : Tok} {m : Str → Option Value} {body : List Stmt} {scope : Scope} {Q : Flow → Shared → Prop}
local macro_rules | `(tactic| walk_at "call ref") => `(tactic| (k_here; k_dflt (refine' letter_c ?k1 ?k2 ?k4 ?k5 ?kK ?kp ?kd ?ku ?_ ?k3; (case k1 => k_asm); (case k2 => k_asm); (case k3 => k_asm); (case k4 => k_asm); (case k5 => k_asm); (case kK => first | exact rfl | assumption); (case kp => exact ⟨by omega, by omega⟩); (case kd => ktr_room); (case ku => ktr_units)); dsimp only [CbRet]; intro t9 h9 tk9 F9 N9; (try dsimp only); (first | rw [letter_next_z (by assumption) (by assumption)] | rw [letter_next (by assumption) (by assumption) (by assumption)]); (try k_fold)))
local macro_rules | `(tactic| walk_at "compareOp NotEq str str") => `(tactic| (k_here; (with_reducible refine ne_same ?_)))
local macro_rules | `(tactic| walk_at "compareOp Eq str str") => `(tactic| (k_here; (with_reducible refine eq_z (by assumption) ?_)))
local macro_rules | `(tactic| walk_at "subscriptTail Name Constant str int") => `(tactic| (k_here; k_dflt (refine item_rep (by assumption) ?_); intro _ _))
local macro_rules | `(tactic| walk_at "subscriptTail Name BinOp str int") => `(tactic| (k_here; k_dflt (refine item_abcL (by assumption) (by assumption) ?_); intro _ _))
local macro_rules | `(tactic| walk_at "call builtin:len") => `(tactic| (k_here; k_dflt (refine len_rep (by assumption) ?_); intro _ _))
local macro_rules | `(tactic| walk_at "binaryOp Mult str int") => `(tactic| (k_here; (first | ((with_reducible refine' mul_A ?hK ?_); (case hK => assumption)) | ((with_reducible refine' mul_repK ?hK ?_); (case hK => omega))); intro _ _))
local macro_rules | `(tactic| walk_at "call builtin:str.index") => `(tactic| (k_here; k_dflt (refine index_rep (by assumption) ?_); intro _ _))
theorem groupD (hb : body = lawD) (hsc : scope = lawScope) (B : Below callerA h₀ [] h₀) (F : Fr h₀ L s.heap m) (hl : m (Str.ofString "letters") = some (Value.str (Str.ofString "ABCDEFGHIJKLMNOPQRSTUVWXYZ") tl)) (hz : m (Str.ofString "size") = some (Value.int z t1)) (hpl : m (Str.ofString "place") = some (Value.int p t2)) (hlb : m (Str.ofString "label") = some (Value.str (rep (65 + q) (K + 1)) t3))
    (N : News h₀ L s.heap [(I, o), (ax, listOf vs k)]) (T : Top hd.view_39 (looseW hd.view_39 []) mean mg mb h₀) (hP : 1 ≤ p ∧ p ≤ 13312) (hq : q < 26) (hK : K < 512) (hpq : p = 26 * (K : Int) + (q : Int) + 1)
    (hQ : ∀ (h : Heap) (tk : Nat) (m' : Str → Option Value), Fr h₀ L h m' → News h₀ L h [(I, o), (ax, listOf vs k)] →
      m' (Str.ofString "letters") = some (Value.str (Str.ofString "ABCDEFGHIJKLMNOPQRSTUVWXYZ") tl) → m' (Str.ofString "size") = some (Value.int z t1) → Q .next { s with heap := h, toks := tk }) :
    (hd.heap_39 w.params).In h₀ → wpAny (model Challenge.rw_ew0025_01.row.prog w) (callerA.deeper (envOf (Str.ofString "law") scope L fa cd)) (execs body (envOf (Str.ofString "law") scope L fa cd)) Q (fun _ _ => False) s := by
  k_fill
  w_top off
  intro X
  replace F := fr_puts _ F (put4 hl hz hpl hlb)
  dsimp only [kstB] at F
  clear hl hz hpl hlb
  conv at hb => rhs; whnf
  conv at hsc => rhs; whnf
  subst hb hsc
  k_steps
  all_goals (
    rename Fr _ _ _ _ => fE
    rename News _ _ _ _ => nE
    refine' hQ _ _ _ fE ?n ?e1 ?e2
    (case e1 => with_unfolding_all rfl)
    (case e2 => with_unfolding_all rfl)
    (case n => exact news_pick2 nE (by k_mem) (by k_mem)))
end GroupD
/-! enumerate over a tuple (the library has it over a list, a text) -/
section Enum
variable {prog : Program} {w : World} {A : Around} {E : Value → Shared → Prop} {s : Shared}
/-- the tuple's iterator, asked by enumerate: an item -/
theorem tup_step {it t : Addr} {i : Nat} {items : Array Value} {x : Value} {Q : Value → Shared → Prop} (hit : s.heap.IsTupleIter it t i) (ht : s.heap.IsTuple t items) (hx : items[i]? = some x)
    (hQ : ∀ h', h'.IsTupleIter it t (i + 1) → Heap.SameBut it s.heap h' → Q x { s with heap := h' }) : wpAny (model prog w) A (Builtin.SmallTypes.nextOf (.ref it)) Q E s := by
  have hT := hit.typeIs
  obtain ⟨oi, hoi, hci, hdi⟩ := hit
  obtain ⟨ot, hot, _, nt, hdt⟩ := ht
  unfold Builtin.SmallTypes.nextOf
  refine wpAny_bind (wpAny_callSpecial?_slot (name := Str.ofString "__next__") hT F.slot_tuple_iterator_next
    (wpAny_call_entry F.slot_tuple_iterator_next hT F.entry_tuple_iterator_next ?_ (F.args_tuple_iterator_next_1 _)))
  show wpAny _ _ (field (.ref it) 0 >>= _) _ _ s
  refine wpAny_bind (wpAny_field hoi hdi (x := .ref t) rfl ?_)
  show wpAny _ _ (if (Value.ref t == Value.none) = true then _ else _) _ _ s
  rw [if_neg (show ¬ ((Value.ref t == Value.none) = true) from Bool.false_ne_true)]
  show wpAny _ _ (field (.ref it) 1 >>= _) _ _ s
  refine wpAny_bind (wpAny_field hoi hdi (x := .int i 0) rfl ?_)
  show wpAny _ _ (seqItems? (.ref t) >>= _) _ _ s
  refine wpAny_bind (wpAny_seqItems hot hdt ?_)
  simp only [Int.toNat_natCast, hx]
  refine wpAny_bind (wpAny_setField hoi hdi (by simp) (wpAny_pure ⟨x, rfl, wpAny_pure (hQ _ ⟨_, Heap.get?_update_self _ hoi (Obj.isFreed_of_fields (Obj.data_mapFields hdi _)), (Obj.cls_mapFields ..).trans hci, ?_⟩ (Heap.SameBut.update ..))⟩))
  rw [Obj.data_mapFields hdi]
  simp [rawInt]
/-- the tuple's iterator, asked by enumerate: its end -/
theorem tup_stop {it t : Addr} {i : Nat} {items : Array Value} {Q : Value → Shared → Prop} (hh : A.handled = none) (hit : s.heap.IsTupleIter it t i) (ht : s.heap.IsTuple t items) (hx : items[i]? = none)
    (hE : ∀ h' e, Heap.ExtBut it s.heap h' → (∃ o, h'.get? e = some o ∧ o.cls = .type "StopIteration") → E (.ref e) { s with heap := h' }) : wpAny (model prog w) A (Builtin.SmallTypes.nextOf (.ref it)) Q E s := by
  have hT := hit.typeIs
  obtain ⟨oi, hoi, hci, hdi⟩ := hit
  obtain ⟨ot, hot, _, nt, hdt⟩ := ht
  unfold Builtin.SmallTypes.nextOf
  refine wpAny_bind (wpAny_callSpecial?_slot (name := Str.ofString "__next__") hT F.slot_tuple_iterator_next
    (wpAny_call_entry F.slot_tuple_iterator_next hT F.entry_tuple_iterator_next ?_ (F.args_tuple_iterator_next_1 _)))
  show wpAny _ _ (field (.ref it) 0 >>= _) _ _ s
  refine wpAny_bind (wpAny_field hoi hdi (x := .ref t) rfl ?_)
  show wpAny _ _ (if (Value.ref t == Value.none) = true then _ else _) _ _ s
  rw [if_neg (show ¬ ((Value.ref t == Value.none) = true) from Bool.false_ne_true)]
  show wpAny _ _ (field (.ref it) 1 >>= _) _ _ s
  refine wpAny_bind (wpAny_field hoi hdi (x := .int i 0) rfl ?_)
  show wpAny _ _ (seqItems? (.ref t) >>= _) _ _ s
  refine wpAny_bind (wpAny_seqItems hot hdt ?_)
  simp only [Int.toNat_natCast, hx]
  refine wpAny_bind (wpAny_rule (wpAny_bind (wpAny_setField hoi hdi (by simp) ?_)))
  show wpAny _ _ (newExc (.type "StopIteration") [] >>= _) _ _ _
  refine wpAny_bind ?_
  simp only [newExc, newTuple]
  refine wpAny_bind (wpAny_newObj_type ?_ (by size_fits))
  refine wpAny_bind (m := firstArgMember _ _) (wpAny_of_eq (a := Value.none) (by first | rfl | (simp only [firstArgMember]; rfl)) ?_)
  refine wpAny_newObj_type ?_ (by size_fits)
  simp only [raiseNew]
  refine wpAny_bind (wpAny_handled ?_)
  first | rw [show A.in1.handled = none from hh] | rw [hh]
  exact wpAny_bind (wpAny_pure (wpAny_throw (hE _ _ (((Heap.SameBut.update ..).extBut.push _).push _) ⟨_, Heap.get?_push_size _ rfl, rfl⟩)))
/-- what stands at other places than e stays: one place written after the other -/
def Off (e : Addr) (h h' : Heap) : Prop := ∀ b o, b ≠ e → h.get? b = some o → h'.get? b = some o
theorem Off.trans {e : Addr} {h h' h'' : Heap} (x : Off e h h') (y : Off e h' h'') : Off e h h'' := fun b o hb hg => y b o hb (x b o hb hg)
theorem Off.of {e : Addr} {h h' : Heap} (x : Heap.SameBut e h h') : Off e h h' := fun b o hb hg => x.extBut b o hb hg
/-- enumerate's own step over a tuple -/
theorem enumT_item {e it t : Addr} {i : Nat} {items : Array Value} {x old : Value} {Q : Option Value → Shared → Prop}
    (he : IsEnum s.heap e it i old) (hit : s.heap.IsTupleIter it t i) (ht : s.heap.IsTuple t items) (hx : items[i]? = some x) (hne : e ≠ it)
    (hQ : ∀ h', IsEnumOut h' e it ((i : Int) + 1) x s.heap.objs.size → h'.IsTupleIter it t (i + 1) →
      h'.get? s.heap.objs.size = some { cls := .type "tuple", data := .seq #[.int i s.toks, x] } → (∀ b o, b ≠ e → b ≠ it → s.heap.get? b = some o → h'.get? b = some o) → Q (some (.ref s.heap.objs.size)) { s with heap := h', toks := s.toks + 1 }) :
    wpAny (model prog w) A (pyNext (.ref e)) Q E s := by
  obtain ⟨h0, g, d, tk, os⟩ := s
  have hT : Shared.TypeIs ⟨h0, g, d, tk, os⟩ (.ref e) "enumerate" := ⟨_, he, rfl⟩
  unfold pyNext
  refine wpAny_bind (wpAny_attempt (wpAny_callSpecial?_slot (name := Str.ofString "__next__") hT F.slot_enumerate_next
    (wpAny_call_entry F.slot_enumerate_next hT F.entry_enumerate_next ?_ (F.args_enumerate_next_1 _))))
  show wpAny _ _ (field (.ref e) 2 >>= _) _ _ _
  refine wpAny_bind (wpAny_field he rfl (x := .ref it) rfl ?_)
  refine wpAny_bind (tup_step hit ht hx fun h1 hit1 c1 => ?_)
  have o1 : Heap.SameBut it h0 h1 := c1
  have e1 : IsEnum h1 e it i old := (o1.2 e hne).trans he
  show wpAny _ _ (field (.ref e) 3 >>= _) _ _ ⟨h1, g, d, tk, os⟩
  refine wpAny_bind (wpAny_field e1 rfl (x := rawInt i) rfl ?_)
  show wpAny _ _ (field (.ref e) 4 >>= _) _ _ ⟨h1, g, d, tk, os⟩
  refine wpAny_bind (wpAny_field e1 rfl (x := .none) rfl ?_)
  show wpAny _ _ (mkInt i >>= _) _ _ ⟨h1, g, d, tk, os⟩
  refine wpAny_bind (wpAny_mkInt ?_)
  show wpAny _ _ (setField (.ref e) 3 (rawInt ((i : Int) + 1)) >>= _) _ _ ⟨h1, g, d, tk + 1, os⟩
  refine wpAny_bind (wpAny_setField_rec e1 (by simp) fun h2 e2 c2 => ?_)
  have o2 : Heap.SameBut e h1 h2 := c2
  have e2' : IsEnum h2 e it ((i : Int) + 1) old := e2
  show wpAny _ _ (setField (.ref e) 4 .none >>= _) _ _ ⟨h2, g, d, tk + 1, os⟩
  refine wpAny_bind (wpAny_setField_rec e2' (by simp) fun h3 e3 c3 => ?_)
  have o3 : Heap.SameBut e h2 h3 := c3
  have e3' : IsEnum h3 e it ((i : Int) + 1) old := e3
  have sz3 : h3.objs.size = h0.objs.size := by rw [o3.1, o2.1, o1.1]
  have lt0 : e < h0.objs.size := Heap.lt_size he
  have off3 : Off e h1 h3 := (Off.of o2).trans (Off.of o3)
  show wpAny _ _ (newTuple [.int i tk, x] >>= _) _ _ ⟨h3, g, d, tk + 1, os⟩
  refine wpAny_bind (wpAny_newTuple ?_)
  obtain ⟨h4, q4⟩ : ∃ h4, h4 = h3.push { cls := .type "tuple", data := .seq #[.int i tk, x] } := ⟨_, rfl⟩
  have e4 : IsEnum h4 e it ((i : Int) + 1) old := by rw [q4]; exact Heap.get?_push_of_some _ e3'
  have t4 : h4.get? h0.objs.size = some { cls := .type "tuple", data := .seq #[.int i tk, x] } := by rw [q4, ← sz3]; exact Heap.get?_push_size _ rfl
  have off4 : Off e h1 h4 := off3.trans fun b o _ hg => by rw [q4]; exact Heap.get?_push_of_some _ hg
  have i4 : h4.IsTupleIter it t (i + 1) := hit1.at fun o hg => off4 it o hne.symm hg
  rw [show (({ cls := .type "tuple", data := .seq #[.int i tk, x] } : Obj)) = ({ cls := .type "tuple", data := .seq [Value.int i tk, x].toArray } : Obj) from rfl] at q4
  show wpAny _ _ (Builtin.SmallTypes.ownedTupleIsFree (.ref e) >>= _) _ _ ⟨h3.push { cls := .type "tuple", data := .seq [Value.int i tk, x].toArray }, g, d, tk + 1, os⟩
  rw [sz3, ← q4]
  refine wpAny_bind ?_
  unfold Builtin.SmallTypes.ownedTupleIsFree
  refine wpAny_bind (wpAny_field e4 rfl (x := .none) rfl (wpAny_pure ?_))
  simp only [if_true]
  refine wpAny_bind (wpAny_rule ?_)
  refine wpAny_bind (wpAny_field e4 rfl (x := old) rfl ?_)
  refine wpAny_bind (wpAny_setField_rec e4 (by simp) fun h5 e5 c5 => ?_)
  have o5 : Heap.SameBut e h4 h5 := c5
  have e5' : IsEnum h5 e it ((i : Int) + 1) x := e5
  show wpAny _ _ (Builtin.SmallTypes.ownedTupleHandOut (.ref e) (.ref h0.objs.size) >>= _) _ _ ⟨h5, g, d, tk + 1, os⟩
  refine wpAny_bind ?_
  unfold Builtin.SmallTypes.ownedTupleHandOut
  refine wpAny_bind (wpAny_setField_rec e5' (by simp) fun h6 e6 c6 => ?_)
  have o6 : Heap.SameBut e h5 h6 := c6
  have e6' : IsEnumOut h6 e it ((i : Int) + 1) x h0.objs.size := e6
  refine wpAny_setField_rec e6' (by simp) fun h7 e7 c7 => ?_
  have o7 : Heap.SameBut e h6 h7 := c7
  have off7 : Off e h4 h7 := ((Off.of o5).trans (Off.of o6)).trans (Off.of o7)
  refine wpAny_bind (wpAny_letGo (wpAny_pure ⟨_, rfl, wpAny_pure (hQ h7 e7 ?_ ?_ ?_)⟩))
  · exact i4.at fun o hg => off7 it o hne.symm hg
  · exact off7 _ _ (Nat.ne_of_gt lt0) t4
  · exact fun b o hb hb' hg => off7 b o hb (off4 b o hb (o1.extBut b o hb' hg))
theorem enumT_end {e it t : Addr} {i : Nat} {items : Array Value} {old : Value} {Q : Option Value → Shared → Prop} (hh : A.handled = none)
    (he : IsEnum s.heap e it i old) (hit : s.heap.IsTupleIter it t i) (ht : s.heap.IsTuple t items) (hx : items[i]? = none)
    (hQ : ∀ h', Heap.ExtBut it s.heap h' → Q none { s with heap := h' }) : wpAny (model prog w) A (pyNext (.ref e)) Q E s := by
  have hT : s.TypeIs (.ref e) "enumerate" := ⟨_, he, rfl⟩
  unfold pyNext
  refine wpAny_bind (wpAny_attempt (wpAny_callSpecial?_slot (name := Str.ofString "__next__") hT F.slot_enumerate_next
    (wpAny_call_entry F.slot_enumerate_next hT F.entry_enumerate_next ?_ (F.args_enumerate_next_1 _))))
  show wpAny _ _ (field (.ref e) 2 >>= _) _ _ _
  refine wpAny_bind (wpAny_field he rfl (x := .ref it) rfl ?_)
  refine wpAny_bind (tup_stop hh hit ht hx fun h' x hk hs => ?_)
  obtain ⟨o, ho, hc⟩ := hs
  exact wpAny_bind (wpAny_isInstance (T := "StopIteration") (b := true) ⟨o, ho, hc⟩ isSubtype_stop (wpAny_pure (hQ _ hk)))
end Enum
open AutoSeq1 (wpAny_loadPart') in
theorem enumT_new (t : Addr) (items : Array Value) (n : Nat) (dct : Option Addr) (sl : Array (Option Value)) :
    Meets (Builtin.«enumerate.__new__» ⟨[.type "enumerate", .ref t], []⟩) (fun _ R s => s.heap.get? t = some { cls := .type "tuple", dict := dct, data := .seq items n, slots := sl } ∧
      R (.ok (.ret (.ref (s.heap.push { cls := .type "tuple_iterator", data := .fields #[.ref t, .int 0 0] }).objs.size)))
        { s with heap := (s.heap.push { cls := .type "tuple_iterator", data := .fields #[.ref t, .int 0 0] }).push { cls := .type "enumerate", data := .fields #[.none, .bool false, .ref s.heap.objs.size, rawInt 0, .none, .none] } }) :=
  .of_wp fun prog w A R s h => by
    obtain ⟨hp, g, d, tk, os⟩ := s
    obtain ⟨ht, h⟩ := h
    have hsub := sub_enumerate
    have hT : Heap.IsTuple (Shared.heap ⟨hp, g, d, tk, os⟩) t items := ⟨_, ht, rfl, n, rfl⟩
    wp_walk using wpAny_loadPart' ht
    refine wpAny_stack_any fun st => wpAny_pure ?_
    split
    · rename_i c _ _ _ _ _
      cases (c == Value.type "enumerate")
      · wp_walk using wpAny_loadPart' ht, wpAny_pyIter_tuple hT
        exact ⟨_, rfl, h⟩
      · wp_walk using wpAny_loadPart' ht, wpAny_pyIter_tuple hT
        exact ⟨_, rfl, h⟩
    · wp_walk using wpAny_loadPart' ht, wpAny_pyIter_tuple hT
      exact ⟨_, rfl, h⟩
section Enum2
variable {prog : Program} {w : World} {A : Around} {E : Value → Shared → Prop} {s : Shared}
theorem enumT_call {t : Addr} {items : Array Value} {Q : Value → Shared → Prop} (hT : s.heap.IsTuple t items)
    (h : ∀ h', IsEnum h' (s.heap.objs.size + 1) s.heap.objs.size 0 .none → h'.IsTupleIter s.heap.objs.size t 0 →
      (∀ b o, s.heap.get? b = some o → h'.get? b = some o) → Q (.ref (s.heap.objs.size + 1)) { s with heap := h' }) :
    wpAny (model prog w) A (call (.type "enumerate") [.ref t]) Q E s := by
  obtain ⟨⟨c, dct, dt, sl⟩, ht, hc, n, hd⟩ := hT
  have hc' : c = .type "tuple" := hc
  have hd' : dt = .seq items n := hd
  subst hc' hd'
  refine callType_new F.called_enumerate (by decide) (F.typeCall_enumerate_1 _) (F.newCall_enumerate_1 _) (fun obj => F.args_object_init_2 obj _) F.entry_enumerate_new
    (enumT_new t items n dct sl) ⟨ht, ?_⟩
  obtain ⟨hI, qI⟩ : ∃ hI, hI = s.heap.push { cls := .type "tuple_iterator", data := .fields #[.ref t, .int 0 0] } := ⟨_, rfl⟩
  have zI : hI.objs.size = s.heap.objs.size + 1 := by rw [qI]; exact Heap.size_push ..
  have kI : ∀ b o, s.heap.get? b = some o → hI.get? b = some o := fun b o hb => by rw [qI]; exact Heap.get?_push_of_some _ hb
  have iI : hI.IsTupleIter s.heap.objs.size t 0 := ⟨_, by rw [qI]; exact Heap.get?_push_size _ rfl, rfl, rfl⟩
  rw [← qI]
  have hz : IsEnum (hI.push { cls := .type "enumerate", data := .fields #[.none, .bool false, .ref s.heap.objs.size, rawInt 0, .none, .none] }) (s.heap.objs.size + 1) s.heap.objs.size 0 .none := by
    rw [← zI]
    exact Heap.get?_push_size _ rfl
  show _ ∧ _
  rw [zI]
  exact ⟨⟨_, hz, rfl⟩, h _ hz (iI.at fun o hg => Heap.get?_push_of_some _ hg) fun b o hb => Heap.get?_push_of_some _ (kI b o hb)⟩
end Enum2
theorem enumT_walks {prog : Program} {w : World} {A : Around} (hh : A.handled = none) (e it t : Addr) (hei : e ≠ it) (hte : t ≠ e) (hti : t ≠ it) (items : Array Value) :
    WalksT prog w A e [e, it, t] [e, it] items.size (fun i vals => ∃ tk x, items[i]? = some x ∧ vals = #[.int i tk, x])
      (fun i h => (∃ old, IsEnum h e it i old) ∧ h.IsTupleIter it t i ∧ h.IsTuple t items)
      (fun i T h => (∃ x, IsEnumOut h e it ((i : Int) + 1) x T) ∧ h.IsTupleIter it t (i + 1) ∧ h.IsTuple t items ∧ T ≠ e ∧ T ≠ it) where
  sub := by intro b hb; simp at hb ⊢; rcases hb with rfl | rfl <;> simp
  frame := fun i h h' hst hk => by
    obtain ⟨⟨old, he⟩, hit, ht⟩ := hst
    exact ⟨⟨old, hk e (by simp) _ he⟩, hit.at fun o x => hk it (by simp) o x, ht.at fun o x => hk t (by simp) o x⟩
  item := fun i s Q E hi hst hQ => by
    obtain ⟨⟨old, he⟩, hit, ht⟩ := hst
    have le := Heap.lt_size he
    have li : it < s.heap.objs.size := by obtain ⟨_, x, _⟩ := hit; exact Heap.lt_size x
    have hx : items[i]? = some items[i] := Array.getElem?_eq_getElem hi
    refine enumT_item he hit ht hx hei fun h' ho hit' hT hk => ?_
    exact hQ _ _ h' _ ⟨_, _, hx, rfl⟩ (Nat.le_refl _) ⟨_, hT, rfl, _, rfl⟩ ⟨⟨_, ho⟩, hit', ht.at fun o x => hk t o hte hti x, Nat.ne_of_gt le, Nat.ne_of_gt li⟩
      fun b o hb x => hk b o (fun z => hb (by simp [z])) (fun z => hb (by simp [z])) x
  go := fun elts k pos i T s Q E hm hQ => by
    obtain ⟨⟨x, ho⟩, hit, ht, _, _⟩ := hm
    refine wpAny_letOwnedTupleGo_enum ho fun h' he' hs' => hQ h' ⟨⟨x, by simpa using he'⟩, hit.at fun o y => (hs'.2 it hei.symm).trans y, ht.at fun o y => (hs'.2 t hte).trans y⟩ fun b o hb y => ?_
    exact (hs'.2 b fun z => hb (by simp [z])).trans y
  apart := fun i T h hm hT => by
    obtain ⟨_, _, _, h1, h2⟩ := hm
    simp at hT
    exact hT.elim h1 h2
  done := fun s Q E hst hQ => by
    obtain ⟨⟨old, he⟩, hit, ht⟩ := hst
    exact enumT_end hh he hit ht (Array.getElem?_eq_none (Nat.le_refl _)) fun h' hx => hQ h' s.toks fun b o hb y => hx b o (fun z => hb (by simp [z])) y
  self := fun i s Q E hst hQ => by
    obtain ⟨⟨old, he⟩, _, _⟩ := hst
    exact wpAny_pyIter_enum he hQ
section EnumFor
variable {prog : Program} {w : World} {A : Around} {E : Value → Shared → Prop} {s : Shared} {env : Env} {h₀ : Heap} {body : List Stmt} {Q : Flow → Shared → Prop}
theorem enumT_turns {elts : List PySem.Expr} {k : Nat} {pos : Pos} {t : Addr} {lo : Obj} {vs : List Value} {xs : List Itm} {n : Nat} {m₀ : Str → Option Value} {news : List (Addr × Obj)}
    (hh : A.handled = none) (F : Fr h₀ env.locals s.heap m₀) (N : News h₀ env.locals s.heap news) (hm : (t, lo) ∈ news) (hc : lo.cls = .type "tuple") (hd : lo.data = .seq vs.toArray n) (hx : enumItems 0 vs = xs)
    (rest₀ : ∀ I : Addr, (∀ p ∈ news, p.1 < I) → ItemsRest prog w A E h₀ env (.Tuple elts k pos) body Q s [(I + 1, "enumerate"), (I, "tuple_iterator")] [(t, lo)] xs m₀ news) :
    wpAny (model prog w) A (call (.type "enumerate") [.ref t]) (fun xv s₁ => wpAny (model prog w) A (pyIter xv) (fun it s₂ => TurnsAt prog w A h₀ env (.Tuple elts k pos) body Q E it s₂) E s₁) E s := by
  subst hx
  have ht0 := N _ hm
  have ht : s.heap.IsTuple t vs.toArray := ⟨lo, ht0.1, hc, n, hd⟩
  have l1 : t < s.heap.objs.size := Heap.lt_size ht0.1
  have l2 : env.locals < s.heap.objs.size := F.ns.lt
  refine enumT_call ht fun h' hE hI hk => ?_
  refine wpAny_pyIter_enum hE ?_
  refine ktu_core (tk0 := s.toks) (keep := [(t, lo)]) (KTurns.ofWalksU (enumT_walks hh (s.heap.objs.size + 1) s.heap.objs.size t (Nat.succ_ne_self _) (ktu_ne 1 l1) (Nat.ne_of_lt l1) vs.toArray).toU) (by simp [enumItems_length])
    ?hP ?hobj ?hws ?hwr ?hfp ?hL ?hnw ?hst (F.keeps hk) (N.grown hk) (And.intro hm trivial) (rest₀ _ fun p hp => Heap.lt_size (N p hp).1)
  case hP =>
    rintro i v h ⟨T, vals, rfl, ⟨tk, x, hx, rfl⟩, hT⟩
    refine ⟨_, enumItems_get vs 0 i (v := x) (by simpa using hx), T, tk, rfl, ?_⟩
    rw [Nat.zero_add]
    exact hT
  case hobj =>
    rintro i h ⟨⟨old, he⟩, ⟨oi, hoi, hic, _⟩, _⟩
    obtain ⟨oe, hoe, hec⟩ : ∃ oe : Obj, h.get? (s.heap.objs.size + 1) = some oe ∧ oe.cls = .type "enumerate" := ⟨_, he, rfl⟩
    refine ⟨[(s.heap.objs.size + 1, oe), (s.heap.objs.size, oi)], ⟨⟨rfl, hec⟩, ⟨rfl, hic⟩, trivial⟩, fun p hp => ?_⟩
    rcases List.mem_cons.mp hp with rfl | hp
    · exact hoe
    · rw [List.mem_singleton.mp hp]
      exact hoi
  case hws =>
    intro b hb
    have hb' : b = s.heap.objs.size + 1 ∨ b = s.heap.objs.size := by simpa using hb
    rcases hb' with rfl | rfl
    · exact ⟨by simp, ktu_new F (Nat.le_add_right _ _)⟩
    · exact ⟨by simp, ktu_new F (Nat.le_refl _)⟩
  case hwr => exact fun b hb => by simpa using hb
  case hfp =>
    intro b hb
    have hb' : b = s.heap.objs.size + 1 ∨ b = s.heap.objs.size ∨ b = t := by simpa using hb
    rcases hb' with rfl | rfl | rfl
    · exact .inl (by simp)
    · exact .inl (by simp)
    · exact .inr ⟨lo, by simp⟩
  case hL =>
    intro hI'
    have hb' : env.locals = s.heap.objs.size + 1 ∨ env.locals = s.heap.objs.size ∨ env.locals = t := by simpa using hI'
    rcases hb' with z | z | z
    · exact ktu_ne 1 l2 z
    · exact Nat.ne_of_lt l2 z
    · exact ht0.2.1 z.symm
  case hnw =>
    intro p hp hI'
    have hb' : p.1 = s.heap.objs.size + 1 ∨ p.1 = s.heap.objs.size := by simpa using hI'
    have lp := Heap.lt_size (N p hp).1
    rcases hb' with z | z
    · exact ktu_ne 1 lp z
    · exact Nat.ne_of_lt lp z
  case hst => exact ⟨⟨.none, hE⟩, hI, ht.at fun o z => hk t o z⟩
end EnumFor
section GroupE
variable {w : World} {mean : ExcName → Option Value} {mg mb : Str → Option Value} {fa : Addr} {cd : Value} {h₀ : Heap} {L : Addr} {s : Shared} {I ax lf : Addr} {vs : Array Value} {k : Nat} {o : Obj} {z : Int} {t1 tl : Tok} {m : Str → Option Value} {body : List Stmt} {scope : Scope} {Q : Flow → Shared → Prop}
local macro_rules | `(tactic| walk_at "call ref") => `(tactic| (k_here; k_dflt (first
  | (refine' ref0_c ?k1 ?k2 ?k4 ?k5 ?kp ?_ ?k3; (case k1 => assumption); (case k2 => k_asm); (case k3 => k_asm); (case k4 => k_asm); (case k5 => k_asm); (case kp => omega))
  | (refine' ref1_c ?k1 ?k2 ?k4 ?k5 ?kp ?_ ?k3; (case k1 => assumption); (case k2 => k_asm); (case k3 => k_asm); (case k4 => k_asm); (case k5 => k_asm); (case kp => omega))
  | (refine' ref2_c ?k1 ?k2 ?k4 ?k5 ?kp ?_ ?k3; (case k1 => assumption); (case k2 => k_asm); (case k3 => k_asm); (case k4 => k_asm); (case k5 => k_asm); (case kp => omega))
  | (refine' ref3_c ?k1 ?k2 ?k4 ?k5 ?kp ?_ ?k3; (case k1 => assumption); (case k2 => k_asm); (case k3 => k_asm); (case k4 => k_asm); (case k5 => k_asm); (case kp => omega))); dsimp only [CbRet]; intro t9 h9 tk9 F9 N9; (try dsimp only); (try k_fold)))
local macro_rules | `(tactic| walk_at "exec For Tuple Call cons nil") => `(tactic| (k_here; (rename Fr _ _ _ _ => lF'); (with_unfolding_all refine' For_turns lF' ?_; k_whole)))
local macro_rules | `(tactic| walk_at "call type:enumerate") => `(tactic| (k_here; (rename Fr _ _ _ _ => lF'); (rename News _ _ _ _ => lN'); (with_unfolding_all refine enumT_turns (vs := [_, _, _, _]) (xs := [Itm.pair (fun t => Value.int (0 : Int) t) _, Itm.pair (fun t => Value.int (1 : Int) t) _, Itm.pair (fun t => Value.int (2 : Int) t) _, Itm.pair (fun t => Value.int (3 : Int) t) _]) (by rfl) lF' lN' (by k_mem) (by rfl) (by rfl) (by rfl) ?_); clear lF'; intro i' l1; (try k_lt l1)))
theorem groupE (hb : body = lawE) (hsc : scope = lawScope) (B : Below callerA h₀ [] h₀) (F : Fr h₀ L s.heap m) (hl : m (Str.ofString "letters") = some (Value.str (Str.ofString "ABCDEFGHIJKLMNOPQRSTUVWXYZ") tl)) (hz : m (Str.ofString "size") = some (Value.int z t1))
    (N : News h₀ L s.heap [(I, o), (ax, listOf vs k)]) (hlt : ax < I) (T : Top hd.view_39 (looseW hd.view_39 []) mean mg mb h₀) (hz0 : 0 ≤ z)
    (hQ : ∀ (h : Heap) (tk : Nat) (m' : Str → Option Value), Fr h₀ L h m' → News h₀ L h [(I, o), (ax, listOf vs k)] →
      m' (Str.ofString "letters") = some (Value.str (Str.ofString "ABCDEFGHIJKLMNOPQRSTUVWXYZ") tl) → Q .next { s with heap := h, toks := tk }) :
    (hd.heap_39 w.params).In h₀ → wpAny (model Challenge.rw_ew0025_01.row.prog w) (callerA.deeper (envOf (Str.ofString "law") scope L fa cd)) (execs body (envOf (Str.ofString "law") scope L fa cd)) Q (fun _ _ => False) s := by
  k_fill
  w_top off
  intro X
  replace F := fr_puts _ F (put2 hl hz)
  dsimp only [kstB] at F
  clear hl hz
  replace hlt := ltN hlt
  conv at hb => rhs; whnf
  conv at hsc => rhs; whnf
  subst hb hsc
  k_steps
  rename Fr _ _ _ _ => fE
  rename News _ _ _ _ => nE
  refine' hQ _ _ _ fE ?n ?e1
  (case e1 => with_unfolding_all rfl)
  (case n => exact news_pick2 nE (by k_mem) (by k_mem))
end GroupE
section Loop
variable {prog : Program} {w : World} {A : Around} {E : Value → Shared → Prop} {s : Shared} {h₀ : Heap} {body : List Stmt} {Q : Flow → Shared → Prop} {cn : Str} {cs : Scope} {L a : Addr} {ccd : Value} {x lx : Str} {V : Value}
/-- the law's loop over a list of ints, a turn being known: what stays is the list and one name -/
theorem items_all {px : Pos} {I ax : Addr} {lo : Obj} (hxl : lx ≠ x) (hk : cs.kind = .function) (hloc : (envOf cn cs L a ccd).kindOf x = some .local)
    (turn : ∀ (o : Obj) (n : Int) (t : Tok) (m : Str → Option Value) (s' : Shared), (∃ h tk, s' = { s with heap := h, toks := tk }) → o.cls = .type "list_iterator" → Fr h₀ L s'.heap m → m lx = some V → m x = some (.int n t) → News h₀ L s'.heap [(I, o), (ax, lo)] →
      wpAny (model prog w) A (execs body (envOf cn cs L a ccd)) (UnrPostW h₀ L s' [(I, o)] (fun m' n' => SubL [(ax, lo)] n' ∧ m' lx = some V) (fun _ _ => False)) E s')
    (done : ∀ h tk m, Fr h₀ L h m → Q .next { s with heap := h, toks := tk }) :
    ∀ (vs : List Value) (ns : List Int), IntsAre vs ns → ∀ m news, SubL [(ax, lo)] news → m lx = some V →
      ItemsRest prog w A E h₀ (envOf cn cs L a ccd) (.Name x px) body Q s [(I, "list_iterator")] [(ax, lo)] (vs.map .val) m news := by
  intro vs ns hi
  induction hi with
  | nil => exact fun m news _ _ => ItemsRest.zero fun h tk F _ => done h tk m F
  | @cons n t vs1 ns1 hi ih =>
    intro m news hs hm
    refine ItemsRest.val fun h tk F => AllObj.cons fun o ho => AllObj.nil fun N => ?_
    have N2 : News h₀ L h [(I, o), (ax, lo)] := List.forall_mem_cons.mpr ⟨N _ (List.mem_append_left _ (.head _)), List.forall_mem_cons.mpr ⟨N _ (List.mem_append_right _ hs.1), List.forall_mem_nil _⟩⟩
    refine wpAny_assign_Name (storeX_L (cl := []) F N2 (fun h' F' N' => ?_) hk hloc)
    refine wpAny_mono (turn o n t _ _ ⟨_, _, rfl⟩ ho F' ((if_neg hxl).trans hm) (if_pos rfl) N') (fun f s₂ p => ?_) fun _ _ e => e
    have up : UnrEndW h₀ L { s with heap := h', toks := tk + 1 } [(I, o)] (fun m' n' => SubL [(ax, lo)] n' ∧ m' lx = some V) s₂ →
        UnrEndW h₀ L { s with heap := h, toks := tk } [(I, o)] (fun m' n' => SubL [(ax, lo)] n' ∧ ItemsRest prog w A E h₀ (envOf cn cs L a ccd) (.Name x px) body Q s [(I, "list_iterator")] [(ax, lo)] (vs1.map .val) m' n') s₂ := by
      rintro ⟨h2, tk2, m', n', e, F2, N2, hoff, hs2, hm2⟩
      exact ⟨h2, tk2, m', n', e, F2, N2, hoff, hs2, ih m' n' hs2 hm2⟩
    cases f with
    | ret v => exact p.elim
    | brk => exact p.elim
    | next => exact up p
    | cont => exact up p
/-- what the loop runs over: a list of ints that the call has made -/
def LoopSrc (h₀ : Heap) (L : Addr) (m : Str → Option Value) (s : Shared) (xv : Value) (s₁ : Shared) : Prop :=
  ∃ (ax : Addr) (vs : List Value) (ns : List Int) (k : Nat) (h : Heap) (tk : Nat), xv = .ref ax ∧ s₁ = { s with heap := h, toks := tk } ∧ Fr h₀ L h m ∧ News h₀ L h [(ax, W.listOf vs.toArray k)] ∧ IntsAre vs ns
theorem for_law {it : PySem.Expr} {px pos : Pos} {m : Str → Option Value} (F : Fr h₀ L s.heap m) (hxl : lx ≠ x) (hk : cs.kind = .function) (hloc : (envOf cn cs L a ccd).kindOf x = some .local) (hm : m lx = some V) (hh : A.handled = none)
    (hs : ∀ y, foldedSetIterable it (envOf cn cs L a ccd) y = pure y) (hE : PassesOwn (model prog w) A (envOf cn cs L a ccd) E)
    (turn : ∀ (I ax : Addr) (vs : Array Value) (k : Nat) (o : Obj) (n : Int) (t : Tok) (m : Str → Option Value) (s' : Shared), ax < I → o.cls = .type "list_iterator" → Fr h₀ L s'.heap m → m lx = some V → m x = some (.int n t) → News h₀ L s'.heap [(I, o), (ax, W.listOf vs k)] →
      wpAny (model prog w) A (execs body (envOf cn cs L a ccd)) (UnrPostW h₀ L s' [(I, o)] (fun m' n' => SubL [(ax, W.listOf vs k)] n' ∧ m' lx = some V) (fun _ _ => False)) (fun _ _ => False) s')
    (src : wpAny (model prog w) A (eval it (envOf cn cs L a ccd)) (fun xv s₁ => LoopSrc h₀ L m s xv s₁) E s)
    (done : ∀ h tk m, Fr h₀ L h m → Q .next { s with heap := h, toks := tk }) :
    wpAny (model prog w) A (exec (.For (.Name x px) it body [] pos) (envOf cn cs L a ccd)) Q E s := by
  refine For_turns (h₀ := h₀) (m := m) F (wpAny_mono src (fun xv s₁ h₁ => ?_) fun _ _ e => e) hs hE
  obtain ⟨ax, vs, ns, k, h, tk, rfl, rfl, F1, N1, hi⟩ := h₁
  refine iter_listTurns (lo := W.listOf vs.toArray k) (vs := vs) hh F1 N1 (.head _) rfl rfl fun I hI => ?_
  refine items_all (s := { s with heap := h, toks := tk }) hxl hk hloc (fun o n t m' s' hs' ho F' e1 e2 N' => ?_) (fun h' tk' m' F' => done h' tk' m' F') vs ns hi m _ ⟨.head _, trivial⟩ hm
  exact wpAny_mono (turn I ax vs.toArray k o n t m' s' (hI _ (.head _)) ho F' e1 e2 N') (fun _ _ p => p) fun _ _ p => p.elim
end Loop
section Turn
variable {w : World} {mean : ExcName → Option Value} {mg mb : Str → Option Value} {fa : Addr} {cd : Value} {h₀ : Heap} {L : Addr} {s : Shared} {I ax : Addr} {vs : Array Value} {k : Nat} {o : Obj} {n : Int} {t tl : Tok} {m : Str → Option Value}
theorem turn_ok (B : Below callerA h₀ [] h₀) (T : Top hd.view_39 (looseW hd.view_39 []) mean mg mb h₀) (X : (hd.heap_39 w.params).In h₀) (hlt : ax < I) (F : Fr h₀ L s.heap m) (hl : m (Str.ofString "letters") = some (Value.str (Str.ofString "ABCDEFGHIJKLMNOPQRSTUVWXYZ") tl)) (hn : m (Str.ofString "number") = some (Value.int n t))
    (N : News h₀ L s.heap [(I, o), (ax, W.listOf vs k)]) :
    wpAny (model Challenge.rw_ew0025_01.row.prog w) (callerA.deeper (envOf (Str.ofString "law") lawScope L fa cd)) (execs lawBody (envOf (Str.ofString "law") lawScope L fa cd))
      (UnrPostW h₀ L s [(I, o)] (fun m' n' => SubL [(ax, W.listOf vs k)] n' ∧ m' (Str.ofString "letters") = some (Value.str (Str.ofString "ABCDEFGHIJKLMNOPQRSTUVWXYZ") tl)) (fun _ _ => False)) (fun _ _ => False) s := by
  have hz := sz_nn n
  have hR : 1 ≤ 1 + (sz n).fmod 3999 ∧ 1 + (sz n).fmod 3999 ≤ 3999 := by
    rw [Int.fmod_eq_emod_of_nonneg _ (by decide)]
    omega
  have hP : 1 ≤ 1 + (sz n).fmod 13312 ∧ 1 + (sz n).fmod 13312 ≤ 13312 := by
    rw [Int.fmod_eq_emod_of_nonneg _ (by decide)]
    omega
  obtain ⟨q, K, hq, hK, hpq, hform⟩ := letter_form hP
  rw [lawBody_cut]
  refine execs_app _ _ _ (groupA rfl rfl B F hl hn N hlt T (fun h1 tk1 m1 lf ws j t1 t2 F1 N1 hws hlf a1 a2 a3 a4 => ?_) X)
  refine execs_app _ _ _ (groupB rfl rfl B F1 a1 a2 a3 a4 N1 hws hR T (fun h2 tk2 m2 F2 N2 b1 b2 => ?_) X)
  refine execs_app _ _ _ (groupC rfl rfl B F2 b1 b2 N2 T (fun h3 tk3 m3 t3 t4 F3 N3 c1 c2 c3 c4 => ?_) X)
  rw [hform] at c4
  refine execs_app _ _ _ (groupD rfl rfl B F3 c1 c2 c3 c4 N3 T hP hq hK hpq (fun h4 tk4 m4 F4 N4 d1 d2 => ?_) X)
  refine groupE rfl rfl B F4 d1 d2 N4 hlt T hz (fun h5 tk5 m5 F5 N5 e1 => ?_) X
  refine ⟨h5, tk5, m5, [(ax, W.listOf vs k)], rfl, F5, N5, ?_, ⟨.head _, trivial⟩, e1⟩
  intro p hp r hr
  rw [List.mem_singleton.mp hp, List.mem_singleton.mp hr]
  exact Nat.ne_of_lt hlt
end Turn
theorem nil_of {h₀ h : Heap} {L : Addr} {m : Str → Option Value} (_ : Fr h₀ L h m) : News h₀ L h [] := News.nil
section Main
local macro_rules | `(tactic| walk_at "exec For Name BoolOp cons nil") => `(tactic| (k_here; (rename Fr _ _ _ _ => lF'); k_dflt (refine' for_law (lx := Str.ofString "letters") lF' ?h1 ?h2 ?h3 ?h4 ?h5 ?h6 ?h7 ?turn ?src ?done; (case h1 => decide +kernel); (case h2 => exact rfl); (case h3 => exact rfl); (case h4 => with_unfolding_all rfl); (case h5 => exact rfl); (case h6 => intro _; rfl); (case h7 => passes_own); (case turn => intro I ax vs k o n t m s' hlt _ F hm hn N; exact turn_ok (by k_asm) (by k_asm) (by k_asm) hlt F hm hn N); (case' done => intro h' tk' m' F'; have N' := nil_of F'))))
local macro_rules | `(tactic| walk_at "LoopSrc") => `(tactic| ((rename News _ _ _ _ => nE); refine' ⟨_, _, _, _, _, _, rfl, rfl, ?f, ?n, ?i⟩; (case f => k_asm); (case n => exact List.forall_mem_cons.mpr ⟨nE _ (by k_mem), List.forall_mem_nil _⟩); (case i => first | assumption | exact .cons _ _ (.cons _ _ .nil))))
theorem main : PySem.Challenge.rw_ew0025_01.Holds := hd (by
  w_strict (k_go0; (all_goals try k_fold); k_steps))
end Main
end Mine
theorem PySem.Challenge.cw_ew0025_01_holds : PySem.Challenge.rw_ew0025_01.Holds := by
  exact Mine.main
