import PyProof.Rows.All
import Wide.All
import OpenK.AllK
import Wide.FinOn
import PySem.Challenge.RW_pg0186_01
set_option Elab.async false
/-! Hd -/
section
open PySem PySem.W PyProof.Rows
namespace Mine
set_option maxRecDepth 100000 in
set_option maxHeartbeats 8000000 in
open_top hd for PySem.Challenge.rw_pg0186_01
end Mine
end
section
local macro_rules | `(tactic| k_room) => `(tactic| ktr_room)
local macro_rules | `(tactic| k_units) => `(tactic| ktr_units)
local macro_rules | `(tactic| walk_at $s:str) => `(tactic| k_extra $s)
/-! Br -/
section
open PySem PySem.Spec PySem.Calls PySem.W PyProof.Rows
namespace Mine
def BrP (ns : List Int) (x lo hi : Int) : Prop :=
  (∀ i : Nat, (i : Int) < lo → ns.getD i 0 ≤ x) ∧ (∀ i : Nat, hi ≤ (i : Int) → i < ns.length → x < ns.getD i 0)
def Srt (ns : List Int) : Prop := ∀ i j : Nat, i ≤ j → j < ns.length → ns.getD i 0 ≤ ns.getD j 0
theorem BrP.start (ns : List Int) (x : Int) : BrP ns x 0 (ns.length : Int) :=
  ⟨fun i h => by omega, fun i h h' => by omega⟩
theorem BrP.left {ns : List Int} {x lo hi mid : Int} (hs : Srt ns) (h : BrP ns x lo hi) (h0 : 0 ≤ mid) (h1 : mid < (ns.length : Int)) (hx : x < ns.getD mid.toNat 0) : BrP ns x lo mid :=
  ⟨h.1, fun i hi' hl => by
    have := hs mid.toNat i (by omega) hl
    omega⟩
theorem BrP.right {ns : List Int} {x lo hi mid : Int} (hs : Srt ns) (h : BrP ns x lo hi) (h0 : 0 ≤ mid) (h1 : mid < (ns.length : Int)) (hx : ¬ x < ns.getD mid.toNat 0) : BrP ns x (mid + 1) hi :=
  ⟨fun i hi' => by
    have := hs i mid.toNat (by omega) (by omega)
    omega, h.2⟩
theorem mid_eq (a : Int) : Int.fdiv a 2 = a / 2 := Int.fdiv_eq_ediv_of_nonneg a (by omega)
theorem br_s0 (ns : List Int) (x : Int) : 0 ≤ (0:Int) ∧ 0 ≤ (ns.length : Int) ∧ (ns.length : Int) ≤ (ns.length : Int) ∧ BrP ns x 0 (ns.length : Int) :=
  ⟨by omega, by omega, by omega, BrP.start ns x⟩
theorem br_sL {ns : List Int} {x lo hi : Int} (hs : Srt ns) (h0 : 0 ≤ lo) (h1 : lo ≤ hi) (h2 : hi ≤ (ns.length : Int)) (hB : BrP ns x lo hi) (hlt : lo < hi) (hx : x < ns.getD ((lo + hi).fdiv 2).toNat 0) :
    0 ≤ lo ∧ lo ≤ (lo + hi).fdiv 2 ∧ (lo + hi).fdiv 2 ≤ (ns.length : Int) ∧ BrP ns x lo ((lo + hi).fdiv 2) := by
  rw [mid_eq] at hx ⊢
  exact ⟨h0, by omega, by omega, hB.left hs (by omega) (by omega) hx⟩
theorem br_sR {ns : List Int} {x lo hi : Int} (hs : Srt ns) (h0 : 0 ≤ lo) (h1 : lo ≤ hi) (h2 : hi ≤ (ns.length : Int)) (hB : BrP ns x lo hi) (hlt : lo < hi) (hx : ¬ x < ns.getD ((lo + hi).fdiv 2).toNat 0) :
    0 ≤ (lo + hi).fdiv 2 + 1 ∧ (lo + hi).fdiv 2 + 1 ≤ hi ∧ hi ≤ (ns.length : Int) ∧ BrP ns x ((lo + hi).fdiv 2 + 1) hi := by
  rw [mid_eq] at hx ⊢
  exact ⟨by omega, by omega, by omega, hB.right hs (by omega) (by omega) hx⟩
theorem br_mL {lo hi : Int} (hlt : lo < hi) : ((lo + hi).fdiv 2 - lo).toNat < (hi - lo).toNat := by rw [mid_eq]; omega
theorem br_mR {lo hi : Int} (hlt : lo < hi) : (hi - ((lo + hi).fdiv 2 + 1)).toNat < (hi - lo).toNat := by rw [mid_eq]; omega
theorem br_fin {ns : List Int} {x lo hi : Int} (h1 : lo ≤ hi) (hn : ¬ lo < hi) (hB : BrP ns x lo hi) : BrP ns x lo lo := by
  have : lo = hi := by omega
  subst this; exact hB
set_option maxRecDepth 100000 in
set_option maxHeartbeats 8000000 in
theorem br_c {w : World} {dp un : Nat} {gd : Option (List Code)} {cn : Str} {nm : List (Str × NameKind)} {ig ic : Bool} {mo : List (Str × Const)} {a : Addr} {ccd : Value} {cl : List (Str × Addr)} {outer : List Env} {A₀ : Around} {base h₀ : Heap} {L : Addr} {m : Str → Option Value} {s : Shared} {Q E : Value → Shared → Prop}
  {p : Program} {loose : List Str} {mean : ExcName → Option Value} {mg mb : Str → Option Value} {news : List (Addr × Obj)} {la : Addr} {vs : List Value} {ns : List Int} {n : Nat} {x : Int} {tx t0 : Tok}
  (B : Below A₀ base outer h₀) (F : Fr h₀ L s.heap m) (X : (Mine.hd.heap_39 w.params).In h₀) (N : News h₀ L s.heap ((la, listOf vs.toArray n) :: news)) (T : Top p loose mean mg mb h₀)
  (hi : IntsAre vs ns) (hlen : ns.length < 2^20) (hsrt : Srt ns) (hdp : dp + 3 < recursionLimit) (hun : un + 30 < cLine)
  (hret : ∀ (r : Int) (t : Tok) (h' : Heap) (tk' : Nat), 0 ≤ r → r ≤ (ns.length : Int) → BrP ns x r r → Fr h₀ L h' m → News h₀ L h' ((la, listOf vs.toArray n) :: news) → Q (.int r t) {s with heap := h', toks := tk'}) :
  wpAny (model PySem.Challenge.rw_pg0186_01.row.prog w) (ktrTop dp un gd cn {kind := .function, names := nm, isGenerator := ig, isCoroutine := ic, more := mo} L a ccd cl outer) (call (.ref 53) [.ref la, .int x tx, .int 0 t0, .none]) Q E s := by
  revert X; k_fill; intro X
  k_with_none
  w_on
  (k_with "exec While Compare cons nil" => k_while_given ["a", "x"] (fun a x _ lo hi => 0 ≤ lo ∧ lo ≤ hi ∧ hi ≤ (a.length : Int) ∧ BrP a x lo hi) (fun _ _ _ lo hi => (hi - lo).toNat) "lo" "hi")
  (k_with "state" => first | exact br_s0 _ _ | exact br_sL (by assumption) (by assumption) (by assumption) (by assumption) (by assumption) (by assumption) (by assumption) | exact br_sR (by assumption) (by assumption) (by assumption) (by assumption) (by assumption) (by assumption) (by assumption))
  (k_with "measure" => first | exact br_mL (by assumption) | exact br_mR (by assumption))
  w_strict (k_steps; all_goals (exact hret _ _ _ _ (by assumption) (by omega) (br_fin (by assumption) (by assumption) (by assumption)) (by assumption) (by assumption)))
end Mine
end
/-! Ins -/
section
open PySem PySem.Spec PySem.Calls PySem.W PyProof.Rows
namespace Mine
theorem ins_fits {r : Int} {k : Nat} (h0 : 0 ≤ r) (h1 : r ≤ (k : Int)) (h2 : k < 2^20) : Builtin.List.listFitsIndex r = true := by
  unfold Builtin.List.listFitsIndex
  simp only [decide_eq_true_eq, Bool.and_eq_true]
  omega
theorem ins_line {vs : List Value} {ns : List Int} (hi : IntsAre vs ns) (h2 : ns.length < 2^20) : vs.toArray.toList.length ≤ sizeLine := by
  have := hi.length
  rw [sizeLine_eq]
  simp only [List.toList_toArray]
  omega
theorem IntsAre.take {vs : List Value} {ns : List Int} (h : IntsAre vs ns) : ∀ k, IntsAre (vs.take k) (ns.take k) := by
  induction h with
  | nil => intro k; simp; exact .nil
  | cons n t _ ih => intro k; cases k with
    | zero => exact .nil
    | succ k => exact .cons n t (ih k)
theorem IntsAre.drop {vs : List Value} {ns : List Int} (h : IntsAre vs ns) : ∀ k, IntsAre (vs.drop k) (ns.drop k) := by
  induction h with
  | nil => intro k; simp; exact .nil
  | cons n t h' ih => intro k; cases k with
    | zero => exact .cons n t h'
    | succ k => exact ih k
theorem ins_ints {vs : List Value} {ns : List Int} {r x : Int} {tx : Tok} (hi : IntsAre vs ns) (h0 : 0 ≤ r) (h1 : r ≤ (ns.length : Int)) : IntsAre (kl_ins vs.toArray.toList r (.int x tx)) (ns.take r.toNat ++ x :: ns.drop r.toNat) := by
  have hl := hi.length
  unfold kl_ins
  simp only [List.toList_toArray]
  rw [if_neg (by omega), show min r.toNat vs.length = r.toNat by omega]
  exact IntsAre.append (hi.take _) (.cons x tx (hi.drop _))
set_option maxRecDepth 100000 in
set_option maxHeartbeats 8000000 in
theorem ins_c {w : World} {dp un : Nat} {gd : Option (List Code)} {cn : Str} {nm : List (Str × NameKind)} {ig ic : Bool} {mo : List (Str × Const)} {a : Addr} {ccd : Value} {cl : List (Str × Addr)} {outer : List Env} {A₀ : Around} {base h₀ : Heap} {L : Addr} {m : Str → Option Value} {s : Shared} {Q E : Value → Shared → Prop}
  {p : Program} {loose : List Str} {mean : ExcName → Option Value} {mg mb : Str → Option Value} {news : List (Addr × Obj)} {la : Addr} {vs : List Value} {ns : List Int} {n : Nat} {x : Int} {tx : Tok}
  (B : Below A₀ base outer h₀) (F : Fr h₀ L s.heap m) (X : (Mine.hd.heap_39 w.params).In h₀) (N : News h₀ L s.heap ((la, listOf vs.toArray n) :: news)) (T : Top p loose mean mg mb h₀)
  (hi : IntsAre vs ns) (hne : ∀ p ∈ news, p.1 ≠ la) (hlen : ns.length < 2^20) (hsrt : Srt ns) (hdp : dp + 6 < recursionLimit) (hun : un + 60 < cLine)
  (hret : ∀ (r : Int) (vs' : List Value) (n' : Nat) (h' : Heap) (tk' : Nat), 0 ≤ r → r ≤ (ns.length : Int) → BrP ns x r r → IntsAre vs' (ns.take r.toNat ++ x :: ns.drop r.toNat) → Fr h₀ L h' m → News h₀ L h' ((la, listOf vs'.toArray n') :: news) → Q .none {s with heap := h', toks := tk'}) :
  wpAny (model PySem.Challenge.rw_pg0186_01.row.prog w) (ktrTop dp un gd cn {kind := .function, names := nm, isGenerator := ig, isCoroutine := ic, more := mo} L a ccd cl outer) (call (.ref 44) [.ref la, .int x tx]) Q E s := by
  revert X; k_fill; intro X
  k_with_none
  w_on
  (k_with "call ref" => (k_here; (with_reducible show wpAny _ _ (call (Value.ref 53) [Value.ref _, Value.int _ _, Value.int _ _, Value.none]) _ _ _); k_dflt (refine' br_c ?k1 ?k2 ?k3 ?k4 ?k5 ?k6 ?k7 ?k8 ?k9 ?k10 ?_; (case k1 => k_asm); (case k2 => k_asm); (case k3 => k_asm); (case k4 => k_asm); (case k5 => k_asm); (case k6 => k_asm); (case k7 => k_asm); (case k8 => k_asm); (case k9 => ktr_room); (case k10 => ktr_units); k_whole); intro r' t' h' tk' r0' r1' rB' F' N'))
  (k_with "call builtin:list.insert" => (k_here; (show wpAny _ _ (call (Value.builtin "list.insert") [Value.ref _, Value.int _ _, _]) _ _ _); k_dflt (refine' kl_insert ?F ?N ?f ?e ?U ?z ?_; (case F => k_asm); (case N => k_asm); (case U => exact Upd.head (by assumption)); (case f => exact ins_fits (by assumption) (by assumption) (by assumption)); (case e => exact rfl); (case z => exact ins_line (by assumption) (by assumption)); k_whole); intro h'' F'' N''))
  w_strict (k_steps; all_goals (exact hret _ _ _ _ _ (by assumption) (by assumption) (by assumption) (ins_ints (by assumption) (by assumption) (by assumption)) (by assumption) (by assumption)))
end Mine
end
/-! Bl -/
section
open PySem PySem.Spec PySem.Calls PySem.W PyProof.Rows
namespace Mine
def BlP (ns : List Int) (x a b lo hi : Int) : Prop :=
  (∀ i : Nat, a ≤ (i : Int) → (i : Int) < lo → ns.getD i 0 < x) ∧ (∀ i : Nat, hi ≤ (i : Int) → (i : Int) < b → x ≤ ns.getD i 0)
def SrtOn (ns : List Int) (a b : Int) : Prop := ∀ i j : Nat, a ≤ (i : Int) → i ≤ j → (j : Int) < b → ns.getD i 0 ≤ ns.getD j 0
theorem bl_s0 {ns : List Int} {x a b : Int} (h0 : 0 ≤ a) (h1 : a ≤ b) (h2 : b ≤ (ns.length : Int)) : a ≤ a ∧ a ≤ b ∧ b ≤ b ∧ 0 ≤ a ∧ b ≤ (ns.length : Int) ∧ BlP ns x a b a b :=
  ⟨by omega, by omega, by omega, by omega, by omega, fun i _ _ => by omega, fun i _ _ => by omega⟩
theorem bl_sR {ns : List Int} {x a b lo hi : Int} (hs : SrtOn ns a b) (h0 : a ≤ lo) (h1 : lo ≤ hi) (h2 : hi ≤ b) (h3 : 0 ≤ a) (h4 : b ≤ (ns.length : Int)) (hB : BlP ns x a b lo hi) (hlt : lo < hi) (hx : ns.getD ((lo + hi).fdiv 2).toNat 0 < x) :
    a ≤ (lo + hi).fdiv 2 + 1 ∧ (lo + hi).fdiv 2 + 1 ≤ hi ∧ hi ≤ b ∧ 0 ≤ a ∧ b ≤ (ns.length : Int) ∧ BlP ns x a b ((lo + hi).fdiv 2 + 1) hi := by
  rw [mid_eq] at hx ⊢
  refine ⟨by omega, by omega, by omega, h3, h4, fun i h5 h6 => ?_, hB.2⟩
  have := hs i ((lo + hi) / 2).toNat h5 (by omega) (by omega)
  omega
theorem bl_sL {ns : List Int} {x a b lo hi : Int} (hs : SrtOn ns a b) (h0 : a ≤ lo) (h1 : lo ≤ hi) (h2 : hi ≤ b) (h3 : 0 ≤ a) (h4 : b ≤ (ns.length : Int)) (hB : BlP ns x a b lo hi) (hlt : lo < hi) (hx : ¬ ns.getD ((lo + hi).fdiv 2).toNat 0 < x) :
    a ≤ lo ∧ lo ≤ (lo + hi).fdiv 2 ∧ (lo + hi).fdiv 2 ≤ b ∧ 0 ≤ a ∧ b ≤ (ns.length : Int) ∧ BlP ns x a b lo ((lo + hi).fdiv 2) := by
  rw [mid_eq] at hx ⊢
  refine ⟨by omega, by omega, by omega, h3, h4, hB.1, fun i h5 h6 => ?_⟩
  have := hs ((lo + hi) / 2).toNat i (by omega) (by omega) (by omega)
  omega
theorem bl_fin {ns : List Int} {x a b lo hi : Int} (h1 : lo ≤ hi) (hn : ¬ lo < hi) (hB : BlP ns x a b lo hi) : BlP ns x a b lo lo := by
  have : lo = hi := by omega
  subst this; exact hB
set_option maxRecDepth 100000 in
set_option maxHeartbeats 8000000 in
theorem bl_c {w : World} {dp un : Nat} {gd : Option (List Code)} {cn : Str} {nm : List (Str × NameKind)} {ig ic : Bool} {mo : List (Str × Const)} {a : Addr} {ccd : Value} {cl : List (Str × Addr)} {outer : List Env} {A₀ : Around} {base h₀ : Heap} {L : Addr} {m : Str → Option Value} {s : Shared} {Q E : Value → Shared → Prop}
  {p : Program} {loose : List Str} {mean : ExcName → Option Value} {mg mb : Str → Option Value} {news : List (Addr × Obj)} {la : Addr} {vs : List Value} {ns : List Int} {n : Nat} {x lo0 hi0 : Int} {tx t0 t1 : Tok}
  (B : Below A₀ base outer h₀) (F : Fr h₀ L s.heap m) (X : (Mine.hd.heap_39 w.params).In h₀) (N : News h₀ L s.heap ((la, listOf vs.toArray n) :: news)) (T : Top p loose mean mg mb h₀)
  (hi : IntsAre vs ns) (hlen : ns.length < 2^20) (ha : 0 ≤ lo0) (hb : lo0 ≤ hi0) (hc : hi0 ≤ (ns.length : Int)) (hsrt : SrtOn ns lo0 hi0) (hdp : dp + 3 < recursionLimit) (hun : un + 30 < cLine)
  (hret : ∀ (r : Int) (t : Tok) (h' : Heap) (tk' : Nat), lo0 ≤ r → r ≤ hi0 → BlP ns x lo0 hi0 r r → Fr h₀ L h' m → News h₀ L h' ((la, listOf vs.toArray n) :: news) → Q (.int r t) {s with heap := h', toks := tk'}) :
  wpAny (model PySem.Challenge.rw_pg0186_01.row.prog w) (ktrTop dp un gd cn {kind := .function, names := nm, isGenerator := ig, isCoroutine := ic, more := mo} L a ccd cl outer) (call (.ref 62) [.ref la, .int x tx, .int lo0 t0, .int hi0 t1]) Q E s := by
  revert X; k_fill; intro X
  k_with_none
  w_on
  (k_with "exec While Compare cons nil" => k_while_given ["a", "x", "lo!", "hi!"] (fun a x l0 h0 _ lo hi => l0 ≤ lo ∧ lo ≤ hi ∧ hi ≤ h0 ∧ 0 ≤ l0 ∧ h0 ≤ (a.length : Int) ∧ BlP a x l0 h0 lo hi) (fun _ _ _ _ _ lo hi => (hi - lo).toNat) "lo" "hi")
  (k_with "state" => first | exact bl_s0 (by assumption) (by assumption) (by assumption) | exact bl_sL (by assumption) (by assumption) (by assumption) (by assumption) (by assumption) (by assumption) (by assumption) (by assumption) (by assumption) | exact bl_sR (by assumption) (by assumption) (by assumption) (by assumption) (by assumption) (by assumption) (by assumption) (by assumption) (by assumption))
  (k_with "measure" => first | exact br_mL (by assumption) | exact br_mR (by assumption))
  w_strict (k_steps; all_goals (exact hret _ _ _ _ (by assumption) (by omega) (bl_fin (by assumption) (by assumption) (by assumption)) (by assumption) (by assumption)))
end Mine
end
/-! EmP -/
section
open PySem PySem.Spec PySem.Calls PySem.W PyProof.Rows
namespace Mine
/-- the pieces' values: an empty text, the signs, an empty text -/
def Pcs (c k : Nat) : List Str := ⟨#[]⟩ :: (List.replicate k ⟨#[c]⟩ ++ [⟨#[]⟩])
theorem Pcs_length (c k : Nat) : (Pcs c k).length = k + 2 := by simp [Pcs]
theorem strs_len {l : List (Str × Tok)} {xs : List Str} (h : l.map (·.1) = xs) : (strValues l).length = xs.length := by
  subst h; simp [strValues]
theorem strs_get {l : List (Str × Tok)} {xs : List Str} (h : l.map (·.1) = xs) {i : Nat} {x : Str} (hx : xs[i]? = some x) : ∃ t, (strValues l)[i]? = some (.str x t) := by
  subst h
  rw [List.getElem?_map] at hx
  cases hl : l[i]? with
  | none => rw [hl] at hx; cases hx
  | some p =>
    rw [hl] at hx
    obtain ⟨y, t⟩ := p
    cases hx
    refine ⟨t, ?_⟩
    show (l.map _)[i]? = _
    rw [List.getElem?_map, hl]; rfl
theorem strs_of {l : List (Str × Tok)} {xs : List Str} (h : l.map (·.1) = xs) {i : Nat} {v : Value} (hv : (strValues l)[i]? = some v) : ∃ x t, v = .str x t ∧ xs[i]? = some x := by
  subst h
  rw [show strValues l = l.map (fun p => Value.str p.1 p.2) from rfl, List.getElem?_map] at hv
  cases hl : l[i]? with
  | none => rw [hl] at hv; cases hv
  | some p =>
    rw [hl] at hv
    obtain ⟨y, t⟩ := p
    cases hv
    exact ⟨y, t, rfl, by rw [List.getElem?_map, hl]; rfl⟩
theorem pcs_first (c k : Nat) : (Pcs c k)[0]? = some ⟨#[]⟩ := rfl
theorem pcs_last (c k : Nat) : (Pcs c k)[k + 1]? = some ⟨#[]⟩ := by
  unfold Pcs
  rw [List.getElem?_cons_succ, List.getElem?_append_right (by simp)]
  simp
theorem pcs_mid (c k i : Nat) (h : i < k) : (Pcs c k)[i + 1]? = some ⟨#[c]⟩ := by
  unfold Pcs
  rw [List.getElem?_cons_succ, List.getElem?_append_left (by simpa using h)]
  simp [h]
section
variable {prog : Program} {w : World} {A : Around} {E : Value → Shared → Prop} {s : Shared} {h₀ : Heap} {L : Addr} {news : List (Addr × Obj)}
theorem em_split {m : Str → Option Value} {x y : Str} {t u : Tok} {xs : List Str} {Q : Value → Shared → Prop} (hF : Fr h₀ L s.heap m) (hN : News h₀ L s.heap news) (hy : (y.length == 0) = false) (hx : Txt.split x y = xs)
    (h : ∀ D l h' k, l.map (·.1) = xs → Fr h₀ L h' m → News h₀ L h' ((D, listOf (strValues l).toArray 0) :: news) → (∀ p ∈ news, p.1 < D) → Q (.ref D) { s with heap := h', toks := k }) (hsz : x.length < 1000) :
    wpAny (model prog w) A (call (.builtin "str.split") [.str x t, .str y u]) Q E s :=
  KSpl.split1 hF hN hy (fun D l h' k e _ F N hl => h D l h' k (e.trans hx) F N hl) (by rw [sizeLine_eq]; omega)
theorem em_len {l : List (Str × Tok)} {xs : List Str} {D : Addr} {n k : Nat} {Q : Value → Shared → Prop} (hN : News h₀ L s.heap news) (hm : (D, listOf (strValues l).toArray n) ∈ news) (hx : l.map (·.1) = xs) (hk : xs.length = k) (hb : k < 2 ^ 20)
    (h : Q (.int (k : Int) (s.toks + 1)) { s with toks := s.toks + 1 + 1 }) : wpAny (model prog w) A (call (.builtin "len") [.ref D]) Q E s := by
  have e : (strValues l).toArray.size = k := by rw [List.size_toArray, strs_len hx, hk]
  refine Calls.call_len_list (hN.isList hm) (by rw [e]; omega) ?_
  rw [e]; exact h
theorem em_item {value slice : PySem.Expr} {l : List (Str × Tok)} {xs : List Str} {x : Str} {D : Addr} {n : Nat} {u : Tok} {Q : Value → Shared → Prop} (hN : News h₀ L s.heap news) (hm : (D, listOf (strValues l).toArray n) ∈ news) (hx : l.map (·.1) = xs) (hg : xs[0]? = some x)
    (h : ∀ t, Q (.str x t) s)
    (hs : subscripted slice false (.ref D) (.int 0 u) = operate [.ref D, .int 0 u] (getItem (.ref D) (.int 0 u)) := by with_unfolding_all rfl) :
    wpAny (model prog w) A (subscriptTail value slice (.ref D) (.int 0 u)) Q E s := by
  obtain ⟨t, ht⟩ := strs_get hx hg
  exact tail_any (hN.isList hm).typeIs slot_list_getitem.lookup (wpAny_getItem_list (hN.isList hm) (by decide) (by decide) (by simpa using ht) (h t)) hs
theorem em_itemN {value slice : PySem.Expr} {l : List (Str × Tok)} {xs : List Str} {x : Str} {D : Addr} {n k : Nat} {u : Tok} {Q : Value → Shared → Prop} (hN : News h₀ L s.heap news) (hm : (D, listOf (strValues l).toArray n) ∈ news) (hx : l.map (·.1) = xs) (hk : xs.length = k + 1) (hg : xs[k]? = some x)
    (h : ∀ t, Q (.str x t) s)
    (hs : subscripted slice false (.ref D) (.int (-1) u) = operate [.ref D, .int (-1) u] (getItem (.ref D) (.int (-1) u)) := by with_unfolding_all rfl) :
    wpAny (model prog w) A (subscriptTail value slice (.ref D) (.int (-1) u)) Q E s := by
  obtain ⟨t, ht⟩ := strs_get hx hg
  have e : (strValues l).toArray.size = k + 1 := by rw [List.size_toArray, strs_len hx, hk]
  refine tail_any (hN.isList hm).typeIs slot_list_getitem.lookup (wpAny_getItem_list_neg (hN.isList hm) (by decide) (by rw [e]; omega) (by decide) ?_ (h t)) hs
  rw [e, show ((-1 : Int) + ((k + 1 : Nat) : Int)).toNat = k by omega]
  simpa using ht
theorem em_gives (x y : Str) (i j : Int) (t u v v' : Tok) (hj : j = (x.length : Int)) : Gives (Builtin.«str.find» ⟨[.str x t, .str y u, .int i v, .int j v'], []⟩) (.int (Txt.find3 x y i)) := by
  show Gives (match Builtin.Str.occurrences x y (fromIndex x.length i) (min (fromIndex x.length j) x.length) 1 with | k :: _ => PySem.retInt k | [] => (do rule "str.find.not-found"; PySem.retInt (-1))) _
  have e : min (fromIndex x.length j) x.length = x.length := by
    subst hj; unfold fromIndex; split <;> omega
  rw [e]
  unfold Txt.find3
  cases Builtin.Str.occurrences x y (fromIndex x.length i) x.length 1 with
  | nil => exact .rule (.of_eq rfl)
  | cons k _ => exact .of_eq rfl
theorem em_find {x y : Str} {i j : Int} {t u v v' : Tok} {Q : Value → Shared → Prop} (hj : j = (x.length : Int)) (hq : Q (.int (Txt.find3 x y i) s.toks) { s with toks := s.toks + 1 }) : wpAny (model prog w) A (call (.builtin "str.find") [.str x t, .str y u, .int i v, .int j v']) Q E s :=
  call_gives PySem.F.slot_str_find (typeIs_str _ _ _) PySem.F.entry_str_find (PySem.F.args_str_find_4 _ _ _ _) (em_gives x y i j t u v v' hj) hq
end
/-- how many signs the first i pieces asked for -/
def asked (k i : Nat) : Nat := if i = 0 then 0 else min (i - 1) k
/-- where a search stands: the signs asked for stand ahead of it -/
def EmI (got : Str) (c k i : Nat) (sp : Int) : Prop := 0 ≤ sp ∧ sp ≤ (got.length : Int) ∧ ((got.cps.toList.take sp.toNat).count c) = asked k i
theorem emI_start (got : Str) (c k : Nat) : EmI got c k 0 0 := ⟨by omega, by omega, by simp [asked]⟩
theorem find_nil {x : Str} {i : Int} (h0 : 0 ≤ i) (h1 : i ≤ (x.length : Int)) : Txt.find3 x ⟨#[]⟩ i = i := by
  unfold Txt.find3
  have hf : fromIndex x.length i = i.toNat := by unfold fromIndex; rw [if_neg (by omega)]; omega
  have hat : ∀ k, k ≤ x.length → StrLaws.At x ⟨#[]⟩ x.length k := fun k hk => ⟨by show k + 0 ≤ _; omega, by
    rw [StrLaws.subAt_eq]; simp [Str.length]⟩
  rcases StrLaws.occ_head_from x ⟨#[]⟩ (fromIndex x.length i) 1 (Nat.le_refl 1) with ⟨_, hn⟩ | ⟨k, r, h2, hlo, hk, hn⟩
  · exact absurd (hat _ (by rw [hf]; omega)) (hn _ (Nat.le_refl _))
  · rw [h2]
    show (k : Int) = i
    rw [hf] at hlo hn
    have : k = i.toNat := by
      rcases Nat.lt_or_ge i.toNat k with h | h
      · exact absurd (hat i.toNat (by omega)) (hn _ (Nat.le_refl _) h)
      · omega
    omega
theorem take_succ_count {l : List Nat} {c a b : Nat} (hab : a ≤ b) (hb : l[b]? = some c) (hn : ∀ v, a ≤ v → v < b → l[v]? ≠ some c) : (l.take (b + 1)).count c = (l.take a).count c + 1 := by
  have h1 : l.take (b + 1) = l.take b ++ [c] := by rw [List.take_add_one, hb]; rfl
  have h2 : l.take b = l.take a ++ (l.take b).drop a := by
    conv => lhs; rw [← List.take_append_drop a (l.take b)]
    rw [List.take_take, Nat.min_eq_left hab]
  have h3 : ((l.take b).drop a).count c = 0 := by
    rw [List.count_eq_zero]
    intro hm
    obtain ⟨j, hj⟩ := List.getElem?_of_mem hm
    rw [List.getElem?_drop, List.getElem?_take] at hj
    split at hj
    · exact hn _ (by omega) (by assumption) hj
    · cases hj
  rw [h1, List.count_append, h2, List.count_append, h3]
  simp
theorem count_take_all {l : List Nat} {c a : Nat} (hn : ∀ v, a ≤ v → v < l.length → l[v]? ≠ some c) : (l.take a).count c = l.count c := by
  have h2 : l = l.take a ++ l.drop a := (List.take_append_drop a l).symm
  have h3 : (l.drop a).count c = 0 := by
    rw [List.count_eq_zero]
    intro hm
    obtain ⟨j, hj⟩ := List.getElem?_of_mem hm
    rw [List.getElem?_drop] at hj
    have := (List.getElem?_eq_some_iff.mp hj).1
    exact hn _ (by omega) this hj
  conv => rhs; rw [h2]
  rw [List.count_append, h3]; rfl
theorem pcs_cases {c k i : Nat} {x : Str} (h : (Pcs c k)[i]? = some x) : (x = ⟨#[]⟩ ∧ asked k (i + 1) = asked k i) ∨ (x = ⟨#[c]⟩ ∧ asked k (i + 1) = asked k i + 1) := by
  cases i with
  | zero => rw [pcs_first] at h; cases h; exact .inl ⟨rfl, by simp [asked]⟩
  | succ i =>
    rcases Nat.lt_trichotomy i k with hi | hi | hi
    · rw [pcs_mid c k i hi] at h; cases h
      exact .inr ⟨rfl, by simp [asked]; omega⟩
    · subst hi; rw [pcs_last] at h; cases h
      exact .inl ⟨rfl, by simp [asked]⟩
    · rw [List.getElem?_eq_none (by rw [Pcs_length]; omega)] at h; cases h
theorem cps_get {x : Str} {v : Nat} (hv : v < x.length) : x.cps.toList[v]? = some (x.cps.getD v 0) := StrLaws.getElem?_of_getD hv rfl
/-- one more piece found -/
theorem emI_step {got x : Str} {c k i : Nat} {sp : Int} (hI : EmI got c k i sp) (hx : (Pcs c k)[i]? = some x) (h : ¬ Txt.find3 got x sp < 0) : EmI got c k (i + 1) (Txt.find3 got x sp + (x.length : Int)) := by
  obtain ⟨h0, h1, h2⟩ := hI
  rcases pcs_cases hx with ⟨rfl, ha⟩ | ⟨rfl, ha⟩
  · rw [find_nil h0 h1]
    refine ⟨by show 0 ≤ sp + ((0 : Nat) : Int); omega, by show sp + ((0 : Nat) : Int) ≤ _; omega, ?_⟩
    rw [ha, ← h2]
    show ((got.cps.toList.take (sp + ((0 : Nat) : Int)).toNat).count c) = _
    rw [show (sp + ((0 : Nat) : Int)) = sp by omega]
  · have hf : fromIndex got.length sp = sp.toNat := by unfold fromIndex; rw [if_neg (by omega)]; omega
    rcases StrLaws.find3_spec got c sp with ⟨e, _⟩ | ⟨j, e, hlo, hlt, hc, hn⟩
    · rw [e] at h; exact absurd (by decide) h
    · rw [e]
      rw [hf] at hlo hn
      have hL : ((⟨#[c]⟩ : Str).length : Int) = 1 := rfl
      rw [hL]
      refine ⟨by omega, by omega, ?_⟩
      rw [show ((j : Int) + 1).toNat = j + 1 by omega, ha, ← h2]
      refine take_succ_count hlo (by rw [cps_get hlt, hc]) fun v hv1 hv2 hv3 => ?_
      rw [cps_get (by omega)] at hv3
      exact hn v hv1 hv2 (Option.some.inj hv3)
theorem emI_miss {got x : Str} {c k i : Nat} {sp : Int} (hI : EmI got c k i sp) (hx : (Pcs c k)[i]? = some x) (h : Txt.find3 got x sp < 0) : decide (k ≤ got.cps.toList.count c) = false := by
  obtain ⟨h0, h1, h2⟩ := hI
  rcases pcs_cases hx with ⟨rfl, ha⟩ | ⟨rfl, ha⟩
  · rw [find_nil h0 h1] at h; omega
  · have hf : fromIndex got.length sp = sp.toNat := by unfold fromIndex; rw [if_neg (by omega)]; omega
    rcases StrLaws.find3_spec got c sp with ⟨e, hn⟩ | ⟨j, e, _⟩
    · rw [hf] at hn
      have h3 := count_take_all (l := got.cps.toList) (c := c) (a := sp.toNat) fun v hv1 hv2 hv3 => by
        have hv2' : v < got.length := hv2
        rw [cps_get hv2'] at hv3
        exact hn v hv1 hv2' (Option.some.inj hv3)
      have hk : asked k (i + 1) ≤ k := by unfold asked; split <;> omega
      exact decide_eq_false (by rw [← h3, h2]; omega)
    · rw [e] at h; omega
theorem emI_done {got : Str} {c k : Nat} {sp : Int} (hI : EmI got c k (k + 2) sp) : decide (k ≤ got.cps.toList.count c) = true := by
  obtain ⟨h0, h1, h2⟩ := hI
  have hk : asked k (k + 2) = k := by simp [asked]
  rw [hk] at h2
  have : (got.cps.toList.take sp.toNat).count c ≤ got.cps.toList.count c := (List.take_sublist _ _).count_le _
  exact decide_eq_true (by omega)
end Mine
end
/-! Em -/
section
open PySem PySem.Spec PySem.Calls PySem.W PyProof.Rows
namespace Mine
def EmEnd (h₀ : Heap) (L : Addr) (news own : List (Addr × Obj)) (x y : Str) (m₀ : Str → Option Value) (I : Int → Prop) (s₁ s₂ : Shared) : Prop :=
  ∃ h' tk m' a' t', s₂ = { s₁ with heap := h', toks := tk } ∧ Fr h₀ L h' m' ∧ News h₀ L h' (news ++ own) ∧ m' y = some (.int a' t') ∧ I a' ∧ ∀ z, z ≠ x → z ≠ y → m' z = m₀ z
def EmPost (h₀ : Heap) (L : Addr) (news own : List (Addr × Obj)) (x y : Str) (m₀ : Str → Option Value) (I : Int → Prop) (s₁ : Shared) (Q : Flow → Shared → Prop) (f : Flow) (s₂ : Shared) : Prop :=
  match f with
  | .ret v => Q (.ret v) s₂
  | .brk => Q .next s₂
  | _ => EmEnd h₀ L news own x y m₀ I s₁ s₂
theorem em_frm {h₀ h : Heap} {L : Addr} {x y : Str} {m₀ m₁ : Str → Option Value} {u : Str → Option Value} {a : Int} {t : Tok} (F : Fr h₀ L h (fun z => if z = x then u z else m₁ z)) (hm : m₁ y = some (.int a t)) (ho : ∀ z, z ≠ x → z ≠ y → m₁ z = m₀ z) :
    Fr h₀ L h (fun z => if z = x then u z else if z = y then some (.int a t) else m₀ z) := by
  have e : (fun z => if z = x then u z else m₁ z) = fun z => if z = x then u z else if z = y then some (.int a t) else m₀ z := by
    funext z
    by_cases h1 : z = x
    · simp [h1]
    · simp only [if_neg h1]
      by_cases h2 : z = y
      · subst h2; simp [hm]
      · simp only [if_neg h2]; exact ho z h1 h2
  rw [← e]; exact F
section
variable {prog : Program} {w : World} {A : Around} {E : Value → Shared → Prop} {s : Shared} {env : Env} {h₀ : Heap} {x : Str} {body : List Stmt} {Q : Flow → Shared → Prop}
theorem em_iter {D : Addr} {l : List (Str × Tok)} {xs : List Str} {n : Nat} {m₀ : Str → Option Value} {news : List (Addr × Obj)} (y : Str) (I : Nat → Int → Prop) {a₀ : Int} {t₀ : Tok}
    (hh : A.handled = none) (hl : (D, listOf (strValues l).toArray n) ∈ news) (hx : l.map (·.1) = xs) (F : Fr h₀ env.locals s.heap m₀) (N : News h₀ env.locals s.heap news) (hy : m₀ y = some (.int a₀ t₀)) (hyx : y ≠ x) (h0 : I 0 a₀)
    (turn : ∀ i z tz a ta h tk own, xs[i]? = some z → I i a → Fr h₀ env.locals h (fun q => if q = x then some (.str z tz) else if q = y then some (.int a ta) else m₀ q) → News h₀ env.locals h (news ++ own) →
      wpAny (model prog w) A (execs body env) (EmPost h₀ env.locals news own x y m₀ (I (i + 1)) { s with heap := h, toks := tk } Q) E { s with heap := h, toks := tk })
    (done : ∀ (u : Str → Option Value) a t h tk, I xs.length a → Fr h₀ env.locals h (fun z => if z = x then u z else if z = y then some (.int a t) else m₀ z) → News h₀ env.locals h news → Q .next { s with heap := h, toks := tk }) :
    wpAny (model prog w) A (pyIter (.ref D)) (fun it s₂ => LoopAtV prog w A h₀ env x body Q E it s₂) E s := by
  refine kdl_iter (fun i m nx => nx = news ∧ (∃ a t, m y = some (.int a t) ∧ I i a) ∧ ∀ z, z ≠ x → z ≠ y → m z = m₀ z) hh hl F N ⟨rfl, ⟨a₀, t₀, hy, h0⟩, fun _ _ _ => rfl⟩ ?_ ?_
  · rintro i v m₁ news₁ h tk own hv hoff _ ⟨rfl, ⟨a, ta, hm, hI⟩, ho⟩ F₁ N₁
    obtain ⟨z, tz, rfl, hz⟩ := strs_of hx hv
    refine wpAny_mono (turn i z tz a ta h tk own hz hI (em_frm (u := fun _ => some (.str z tz)) F₁ hm ho) N₁) (fun f s₂ p => ?_) fun _ _ e => e
    have up : EmEnd h₀ env.locals news₁ own x y m₀ (I (i + 1)) { s with heap := h, toks := tk } s₂ →
        InvEndG h₀ env.locals (fun m' nx => (D, listOf (strValues l).toArray n) ∈ nx ∧ nx = news₁ ∧ (∃ a t, m' y = some (.int a t) ∧ I (i + 1) a) ∧ ∀ z, z ≠ x → z ≠ y → m' z = m₀ z) own { s with heap := h, toks := tk } s₂ := by
      rintro ⟨h', tk', m', a', t', e, F', N', hm', hI', ho'⟩
      exact ⟨h', tk', m', news₁ ++ own, news₁, e, F', N', fun p hp => List.mem_append.mpr (.inl hp), fun p hp => List.mem_append.mpr (.inr hp), hoff, hl, rfl, ⟨a', t', hm', hI'⟩, ho'⟩
    cases f with
    | ret v => exact p
    | brk => exact p
    | next => exact up p
    | cont => exact up p
  · rintro m₁ news₁ h tk ⟨rfl, ⟨a, t, hm, hI⟩, ho⟩ F₁ N₁
    have hlen : (strValues l).length = xs.length := strs_len hx
    rw [hlen] at hI
    refine done m₁ a t h tk hI (em_frm (u := m₁) ?_ hm ho) N₁
    have e : (fun z => if z = x then m₁ z else m₁ z) = m₁ := by funext z; split <;> rfl
    rw [e]; exact F₁
theorem em_drop {h₀ h : Heap} {L : Addr} {news news' : List (Addr × Obj)} (N : News h₀ L h news') (hs : ∀ p ∈ news, p ∈ news' := by (intro p hp; repeat (first | exact hp | (with_reducible refine List.mem_append.mpr (Or.inl ?_)) | refine List.Mem.tail _ ?_))) : News h₀ L h news := fun p hp => N p (hs p hp)
structure EmMark (got : Str) (c k : Nat) : Prop where
theorem em_iterE {got : Str} {c k : Nat} (_M : EmMark got c k) {D : Addr} {l : List (Str × Tok)} {n : Nat} {m₀ : Str → Option Value} {news : List (Addr × Obj)} (y : Str) {t₀ : Tok}
    (hh : A.handled = none) (hl : (D, listOf (strValues l).toArray n) ∈ news) (hx : l.map (·.1) = Pcs c k) (F : Fr h₀ env.locals s.heap m₀) (N : News h₀ env.locals s.heap news) (hy : m₀ y = some (.int 0 t₀)) (hyx : y ≠ x)
    (turn : ∀ i z tz a ta h tk own, (Pcs c k)[i]? = some z → z.length < 1000 → EmI got c k i a → Fr h₀ env.locals h (fun q => if q = x then some (.str z tz) else if q = y then some (.int a ta) else m₀ q) → News h₀ env.locals h (news ++ own) →
      wpAny (model prog w) A (execs body env) (EmPost h₀ env.locals news own x y m₀ (EmI got c k (i + 1)) { s with heap := h, toks := tk } Q) E { s with heap := h, toks := tk })
    (done : ∀ (u : Str → Option Value) a t h tk, EmI got c k (k + 2) a → Fr h₀ env.locals h (fun z => if z = x then u z else if z = y then some (.int a t) else m₀ z) → News h₀ env.locals h news → Q .next { s with heap := h, toks := tk }) :
    wpAny (model prog w) A (pyIter (.ref D)) (fun it s₂ => LoopAtV prog w A h₀ env x body Q E it s₂) E s :=
  em_iter y (fun i a => EmI got c k i a) hh hl hx F N hy hyx (emI_start got c k) (fun i z tz a ta h tk own hz => turn i z tz a ta h tk own hz (by rcases pcs_cases hz with ⟨rfl, _⟩ | ⟨rfl, _⟩; (exact (by decide : 0 < 1000)); exact (by decide : 1 < 1000))) (fun u a t h tk hI F N => done u a t h tk (by rw [Pcs_length] at hI; exact hI) F N)
theorem em_end {news own : List (Addr × Obj)} {y : Str} {m₀ m' : Str → Option Value} {I : Int → Prop} {s₁ : Shared} {h' : Heap} {tk : Nat} {a' : Int} {t' : Tok} {L : Addr} (F : Fr h₀ L h' m') (N : News h₀ L h' (news ++ own)) (hy : m' y = some (.int a' t')) (hI : I a') (ho : ∀ z, z ≠ x → z ≠ y → m' z = m₀ z) :
    EmEnd h₀ L news own x y m₀ I s₁ { s₁ with heap := h', toks := tk } := ⟨h', tk, m', a', t', rfl, F, N, hy, hI, ho⟩
end
set_option maxRecDepth 100000 in
set_option maxHeartbeats 8000000 in
theorem em_c {w : World} {dp un : Nat} {gd : Option (List Code)} {cn : Str} {nm : List (Str × NameKind)} {ig ic : Bool} {mo : List (Str × Const)} {a : Addr} {ccd : Value} {cl : List (Str × Addr)} {outer : List Env} {A₀ : Around} {base h₀ : Heap} {L : Addr} {m : Str → Option Value} {s : Shared} {Q E : Value → Shared → Prop}
  {p : Program} {loose : List Str} {mean : ExcName → Option Value} {mg mb : Str → Option Value} {news : List (Addr × Obj)} {want got : Str} {tw tg : Tok} {c k : Nat}
  (B : Below A₀ base outer h₀) (F : Fr h₀ L s.heap m) (X : (Mine.hd.heap_39 w.params).In h₀) (N : News h₀ L s.heap news) (T : Top p loose mean mg mb h₀)
  (hdp : dp + 3 < recursionLimit) (hun : un + 30 < cLine) (hwl : want.length < 1000) (hgl : got.length < 1000) (hkk : k < 1000)
  (hocc : (Builtin.Str.occurrences want (Str.ofString "...") 0 want.length 1).isEmpty = false) (hspl : Txt.split want (Str.ofString "...") = Pcs c k)
  (hret : ∀ (h' : Heap) (tk' : Nat), Fr h₀ L h' m → News h₀ L h' news → Q (.bool (decide (k ≤ got.cps.toList.count c))) {s with heap := h', toks := tk'}) :
  wpAny (model PySem.Challenge.rw_pg0186_01.row.prog w) (ktrTop dp un gd cn {kind := .function, names := nm, isGenerator := ig, isCoroutine := ic, more := mo} L a ccd cl outer) (call (.ref 21) [.str want tw, .str got tg]) Q E s := by
  have hM : EmMark got c k := EmMark.mk
  have hretF : decide (k ≤ got.cps.toList.count c) = false → ∀ (h' : Heap) (tk' : Nat), Fr h₀ L h' m → News h₀ L h' news → Q (.bool false) {s with heap := h', toks := tk'} := fun e h' tk' F N => e ▸ hret h' tk' F N
  have hretT : decide (k ≤ got.cps.toList.count c) = true → ∀ (h' : Heap) (tk' : Nat), Fr h₀ L h' m → News h₀ L h' news → Q (.bool true) {s with heap := h', toks := tk'} := fun e h' tk' F N => e ▸ hret h' tk' F N
  clear hret
  revert X; k_fill; intro X
  k_with_none
  w_on
  (k_with "call builtin:str.split" => (k_here; k_dflt (refine' em_split ?F ?N ?y ?x ?_ ?z; (case F => k_asm); (case N => k_asm); (case y => decide); (case x => assumption); (case z => assumption)); intro D' l' h' k' e' F' N' l1; (try k_lt l1)))
  (k_with "call builtin:len" => (k_here; (with_reducible show wpAny _ _ (call (Value.builtin _) [Value.ref _]) _ _ _); k_dflt (refine' em_len ?N ?m ?x ?k ?b ?_; (case N => k_asm); (case m => k_mem); (case x => assumption); (case k => exact Pcs_length _ _); (case b => omega))))
  (k_with "subscriptTail Name Constant ref int" => (k_here; k_dflt (refine' em_item ?N ?m ?x ?g ?_; (case N => k_asm); (case m => k_mem); (case x => assumption); (case g => exact pcs_first _ _)); intro t'))
  (k_with "subscriptTail Name UnaryOp ref int" => (k_here; k_dflt (refine' em_itemN ?N ?m ?x ?k ?g ?_; (case N => k_asm); (case m => k_mem); (case x => assumption); (case k => exact Pcs_length _ _); (case g => exact pcs_last _ _)); intro t'))
  (k_with "call builtin:str.find" => (k_here; k_dflt (refine' em_find ?j ?_; (case j => rfl))))
  (k_with "exec For" => (k_here; (rename Fr _ _ _ _ => lF'); (with_unfolding_all refine' For_invVF lF' ?k1 ?k2 ?_; (case k1 => exact rfl); (case k2 => exact rfl); k_whole)))
  (k_with "pyIter ref" => (k_here; (rename Fr _ _ _ _ => lF'); (rename News _ _ _ _ => lN'); (rename EmMark _ _ _ => lM'); (with_unfolding_all refine' em_iterE lM' (Str.ofString "startpos") ?hh ?hl ?hx lF' lN' ?hy ?hyx (fun i' z' tz' a' ta' h' tk' own' hz' hzl' hI' F' N' => ?_) (fun u' a' t' h' tk' hI' F' N' => ?_)); (case hh => rfl); (case hl => k_mem); (case hx => assumption); (case hy => rfl); (case hyx => decide); (all_goals (try clear lF' lN')); (all_goals (try k_fold))))
  (k_with "EmPost" => (dsimp only [EmPost]))
  (k_with "EmEnd" => (refine em_end (by assumption) (by assumption) (by rfl) (emI_step (by assumption) (by assumption) (by assumption)) (by intro z h1 h2; first | rfl | (simp [h1, h2]; done) | (simp_all; done))))
  w_strict (k_steps; (all_goals first | exact hretF (emI_miss (by assumption) (by assumption) (by assumption)) _ _ (by assumption) (em_drop (by assumption)) | exact hretT (emI_done (by assumption)) _ _ (by assumption) (em_drop (by assumption))))
end Mine
end
/-! LpP -/
section
open PySem PySem.Spec PySem.Calls PySem.W PyProof.Rows
namespace Mine
def wantOf (c k : Nat) : Str := Str.ofString "..." ++ Txt.mul ((⟨#[c]⟩ : Str) ++ Str.ofString "...") (k : Int)
theorem want_split0 : ∀ k : Fin 12, Txt.split (wantOf 48 k) (Str.ofString "...") = Pcs 48 k := by decide +kernel
theorem want_split1 : ∀ k : Fin 12, Txt.split (wantOf 49 k) (Str.ofString "...") = Pcs 49 k := by decide +kernel
theorem want_occ0 : ∀ k : Fin 12, (Builtin.Str.occurrences (wantOf 48 k) (Str.ofString "...") 0 (wantOf 48 k).length 1).isEmpty = false := by decide +kernel
theorem want_occ1 : ∀ k : Fin 12, (Builtin.Str.occurrences (wantOf 49 k) (Str.ofString "...") 0 (wantOf 49 k).length 1).isEmpty = false := by decide +kernel
end Mine
namespace Mine
theorem want_split {c k : Nat} (hc : c = 48 ∨ c = 49) (hk : k < 12) : Txt.split (Str.ofString "..." ++ Txt.mul ((⟨#[c]⟩ : Str) ++ Str.ofString "...") (k : Int)) (Str.ofString "...") = Pcs c k := by
  rcases hc with rfl | rfl
  · exact want_split0 ⟨k, hk⟩
  · exact want_split1 ⟨k, hk⟩
theorem want_occ {c k : Nat} (hc : c = 48 ∨ c = 49) (hk : k < 12) : (Builtin.Str.occurrences (Str.ofString "..." ++ Txt.mul ((⟨#[c]⟩ : Str) ++ Str.ofString "...") (k : Int)) (Str.ofString "...") 0 (Str.ofString "..." ++ Txt.mul ((⟨#[c]⟩ : Str) ++ Str.ofString "...") (k : Int)).length 1).isEmpty = false := by
  rcases hc with rfl | rfl
  · exact want_occ0 ⟨k, hk⟩
  · exact want_occ1 ⟨k, hk⟩
theorem one_len (c : Nat) : (⟨#[c]⟩ : Str).length = 1 := rfl
theorem want_mullen {c k : Nat} (hk : k < 12) : (Txt.mul ((⟨#[c]⟩ : Str) ++ Str.ofString "...") (k : Int)).length < 300 := by
  have e := len_mul ((⟨#[c]⟩ : Str) ++ Str.ofString "...") k
  have e2 : ((⟨#[c]⟩ : Str) ++ Str.ofString "...").length = 4 := by rw [Str.length_append, one_len]; rfl
  rw [if_neg (fun c => absurd (of_decide_eq_true c) (by omega)), e2] at e
  omega
theorem want_len {c k : Nat} (hk : k < 12) : (Str.ofString "..." ++ Txt.mul ((⟨#[c]⟩ : Str) ++ Str.ofString "...") (k : Int)).length < 1000 := by
  have := want_mullen (c := c) hk
  rw [Str.length_append]
  have : (Str.ofString "...").length = 3 := rfl
  omega
theorem want_mulok {c k : Nat} (hk : k < 12) : MulOk ((⟨#[c]⟩ : Str) ++ Str.ofString "...") (k : Int) :=
  mulOk_of 16 1048576 (by rw [Str.length_append, one_len]; decide) (by omega) (by omega) (by decide) (by decide)
theorem want_mul {prog : Program} {w : World} {A : Around} {E : Value → Shared → Prop} {s : Shared} {t u : Tok} {Q : Value → Shared → Prop} {c k : Nat} (hk : k < 12)
    (h : ∀ t' k', (Txt.mul ((⟨#[c]⟩ : Str) ++ Str.ofString "...") (k : Int)).length < 300 → Q (.str (Txt.mul ((⟨#[c]⟩ : Str) ++ Str.ofString "...") (k : Int)) t') { s with toks := k' }) : wpAny (model prog w) A (binaryOp .Mult (.str ((⟨#[c]⟩ : Str) ++ Str.ofString "...") t) (.int (k : Int) u)) Q E s :=
  SB.mul (want_mulok hk) (fun t' k => h t' k (want_mullen hk))
/-- the texts' places: how many of the signs stand in the first e -/
def CntT (marks : Str) (c e : Nat) : Nat := (marks.cps.toList.take e).count c
theorem cntT_mono (marks : Str) (c : Nat) {e f : Nat} (h : e ≤ f) : CntT marks c e ≤ CntT marks c f := by
  unfold CntT
  have : marks.cps.toList.take e = (marks.cps.toList.take f).take e := by rw [List.take_take, Nat.min_eq_left h]
  rw [this]
  exact (List.take_sublist _ _).count_le _
def LpP (marks : Str) (c k : Nat) (lo hi : Int) : Prop :=
  (∀ e : Nat, (e : Int) < lo → CntT marks c e < k) ∧ (∀ e : Nat, hi ≤ (e : Int) → e ≤ marks.length → k ≤ CntT marks c e)
theorem lp_s0 (marks : Str) (c k : Nat) {n : Int} (hn : n = (marks.length : Int) + 1) : 0 ≤ (0 : Int) ∧ 0 ≤ n ∧ n ≤ (marks.length : Int) + 1 ∧ LpP marks c k 0 n := by
  subst hn
  exact ⟨by omega, by omega, by omega, fun e h => by omega, fun e h h' => by omega⟩
theorem lp_sR {marks : Str} {c k : Nat} {lo hi : Int} (h0 : 0 ≤ lo) (h1 : lo ≤ hi) (h2 : hi ≤ (marks.length : Int) + 1) (hB : LpP marks c k lo hi) (hlt : lo < hi) (hx : CntT marks c ((lo + hi).fdiv 2).toNat < k) :
    0 ≤ (lo + hi).fdiv 2 + 1 ∧ (lo + hi).fdiv 2 + 1 ≤ hi ∧ hi ≤ (marks.length : Int) + 1 ∧ LpP marks c k ((lo + hi).fdiv 2 + 1) hi := by
  rw [mid_eq] at hx ⊢
  refine ⟨by omega, by omega, by omega, fun e he => ?_, hB.2⟩
  exact Nat.lt_of_le_of_lt (cntT_mono marks c (by omega)) hx
theorem lp_sL {marks : Str} {c k : Nat} {lo hi : Int} (h0 : 0 ≤ lo) (h1 : lo ≤ hi) (h2 : hi ≤ (marks.length : Int) + 1) (hB : LpP marks c k lo hi) (hlt : lo < hi) (hx : ¬ CntT marks c ((lo + hi).fdiv 2).toNat < k) :
    0 ≤ lo ∧ lo ≤ (lo + hi).fdiv 2 ∧ (lo + hi).fdiv 2 ≤ (marks.length : Int) + 1 ∧ LpP marks c k lo ((lo + hi).fdiv 2) := by
  rw [mid_eq] at hx ⊢
  refine ⟨by omega, by omega, by omega, hB.1, fun e he hl => ?_⟩
  exact Nat.le_trans (Nat.le_of_not_lt hx) (cntT_mono marks c (by omega))
theorem lp_fin {marks : Str} {c k : Nat} {lo hi : Int} (h1 : lo ≤ hi) (hn : ¬ lo < hi) (hB : LpP marks c k lo hi) : LpP marks c k lo lo := by
  have : lo = hi := by omega
  subst this; exact hB
structure LpMark (marks : Str) (c k : Nat) : Prop where
theorem lp_slice {marks : Str} {e : Int} (h0 : 0 ≤ e) (h1 : e ≤ (marks.length : Int)) : (Txt.slice marks none (some (0 + e))).cps.toList = marks.cps.toList.take e.toNat := by
  rw [Int.zero_add]
  have h := eq_of_beq (slice_closes_to (x := marks) (j := e) ⟨h0, h1⟩)
  rw [h]
  simp
theorem lp_bool (b : Bool) : b2i b < b2i true ↔ b = false := by cases b <;> decide
theorem lp_tR {marks : Str} {c k : Nat} {lo hi : Int} (h0 : 0 ≤ lo) (h1 : lo ≤ hi) (h2 : hi ≤ (marks.length : Int) + 1) (hB : LpP marks c k lo hi) (hlt : lo < hi)
    (hx : b2i (decide (k ≤ List.count c (Txt.slice marks none (some (0 + (lo + hi).fdiv 2))).cps.toList)) < b2i true) :
    0 ≤ (lo + hi).fdiv 2 + 1 ∧ (lo + hi).fdiv 2 + 1 ≤ hi ∧ hi ≤ (marks.length : Int) + 1 ∧ LpP marks c k ((lo + hi).fdiv 2 + 1) hi := by
  have hm := mid_eq (lo + hi)
  rw [lp_bool, lp_slice (by rw [hm]; omega) (by rw [hm]; omega)] at hx
  exact lp_sR h0 h1 h2 hB hlt (by unfold CntT; exact Nat.lt_of_not_le (of_decide_eq_false hx))
theorem lp_tL {marks : Str} {c k : Nat} {lo hi : Int} (h0 : 0 ≤ lo) (h1 : lo ≤ hi) (h2 : hi ≤ (marks.length : Int) + 1) (hB : LpP marks c k lo hi) (hlt : lo < hi)
    (hx : ¬ b2i (decide (k ≤ List.count c (Txt.slice marks none (some (0 + (lo + hi).fdiv 2))).cps.toList)) < b2i true) :
    0 ≤ lo ∧ lo ≤ (lo + hi).fdiv 2 ∧ (lo + hi).fdiv 2 ≤ (marks.length : Int) + 1 ∧ LpP marks c k lo ((lo + hi).fdiv 2) := by
  have hm := mid_eq (lo + hi)
  rw [lp_bool, lp_slice (by rw [hm]; omega) (by rw [hm]; omega)] at hx
  refine lp_sL h0 h1 h2 hB hlt (fun h => hx ?_)
  unfold CntT at h
  exact decide_eq_false (Nat.not_le_of_lt h)
theorem lp_z0 {marks : Str} {c k : Nat} : 0 ≤ (0 : Int) ∧ 0 ≤ (((rangeKs 0 (marks.length + 1)).length : Nat) : Int) ∧ (((rangeKs 0 (marks.length + 1)).length : Nat) : Int) ≤ (marks.length : Int) + 1 ∧ LpP marks c k 0 (((rangeKs 0 (marks.length + 1)).length : Nat) : Int) :=
  lp_s0 marks c k (by rw [rangeKs_length]; omega)
abbrev QLam : Str := Str.ofString "_law_place" ++ Str.ofString ".<locals>." ++ Str.ofString "<lambda>"
theorem lp_keep {h₀ h : Heap} {L : Addr} {q1 q2 q3 q4 q5 q6 : Addr × Obj} {r : List (Addr × Obj)} (N : News h₀ L h (q1 :: q2 :: q3 :: q4 :: q5 :: q6 :: r)) : News h₀ L h (q2 :: q6 :: r) := fun p hp => by
  refine N p ?_
  rcases List.mem_cons.mp hp with rfl | hp
  · exact .tail _ (.head _)
  · exact .tail _ (.tail _ (.tail _ (.tail _ (.tail _ hp))))
end Mine
end
/-! Lp -/
section
open PySem PySem.Spec PySem.Calls PySem.W PyProof.Rows
namespace Mine
theorem allLt_neA {d c : Addr} : ∀ {l : List (Addr × Obj)}, AllLt d l → d ≤ c → ∀ p ∈ l, p.1 ≠ c
  | [], _, _, _, hp => nomatch hp
  | q :: r, h, hc, p, hp => by
    rcases List.mem_cons.mp hp with rfl | hp
    · exact Nat.ne_of_lt (Nat.lt_of_lt_of_le h.1 hc)
    · exact allLt_neA h.2 hc p hp
local macro_rules | `(tactic| k_all) => `(tactic| first | assumption | exact allLt_neA (by assumption) (by (show @LE.le Nat _ _ _); omega))
theorem lp_list {prog : Program} {w : World} {A : Around} {E : Value → Shared → Prop} {s : Shared} {h₀ : Heap} {L r : Addr} {m : Str → Option Value} {news : List (Addr × Obj)} {k : Nat} {t₀ u₀ v₀ : Tok} {Q : Value → Shared → Prop}
    (hh : A.handled = none) (F : Fr h₀ L s.heap m) (N : News h₀ L s.heap news) (hr : IsRange s.heap r 0 ((k : Int) + 1) 1 t₀ u₀ v₀) (hk : k < 100)
    (h : ∀ D us c h' tk, Fr h₀ L h' m → News h₀ L h' ((D, listOf (List.toArray us) c) :: news) → (∀ p ∈ news, p.1 < D) → IntsAre us (rangeKs 0 (k + 1)) → Q (.ref D) { s with heap := h', toks := tk }) :
    wpAny (model prog w) A (call (.type "list") [.ref r]) Q E s :=
  kll_range hh F N hr (small_one (by omega) (by omega) (by omega) (by omega)) (by rw [show ((k : Int) + 1) = ((k + 1 : Nat) : Int) by omega]; exact rangeSize_nat _ _) (by omega) h
set_option maxRecDepth 100000 in
set_option maxHeartbeats 8000000 in
theorem lp_c {w : World} {dp un : Nat} {gd : Option (List Code)} {cn : Str} {nm : List (Str × NameKind)} {ig ic : Bool} {mo : List (Str × Const)} {a : Addr} {ccd : Value} {cl : List (Str × Addr)} {outer : List Env} {A₀ : Around} {base h₀ : Heap} {L : Addr} {m : Str → Option Value} {s : Shared} {Q E : Value → Shared → Prop}
  {p : Program} {loose : List Str} {mean : ExcName → Option Value} {mg mb : Str → Option Value} {news : List (Addr × Obj)} {marks : Str} {c k : Nat} {tm ts tk : Tok} {tp : Addr} {otp : Obj}
  (B : Below A₀ base outer h₀) (F : Fr h₀ L s.heap m) (X : (Mine.hd.heap_39 w.params).In h₀) (N : News h₀ L s.heap ((64, tabObj #[]) :: (tp, otp) :: news)) (T : Top p loose mean mg mb h₀) (C : CodeHd base 68 64) (hne : ∀ p ∈ news, p.1 ≠ 64) (htp : AllLt (tp + 1) news) (h64 : @LT.lt Nat _ 64 tp)
  (hdp : dp + 20 < recursionLimit) (hun : un + 300 < cLine) (hwl : marks.length < 100) (hc : c = 48 ∨ c = 49) (hk : k < 12)
  (hret : ∀ (r : Int) (t : Tok) (h' : Heap) (tk' : Nat) (c' : Addr) (oc : Obj) (vs : Array Value) (tq : Tok), 0 ≤ r → r ≤ (marks.length : Int) + 1 → LpP marks c k r r → oc.data = .fields vs → vs[1]? = some (.str QLam tq) → @LT.lt Nat _ tp c' →
    Fr h₀ L h' m → News h₀ L h' ((c', oc) :: (64, tabObj #[rawInt 107, rawInt 62, Value.ref c']) :: (tp, otp) :: news) → Q (.int r t) {s with heap := h', toks := tk'}) :
  wpAny (model PySem.Challenge.rw_pg0186_01.row.prog w) (ktrTop dp un gd cn {kind := .function, names := nm, isGenerator := ig, isCoroutine := ic, more := mo} L a ccd cl outer) (call (.ref 69) [.str marks tm, .str ⟨#[c]⟩ ts, .int (k : Int) tk]) Q E s := by
  have hM : LpMark marks c k := LpMark.mk
  revert X; k_fill; intro X
  k_with_none
  w_on
  (k_with "binaryOp Mult str int" => (k_here; k_dflt (refine' want_mul ?a ?_; (case a => assumption)); intro t' k' hl'))
  (k_with "call type:list" => (k_here; (with_reducible show wpAny _ _ (call (Value.type _) [Value.ref _]) _ _ _); (rename IsRange _ _ _ _ _ _ _ _ => rgX); k_dflt (refine' lp_list ?k0 ?k1 ?k2 rgX ?k4 ?_; (case k0 => rfl); (case k1 => k_asm); (case k2 => k_asm); (case k4 => assumption); k_whole); intro D' vs' c' h' tk' F' N' l1 hI'; (try k_lt l1); (try k_sweep)))
  (k_with "call ref" => (k_here; (with_reducible show wpAny _ _ (call (Value.ref 21) [Value.str _ _, Value.str _ _]) _ _ _); k_dflt (refine' em_c ?k1 ?k2 ?k3 ?k4 ?k5 ?k6 ?k7 ?k8 ?k9 ?k10 ?k11 ?k12 ?_; (case k1 => k_asm); (case k2 => k_asm); (case k3 => k_asm); (case k4 => k_asm); (case k5 => k_asm); (case k6 => ktr_room); (case k7 => ktr_units); (case k12 => exact want_split (by assumption) (by assumption)); (case k11 => exact want_occ (by assumption) (by assumption)); (case k8 => exact want_len (by assumption)); (case k9 => omega); (case k10 => omega); k_whole); intro h' tk' F' N'))
  (k_with "exec While Compare cons nil" => k_while_given ["a"] (fun a _ lo hi => 0 ≤ lo ∧ lo ≤ hi ∧ hi ≤ (marks.length : Int) + 1 ∧ LpP marks c k lo hi) (fun _ _ lo hi => (hi - lo).toNat) "lo" "hi")
  (k_with "state" => first | exact lp_z0 | exact lp_tL (by assumption) (by assumption) (by assumption) (by assumption) (by assumption) (by assumption) | exact lp_tR (by assumption) (by assumption) (by assumption) (by assumption) (by assumption) (by assumption))
  (k_with "measure" => first | exact br_mL (by assumption) | exact br_mR (by assumption))
  w_strict (k_steps; (all_goals (refine' hret _ _ _ _ ?c' ?oc ?vs ?tq ?a1 ?a2 ?a3 ?a4 ?a5 ?a6 ?a7 ?a8; (case a7 => assumption); (case a8 => exact lp_keep (by assumption)); (case a4 => assumption); (case a5 => assumption); (case a1 => assumption); (case a2 => omega); (case a3 => exact lp_fin (by assumption) (by assumption) (by assumption)); (case a6 => (refine ltN ?_; omega)))))
end Mine
end
section
local macro_rules | `(tactic| k_all) => `(tactic| first | assumption | exact Mine.allLt_neA (by assumption) (by (show @LE.le Nat _ _ _); omega))
/-! Lph -/
section
open PySem PySem.Spec PySem.Calls PySem.W PyProof.Rows
namespace Mine
theorem lp_keepH {h₀ h : Heap} {L : Addr} {q1 q2 q3 q4 : Addr × Obj} {r : List (Addr × Obj)} (N : News h₀ L h (q1 :: q2 :: q3 :: q4 :: r)) : News h₀ L h r := fun p hp => N p (.tail _ (.tail _ (.tail _ (.tail _ hp))))
set_option maxRecDepth 100000 in
set_option maxHeartbeats 8000000 in
theorem lp_h {w : World} {dp un : Nat} {gd : Option (List Code)} {cn : Str} {nm : List (Str × NameKind)} {ig ic : Bool} {mo : List (Str × Const)} {a : Addr} {ccd : Value} {cl : List (Str × Addr)} {outer : List Env} {A₀ : Around} {base h₀ : Heap} {L : Addr} {m : Str → Option Value} {s : Shared} {Q E : Value → Shared → Prop}
  {p : Program} {loose : List Str} {mean : ExcName → Option Value} {mg mb : Str → Option Value} {news : List (Addr × Obj)} {marks : Str} {c k : Nat} {tm ts tk : Tok} {tp c' : Addr} {otp oc : Obj} {vq : Array Value} {tq : Tok}
  (B : Below A₀ base outer h₀) (F : Fr h₀ L s.heap m) (X : (Mine.hd.heap_39 w.params).In h₀) (N : News h₀ L s.heap ((c', oc) :: (64, tabObj #[rawInt 107, rawInt 62, Value.ref c']) :: (tp, otp) :: news)) (hoc : oc.data = .fields vq) (hq : vq[1]? = some (.str QLam tq)) (T : Top p loose mean mg mb h₀) (C : CodeHd base 68 64) (htp : AllLt (tp + 1) news)
  (hdp : dp + 20 < recursionLimit) (hun : un + 300 < cLine) (hwl : marks.length < 100) (hc : c = 48 ∨ c = 49) (hk : k < 12)
  (hret : ∀ (r : Int) (t : Tok) (h' : Heap) (tk' : Nat), 0 ≤ r → r ≤ (marks.length : Int) + 1 → LpP marks c k r r →
    Fr h₀ L h' m → News h₀ L h' ((c', oc) :: (64, tabObj #[rawInt 107, rawInt 62, Value.ref c']) :: (tp, otp) :: news) → Q (.int r t) {s with heap := h', toks := tk'}) :
  wpAny (model PySem.Challenge.rw_pg0186_01.row.prog w) (ktrTop dp un gd cn {kind := .function, names := nm, isGenerator := ig, isCoroutine := ic, more := mo} L a ccd cl outer) (call (.ref 69) [.str marks tm, .str ⟨#[c]⟩ ts, .int (k : Int) tk]) Q E s := by
  have hM : LpMark marks c k := LpMark.mk
  revert X; k_fill; intro X
  k_with_none
  w_on
  (k_with "binaryOp Mult str int" => (k_here; k_dflt (refine' want_mul ?a ?_; (case a => assumption)); intro t' k' hl'))
  (k_with "call type:list" => (k_here; (with_reducible show wpAny _ _ (call (Value.type _) [Value.ref _]) _ _ _); (rename IsRange _ _ _ _ _ _ _ _ => rgX); k_dflt (refine' lp_list ?k0 ?k1 ?k2 rgX ?k4 ?_; (case k0 => rfl); (case k1 => k_asm); (case k2 => k_asm); (case k4 => assumption); k_whole); intro D' vs' c' h' tk' F' N' l1 hI'; (try k_lt l1); (try k_sweep)))
  (k_with "call ref" => (k_here; (with_reducible show wpAny _ _ (call (Value.ref 21) [Value.str _ _, Value.str _ _]) _ _ _); k_dflt (refine' em_c ?k1 ?k2 ?k3 ?k4 ?k5 ?k6 ?k7 ?k8 ?k9 ?k10 ?k11 ?k12 ?_; (case k1 => k_asm); (case k2 => k_asm); (case k3 => k_asm); (case k4 => k_asm); (case k5 => k_asm); (case k6 => ktr_room); (case k7 => ktr_units); (case k12 => exact want_split (by assumption) (by assumption)); (case k11 => exact want_occ (by assumption) (by assumption)); (case k8 => exact want_len (by assumption)); (case k9 => omega); (case k10 => omega); k_whole); intro h' tk' F' N'))
  (k_with "exec While Compare cons nil" => k_while_given ["a"] (fun a _ lo hi => 0 ≤ lo ∧ lo ≤ hi ∧ hi ≤ (marks.length : Int) + 1 ∧ LpP marks c k lo hi) (fun _ _ lo hi => (hi - lo).toNat) "lo" "hi")
  (k_with "state" => first | exact lp_z0 | exact lp_tL (by assumption) (by assumption) (by assumption) (by assumption) (by assumption) (by assumption) | exact lp_tR (by assumption) (by assumption) (by assumption) (by assumption) (by assumption) (by assumption))
  (k_with "measure" => first | exact br_mL (by assumption) | exact br_mR (by assumption))
  w_strict (k_steps; (all_goals (refine' hret _ _ _ _ ?a1 ?a2 ?a3 ?a7 ?a8; (case a7 => assumption); (case a8 => exact lp_keepH (by assumption)); (case a1 => assumption); (case a2 => omega); (case a3 => exact lp_fin (by assumption) (by assumption) (by assumption)))))
end Mine
end
/-! Lpw -/
section
open PySem PySem.Spec PySem.Calls PySem.W PyProof.Rows
namespace Mine
abbrev LamTab (c' : Addr) : Obj := tabObj #[rawInt 107, rawInt 62, Value.ref c']
theorem news_add {h₀ h : Heap} {L : Addr} {q : Addr × Obj} {r : List (Addr × Obj)} (N : News h₀ L h r) (hq : q ∈ r) : News h₀ L h (q :: r) := fun p hp => by
  rcases List.mem_cons.mp hp with rfl | hp
  · exact N _ hq
  · exact N p hp
theorem news_tl {h₀ h : Heap} {L : Addr} {q : Addr × Obj} {r : List (Addr × Obj)} (N : News h₀ L h (q :: r)) : News h₀ L h r := fun p hp => N p (.tail _ hp)
theorem allLt_of_le {d : Addr} {l : List (Addr × Obj)} (h : ∀ p ∈ l, @LE.le Nat _ p.1 d) : AllLt (d + 1) l := allLt_of fun p hp => Nat.lt_succ_of_le (h p hp)
set_option maxRecDepth 100000 in
theorem lp_hit {w : World} {dp un : Nat} {gd : Option (List Code)} {cn : Str} {nm : List (Str × NameKind)} {ig ic : Bool} {mo : List (Str × Const)} {a : Addr} {ccd : Value} {cl : List (Str × Addr)} {outer : List Env} {A₀ : Around} {base h₀ : Heap} {L : Addr} {m : Str → Option Value} {s : Shared} {Q E : Value → Shared → Prop}
  {p : Program} {loose : List Str} {mean : ExcName → Option Value} {mg mb : Str → Option Value} {led : List (Addr × Obj)} {marks sign : Str} {c : Nat} {many : Int} {tm ts tk : Tok} {tp c' : Addr} {otp oc : Obj} {vq : Array Value} {tq : Tok}
  (B : Below A₀ base outer h₀) (F : Fr h₀ L s.heap m) (X : (Mine.hd.heap_39 w.params).In h₀) (N : News h₀ L s.heap led) (h1 : (c', oc) ∈ led) (h2 : (64, LamTab c') ∈ led) (h3 : (tp, otp) ∈ led) (h4 : ∀ p ∈ led, @LE.le Nat _ p.1 tp) (hoc : oc.data = .fields vq) (hq : vq[1]? = some (.str QLam tq)) (T : Top p loose mean mg mb h₀) (C : CodeHd base 68 64)
  (hdp : dp + 20 < recursionLimit) (hun : un + 300 < cLine) (hwl : marks.length < 100) (hs : sign = ⟨#[c]⟩) (hc : c = 48 ∨ c = 49) (hk0 : 0 ≤ many) (hk : many < 12)
  (hret : ∀ (r : Int) (t : Tok) (h' : Heap) (tk' : Nat), 0 ≤ r → r ≤ (marks.length : Int) + 1 → LpP marks c many.toNat r r →
    Fr h₀ L h' m → News h₀ L h' led → Q (.int r t) {s with heap := h', toks := tk'}) :
  wpAny (model PySem.Challenge.rw_pg0186_01.row.prog w) (ktrTop dp un gd cn {kind := .function, names := nm, isGenerator := ig, isCoroutine := ic, more := mo} L a ccd cl outer) (call (.ref 69) [.str marks tm, .str sign ts, .int many tk]) Q E s := by
  subst hs
  obtain ⟨k, rfl⟩ := Int.eq_ofNat_of_zero_le hk0
  refine lp_h B F X (news_add (news_add (news_add N h3) (.tail _ h2)) (.tail _ (.tail _ h1))) hoc hq T C (allLt_of_le h4) hdp hun hwl hc (by omega) (fun r t h' tk' r0 r1 hP F' N' => ?_)
  exact hret r t h' tk' r0 r1 (by rw [show ((k : Int)).toNat = k from Int.toNat_natCast k]; exact hP) F' (news_tl (news_tl (news_tl N')))
end Mine
end
/-! Lb -/
section
open PySem PySem.Spec PySem.Calls PySem.W PyProof.Rows
namespace Mine
def LbPre (marks : Str) (ds : List Int) (u : Int) : Prop := ∀ r1 r2 : Int, 0 ≤ r1 → r1 ≤ (marks.length : Int) + 1 → LpP marks 48 u.toNat r1 r1 → 0 ≤ r2 → r2 ≤ (marks.length : Int) + 1 → LpP marks 48 (u + 1).toNat r2 r2 →
  0 ≤ r1 - u ∧ r1 - u ≤ r2 - u - 1 ∧ r2 - u - 1 ≤ (ds.length : Int) ∧ SrtOn ds (r1 - u) (r2 - u - 1)
def LbOut (marks : Str) (ds : List Int) (u x r : Int) : Prop := ∃ r1 r2 : Int, 0 ≤ r1 ∧ r1 ≤ (marks.length : Int) + 1 ∧ LpP marks 48 u.toNat r1 r1 ∧ 0 ≤ r2 ∧ r2 ≤ (marks.length : Int) + 1 ∧ LpP marks 48 (u + 1).toNat r2 r2 ∧ r1 - u ≤ r ∧ r ≤ r2 - u - 1 ∧ BlP ds x (r1 - u) (r2 - u - 1) r r
theorem lb_out {marks : Str} {ds : List Int} {u x r1 r2 r : Int} (h5 : BlP ds x (r1 - u) (r2 - u - 1) r r) (h2 : LpP marks 48 (u + 1).toNat r2 r2) (h1 : LpP marks 48 u.toNat r1 r1) (a1 : 0 ≤ r1) (b1 : r1 ≤ (marks.length : Int) + 1) (a2 : 0 ≤ r2) (b2 : r2 ≤ (marks.length : Int) + 1) (h3 : r1 - u ≤ r) (h4 : r ≤ r2 - u - 1) : LbOut marks ds u x r :=
  ⟨r1, r2, a1, b1, h1, a2, b2, h2, h3, h4, h5⟩
theorem lb_all {marks : Str} {ds : List Int} {u r1 r2 : Int} (h : LbPre marks ds u) (h2 : LpP marks 48 (u + 1).toNat r2 r2) (h1 : LpP marks 48 u.toNat r1 r1) (a1 : 0 ≤ r1) (b1 : r1 ≤ (marks.length : Int) + 1) (a2 : 0 ≤ r2) (b2 : r2 ≤ (marks.length : Int) + 1) :
    0 ≤ r1 - u ∧ r1 - u ≤ r2 - u - 1 ∧ r2 - u - 1 ≤ (ds.length : Int) ∧ SrtOn ds (r1 - u) (r2 - u - 1) := h r1 r2 a1 b1 h1 a2 b2 h2
set_option maxRecDepth 100000 in
set_option maxHeartbeats 8000000 in
theorem lb_c {w : World} {dp un : Nat} {gd : Option (List Code)} {cn : Str} {nm : List (Str × NameKind)} {ig ic : Bool} {mo : List (Str × Const)} {a : Addr} {ccd : Value} {cl : List (Str × Addr)} {outer : List Env} {A₀ : Around} {base h₀ : Heap} {L : Addr} {m : Str → Option Value} {s : Shared} {Q E : Value → Shared → Prop}
  {p : Program} {loose : List Str} {mean : ExcName → Option Value} {mg mb : Str → Option Value} {led : List (Addr × Obj)} {marks : Str} {wd bd : Int} {tm tw tb : Tok} {tp c' D : Addr} {otp oc : Obj} {vq : Array Value} {tq : Tok} {vs : List Value} {ds : List Int} {n : Nat}
  (B : Below A₀ base outer h₀) (F : Fr h₀ L s.heap m) (X : (Mine.hd.heap_39 w.params).In h₀) (N : News h₀ L s.heap led) (h1 : (c', oc) ∈ led) (h2 : (64, LamTab c') ∈ led) (h3 : (tp, otp) ∈ led) (h4 : ∀ p ∈ led, @LE.le Nat _ p.1 tp) (hoc : oc.data = .fields vq) (hq : vq[1]? = some (.str QLam tq)) (T : Top p loose mean mg mb h₀) (C : CodeHd base 68 64)
  (hD : (D, listOf vs.toArray n) ∈ led) (hi : IntsAre vs ds) (hlen : ds.length = 5)
  (hdp : dp + 30 < recursionLimit) (hun : un + 400 < cLine) (hwl : marks.length < 100) (hw0 : 1 ≤ wd) (hw1 : wd ≤ 3) (hb0 : 0 ≤ bd) (hb1 : bd < 60)
  (hu0 : 0 ≤ bd.fdiv (2 ^ wd.toNat)) (hu1 : bd.fdiv (2 ^ wd.toNat) + 1 < 12) (hM : LbPre marks ds (bd.fdiv (2 ^ wd.toNat)))
  (hret : ∀ (r : Int) (t : Tok) (h' : Heap) (tk' : Nat), LbOut marks ds (bd.fdiv (2 ^ wd.toNat)) (bd.fmod (2 ^ wd.toNat)) r →
    Fr h₀ L h' m → News h₀ L h' led → Q (.int r t) {s with heap := h', toks := tk'}) :
  wpAny (model PySem.Challenge.rw_pg0186_01.row.prog w) (ktrTop dp un gd cn {kind := .function, names := nm, isGenerator := ig, isCoroutine := ic, more := mo} L a ccd cl outer) (call (.ref 76) [.str marks tm, .ref D, .int wd tw, .int bd tb]) Q E s := by
  revert X; k_fill; intro X
  k_with_none
  w_on
  (k_with "call ref" => (k_here; (with_reducible show wpAny _ _ (call (Value.ref 69) [Value.str _ _, Value.str _ _, Value.int _ _]) _ _ _); k_dflt (refine' lp_hit (c := 48) ?B ?F ?X ?N ?h1 ?h2 ?h3 ?h4 ?hoc ?hq ?T ?C ?hdp ?hun ?hwl ?hs ?hc ?hk0 ?hk ?_; (case B => k_asm); (case F => k_asm); (case X => k_asm); (case N => k_asm); (case h2 => assumption); (case h1 => assumption); (case h4 => assumption); (case h3 => assumption); (case hoc => assumption); (case hq => assumption); (case T => k_asm); (case C => assumption); (case hdp => ktr_room); (case hun => ktr_units); (case hwl => assumption); (case hs => rfl); (case hc => exact Or.inl rfl); (case hk0 => omega); (case hk => omega); k_whole); intro r' t' h' tk' r0' r1' rP' F' N'))
  (k_with "call ref" => (k_here; (with_reducible show wpAny _ _ (call (Value.ref 62) [Value.ref _, Value.int _ _, Value.int _ _, Value.int _ _]) _ _ _); k_dflt (have hAll := (lb_all (by assumption) (by assumption) (by assumption) (by assumption) (by assumption) (by assumption) (by assumption)); refine' bl_c ?B ?F ?X ?N ?T ?hi ?hlen ?ha ?hb ?hc ?hsrt ?hdp ?hun ?_; (case B => k_asm); (case F => k_asm); (case X => k_asm); (case N => exact news_add (by k_asm) (by assumption)); (case T => k_asm); (case hi => assumption); (case hlen => omega); (case ha => exact hAll.1); (case hb => exact hAll.2.1); (case hc => exact hAll.2.2.1); (case hsrt => exact hAll.2.2.2); (case hdp => ktr_room); (case hun => ktr_units); k_whole); intro r' t' h' tk' r0' r1' rP' F' N'; (replace N' := news_tl N')))
  w_strict (k_steps; (all_goals exact hret _ _ _ _ (lb_out (by assumption) (by assumption) (by assumption) (by assumption) (by assumption) (by assumption) (by assumption) (by assumption) (by assumption)) (by assumption) (by assumption)))
end Mine
end
/-! InP -/
section
open PySem PySem.Spec PySem.Calls PySem.W PyProof.Rows
namespace Mine
/-- the j-th digit of x to the base 2 ^ nd -/
def dig (nd x : Int) (j : Nat) : Int := (x / 2 ^ (j * nd.toNat)) % 2 ^ nd.toNat
def DigSet (nd : Int) (ns : List Int) (x l r : Int) (ns' : List Int) : Prop :=
  ns'.length = ns.length ∧ ∀ i : Nat, ns'.getD i 0 = if l ≤ (i : Int) ∧ (i : Int) < r then dig nd x (i - l.toNat) else ns.getD i 0
theorem pow2_pos (k : Nat) : (0 : Int) < 2 ^ k := Int.pow_pos (by decide)
theorem dig_lo {nd x : Int} {s j : Nat} (hx : 0 ≤ x) (hj : j * nd.toNat + nd.toNat ≤ s) : dig nd (x % 2 ^ s) j = dig nd x j := by
  obtain ⟨n, rfl⟩ := Int.eq_ofNat_of_zero_le hx
  unfold dig
  generalize nd.toNat = d at *
  have e1 : ((2 : Int) ^ s) = ((2 ^ s : Nat) : Int) := by simp
  have e2 : ((2 : Int) ^ (j * d)) = ((2 ^ (j * d) : Nat) : Int) := by simp
  have e3 : ((2 : Int) ^ d) = ((2 ^ d : Nat) : Int) := by simp
  rw [e1, e2, e3, ← Int.natCast_emod, ← Int.natCast_ediv, ← Int.natCast_emod, ← Int.natCast_ediv, ← Int.natCast_emod]
  congr 1
  apply Nat.eq_of_testBit_eq
  intro i
  rw [Nat.testBit_mod_two_pow, Nat.testBit_mod_two_pow]
  by_cases hi : i < d
  · simp only [hi, decide_true, Bool.true_and]
    rw [Nat.testBit_div_two_pow, Nat.testBit_div_two_pow, Nat.testBit_mod_two_pow]
    have : j * d + i < s := by omega
    simp only [Nat.add_comm i, this, decide_true, Bool.true_and]
  · simp only [hi, decide_false, Bool.false_and]
theorem dig_hi {nd x : Int} {m j : Nat} (hx : 0 ≤ x) : dig nd (x / 2 ^ (m * nd.toNat)) j = dig nd x (m + j) := by
  unfold dig
  rw [Int.ediv_ediv_of_nonneg (Int.le_of_lt (pow2_pos _)), ← Int.pow_add, Nat.add_mul]
theorem dig_one {nd x : Int} (hx : 0 ≤ x) (h : x < 2 ^ nd.toNat) : dig nd x 0 = x := by
  unfold dig
  rw [Nat.zero_mul, Int.pow_zero, Int.ediv_one]
  exact Int.emod_eq_of_lt hx h
theorem dig_out {nd x : Int} {j : Nat} (hx : 0 ≤ x) (h : x < 2 ^ (j * nd.toNat)) : dig nd x j = 0 := by
  unfold dig
  rw [Int.ediv_eq_zero_of_lt hx h]
  simp
theorem leaf_set {nd : Int} {ns : List Int} {x l r : Int} (h0 : 0 ≤ l) (h1 : l + 1 = r) (h2 : r ≤ (ns.length : Int)) (hx : 0 ≤ x) (hx1 : x < 2 ^ ((r - l) * nd).toNat) : DigSet nd ns x l r (ns.set l.toNat x) := by
  have e : (r - l) * nd = nd := by rw [show r - l = 1 by omega, Int.one_mul]
  rw [e] at hx1
  refine ⟨List.length_set .., fun i => ?_⟩
  rw [List.getD_eq_getElem?_getD, List.getElem?_set]
  by_cases hi : l.toNat = i
  · rw [if_pos hi, if_pos (by omega), if_pos (by omega)]
    rw [show i - l.toNat = 0 by omega, dig_one hx hx1]; rfl
  · rw [if_neg hi, if_neg (by omega), List.getD_eq_getElem?_getD]
theorem mul_toNat {p nd : Int} (h0 : 0 ≤ p) (h1 : 0 ≤ nd) : (p * nd).toNat = p.toNat * nd.toNat := by
  obtain ⟨a, rfl⟩ := Int.eq_ofNat_of_zero_le h0
  obtain ⟨b, rfl⟩ := Int.eq_ofNat_of_zero_le h1
  simp only [← Int.natCast_mul, Int.toNat_natCast]
theorem node_set {nd : Int} {ns ns1 ns2 : List Int} {x l m r sh up lw : Int} (hnd : 1 ≤ nd) (h0 : 0 ≤ l) (hlm : l < m) (hmr : m < r) (hx : 0 ≤ x) (hsh : sh = (m - l) * nd) (hup : up = x / 2 ^ sh.toNat) (hlw : lw = x % 2 ^ sh.toNat)
    (d1 : DigSet nd ns lw l m ns1) (d2 : DigSet nd ns1 up m r ns2) : DigSet nd ns x l r ns2 := by
  have es : sh.toNat = (m - l).toNat * nd.toNat := by rw [hsh]; exact mul_toNat (by omega) (by omega)
  refine ⟨d2.1.trans d1.1, fun i => ?_⟩
  rw [d2.2 i]
  by_cases h1 : m ≤ (i : Int) ∧ (i : Int) < r
  · rw [if_pos h1, if_pos (by omega), hup, es, dig_hi hx]
    congr 1
    omega
  · rw [if_neg h1, d1.2 i]
    by_cases h2 : l ≤ (i : Int) ∧ (i : Int) < m
    · rw [if_pos h2, if_pos (by omega), hlw]
      refine dig_lo hx ?_
      rw [es, ← Nat.succ_mul]
      exact Nat.mul_le_mul_right _ (by omega)
    · rw [if_neg h2, if_neg (by omega)]
theorem up_lt {nd x l m r sh : Int} (hnd : 1 ≤ nd) (hlm : l < m) (hmr : m < r) (hx : 0 ≤ x) (hx1 : x < 2 ^ ((r - l) * nd).toNat) (hsh : sh = (m - l) * nd) : x / 2 ^ sh.toNat < 2 ^ ((r - m) * nd).toNat := by
  apply Int.ediv_lt_of_lt_mul (pow2_pos _)
  rw [← Int.pow_add]
  have : ((r - l) * nd).toNat = ((r - m) * nd).toNat + sh.toNat := by
    rw [hsh, mul_toNat (by omega) (by omega), mul_toNat (by omega) (by omega), mul_toNat (by omega) (by omega), ← Nat.add_mul]
    congr 1
    omega
  rw [← this]; exact hx1
theorem lw_lt {nd x l m sh : Int} (hsh : sh = (m - l) * nd) : x % 2 ^ sh.toNat < 2 ^ ((m - l) * nd).toNat := by
  rw [hsh]
  exact Int.emod_lt_of_pos _ (pow2_pos _)
theorem xor_low {x : Int} {k : Nat} (hx : 0 ≤ x) : Builtin.bitXor x (x / 2 ^ k * 2 ^ k) = x % 2 ^ k := by
  obtain ⟨n, rfl⟩ := Int.eq_ofNat_of_zero_le hx
  have e1 : ((2 : Int) ^ k) = ((2 ^ k : Nat) : Int) := by simp
  rw [e1, ← Int.natCast_ediv, ← Int.natCast_mul]
  unfold Builtin.bitXor
  rw [bitOr_and, bitAnd_pp (by omega) (by omega), Int.toNat_natCast, Int.toNat_natCast]
  have e2 : n &&& (n / 2 ^ k * 2 ^ k) = n / 2 ^ k * 2 ^ k := by
    apply Nat.eq_of_testBit_eq
    intro i
    rw [Nat.testBit_and, Nat.testBit_mul_two_pow]
    by_cases hi : k ≤ i
    · rw [Nat.testBit_div_two_pow]
      simp only [hi, decide_true, Bool.true_and]
      rw [show i - k + k = i by omega]
      simp
    · simp [hi]
  rw [e2]
  have e3 := Nat.div_add_mod n (2 ^ k)
  have e4 : n / 2 ^ k * 2 ^ k = 2 ^ k * (n / 2 ^ k) := Nat.mul_comm _ _
  rw [← Int.natCast_emod]
  omega
section
variable {prog : Program} {w : World} {A : Around} {E : Value → Shared → Prop} {s : Shared} {t u : Tok} {Q : Value → Shared → Prop}
theorem in_half {x : Int} (h : ∀ q, 2 * q ≤ x → x < 2 * q + 2 → Q (.int q s.toks) { s with toks := s.toks + 1 }) : wpAny (model prog w) A (binaryOp .RShift (.int x t) (.int 1 u)) Q E s :=
  rshift_int (by decide) (by
    have e : (2 : Int) ^ (1 : Int).toNat = 2 := rfl
    rw [e]
    have := mid_eq x
    exact h _ (by rw [this]; omega) (by rw [this]; omega))
theorem in_shr {x sh : Int} (hx : 0 ≤ x) (h0 : 0 ≤ sh) (h : ∀ up, up = x / 2 ^ sh.toNat → 0 ≤ up → up ≤ x → Q (.int up s.toks) { s with toks := s.toks + 1 }) : wpAny (model prog w) A (binaryOp .RShift (.int x t) (.int sh u)) Q E s := by
  refine rshift_int h0 ?_
  rw [Int.fdiv_eq_ediv_of_nonneg _ (Int.le_of_lt (pow2_pos _))]
  exact h _ rfl (Int.ediv_nonneg hx (Int.le_of_lt (pow2_pos _))) (Int.ediv_le_self _ hx)
theorem in_shl {x up sh : Int} (hup : up = x / 2 ^ sh.toNat) (hx : 0 ≤ x) (hx2 : x < 32768) (h0 : 0 ≤ sh) (h1 : sh ≤ 20) (hu0 : 0 ≤ up) (hu1 : up ≤ x) (h : ∀ z, z = x / 2 ^ sh.toNat * 2 ^ sh.toNat → Q (.int z s.toks) { s with toks := s.toks + 1 }) : wpAny (model prog w) A (binaryOp .LShift (.int up t) (.int sh u)) Q E s :=
  lshift_int_small h0 (by omega) (by omega) (h _ (by rw [hup]))
theorem in_xor {x z sh : Int} (hz : z = x / 2 ^ sh.toNat * 2 ^ sh.toNat) (hx : 0 ≤ x) (h : ∀ lw, lw = x % 2 ^ sh.toNat → 0 ≤ lw → lw ≤ x → Q (.int lw s.toks) { s with toks := s.toks + 1 }) : wpAny (model prog w) A (binaryOp .BitXor (.int x t) (.int z u)) Q E s := by
  refine xor_int ?_
  rw [hz, xor_low hx]
  refine h _ rfl (Int.emod_nonneg _ (Int.ne_of_gt (pow2_pos _))) ?_
  obtain ⟨n, rfl⟩ := Int.eq_ofNat_of_zero_le hx
  have e1 : ((2 : Int) ^ sh.toNat) = ((2 ^ sh.toNat : Nat) : Int) := by simp
  rw [e1, ← Int.natCast_emod]
  exact Int.ofNat_le.mpr (Nat.mod_le _ _)
theorem in_mul {p nd : Int} (hp0 : 1 ≤ p) (hp1 : p ≤ 5) (hn0 : 1 ≤ nd) (hn1 : nd ≤ 3) (h : ∀ sh, sh = p * nd → 1 ≤ sh → sh ≤ 15 → Q (.int sh s.toks) { s with toks := s.toks + 1 }) : wpAny (model prog w) A (binaryOp .Mult (.int p t) (.int nd u)) Q E s := by
  have hb : 1 ≤ p * nd ∧ p * nd ≤ 15 := by
    have hn : nd = 1 ∨ nd = 2 ∨ nd = 3 := by omega
    rcases hn with rfl | rfl | rfl <;> omega
  exact mul_int (h _ rfl hb.1 hb.2) (by exact PySem.IntMulOk.of_left (PySem.intBits_le_64 (by omega) (by omega)))
end

/-- what is owed when the closure comes back -/
def InRet (h₀ : Heap) (L : Addr) (m : Str → Option Value) (g : Obj → List (Addr × Obj)) (nd : Int) (N0 : Nat) (ns : List Int) (x l r : Int) (s : Shared) (Q : Value → Shared → Prop) : Prop :=
  ∀ (vs' : List Value) (ns' : List Int) (n' : Nat) (h' : Heap) (tk' : Nat), IntsAre vs' ns' → ns'.length = N0 → DigSet nd ns x l r ns' → Fr h₀ L h' m → News h₀ L h' (g (listOf vs'.toArray n')) → Q .none { s with heap := h', toks := tk' }
/-- what a call of the closure does: the digits of x are set from l to r -/
def InStep (prog : Program) (w : World) (K : Frag) (p : Program) (loose : List Str) (mean : ExcName → Option Value) (mg mb : Str → Option Value) (f : Addr) (g : Obj → List (Addr × Obj)) (nd : Int) (N0 J : Nat) : Prop :=
  ∀ (dp un : Nat) (gd : Option (List Code)) (cn : Str) (nm : List (Str × NameKind)) (ig ic : Bool) (mo : List (Str × Const)) (a : Addr) (ccd : Value) (cl : List (Str × Addr)) (outer : List Env) (A₀ : Around) (base h₀ : Heap) (L : Addr) (m : Str → Option Value) (s : Shared) (Q E : Value → Shared → Prop)
    (vs : List Value) (ns : List Int) (n : Nat) (x l r : Int) (tx tl tr : Tok),
    Below A₀ base outer h₀ → Fr h₀ L s.heap m → K.In h₀ → News h₀ L s.heap (g (listOf vs.toArray n)) → Top p loose mean mg mb h₀ → IntsAre vs ns → ns.length = N0 → 0 ≤ l → l < r → r ≤ (N0 : Int) → r - l < (J : Int) → 0 ≤ x → x < 2 ^ ((r - l) * nd).toNat → x < 32768 →
    dp + 2 * J + 20 < recursionLimit → un + 40 * J + 100 < cLine →
    InRet h₀ L m g nd N0 ns x l r s Q →
    wpAny (model prog w) (ktrTop dp un gd cn { kind := .function, names := nm, isGenerator := ig, isCoroutine := ic, more := mo } L a ccd cl outer) (call (.ref f) [.int x tx, .int l tl, .int r tr]) Q E s
section
variable {prog : Program} {w : World} {K : Frag} {p : Program} {loose : List Str} {mean : ExcName → Option Value} {mg mb : Str → Option Value} {f : Addr} {g : Obj → List (Addr × Obj)} {nd : Int} {N0 : Nat}
theorem in_rec (step : ∀ J, InStep prog w K p loose mean mg mb f g nd N0 J → InStep prog w K p loose mean mg mb f g nd N0 (J + 1)) : ∀ J, InStep prog w K p loose mean mg mb f g nd N0 J
  | 0 => fun _ _ _ _ _ _ _ _ _ _ _ _ _ _ _ _ _ _ _ _ _ _ _ _ _ _ _ _ _ _ _ _ _ _ _ _ h1 _ h2 _ _ _ _ _ _ => absurd h2 (by omega)
  | J + 1 => step J (in_rec step J)
theorem in_use {J : Nat} (ih : InStep prog w K p loose mean mg mb f g nd N0 J) {dp un : Nat} {gd : Option (List Code)} {cn : Str} {nm : List (Str × NameKind)} {ig ic : Bool} {mo : List (Str × Const)} {a : Addr} {ccd : Value} {cl : List (Str × Addr)} {outer : List Env} {A₀ : Around} {base h₀ : Heap} {L : Addr} {m : Str → Option Value} {s : Shared} {Q E : Value → Shared → Prop}
    {vs : List Value} {ns : List Int} {n : Nat} {x l r : Int} {tx tl tr : Tok}
    (B : Below A₀ base outer h₀) (F : Fr h₀ L s.heap m) (X : K.In h₀) (T : Top p loose mean mg mb h₀) (hi : IntsAre vs ns) (N : News h₀ L s.heap (g (listOf vs.toArray n))) (hl : ns.length = N0) (h0 : 0 ≤ l) (h1 : l < r) (h2 : r ≤ (N0 : Int)) (hJ : r - l < (J : Int)) (hx : 0 ≤ x) (hx1 : x < 2 ^ ((r - l) * nd).toNat) (hx2 : x < 32768)
    (hd : dp + 2 * J + 20 < recursionLimit) (hu : un + 40 * J + 100 < cLine)
    (hret : ∀ (vs' : List Value) (ns' : List Int) (n' : Nat) (h' : Heap) (tk' : Nat), IntsAre vs' ns' → ns'.length = N0 → DigSet nd ns x l r ns' → Fr h₀ L h' m → News h₀ L h' (g (listOf vs'.toArray n')) → Q .none { s with heap := h', toks := tk' }) :
    wpAny (model prog w) (ktrTop dp un gd cn { kind := .function, names := nm, isGenerator := ig, isCoroutine := ic, more := mo } L a ccd cl outer) (call (.ref f) [.int x tx, .int l tl, .int r tr]) Q E s :=
  ih _ _ _ _ _ _ _ _ _ _ _ _ _ _ _ _ _ _ _ _ _ _ _ _ _ _ _ _ _ B F X N T hi hl h0 h1 h2 hJ hx hx1 hx2 hd hu hret
theorem in_first {D : Addr} {news : List (Addr × Obj)} {dp un : Nat} {gd : Option (List Code)} {cn : Str} {nm : List (Str × NameKind)} {ig ic : Bool} {mo : List (Str × Const)} {a : Addr} {ccd : Value} {cl : List (Str × Addr)} {outer : List Env} {A₀ : Around} {base h₀ : Heap} {L : Addr} {m : Str → Option Value} {s : Shared} {Q E : Value → Shared → Prop}
    {vs : List Value} {ns : List Int} {n : Nat} {x l r : Int} {tx tl tr : Tok}
    (B : Below A₀ base outer h₀) (F : Fr h₀ L s.heap m) (X : K.In h₀) (T : Top p loose mean mg mb h₀) (hi : IntsAre vs ns) (N : News h₀ L s.heap news) (_hm : (D, listOf vs.toArray n) ∈ news) (U : UpdF D (listOf vs.toArray n) news g) (hl : ns.length = N0) (h0 : 0 ≤ l) (h1 : l < r) (h2 : r ≤ (N0 : Int)) (hJ : r - l < 6) (hx : 0 ≤ x) (hx1 : x < 2 ^ ((r - l) * nd).toNat) (hx2 : x < 32768)
    (hd : dp + 32 < recursionLimit) (hu : un + 340 < cLine)
    (step : ∀ J, InStep prog w K p loose mean mg mb f g nd N0 J → InStep prog w K p loose mean mg mb f g nd N0 (J + 1))
    (hret : ∀ (vs' : List Value) (ns' : List Int) (n' : Nat) (h' : Heap) (tk' : Nat), IntsAre vs' ns' → ns'.length = N0 → DigSet nd ns x l r ns' → Fr h₀ L h' m → News h₀ L h' (g (listOf vs'.toArray n')) → Q .none { s with heap := h', toks := tk' }) :
    wpAny (model prog w) (ktrTop dp un gd cn { kind := .function, names := nm, isGenerator := ig, isCoroutine := ic, more := mo } L a ccd cl outer) (call (.ref f) [.int x tx, .int l tl, .int r tr]) Q E s := by
  have e : g (listOf vs.toArray n) = news := by
    obtain ⟨pre, post, e1, e2, _⟩ := U.split
    rw [e2, e1]
  exact in_use (in_rec step 6) B F X T hi (by rw [e]; exact N) hl h0 h1 h2 hJ hx hx1 hx2 (by omega) (by omega) hret
end

section
variable {h₀ h' : Heap} {L : Addr} {m : Str → Option Value} {g : Obj → List (Addr × Obj)} {nd : Int} {N0 n' tk' : Nat} {ns ns1 ns2 : List Int} {x l mid r sh up lw : Int} {s : Shared} {Q : Value → Shared → Prop} {vs' : List Value}
theorem in_leafQ (hR : InRet h₀ L m g nd N0 ns x l r s Q) (F : Fr h₀ L h' m) (N : News h₀ L h' (g (listOf vs'.toArray n'))) (hi : IntsAre vs' (ns.set l.toNat x)) (hl : ns.length = N0) (h0 : 0 ≤ l) (h1 : l + 1 = r) (h2 : r ≤ (N0 : Int)) (hx : 0 ≤ x) (hx1 : x < 2 ^ ((r - l) * nd).toNat) :
    Q .none { s with heap := h', toks := tk' } :=
  hR _ _ _ _ _ hi (by rw [List.length_set, hl]) (leaf_set h0 h1 (by rw [hl]; exact h2) hx hx1) F N
theorem in_nodeQ (hR : InRet h₀ L m g nd N0 ns x l r s Q) (F : Fr h₀ L h' m) (N : News h₀ L h' (g (listOf vs'.toArray n'))) (d2 : DigSet nd ns1 up mid r ns2) (d1 : DigSet nd ns lw l mid ns1) (hi : IntsAre vs' ns2) (hl : ns2.length = N0) (hsh : sh = (mid - l) * nd) (hup : up = x / 2 ^ sh.toNat) (hlw : lw = x % 2 ^ sh.toNat)
    (hnd : 1 ≤ nd) (h0 : 0 ≤ l) (hlm : l < mid) (hmr : mid < r) (hx : 0 ≤ x) : Q .none { s with heap := h', toks := tk' } :=
  hR _ _ _ _ _ hi hl (node_set hnd h0 hlm hmr hx hsh hup hlw d1 d2) F N
theorem in_lw (hlw : lw = x % 2 ^ sh.toNat) (hsh : sh = (mid - l) * nd) : lw < 2 ^ ((mid - l) * nd).toNat := by rw [hlw]; exact lw_lt hsh
theorem in_up (hup : up = x / 2 ^ sh.toNat) (hsh : sh = (mid - l) * nd) (hx1 : x < 2 ^ ((r - l) * nd).toNat) (hnd : 1 ≤ nd) (hlm : l < mid) (hmr : mid < r) (hx : 0 ≤ x) : up < 2 ^ ((r - mid) * nd).toNat := by rw [hup]; exact up_lt hnd hlm hmr hx hx1 hsh
end
def OutDig (nd pk : Int) (ns : List Int) : Prop := ns.length ≤ 5 ∧ ∀ i : Nat, ns.getD i 0 = dig nd pk i
structure InK (nd pk : Int) (ns : List Int) : Prop where
  len : ns.length ≤ 5
  lt : pk < 2 ^ (((ns.length : Int) - 0) * nd).toNat
  pos : pk ≠ 0 → 0 < (ns.length : Int)
  zero : ∀ i : Nat, ns.getD i 0 = 0
theorem out_zero {nd pk : Int} {ns : List Int} (h : InK nd pk ns) (he : pk = 0) : OutDig nd pk ns := by
  subst he
  exact ⟨h.len, fun i => by rw [h.zero i]; unfold dig; simp⟩
theorem out_set {nd pk : Int} {ns ns' : List Int} (hnd : 1 ≤ nd) (h0 : 0 ≤ pk) (h : InK nd pk ns) (d : DigSet nd ns pk 0 (ns.length : Int) ns') : OutDig nd pk ns' := by
  refine ⟨by rw [d.1]; exact h.len, fun i => ?_⟩
  rw [d.2 i]
  by_cases hi : 0 ≤ (i : Int) ∧ (i : Int) < (ns.length : Int)
  · rw [if_pos hi]; rfl
  · rw [if_neg hi, h.zero i]
    symm
    refine dig_out h0 ?_
    have hlt := h.lt
    rw [mul_toNat (by omega) (by omega)] at hlt
    refine Int.lt_of_lt_of_le hlt ?_
    have e1 : ∀ k : Nat, ((2 : Int) ^ k) = ((2 ^ k : Nat) : Int) := fun k => by simp
    rw [e1, e1]
    exact Int.ofNat_le.mpr (Nat.pow_le_pow_right (by decide) (Nat.mul_le_mul_right _ (by omega)))
theorem inK_of {nd pk : Int} (h0 : 0 ≤ pk) (h1 : pk < 2 ^ (5 * nd).toNat) (hn0 : 1 ≤ nd) (hn1 : nd ≤ 3) : InK nd pk (List.replicate ((((Builtin.Int.intBits pk : Nat) : Int) + nd - 1).fdiv nd).toNat 0) := by
  have hb1 := natAbs_lt_pow_bits pk
  have hb2 : Builtin.Int.intBits pk ≤ 5 * nd.toNat := intBits_le (by
    have e1 : ((2 : Int) ^ (5 * nd).toNat) = ((2 ^ (5 * nd).toNat : Nat) : Int) := by simp
    rw [e1] at h1
    have : (5 * nd).toNat = 5 * nd.toNat := by omega
    rw [this] at h1
    omega)
  have hb3 : pk ≠ 0 → 1 ≤ Builtin.Int.intBits pk := fun hne => by
    unfold Builtin.Int.intBits
    have hb : (pk == 0) = false := by simpa using hne
    rw [hb]; simp
  generalize Builtin.Int.intBits pk = b at *
  have hn : nd = 1 ∨ nd = 2 ∨ nd = 3 := by omega
  have hk : ∃ k : Nat, (((b : Int) + nd - 1).fdiv nd).toNat = k ∧ b ≤ k * nd.toNat ∧ k ≤ 5 ∧ (1 ≤ b → 1 ≤ k) := by
    rw [Int.fdiv_eq_ediv_of_nonneg _ (by omega)]
    refine ⟨_, rfl, ?_⟩
    rcases hn with rfl | rfl | rfl <;> (simp only [Int.reduceToNat] at hb2 ⊢; refine ⟨?_, ?_, ?_⟩ <;> omega)
  obtain ⟨k, ek, k1, k2, k3⟩ := hk
  rw [ek]
  refine ⟨by rw [List.length_replicate]; exact k2, ?_, fun hne => ?_, fun i => ?_⟩
  · rw [List.length_replicate, mul_toNat (by omega) (by omega)]
    have e2 : ((k : Int) - 0).toNat = k := by omega
    rw [e2]
    have e1 : ((2 : Int) ^ (k * nd.toNat)) = ((2 ^ (k * nd.toNat) : Nat) : Int) := by simp
    rw [e1]
    have : pk.natAbs < 2 ^ (k * nd.toNat) := Nat.lt_of_lt_of_le hb1 (Nat.pow_le_pow_right (by decide) k1)
    omega
  · rw [List.length_replicate]
    have := k3 (hb3 hne)
    omega
  · rw [List.getD_eq_getElem?_getD, List.getElem?_replicate]
    split <;> rfl
theorem flat_rep (k : Nat) : (List.replicate k [(0 : Int)]).flatten = List.replicate k 0 := by
  induction k with
  | zero => rfl
  | succ k ih => rw [List.replicate_succ, List.flatten_cons, ih]; rfl
section
variable {prog : Program} {w : World} {A : Around} {E : Value → Shared → Prop} {s : Shared} {h₀ : Heap} {L : Addr} {m : Str → Option Value} {news : List (Addr × Obj)} {t u : Tok} {Q : Value → Shared → Prop}
theorem in_rep {D0 : Addr} {n0 : Nat} {pk nd : Int} (F : Fr h₀ L s.heap m) (N : News h₀ L s.heap news) (hl : (D0, listOf [Value.int 0 t].toArray n0) ∈ news) (h0 : 0 ≤ pk) (h1 : pk < 2 ^ (5 * nd).toNat) (hn0 : 1 ≤ nd) (hn1 : nd ≤ 3)
    (h : ∀ D us c ns h', IntsAre us ns → InK nd pk ns → Fr h₀ L h' m → News h₀ L h' ((D, listOf (List.toArray us) c) :: news) → (∀ p ∈ news, p.1 < D) → Q (.ref D) { s with heap := h' }) :
    wpAny (model prog w) A (binaryOp .Mult (.ref D0) (.int ((((Builtin.Int.intBits pk : Nat) : Int) + nd - 1).fdiv nd) u)) Q E s := by
  have hK := inK_of h0 h1 hn0 hn1
  have hk5 := hK.len
  rw [List.length_replicate] at hk5
  have hge : 0 ≤ ((((Builtin.Int.intBits pk : Nat) : Int) + nd - 1).fdiv nd) := by
    rw [Int.fdiv_eq_ediv_of_nonneg _ (by omega)]
    exact Int.ediv_nonneg (by omega) (by omega)
  refine KM.mul F N (N.isList hl) (.cons 0 t .nil) (by omega) (by omega) (by simp only [List.length_cons, List.length_nil]; omega) (fun D h' F' N' hlt hi _ _ _ _ _ => ?_)
  rw [flat_rep] at hi
  exact h D _ 0 _ h' hi hK F' N' hlt
end
end Mine
end
/-! DiP -/
section
open PySem PySem.Spec PySem.Calls PySem.W PyProof.Rows
namespace Mine
theorem dp_pos (k : Nat) : (0 : Int) < 2 ^ k := Int.pow_pos (by decide)
/-- the number whose digits to the base 2 ^ nd are these, the least first -/
def DV (nd : Int) : List Int → Int
  | [] => 0
  | d :: ds => d + 2 ^ nd.toNat * DV nd ds
theorem dv_app (nd : Int) (a b : List Int) : DV nd (a ++ b) = DV nd a + 2 ^ (a.length * nd.toNat) * DV nd b := by
  induction a with
  | nil => simp [DV]
  | cons d a ih =>
    rw [List.cons_append, DV, ih, DV, Int.mul_add, Int.add_assoc, ← Int.mul_assoc, ← Int.pow_add, List.length_cons, Nat.succ_mul, Nat.add_comm nd.toNat]
theorem dv_bnd {nd : Int} {ds : List Int} (h : ∀ d ∈ ds, 0 ≤ d ∧ d < 2 ^ nd.toNat) : 0 ≤ DV nd ds ∧ DV nd ds < 2 ^ (ds.length * nd.toNat) := by
  induction ds with
  | nil => simp [DV]
  | cons d ds ih =>
    have h1 := h d (.head _)
    have h2 := ih fun x hx => h x (.tail _ hx)
    have hp := dp_pos nd.toNat
    rw [DV, List.length_cons, Nat.succ_mul, Int.pow_add, Int.mul_comm (2 ^ (ds.length * nd.toNat))]
    have h3 : 2 ^ nd.toNat * DV nd ds + 2 ^ nd.toNat ≤ 2 ^ nd.toNat * 2 ^ (ds.length * nd.toNat) := by
      have := Int.mul_le_mul_of_nonneg_left (show DV nd ds + 1 ≤ 2 ^ (ds.length * nd.toNat) from h2.2) (Int.le_of_lt hp)
      rw [Int.mul_add, Int.mul_one] at this
      exact this
    have h4 : 0 ≤ 2 ^ nd.toNat * DV nd ds := Int.mul_nonneg (Int.le_of_lt hp) h2.1
    generalize 2 ^ nd.toNat * DV nd ds = q at *
    exact ⟨by omega, by omega⟩
/-- a segment of a list -/
def seg (ds : List Int) (l r : Int) : List Int := (ds.drop l.toNat).take (r - l).toNat
theorem seg_len {ds : List Int} {l r : Int} (h0 : 0 ≤ l) (h1 : l ≤ r) (h2 : r ≤ (ds.length : Int)) : (seg ds l r).length = (r - l).toNat := by
  unfold seg
  rw [List.length_take, List.length_drop]; omega
theorem seg_one {ds : List Int} {l r : Int} (h0 : 0 ≤ l) (h1 : l + 1 = r) (h2 : r ≤ (ds.length : Int)) : seg ds l r = [ds.getD l.toNat 0] := by
  unfold seg
  have hl : l.toNat < ds.length := by omega
  rw [show (r - l).toNat = 1 by omega, List.drop_eq_getElem_cons hl, List.getD_eq_getElem?_getD, List.getElem?_eq_getElem hl]
  rfl
theorem seg_cut {ds : List Int} {l m r : Int} (h0 : 0 ≤ l) (h1 : l ≤ m) (h2 : m ≤ r) : seg ds l r = seg ds l m ++ seg ds m r := by
  unfold seg
  rw [show (r - l).toNat = (m - l).toNat + (r - m).toNat by omega, List.take_add, List.drop_drop, show l.toNat + (m - l).toNat = m.toNat by omega]
theorem seg_all (ds : List Int) {n : Int} (h : n = (ds.length : Int)) : seg ds 0 n = ds := by
  unfold seg
  rw [show (n - 0).toNat = ds.length by omega]
  simp
theorem seg_bnd {ds : List Int} {l r b : Int} (h : ∀ d ∈ ds, 0 ≤ d ∧ d < b) : ∀ d ∈ seg ds l r, 0 ≤ d ∧ d < b := fun d hd => h d (List.mem_of_mem_drop (List.mem_of_mem_take hd))
theorem dv_node {nd l m r sh : Int} {ds : List Int} (hnd : 1 ≤ nd) (h0 : 0 ≤ l) (h1 : l ≤ m) (h2 : m ≤ r) (h3 : r ≤ (ds.length : Int)) (hsh : sh = (m - l) * nd) : DV nd (seg ds m r) * 2 ^ sh.toNat + DV nd (seg ds l m) = DV nd (seg ds l r) := by
  have e : sh.toNat = (m - l).toNat * nd.toNat := by
    rw [hsh]
    obtain ⟨a, ha⟩ := Int.eq_ofNat_of_zero_le (show 0 ≤ m - l by omega)
    obtain ⟨b, hb⟩ := Int.eq_ofNat_of_zero_le (show 0 ≤ nd by omega)
    rw [ha, hb]; simp only [← Int.natCast_mul, Int.toNat_natCast]
  rw [seg_cut h0 h1 h2, dv_app, seg_len h0 h1 (by omega), e, Int.mul_comm, Int.add_comm]
theorem dv_le {nd : Int} {ds : List Int} (hn : nd ≤ 3) (hl : ds.length ≤ 5) (h : ∀ d ∈ ds, 0 ≤ d ∧ d < 2 ^ nd.toNat) : 0 ≤ DV nd ds ∧ DV nd ds < 32768 := by
  have hb := dv_bnd h
  have e1 : ∀ k : Nat, ((2 : Int) ^ k) = ((2 ^ k : Nat) : Int) := fun k => by simp
  have h3 : (2 : Int) ^ (ds.length * nd.toNat) ≤ 2 ^ 15 := by
    rw [e1, e1]
    exact Int.ofNat_le.mpr (Nat.pow_le_pow_right (by decide) (by
      have := Nat.mul_le_mul hl (show nd.toNat ≤ 3 by omega)
      omega))
  exact ⟨hb.1, Int.lt_of_lt_of_le hb.2 h3⟩
end Mine
end
/-! Di2 -/
section
open PySem PySem.Spec PySem.Calls PySem.W PyProof.Rows
namespace Mine
/-- what is owed when the closure comes back -/
def DiRet (h₀ : Heap) (L : Addr) (m : Str → Option Value) (led : List (Addr × Obj)) (nd : Int) (ds : List Int) (l r : Int) (s : Shared) (Q : Value → Shared → Prop) : Prop :=
  ∀ (v : Int) (t : Tok) (h' : Heap) (tk' : Nat), v = DV nd (seg ds l r) → Fr h₀ L h' m → News h₀ L h' led → Q (.int v t) { s with heap := h', toks := tk' }
/-- what a call of the closure does: it reads the digits from l to r -/
def DiStep (prog : Program) (w : World) (K : Frag) (p : Program) (loose : List Str) (mean : ExcName → Option Value) (mg mb : Str → Option Value) (f : Addr) (led : List (Addr × Obj)) (nd : Int) (ds : List Int) (J : Nat) : Prop :=
  ∀ (dp un : Nat) (gd : Option (List Code)) (cn : Str) (nm : List (Str × NameKind)) (ig ic : Bool) (mo : List (Str × Const)) (a : Addr) (ccd : Value) (cl : List (Str × Addr)) (outer : List Env) (A₀ : Around) (base h₀ : Heap) (L : Addr) (m : Str → Option Value) (s : Shared) (Q E : Value → Shared → Prop)
    (l r : Int) (tl tr : Tok),
    Below A₀ base outer h₀ → Fr h₀ L s.heap m → K.In h₀ → News h₀ L s.heap led → Top p loose mean mg mb h₀ → 0 ≤ l → l < r → r ≤ 5 → r - l < (J : Int) →
    dp + 2 * J + 20 < recursionLimit → un + 40 * J + 100 < cLine →
    DiRet h₀ L m led nd ds l r s Q →
    wpAny (model prog w) (ktrTop dp un gd cn { kind := .function, names := nm, isGenerator := ig, isCoroutine := ic, more := mo } L a ccd cl outer) (call (.ref f) [.int l tl, .int r tr]) Q E s
section
variable {prog : Program} {w : World} {K : Frag} {p : Program} {loose : List Str} {mean : ExcName → Option Value} {mg mb : Str → Option Value} {f : Addr} {led : List (Addr × Obj)} {nd : Int} {ds : List Int}
theorem di_rec (step : ∀ J, DiStep prog w K p loose mean mg mb f led nd ds J → DiStep prog w K p loose mean mg mb f led nd ds (J + 1)) : ∀ J, DiStep prog w K p loose mean mg mb f led nd ds J
  | 0 => fun _ _ _ _ _ _ _ _ _ _ _ _ _ _ _ _ _ _ _ _ _ _ _ _ _ _ _ _ _ _ h1 _ h2 _ _ _ => absurd h2 (by omega)
  | J + 1 => step J (di_rec step J)
theorem di_use {J : Nat} (ih : DiStep prog w K p loose mean mg mb f led nd ds J) {dp un : Nat} {gd : Option (List Code)} {cn : Str} {nm : List (Str × NameKind)} {ig ic : Bool} {mo : List (Str × Const)} {a : Addr} {ccd : Value} {cl : List (Str × Addr)} {outer : List Env} {A₀ : Around} {base h₀ : Heap} {L : Addr} {m : Str → Option Value} {s : Shared} {Q E : Value → Shared → Prop}
    {l r : Int} {tl tr : Tok}
    (B : Below A₀ base outer h₀) (F : Fr h₀ L s.heap m) (X : K.In h₀) (T : Top p loose mean mg mb h₀) (N : News h₀ L s.heap led) (h0 : 0 ≤ l) (h1 : l < r) (h2 : r ≤ 5) (hJ : r - l < (J : Int)) (hb : ∀ d ∈ ds, 0 ≤ d ∧ d < 2 ^ nd.toNat) (hn : nd ≤ 3) (hl : ds.length = 5)
    (hd : dp + 2 * J + 20 < recursionLimit) (hu : un + 40 * J + 100 < cLine)
    (hret : ∀ (v : Int) (t : Tok) (h' : Heap) (tk' : Nat), v = DV nd (seg ds l r) → 0 ≤ v → v < 32768 → Fr h₀ L h' m → News h₀ L h' led → Q (.int v t) { s with heap := h', toks := tk' }) :
    wpAny (model prog w) (ktrTop dp un gd cn { kind := .function, names := nm, isGenerator := ig, isCoroutine := ic, more := mo } L a ccd cl outer) (call (.ref f) [.int l tl, .int r tr]) Q E s :=
  ih _ _ _ _ _ _ _ _ _ _ _ _ _ _ _ _ _ _ _ _ _ _ _ _ B F X N T h0 h1 h2 hJ hd hu fun v t h' tk' hv F' N' => by
    have hbb := dv_le hn (by rw [seg_len h0 (Int.le_of_lt h1) (by rw [hl]; exact h2)]; omega) (seg_bnd (l := l) (r := r) hb)
    exact hret v t h' tk' hv (by rw [hv]; exact hbb.1) (by rw [hv]; exact hbb.2) F' N'
theorem di_first {dp un : Nat} {gd : Option (List Code)} {cn : Str} {nm : List (Str × NameKind)} {ig ic : Bool} {mo : List (Str × Const)} {a : Addr} {ccd : Value} {cl : List (Str × Addr)} {outer : List Env} {A₀ : Around} {base h₀ : Heap} {L : Addr} {m : Str → Option Value} {s : Shared} {Q E : Value → Shared → Prop}
    {l r : Int} {tl tr : Tok}
    (B : Below A₀ base outer h₀) (F : Fr h₀ L s.heap m) (X : K.In h₀) (T : Top p loose mean mg mb h₀) (N : News h₀ L s.heap led) (h0 : 0 ≤ l) (h1 : l < r) (h2 : r ≤ 5) (hb : ∀ d ∈ ds, 0 ≤ d ∧ d < 2 ^ nd.toNat) (hn : nd ≤ 3) (hl : ds.length = 5)
    (hd : dp + 32 < recursionLimit) (hu : un + 340 < cLine)
    (step : ∀ J, DiStep prog w K p loose mean mg mb f led nd ds J → DiStep prog w K p loose mean mg mb f led nd ds (J + 1))
    (hret : ∀ (v : Int) (t : Tok) (h' : Heap) (tk' : Nat), v = DV nd (seg ds l r) → 0 ≤ v → v < 32768 → Fr h₀ L h' m → News h₀ L h' led → Q (.int v t) { s with heap := h', toks := tk' }) :
    wpAny (model prog w) (ktrTop dp un gd cn { kind := .function, names := nm, isGenerator := ig, isCoroutine := ic, more := mo } L a ccd cl outer) (call (.ref f) [.int l tl, .int r tr]) Q E s :=
  di_use (di_rec step 6) B F X T N h0 h1 h2 (by omega) hb hn hl (by omega) (by omega) hret
end
section
variable {prog : Program} {w : World} {A : Around} {E : Value → Shared → Prop} {s : Shared} {h₀ : Heap} {L : Addr} {m : Str → Option Value} {news : List (Addr × Obj)} {t u : Tok} {Q : Value → Shared → Prop}
theorem di_item {value slice : PySem.Expr} {c : Addr} {vs : List Value} {ds : List Int} {n : Nat} {l r : Int} (N : News h₀ L s.heap news) (hm : (c, listOf vs.toArray n) ∈ news) (hi : IntsAre vs ds) (hl : ds.length = 5) (h0 : 0 ≤ l) (h1 : l + 1 = r) (h2 : r ≤ 5) (h : ∀ t', Q (.int (ds.getD l.toNat 0) t') s)
    (hs : subscripted slice false (.ref c) (.int l u) = operate [.ref c, .int l u] (getItem (.ref c) (.int l u)) := by with_unfolding_all rfl) :
    wpAny (model prog w) A (subscriptTail value slice (.ref c) (.int l u)) Q E s := by
  have hh : l.toNat < ds.length := by omega
  obtain ⟨t, hx⟩ := hi.get l.toNat (ds[l.toNat]'hh) (List.getElem?_eq_getElem hh)
  have e2 : ds.getD l.toNat 0 = ds[l.toNat]'hh := by rw [List.getD_eq_getElem?_getD, List.getElem?_eq_getElem hh]; rfl
  exact tail_any (N.isList hm).typeIs slot_list_getitem.lookup (wpAny_getItem_list (N.isList hm) h0 (by omega) (by simpa using hx) (by rw [← e2]; exact h t)) hs
theorem di_lsh {x k : Int} (hx : 0 ≤ x) (hx2 : x < 32768) (h0 : 1 ≤ k) (h1 : k ≤ 15) (h : ∀ y, y = x * 2 ^ k.toNat → Q (.int y s.toks) { s with toks := s.toks + 1 }) : wpAny (model prog w) A (binaryOp .LShift (.int x t) (.int k u)) Q E s :=
  lshift_int_small (by omega) (by omega) (by omega) (h _ rfl)
end
theorem di_leafv {nd l r : Int} {ds : List Int} (hl : ds.length = 5) (h0 : 0 ≤ l) (h1 : l + 1 = r) (h2 : r ≤ 5) : ds.getD l.toNat 0 = DV nd (seg ds l r) := by
  rw [seg_one h0 h1 (by rw [hl]; exact h2)]; simp [DV]
theorem di_nodev {nd l m r sh y v1 v2 : Int} {ds : List Int} (hl : ds.length = 5) (hnd : 1 ≤ nd) (h0 : 0 ≤ l) (h1 : l < m) (h2 : m < r) (h3 : r ≤ 5) (hsh : sh = (m - l) * nd) (hy : y = v1 * 2 ^ sh.toNat) (e1 : v1 = DV nd (seg ds m r)) (e2 : v2 = DV nd (seg ds l m)) : y + v2 = DV nd (seg ds l r) := by
  rw [hy, e1, e2]
  exact dv_node hnd h0 (Int.le_of_lt h1) (Int.le_of_lt h2) (by rw [hl]; exact h3) hsh
section
variable {h₀ h' : Heap} {L : Addr} {m : Str → Option Value} {led : List (Addr × Obj)} {nd : Int} {tk' : Nat} {t : Tok} {ds : List Int} {l mid r sh y v1 v2 : Int} {s : Shared} {Q : Value → Shared → Prop}
theorem di_leafQ (hR : DiRet h₀ L m led nd ds l r s Q) (F : Fr h₀ L h' m) (N : News h₀ L h' led) (hl : ds.length = 5) (h0 : 0 ≤ l) (h1 : l + 1 = r) (h2 : r ≤ 5) : Q (.int (ds.getD l.toNat 0) t) { s with heap := h', toks := tk' } :=
  hR _ t h' tk' (di_leafv hl h0 h1 h2) F N
theorem di_nodeQ (hR : DiRet h₀ L m led nd ds l r s Q) (F : Fr h₀ L h' m) (N : News h₀ L h' led) (e2 : v2 = DV nd (seg ds l mid)) (e1 : v1 = DV nd (seg ds mid r)) (hsh : sh = (mid - l) * nd) (hy : y = v1 * 2 ^ sh.toNat) (hl : ds.length = 5) (hnd : 1 ≤ nd) (h0 : 0 ≤ l) (h2 : r ≤ 5) (h1 : l < mid) (h3 : mid < r) : Q (.int (y + v2) t) { s with heap := h', toks := tk' } :=
  hR _ t h' tk' (di_nodev hl hnd h0 h1 h3 h2 hsh hy e1 e2) F N
end
theorem di_all {nd v : Int} {ds : List Int} (h : v = DV nd (seg ds 0 (ds.length : Int))) : v = DV nd ds := by rw [h, seg_all ds rfl]
theorem di_keep {h₀ h : Heap} {L : Addr} {q1 q2 q3 q4 q5 : Addr × Obj} {r : List (Addr × Obj)} (N : News h₀ L h (q1 :: q2 :: q3 :: q4 :: q5 :: r)) : News h₀ L h r := fun p hp =>
  N p (.tail _ (.tail _ (.tail _ (.tail _ (.tail _ hp)))))
theorem nilcall2 {M : Model} {A : Around} {E : Value → Shared → Prop} {s : Shared} {f : Value} {vs : List Value} {Q : Value → Shared → Prop} (h : wpAny M A (call f vs) Q E s) : wpAny M A (call f ([] ++ vs)) Q E s := h
set_option maxRecDepth 100000 in
set_option maxHeartbeats 1000000 in
theorem di_c {w : World} {dp un : Nat} {gd : Option (List Code)} {cn : Str} {nm : List (Str × NameKind)} {ig ic : Bool} {mo : List (Str × Const)} {a : Addr} {ccd : Value} {cl : List (Str × Addr)} {outer : List Env} {A₀ : Around} {base h₀ : Heap} {L : Addr} {m : Str → Option Value} {s : Shared} {Q E : Value → Shared → Prop}
  {p : Program} {loose : List Str} {mean : ExcName → Option Value} {mg mb : Str → Option Value} {news : List (Addr × Obj)} {nd : Int} {tn : Tok} {tp D : Addr} {otp : Obj} {n : Nat} {vs : List Value} {ds : List Int}
  (B : Below A₀ base outer h₀) (F : Fr h₀ L s.heap m) (X : (Mine.hd.heap_39 w.params).In h₀) (N : News h₀ L s.heap ((30, tabObj #[]) :: (tp, otp) :: (D, listOf vs.toArray n) :: news)) (T : Top p loose mean mg mb h₀) (C : CodeHd base 34 30)
  (hne : ∀ p ∈ news, p.1 ≠ 30) (hDne : D ≠ 30) (htp : AllLt (tp + 1) news) (hDtp : @LE.le Nat _ D tp) (h30 : @LT.lt Nat _ 30 tp)
  (hdp : dp + 50 < recursionLimit) (hun : un + 600 < cLine) (hw0 : 1 ≤ nd) (hw1 : nd ≤ 3) (hi : IntsAre vs ds) (hlen : ds.length = 5) (hb : ∀ d ∈ ds, 0 ≤ d ∧ d < 2 ^ nd.toNat)
  (hret : ∀ (r : Int) (t : Tok) (h' : Heap) (tk' : Nat) (ps : Array Value), r = DV nd ds →
    Fr h₀ L h' m → News h₀ L h' ((30, tabObj ps) :: (tp, otp) :: (D, listOf vs.toArray n) :: news) → Q (.int r t) {s with heap := h', toks := tk'}) :
  wpAny (model PySem.Challenge.rw_pg0186_01.row.prog w) (ktrTop dp un gd cn {kind := .function, names := nm, isGenerator := ig, isCoroutine := ic, more := mo} L a ccd cl outer) (call (.ref 35) [.ref D, .int nd tn]) Q E s := by
  revert X; k_fill; intro X
  k_with_none
  w_on
  (k_with "binaryOp RShift int int" => (k_here; (with_reducible show wpAny _ _ (binaryOp Operator.RShift (Value.int _ _) (Value.int 1 _)) _ _ _); k_dflt (refine' in_half ?_; k_whole); intro q' hq0' hq1'))
  (k_with "binaryOp Mult int int" => (k_here; k_dflt (refine' in_mul ?a ?b ?c ?d ?_; (case a => with_reducible omega); (case b => with_reducible omega); (case c => with_reducible assumption); (case d => with_reducible assumption); k_whole); intro sh' hsh' hs0' hs1'))
  (k_with "binaryOp LShift int int" => (k_here; k_dflt (refine' di_lsh ?a ?b ?c ?d ?_; (case a => with_reducible assumption); (case b => with_reducible assumption); (case c => with_reducible assumption); (case d => with_reducible assumption); k_whole); intro y' hy'))
  (k_with "subscriptTail" => (k_here; (with_reducible show wpAny _ _ (subscriptTail _ _ (Value.ref _) (Value.int _ _)) _ _ _); k_dflt (refine' di_item ?N ?hm ?hi ?hl ?h0 ?h1 ?h2 ?_ ?hs; (case N => k_asm); (case hi => with_reducible assumption); (case hm => k_mem); (case hl => with_reducible assumption); (case h0 => with_reducible assumption); (case h1 => with_reducible assumption); (case h2 => with_reducible assumption); (case hs => with_unfolding_all rfl)); intro t'))
  (k_with "call ref" => (k_here; (fail_if_success (with_reducible rename DiStep _ _ _ _ _ _ _ _ _ _ _ _ _ => xIn)); (try (with_reducible refine nilcall2 ?_)); (with_reducible show wpAny _ _ (call (Value.ref _) [Value.int _ _, Value.int _ _]) _ _ _); (k_dflt (refine' di_first ?B ?F ?X ?T ?N ?h0 ?h1 ?h2 ?hb ?hn ?hl ?hd ?hu ?_ ?_; (case B => k_asm); (case F => k_asm); (case X => k_asm); (case T => k_asm); (case N => k_asm); (case hb => with_reducible assumption); (case h0 => decide); (case h1 => first | decide | with_reducible omega); (case h2 => first | decide | with_reducible omega); (case hn => with_reducible assumption); (case hl => with_reducible assumption); (case hd => ktr_room); (case hu => ktr_units); (rotate_left); (intro v' t' h' tk' hv' hv0' hv1' F' N'); (rotate_left); (intro J' ihI'; unfold DiStep; intro dp' un' gd' cn' nm' ig' ic' mo' a' ccd' cl' outer' A0' base' h0' L' m' s' Q' E' l' r' tl' tr' B' F' X' N' T' hl0' hlr' hrn' hJ' hdp' hun' hret')))))
  (k_with "call ref" => (k_here; (try (with_reducible refine nilcall2 ?_)); (with_reducible show wpAny _ _ (call (Value.ref _) [Value.int _ _, Value.int _ _]) _ _ _); k_dflt (refine' di_use ?ih ?B ?F ?X ?T ?N ?h0 ?h1 ?h2 ?hJ ?hb ?hn ?hl ?hd ?hu ?_; (case ih => with_reducible assumption); (case B => k_asm); (case F => k_asm); (case X => k_asm); (case T => k_asm); (case N => k_asm); (case hb => with_reducible assumption); (case h0 => with_reducible omega); (case h1 => with_reducible omega); (case h2 => with_reducible omega); (case hJ => with_reducible omega); (case hn => with_reducible assumption); (case hl => with_reducible assumption); (case hd => ktr_room); (case hu => ktr_units); (intro v' t' h' tk' hv' hv0' hv1' F' N'))))
  w_strict (k_steps; (all_goals first | exact di_leafQ (by with_reducible assumption) (by assumption) (by assumption) (by with_reducible assumption) (by with_reducible assumption) (by with_reducible assumption) (by with_reducible assumption) | exact di_nodeQ (by with_reducible assumption) (by assumption) (by assumption) (by with_reducible assumption) (by with_reducible assumption) (by with_reducible assumption) (by with_reducible assumption) (by with_reducible assumption) (by with_reducible assumption) (by with_reducible assumption) (by with_reducible assumption) (by omega) (by omega) | exact hret _ _ _ _ _ (di_all (by assumption)) (by assumption) (di_keep (by assumption))))
end Mine
end
/-! In -/
section
open PySem PySem.Spec PySem.Calls PySem.W PyProof.Rows
namespace Mine
theorem in_keep {h₀ h : Heap} {L : Addr} {q1 q2 q3 q4 q5 q6 q7 q8 : Addr × Obj} {r : List (Addr × Obj)} (N : News h₀ L h (q1 :: q2 :: q3 :: q4 :: q5 :: q6 :: q7 :: q8 :: r)) : News h₀ L h (q3 :: q8 :: r) := fun p hp => by
  refine N p ?_
  rcases List.mem_cons.mp hp with rfl | hp
  · exact .tail _ (.tail _ (.head _))
  · exact .tail _ (.tail _ (.tail _ (.tail _ (.tail _ (.tail _ (.tail _ hp))))))
theorem nilcall {M : Model} {A : Around} {E : Value → Shared → Prop} {s : Shared} {f : Value} {vs : List Value} {Q : Value → Shared → Prop} (h : wpAny M A (call f vs) Q E s) : wpAny M A (call f ([] ++ vs)) Q E s := h
set_option maxRecDepth 100000 in
set_option maxHeartbeats 1000000 in
theorem in_c {w : World} {dp un : Nat} {gd : Option (List Code)} {cn : Str} {nm : List (Str × NameKind)} {ig ic : Bool} {mo : List (Str × Const)} {a : Addr} {ccd : Value} {cl : List (Str × Addr)} {outer : List Env} {A₀ : Around} {base h₀ : Heap} {L : Addr} {m : Str → Option Value} {s : Shared} {Q E : Value → Shared → Prop}
  {p : Program} {loose : List Str} {mean : ExcName → Option Value} {mg mb : Str → Option Value} {news : List (Addr × Obj)} {nd pk : Int} {tn ta : Tok} {tp : Addr} {otp : Obj}
  (B : Below A₀ base outer h₀) (F : Fr h₀ L s.heap m) (X : (Mine.hd.heap_39 w.params).In h₀) (N : News h₀ L s.heap ((23, tabObj #[]) :: (tp, otp) :: news)) (T : Top p loose mean mg mb h₀) (C : CodeHd base 27 23)
  (hne : ∀ p ∈ news, p.1 ≠ 23) (htp : AllLt (tp + 1) news) (h23 : @LT.lt Nat _ 23 tp)
  (hdp : dp + 50 < recursionLimit) (hun : un + 600 < cLine) (hw0 : 1 ≤ nd) (hw1 : nd ≤ 3) (hp0 : 0 ≤ pk) (hp1 : pk < 2 ^ (5 * nd).toNat) (hp2 : pk < 32768)
  (hret : ∀ (D : Addr) (vs : List Value) (ns : List Int) (n : Nat) (h' : Heap) (tk' : Nat) (ps : Array Value), IntsAre vs ns → OutDig nd pk ns → @LT.lt Nat _ tp D →
    Fr h₀ L h' m → News h₀ L h' ((D, listOf vs.toArray n) :: (23, tabObj ps) :: (tp, otp) :: news) → Q (.ref D) {s with heap := h', toks := tk'}) :
  wpAny (model PySem.Challenge.rw_pg0186_01.row.prog w) (ktrTop dp un gd cn {kind := .function, names := nm, isGenerator := ig, isCoroutine := ic, more := mo} L a ccd cl outer) (call (.ref 28) [.int pk ta, .int nd tn]) Q E s := by
  revert X; k_fill; intro X
  k_with_none
  w_on
  (k_with "binaryOp Mult ref int" => (k_here; k_dflt (refine' in_rep ?F ?N ?hl ?h0 ?h1 ?n0 ?n1 ?_; (case F => k_asm); (case N => k_asm); (case hl => k_mem); (case h0 => with_reducible assumption); (case h1 => with_reducible assumption); (case n0 => with_reducible assumption); (case n1 => with_reducible assumption); k_whole); intro D' us' c' ns' h' hi' hK' F' N' l1; (try k_lt l1); (have hK5' := InK.len hK'); (have hKp' := InK.pos hK'); (try k_sweep)))
  (k_with "binaryOp RShift int int" => (k_here; k_dflt (refine' in_shr ?a ?b ?_; (case a => with_reducible assumption); (case b => with_reducible omega); k_whole); intro up' hup' hu0' hu1'))
  (k_with "binaryOp RShift int int" => (k_here; (with_reducible show wpAny _ _ (binaryOp Operator.RShift (Value.int _ _) (Value.int 1 _)) _ _ _); k_dflt (refine' in_half ?_; k_whole); intro q' hq0' hq1'))
  (k_with "binaryOp Mult int int" => (k_here; k_dflt (refine' in_mul ?a ?b ?c ?d ?_; (case a => with_reducible omega); (case b => with_reducible omega); (case c => with_reducible assumption); (case d => with_reducible assumption); k_whole); intro sh' hsh' hs0' hs1'))
  (k_with "binaryOp LShift int int" => (k_here; k_dflt (refine' in_shl ?a ?b ?c ?d ?e ?f ?g ?_; (case a => with_reducible assumption); (case b => with_reducible assumption); (case c => with_reducible assumption); (case d => with_reducible omega); (case e => with_reducible omega); (case f => with_reducible assumption); (case g => with_reducible assumption); k_whole); intro z' hz'))
  (k_with "binaryOp BitXor int int" => (k_here; k_dflt (refine' in_xor ?a ?b ?_; (case a => with_reducible assumption); (case b => with_reducible assumption); k_whole); intro lw' hlw' hl0' hl1'))
  (k_with "call ref" => (k_here; (fail_if_success (with_reducible rename InStep _ _ _ _ _ _ _ _ _ _ _ _ _ => xIn)); (try (with_reducible refine nilcall ?_)); (with_reducible show wpAny _ _ (call (Value.ref _) [Value.int _ _, Value.int _ _, Value.int _ _]) _ _ _); k_dflt (refine' in_first ?B ?F ?X ?T ?hi ?N ?hm ?U ?hl ?h0 ?h1 ?h2 ?hJ ?hx ?hx1 ?hx2 ?hd ?hu ?_ ?_; (case B => k_asm); (case F => k_asm); (case X => k_asm); (case T => k_asm); (case hi => with_reducible assumption); (case N => k_asm); (case hm => k_mem); (case U => k_updF); (case hl => rfl); (case h0 => decide); (case h1 => with_reducible omega); (case h2 => exact Int.le_refl _); (case hJ => with_reducible omega); (case hx => with_reducible assumption); (case hx1 => exact InK.lt (by with_reducible assumption)); (case hx2 => with_reducible assumption); (case hd => ktr_room); (case hu => ktr_units); (rotate_left); (intro vs' ns' n' h' tk' hi' hlen' hd' F' N'; (try dsimp only at N')); (rotate_left); (intro J' ihI'; unfold InStep; intro dp' un' gd' cn' nm' ig' ic' mo' a' ccd' cl' outer' A0' base' h0' L' m' s' Q' E' vs' ns' n' x' l' r' tx' tl' tr' B' F' X' N' T' hi' hlen' hl0' hlr' hrn' hJ' hx0' hx1' hx2' hdp' hun' hret'; (try dsimp only at N')))))
  (k_with "call ref" => (k_here; (try (with_reducible refine nilcall ?_)); (with_reducible show wpAny _ _ (call (Value.ref _) [Value.int _ _, Value.int _ _, Value.int _ _]) _ _ _); k_dflt (refine' in_use ?ih ?B ?F ?X ?T ?hi ?N ?hl ?h0 ?h1 ?h2 ?hJ ?hx ?hx1 ?hx2 ?hd ?hu ?_; (case ih => with_reducible assumption); (case B => k_asm); (case F => k_asm); (case X => k_asm); (case T => k_asm); (case hi => with_reducible assumption); (case N => k_asm); (case hl => with_reducible assumption); (case h0 => with_reducible omega); (case h1 => with_reducible omega); (case h2 => with_reducible omega); (case hJ => with_reducible omega); (case hx => with_reducible assumption); (case hx1 => first | exact in_lw (by with_reducible assumption) (by with_reducible assumption) | exact in_up (by with_reducible assumption) (by with_reducible assumption) (by with_reducible assumption) (by with_reducible assumption) (by with_reducible omega) (by with_reducible omega) (by with_reducible assumption)); (case hx2 => with_reducible omega); (case hd => ktr_room); (case hu => ktr_units); (intro vs' ns' n' h' tk' hi' hlen' hd' F' N'; (try dsimp only at N')))))
  w_strict (k_steps; (all_goals first
    | exact in_leafQ (by with_reducible assumption) (by assumption) (by assumption) (by with_reducible assumption) (by with_reducible assumption) (by with_reducible assumption) (by with_reducible assumption) (by with_reducible assumption) (by with_reducible assumption) (by with_reducible assumption)
    | exact in_nodeQ (by with_reducible assumption) (by assumption) (by assumption) (by with_reducible assumption) (by with_reducible assumption) (by with_reducible assumption) (by with_reducible assumption) (by with_reducible assumption) (by with_reducible assumption) (by with_reducible assumption) (by with_reducible assumption) (by with_reducible assumption) (by omega) (by omega) (by with_reducible assumption)
    | (refine' hret _ _ _ _ _ _ ?ps ?a1 ?a2 ?a3 ?a4 ?a5; (case a4 => assumption); (case a5 => exact in_keep (by assumption)); (case a1 => with_reducible assumption); (case a2 => first | exact out_set (by with_reducible assumption) (by with_reducible assumption) (by with_reducible assumption) (by with_reducible assumption) | exact out_zero (by with_reducible assumption) (by omega)); (case a3 => (refine ltN ?_; omega)))
    | trace_state))
end Mine
end
/-! LwP -/
section
open PySem PySem.Spec PySem.Calls PySem.W PyProof.Rows
namespace Mine
theorem ints6 {vs : List Value} {ns : List Int} (h : IntsAre vs ns) (hl : ns.length = 6) : ∃ a0 a1 a2 a3 a4 a5 t0 t1 t2 t3 t4 t5, vs = [Value.int a0 t0, .int a1 t1, .int a2 t2, .int a3 t3, .int a4 t4, .int a5 t5] ∧ ns = [a0, a1, a2, a3, a4, a5] := by
  cases h with
  | nil => cases hl
  | cons a0 t0 h => cases h with
    | nil => cases hl
    | cons a1 t1 h => cases h with
      | nil => cases hl
      | cons a2 t2 h => cases h with
        | nil => cases hl
        | cons a3 t3 h => cases h with
          | nil => cases hl
          | cons a4 t4 h => cases h with
            | nil => cases hl
            | cons a5 t5 h => cases h with
              | nil => exact ⟨a0, a1, a2, a3, a4, a5, t0, t1, t2, t3, t4, t5, rfl, rfl⟩
              | cons _ _ _ => simp at hl
section
variable {prog : Program} {w : World} {A : Around} {E : Value → Shared → Prop} {s : Shared} {h₀ : Heap} {L : Addr} {m : Str → Option Value} {news : List (Addr × Obj)} {Q : Value → Shared → Prop} {t u : Tok}
theorem lw_upto {value slice : PySem.Expr} {l : Addr} {vs : List Value} {ns : List Int} (F : Fr h₀ L s.heap m) (N : News h₀ L s.heap news) (hl : h₀.IsList l vs.toArray) (hi : IntsAre vs ns) (hn : ns.length ≤ 63)
    (h : ∀ D ws h', Fr h₀ L h' m → News h₀ L h' ((D, listOf (List.toArray ws) 0) :: news) → (∀ p ∈ news, p.1 < D) → IntsAre ws (ns.take 6) → Q (.ref D) { s with heap := h' })
    (hs : subscripted slice false (.ref l) (.ref s.heap.objs.size) = operate [.ref s.heap.objs.size, .ref l] (getItem (.ref l) (.ref s.heap.objs.size))) (ht : ∀ r, letTemporaryGo value (.ref l) r = pure ()) :
    wpAny (model prog w) A (subscriptTail value slice (.ref l) (.ref s.heap.objs.size)) Q E { s with heap := s.heap.push { cls := .type "slice", data := .fields #[.none, .int 6 t, .none] } } :=
  kmk_slice_ints F N (hl.at fun o e => F.keep l o e) .none (.int 6 t) hi (kmk_upto hi (by decide)) rfl (fun D ws h' F' N' l1 hI _ _ => h D ws h' F' N' l1 hI) hs ht (by rw [sizeLine_eq, List.size_toArray, hi.length]; omega)
theorem lw_from {value slice : PySem.Expr} {l : Addr} {n0 : Nat} {k : Nat} {t0 t1 t2 t3 t4 t5 : Tok} (F : Fr h₀ L s.heap m) (N : News h₀ L s.heap news) (hl : (l, listOf [Value.int 12 t0, .int 21 t1, .int 7 t2, .int 3 t3, .int 12 t4, .int 7 t5].toArray n0) ∈ news)
    (h : ∀ D ws h', Fr h₀ L h' m → News h₀ L h' ((D, listOf (List.toArray ws) 0) :: news) → (∀ p ∈ news, p.1 < D) → IntsAre ws ([12, 21, 7, 3, 12, 7].drop k) → Q (.ref D) { s with heap := h' })
    (hs : subscripted slice false (.ref l) (.ref s.heap.objs.size) = operate [.ref s.heap.objs.size, .ref l] (getItem (.ref l) (.ref s.heap.objs.size))) :
    wpAny (model prog w) A (subscriptTail value slice (.ref l) (.ref s.heap.objs.size)) Q E { s with heap := s.heap.push { cls := .type "slice", data := .fields #[.int (k : Int) t, .none, .none] } } := by
  have hi : IntsAre [Value.int 12 t0, .int 21 t1, .int 7 t2, .int 3 t3, .int 12 t4, .int 7 t5] [12, 21, 7, 3, 12, 7] := .cons _ _ (.cons _ _ (.cons _ _ (.cons _ _ (.cons _ _ (.cons _ _ .nil)))))
  refine kba_turn (value' := PySem.Expr.Name (PySem.Str.ofString "_") ⟨0, 0, 0, 0⟩) (fun _ => rfl) ?_
  exact kmk_slice_ints F N (N.isList hl) (.int (k : Int) t) .none hi (kmk_from hi (by omega)) rfl (fun D ws h' F' N' l1 hI _ _ => h D ws h' F' N' l1 hI) hs (fun _ => rfl) (by rw [sizeLine_eq]; exact (by decide : (6 : Nat) ≤ 16777216))
theorem lw_add {a b : Addr} {n1 n2 : Nat} {vs ws : List Value} {ns : List Int} (F : Fr h₀ L s.heap m) (N : News h₀ L s.heap news) (ha : (a, listOf vs.toArray n1) ∈ news) (hb : (b, listOf ws.toArray n2) ∈ news) (hi : IntsAre vs (ns.take 6)) (hj : IntsAre ws ([12, 21, 7, 3, 12, 7].drop ns.length))
    (h : ∀ D a0 a1 a2 a3 a4 a5 t0 t1 t2 t3 t4 t5 h', Fr h₀ L h' m → News h₀ L h' ((D, listOf [Value.int a0 t0, .int a1 t1, .int a2 t2, .int a3 t3, .int a4 t4, .int a5 t5].toArray 0) :: news) → (∀ p ∈ news, p.1 < D) → Q (.ref D) { s with heap := h' }) :
    wpAny (model prog w) A (binaryOp .Add (.ref a) (.ref b)) Q E s := by
  have hlen : (ns.take 6 ++ [12, 21, 7, 3, 12, 7].drop ns.length).length = 6 := by
    simp only [List.length_append, List.length_take, List.length_drop, List.length_cons, List.length_nil]; omega
  refine kmk_add_ints F N (N.isList ha) (N.isList hb) hi hj (fun D us h' F' N' l1 hI => ?_) (by
    rw [sizeLine_eq]
    rw [List.length_append] at hlen
    omega)
  obtain ⟨a0, a1, a2, a3, a4, a5, t0, t1, t2, t3, t4, t5, e, _⟩ := ints6 hI hlen
  subst e
  exact h D a0 a1 a2 a3 a4 a5 t0 t1 t2 t3 t4 t5 h' F' N' l1
end
end Mine
end
/-! LwQ -/
section
open PySem PySem.Spec PySem.Calls PySem.W PyProof.Rows
namespace Mine
theorem updF_app {d : Addr} {o : Obj} {l own : List (Addr × Obj)} {g : Obj → List (Addr × Obj)} (U : UpdF d o l g) (h : ∀ p ∈ own, p.1 ≠ d) : UpdF d o (l ++ own) (fun o' => g o' ++ own) := by
  induction U with
  | head h1 => exact .head fun p hp => (List.mem_append.mp hp).elim (h1 p) (h p)
  | tail h1 _ ih => exact .tail h1 ih
theorem updF_mem {d : Addr} {o : Obj} {l : List (Addr × Obj)} {g : Obj → List (Addr × Obj)} (U : UpdF d o l g) : (d, o) ∈ l := by
  obtain ⟨pre, post, rfl, _⟩ := U.split
  exact List.mem_append.mpr (.inr (.head _))
theorem updF_at {d : Addr} {o o' : Obj} {l : List (Addr × Obj)} {g : Obj → List (Addr × Obj)} (U : UpdF d o l g) : UpdF d o' (g o') g := by
  induction U with
  | head h1 => exact .head h1
  | tail h1 _ ih => exact .tail h1 ih
theorem updF_self {d : Addr} {o : Obj} {l : List (Addr × Obj)} {g : Obj → List (Addr × Obj)} (U : UpdF d o l g) : g o = l := by
  obtain ⟨pre, post, e1, e2, _⟩ := U.split
  rw [e2, e1]
theorem updF_addr {d : Addr} {o : Obj} {l : List (Addr × Obj)} {g : Obj → List (Addr × Obj)} (U : UpdF d o l g) (o' : Obj) : (g o').map (·.1) = l.map (·.1) := by
  obtain ⟨pre, post, e1, e2, _⟩ := U.split
  rw [e2, e1]; simp
theorem srt_ins {ns : List Int} {x r : Int} (hs : Srt ns) (h0 : 0 ≤ r) (h1 : r ≤ (ns.length : Int)) (hB : BrP ns x r r) : Srt (ns.take r.toNat ++ x :: ns.drop r.toNat) := by
  intro i j hij hj
  have hl : (ns.take r.toNat).length = r.toNat := by rw [List.length_take]; omega
  have get : ∀ k : Nat, (ns.take r.toNat ++ x :: ns.drop r.toNat).getD k 0 = if k < r.toNat then ns.getD k 0 else if k = r.toNat then x else ns.getD (k - 1) 0 := by
    intro k
    rw [List.getD_eq_getElem?_getD]
    by_cases hk : k < r.toNat
    · rw [if_pos hk, List.getElem?_append_left (by omega), List.getElem?_take, if_pos hk, List.getD_eq_getElem?_getD]
    · rw [if_neg hk, List.getElem?_append_right (by omega), hl]
      by_cases hk2 : k = r.toNat
      · rw [if_pos hk2, hk2, Nat.sub_self]; rfl
      · rw [if_neg hk2]
        obtain ⟨d, hd⟩ : ∃ d, k - r.toNat = d + 1 := ⟨k - r.toNat - 1, by omega⟩
        rw [hd, List.getElem?_cons_succ, List.getElem?_drop, List.getD_eq_getElem?_getD]
        congr 2
        omega
  have hlen : (ns.take r.toNat ++ x :: ns.drop r.toNat).length = ns.length + 1 := by simp; omega
  rw [hlen] at hj
  rw [get i, get j]
  by_cases a1 : i < r.toNat
  · rw [if_pos a1]
    by_cases b1 : j < r.toNat
    · rw [if_pos b1]; exact hs i j hij (by omega)
    · rw [if_neg b1]
      have c1 := hB.1 i (by omega)
      by_cases b2 : j = r.toNat
      · rw [if_pos b2]; exact c1
      · rw [if_neg b2]
        have c2 := hB.2 (j - 1) (by omega) (by omega)
        omega
  · rw [if_neg a1]
    have b1 : ¬ j < r.toNat := by omega
    rw [if_neg b1]
    by_cases a2 : i = r.toNat
    · rw [if_pos a2]
      by_cases b2 : j = r.toNat
      · rw [if_pos b2]; omega
      · rw [if_neg b2]
        have c2 := hB.2 (j - 1) (by omega) (by omega)
        omega
    · rw [if_neg a2]
      have b2 : ¬ j = r.toNat := by omega
      rw [if_neg b2]
      exact hs (i - 1) (j - 1) (by omega) (by omega)
theorem perm_ins (ns : List Int) (x : Int) (k : Nat) : (ns.take k ++ x :: ns.drop k).Perm (x :: ns) := by
  have h : (ns.take k ++ x :: ns.drop k).Perm (x :: (ns.take k ++ ns.drop k)) := List.perm_middle
  rw [List.take_append_drop] at h
  exact h
/-- insort_right on a list of the ledger -/
theorem ins_u {w : World} {dp un : Nat} {gd : Option (List Code)} {cn : Str} {nm : List (Str × NameKind)} {ig ic : Bool} {mo : List (Str × Const)} {a : Addr} {ccd : Value} {cl : List (Str × Addr)} {outer : List Env} {A₀ : Around} {base h₀ : Heap} {L : Addr} {m : Str → Option Value} {s : Shared} {Q E : Value → Shared → Prop}
  {p : Program} {loose : List Str} {mean : ExcName → Option Value} {mg mb : Str → Option Value} {led : List (Addr × Obj)} {g : Obj → List (Addr × Obj)} {la : Addr} {vs : List Value} {ns : List Int} {n : Nat} {x : Int} {tx : Tok}
  (B : Below A₀ base outer h₀) (F : Fr h₀ L s.heap m) (X : (Mine.hd.heap_39 w.params).In h₀) (N : News h₀ L s.heap led) (T : Top p loose mean mg mb h₀) (U : UpdF la (listOf vs.toArray n) led g)
  (hi : IntsAre vs ns) (hlen : ns.length < 2^20) (hsrt : Srt ns) (hdp : dp + 6 < recursionLimit) (hun : un + 60 < cLine)
  (hret : ∀ (vs' : List Value) (ns' : List Int) (n' : Nat) (h' : Heap) (tk' : Nat), Srt ns' → ns'.Perm (x :: ns) → IntsAre vs' ns' → Fr h₀ L h' m → News h₀ L h' (g (listOf vs'.toArray n')) → Q .none {s with heap := h', toks := tk'}) :
  wpAny (model PySem.Challenge.rw_pg0186_01.row.prog w) (ktrTop dp un gd cn {kind := .function, names := nm, isGenerator := ig, isCoroutine := ic, more := mo} L a ccd cl outer) (call (.ref 44) [.ref la, .int x tx]) Q E s := by
  obtain ⟨pre, post, e1, e2, c1, c2⟩ := U.split
  have N' : News h₀ L s.heap ((la, listOf vs.toArray n) :: (pre ++ post)) := fun q hq => by
    refine N q ?_
    rw [e1]
    rcases List.mem_cons.mp hq with rfl | hq
    · exact List.mem_append.mpr (.inr (.head _))
    · exact (List.mem_append.mp hq).elim (fun h => List.mem_append.mpr (.inl h)) (fun h => List.mem_append.mpr (.inr (.tail _ h)))
  refine ins_c B F X N' T hi (fun q hq => (List.mem_append.mp hq).elim (c1 q) (c2 q)) hlen hsrt hdp hun (fun r vs' n' h' tk' r0 r1 hB hI F' N2 => ?_)
  refine hret vs' _ n' h' tk' (srt_ins hsrt r0 r1 hB) (perm_ins ns x r.toNat) hI F' (fun q hq => N2 q ?_)
  rw [e2] at hq
  rcases List.mem_append.mp hq with h | h
  · exact .tail _ (List.mem_append.mpr (.inl h))
  · rcases List.mem_cons.mp h with rfl | h
    · exact .head _
    · exact .tail _ (List.mem_append.mpr (.inr h))
end Mine
end
/-! LwR -/
section
open PySem PySem.Spec PySem.Calls PySem.W PyProof.Rows
namespace Mine
def InsP (bd : Int) (xs rs : List Int) : Prop := Srt rs ∧ rs.Perm (xs.map fun v => Int.fmod v bd)
theorem insP_nil (bd : Int) : InsP bd [] [] := ⟨fun i j _ h => absurd h (Nat.not_lt_zero _), .nil⟩
theorem insP_step {bd : Int} {xs rs rs' : List Int} {v : Int} (h : InsP bd xs rs) (hs : Srt rs') (hp : rs'.Perm (Int.fmod v bd :: rs)) : InsP bd (xs ++ [v]) rs' := by
  refine ⟨hs, hp.trans ?_⟩
  rw [List.map_append, List.map_cons, List.map_nil]
  exact ((h.2.cons _).trans (List.perm_append_singleton _ _).symm)
def LwEnd (h₀ : Heap) (L : Addr) (g : Obj → List (Addr × Obj)) (own : List (Addr × Obj)) (x : Str) (m₀ : Str → Option Value) (bd : Int) (pre' : List Int) (s₁ s₂ : Shared) : Prop :=
  ∃ h' tk m' us rs c, s₂ = { s₁ with heap := h', toks := tk } ∧ Fr h₀ L h' m' ∧ News h₀ L h' (g (listOf (List.toArray us) c) ++ own) ∧ IntsAre us rs ∧ InsP bd pre' rs ∧ ∀ z, z ≠ x → m' z = m₀ z
def LwPost (h₀ : Heap) (L : Addr) (g : Obj → List (Addr × Obj)) (own : List (Addr × Obj)) (x : Str) (m₀ : Str → Option Value) (bd : Int) (pre' : List Int) (s₁ : Shared) (Q : Flow → Shared → Prop) (f : Flow) (s₂ : Shared) : Prop :=
  match f with
  | .ret v => Q (.ret v) s₂
  | .brk => Q .next s₂
  | _ => LwEnd h₀ L g own x m₀ bd pre' s₁ s₂
theorem lw_frm {h₀ h : Heap} {L : Addr} {x : Str} {m₀ m₁ : Str → Option Value} {u : Str → Option Value} (F : Fr h₀ L h (fun z => if z = x then u z else m₁ z)) (ho : ∀ z, z ≠ x → m₁ z = m₀ z) : Fr h₀ L h (fun z => if z = x then u z else m₀ z) := by
  have e : (fun z => if z = x then u z else m₁ z) = fun z => if z = x then u z else m₀ z := by
    funext z
    by_cases h1 : z = x
    · simp [h1]
    · simp only [if_neg h1]; exact ho z h1
  rw [← e]; exact F
theorem updF_other {d D : Addr} {o o' oD : Obj} {l : List (Addr × Obj)} {g : Obj → List (Addr × Obj)} (U : UpdF d o l g) (hne : D ≠ d) (hD : (D, oD) ∈ l) : (D, oD) ∈ g o' := by
  obtain ⟨pre, post, e1, e2, _⟩ := U.split
  rw [e2]; rw [e1] at hD
  rcases List.mem_append.mp hD with h | h
  · exact List.mem_append.mpr (.inl h)
  · rcases List.mem_cons.mp h with h | h
    · exact absurd (congrArg Prod.fst h) hne
    · exact List.mem_append.mpr (.inr (.tail _ h))
structure BdMark (bd : Int) : Prop where
section
variable {prog : Program} {w : World} {A : Around} {E : Value → Shared → Prop} {s : Shared} {env : Env} {h₀ : Heap} {x : Str} {body : List Stmt} {Q : Flow → Shared → Prop}
theorem lw_loop1 {D row : Addr} {vs : List Value} {ns : List Int} {nn c0 : Nat} {m₀ : Str → Option Value} {news : List (Addr × Obj)} {g : Obj → List (Addr × Obj)} {bd : Int} (_M : BdMark bd)
    (hh : A.handled = none) (hl : (D, listOf vs.toArray nn) ∈ news) (hi : IntsAre vs ns) (F : Fr h₀ env.locals s.heap m₀) (N : News h₀ env.locals s.heap news) (hrow : (row, listOf #[] c0) ∈ news) (U : UpdF row (listOf #[] c0) news g) (hne : D ≠ row)
    (turn : ∀ (pre : List Int) (v : Int) (t : Tok) (us : List Value) (rs : List Int) (c : Nat) (h : Heap) (tk : Nat) (own : List (Addr × Obj)), InsP bd pre rs → rs.length < ns.length → IntsAre us rs → UpdF row (listOf us.toArray c) (g (listOf us.toArray c) ++ own) (fun o => g o ++ own) →
      Fr h₀ env.locals h (fun y => if y = x then some (.int v t) else m₀ y) → News h₀ env.locals h (g (listOf us.toArray c) ++ own) →
      wpAny (model prog w) A (execs body env) (LwPost h₀ env.locals g own x m₀ bd (pre ++ [v]) { s with heap := h, toks := tk } Q) E { s with heap := h, toks := tk })
    (done : ∀ (u : Str → Option Value) (us : List Value) (rs : List Int) (c : Nat) (h : Heap) (tk : Nat), InsP bd ns rs → IntsAre us rs → Fr h₀ env.locals h (fun y => if y = x then u y else m₀ y) → News h₀ env.locals h (g (listOf us.toArray c)) → Q .next { s with heap := h, toks := tk }) :
    wpAny (model prog w) A (pyIter (.ref D)) (fun it s₂ => LoopAtV prog w A h₀ env x body Q E it s₂) E s := by
  have hg0 : g (listOf (List.toArray []) c0) = news := updF_self U
  refine kdl_iter (fun i m nx => ∃ us rs c, nx = g (listOf (List.toArray us) c) ∧ IntsAre us rs ∧ InsP bd (ns.take i) rs ∧ ∀ z, z ≠ x → m z = m₀ z) hh hl F N ⟨[], [], c0, hg0.symm, .nil, by rw [List.take_zero]; exact insP_nil bd, fun _ _ => rfl⟩ ?_ ?_
  · rintro i v m₁ news₁ h tk own hv hoff _ ⟨us, rs, c, rfl, hI, hP, ho⟩ F₁ N₁
    have hlen : vs.length = ns.length := hi.length
    have hi' : i < ns.length := by rw [← hlen]; exact (List.getElem?_eq_some_iff.mp hv).1
    obtain ⟨t, hx⟩ := hi.get i (ns[i]'hi') (List.getElem?_eq_getElem hi')
    have ev : v = .int (ns[i]'hi') t := by rw [hx] at hv; exact (Option.some.inj hv).symm
    subst ev
    have hs : ns.take (i + 1) = ns.take i ++ [ns[i]'hi'] := by rw [List.take_add_one, List.getElem?_eq_getElem hi'] <;> rfl
    have hown : ∀ p ∈ own, p.1 ≠ row := fun p hp => by
      refine hoff p hp row ?_
      rw [updF_addr U]
      exact List.mem_map.mpr ⟨_, hrow, rfl⟩
    have hrl : rs.length = i := by
      have := hP.2.length_eq
      rw [List.length_map, List.length_take] at this
      omega
    refine wpAny_mono (turn (ns.take i) (ns[i]'hi') t us rs c h tk own hP (by omega) hI (updF_app (updF_at U) hown) (lw_frm (u := fun _ => some (.int (ns[i]'hi') t)) F₁ ho) N₁) (fun f s₂ p => ?_) fun _ _ e => e
    have up : LwEnd h₀ env.locals g own x m₀ bd (ns.take i ++ [ns[i]'hi']) { s with heap := h, toks := tk } s₂ →
        InvEndG h₀ env.locals (fun m' nx => (D, listOf vs.toArray nn) ∈ nx ∧ ∃ us rs c, nx = g (listOf (List.toArray us) c) ∧ IntsAre us rs ∧ InsP bd (ns.take (i + 1)) rs ∧ ∀ z, z ≠ x → m' z = m₀ z) own { s with heap := h, toks := tk } s₂ := by
      rintro ⟨h', tk', m', us', rs', c', e, F', N', hI', hP', ho'⟩
      refine ⟨h', tk', m', g (listOf (List.toArray us') c') ++ own, g (listOf (List.toArray us') c'), e, F', N', fun p hp => List.mem_append.mpr (.inl hp), fun p hp => List.mem_append.mpr (.inr hp), ?_, updF_other U hne hl, us', rs', c', rfl, hI', by rw [hs]; exact hP', ho'⟩
      intro p hp b hb
      rw [updF_addr U] at hb
      exact hoff p hp b (by rw [updF_addr U]; exact hb)
    cases f with
    | ret v => exact p
    | brk => exact p
    | next => exact up p
    | cont => exact up p
  · rintro m₁ news₁ h tk ⟨us, rs, c, rfl, hI, hP, ho⟩ F₁ N₁
    have hlen : vs.length = ns.length := hi.length
    rw [hlen, List.take_length] at hP
    refine done m₁ us rs c h tk hP hI (lw_frm (u := m₁) ?_ ho) N₁
    have e : (fun z => if z = x then m₁ z else m₁ z) = m₁ := by funext z; split <;> rfl
    rw [e]; exact F₁
theorem lw_end1 {L : Addr} {g : Obj → List (Addr × Obj)} {own : List (Addr × Obj)} {m₀ m' : Str → Option Value} {bd : Int} {pre' rs : List Int} {us : List Value} {c : Nat} {s₁ : Shared} {h' : Heap} {tk : Nat} (F : Fr h₀ L h' m') (N : News h₀ L h' (g (listOf (List.toArray us) c) ++ own)) (hI : IntsAre us rs) (hP : InsP bd pre' rs) (ho : ∀ z, z ≠ x → m' z = m₀ z) :
    LwEnd h₀ L g own x m₀ bd pre' s₁ { s₁ with heap := h', toks := tk } := ⟨h', tk, m', us, rs, c, rfl, F, N, hI, hP, ho⟩
end
end Mine
namespace Mine
section
variable {prog : Program} {w : World} {A : Around} {E : Value → Shared → Prop} {s : Shared} {h₀ : Heap} {L : Addr} {m : Str → Option Value} {news : List (Addr × Obj)} {Q : Value → Shared → Prop} {t u : Tok}
theorem lw_bound {a0 : Int} (h : ∀ bd, 12 ≤ bd → bd ≤ 51 → BdMark bd → Q (.int bd s.toks) { s with toks := s.toks + 1 }) : wpAny (model prog w) A (binaryOp .Add (.int 12 t) (.int (Int.fmod a0 40) u)) Q E s :=
  add_int (h _ (by have := fmod_lo a0 (n := 40) (by decide); omega) (by have := fmod_hi a0 (n := 40) (by decide); omega) BdMark.mk)
theorem lw_tail {l : Addr} {n0 : Nat} {a0 a1 a2 a3 a4 a5 : Int} {t0 t1 t2 t3 t4 t5 : Tok} {value slice : PySem.Expr} (F : Fr h₀ L s.heap m) (N : News h₀ L s.heap news) (hl : (l, listOf [Value.int a0 t0, .int a1 t1, .int a2 t2, .int a3 t3, .int a4 t4, .int a5 t5].toArray n0) ∈ news)
    (h : ∀ D h', Fr h₀ L h' m → News h₀ L h' ((D, listOf [Value.int a1 t1, .int a2 t2, .int a3 t3, .int a4 t4, .int a5 t5].toArray 0) :: news) → (∀ p ∈ news, p.1 < D) → Q (.ref D) { s with heap := h' })
    (hs : subscripted slice false (.ref l) (.ref s.heap.objs.size) = operate [.ref s.heap.objs.size, .ref l] (getItem (.ref l) (.ref s.heap.objs.size))) (ht : ∀ r, letTemporaryGo value (.ref l) r = pure ()) :
    wpAny (model prog w) A (subscriptTail value slice (.ref l) (.ref s.heap.objs.size)) Q E { s with heap := s.heap.push { cls := .type "slice", data := .fields #[.int 1 t, .none, .none] } } := by
  refine kmk_slice_lit F N (N.isList hl) (.int 1 t) .none (zs := [Value.int a1 t1, .int a2 t2, .int a3 t3, .int a4 t4, .int a5 t5]) ?_ h hs ht (by rw [sizeLine_eq]; exact (by decide : (6 : Nat) ≤ 16777216))
  rw [kms_pick_eq]; rfl
theorem lw_lsh (r : Int) {k : Int} (hr : 5 * 2 ^ k.toNat = r) (h0 : 0 ≤ k) (h1 : k ≤ 20) (h : Q (.int r s.toks) { s with toks := s.toks + 1 }) : wpAny (model prog w) A (binaryOp .LShift (.int 5 t) (.int k u)) Q E s :=
  lshift_int_small h0 (by omega) (by decide) (by rw [hr]; exact h)
end
end Mine
end
/-! Wd -/
section
open PySem PySem.Spec PySem.Calls PySem.W PyProof.Rows
namespace Mine
def lawDef : Stmt := PySem.Challenge.pw_pg0186_01.main.body.getLastD default
def lawBody : List Stmt := match lawDef with | .FunctionDef _ _ b _ _ _ _ _ _ _ => b | _ => []
def lawScope : Scope := match lawDef with | .FunctionDef _ _ _ _ _ _ sc _ _ _ => sc | _ => default
def asgE (k : Nat) : Expr := match lawBody.getD k default with | .Assign _ e _ => e | _ => default
abbrev lawEnv (L fa : Addr) (cd : Value) : Env := envOfC (Str.ofString "law") lawScope L fa cd
def WdOk (bd wd : Int) : Prop := (bd < 20 ∧ wd = 1) ∨ (20 ≤ bd ∧ bd < 40 ∧ wd = 2) ∨ (40 ≤ bd ∧ wd = 3)
theorem comp_end {h₀ : Heap} {L I C D : Addr} {m : Str → Option Value} {s₁ : Shared} {oI oC oD : Obj} {S : List (Addr × Obj) → Prop} {rest : Value → List (Addr × Obj) → Prop} {y : Value} {h' : Heap} {tk : Nat} {news' : List (Addr × Obj)}
    (F : Fr h₀ L h' m) (N : News h₀ L h' ((I, oI) :: (C, oC) :: (D, oD) :: news')) (off : LCg.Off3 I C D news') (hS : S news') (r : rest y news') :
    LCg.CompEnd h₀ L m s₁ I oI C oC D oD S rest y { s₁ with heap := h', toks := tk } := LCg.CompEnd.intro F N news' (fun _ hp => hp) off hS r
set_option maxRecDepth 100000 in
set_option maxHeartbeats 600000 in
theorem wd_c {w : World} {fa : Addr} {cd : Value} {base h₀ : Heap} {L : Addr} {s : Shared} {Q : Value → Shared → Prop} {R : Result → Shared → Prop} {m : Str → Option Value}
  {p : Program} {loose : List Str} {mean : ExcName → Option Value} {mg mb : Str → Option Value} {ob : Obj} {bd : Int} {tb : Tok} {news : List (Addr × Obj)} {tp : Addr} {otp : Obj}
  (B : Below callerA h₀ [] h₀) (F : Fr h₀ L s.heap m) (X : (Mine.hd.heap_39 w.params).In h₀) (T : Top p loose mean mg mb h₀)
  (N : News h₀ L s.heap ((L + 1, ob) :: (tp, otp) :: news)) (hob : ob.data = .cell (some (.int bd tb))) (htp : AllLt (tp + 1) news) (hL : L + 1 < tp) (hb0 : 12 ≤ bd) (hb1 : bd ≤ 51)
  (hret : ∀ (h' : Heap) (tk' : Nat) (t : Tok) (wd : Int), WdOk bd wd → Fr h₀ L h' m → News h₀ L h' ((L + 1, ob) :: (tp, otp) :: news) → Q (.int wd t) {s with heap := h', toks := tk'}) :
  wpAny (model PySem.Challenge.rw_pg0186_01.row.prog w) (callerA.deeper (lawEnv L fa cd)) (eval (asgE 4) (lawEnv L fa cd)) Q
    (fun e s' => wpAny (model PySem.Challenge.rw_pg0186_01.row.prog w) (callerA.deeper (lawEnv L fa cd)) (leaving (lawEnv L fa cd) e) (fun _ s'' => R (.error e) s'') (fun e' s'' => R (.error e') s'') s') s := by
  revert X; k_fill; intro X
  conv =>
    pattern (asgE _)
    whnf
  unfold lawEnv
  repeat (conv =>
    pattern lawScope
    whnf)
  k_with_none
  w_on
  (k_with "binaryOp LShift int int" => (k_here; k_dflt (first | refine' lw_lsh 10 (by decide) (by decide) (by decide) ?_ | refine' lw_lsh 20 (by decide) (by decide) (by decide) ?_ | refine' lw_lsh 40 (by decide) (by decide) (by decide) ?_ | refine' lw_lsh 80 (by decide) (by decide) (by decide) ?_)))
  (k_with "CompEnd" => (k_dflt (refine comp_end (by k_asm) (by k_asm) (by assumption) (by exact True.intro) ?_)))
  w_strict ((try k_fold); k_steps; (all_goals exact hret _ _ _ _ (by unfold WdOk; omega) (by assumption) (news_tl (by assumption))))
end Mine
end
/-! Led -/
section
open PySem PySem.Spec PySem.Calls PySem.W PyProof.Rows
namespace Mine
theorem led_max : ∀ (l : List (Addr × Obj)), l ≠ [] → ∃ tp otp, (tp, otp) ∈ l ∧ ∀ p ∈ l, @LE.le Nat _ p.1 tp := by
  intro l
  induction l with
  | nil => intro h; exact absurd rfl h
  | cons p r ih =>
    intro _
    rcases Classical.em (r = []) with h | h
    · subst h
      refine ⟨p.1, p.2, .head _, fun q hq => ?_⟩
      rcases List.mem_cons.mp hq with e | e
      · rw [e]; exact Nat.le_refl _
      · cases e
    · obtain ⟨tp, otp, h1, h2⟩ := ih h
      rcases Nat.lt_or_ge tp p.1 with h3 | h3
      · refine ⟨p.1, p.2, .head _, fun q hq => ?_⟩
        rcases List.mem_cons.mp hq with e | e
        · rw [e]; exact Nat.le_refl _
        · exact Nat.le_trans (h2 q e) (Nat.le_of_lt h3)
      · refine ⟨tp, otp, .tail _ h1, fun q hq => ?_⟩
        rcases List.mem_cons.mp hq with e | e
        · rw [e]; exact h3
        · exact h2 q e
theorem news_sub {h₀ h : Heap} {L : Addr} {a b : List (Addr × Obj)} (N : News h₀ L h a) (hs : ∀ p ∈ b, p ∈ a) : News h₀ L h b := fun p hp => N p (hs p hp)
theorem fr_pin {h₀ h : Heap} {L : Addr} {m : Str → Option Value} {x : Str} {v : Value} (F : Fr h₀ L h m) (hx : m x = some v) : Fr h₀ L h (fun y => if y = x then some v else m y) := by
  have e : (fun y => if y = x then some v else m y) = m := by
    funext y
    by_cases h1 : y = x
    · rw [if_pos h1, h1, hx]
    · rw [if_neg h1]
  rw [e]; exact F
theorem fr_unpin {h₀ h : Heap} {L : Addr} {m : Str → Option Value} {x : Str} {v : Value} (F : Fr h₀ L h (fun y => if y = x then some v else m y)) (hx : m x = some v) : Fr h₀ L h m := by
  have e : (fun y => if y = x then some v else m y) = m := by
    funext y
    by_cases h1 : y = x
    · rw [if_pos h1, h1, hx]
    · rw [if_neg h1]
  rw [← e]; exact F
end Mine
end
/-! Plain -/
section
open PySem PySem.Spec PySem.Calls PySem.W PyProof.Rows
namespace Mine
/-- how many of the row have an upper part below n -/
def SU (W : Int) (rs : List Int) (n : Nat) : Nat := rs.countP fun v => decide (v / W < (n : Int))
def CU (W : Int) (rs : List Int) (n : Nat) : Nat := rs.countP fun v => decide (v / W = (n : Int))
theorem su_succ (W : Int) (rs : List Int) (n : Nat) : SU W rs (n + 1) = SU W rs n + CU W rs n := by
  unfold SU CU
  induction rs with
  | nil => rfl
  | cons a r ih =>
    simp only [List.countP_cons]
    rw [ih]
    have key : (if decide (a / W < ((n + 1 : Nat) : Int)) = true then 1 else 0) = (if decide (a / W < (n : Int)) = true then 1 else 0) + (if decide (a / W = (n : Int)) = true then 1 else 0) := by
      generalize a / W = q
      by_cases h1 : q < (n : Int)
      · rw [if_pos (decide_eq_true (by omega)), if_pos (decide_eq_true h1), if_neg (by simp only [decide_eq_true_eq]; omega)]
      · by_cases h3 : q = (n : Int)
        · rw [if_pos (decide_eq_true (by omega)), if_neg (by simp only [decide_eq_true_eq]; omega), if_pos (decide_eq_true h3)]
        · rw [if_neg (by simp only [decide_eq_true_eq]; omega), if_neg (by simp only [decide_eq_true_eq]; omega), if_neg (by simp only [decide_eq_true_eq]; omega)]
    rw [key]
    omega
/-- the text of marks: for each upper part as many 49 as numbers have it, and a 48 -/
def mkL (W : Int) (rs : List Int) : Nat → List Nat
  | 0 => []
  | n + 1 => mkL W rs n ++ (List.replicate (CU W rs n) 49 ++ [48])
theorem su_zero {W : Int} {rs : List Int} (h : ∀ v ∈ rs, 0 ≤ v / W) : SU W rs 0 = 0 := by
  unfold SU
  rw [List.countP_eq_zero]
  intro v hv
  have := h v hv
  simp only [decide_eq_true_eq]; omega
theorem mkL_len {W : Int} {rs : List Int} (h : ∀ v ∈ rs, 0 ≤ v / W) : ∀ n, (mkL W rs n).length = n + SU W rs n
  | 0 => by rw [su_zero h]; rfl
  | n + 1 => by
    rw [mkL, List.length_append, mkL_len h n, su_succ, List.length_append, List.length_replicate, List.length_singleton]; omega
theorem mkL_ones {W : Int} {rs : List Int} (h : ∀ v ∈ rs, 0 ≤ v / W) : ∀ n, (mkL W rs n).count 49 = SU W rs n
  | 0 => by rw [su_zero h]; rfl
  | n + 1 => by
    rw [mkL, List.count_append, mkL_ones h n, su_succ, List.count_append, List.count_replicate]; simp
theorem mkL_zeros {W : Int} {rs : List Int} : ∀ n, (mkL W rs n).count 48 = n
  | 0 => rfl
  | n + 1 => by
    rw [mkL, List.count_append, mkL_zeros n, List.count_append, List.count_replicate]; simp
theorem mkL_prefix {W : Int} {rs : List Int} {n U : Nat} (h : n ≤ U) : ∃ r, mkL W rs U = mkL W rs n ++ r := by
  induction U with
  | zero => exact ⟨[], by rw [show n = 0 by omega]; rfl⟩
  | succ U ih =>
    rcases Nat.lt_or_ge U n with h1 | h1
    · exact ⟨[], by rw [show n = U + 1 by omega]; simp⟩
    · obtain ⟨r, hr⟩ := ih h1
      exact ⟨r ++ (List.replicate (CU W rs U) 49 ++ [48]), by rw [mkL, hr, List.append_assoc]⟩
/-- the counts at the places that matter -/
theorem cnt_one {W : Int} {rs : List Int} (h : ∀ v ∈ rs, 0 ≤ v / W) {n U j : Nat} (hn : n < U) (hj : j ≤ CU W rs n) : ((mkL W rs U).take (n + SU W rs n + j)).count 49 = SU W rs n + j := by
  obtain ⟨r, hr⟩ := mkL_prefix (W := W) (rs := rs) (show n + 1 ≤ U by omega)
  rw [hr, mkL, List.append_assoc, List.append_assoc, List.take_append, List.count_append, mkL_len h n]
  rw [List.take_of_length_le (by rw [mkL_len h n]; omega), mkL_ones h n]
  have e : n + SU W rs n + j - (n + SU W rs n) = j := by omega
  rw [e, List.take_append, List.take_replicate, List.length_replicate, Nat.min_eq_left hj, show j - CU W rs n = 0 by omega, List.take_zero, List.append_nil, List.count_replicate]
  simp
theorem cnt_zero {W : Int} {rs : List Int} (h : ∀ v ∈ rs, 0 ≤ v / W) {n U : Nat} (hn : n ≤ U) : ((mkL W rs U).take (n + SU W rs n)).count 48 = n := by
  obtain ⟨r, hr⟩ := mkL_prefix (W := W) (rs := rs) hn
  rw [hr, List.take_append, mkL_len h n, Nat.sub_self, List.take_zero, List.append_nil, List.take_of_length_le (by rw [mkL_len h n]; omega), mkL_zeros]
theorem cnt_zero' {W : Int} {rs : List Int} (h : ∀ v ∈ rs, 0 ≤ v / W) {n U : Nat} (hn : n + 1 ≤ U) : ((mkL W rs U).take (n + SU W rs (n + 1))).count 48 = n := by
  obtain ⟨r, hr⟩ := mkL_prefix (W := W) (rs := rs) hn
  rw [hr, mkL, List.append_assoc, List.append_assoc, su_succ, List.take_append, List.count_append, mkL_len h n]
  rw [List.take_of_length_le (by rw [mkL_len h n]; omega), mkL_zeros]
  have e : n + (SU W rs n + CU W rs n) - (n + SU W rs n) = CU W rs n := by omega
  rw [e, List.take_append, List.take_replicate, List.length_replicate, Nat.min_self, Nat.sub_self, List.take_zero, List.append_nil, List.count_replicate]
  simp
/-- where a search ends -/
theorem place_at {marks : Str} {c k : Nat} {r : Int} {R : Nat} (h0 : 0 ≤ r) (hP : LpP marks c k r r) (hR : R ≤ marks.length) (h1 : k ≤ CntT marks c R) (h2 : R = 0 ∨ CntT marks c (R - 1) < k) : r = (R : Int) := by
  have a1 : r ≤ (R : Int) := by
    rcases (by omega : (R : Int) < r ∨ r ≤ (R : Int)) with h | h
    · exact absurd (hP.1 R h) (by omega)
    · exact h
  rcases h2 with h2 | h2
  · omega
  · rcases (by omega : r < (R : Int) ∨ (R : Int) ≤ r) with h | h
    · have := hP.2 (R - 1) (by omega) (by omega)
      omega
    · omega

theorem countP_le {p : Int → Bool} {rs : List Int} {k : Nat} (h : ∀ i, k ≤ i → i < rs.length → p (rs.getD i 0) = false) : rs.countP p ≤ k := by
  have e : rs = rs.take k ++ rs.drop k := (List.take_append_drop k rs).symm
  rw [e, List.countP_append]
  have h1 : (rs.take k).countP p ≤ k := Nat.le_trans List.countP_le_length (by rw [List.length_take]; omega)
  have h2 : (rs.drop k).countP p = 0 := by
    rw [List.countP_eq_zero]
    intro v hv
    obtain ⟨j, hj⟩ := List.getElem?_of_mem hv
    rw [List.getElem?_drop] at hj
    have hl := (List.getElem?_eq_some_iff.mp hj).1
    have h3 := h (k + j) (by omega) hl
    rw [List.getD_eq_getElem?_getD, hj] at h3
    simp only [Option.getD_some] at h3
    rw [h3]; simp
  omega
theorem le_countP {p : Int → Bool} {rs : List Int} {k : Nat} (hk : k ≤ rs.length) (h : ∀ i, i < k → p (rs.getD i 0) = true) : k ≤ rs.countP p := by
  have e : rs = rs.take k ++ rs.drop k := (List.take_append_drop k rs).symm
  have h2 : (rs.take k).countP p = (rs.take k).length := by
    rw [List.countP_eq_length]
    intro v hv
    obtain ⟨j, hj⟩ := List.getElem?_of_mem hv
    rw [List.getElem?_take] at hj
    split at hj
    · have h3 := h j (by assumption)
      rw [List.getD_eq_getElem?_getD, hj] at h3
      exact h3
    · cases hj
  rw [e, List.countP_append, h2, List.length_take]
  omega
structure RowOk (bd : Int) (rs : List Int) : Prop where
  srt : Srt rs
  len : rs.length = 5
  lo : ∀ v ∈ rs, 0 ≤ v ∧ v < bd
theorem rowOk_of {bd : Int} {xs rs : List Int} (hbd : 12 ≤ bd) (h : InsP bd xs rs) (hx : xs.length = 5) : RowOk bd rs := by
  refine ⟨h.1, by rw [h.2.length_eq, List.length_map, hx], fun v hv => ?_⟩
  have hm := h.2.mem_iff.mp hv
  obtain ⟨u, _, rfl⟩ := List.mem_map.mp hm
  exact ⟨fmod_lo u (by omega), fmod_hi u (by omega)⟩
theorem getD_mem {rs : List Int} {i : Nat} (h : i < rs.length) : rs.getD i 0 ∈ rs := by
  rw [List.getD_eq_getElem?_getD, List.getElem?_eq_getElem h]
  exact List.getElem_mem h
section
variable {bd W : Int} {rs : List Int} {U : Nat} {marks : Str}
theorem up_nonneg (hW : 0 < W) (hR : RowOk bd rs) : ∀ v ∈ rs, 0 ≤ v / W := fun v hv => Int.ediv_nonneg (hR.lo v hv).1 (Int.le_of_lt hW)
theorem up_lt_U (hW : 0 < W) (hR : RowOk bd rs) (hU : (U : Int) = (bd - 1) / W + 1) {v : Int} (hv : v ∈ rs) : v / W < (U : Int) := by
  have := (hR.lo v hv).2
  have h := Int.ediv_le_ediv hW (show v ≤ bd - 1 by omega)
  omega
theorem div_mono (hW : 0 < W) {a b : Int} (h : a ≤ b) : a / W ≤ b / W := Int.ediv_le_ediv hW h
/-- the k-th number's mark -/
theorem told_place (hW : 0 < W) (hR : RowOk bd rs) (hU : (U : Int) = (bd - 1) / W + 1) (hm : marks.cps.toList = mkL W rs U) {k : Nat} {r : Int} (hk : k < 5) (h0 : 0 ≤ r) (hP : LpP marks 49 (k + 1) r r) : r - 1 - (k : Int) = rs.getD k 0 / W := by
  have hup := up_nonneg hW hR
  have hkl : k < rs.length := by rw [hR.len]; exact hk
  have hmem := getD_mem hkl
  have hq0 := hup _ hmem
  have hqU := up_lt_U hW hR hU hmem
  obtain ⟨n, hn⟩ := Int.eq_ofNat_of_zero_le hq0
  rw [hn] at hqU ⊢
  have hS1 : SU W rs n ≤ k := by
    unfold SU
    refine countP_le fun i hi hl => ?_
    have := div_mono hW (hR.srt k i hi hl)
    rw [hn] at this
    exact decide_eq_false (by omega)
  have hS2 : k + 1 ≤ SU W rs n + CU W rs n := by
    rw [← su_succ]
    unfold SU
    refine le_countP (by omega) fun i hi => ?_
    have := div_mono hW (hR.srt i k (by omega) hkl)
    rw [hn] at this
    exact decide_eq_true (by omega)
  have hlen : marks.length = U + SU W rs U := by
    show marks.cps.toList.length = _
    rw [hm, mkL_len hup]
  have c1 : CntT marks 49 (n + k + 1) = k + 1 := by
    unfold CntT
    rw [hm]
    have := cnt_one hup (show n < U by omega) (show k + 1 - SU W rs n ≤ CU W rs n by omega)
    rw [show n + SU W rs n + (k + 1 - SU W rs n) = n + k + 1 by omega] at this
    rw [this]; omega
  have c2 : CntT marks 49 (n + k) = k := by
    unfold CntT
    rw [hm]
    have := cnt_one hup (show n < U by omega) (show k - SU W rs n ≤ CU W rs n by omega)
    rw [show n + SU W rs n + (k - SU W rs n) = n + k by omega] at this
    rw [this]; omega
  have hle : n + k + 1 ≤ marks.length := by
    rcases Nat.lt_or_ge marks.length (n + k + 1) with h | h
    · exfalso
      have e1 : CntT marks 49 (n + k) = CntT marks 49 (n + k + 1) := by
        unfold CntT
        rw [List.take_of_length_le (show marks.cps.toList.length ≤ n + k by show marks.length ≤ n + k; omega), List.take_of_length_le (show marks.cps.toList.length ≤ n + k + 1 by show marks.length ≤ n + k + 1; omega)]
      omega
    · exact h
  have := place_at h0 hP hle (by omega) (.inr (by rw [show n + k + 1 - 1 = n + k by omega]; omega))
  omega
/-- where the n-th 0 is found -/
theorem zero_place (hW : 0 < W) (hR : RowOk bd rs) (hm : marks.cps.toList = mkL W rs U) {n : Nat} {r : Int} (hn : n ≤ U) (h0 : 0 ≤ r) (hP : LpP marks 48 n r r) : r = (n : Int) + (SU W rs n : Int) := by
  have hup := up_nonneg hW hR
  have hlen : marks.length = U + SU W rs U := by
    show marks.cps.toList.length = _
    rw [hm, mkL_len hup]
  obtain ⟨rr, hpre⟩ := mkL_prefix (W := W) (rs := rs) hn
  have hle : n + SU W rs n ≤ marks.length := by
    show n + SU W rs n ≤ marks.cps.toList.length
    rw [hm, hpre, List.length_append, mkL_len hup]; omega
  have c1 : CntT marks 48 (n + SU W rs n) = n := by unfold CntT; rw [hm]; exact cnt_zero hup hn
  have h2 : n + SU W rs n = 0 ∨ CntT marks 48 (n + SU W rs n - 1) < n := by
    cases n with
    | zero => left; rw [su_zero hup]
    | succ n =>
      right
      have : CntT marks 48 (n + 1 + SU W rs (n + 1) - 1) = n := by
        unfold CntT
        rw [hm, show n + 1 + SU W rs (n + 1) - 1 = n + SU W rs (n + 1) by omega]
        exact cnt_zero' hup hn
      omega
  have := place_at h0 hP hle (by omega) h2
  omega
end
end Mine
end
/-! Mk -/
section
open PySem PySem.Spec PySem.Calls PySem.W PyProof.Rows
namespace Mine
section
variable {prog : Program} {w : World} {A : Around} {E : Value → Shared → Prop} {s : Shared} {Q : Value → Shared → Prop} {t u : Tok}
theorem mk_mul {n : Nat} (hn : n ≤ 5) (h : ∀ (y : Str) (t' k : Nat), y.cps.toList = List.replicate n 49 → Q (.str y t') { s with toks := k }) : wpAny (model prog w) A (binaryOp .Mult (.str (Str.ofString "1") t) (.int (n : Int) u)) Q E s := by
  rcases (by omega : n = 0 ∨ n = 1 ∨ n = 2 ∨ n = 3 ∨ n = 4 ∨ n = 5) with e | e | e | e | e | e <;> subst e <;> exact SB.mul (by unfold MulOk; decide) fun t' k => h _ t' k (by decide)
theorem mk_add {y : Str} {n : Nat} (hy : y.cps.toList = List.replicate n 49) (hn : n ≤ 5) (h : ∀ (z : Str) (t' k : Nat), z.cps.toList = List.replicate n 49 ++ [48] → Q (.str z t') { s with toks := k }) : wpAny (model prog w) A (binaryOp .Add (.str y t) (.str (Str.ofString "0") u)) Q E s := by
  have hl : y.length = n := by
    show y.cps.toList.length = n
    rw [hy, List.length_replicate]
  refine KXadd.add (K := 5) (L := 1) (by omega) (by decide) (by decide) fun t' k _ => h _ t' k ?_
  rw [Str.cps_append, Array.toList_append, hy]
  rfl
theorem mk_len {D : Addr} {ys : List Value} {p : Int → Bool} {rs : List Int} (hd : s.heap.IsList D ys.toArray) (hc : CarriedAll ys ((rs.filter p).map PyData.int)) (hl : rs.length = 5) (h : ∀ (t' k : Nat), rs.countP p ≤ 5 → Q (.int ((rs.countP p : Nat) : Int) t') { s with toks := k }) :
    wpAny (model prog w) A (call (.builtin "len") [.ref D]) Q E s := by
  have e : ys.toArray.size = rs.countP p := by
    rw [List.size_toArray, hc.length_eq, List.length_map, List.countP_eq_length_filter]
  have h1 : rs.countP p ≤ 5 := by rw [← hl]; exact List.countP_le_length
  refine call_len_list hd ?_ ?_
  all_goals (rw [e]; first | exact h _ _ h1 | omega)
end
def forB (k : Nat) : List Stmt := match lawBody.getD k default with | .For _ _ b _ _ => b | _ => []
def mkE : Expr := match (forB 6).getD 0 default with | .AugAssign _ _ e _ => e | _ => default
theorem mk_cp {z : Str} {wd u : Int} {rs : List Int} (h : z.cps.toList = List.replicate (rs.countP fun v => v.fdiv (2 ^ wd.toNat) == u) 49 ++ [48]) : z.cps.toList = List.replicate (rs.countP fun v => decide (v / 2 ^ wd.toNat = u)) 49 ++ [48] := by
  rw [h]
  congr 2
  refine List.countP_congr fun v _ => ?_
  have e : v.fdiv (2 ^ wd.toNat) = v / 2 ^ wd.toNat := Int.fdiv_eq_ediv_of_nonneg _ (Int.le_of_lt (Int.pow_pos (by decide)))
  rw [e]
  simp
set_option maxRecDepth 100000 in
set_option maxHeartbeats 600000 in
theorem mk_c {w : World} {fa : Addr} {cd : Value} {h₀ : Heap} {L : Addr} {s : Shared} {Q : Value → Shared → Prop} {R : Result → Shared → Prop} {m : Str → Option Value}
  {p : Program} {loose : List Str} {mean : ExcName → Option Value} {mg mb : Str → Option Value} {ow ou : Obj} {wd u : Int} {tw tu : Tok} {news : List (Addr × Obj)} {tp row : Addr} {otp : Obj} {us : List Value} {rs : List Int} {c : Nat}
  (B : Below callerA h₀ [] h₀) (F : Fr h₀ L s.heap (fun y => if y = Str.ofString "row" then some (.ref row) else m y)) (X : (Mine.hd.heap_39 w.params).In h₀) (T : Top p loose mean mg mb h₀)
  (N : News h₀ L s.heap ((row, listOf us.toArray c) :: (L + 1 + 1 + 1 + 1, ou) :: (L + 1 + 1, ow) :: (tp, otp) :: news)) (how : ow.data = .cell (some (.int wd tw))) (hou : ou.data = .cell (some (.int u tu))) (htp : AllLt (tp + 1) news) (hL : L + 1 + 1 + 1 + 1 < tp + 1) (hrow : row < tp + 1)
  (hi : IntsAre us rs) (hlen : rs.length = 5) (hw0 : 1 ≤ wd) (hw1 : wd ≤ 3)
  (hret : ∀ (h' : Heap) (tk' : Nat) (t : Tok) (y : Str), y.cps.toList = List.replicate (rs.countP fun v => decide (v / 2 ^ wd.toNat = u)) 49 ++ [48] → Fr h₀ L h' (fun y => if y = Str.ofString "row" then some (.ref row) else m y) → News h₀ L h' ((row, listOf us.toArray c) :: (L + 1 + 1 + 1 + 1, ou) :: (L + 1 + 1, ow) :: (tp, otp) :: news) → Q (.str y t) {s with heap := h', toks := tk'}) :
  wpAny (model PySem.Challenge.rw_pg0186_01.row.prog w) (callerA.deeper (lawEnv L fa cd)) (eval mkE (lawEnv L fa cd)) Q
    (fun e s' => wpAny (model PySem.Challenge.rw_pg0186_01.row.prog w) (callerA.deeper (lawEnv L fa cd)) (leaving (lawEnv L fa cd) e) (fun _ s'' => R (.error e) s'') (fun e' s'' => R (.error e') s'') s') s := by
  revert X; k_fill; intro X
  conv =>
    pattern mkE
    whnf
  unfold lawEnv
  repeat (conv =>
    pattern lawScope
    whnf)
  k_with_none
  w_on
  (k_with "CompEnd" => (k_dflt (refine comp_end (by k_asm) (by k_asm) (by assumption) (by exact True.intro) ?_)))
  (k_with "call builtin:len" => (k_here; (with_reducible show wpAny _ _ (call (Value.builtin "len") [Value.ref _]) _ _ _); k_dflt (refine mk_len (by assumption) (by assumption) (by assumption) ?_); intro t' k' hc'))
  (k_with "binaryOp Mult str int" => (k_here; k_dflt (refine mk_mul (by assumption) ?_); intro y' t' k' hy'))
  (k_with "binaryOp Add str str" => (k_here; k_dflt (refine mk_add (by assumption) (by assumption) ?_); intro z' t' k' hz'))
  w_strict ((try k_fold); k_steps; (all_goals first | exact Str.ofString "" | exact (0 : Nat) | exact Value.none | exact hret _ _ _ _ (mk_cp (by assumption)) (by assumption) (by assumption)))
end Mine
end
/-! Mk2 -/
section
open PySem PySem.Spec PySem.Calls PySem.W PyProof.Rows
namespace Mine
/-- what a turn of the marks loop must bring back -/
def MkEnd (h₀ : Heap) (L : Addr) (W : Int) (rs : List Int) (m : Str → Option Value) (rest own : List (Addr × Obj)) (i : Nat) (s₁ s₂ : Shared) : Prop :=
  ∃ h' tk ou om y t vu, s₂ = { s₁ with heap := h', toks := tk } ∧ Fr h₀ L h' m ∧ News h₀ L h' ((L + 1 + 1 + 1 + 1, ou) :: (L + 1 + 1 + 1, om) :: (rest ++ own)) ∧ om.data = .cell (some (.str y t)) ∧ y.cps.toList = mkL W rs i ∧ ou.data = .cell vu
def MkPost (h₀ : Heap) (L : Addr) (W : Int) (rs : List Int) (m : Str → Option Value) (rest own : List (Addr × Obj)) (i : Nat) (s₁ : Shared) (Q : Flow → Shared → Prop) (f : Flow) (s₂ : Shared) : Prop :=
  match f with
  | .ret v => Q (.ret v) s₂
  | .brk => Q .next s₂
  | _ => MkEnd h₀ L W rs m rest own i s₁ s₂
section
variable {prog : Program} {w : World} {A : Around} {E : Value → Shared → Prop} {s : Shared} {env : Env} {h₀ : Heap} {target : Expr} {body : List Stmt} {Q : Flow → Shared → Prop}
theorem mk_unr {W : Int} {rs : List Int} {m : Str → Option Value} {rest : List (Addr × Obj)} {n : Nat} {I : Addr} (hI4 : I ≠ env.locals + 1 + 1 + 1 + 1) (hI3 : I ≠ env.locals + 1 + 1 + 1)
    (turn : ∀ (i : Nat) (ou om : Obj) (vu : Option Value) (y : Str) (tm t : Tok) (h : Heap) (tk : Nat) (own : List (Addr × Obj)), i < n → ou.data = .cell vu → om.data = .cell (some (.str y tm)) → y.cps.toList = mkL W rs i → (∀ p ∈ own, p.1 = I) →
      Fr h₀ env.locals h m → News h₀ env.locals h ((env.locals + 1 + 1 + 1 + 1, ou) :: (env.locals + 1 + 1 + 1, om) :: (rest ++ own)) →
      wpAny (model prog w) A (assign target env (.int (i : Int) t)) (fun _ s₂ => wpAny (model prog w) A (execs body env) (MkPost h₀ env.locals W rs m rest own (i + 1) { s with heap := h, toks := tk } Q) E s₂) E { s with heap := h, toks := tk })
    (done : ∀ (ou om : Obj) (vu : Option Value) (y : Str) (tm : Tok) (h : Heap) (tk : Nat), ou.data = .cell vu → om.data = .cell (some (.str y tm)) → y.cps.toList = mkL W rs n → Fr h₀ env.locals h m → News h₀ env.locals h ((env.locals + 1 + 1 + 1 + 1, ou) :: (env.locals + 1 + 1 + 1, om) :: rest) → Q .next { s with heap := h, toks := tk }) :
    ∀ (k i : Nat) (ou om : Obj) (vu : Option Value) (y : Str) (tm : Tok), i + k = n → ou.data = .cell vu → om.data = .cell (some (.str y tm)) → y.cps.toList = mkL W rs i →
      Unr prog w A E h₀ env target body Q (fun i v => i < n ∧ ∃ t, v = .int (0 + (i : Int) * 1) t) [I] s k i m ((env.locals + 1 + 1 + 1 + 1, ou) :: (env.locals + 1 + 1 + 1, om) :: rest) := by
  intro k
  induction k with
  | zero =>
    intro i ou om vu y tm hk hu hd hy
    refine Unr.zero fun h' tk F N => ?_
    have e : i = n := by omega
    subst e
    exact done ou om vu y tm h' tk hu hd hy F N
  | succ k ih =>
    intro i ou om vu y tm hk hu hd hy
    refine Unr.succ fun v h₁ tk₁ own hP hfp F N => ?_
    obtain ⟨hi, t, rfl⟩ := hP
    have e1 : (0 : Int) + (i : Int) * 1 = (i : Int) := by omega
    rw [e1]
    have hown : ∀ p ∈ own, p.1 = I := fun p hp => List.mem_singleton.mp (hfp p hp)
    refine wpAny_mono (turn i ou om vu y tm t h₁ tk₁ own hi hu hd hy hown F (fun p hp => N p ?_)) (fun _ s₂ h₂ => wpAny_mono h₂ (fun f s₃ h₃ => ?_) fun _ _ e => e) fun _ _ e => e
    · simp only [List.mem_cons, List.mem_append] at hp ⊢
      rcases hp with h | h | h | h
      · exact .inr (.inl h)
      · exact .inr (.inr (.inl h))
      · exact .inr (.inr (.inr h))
      · exact .inl h
    · have up : MkEnd h₀ env.locals W rs m rest own (i + 1) { s with heap := h₁, toks := tk₁ } s₃ → LoopStep2 h₀ env.locals own ((env.locals + 1 + 1 + 1 + 1, ou) :: (env.locals + 1 + 1 + 1, om) :: rest) (Unr prog w A E h₀ env target body Q (fun i v => i < n ∧ ∃ t, v = .int (0 + (i : Int) * 1) t) [I] s k (i + 1)) { s with heap := h₁, toks := tk₁ } .next s₃ := by
        rintro ⟨h', tk, ou', om', y', t', vu', rfl, F', N', hd', hy', hu'⟩
        refine LoopStep2.intro (news₂ := (env.locals + 1 + 1 + 1 + 1, ou') :: (env.locals + 1 + 1 + 1, om') :: rest) F' (fun p hp => N' p ?_) rfl (ih (i + 1) ou' om' vu' y' t' (by omega) hu' hd' hy')
        simp only [List.mem_cons, List.mem_append] at hp ⊢
        rcases hp with h | h | h | h
        · exact .inr (.inr (.inr h))
        · exact .inl h
        · exact .inr (.inl h)
        · exact .inr (.inr (.inl h))
      cases f with
      | ret v => exact h₃
      | brk => exact h₃
      | next => exact up h₃
      | cont => exact up h₃
theorem mk_rng {W : Int} {rs : List Int} {m : Str → Option Value} {rest led : List (Addr × Obj)} {n : Nat} {b : Int} {r : Addr} {t₀ u₀ v₀ : Tok} {ou om : Obj} {vu : Option Value} {y : Str} {tm : Tok}
    (hh : A.handled = none) (hr : IsRange s.heap r 0 b 1 t₀ u₀ v₀) (hb : b = (n : Int)) (hn : n ≤ 100) (F : Fr h₀ env.locals s.heap m) (N : News h₀ env.locals s.heap led)
    (hs : ∀ p ∈ (env.locals + 1 + 1 + 1 + 1, ou) :: (env.locals + 1 + 1 + 1, om) :: rest, p ∈ led) (hu : ou.data = .cell vu) (hd : om.data = .cell (some (.str y tm))) (hy : y = Str.empty)
    (hgo : ∀ I v, letOwnedTupleGo target (.ref I) v = pure ())
    (turn : ∀ (I : Addr) (i : Nat) (ou om : Obj) (vu : Option Value) (y : Str) (tm t : Tok) (h : Heap) (tk : Nat) (own : List (Addr × Obj)), (∀ p ∈ led, p.1 < I) → i < n → ou.data = .cell vu → om.data = .cell (some (.str y tm)) → y.cps.toList = mkL W rs i → (∀ p ∈ own, p.1 = I) →
      Fr h₀ env.locals h m → News h₀ env.locals h ((env.locals + 1 + 1 + 1 + 1, ou) :: (env.locals + 1 + 1 + 1, om) :: (rest ++ own)) →
      wpAny (model prog w) A (assign target env (.int (i : Int) t)) (fun _ s₂ => wpAny (model prog w) A (execs body env) (MkPost h₀ env.locals W rs m rest own (i + 1) { s with heap := h, toks := tk } Q) E s₂) E { s with heap := h, toks := tk })
    (done : ∀ (ou om : Obj) (vu : Option Value) (y : Str) (tm : Tok) (h : Heap) (tk : Nat), ou.data = .cell vu → om.data = .cell (some (.str y tm)) → y.cps.toList = mkL W rs n → Fr h₀ env.locals h m → News h₀ env.locals h ((env.locals + 1 + 1 + 1 + 1, ou) :: (env.locals + 1 + 1 + 1, om) :: rest) → Q .next { s with heap := h, toks := tk }) :
    wpAny (model prog w) A (pyIter (.ref r)) (fun it s₂ => UnrAt prog w A h₀ env target body Q E it s₂) E s := by
  subst hb
  have hsm : Builtin.Range.small 0 (n : Int) 1 = true := small_one (by decide) (by decide) (by omega) (by omega)
  have hsz : Builtin.Range.rangeSize 0 (n : Int) 1 = (n : Int) := by
    rw [rangeSize_one]
    split <;> omega
  refine wpAny_pyIter_range hr hsm ?_
  have hlt : ∀ p ∈ led, p.1 < s.heap.objs.size := fun p hp => Heap.lt_size (N p hp).1
  have h4 := hlt _ (hs _ (.head _))
  have h3 := hlt _ (hs _ (.tail _ (.head _)))
  refine ⟨s.heap.objs.size, [s.heap.objs.size], [s.heap.objs.size], n, _, _, m, (env.locals + 1 + 1 + 1 + 1, ou) :: (env.locals + 1 + 1 + 1, om) :: rest, rfl, (Walks.range hh _ 0 1 n).bound, ?_, ?_, ?_, (by show IsRangeIter _ _ _ _ _; rw [hsz]; simpa using Heap.get?_push_size _ rfl), F.push _, (fun p hp => ⟨Heap.get?_push_of_some _ (N p (hs p hp)).1, (N p (hs p hp)).2⟩), ?_, ?_⟩
  · intro hm
    exact absurd F.ns.lt ((List.mem_singleton.mp hm) ▸ Nat.lt_irrefl _)
  · intro b hb
    rw [List.mem_singleton.mp hb]
    exact next_is_new F
  · intro p hp hI
    exact absurd (hlt p (hs p hp)) ((List.mem_singleton.mp hI) ▸ Nat.lt_irrefl _)
  · intro i s' v Q' _ hQ'
    rw [hgo]; exact wpAny_pure hQ'
  · refine mk_unr (W := W) (rs := rs) (Nat.ne_of_gt h4) (Nat.ne_of_gt h3) ?_ ?_ n 0 ou om vu y tm (by omega) hu hd (by rw [hy]; rfl)
    · exact fun i ou om vu y tm t h tk own a b c d e f g => turn _ i ou om vu y tm t h tk own hlt a b c d e f g
    · exact done
theorem mk_rngL {W : Int} {rs : List Int} {m : Str → Option Value} {rest led : List (Addr × Obj)} {n : Nat} {b : Int} {r : Addr} {t₀ u₀ v₀ : Tok} {ou om : Obj} {vu : Option Value} {y : Str} {tm : Tok} {L : Addr} (hL : env.locals = L)
    (hh : A.handled = none) (hr : IsRange s.heap r 0 b 1 t₀ u₀ v₀) (hb : b = (n : Int)) (hn : n ≤ 100) (F : Fr h₀ L s.heap m) (N : News h₀ L s.heap led)
    (hs : ∀ p ∈ (L + 1 + 1 + 1 + 1, ou) :: (L + 1 + 1 + 1, om) :: rest, p ∈ led) (hu : ou.data = .cell vu) (hd : om.data = .cell (some (.str y tm))) (hy : y = Str.empty)
    (hgo : ∀ I v, letOwnedTupleGo target (.ref I) v = pure ())
    (turn : ∀ (I : Addr) (i : Nat) (ou om : Obj) (vu : Option Value) (y : Str) (tm t : Tok) (h : Heap) (tk : Nat) (own : List (Addr × Obj)), (∀ p ∈ led, p.1 < I) → i < n → ou.data = .cell vu → om.data = .cell (some (.str y tm)) → y.cps.toList = mkL W rs i → (∀ p ∈ own, p.1 = I) →
      Fr h₀ L h m → News h₀ L h ((L + 1 + 1 + 1 + 1, ou) :: (L + 1 + 1 + 1, om) :: (rest ++ own)) →
      wpAny (model prog w) A (assign target env (.int (i : Int) t)) (fun _ s₂ => wpAny (model prog w) A (execs body env) (MkPost h₀ L W rs m rest own (i + 1) { s with heap := h, toks := tk } Q) E s₂) E { s with heap := h, toks := tk })
    (done : ∀ (ou om : Obj) (vu : Option Value) (y : Str) (tm : Tok) (h : Heap) (tk : Nat), ou.data = .cell vu → om.data = .cell (some (.str y tm)) → y.cps.toList = mkL W rs n → Fr h₀ L h m → News h₀ L h ((L + 1 + 1 + 1 + 1, ou) :: (L + 1 + 1 + 1, om) :: rest) → Q .next { s with heap := h, toks := tk }) :
    wpAny (model prog w) A (pyIter (.ref r)) (fun it s₂ => UnrAt prog w A h₀ env target body Q E it s₂) E s := by
  subst hL
  exact mk_rng hh hr hb hn F N hs hu hd hy hgo turn done
end
end Mine
end
/-! Mk3 -/
section
open PySem PySem.Spec PySem.Calls PySem.W PyProof.Rows
namespace Mine
theorem lt_of_le {d : Addr} {l : List (Addr × Obj)} (h : ∀ p ∈ l, @LE.le Nat _ p.1 d) : AllLt (d + 1) l := allLt_of_le h
theorem mk_c' {w : World} {fa : Addr} {cd : Value} {h₀ : Heap} {L : Addr} {s : Shared} {Q : Value → Shared → Prop} {R : Result → Shared → Prop} {m : Str → Option Value}
  {p : Program} {loose : List Str} {mean : ExcName → Option Value} {mg mb : Str → Option Value} {ow ou : Obj} {wd u : Int} {tw tu : Tok} {led : List (Addr × Obj)} {row : Addr} {e₀ : Expr} {sc : Scope} {us : List Value} {rs : List Int} {c : Nat}
  (he : e₀ = mkE) (hsc : sc = lawScope) (B : Below callerA h₀ [] h₀) (F : Fr h₀ L s.heap m) (X : (Mine.hd.heap_39 w.params).In h₀) (T : Top p loose mean mg mb h₀)
  (N : News h₀ L s.heap led) (h1 : (row, listOf us.toArray c) ∈ led) (h2 : (L + 1 + 1 + 1 + 1, ou) ∈ led) (h3 : (L + 1 + 1, ow) ∈ led) (hm : m (Str.ofString "row") = some (.ref row)) (how : ow.data = .cell (some (.int wd tw))) (hou : ou.data = .cell (some (.int u tu)))
  (hi : IntsAre us rs) (hlen : rs.length = 5) (hw0 : 1 ≤ wd) (hw1 : wd ≤ 3)
  (hret : ∀ (h' : Heap) (tk' : Nat) (t : Tok) (y : Str), y.cps.toList = List.replicate (rs.countP fun v => decide (v / 2 ^ wd.toNat = u)) 49 ++ [48] → Fr h₀ L h' m → News h₀ L h' led → Q (.str y t) {s with heap := h', toks := tk'}) :
  wpAny (model PySem.Challenge.rw_pg0186_01.row.prog w) (callerA.deeper (envOfC (Str.ofString "law") sc L fa cd)) (eval e₀ (envOfC (Str.ofString "law") sc L fa cd)) Q
    (fun e s' => wpAny (model PySem.Challenge.rw_pg0186_01.row.prog w) (callerA.deeper (envOfC (Str.ofString "law") sc L fa cd)) (leaving (envOfC (Str.ofString "law") sc L fa cd) e) (fun _ s'' => R (.error e) s'') (fun e' s'' => R (.error e') s'') s') s := by
  subst he; subst hsc
  obtain ⟨tp, otp, a1, a2⟩ := led_max led (by intro h; rw [h] at h1; cases h1)
  refine mk_c (c := c) (us := us) (tp := tp) (otp := otp) (news := led) B (fr_pin F hm) X T (news_sub N ?_) how hou (lt_of_le a2) (Nat.lt_succ_of_le (a2 _ h2)) (Nat.lt_succ_of_le (a2 _ h1)) hi hlen hw0 hw1 fun h' tk' t y hy F' N' => hret h' tk' t y hy (fr_unpin F' hm) (news_sub N' fun p hp => .tail _ (.tail _ (.tail _ (.tail _ hp))))
  intro p hp
  rcases List.mem_cons.mp hp with e | hp
  · rw [e]; exact h1
  rcases List.mem_cons.mp hp with e | hp
  · rw [e]; exact h2
  rcases List.mem_cons.mp hp with e | hp
  · rw [e]; exact h3
  rcases List.mem_cons.mp hp with e | hp
  · rw [e]; exact a1
  exact hp
theorem mkL_le {W : Int} {rs : List Int} (hlen : rs.length = 5) : ∀ n, (mkL W rs n).length ≤ 6 * n
  | 0 => Nat.le_refl _
  | n + 1 => by
    have := mkL_le (W := W) hlen n
    have h1 : CU W rs n ≤ 5 := by rw [← hlen]; exact List.countP_le_length
    rw [mkL, List.length_append, List.length_append, List.length_replicate, List.length_singleton]; omega
theorem mk_iadd {prog : Program} {w : World} {A : Around} {E : Value → Shared → Prop} {s : Shared} {Q : Value → Shared → Prop} {t u : Tok} {W : Int} {rs : List Int} {i : Nat} {y z : Str} (hlen : rs.length = 5) (hi : i ≤ 100) (hy : y.cps.toList = mkL W rs i) (hz : z.cps.toList = List.replicate (rs.countP fun v => decide (v / W = (i : Int))) 49 ++ [48])
    (h : ∀ (x : Str) (t' k : Nat), x.cps.toList = mkL W rs (i + 1) → Q (.str x t') { s with toks := k }) : wpAny (model prog w) A (inplaceOp .Add (.str y t) (.str z u)) Q E s := by
  refine iadd_str (fun t' k => h _ t' k (by rw [Str.cps_append, Array.toList_append, hy, hz]; rfl)) ?_
  have e1 : y.length = (mkL W rs i).length := by show y.cps.toList.length = _; rw [hy]
  have e2 : z.length ≤ 6 := by
    show z.cps.toList.length ≤ 6
    have h1 : CU W rs i ≤ 5 := by rw [← hlen]; exact List.countP_le_length
    have h2 : (rs.countP fun v => decide (v / W = (i : Int))) = CU W rs i := rfl
    rw [hz, List.length_append, List.length_replicate, List.length_singleton, h2]; omega
  have := mkL_le (W := W) hlen i
  rw [sizeLine_eq]; omega
theorem mk_end {h₀ : Heap} {L : Addr} {W : Int} {rs : List Int} {m : Str → Option Value} {rest own news : List (Addr × Obj)} {i : Nat} {s₁ : Shared} {h' : Heap} {tk : Nat} {ou om : Obj} {y : Str} {t : Tok} {vu : Option Value} (e : rest ++ own = news) (F : Fr h₀ L h' m) (N : News h₀ L h' ((L + 1 + 1 + 1 + 1, ou) :: (L + 1 + 1 + 1, om) :: news)) (h1 : om.data = .cell (some (.str y t))) (h2 : y.cps.toList = mkL W rs i) (h3 : ou.data = .cell vu) :
    MkEnd h₀ L W rs m rest own i s₁ { s₁ with heap := h', toks := tk } := by subst e; exact ⟨h', tk, ou, om, y, t, vu, rfl, F, N, h1, h2, h3⟩
def forT (k : Nat) : Expr := match lawBody.getD k default with | .For t _ _ _ _ => t | _ => default
set_option maxRecDepth 100000 in
set_option maxHeartbeats 600000 in
theorem mk_turn {w : World} {fa : Addr} {cd : Value} {h₀ : Heap} {L : Addr} {s : Shared} {Q : Flow → Shared → Prop} {R : Result → Shared → Prop} {m : Str → Option Value}
  {p : Program} {loose : List Str} {mean : ExcName → Option Value} {mg mb : Str → Option Value} {ow ou om : Obj} {wd : Int} {tw tm t : Tok} {i : Nat} {rest own : List (Addr × Obj)} {row : Addr} {us : List Value} {rs : List Int} {c : Nat} {y : Str}
  (B : Below callerA h₀ [] h₀) (F : Fr h₀ L s.heap m) (X : (Mine.hd.heap_39 w.params).In h₀) (T : Top p loose mean mg mb h₀) 
  (N : News h₀ L s.heap ((L + 1 + 1 + 1 + 1, ou) :: (L + 1 + 1 + 1, om) :: (rest ++ own))) (h1 : (row, listOf us.toArray c) ∈ rest ++ own) (h3 : (L + 1 + 1, ow) ∈ rest ++ own) (hm : m (Str.ofString "row") = some (.ref row)) (how : ow.data = .cell (some (.int wd tw)))
  (n3 : ∀ p ∈ rest ++ own, p.1 ≠ L + 1 + 1 + 1) (n4 : ∀ p ∈ rest ++ own, p.1 ≠ L + 1 + 1 + 1 + 1)
  {vu : Option Value} (hu : ou.data = .cell vu) (hd : om.data = .cell (some (.str y tm))) (hy : y.cps.toList = mkL (2 ^ wd.toNat) rs i)
  (hi : IntsAre us rs) (hlen : rs.length = 5) (hw0 : 1 ≤ wd) (hw1 : wd ≤ 3) (hin : i ≤ 100) :
  wpAny (model PySem.Challenge.rw_pg0186_01.row.prog w) (callerA.deeper (lawEnv L fa cd)) (assign (forT 6) (lawEnv L fa cd) (.int (i : Int) t)) (fun _ s₂ => wpAny (model PySem.Challenge.rw_pg0186_01.row.prog w) (callerA.deeper (lawEnv L fa cd)) (execs (forB 6) (lawEnv L fa cd)) (MkPost h₀ L (2 ^ wd.toNat) rs m rest own (i + 1) s Q)
    (fun e s' => wpAny (model PySem.Challenge.rw_pg0186_01.row.prog w) (callerA.deeper (lawEnv L fa cd)) (leaving (lawEnv L fa cd) e) (fun _ s'' => R (.error e) s'') (fun e' s'' => R (.error e') s'') s') s₂)
    (fun e s' => wpAny (model PySem.Challenge.rw_pg0186_01.row.prog w) (callerA.deeper (lawEnv L fa cd)) (leaving (lawEnv L fa cd) e) (fun _ s'' => R (.error e) s'') (fun e' s'' => R (.error e') s'') s') s := by
  revert X; k_fill; intro X
  conv =>
    pattern (forB _)
    whnf
  conv =>
    pattern (forT _)
    whnf
  unfold lawEnv
  repeat (conv =>
    pattern lawScope
    whnf)
  k_with_none
  w_on
  (k_with "inplaceOp Add str str" => (k_here; k_dflt (refine mk_iadd (by assumption) (by assumption) (by assumption) (by assumption) ?_); intro x' t' k' hx'))
  (k_with "MkPost" => (dsimp only [MkPost]))
  (k_with "MkEnd" => (k_dflt (exact mk_end (by assumption) (by k_asm) (by k_asm) (by assumption) (by assumption) (by assumption))))
  (k_with "eval BinOp" => (k_here; k_dflt (refine' mk_c' ?he ?hsc ?B ?F ?X ?T ?N ?h1 ?h2 ?h3 ?hm ?how ?hou ?hi ?hlen ?hw0 ?hw1 ?_; (case he => (conv => rhs; whnf)); (case hsc => (conv => rhs; whnf)); (case B => k_asm); (case F => k_asm); (case X => k_asm); (case T => k_asm); (case N => k_asm); (case h1 => first | exact .head _ | exact .tail _ (.head _) | exact .tail _ (.tail _ (by assumption))); (case h2 => first | exact .head _ | exact .tail _ (.head _) | exact .tail _ (.tail _ (by assumption))); (case h3 => first | exact .head _ | exact .tail _ (.head _) | exact .tail _ (.tail _ (by assumption))); (case hm => assumption); (case how => assumption); (case hou => assumption); (case hi => assumption); (case hlen => assumption); (case hw0 => assumption); (case hw1 => assumption)); intro h' tk' t' y' hy' F' N'))
  generalize hnews : rest ++ own = news at *
  w_strict ((try k_fold); k_steps; skip)
theorem mk_turn' {w : World} {fa : Addr} {cd : Value} {h₀ : Heap} {L : Addr} {s : Shared} {Q : Flow → Shared → Prop} {R : Result → Shared → Prop} {m : Str → Option Value}
  {p : Program} {loose : List Str} {mean : ExcName → Option Value} {mg mb : Str → Option Value} {ow ou om : Obj} {wd : Int} {tw tm t : Tok} {i : Nat} {rest own : List (Addr × Obj)} {row : Addr} {e₀ : Expr} {b₀ : List Stmt} {sc : Scope} {us : List Value} {rs : List Int} {c : Nat} {y : Str}
  (he : e₀ = forT 6) (hb : b₀ = forB 6) (hsc : sc = lawScope) (B : Below callerA h₀ [] h₀) (F : Fr h₀ L s.heap m) (X : (Mine.hd.heap_39 w.params).In h₀) (T : Top p loose mean mg mb h₀) 
  (N : News h₀ L s.heap ((L + 1 + 1 + 1 + 1, ou) :: (L + 1 + 1 + 1, om) :: (rest ++ own))) (h1 : (row, listOf us.toArray c) ∈ rest ++ own) (h3 : (L + 1 + 1, ow) ∈ rest ++ own) (hm : m (Str.ofString "row") = some (.ref row)) (how : ow.data = .cell (some (.int wd tw)))
  (n3 : ∀ p ∈ rest ++ own, p.1 ≠ L + 1 + 1 + 1) (n4 : ∀ p ∈ rest ++ own, p.1 ≠ L + 1 + 1 + 1 + 1)
  {vu : Option Value} (hu : ou.data = .cell vu) (hd : om.data = .cell (some (.str y tm))) (hy : y.cps.toList = mkL (2 ^ wd.toNat) rs i)
  (hi : IntsAre us rs) (hlen : rs.length = 5) (hw0 : 1 ≤ wd) (hw1 : wd ≤ 3) (hin : i ≤ 100) :
  wpAny (model PySem.Challenge.rw_pg0186_01.row.prog w) (callerA.deeper (envOfC (Str.ofString "law") sc L fa cd)) (assign e₀ (envOfC (Str.ofString "law") sc L fa cd) (.int (i : Int) t)) (fun _ s₂ => wpAny (model PySem.Challenge.rw_pg0186_01.row.prog w) (callerA.deeper (envOfC (Str.ofString "law") sc L fa cd)) (execs b₀ (envOfC (Str.ofString "law") sc L fa cd)) (MkPost h₀ L (2 ^ wd.toNat) rs m rest own (i + 1) s Q)
    (fun e s' => wpAny (model PySem.Challenge.rw_pg0186_01.row.prog w) (callerA.deeper (envOfC (Str.ofString "law") sc L fa cd)) (leaving (envOfC (Str.ofString "law") sc L fa cd) e) (fun _ s'' => R (.error e) s'') (fun e' s'' => R (.error e') s'') s') s₂)
    (fun e s' => wpAny (model PySem.Challenge.rw_pg0186_01.row.prog w) (callerA.deeper (envOfC (Str.ofString "law") sc L fa cd)) (leaving (envOfC (Str.ofString "law") sc L fa cd) e) (fun _ s'' => R (.error e) s'') (fun e' s'' => R (.error e') s'') s') s := by
  subst he; subst hb; subst hsc
  exact mk_turn B F X T N h1 h3 hm how n3 n4 hu hd hy hi hlen hw0 hw1 hin
end Mine
end
/-! Mk5 -/
section
open PySem PySem.Spec PySem.Calls PySem.W PyProof.Rows
namespace Mine
def lawSt (k : Nat) : Stmt := lawBody.getD k default
theorem mk_size {bd wd : Int} (h : WdOk bd wd) (h0 : 12 ≤ bd) (h1 : bd ≤ 51) : ∃ n : Nat, Int.fdiv (bd - 1) (2 ^ wd.toNat) + 1 = (n : Int) ∧ n ≤ 100 ∧ (n : Int) = (bd - 1) / 2 ^ wd.toNat + 1 := by
  refine ⟨(Int.fdiv (bd - 1) (2 ^ wd.toNat) + 1).toNat, ?_⟩
  have e : Int.fdiv (bd - 1) (2 ^ wd.toNat) = (bd - 1) / 2 ^ wd.toNat := Int.fdiv_eq_ediv_of_nonneg _ (Int.le_of_lt (Int.pow_pos (by decide)))
  rw [e]
  rcases h with ⟨_, rfl⟩ | ⟨_, _, rfl⟩ | ⟨_, rfl⟩
  · rw [show (2 : Int) ^ (1 : Int).toNat = 2 from rfl]; omega
  · rw [show (2 : Int) ^ (2 : Int).toNat = 4 from rfl]; omega
  · rw [show (2 : Int) ^ (3 : Int).toNat = 8 from rfl]; omega
theorem ne_up1 (a : Nat) : a ≠ a + 1 := by omega
theorem ne_up2 (a : Nat) : a ≠ a + 1 + 1 := by omega
theorem ne_up3 (a : Nat) : a ≠ a + 1 + 1 + 1 := by omega
theorem mk_off3 {L I : Addr} {ou om ow ob : Obj} {rest own : List (Addr × Obj)} (n : ∀ p ∈ rest, p.1 ≠ L + 1 + 1 + 1) (ho : ∀ p ∈ own, p.1 = I) (hI : ∀ p ∈ (L + 1 + 1 + 1 + 1, ou) :: (L + 1 + 1 + 1, om) :: (L + 1 + 1, ow) :: (L + 1, ob) :: rest, p.1 < I) :
    ∀ p ∈ ((L + 1 + 1, ow) :: (L + 1, ob) :: rest) ++ own, p.1 ≠ L + 1 + 1 + 1 := by
  intro p hp
  rcases List.mem_append.mp hp with h | h
  · rcases List.mem_cons.mp h with e | h
    · rw [e]; exact ne_up1 _
    rcases List.mem_cons.mp h with e | h
    · rw [e]; exact ne_up2 _
    exact n p h
  · rw [ho p h]; exact Nat.ne_of_gt (hI _ (.tail _ (.head _)))
theorem mk_off4 {L I : Addr} {ou om ow ob : Obj} {rest own : List (Addr × Obj)} (n : ∀ p ∈ rest, p.1 ≠ L + 1 + 1 + 1 + 1) (ho : ∀ p ∈ own, p.1 = I) (hI : ∀ p ∈ (L + 1 + 1 + 1 + 1, ou) :: (L + 1 + 1 + 1, om) :: (L + 1 + 1, ow) :: (L + 1, ob) :: rest, p.1 < I) :
    ∀ p ∈ ((L + 1 + 1, ow) :: (L + 1, ob) :: rest) ++ own, p.1 ≠ L + 1 + 1 + 1 + 1 := by
  intro p hp
  rcases List.mem_append.mp hp with h | h
  · rcases List.mem_cons.mp h with e | h
    · rw [e]; exact ne_up2 _
    rcases List.mem_cons.mp h with e | h
    · rw [e]; exact ne_up3 _
    exact n p h
  · rw [ho p h]; exact Nat.ne_of_gt (hI _ (.head _))
set_option maxRecDepth 100000 in
set_option maxHeartbeats 600000 in
theorem mk_for {w : World} {fa : Addr} {cd : Value} {h₀ : Heap} {L : Addr} {s : Shared} {Q : Flow → Shared → Prop} {R : Result → Shared → Prop} {m : Str → Option Value}
  {p : Program} {loose : List Str} {mean : ExcName → Option Value} {mg mb : Str → Option Value} {ob ow ou om : Obj} {bd wd : Int} {tb tw tm : Tok} {rest : List (Addr × Obj)} {row : Addr} {us : List Value} {rs : List Int} {c : Nat} {y : Str}
  (B : Below callerA h₀ [] h₀) (F : Fr h₀ L s.heap m) (X : (Mine.hd.heap_39 w.params).In h₀) (T : Top p loose mean mg mb h₀)
  (N : News h₀ L s.heap ((L + 1 + 1 + 1 + 1, ou) :: (L + 1 + 1 + 1, om) :: (L + 1 + 1, ow) :: (L + 1, ob) :: rest)) (h1 : (row, listOf us.toArray c) ∈ rest) (hm : m (Str.ofString "row") = some (.ref row)) (hob : ob.data = .cell (some (.int bd tb))) (how : ow.data = .cell (some (.int wd tw)))
  (n3 : ∀ p ∈ rest, p.1 ≠ L + 1 + 1 + 1) (n4 : ∀ p ∈ rest, p.1 ≠ L + 1 + 1 + 1 + 1) {vu : Option Value} (hu : ou.data = .cell vu) (hd : om.data = .cell (some (.str y tm))) (hy : y = Str.empty)
  (hi : IntsAre us rs) (hlen : rs.length = 5) (hb0 : 12 ≤ bd) (hb1 : bd ≤ 51) (hW : WdOk bd wd)
  (hret : ∀ (h' : Heap) (tk' : Nat) (t : Tok) (ou om : Obj) (vu : Option Value) (y : Str) (n : Nat), ou.data = .cell vu → om.data = .cell (some (.str y t)) → (n : Int) = (bd - 1) / 2 ^ wd.toNat + 1 → y.cps.toList = mkL (2 ^ wd.toNat) rs n → Fr h₀ L h' m → News h₀ L h' ((L + 1 + 1 + 1 + 1, ou) :: (L + 1 + 1 + 1, om) :: (L + 1 + 1, ow) :: (L + 1, ob) :: rest) → Q .next {s with heap := h', toks := tk'}) :
  wpAny (model PySem.Challenge.rw_pg0186_01.row.prog w) (callerA.deeper (lawEnv L fa cd)) (exec (lawSt 6) (lawEnv L fa cd)) Q
    (fun e s' => wpAny (model PySem.Challenge.rw_pg0186_01.row.prog w) (callerA.deeper (lawEnv L fa cd)) (leaving (lawEnv L fa cd) e) (fun _ s'' => R (.error e) s'') (fun e' s'' => R (.error e') s'') s') s := by
  obtain ⟨nn, hn1, hn2, hn3⟩ := mk_size hW hb0 hb1
  have hw0 : 1 ≤ wd := by unfold WdOk at hW; omega
  have hw1 : wd ≤ 3 := by unfold WdOk at hW; omega
  revert X; k_fill; intro X
  conv =>
    pattern (lawSt _)
    whnf
  unfold lawEnv
  repeat (conv =>
    pattern lawScope
    whnf)
  k_with_none
  w_on
  (k_with "exec For Name Call cons nil" => (k_here; (rename Fr _ _ _ _ => lF'); (with_unfolding_all refine' For_unrF lF' ?_ ?ks); (case ks => (intro _; with_unfolding_all rfl))))
  (k_with "pyIter ref" => (k_here; (rename Fr _ _ _ _ => lF'); (rename News _ _ _ _ => lN'); (rename IsRange _ _ _ _ _ _ _ _ => lR'); k_dflt ((refine' mk_rngL (W := 2 ^ _) (by with_unfolding_all rfl) ?hh lR' ?hb ?hn lF' lN' (fun p hp => hp) ?hu ?hd ?hy ?hgo ?turn (fun ou' om' vu' y' tm' h' tk' hu' hd' hy' F' N' => ?_)); (case hh => with_unfolding_all rfl); (case hb => assumption); (case hn => assumption); (case hu => assumption); (case hd => assumption); (case hy => assumption); (case hgo => (intro _ _; with_unfolding_all rfl))); (case turn => (intro I' i' ou' om' vu' y' tm' t' h' tk' own' hI' hi' hu' hd' hy' hown' F' N'; (refine' mk_turn' ?he ?hb ?hsc ?B F' ?X ?T N' ?h1 ?h3 ?hm ?how ?n3 ?n4 hu' hd' hy' ?hi ?hlen ?hw0 ?hw1 ?hin); (case he => (conv => rhs; whnf)); (case hb => (conv => rhs; whnf)); (case hsc => (conv => rhs; whnf)); (case B => k_asm); (case X => k_asm); (case T => k_asm); (case h1 => exact .tail _ (.tail _ (List.mem_append_left _ (by assumption)))); (case h3 => exact .head _); (case hm => assumption); (case how => assumption); (case n3 => exact mk_off3 (by assumption) hown' hI'); (case n4 => exact mk_off4 (by assumption) hown' hI'); (case hi => assumption); (case hlen => assumption); (case hw0 => assumption); (case hw1 => assumption); (case hin => omega))); (try dsimp only)))
  w_strict ((try k_fold); k_steps; (all_goals (refine' hret _ _ _ _ _ _ _ _ ?a ?b ?c ?d ?e ?f; (case f => assumption); (case e => assumption); (case d => assumption); (case b => assumption); (case a => assumption); (case c => assumption))))
end Mine
end
/-! A1 -/
section
open PySem PySem.Spec PySem.Calls PySem.W PyProof.Rows
namespace Mine
theorem wd_c' {w : World} {fa : Addr} {cd : Value} {h₀ : Heap} {L : Addr} {s : Shared} {Q : Value → Shared → Prop} {R : Result → Shared → Prop} {m : Str → Option Value} {e₀ : Expr} {sc₀ : Scope}
  {p : Program} {loose : List Str} {mean : ExcName → Option Value} {mg mb : Str → Option Value} {ob : Obj} {bd : Int} {tb : Tok} {led : List (Addr × Obj)}
  (he : e₀ = asgE 4) (hsc : sc₀ = lawScope) (B : Below callerA h₀ [] h₀) (F : Fr h₀ L s.heap m) (X : (Mine.hd.heap_39 w.params).In h₀) (T : Top p loose mean mg mb h₀)
  (N : News h₀ L s.heap led) (h1 : (L + 1, ob) ∈ led) (hbig : ∃ q ∈ led, L + 1 < q.1) (hob : ob.data = .cell (some (.int bd tb))) (hb0 : 12 ≤ bd) (hb1 : bd ≤ 51)
  (hret : ∀ (h' : Heap) (tk' : Nat) (t : Tok) (wd : Int), WdOk bd wd → Fr h₀ L h' m → News h₀ L h' led → Q (.int wd t) {s with heap := h', toks := tk'}) :
  wpAny (model PySem.Challenge.rw_pg0186_01.row.prog w) (callerA.deeper (envOfC (Str.ofString "law") sc₀ L fa cd)) (eval e₀ (envOfC (Str.ofString "law") sc₀ L fa cd)) Q
    (fun e s' => wpAny (model PySem.Challenge.rw_pg0186_01.row.prog w) (callerA.deeper (envOfC (Str.ofString "law") sc₀ L fa cd)) (leaving (envOfC (Str.ofString "law") sc₀ L fa cd) e) (fun _ s'' => R (.error e) s'') (fun e' s'' => R (.error e') s'') s') s := by
  subst he; subst hsc
  obtain ⟨tp, otp, a1, a2⟩ := led_max led (by intro h; rw [h] at h1; cases h1)
  obtain ⟨q, hq, hlt⟩ := hbig
  refine wd_c (tp := tp) (otp := otp) (news := led) (base := h₀) B F X T (news_sub N ?_) hob (lt_of_le a2) (Nat.lt_of_lt_of_le hlt (a2 q hq)) hb0 hb1 fun h' tk' t wd hw F' N' => hret h' tk' t wd hw F' (news_sub N' fun p hp => .tail _ (.tail _ hp))
  intro p hp
  rcases List.mem_cons.mp hp with e | hp
  · rw [e]; exact h1
  rcases List.mem_cons.mp hp with e | hp
  · rw [e]; exact a1
  exact hp
theorem up_lt1 (a : Nat) : a + 1 < a + 1 + 1 := by omega
theorem a1_keep {h₀ h : Heap} {L : Addr} {q1 q2 q3 q4 q5 q6 : Addr × Obj} {r : List (Addr × Obj)} (N : News h₀ L h (q1 :: q2 :: q3 :: q4 :: q5 :: q6 :: r)) : News h₀ L h (q2 :: q3 :: r) := fun p hp => by
  refine N p ?_
  rcases List.mem_cons.mp hp with rfl | hp
  · exact .tail _ (.head _)
  rcases List.mem_cons.mp hp with rfl | hp
  · exact .tail _ (.tail _ (.head _))
  exact .tail _ (.tail _ (.tail _ (.tail _ (.tail _ (.tail _ hp)))))
set_option maxRecDepth 100000 in
set_option maxHeartbeats 1500000 in
theorem law_A {w : World} {fa : Addr} {cd : Value} {h₀ : Heap} {L : Addr} {s : Shared} {Q : Flow → Shared → Prop} {R : Result → Shared → Prop} {m : Str → Option Value}
  {p : Program} {loose : List Str} {mean : ExcName → Option Value} {mg mb : Str → Option Value} {sc : Addr} {vs : List Value} {ns : List Int} {o1 o2 o3 o4 o5 o6 : Obj}
  (B : Below callerA h₀ [] h₀) (F : Fr h₀ L s.heap (fun y => if y = Str.ofString "script" then some (.ref sc) else m y)) (X : (Mine.hd.heap_39 w.params).In h₀)
  (N : News h₀ L s.heap [(L + 1 + 1 + 1 + 1 + 1 + 1, o6), (L + 1 + 1 + 1 + 1 + 1, o5), (L + 1 + 1 + 1 + 1, o4), (L + 1 + 1 + 1, o3), (L + 1 + 1, o2), (L + 1, o1), (64, tabObj #[]), (30, tabObj #[]), (23, tabObj #[])]) (T : Top p loose mean mg mb h₀)
  (d1 : o1.data = .cell none) (d2 : o2.data = .cell none) (d3 : o3.data = .cell none) (d4 : o4.data = .cell none) (d5 : o5.data = .cell none) (d6 : o6.data = .cell none)
  (hl0 : @LT.lt Nat _ 64 L) (hs : h₀.IsList sc vs.toArray) (hi : IntsAre vs ns) (hns : ns.length ≤ 63)
  (hret : ∀ (h' : Heap) (tk' : Nat) (m' : Str → Option Value) (nb row : Addr) (a0 a1 a2 a3 a4 a5 : Int) (t0 t1 t2 t3 t4 t5 : Tok) (n0 : Nat) (us : List Value) (rs : List Int) (c : Nat) (bd wd : Int) (tb tw tm : Tok) (ob ow om : Obj),
    @LT.lt Nat _ (L + 1 + 1 + 1 + 1 + 1 + 1) nb → @LT.lt Nat _ nb row → 12 ≤ bd → bd ≤ 51 → WdOk bd wd → InsP bd [a1, a2, a3, a4, a5] rs → IntsAre us rs → ob.data = .cell (some (.int bd tb)) → ow.data = .cell (some (.int wd tw)) → om.data = .cell (some (.str (Str.ofString "") tm)) →
    m' (Str.ofString "row") = some (.ref row) → m' (Str.ofString "numbers") = some (.ref nb) → Fr h₀ L h' m' →
    News h₀ L h' [(row, listOf us.toArray c), (nb, listOf [Value.int a0 t0, .int a1 t1, .int a2 t2, .int a3 t3, .int a4 t4, .int a5 t5].toArray n0), (L + 1 + 1 + 1 + 1 + 1 + 1, o6), (L + 1 + 1 + 1 + 1 + 1, o5), (L + 1 + 1 + 1 + 1, o4), (L + 1 + 1 + 1, om), (L + 1 + 1, ow), (L + 1, ob), (64, tabObj #[]), (30, tabObj #[]), (23, tabObj #[])] →
    Q .next {s with heap := h', toks := tk'}) :
  wpAny (model PySem.Challenge.rw_pg0186_01.row.prog w) (callerA.deeper (lawEnv L fa cd)) (execs [lawSt 0, lawSt 1, lawSt 2, lawSt 3, lawSt 4, lawSt 5] (lawEnv L fa cd)) Q
    (fun e s' => wpAny (model PySem.Challenge.rw_pg0186_01.row.prog w) (callerA.deeper (lawEnv L fa cd)) (leaving (lawEnv L fa cd) e) (fun _ s'' => R (.error e) s'') (fun e' s'' => R (.error e') s'') s') s := by
  revert X; k_fill; intro X
  repeat (conv =>
    pattern lawSt _
    whnf)
  unfold lawEnv
  repeat (conv =>
    pattern lawScope
    whnf)
  k_with_none
  w_on
  (k_with "subscriptTail" => (k_here; (with_reducible show wpAny _ _ (subscriptTail _ (PySem.Expr.Slice none (some _) none _) (Value.ref _) (Value.ref _)) _ _ _); k_dflt (refine' lw_upto ?F ?N ?hl ?hi ?hn ?_ ?hs ?ht; (case F => k_asm); (case N => k_asm); (case hl => assumption); (case hi => assumption); (case hn => assumption); (case hs => with_unfolding_all rfl); (case ht => intro _; with_unfolding_all rfl)); intro D' ws' h' F' N' l1 hI'; (try k_lt l1); (try k_sweep)))
  (k_with "subscriptTail" => (k_here; (with_reducible show wpAny _ _ (subscriptTail (PySem.Expr.List _ _) (PySem.Expr.Slice (some _) none none _) (Value.ref _) (Value.ref _)) _ _ _); k_dflt (refine' lw_from ?F ?N ?hl ?_ ?hs; (case F => k_asm); (case N => k_asm); (case hl => k_mem); (case hs => with_unfolding_all rfl)); intro D' ws' h' F' N' l1 hI'; (try k_lt l1); (try k_sweep)))
  (k_with "binaryOp Add ref ref" => (k_here; k_dflt (refine' lw_add ?F ?N ?ha ?hb ?hi ?hj ?_; (case F => k_asm); (case N => k_asm); (case hj => assumption); (case hi => assumption); (case ha => k_mem); (case hb => k_mem)); intro D' a0' a1' a2' a3' a4' a5' t0' t1' t2' t3' t4' t5' h' F' N' l1; (try k_lt l1); (try k_sweep)))
  (k_with "binaryOp Add int int" => (k_here; (with_reducible show wpAny _ _ (binaryOp Operator.Add (Value.int 12 _) (Value.int (Int.fmod _ _) _)) _ _ _); k_dflt (refine' lw_bound ?_); intro bd' hb0' hb1' hM'))
  (k_with "subscriptTail" => (k_here; (with_reducible show wpAny _ _ (subscriptTail (PySem.Expr.Name _ _) (PySem.Expr.Slice (some _) none none _) (Value.ref _) (Value.ref _)) _ _ _); k_dflt (refine' lw_tail ?F ?N ?hl ?_ ?hs ?ht; (case F => k_asm); (case N => k_asm); (case hl => k_mem); (case hs => with_unfolding_all rfl); (case ht => intro _; with_unfolding_all rfl)); intro D' h' F' N' l1; (try k_lt l1); (try k_sweep)))
  (k_with "exec For Name Subscript cons nil" => (k_here; (rename Fr _ _ _ _ => lF'); (with_unfolding_all refine' For_invVF lF' ?k1 ?k2 ?_; (case k1 => exact rfl); (case k2 => exact rfl); k_whole)))
  (k_with "pyIter ref" => (k_here; (rename Fr _ _ _ _ => lF'); (rename News _ _ _ _ => lN'); (rename BdMark _ => lM'); k_dflt ((with_unfolding_all refine' lw_loop1 lM' ?hh ?hl ?hi lF' lN' ?hrow ?U ?hne (fun pre' v' t' us' rs' c' h' tk' own' hP' hr' hI' hU' F' N' => ?_) (fun u' us' rs' c' h' tk' hP' hI' F' N' => ?_)); (case hh => with_unfolding_all rfl); (case hl => k_mem); (case hi => l_ints); (case hrow => k_mem); (case U => k_updF); (case hne => k_ne)); (all_goals (try clear lF' lN')); (all_goals (try dsimp only at N')); (all_goals (try k_fold))))
  (k_with "LwPost" => (dsimp only [LwPost]))
  (k_with "LwEnd" => (refine lw_end1 (by assumption) (by assumption) (by assumption) (insP_step (by assumption) (by assumption) (by assumption)) (by intro z h1; first | rfl | (simp [h1]; done))))
  (k_with "call ref" => (k_here; (with_reducible show wpAny _ _ (call (Value.ref 44) [Value.ref _, Value.int _ _]) _ _ _); k_dflt (refine' ins_u ?B ?F ?X ?N ?T ?U ?hi ?hlen ?hs ?hd ?hu ?_; (case B => k_asm); (case F => k_asm); (case X => k_asm); (case N => k_asm); (case T => k_asm); (case U => assumption); (case hi => assumption); (case hlen => (simp only [List.length_cons, List.length_nil] at *; omega)); (case hs => exact And.left (by assumption)); (case hd => ktr_room); (case hu => ktr_units); k_whole); intro vs' ns' n' h' tk' hs' hp' hi' F' N'; (try dsimp only at N')))
  (k_with "eval Call" => (k_here; k_dflt (refine' wd_c' ?he ?hsc ?B ?F ?X ?T ?N ?h1 ?hbig ?hob ?hb0 ?hb1 ?_; (case he => (conv => rhs; whnf)); (case hsc => (conv => rhs; whnf)); (case B => k_asm); (case F => k_asm); (case X => k_asm); (case T => k_asm); (case N => k_asm); (case h1 => k_mem); (case hbig => exact ⟨(_ + 1 + 1, _), by k_mem, up_lt1 _⟩); (case hob => assumption); (case hb0 => assumption); (case hb1 => assumption)); intro h' tk' t' wd' hW' F' N'))
  w_strict ((try k_fold); k_steps; (all_goals (refine' hret _ _ _ _ _ _ _ _ _ _ _ _ _ _ _ _ _ _ _ _ _ _ _ _ _ _ _ _ _ ?p1 ?p2 ?p3 ?p4 ?p5 ?p6 ?p7 ?p8 ?p9 ?p10 ?p11 ?p12 ?p13 ?p14; (case p13 => assumption); (case p14 => exact a1_keep (by assumption)); (case p11 => rfl); (case p12 => rfl); (case p1 => (refine ltN ?_; omega)); (case p2 => (refine ltN ?_; omega)); (case p3 => assumption); (case p4 => assumption); (case p6 => assumption); (case p5 => assumption); (case p7 => assumption); (case p8 => assumption); (case p9 => assumption); (case p10 => assumption))))
end Mine
end
/-! B1 -/
section
open PySem PySem.Spec PySem.Calls PySem.W PyProof.Rows
namespace Mine
section
variable {w : World} {dp un : Nat} {gd : Option (List Code)} {cn : Str} {nm : List (Str × NameKind)} {ig ic : Bool} {mo : List (Str × Const)} {a : Addr} {ccd : Value} {cl : List (Str × Addr)} {outer : List Env} {A₀ : Around} {base h₀ : Heap} {L : Addr} {m : Str → Option Value} {s : Shared} {Q E : Value → Shared → Prop}
  {p : Program} {loose : List Str} {mean : ExcName → Option Value} {mg mb : Str → Option Value} {led : List (Addr × Obj)} {g : Obj → List (Addr × Obj)}
theorem led_ne {q : Addr × Obj} (h : q ∈ led) : led ≠ [] := by intro e; rw [e] at h; cases h
theorem allLt_mono {d : Addr} {a b : List (Addr × Obj)} (h : ∀ p ∈ a, @LE.le Nat _ p.1 d) (hs : ∀ p ∈ b, p ∈ a) : AllLt (d + 1) b := allLt_of_le fun p hp => h p (hs p hp)
theorem di_u {nd : Int} {tn : Tok} {D : Addr} {n : Nat} {vs : List Value} {ds : List Int}
  (B : Below A₀ base outer h₀) (F : Fr h₀ L s.heap m) (X : (Mine.hd.heap_39 w.params).In h₀) (N : News h₀ L s.heap led) (T : Top p loose mean mg mb h₀) (C : CodeHd base 34 30)
  (U : UpdF 30 (tabObj #[]) led g) (hD : (D, listOf vs.toArray n) ∈ led) (hDne : @Ne Nat D 30) (hi : IntsAre vs ds) (hlen : ds.length = 5) (hb : ∀ d ∈ ds, 0 ≤ d ∧ d < 2 ^ nd.toNat) (hbig : ∃ q ∈ led, @LT.lt Nat _ 30 q.1)
  (hdp : dp + 50 < recursionLimit) (hun : un + 600 < cLine) (hw0 : 1 ≤ nd) (hw1 : nd ≤ 3)
  (hret : ∀ (r : Int) (t : Tok) (h' : Heap) (tk' : Nat) (ps : Array Value), r = DV nd ds →
    Fr h₀ L h' m → News h₀ L h' (g (tabObj ps)) → Q (.int r t) {s with heap := h', toks := tk'}) :
  wpAny (model PySem.Challenge.rw_pg0186_01.row.prog w) (ktrTop dp un gd cn {kind := .function, names := nm, isGenerator := ig, isCoroutine := ic, more := mo} L a ccd cl outer) (call (.ref 35) [.ref D, .int nd tn]) Q E s := by
  obtain ⟨pre, post, e1, e2, c1, c2⟩ := U.split
  obtain ⟨tp, otp, m1, m2⟩ := led_max led (led_ne hD)
  obtain ⟨q, hq, hlt⟩ := hbig
  have hsub : ∀ p ∈ pre ++ post, p ∈ led := fun p hp => by
    rw [e1]
    exact (List.mem_append.mp hp).elim (fun h => List.mem_append.mpr (.inl h)) (fun h => List.mem_append.mpr (.inr (.tail _ h)))
  refine di_c (tp := tp) (otp := otp) (news := pre ++ post) (n := n) (vs := vs) B F X (fun p hp => N p ?_) T C (fun p hp => (List.mem_append.mp hp).elim (c1 p) (c2 p)) hDne (allLt_mono m2 hsub) (m2 _ hD) (Nat.lt_of_lt_of_le hlt (m2 q hq)) hdp hun hw0 hw1 hi hlen hb
    (fun r t h' tk' ps hr F' N' => hret r t h' tk' ps hr F' (fun p hp => N' p ?_))
  · rcases List.mem_cons.mp hp with e | hp
    · rw [e, e1]; exact List.mem_append.mpr (.inr (.head _))
    rcases List.mem_cons.mp hp with e | hp
    · rw [e]; exact m1
    rcases List.mem_cons.mp hp with e | hp
    · rw [e]; exact hD
    exact hsub p hp
  · rw [e2] at hp
    rcases List.mem_append.mp hp with h | h
    · exact .tail _ (.tail _ (.tail _ (List.mem_append.mpr (.inl h))))
    · rcases List.mem_cons.mp h with e | h
      · rw [e]; exact .head _
      · exact .tail _ (.tail _ (.tail _ (List.mem_append.mpr (.inr h))))
theorem in_u {nd pk : Int} {tn ta : Tok}
  (B : Below A₀ base outer h₀) (F : Fr h₀ L s.heap m) (X : (Mine.hd.heap_39 w.params).In h₀) (N : News h₀ L s.heap led) (T : Top p loose mean mg mb h₀) (C : CodeHd base 27 23)
  (U : UpdF 23 (tabObj #[]) led g) (hbig : ∃ q ∈ led, @LT.lt Nat _ 23 q.1)
  (hdp : dp + 50 < recursionLimit) (hun : un + 600 < cLine) (hw0 : 1 ≤ nd) (hw1 : nd ≤ 3) (hp0 : 0 ≤ pk) (hp1 : pk < 2 ^ (5 * nd).toNat) (hp2 : pk < 32768)
  (hret : ∀ (D : Addr) (vs : List Value) (ns : List Int) (n : Nat) (h' : Heap) (tk' : Nat) (ps : Array Value), IntsAre vs ns → OutDig nd pk ns → (∀ p ∈ led, p.1 < D) →
    Fr h₀ L h' m → News h₀ L h' ((D, listOf vs.toArray n) :: g (tabObj ps)) → Q (.ref D) {s with heap := h', toks := tk'}) :
  wpAny (model PySem.Challenge.rw_pg0186_01.row.prog w) (ktrTop dp un gd cn {kind := .function, names := nm, isGenerator := ig, isCoroutine := ic, more := mo} L a ccd cl outer) (call (.ref 28) [.int pk ta, .int nd tn]) Q E s := by
  obtain ⟨pre, post, e1, e2, c1, c2⟩ := U.split
  obtain ⟨q, hq, hlt⟩ := hbig
  obtain ⟨tp, otp, m1, m2⟩ := led_max led (led_ne hq)
  have hsub : ∀ p ∈ pre ++ post, p ∈ led := fun p hp => by
    rw [e1]
    exact (List.mem_append.mp hp).elim (fun h => List.mem_append.mpr (.inl h)) (fun h => List.mem_append.mpr (.inr (.tail _ h)))
  refine in_c (tp := tp) (otp := otp) (news := pre ++ post) B F X (fun p hp => N p ?_) T C (fun p hp => (List.mem_append.mp hp).elim (c1 p) (c2 p)) (allLt_mono m2 hsub) (Nat.lt_of_lt_of_le hlt (m2 q hq)) hdp hun hw0 hw1 hp0 hp1 hp2
    (fun D vs ns n h' tk' ps hi ho hD F' N' => hret D vs ns n h' tk' ps hi ho (fun p hp => Nat.lt_of_le_of_lt (m2 p hp) hD) F' (fun p hp => N' p ?_))
  · rcases List.mem_cons.mp hp with e | hp
    · rw [e, e1]; exact List.mem_append.mpr (.inr (.head _))
    rcases List.mem_cons.mp hp with e | hp
    · rw [e]; exact m1
    exact hsub p hp
  · rcases List.mem_cons.mp hp with e | hp
    · rw [e]; exact .head _
    rw [e2] at hp
    rcases List.mem_append.mp hp with h | h
    · exact .tail _ (.tail _ (.tail _ (List.mem_append.mpr (.inl h))))
    · rcases List.mem_cons.mp h with e | h
      · rw [e]; exact .tail _ (.head _)
      · exact .tail _ (.tail _ (.tail _ (List.mem_append.mpr (.inr h))))
theorem lp_u {marks sign : Str} {c : Nat} {many : Int} {tm ts tk : Tok}
  (B : Below A₀ base outer h₀) (F : Fr h₀ L s.heap m) (X : (Mine.hd.heap_39 w.params).In h₀) (N : News h₀ L s.heap led) (T : Top p loose mean mg mb h₀) (C : CodeHd base 68 64)
  (U : UpdF 64 (tabObj #[]) led g) (hbig : ∃ q ∈ led, @LT.lt Nat _ 64 q.1)
  (hdp : dp + 20 < recursionLimit) (hun : un + 300 < cLine) (hwl : marks.length < 100) (hs : sign = ⟨#[c]⟩) (hc : c = 48 ∨ c = 49) (hk0 : 0 ≤ many) (hk : many < 12)
  (hret : ∀ (r : Int) (t : Tok) (h' : Heap) (tk' : Nat) (c' : Addr) (oc : Obj) (vq : Array Value) (tq : Tok), 0 ≤ r → r ≤ (marks.length : Int) + 1 → LpP marks c many.toNat r r → oc.data = .fields vq → vq[1]? = some (.str QLam tq) → (∀ p ∈ led, p.1 < c') →
    Fr h₀ L h' m → News h₀ L h' ((c', oc) :: g (LamTab c')) → Q (.int r t) {s with heap := h', toks := tk'}) :
  wpAny (model PySem.Challenge.rw_pg0186_01.row.prog w) (ktrTop dp un gd cn {kind := .function, names := nm, isGenerator := ig, isCoroutine := ic, more := mo} L a ccd cl outer) (call (.ref 69) [.str marks tm, .str sign ts, .int many tk]) Q E s := by
  subst hs
  obtain ⟨k, rfl⟩ := Int.eq_ofNat_of_zero_le hk0
  obtain ⟨pre, post, e1, e2, c1, c2⟩ := U.split
  obtain ⟨q, hq, hlt⟩ := hbig
  obtain ⟨tp, otp, m1, m2⟩ := led_max led (led_ne hq)
  have hsub : ∀ p ∈ pre ++ post, p ∈ led := fun p hp => by
    rw [e1]
    exact (List.mem_append.mp hp).elim (fun h => List.mem_append.mpr (.inl h)) (fun h => List.mem_append.mpr (.inr (.tail _ h)))
  refine lp_c (tp := tp) (otp := otp) (news := pre ++ post) B F X (fun p hp => N p ?_) T C (fun p hp => (List.mem_append.mp hp).elim (c1 p) (c2 p)) (allLt_mono m2 hsub) (Nat.lt_of_lt_of_le hlt (m2 q hq)) hdp hun hwl hc (by omega)
    (fun r t h' tk' c' oc vs tq r0 r1 hP ho hv hc' F' N' => hret r t h' tk' c' oc vs tq r0 r1 (by rw [show ((k : Int)).toNat = k from Int.toNat_natCast k]; exact hP) ho hv (fun p hp => Nat.lt_of_le_of_lt (m2 p hp) hc') F' (fun p hp => N' p ?_))
  · rcases List.mem_cons.mp hp with e | hp
    · rw [e, e1]; exact List.mem_append.mpr (.inr (.head _))
    rcases List.mem_cons.mp hp with e | hp
    · rw [e]; exact m1
    exact hsub p hp
  · rcases List.mem_cons.mp hp with e | hp
    · rw [e]; exact .head _
    rw [e2] at hp
    rcases List.mem_append.mp hp with h | h
    · exact .tail _ (.tail _ (.tail _ (List.mem_append.mpr (.inl h))))
    · rcases List.mem_cons.mp h with e | h
      · rw [e]; exact .tail _ (.head _)
      · exact .tail _ (.tail _ (.tail _ (List.mem_append.mpr (.inr h))))
end
end Mine
end
/-! C7 -/
section
open PySem PySem.Spec PySem.Calls PySem.W PyProof.Rows
namespace Mine
theorem big_L {h₀ h : Heap} {L : Addr} {m : Str → Option Value} {led : List (Addr × Obj)} {o : Obj} {k : Nat} (_F : Fr h₀ L h m) (hm : (L + 1 + 1, o) ∈ led) (h : @LT.lt Nat _ 64 L) (hk : k ≤ 64) : ∃ q ∈ led, @LT.lt Nat _ k q.1 :=
  ⟨_, hm, Nat.lt_of_le_of_lt hk (Nat.lt_succ_of_lt (Nat.lt_succ_of_lt h))⟩
theorem dg_bd {wd : Int} {rs : List Int} : ∀ d ∈ rs.map (fun k => Int.fmod k (2 ^ wd.toNat)), 0 ≤ d ∧ d < 2 ^ wd.toNat := by
  intro d hd
  obtain ⟨k, _, rfl⟩ := List.mem_map.mp hd
  exact ⟨fmod_lo k (dp_pos _), fmod_hi k (dp_pos _)⟩
set_option maxRecDepth 100000 in
set_option maxHeartbeats 400000 in
theorem st7 {w : World} {fa : Addr} {cd : Value} {h₀ : Heap} {L : Addr} {s : Shared} {Q : Flow → Shared → Prop} {R : Result → Shared → Prop} {m : Str → Option Value}
  {p : Program} {loose : List Str} {mean : ExcName → Option Value} {mg mb : Str → Option Value} {ow : Obj} {wd : Int} {tw : Tok} {news : List (Addr × Obj)} {tp row : Addr} {otp : Obj} {us : List Value} {rs : List Int} {c : Nat}
  (B : Below callerA h₀ [] h₀) (F : Fr h₀ L s.heap (fun y => if y = Str.ofString "row" then some (.ref row) else m y)) (X : (Mine.hd.heap_39 w.params).In h₀) (T : Top p loose mean mg mb h₀) (C2 : CodeHd h₀ 34 30)
  (N : News h₀ L s.heap ((30, tabObj #[]) :: (row, listOf us.toArray c) :: (L + 1 + 1, ow) :: (tp, otp) :: news)) (how : ow.data = .cell (some (.int wd tw))) (htp : AllLt (tp + 1) news) (h64 : @LT.lt Nat _ 64 L) (hL : @LT.lt Nat _ (L + 1 + 1) (tp + 1)) (hrow : @LT.lt Nat _ row (tp + 1)) (hr2 : @LT.lt Nat _ (L + 1 + 1) row)
  (hne : ∀ p ∈ news, p.1 ≠ 30) (hi : IntsAre us rs) (hlen : rs.length = 5) (hw0 : 1 ≤ wd) (hw1 : wd ≤ 3)
  (hret : ∀ (h' : Heap) (tk' : Nat) (t : Tok) (pk : Int) (ps : Array Value), pk = DV wd (rs.map fun k => k.fmod (2 ^ wd.toNat)) →
    Fr h₀ L h' (fun y => if y = Str.ofString "packed" then some (.int pk t) else if y = Str.ofString "row" then some (.ref row) else m y) → News h₀ L h' ((30, tabObj ps) :: (row, listOf us.toArray c) :: (L + 1 + 1, ow) :: (tp, otp) :: news) → Q .next {s with heap := h', toks := tk'}) :
  wpAny (model PySem.Challenge.rw_pg0186_01.row.prog w) (callerA.deeper (lawEnv L fa cd)) (exec (lawSt 7) (lawEnv L fa cd)) Q
    (fun e s' => wpAny (model PySem.Challenge.rw_pg0186_01.row.prog w) (callerA.deeper (lawEnv L fa cd)) (leaving (lawEnv L fa cd) e) (fun _ s'' => R (.error e) s'') (fun e' s'' => R (.error e') s'') s') s := by
  revert X; k_fill; intro X
  repeat (conv =>
    pattern lawSt _
    whnf)
  unfold lawEnv
  repeat (conv =>
    pattern lawScope
    whnf)
  k_with_none
  w_on
  (k_with "call ref" => (k_here; (with_reducible show wpAny _ _ (call (Value.ref 35) [Value.ref _, Value.int _ _]) _ _ _); (k_dflt (refine' di_u ?B ?F ?X ?N ?T ?C ?U ?hD ?hDne ?hi ?hlen ?hb ?hbig ?hdp ?hun ?hw0 ?hw1 ?_; (case B => k_asm); (case F => k_asm); (case X => k_asm); (case N => k_asm); (case T => k_asm); (case C => assumption); (case hi => assumption); (case U => k_updF); (case hD => k_mem); (case hDne => k_ne); (case hlen => (rw [List.length_map]; assumption)); (case hb => exact dg_bd); (case hbig => exact big_L (by k_asm) (by k_mem) (by assumption) (by decide)); (case hdp => ktr_room); (case hun => ktr_units); (case hw0 => assumption); (case hw1 => assumption))); intro r' t' h' tk' ps' hr' F' N'; (try dsimp only at N')))
  w_strict ((try k_fold); k_steps; (all_goals exact hret _ _ _ _ _ (by assumption) (by assumption) (news_tl (by assumption))))
theorem st7' {w : World} {fa : Addr} {cd : Value} {h₀ : Heap} {L : Addr} {s : Shared} {Q : Flow → Shared → Prop} {R : Result → Shared → Prop} {m : Str → Option Value}
  {p : Program} {loose : List Str} {mean : ExcName → Option Value} {mg mb : Str → Option Value} {ow : Obj} {wd : Int} {tw : Tok} {led : List (Addr × Obj)} {g : Obj → List (Addr × Obj)} {row : Addr} {us : List Value} {rs : List Int} {c : Nat}
  (B : Below callerA h₀ [] h₀) (F : Fr h₀ L s.heap m) (hm : m (Str.ofString "row") = some (.ref row)) (X : (Mine.hd.heap_39 w.params).In h₀) (T : Top p loose mean mg mb h₀) (C2 : CodeHd h₀ 34 30)
  (N : News h₀ L s.heap led) (U : UpdF 30 (tabObj #[]) led g) (h1 : (row, listOf us.toArray c) ∈ led) (h2 : (L + 1 + 1, ow) ∈ led) (how : ow.data = .cell (some (.int wd tw))) (h64 : @LT.lt Nat _ 64 L) (hr2 : @LT.lt Nat _ (L + 1 + 1) row)
  (hi : IntsAre us rs) (hlen : rs.length = 5) (hw0 : 1 ≤ wd) (hw1 : wd ≤ 3)
  (hret : ∀ (h' : Heap) (tk' : Nat) (t : Tok) (pk : Int) (ps : Array Value), pk = DV wd (rs.map fun k => k.fmod (2 ^ wd.toNat)) →
    Fr h₀ L h' (fun y => if y = Str.ofString "packed" then some (.int pk t) else m y) → News h₀ L h' (g (tabObj ps)) → Q .next {s with heap := h', toks := tk'}) :
  wpAny (model PySem.Challenge.rw_pg0186_01.row.prog w) (callerA.deeper (lawEnv L fa cd)) (exec (lawSt 7) (lawEnv L fa cd)) Q
    (fun e s' => wpAny (model PySem.Challenge.rw_pg0186_01.row.prog w) (callerA.deeper (lawEnv L fa cd)) (leaving (lawEnv L fa cd) e) (fun _ s'' => R (.error e) s'') (fun e' s'' => R (.error e') s'') s') s := by
  obtain ⟨pre, post, e1, e2, c1, c2⟩ := U.split
  obtain ⟨tp, otp, m1, m2⟩ := led_max led (led_ne h1)
  have hsub : ∀ p ∈ pre ++ post, p ∈ led := fun p hp => by
    rw [e1]
    exact (List.mem_append.mp hp).elim (fun h => List.mem_append.mpr (.inl h)) (fun h => List.mem_append.mpr (.inr (.tail _ h)))
  refine st7 (tp := tp) (otp := otp) (news := pre ++ post) (row := row) (c := c) B (fr_pin F hm) X T C2 (fun p hp => N p ?_) how (allLt_mono m2 hsub) h64 (Nat.lt_succ_of_le (m2 _ h2)) (Nat.lt_succ_of_le (m2 _ h1)) hr2 (fun p hp => (List.mem_append.mp hp).elim (c1 p) (c2 p)) hi hlen hw0 hw1
    (fun h' tk' t pk ps hpk F' N' => hret h' tk' t pk ps hpk ?_ (fun p hp => N' p ?_))
  · rcases List.mem_cons.mp hp with e | hp
    · rw [e, e1]; exact List.mem_append.mpr (.inr (.head _))
    rcases List.mem_cons.mp hp with e | hp
    · rw [e]; exact h1
    rcases List.mem_cons.mp hp with e | hp
    · rw [e]; exact h2
    rcases List.mem_cons.mp hp with e | hp
    · rw [e]; exact m1
    exact hsub p hp
  · have e : (fun y => if y = Str.ofString "packed" then some (Value.int pk t) else m y) = (fun y => if y = Str.ofString "packed" then some (Value.int pk t) else if y = Str.ofString "row" then some (.ref row) else m y) := by
      funext y
      by_cases h1 : y = Str.ofString "row"
      · rw [if_pos h1, h1, hm]
      · rw [if_neg h1]
    rw [e]; exact F'
  · rw [e2] at hp
    rcases List.mem_append.mp hp with h | h
    · exact .tail _ (.tail _ (.tail _ (.tail _ (List.mem_append.mpr (.inl h)))))
    · rcases List.mem_cons.mp h with e | h
      · rw [e]; exact .head _
      · exact .tail _ (.tail _ (.tail _ (.tail _ (List.mem_append.mpr (.inr h)))))
end Mine
end
/-! C8 -/
section
open PySem PySem.Spec PySem.Calls PySem.W PyProof.Rows
namespace Mine
def DigOk (nd pk : Int) (ds : List Int) : Prop := ds.length = 5 ∧ ∀ i : Nat, ds.getD i 0 = dig nd pk i
theorem digOk_of {nd pk : Int} {ns : List Int} {k : Nat} (h : OutDig nd pk ns) (hk : k = ns.length) : DigOk nd pk (ns ++ List.replicate (5 - k) 0) := by
  have h5 := h.1
  refine ⟨by rw [List.length_append, List.length_replicate]; omega, fun i => ?_⟩
  rw [← h.2 i, List.getD_eq_getElem?_getD, List.getD_eq_getElem?_getD, List.getElem?_append]
  by_cases hi : i < ns.length
  · rw [if_pos hi]
  · rw [if_neg hi, List.getElem?_replicate, List.getElem?_eq_none (Nat.le_of_not_lt hi)]
    split <;> rfl
section
variable {prog : Program} {w : World} {A : Around} {E : Value → Shared → Prop} {s : Shared} {h₀ : Heap} {L : Addr} {m : Str → Option Value} {news : List (Addr × Obj)} {t u : Tok} {Q : Value → Shared → Prop}
theorem dl_len {D : Addr} {vs : List Value} {ns : List Int} {n : Nat} {nd pk : Int} (N : News h₀ L s.heap news) (hm : (D, listOf vs.toArray n) ∈ news) (hi : IntsAre vs ns) (ho : OutDig nd pk ns)
    (h : ∀ (k : Nat) (t' : Tok) (tk : Nat), k = ns.length → k ≤ 5 → Q (.int (k : Int) t') { s with toks := tk }) : wpAny (model prog w) A (call (.builtin "len") [.ref D]) Q E s := by
  have e : vs.toArray.size = ns.length := by rw [List.size_toArray, hi.length]
  have h5 := ho.1
  refine Calls.call_len_list (N.isList hm) (by rw [e]; omega) ?_
  rw [e]; exact h _ _ _ rfl h5
theorem dl_rep {D0 : Addr} {n0 k : Nat} (F : Fr h₀ L s.heap m) (N : News h₀ L s.heap news) (hl : (D0, listOf [Value.int 0 t].toArray n0) ∈ news) (hk : k ≤ 5)
    (h : ∀ D us c h', IntsAre us (List.replicate (5 - k) 0) → Fr h₀ L h' m → News h₀ L h' ((D, listOf (List.toArray us) c) :: news) → (∀ p ∈ news, p.1 < D) → Q (.ref D) { s with heap := h' }) :
    wpAny (model prog w) A (binaryOp .Mult (.ref D0) (.int (5 - (k : Int)) u)) Q E s := by
  refine KM.mul F N (N.isList hl) (.cons 0 t .nil) (by omega) (by omega) (by simp only [List.length_cons, List.length_nil]; omega) (fun D h' F' N' hlt hi _ _ _ _ _ => ?_)
  rw [flat_rep, show List.replicate (5 - (k : Int)).toNat (0 : Int) = List.replicate (5 - k) 0 from congrArg (fun n => List.replicate n (0 : Int)) (by omega)] at hi
  exact h D _ 0 h' hi F' N' hlt
theorem dl_add {a b : Addr} {vs ws : List Value} {ns : List Int} {n1 n2 k : Nat} {nd pk : Int} (F : Fr h₀ L s.heap m) (N : News h₀ L s.heap news) (ha : (a, listOf vs.toArray n1) ∈ news) (hb : (b, listOf ws.toArray n2) ∈ news) (hi : IntsAre vs ns) (hj : IntsAre ws (List.replicate (5 - k) 0)) (ho : OutDig nd pk ns) (hk : k = ns.length)
    (h : ∀ D us ds h', IntsAre us ds → DigOk nd pk ds → Fr h₀ L h' m → News h₀ L h' ((D, listOf (List.toArray us) 0) :: news) → (∀ p ∈ news, p.1 < D) → Q (.ref D) { s with heap := h' }) :
    wpAny (model prog w) A (binaryOp .Add (.ref a) (.ref b)) Q E s :=
  kmk_add_ints F N (N.isList ha) (N.isList hb) hi hj (fun D us h' F' N' l1 hI => h D us _ h' hI (digOk_of ho hk) F' N' l1) (by
    have h5 := ho.1
    rw [sizeLine_eq, List.length_replicate]; omega)
end
theorem d8_keep {h₀ h : Heap} {L : Addr} {q1 q2 q3 q4 : Addr × Obj} {r : List (Addr × Obj)} (N : News h₀ L h (q1 :: q2 :: q3 :: q4 :: r)) : News h₀ L h (q1 :: r) := fun p hp => by
  refine N p ?_
  rcases List.mem_cons.mp hp with rfl | hp
  · exact .head _
  exact .tail _ (.tail _ (.tail _ (.tail _ hp)))
set_option maxRecDepth 100000 in
set_option maxHeartbeats 400000 in
theorem st89 {w : World} {fa : Addr} {cd : Value} {h₀ : Heap} {L : Addr} {s : Shared} {Q : Flow → Shared → Prop} {R : Result → Shared → Prop} {m : Str → Option Value}
  {p : Program} {loose : List Str} {mean : ExcName → Option Value} {mg mb : Str → Option Value} {ow od : Obj} {wd pk : Int} {tw tpk : Tok} {news : List (Addr × Obj)} {tp : Addr} {otp : Obj} {vd : Option Value}
  (B : Below callerA h₀ [] h₀) (F : Fr h₀ L s.heap (fun y => if y = Str.ofString "packed" then some (.int pk tpk) else m y)) (X : (Mine.hd.heap_39 w.params).In h₀) (T : Top p loose mean mg mb h₀) (C3 : CodeHd h₀ 27 23)
  (N : News h₀ L s.heap ((23, tabObj #[]) :: (L + 1 + 1 + 1 + 1 + 1, od) :: (L + 1 + 1, ow) :: (tp, otp) :: news)) (how : ow.data = .cell (some (.int wd tw))) (hod : od.data = .cell vd) (htp : AllLt (tp + 1) news) (h64 : @LT.lt Nat _ 64 L) (hL : @LT.lt Nat _ (L + 1 + 1 + 1 + 1 + 1) tp)
  (hne : ∀ p ∈ news, p.1 ≠ 23) (hne5 : ∀ p ∈ news, p.1 ≠ L + 1 + 1 + 1 + 1 + 1) (hw0 : 1 ≤ wd) (hw1 : wd ≤ 3) (hp0 : 0 ≤ pk) (hp1 : pk < 2 ^ (5 * wd).toNat) (hp2 : pk < 32768)
  (hret : ∀ (h' : Heap) (tk' : Nat) (D : Addr) (vs : List Value) (ds : List Int) (od' : Obj) (ps : Array Value), IntsAre vs ds → DigOk wd pk ds → od'.data = .cell (some (.ref D)) → @LT.lt Nat _ tp D →
    Fr h₀ L h' (fun y => if y = Str.ofString "packed" then some (.int pk tpk) else m y) → News h₀ L h' ((D, listOf vs.toArray 0) :: (23, tabObj ps) :: (L + 1 + 1 + 1 + 1 + 1, od') :: (L + 1 + 1, ow) :: (tp, otp) :: news) → Q .next {s with heap := h', toks := tk'}) :
  wpAny (model PySem.Challenge.rw_pg0186_01.row.prog w) (callerA.deeper (lawEnv L fa cd)) (execs [lawSt 8, lawSt 9] (lawEnv L fa cd)) Q
    (fun e s' => wpAny (model PySem.Challenge.rw_pg0186_01.row.prog w) (callerA.deeper (lawEnv L fa cd)) (leaving (lawEnv L fa cd) e) (fun _ s'' => R (.error e) s'') (fun e' s'' => R (.error e') s'') s') s := by
  revert X; k_fill; intro X
  repeat (conv =>
    pattern lawSt _
    whnf)
  unfold lawEnv
  repeat (conv =>
    pattern lawScope
    whnf)
  k_with_none
  w_on
  (k_with "call ref" => (k_here; (with_reducible show wpAny _ _ (call (Value.ref 28) [Value.int _ _, Value.int _ _]) _ _ _); (k_dflt (refine' in_u ?B ?F ?X ?N ?T ?C ?U ?hbig ?hdp ?hun ?hw0 ?hw1 ?hp0 ?hp1 ?hp2 ?_; (case B => k_asm); (case F => k_asm); (case X => k_asm); (case N => k_asm); (case T => k_asm); (case C => assumption); (case U => k_updF); (case hbig => exact big_L (by k_asm) (by k_mem) (by assumption) (by decide)); (case hdp => ktr_room); (case hun => ktr_units); (case hw0 => assumption); (case hw1 => assumption); (case hp0 => assumption); (case hp1 => assumption); (case hp2 => assumption))); intro D' vs' ns' n' h' tk' ps' hi' ho' l1 F' N'; (try dsimp only at N'); (try k_lt l1)))
  (k_with "call builtin:len" => (k_here; (with_reducible show wpAny _ _ (call (Value.builtin "len") [Value.ref _]) _ _ _); k_dflt (refine' dl_len ?N ?hm ?hi ?ho ?_; (case N => k_asm); (case ho => assumption); (case hi => assumption); (case hm => k_mem)); intro k' t' tk' hk' hk5'))
  (k_with "binaryOp Mult ref int" => (k_here; (k_dflt (refine' dl_rep ?F ?N ?hl ?hk ?_; (case F => k_asm); (case N => k_asm); (case hl => k_mem); (case hk => assumption))); intro D' us' c' h' hi' F' N' l1; (try k_lt l1)))
  (k_with "binaryOp Add ref ref" => (k_here; (k_dflt (refine' dl_add ?F ?N ?ha ?hb ?hi ?hj ?ho ?hk ?_; (case F => k_asm); (case N => k_asm); (case ho => assumption); (case hi => assumption); (case hk => assumption); (case hj => assumption); (case ha => k_mem); (case hb => k_mem))); intro D' us' ds' h' hi' hd' F' N' l1; (try k_lt l1)))
  w_strict ((try k_fold); k_steps; (all_goals (refine' hret _ _ _ _ _ _ _ ?a1 ?a2 ?a3 ?a4 ?a5 ?a6; (case a5 => assumption); (case a6 => exact d8_keep (by assumption)); (case a1 => assumption); (case a2 => assumption); (case a3 => assumption); (case a4 => (refine ltN ?_; omega)))))
theorem st89' {w : World} {fa : Addr} {cd : Value} {h₀ : Heap} {L : Addr} {s : Shared} {Q : Flow → Shared → Prop} {R : Result → Shared → Prop} {m : Str → Option Value}
  {p : Program} {loose : List Str} {mean : ExcName → Option Value} {mg mb : Str → Option Value} {ow od : Obj} {wd pk : Int} {tw tpk : Tok} {led rest : List (Addr × Obj)} {vd : Option Value}
  (B : Below callerA h₀ [] h₀) (F : Fr h₀ L s.heap m) (hm : m (Str.ofString "packed") = some (.int pk tpk)) (X : (Mine.hd.heap_39 w.params).In h₀) (T : Top p loose mean mg mb h₀) (C3 : CodeHd h₀ 27 23)
  (N : News h₀ L s.heap led) (hs : ∀ p ∈ (23, tabObj #[]) :: (L + 1 + 1 + 1 + 1 + 1, od) :: rest, p ∈ led) (h2 : (L + 1 + 1, ow) ∈ rest) (how : ow.data = .cell (some (.int wd tw))) (hod : od.data = .cell vd) (h64 : @LT.lt Nat _ 64 L) (hbig : ∃ q ∈ rest, @LT.lt Nat _ (L + 1 + 1 + 1 + 1 + 1) q.1)
  (hne : ∀ p ∈ rest, p.1 ≠ 23) (hne5 : ∀ p ∈ rest, p.1 ≠ L + 1 + 1 + 1 + 1 + 1) (hw0 : 1 ≤ wd) (hw1 : wd ≤ 3) (hp0 : 0 ≤ pk) (hp1 : pk < 2 ^ (5 * wd).toNat) (hp2 : pk < 32768)
  (hret : ∀ (h' : Heap) (tk' : Nat) (D : Addr) (vs : List Value) (ds : List Int) (od' : Obj) (ps : Array Value), IntsAre vs ds → DigOk wd pk ds → od'.data = .cell (some (.ref D)) → (∀ p ∈ rest, p.1 < D) →
    Fr h₀ L h' m → News h₀ L h' ((D, listOf vs.toArray 0) :: (23, tabObj ps) :: (L + 1 + 1 + 1 + 1 + 1, od') :: rest) → Q .next {s with heap := h', toks := tk'}) :
  wpAny (model PySem.Challenge.rw_pg0186_01.row.prog w) (callerA.deeper (lawEnv L fa cd)) (execs [lawSt 8, lawSt 9] (lawEnv L fa cd)) Q
    (fun e s' => wpAny (model PySem.Challenge.rw_pg0186_01.row.prog w) (callerA.deeper (lawEnv L fa cd)) (leaving (lawEnv L fa cd) e) (fun _ s'' => R (.error e) s'') (fun e' s'' => R (.error e') s'') s') s := by
  obtain ⟨tp, otp, m1, m2⟩ := led_max rest (led_ne h2)
  obtain ⟨q, hq, hlt⟩ := hbig
  refine st89 (tp := tp) (otp := otp) (news := rest) B (fr_pin F hm) X T C3 (fun p hp => N p (hs p ?_)) how hod (allLt_mono m2 fun _ h => h) h64 (Nat.lt_of_lt_of_le hlt (m2 q hq)) hne hne5 hw0 hw1 hp0 hp1 hp2
    (fun h' tk' D vs ds od' ps hi hd ho hlt F' N' => hret h' tk' D vs ds od' ps hi hd ho (fun p hp => Nat.lt_of_le_of_lt (m2 p hp) hlt) (fr_unpin F' hm) (fun p hp => N' p ?_))
  · rcases List.mem_cons.mp hp with e | hp
    · rw [e]; exact .head _
    rcases List.mem_cons.mp hp with e | hp
    · rw [e]; exact .tail _ (.head _)
    rcases List.mem_cons.mp hp with e | hp
    · rw [e]; exact .tail _ (.tail _ h2)
    rcases List.mem_cons.mp hp with e | hp
    · rw [e]; exact .tail _ (.tail _ m1)
    exact .tail _ (.tail _ hp)
  · rcases List.mem_cons.mp hp with e | hp
    · rw [e]; exact .head _
    rcases List.mem_cons.mp hp with e | hp
    · rw [e]; exact .tail _ (.head _)
    rcases List.mem_cons.mp hp with e | hp
    · rw [e]; exact .tail _ (.tail _ (.head _))
    exact .tail _ (.tail _ (.tail _ (.tail _ (.tail _ hp))))
end Mine
end
/-! D10 -/
section
open PySem PySem.Spec PySem.Calls PySem.W PyProof.Rows
namespace Mine
/-- the searching function's table of lambdas: not made yet, or made -/
def PlFull (pl : List (Addr × Obj)) : Prop := ∃ (c' : Addr) (oc : Obj) (vq : Array Value) (tq : Tok), pl = [(c', oc), (64, LamTab c')] ∧ oc.data = .fields vq ∧ vq[1]? = some (.str QLam tq)
def PlSt (pl : List (Addr × Obj)) : Prop := pl = [(64, tabObj #[])] ∨ PlFull pl
def PlOff (pl rest : List (Addr × Obj)) : Prop := ∀ p ∈ pl, ∀ q ∈ rest, p.1 ≠ q.1
theorem PlSt.has {pl : List (Addr × Obj)} (h : PlSt pl) : ∃ o, (64, o) ∈ pl := by
  rcases h with rfl | ⟨c', oc, vq, tq, rfl, _⟩
  · exact ⟨_, .head _⟩
  · exact ⟨_, .tail _ (.head _)⟩
section
variable {w : World} {dp un : Nat} {gd : Option (List Code)} {cn : Str} {nm : List (Str × NameKind)} {ig ic : Bool} {mo : List (Str × Const)} {a : Addr} {ccd : Value} {cl : List (Str × Addr)} {outer : List Env} {A₀ : Around} {base h₀ : Heap} {L : Addr} {m : Str → Option Value} {s : Shared} {Q E : Value → Shared → Prop}
  {p : Program} {loose : List Str} {mean : ExcName → Option Value} {mg mb : Str → Option Value} {pl rest : List (Addr × Obj)}
theorem lp_any {marks sign : Str} {c : Nat} {many : Int} {tm ts tk : Tok}
  (B : Below A₀ base outer h₀) (F : Fr h₀ L s.heap m) (X : (Mine.hd.heap_39 w.params).In h₀) (N : News h₀ L s.heap (pl ++ rest)) (T : Top p loose mean mg mb h₀) (C : CodeHd base 68 64)
  (hp : PlSt pl) (ho : PlOff pl rest) (hbig : ∃ q ∈ rest, @LT.lt Nat _ 64 q.1)
  (hdp : dp + 20 < recursionLimit) (hun : un + 300 < cLine) (hwl : marks.length < 100) (hs : sign = ⟨#[c]⟩) (hc : c = 48 ∨ c = 49) (hk0 : 0 ≤ many) (hk : many < 12)
  (hret : ∀ (r : Int) (t : Tok) (h' : Heap) (tk' : Nat) (pl' : List (Addr × Obj)), 0 ≤ r → r ≤ (marks.length : Int) + 1 → LpP marks c many.toNat r r → PlFull pl' → PlOff pl' rest →
    Fr h₀ L h' m → News h₀ L h' (pl' ++ rest) → Q (.int r t) {s with heap := h', toks := tk'}) :
  wpAny (model PySem.Challenge.rw_pg0186_01.row.prog w) (ktrTop dp un gd cn {kind := .function, names := nm, isGenerator := ig, isCoroutine := ic, more := mo} L a ccd cl outer) (call (.ref 69) [.str marks tm, .str sign ts, .int many tk]) Q E s := by
  rcases hp with rfl | hfull
  · have h64 : ∀ q ∈ rest, q.1 ≠ 64 := fun q hq e => ho _ (.head _) q hq e.symm
    have hbig' : ∃ q ∈ ((64, tabObj #[]) :: rest : List (Addr × Obj)), @LT.lt Nat _ 64 q.1 := by
      obtain ⟨q, h1, h2⟩ := hbig
      exact ⟨q, .tail _ h1, h2⟩
    refine lp_u (led := (64, tabObj #[]) :: rest) B F X N T C (.head h64) hbig' hdp hun hwl hs hc hk0 hk (fun r t h' tk' c' oc vq tq r0 r1 hP hof hv hc' F' N' => ?_)
    refine hret r t h' tk' [(c', oc), (64, LamTab c')] r0 r1 hP ⟨c', oc, vq, tq, rfl, hof, hv⟩ (fun p hp q hq e => ?_) F' N'
    rcases List.mem_cons.mp hp with e1 | hp
    · rw [e1] at e
      exact absurd (hc' q (.tail _ hq)) (by rw [← e]; exact Nat.lt_irrefl _)
    · rw [List.mem_singleton.mp hp] at e
      exact h64 q hq e.symm
  · obtain ⟨tp, otp, m1, m2⟩ := led_max (pl ++ rest) (by
      obtain ⟨c', oc, vq, tq, e, _⟩ := hfull
      rw [e]; intro h; cases h)
    have hf := hfull
    obtain ⟨c', oc, vq, tq, e, hof, hv⟩ := hfull
    refine lp_hit (c := c) (tp := tp) (otp := otp) (c' := c') (oc := oc) (vq := vq) (tq := tq) B F X N ?_ ?_ m1 m2 hof hv T C hdp hun hwl hs hc hk0 hk (fun r t h' tk' r0 r1 hP F' N' => hret r t h' tk' pl r0 r1 hP hf ho F' N')
    · rw [e]; exact .head _
    · rw [e]; exact .tail _ (.head _)
end
/-- an element of told -/
def TlEl (rest : List (Addr × Obj)) (r : Int) (y : Value) (news' : List (Addr × Obj)) : Prop := ∃ pl', news' = pl' ++ rest ∧ PlFull pl' ∧ PlOff pl' rest ∧ ∃ t : Tok, y = .int r t
section
variable {prog : Program} {w : World} {A : Around} {h₀ : Heap} {L : Addr} {m : Str → Option Value} {env : Env} {elt : Expr} {x : Str} {scope : Scope} {cl : List (Str × Addr)} {s : Shared} {Fin : List Value → List (Addr × Obj) → Prop} {pl₀ rest : List (Addr × Obj)}
theorem tl_rest {rs : List Int} {n : Nat} (hn : rs.length = n) (hn0 : 0 < n) (h0 : PlSt pl₀) (hd0 : PlOff pl₀ rest)
    (turn : ∀ (i : Nat) t I oI C oC D m₂ ys h tk pl (E' : Value → Shared → Prop), i < n → PlSt pl → PlOff pl rest → LCg.NsObj oC m₂ → m₂ x = some (.int (i : Int) t) → Fr h₀ L h m → News h₀ L h ((I, oI) :: (C, oC) :: (D, LCg.lst ys) :: (pl ++ rest)) → LCg.Off3 I C D (pl ++ rest) → ((@Ne Nat I C) ∧ (@Ne Nat I D) ∧ (@Ne Nat C D)) →
      wpAny (model prog w) A (eval elt (compEnvC scope cl C env)) (LCg.CompEnd h₀ L m { s with heap := h, toks := tk } I oI C oC D (LCg.lst ys) (fun _ => True) (fun y news' => TlEl rest (rs.getD i 0) y news')) E' { s with heap := h, toks := tk })
    (fin : ∀ ys pl, IntsAre ys rs → PlFull pl → PlOff pl rest → Fin ys (pl ++ rest)) :
    LCg.CompRest prog w A h₀ L m env elt x scope cl s (fun _ => True) (fun i v => ∃ t, v = .int (0 + (i : Int)) t) Fin n 0 [] (pl₀ ++ rest) := by
  have key : ∀ (j i : Nat) (ys : List Value) (pl : List (Addr × Obj)), i + j = n → IntsAre ys (rs.take i) → PlSt pl → (0 < i → PlFull pl) → PlOff pl rest → LCg.CompRest prog w A h₀ L m env elt x scope cl s (fun _ => True) (fun i v => ∃ t, v = .int (0 + (i : Int)) t) Fin j i ys (pl ++ rest) := by
    intro j
    induction j with
    | zero =>
      intro i ys pl hi hy _ hf ho
      have e : i = rs.length := by omega
      subst e
      rw [List.take_length] at hy
      exact LCg.CompRest.zero (fin ys pl hy (hf (by omega)) ho)
    | succ j ih =>
      intro i ys pl hi hy hp _ ho
      refine LCg.CompRest.succ ?_
      intro v I oI C oC D m₂ h tk E' hv hC hx F N off ne
      obtain ⟨t, hv'⟩ := hv
      rw [hv', Int.zero_add] at hx
      refine wpAny_mono (turn i t I oI C oC D m₂ ys h tk pl E' (by omega) hp ho hC hx F N off ne) (fun y s₂ hq => ?_) fun _ _ e => e
      obtain ⟨h', tk', nw, e, F', N', off', hS, pl', hn', hf', ho', t', hy'⟩ := hq
      subst hn'
      refine ⟨h', tk', pl' ++ rest, e, F', N', off', hS, ?_⟩
      rw [hy']
      refine ih (i + 1) _ pl' (by omega) ?_ (.inr hf') (fun _ => hf') ho'
      have hi' : i < rs.length := by omega
      rw [List.take_add_one, List.getElem?_eq_getElem hi']
      have e2 : rs.getD i 0 = rs[i] := by rw [List.getD_eq_getElem?_getD, List.getElem?_eq_getElem hi']; rfl
      rw [e2]
      exact IntsAre.append hy (.cons rs[i] t' .nil)
  exact key n 0 [] pl₀ (by omega) (by simp only [List.take_zero]; exact .nil) h0 (fun h => absurd h (Nat.lt_irrefl 0)) hd0
theorem tl_end {L I C D : Addr} {s₁ : Shared} {oI oC oD : Obj} {r : Int} {y : Value} {h' : Heap} {tk : Nat} {pl' : List (Addr × Obj)} {t : Tok}
    (hf : PlFull pl') (ho : PlOff pl' ((I, oI) :: (C, oC) :: (D, oD) :: rest)) (F : Fr h₀ L h' m) (N : News h₀ L h' (pl' ++ (I, oI) :: (C, oC) :: (D, oD) :: rest)) (off : LCg.Off3 I C D (pl₀ ++ rest)) (hy : y = .int r t) :
    LCg.CompEnd h₀ L m s₁ I oI C oC D oD (fun _ => True) (fun y news' => TlEl rest r y news') y { s₁ with heap := h', toks := tk } := by
  have ho' : PlOff pl' rest := fun p hp q hq => ho p hp q (.tail _ (.tail _ (.tail _ hq)))
  refine ⟨h', tk, pl' ++ rest, rfl, F, fun p hp => N p ?_, LCg.Off3.of fun p hp => ?_, True.intro, pl', rfl, hf, ho', t, hy⟩
  · simp only [List.mem_cons, List.mem_append] at hp ⊢
    rcases hp with h | h | h | h | h
    · exact .inr (.inl h)
    · exact .inr (.inr (.inl h))
    · exact .inr (.inr (.inr (.inl h)))
    · exact .inl h
    · exact .inr (.inr (.inr (.inr h)))
  · rcases List.mem_append.mp hp with h | h
    · exact ⟨ho p h _ (.head _), ho p h _ (.tail _ (.head _)), ho p h _ (.tail _ (.tail _ (.head _)))⟩
    · exact LCg.Off3.mem off p (List.mem_append.mpr (.inr h))
theorem tl_off {I C D : Addr} {oI oC oD : Obj} (hp : PlOff pl₀ rest) (off : LCg.Off3 I C D (pl₀ ++ rest)) : PlOff pl₀ ((I, oI) :: (C, oC) :: (D, oD) :: rest) := by
  intro p h q hq
  have o := LCg.Off3.mem off p (List.mem_append.mpr (.inl h))
  rcases List.mem_cons.mp hq with e | hq
  · rw [e]; exact o.1
  rcases List.mem_cons.mp hq with e | hq
  · rw [e]; exact o.2.1
  rcases List.mem_cons.mp hq with e | hq
  · rw [e]; exact o.2.2
  exact hp p h q hq
theorem tl_news {h : Heap} {q1 q2 q3 : Addr × Obj} (N : News h₀ L h (q1 :: q2 :: q3 :: (pl₀ ++ rest))) : News h₀ L h (pl₀ ++ (q1 :: q2 :: q3 :: rest)) := fun p hp => N p (by
  simp only [List.mem_cons, List.mem_append] at hp ⊢
  rcases hp with h | h | h | h | h
  · exact .inr (.inr (.inr (.inl h)))
  · exact .inl h
  · exact .inr (.inl h)
  · exact .inr (.inr (.inl h))
  · exact .inr (.inr (.inr (.inr h))))
theorem tl_big {o : Obj} {h : Heap} (_F : Fr h₀ L h m) (hm : (L + 1 + 1, o) ∈ rest) (h64 : @LT.lt Nat _ 64 L) (q1 q2 q3 : Addr × Obj) : ∃ q ∈ (q1 :: q2 :: q3 :: rest), @LT.lt Nat _ 64 q.1 :=
  ⟨_, .tail _ (.tail _ (.tail _ hm)), Nat.lt_succ_of_lt (Nat.lt_succ_of_lt h64)⟩
end
end Mine
end
/-! E10 -/
section
open PySem PySem.Spec PySem.Calls PySem.W PyProof.Rows
namespace Mine
local macro_rules | `(tactic| k_mem) => `(tactic| k_dflt (first | exact List.mem_append_right _ (by assumption) | exact List.mem_append_right _ (.head _) | exact List.mem_append_right _ (.tail _ (.head _)) | exact List.mem_append_right _ (.tail _ (.tail _ (.tail _ (by assumption))))))
structure TlMark (marks : Str) (wd : Int) (ds rs : List Int) : Prop where
  len : rs.length = 5
  dlen : ds.length = 5
  mlen : marks.length < 100
  dig : ∀ i : Nat, i < 5 → ds.getD i 0 = rs.getD i 0 % 2 ^ wd.toNat
  bnd : ∀ i : Nat, i < 5 → 0 ≤ rs.getD i 0 ∧ rs.getD i 0 < 100
  place : ∀ (i : Nat) (r : Int), i < 5 → 0 ≤ r → LpP marks 49 (i + 1) r r → r - 1 - (i : Int) = rs.getD i 0 / 2 ^ wd.toNat
theorem tl_place {marks : Str} {wd : Int} {ds rs : List Int} {i : Nat} {r : Int} (M : TlMark marks wd ds rs) (hi : i < 5) (h0 : 0 ≤ r) (hP : LpP marks 49 ((i : Int) + 1).toNat r r) : r - 1 - (i : Int) = rs.getD i 0 / 2 ^ wd.toNat :=
  M.place i r hi h0 (by rw [show i + 1 = ((i : Int) + 1).toNat by omega]; exact hP)
section
variable {prog : Program} {w : World} {A : Around} {E : Value → Shared → Prop} {s : Shared} {h₀ : Heap} {L : Addr} {m : Str → Option Value} {news : List (Addr × Obj)} {t u : Tok} {Q : Value → Shared → Prop}
theorem tl_lsh {marks : Str} {wd r : Int} {ds rs : List Int} {i : Nat} (M : TlMark marks wd ds rs) (hi : i < 5) (hr : 0 ≤ r) (hP : LpP marks 49 ((i : Int) + 1).toNat r r) (hw0 : 1 ≤ wd) (hw1 : wd ≤ 3)
    (h : ∀ q, q = rs.getD i 0 / 2 ^ wd.toNat * 2 ^ wd.toNat → 0 ≤ q → q ≤ rs.getD i 0 → Q (.int q s.toks) { s with toks := s.toks + 1 }) :
    wpAny (model prog w) A (binaryOp .LShift (.int (r - 1 - (i : Int)) t) (.int wd u)) Q E s := by
  have e := tl_place M hi hr hP
  have hb := M.bnd i hi
  have hpos : (0 : Int) < 2 ^ wd.toNat := pow2_pos _
  have h1 : 0 ≤ rs.getD i 0 / 2 ^ wd.toNat := Int.ediv_nonneg hb.1 (Int.le_of_lt hpos)
  have h2 : rs.getD i 0 / 2 ^ wd.toNat ≤ rs.getD i 0 := Int.ediv_le_self _ hb.1
  rw [e]
  exact lshift_int_small (by omega) (by omega) (by omega) (h _ rfl (Int.mul_nonneg h1 (Int.le_of_lt hpos)) (Int.ediv_mul_le _ (Int.ne_of_gt hpos)))
theorem tl_item {value slice : PySem.Expr} {l : Addr} {vs : List Value} {ds : List Int} {n i : Nat} (N : News h₀ L s.heap news) (hm : (l, listOf vs.toArray n) ∈ news) (hi : IntsAre vs ds) (hl : ds.length = 5) (h5 : i < 5) (h : ∀ t', Q (.int (ds.getD i 0) t') s)
    (hs : subscripted slice false (.ref l) (.int (i : Int) u) = operate [.ref l, .int (i : Int) u] (getItem (.ref l) (.int (i : Int) u)) := by with_unfolding_all rfl) :
    wpAny (model prog w) A (subscriptTail value slice (.ref l) (.int (i : Int) u)) Q E s := by
  obtain ⟨t, hx⟩ := hi.get i (ds[i]'(by omega)) (List.getElem?_eq_getElem (by omega))
  have e2 : ds.getD i 0 = ds[i]'(by omega) := by rw [List.getD_eq_getElem?_getD, List.getElem?_eq_getElem (by omega)]; rfl
  exact tail_any (N.isList hm).typeIs slot_list_getitem.lookup (wpAny_getItem_list (N.isList hm) (by omega) (by omega) (by simpa using hx) (by rw [← e2]; exact h t)) hs
end
theorem tl_sum {marks : Str} {wd q : Int} {ds rs : List Int} {i : Nat} (M : TlMark marks wd ds rs) (hi : i < 5) (hq : q = rs.getD i 0 / 2 ^ wd.toNat * 2 ^ wd.toNat) : q + ds.getD i 0 = rs.getD i 0 := by
  rw [M.dig i hi, hq]
  exact Int.mul_comm _ _ ▸ Int.mul_ediv_add_emod _ _
theorem tl_val {marks : Str} {wd q : Int} {ds rs : List Int} {i : Nat} {t : Tok} (M : TlMark marks wd ds rs) (hi : i < 5) (hq : q = rs.getD i 0 / 2 ^ wd.toNat * 2 ^ wd.toNat) : Value.int (q + ds.getD i 0) t = Value.int (rs.getD i 0) t := by rw [tl_sum M hi hq]
theorem tl_cell {M : Model} {A : Around} {E : Value → Shared → Prop} {s : Shared} {h₀ : Heap} {L : Addr} {news : List (Addr × Obj)} {env : Env} {scope : Scope} {cl : List (Str × Addr)} {C c : Addr} {o : Obj} {y : Str} {pos : Pos} {v : Value} {Q : Value → Shared → Prop} (N : News h₀ L s.heap news) (hc : cl.lookup y = some c) (hm : (c, o) ∈ news) (hd : o.data = .cell (some v)) 
    (hk : (compEnvC scope cl C env).scope.kind = .function) (hx : (compEnvC scope cl C env).kindOf y = some .cell) (hb : (y == ("__debug__" : Str)) = false) (h : Q v s) :
    wpAny M A (eval (.Name y pos) (compEnvC scope cl C env)) Q E s := kcf_cell N hc hm hd h hk hx hb
set_option maxRecDepth 100000 in
set_option maxHeartbeats 400000 in
theorem st10 {w : World} {fa : Addr} {cd : Value} {h₀ : Heap} {L : Addr} {s : Shared} {Q : Flow → Shared → Prop} {R : Result → Shared → Prop} {m : Str → Option Value}
  {p : Program} {loose : List Str} {mean : ExcName → Option Value} {mg mb : Str → Option Value} {ow od om : Obj} {wd : Int} {tw tm : Tok} {rest pl : List (Addr × Obj)} {D : Addr} {ws : List Value} {ds rs : List Int} {marks : Str} {n : Nat}
  (B : Below callerA h₀ [] h₀) (F : Fr h₀ L s.heap m) (X : (Mine.hd.heap_39 w.params).In h₀) (T : Top p loose mean mg mb h₀) (C1 : CodeHd h₀ 68 64)
  (N : News h₀ L s.heap (pl ++ rest)) (hpl : PlSt pl) (hoff : PlOff pl rest) (h2 : (L + 1 + 1, ow) ∈ rest) (h3 : (L + 1 + 1 + 1, om) ∈ rest) (h5 : (L + 1 + 1 + 1 + 1 + 1, od) ∈ rest) (hD : (D, listOf ws.toArray n) ∈ rest) (hi : IntsAre ws ds) (how : ow.data = .cell (some (.int wd tw))) (hom : om.data = .cell (some (.str marks tm))) (hod : od.data = .cell (some (.ref D))) 
  (h64 : @LT.lt Nat _ 64 L) (hw0 : 1 ≤ wd) (hw1 : wd ≤ 3) (M : TlMark marks wd ds rs)
  (hret : ∀ (h' : Heap) (tk' : Nat) (Dt : Addr) (ys : List Value) (pl' : List (Addr × Obj)), IntsAre ys rs → PlFull pl' → PlOff pl' rest → Fr h₀ L h' (fun z => if z = Str.ofString "told" then some (.ref Dt) else m z) → News h₀ L h' ((Dt, LCg.lst ys) :: (pl' ++ rest)) → Q .next {s with heap := h', toks := tk'}) :
  wpAny (model PySem.Challenge.rw_pg0186_01.row.prog w) (callerA.deeper (lawEnv L fa cd)) (exec (lawSt 10) (lawEnv L fa cd)) Q
    (fun e s' => wpAny (model PySem.Challenge.rw_pg0186_01.row.prog w) (callerA.deeper (lawEnv L fa cd)) (leaving (lawEnv L fa cd) e) (fun _ s'' => R (.error e) s'') (fun e' s'' => R (.error e') s'') s') s := by
  revert X; k_fill; intro X
  repeat (conv =>
    pattern lawSt _
    whnf)
  unfold lawEnv
  repeat (conv =>
    pattern lawScope
    whnf)
  k_with_none
  w_on
  (k_with "CompSrc" => (k_here; (rename TlMark _ _ _ _ => lM'); (rename PlSt _ => lP'); (rename PlOff _ _ => lO'); k_dflt (refine LCg.CompSrc.range (by rfl) (by k_asm) (by k_asm) (by assumption) (by decide) (by rfl) (by exact Nat.le_of_ble_eq_true rfl) ?_; intro g'; refine' tl_rest (rs := _) (n := 5) lM'.len (by decide) lP' lO' (fun i' t' I' oI' C' oC' D' m' ys' h' tk' pl' E' hi' hp' ho' hC' hx' F' N' off' ne' => ?_) (fun ys' pl' hi' hf' ho' => ?_)); (all_goals (try k_fold))))
  (k_with "eval Name" => (k_here; (with_reducible show wpAny _ _ (eval (Expr.Name _ _) (compEnvC _ _ _ _)) _ _ _); k_dflt (refine' tl_cell ?N ?hc ?hm ?hd ?hk ?hx ?hb ?_; (case N => k_asm); (case hk => rfl); (case hx => rfl); (case hb => decide); (case hc => rfl); (case hm => first | exact .tail _ (.tail _ (.tail _ (List.mem_append_right _ (by assumption)))) | exact List.mem_append_right _ (.tail _ (.tail _ (.tail _ (by assumption))))); (case hd => assumption))))
  (k_with "call ref" => (k_here; (with_reducible show wpAny _ _ (call (Value.ref 69) [Value.str _ _, Value.str _ _, Value.int _ _]) _ _ _); (rename TlMark _ _ _ _ => lM'); (k_dflt (refine' lp_any (c := 49) ?B ?F ?X ?N ?T ?C ?hp ?ho ?hbig ?hdp ?hun ?hwl ?hs ?hc ?hk0 ?hk ?_; (case B => k_asm); (case F => k_asm); (case X => k_asm); (case N => exact tl_news (by k_asm)); (case T => k_asm); (case C => assumption); (case hp => assumption); (case ho => exact tl_off (by assumption) (by assumption)); (case hbig => exact tl_big (by k_asm) (by assumption) (by assumption) _ _ _); (case hdp => ktr_room); (case hun => ktr_units); (case hwl => exact lM'.mlen); (case hs => rfl); (case hc => exact Or.inr rfl); (case hk0 => omega); (case hk => omega))); intro r' t' h' tk' pl' r0' r1' rP' hf' ho' F' N'))
  (k_with "binaryOp LShift int int" => (k_here; (rename TlMark _ _ _ _ => lM'); (k_dflt (refine' tl_lsh lM' ?hi ?hr ?hP ?hw0 ?hw1 ?_; (case hP => assumption); (case hi => assumption); (case hr => assumption); (case hw0 => assumption); (case hw1 => assumption))); intro q' hq' hq0' hq1'))
  (k_with "subscriptTail" => (k_here; (with_reducible show wpAny _ _ (subscriptTail _ _ (Value.ref _) (Value.int _ _)) _ _ _); (rename TlMark _ _ _ _ => lM'); (k_dflt (refine' tl_item ?N ?hm ?hi ?hl ?h5 ?_ ?hs; (case N => k_asm); (case hm => exact List.mem_append_right _ (.tail _ (.tail _ (.tail _ (by assumption))))); (case hi => assumption); (case hl => exact lM'.dlen); (case h5 => assumption); (case hs => with_unfolding_all rfl))); intro t'))
  (k_with "CompEnd" => (k_here; (rename TlMark _ _ _ _ => lM'); (k_dflt (refine' tl_end ?hf ?ho ?F ?N ?off ?hy; (case hf => assumption); (case ho => assumption); (case F => k_asm); (case N => k_asm); (case off => assumption); (case hy => exact tl_val lM' (by assumption) (by assumption))))))
  w_strict ((try k_fold); k_steps; (all_goals exact hret _ _ _ _ _ (by assumption) (by assumption) (by assumption) (by assumption) (by assumption)))
end Mine
end
/-! F11 -/
section
open PySem PySem.Spec PySem.Calls PySem.W PyProof.Rows
namespace Mine
theorem sh_int {v : Int} (h0 : 0 ≤ v) (h1 : v < 100) : (PyData.int v).shown.length ≤ 3 := by
  show (Str.ofString (toString v)).length ≤ 3
  rw [PySem.ofString_length]
  exact int_text_length_le10 (k := 2) (by decide) (by omega)
theorem sh_all : ∀ {rs : List Int}, (∀ v ∈ rs, 0 ≤ v ∧ v < 100) → piled (PyData.shownAll (rs.map PyData.int)) ≤ 5 * rs.length
  | [], _ => Nat.le_refl _
  | v :: r, h => by
    have h1 := sh_int (h v (.head _)).1 (h v (.head _)).2
    have h2 := sh_all fun u hu => h u (.tail _ hu)
    show piled (PyData.shown (.int v) :: PyData.shownAll (r.map PyData.int)) ≤ _
    rw [piled_cons, List.length_cons]; omega
theorem sh_list {rs : List Int} (h : ∀ v ∈ rs, 0 ≤ v ∧ v < 100) : (PyData.list (rs.map PyData.int)).shown.length ≤ 5 * rs.length + 3 := by
  cases rs with
  | nil => decide
  | cons v r =>
    have h1 := sh_all h
    show (textFrom 1 (("[" : Str) ++ (if (0 : Nat) > 0 then ", " else "" : String) ++ PyData.shown (.int v)) (PyData.shownAll (r.map PyData.int)) ++ "]").length ≤ _
    have e : ((("[" : Str) ++ (if (0 : Nat) > 0 then ", " else "" : String) ++ PyData.shown (.int v))).length = 1 + (PyData.shown (.int v)).length := by
      rw [strLen_append, strLen_append]; rfl
    rw [strLen_append, textFrom_length_pos _ 1 _ (Nat.succ_pos 0), e]
    have h2 : piled (PyData.shown (.int v) :: PyData.shownAll (r.map PyData.int)) ≤ 5 * (v :: r).length := h1
    rw [piled_cons] at h2
    have h3 : ("]" : Str).length = 1 := rfl
    omega
theorem sh_ok : ∀ {rs : List Int}, (∀ v ∈ rs, 0 ≤ v ∧ v < 100) → PyData.showableAll (rs.map PyData.int) = true
  | [], _ => rfl
  | v :: r, h => by
    have h2 := sh_ok fun u hu => h u (.tail _ hu)
    have h1 := h v (.head _)
    have h3 : v.natAbs.log2 < 1920 := by
      rcases Nat.eq_zero_or_pos v.natAbs with e | e
      · rw [e]; decide
      · exact Nat.lt_trans ((Nat.log2_lt (by omega)).mpr (show v.natAbs < 2 ^ 7 by omega)) (by decide)
    simp only [List.map_cons, PyData.showableAll, PyData.showable, h2, Bool.and_true, decide_eq_true_eq]
    exact h3
theorem sh_nodict : ∀ rs : List Int, PyData.hasDictAll (rs.map PyData.int) = false
  | [] => by simp only [List.map_nil, PyData.hasDictAll]
  | v :: r => by simp only [List.map_cons, PyData.hasDictAll, PyData.hasDict, sh_nodict r, Bool.or_self]
theorem sh_depth : ∀ rs : List Int, PyData.depthAll (rs.map PyData.int) = 0
  | [] => by simp only [List.map_nil, PyData.depthAll]
  | v :: r => by simp only [List.map_cons, PyData.depthAll, PyData.depth, sh_depth r, Nat.max_self]
section
variable {prog : Program} {w : World} {A : Around} {E : Value → Shared → Prop} {s : Shared} {h₀ : Heap} {L : Addr} {m : Str → Option Value} {news : List (Addr × Obj)} {Q : Value → Shared → Prop}
theorem st_str {D : Addr} {ys : List Value} {rs : List Int} {n : Nat} (F : Fr h₀ L s.heap m) (N : News h₀ L s.heap news) (hm : (D, ({ cls := .type "list", data := .seq ys.toArray n } : Obj)) ∈ news) (hi : IntsAre ys rs) (hb : ∀ v ∈ rs, 0 ≤ v ∧ v < 100) (hl : rs.length ≤ 5) (hg : A.guards = some []) (hu : A.units + 4 < cLine)
    (h : ∀ h' u tk, Fr h₀ L h' m → News h₀ L h' news → Q (.str (PyData.list (rs.map PyData.int)).shown u) { s with heap := h', toks := tk }) : wpAny (model prog w) A (call (.type "str") [.ref D]) Q E s := by
  have r : Reads s.heap (.ref D) (.list (rs.map PyData.int)) [D] := .list (N _ hm).1 rfl rfl (by rw [List.toList_toArray]; exact ints_readAll _ hi)
  have hd : (PyData.list (rs.map PyData.int)).depth = 1 := by simp only [PyData.depth, sh_depth]
  refine str_of_reads r (by simp only [PyData.showable]; exact sh_ok hb) (PyData.noDict_hsm (by simp only [PyData.hasDict]; exact sh_nodict rs)) hg (by rw [hd]; exact hu) (fun _ _ e => e) (fun h' u tk hk => h h' u tk (F.keptAll hk) (N.grown hk)) ?_
  have := sh_list hb
  rw [sizeLine_eq]; omega
end
theorem srt_pw {rs : List Int} (h : Srt rs) : List.Pairwise (fun x y => x ≤ y) rs := by
  rw [List.pairwise_iff_getElem]
  intro i j hi hj hij
  have := h i j (Nat.le_of_lt hij) hj
  rw [List.getD_eq_getElem?_getD, List.getD_eq_getElem?_getD, List.getElem?_eq_getElem hi, List.getElem?_eq_getElem hj] at this
  exact this
theorem so_eq {bd : Int} {xs rs n : List Int} (hp : n.Perm (xs.map fun k => Int.fmod k bd)) (ho : List.Pairwise (fun x y => x ≤ y) n) (hP : InsP bd xs rs) : n = rs :=
  List.Perm.eq_of_pairwise (fun a b _ _ h1 h2 => Int.le_antisymm h1 h2) ho (srt_pw hP.1) (hp.trans hP.2.symm)
theorem so_ints {bd : Int} {xs rs n : List Int} {vs : List Value} (hi : IntsAre vs n) (hp : n.Perm (xs.map fun k => Int.fmod k bd)) (ho : List.Pairwise (fun x y => x ≤ y) n) (hP : InsP bd xs rs) : IntsAre vs rs := so_eq hp ho hP ▸ hi
theorem ne_no {x : Str} {P : Prop} (h : (x != x) = true) : P := by simp at h
set_option maxRecDepth 100000 in
set_option maxHeartbeats 400000 in
theorem st11 {w : World} {fa : Addr} {cd : Value} {h₀ : Heap} {L : Addr} {s : Shared} {Q : Flow → Shared → Prop} {R : Result → Shared → Prop} {m : Str → Option Value}
  {p : Program} {loose : List Str} {mean : ExcName → Option Value} {mg mb : Str → Option Value} {ob : Obj} {bd : Int} {tb : Tok} {news : List (Addr × Obj)} {tp nb Dt : Addr} {otp : Obj} {ys : List Value} {rs : List Int} {n0 : Nat} {a0 a1 a2 a3 a4 a5 : Int} {t0 t1 t2 t3 t4 t5 : Tok}
  (B : Below callerA h₀ [] h₀) (F : Fr h₀ L s.heap (fun y => if y = Str.ofString "told" then some (.ref Dt) else if y = Str.ofString "numbers" then some (.ref nb) else m y)) (X : (Mine.hd.heap_39 w.params).In h₀) (T : Top p loose mean mg mb h₀)
  (N : News h₀ L s.heap ((Dt, LCg.lst ys) :: (nb, listOf [Value.int a0 t0, .int a1 t1, .int a2 t2, .int a3 t3, .int a4 t4, .int a5 t5].toArray n0) :: (L + 1, ob) :: (tp, otp) :: news)) (hob : ob.data = .cell (some (.int bd tb))) (htp : AllLt (tp + 1) news) (h64 : @LT.lt Nat _ 64 L) (hL : @LT.lt Nat _ (L + 1) (tp + 1)) (hnb : @LT.lt Nat _ nb (tp + 1)) (hDt : @LT.lt Nat _ Dt (tp + 1))
  (hi : IntsAre ys rs) (hP : InsP bd [a1, a2, a3, a4, a5] rs) (hb0 : 12 ≤ bd) (hb1 : bd ≤ 51) (hrb : ∀ v ∈ rs, 0 ≤ v ∧ v < 100) (hrl : rs.length ≤ 5)
  (hret : ∀ (h' : Heap) (tk' : Nat), Fr h₀ L h' (fun y => if y = Str.ofString "told" then some (.ref Dt) else if y = Str.ofString "numbers" then some (.ref nb) else m y) →
    News h₀ L h' ((Dt, LCg.lst ys) :: (nb, listOf [Value.int a0 t0, .int a1 t1, .int a2 t2, .int a3 t3, .int a4 t4, .int a5 t5].toArray n0) :: (L + 1, ob) :: (tp, otp) :: news) → Q .next {s with heap := h', toks := tk'}) :
  wpAny (model PySem.Challenge.rw_pg0186_01.row.prog w) (callerA.deeper (lawEnv L fa cd)) (exec (lawSt 11) (lawEnv L fa cd)) Q
    (fun e s' => wpAny (model PySem.Challenge.rw_pg0186_01.row.prog w) (callerA.deeper (lawEnv L fa cd)) (leaving (lawEnv L fa cd) e) (fun _ s'' => R (.error e) s'') (fun e' s'' => R (.error e') s'') s') s := by
  revert X; k_fill; intro X
  repeat (conv =>
    pattern lawSt _
    whnf)
  unfold lawEnv
  repeat (conv =>
    pattern lawScope
    whnf)
  k_with_none
  w_on
  (k_with "subscriptTail" => (k_here; (with_reducible show wpAny _ _ (subscriptTail (PySem.Expr.Name _ _) (PySem.Expr.Slice (some _) none none _) (Value.ref _) (Value.ref _)) _ _ _); k_dflt (refine' lw_tail ?F ?N ?hl ?_ ?hs ?ht; (case F => k_asm); (case N => k_asm); (case hl => k_mem); (case hs => with_unfolding_all rfl); (case ht => intro _; with_unfolding_all rfl)); intro D' h' F' N' l1; (try k_lt l1); (try k_sweep)))
  (k_with "call type:str" => (k_here; (with_reducible show wpAny _ _ (call (Value.type "str") [Value.ref _]) _ _ _); (k_dflt (refine' st_str ?F ?N ?hm ?hi ?hb ?hl ?hg ?hu ?_; (case F => k_asm); (case N => k_asm); (case hi => first | exact so_ints (by assumption) (by assumption) (by assumption) (by assumption) | assumption); (case hm => k_mem); (case hb => assumption); (case hl => assumption); (case hg => with_unfolding_all rfl); (case hu => ktr_units))); intro h' u' tk' F' N'))
  w_strict ((try k_fold); k_steps; (all_goals first | exact ne_no (by assumption) | exact hret _ _ (by assumption) (news_tl (news_tl (news_tl (by assumption))))))
theorem st11' {w : World} {fa : Addr} {cd : Value} {h₀ : Heap} {L : Addr} {s : Shared} {Q : Flow → Shared → Prop} {R : Result → Shared → Prop} {m : Str → Option Value}
  {p : Program} {loose : List Str} {mean : ExcName → Option Value} {mg mb : Str → Option Value} {ob : Obj} {bd : Int} {tb : Tok} {led : List (Addr × Obj)} {nb Dt : Addr} {ys : List Value} {rs : List Int} {n0 : Nat} {a0 a1 a2 a3 a4 a5 : Int} {t0 t1 t2 t3 t4 t5 : Tok}
  (B : Below callerA h₀ [] h₀) (F : Fr h₀ L s.heap m) (hm1 : m (Str.ofString "told") = some (.ref Dt)) (hm2 : m (Str.ofString "numbers") = some (.ref nb)) (X : (Mine.hd.heap_39 w.params).In h₀) (T : Top p loose mean mg mb h₀)
  (N : News h₀ L s.heap led) (h1 : (Dt, LCg.lst ys) ∈ led) (h2 : (nb, listOf [Value.int a0 t0, .int a1 t1, .int a2 t2, .int a3 t3, .int a4 t4, .int a5 t5].toArray n0) ∈ led) (h3 : (L + 1, ob) ∈ led) (hob : ob.data = .cell (some (.int bd tb))) (h64 : @LT.lt Nat _ 64 L) 
  (hi : IntsAre ys rs) (hP : InsP bd [a1, a2, a3, a4, a5] rs) (hb0 : 12 ≤ bd) (hb1 : bd ≤ 51) (hrb : ∀ v ∈ rs, 0 ≤ v ∧ v < 100) (hrl : rs.length ≤ 5)
  (hret : ∀ (h' : Heap) (tk' : Nat), Fr h₀ L h' m → News h₀ L h' led → Q .next {s with heap := h', toks := tk'}) :
  wpAny (model PySem.Challenge.rw_pg0186_01.row.prog w) (callerA.deeper (lawEnv L fa cd)) (exec (lawSt 11) (lawEnv L fa cd)) Q
    (fun e s' => wpAny (model PySem.Challenge.rw_pg0186_01.row.prog w) (callerA.deeper (lawEnv L fa cd)) (leaving (lawEnv L fa cd) e) (fun _ s'' => R (.error e) s'') (fun e' s'' => R (.error e') s'') s') s := by
  obtain ⟨tp, otp, m1, m2⟩ := led_max led (led_ne h1)
  have e : ∀ y, (if y = Str.ofString "told" then some (Value.ref Dt) else if y = Str.ofString "numbers" then some (.ref nb) else m y) = m y := by
    intro y
    by_cases c1 : y = Str.ofString "told"
    · rw [if_pos c1, c1, hm1]
    · rw [if_neg c1]
      by_cases c2 : y = Str.ofString "numbers"
      · rw [if_pos c2, c2, hm2]
      · rw [if_neg c2]
  have e' : (fun y => if y = Str.ofString "told" then some (Value.ref Dt) else if y = Str.ofString "numbers" then some (.ref nb) else m y) = m := funext e
  refine st11 (a0 := a0) (t0 := t0) (t1 := t1) (t2 := t2) (t3 := t3) (t4 := t4) (t5 := t5) (m := m) (tp := tp) (otp := otp) (news := led) (Dt := Dt) (nb := nb) (n0 := n0) (ys := ys) B (by rw [e']; exact F) X T (news_sub N ?_) hob (allLt_mono m2 fun _ h => h) h64 (Nat.lt_succ_of_le (m2 _ h3)) (Nat.lt_succ_of_le (m2 _ h2)) (Nat.lt_succ_of_le (m2 _ h1)) hi hP hb0 hb1 hrb hrl
    (fun h' tk' F' N' => hret h' tk' (by rw [e'] at F'; exact F') (news_sub N' fun p hp => .tail _ (.tail _ (.tail _ (.tail _ hp)))))
  intro p hp
  rcases List.mem_cons.mp hp with e | hp
  · rw [e]; exact h1
  rcases List.mem_cons.mp hp with e | hp
  · rw [e]; exact h2
  rcases List.mem_cons.mp hp with e | hp
  · rw [e]; exact h3
  rcases List.mem_cons.mp hp with e | hp
  · rw [e]; exact m1
  exact hp
end Mine
end
/-! G12 -/
section
open PySem PySem.Spec PySem.Calls PySem.W PyProof.Rows
namespace Mine
section
variable {w : World} {dp un : Nat} {gd : Option (List Code)} {cn : Str} {nm : List (Str × NameKind)} {ig ic : Bool} {mo : List (Str × Const)} {a : Addr} {ccd : Value} {cl : List (Str × Addr)} {outer : List Env} {A₀ : Around} {base h₀ : Heap} {L : Addr} {m : Str → Option Value} {s : Shared} {Q E : Value → Shared → Prop}
  {p : Program} {loose : List Str} {mean : ExcName → Option Value} {mg mb : Str → Option Value} {led : List (Addr × Obj)}
/-- all that is asked of a bound -/
structure BlwOk (marks : Str) (ds rs : List Int) (wd x : Int) : Prop where
  x0 : 0 ≤ x
  x1 : x < 60
  u0 : 0 ≤ x.fdiv (2 ^ wd.toNat)
  u1 : x.fdiv (2 ^ wd.toNat) + 1 < 12
  pre : LbPre marks ds (x.fdiv (2 ^ wd.toNat))
  out : ∀ r, LbOut marks ds (x.fdiv (2 ^ wd.toNat)) (x.fmod (2 ^ wd.toNat)) r → r = ((rs.countP fun v => decide (v < x) : Nat) : Int)
theorem lb_u {marks : Str} {wd x : Int} {tm tw tb : Tok} {c' D : Addr} {oc : Obj} {vq : Array Value} {tq : Tok} {vs : List Value} {ds rs : List Int} {n : Nat}
  (M : BlwOk marks ds rs wd x)
  (B : Below A₀ base outer h₀) (F : Fr h₀ L s.heap m) (X : (Mine.hd.heap_39 w.params).In h₀) (N : News h₀ L s.heap led) (h1 : (c', oc) ∈ led) (h2 : (64, LamTab c') ∈ led) (hoc : oc.data = .fields vq) (hq : vq[1]? = some (.str QLam tq)) (T : Top p loose mean mg mb h₀) (C : CodeHd base 68 64)
  (hD : (D, listOf vs.toArray n) ∈ led) (hi : IntsAre vs ds) (hlen : ds.length = 5)
  (hdp : dp + 30 < recursionLimit) (hun : un + 400 < cLine) (hwl : marks.length < 100) (hw0 : 1 ≤ wd) (hw1 : wd ≤ 3)
  (hret : ∀ (t : Tok) (h' : Heap) (tk' : Nat), Fr h₀ L h' m → News h₀ L h' led → Q (.int ((rs.countP fun v => decide (v < x) : Nat) : Int) t) {s with heap := h', toks := tk'}) :
  wpAny (model PySem.Challenge.rw_pg0186_01.row.prog w) (ktrTop dp un gd cn {kind := .function, names := nm, isGenerator := ig, isCoroutine := ic, more := mo} L a ccd cl outer) (call (.ref 76) [.str marks tm, .ref D, .int wd tw, .int x tb]) Q E s := by
  obtain ⟨tp, otp, m1, m2⟩ := led_max led (led_ne hD)
  refine lb_c (tp := tp) (otp := otp) (c' := c') (oc := oc) (vq := vq) (tq := tq) B F X N h1 h2 m1 m2 hoc hq T C hD hi hlen hdp hun hwl hw0 hw1 M.x0 M.x1 M.u0 M.u1 M.pre (fun r t h' tk' ho F' N' => ?_)
  rw [M.out r ho]
  exact hret t h' tk' F' N'
end
def ifT : Expr := match (forB 12).getD 0 default with | .If t _ _ _ => t | _ => default
def cmpR : Expr := match ifT with | .Compare _ _ (r :: _) _ => r | _ => default
def lenE : Expr := match cmpR with | .Call _ (x :: _) _ _ => x | _ => default
set_option maxRecDepth 100000 in
set_option maxHeartbeats 600000 in
theorem cnt_c {w : World} {fa : Addr} {cd : Value} {h₀ : Heap} {L : Addr} {s : Shared} {Q : Value → Shared → Prop} {R : Result → Shared → Prop} {m : Str → Option Value}
  {p : Program} {loose : List Str} {mean : ExcName → Option Value} {mg mb : Str → Option Value} {oo : Obj} {x : Int} {tx : Tok} {news : List (Addr × Obj)} {tp row : Addr} {otp : Obj} {us : List Value} {rs : List Int} {c : Nat}
  (B : Below callerA h₀ [] h₀) (F : Fr h₀ L s.heap (fun y => if y = Str.ofString "row" then some (.ref row) else m y)) (X : (Mine.hd.heap_39 w.params).In h₀) (T : Top p loose mean mg mb h₀)
  (N : News h₀ L s.heap ((row, listOf us.toArray c) :: (L + 1 + 1 + 1 + 1 + 1 + 1, oo) :: (tp, otp) :: news)) (hoo : oo.data = .cell (some (.int x tx))) (htp : AllLt (tp + 1) news) (hL : L + 1 + 1 + 1 + 1 + 1 + 1 < tp + 1) (hrow : row < tp + 1)
  (hi : IntsAre us rs) (hlen : rs.length = 5) 
  (hret : ∀ (h' : Heap) (tk' : Nat) (t : Tok), Fr h₀ L h' (fun y => if y = Str.ofString "row" then some (.ref row) else m y) → News h₀ L h' ((row, listOf us.toArray c) :: (L + 1 + 1 + 1 + 1 + 1 + 1, oo) :: (tp, otp) :: news) → Q (.int ((rs.countP fun v => decide (v < x) : Nat) : Int) t) {s with heap := h', toks := tk'}) :
  wpAny (model PySem.Challenge.rw_pg0186_01.row.prog w) (callerA.deeper (lawEnv L fa cd)) (eval lenE (lawEnv L fa cd)) Q
    (fun e s' => wpAny (model PySem.Challenge.rw_pg0186_01.row.prog w) (callerA.deeper (lawEnv L fa cd)) (leaving (lawEnv L fa cd) e) (fun _ s'' => R (.error e) s'') (fun e' s'' => R (.error e') s'') s') s := by
  revert X; k_fill; intro X
  conv =>
    pattern lenE
    whnf
  unfold lawEnv
  repeat (conv =>
    pattern lawScope
    whnf)
  k_with_none
  w_on
  (k_with "CompEnd" => (k_dflt (refine comp_end (by k_asm) (by k_asm) (by assumption) (by exact True.intro) ?_)))
  (k_with "call builtin:len" => (k_here; (with_reducible show wpAny _ _ (call (Value.builtin "len") [Value.ref _]) _ _ _); k_dflt (refine mk_len (by assumption) (by assumption) (by assumption) ?_); intro t' k' hc'))
  w_strict ((try k_fold); k_steps; (all_goals first | exact Str.ofString "" | exact (0 : Nat) | exact Value.none | exact hret _ _ _ (by assumption) (by assumption)))
theorem cnt_c' {w : World} {fa : Addr} {cd : Value} {h₀ : Heap} {L : Addr} {s : Shared} {Q : Value → Shared → Prop} {R : Result → Shared → Prop} {m : Str → Option Value} {e₀ : Expr} {sc₀ : Scope}
  {p : Program} {loose : List Str} {mean : ExcName → Option Value} {mg mb : Str → Option Value} {oo : Obj} {x : Int} {tx : Tok} {led : List (Addr × Obj)} {row : Addr} {us : List Value} {rs : List Int} {c : Nat}
  (he : e₀ = lenE) (hsc : sc₀ = lawScope) (B : Below callerA h₀ [] h₀) (F : Fr h₀ L s.heap m) (hm : m (Str.ofString "row") = some (.ref row)) (X : (Mine.hd.heap_39 w.params).In h₀) (T : Top p loose mean mg mb h₀)
  (N : News h₀ L s.heap led) (h1 : (row, listOf us.toArray c) ∈ led) (h2 : (L + 1 + 1 + 1 + 1 + 1 + 1, oo) ∈ led) (hoo : oo.data = .cell (some (.int x tx)))
  (hi : IntsAre us rs) (hlen : rs.length = 5)
  (hret : ∀ (h' : Heap) (tk' : Nat) (t : Tok), Fr h₀ L h' m → News h₀ L h' led → Q (.int ((rs.countP fun v => decide (v < x) : Nat) : Int) t) {s with heap := h', toks := tk'}) :
  wpAny (model PySem.Challenge.rw_pg0186_01.row.prog w) (callerA.deeper (envOfC (Str.ofString "law") sc₀ L fa cd)) (eval e₀ (envOfC (Str.ofString "law") sc₀ L fa cd)) Q
    (fun e s' => wpAny (model PySem.Challenge.rw_pg0186_01.row.prog w) (callerA.deeper (envOfC (Str.ofString "law") sc₀ L fa cd)) (leaving (envOfC (Str.ofString "law") sc₀ L fa cd) e) (fun _ s'' => R (.error e) s'') (fun e' s'' => R (.error e') s'') s') s := by
  subst he; subst hsc
  obtain ⟨tp, otp, m1, m2⟩ := led_max led (led_ne h1)
  refine cnt_c (tp := tp) (otp := otp) (news := led) (us := us) (c := c) B (fr_pin F hm) X T (news_sub N ?_) hoo (allLt_mono m2 fun _ h => h) (Nat.lt_succ_of_le (m2 _ h2)) (Nat.lt_succ_of_le (m2 _ h1)) hi hlen
    (fun h' tk' t F' N' => hret h' tk' t (fr_unpin F' hm) (news_sub N' fun p hp => .tail _ (.tail _ (.tail _ hp))))
  intro p hp
  rcases List.mem_cons.mp hp with e | hp
  · rw [e]; exact h1
  rcases List.mem_cons.mp hp with e | hp
  · rw [e]; exact h2
  rcases List.mem_cons.mp hp with e | hp
  · rw [e]; exact m1
  exact hp
end Mine
end
/-! H12 -/
section
open PySem PySem.Spec PySem.Calls PySem.W PyProof.Rows
namespace Mine
local macro_rules | `(tactic| k_mem) => `(tactic| k_dflt assumption)
theorem st_int {prog : Program} {w : World} {A : Around} {E : Value → Shared → Prop} {s : Shared} {Q : Value → Shared → Prop} {t : Tok} {p : Int → Bool} {rs : List Int} (hl : rs.length = 5) (h : ∀ u tk, Q (.str (Str.ofString (toString ((rs.countP p : Nat) : Int))) u) { s with toks := tk }) :
    wpAny (model prog w) A (call (.type "str") [.int ((rs.countP p : Nat) : Int) t]) Q E s :=
  P.str_of_int (by
    have h1 : rs.countP p ≤ 5 := by rw [← hl]; exact List.countP_le_length
    rcases Nat.eq_zero_or_pos (rs.countP p) with e | e
    · rw [e]; decide
    · exact Nat.lt_trans ((Nat.log2_lt (by omega)).mpr (show ((rs.countP p : Nat) : Int).natAbs < 2 ^ 7 by omega)) (by decide)) (h _ _)
def ifS : Stmt := (forB 12).getD 0 default
set_option maxRecDepth 100000 in
set_option maxHeartbeats 600000 in
theorem bd12 {w : World} {fa : Addr} {cd : Value} {h₀ : Heap} {L : Addr} {s : Shared} {Q : Flow → Shared → Prop} {R : Result → Shared → Prop} {m : Str → Option Value}
  {p : Program} {loose : List Str} {mean : ExcName → Option Value} {mg mb : Str → Option Value} {oo ow om od oc : Obj} {x wd : Int} {tx tw tm : Tok} {led : List (Addr × Obj)} {row D c' : Addr} {us vs : List Value} {rs ds : List Int} {c n : Nat} {marks : Str} {vq : Array Value} {tq : Tok}
  (B : Below callerA h₀ [] h₀) (F : Fr h₀ L s.heap (fun y => if y = Str.ofString "row" then some (.ref row) else m y)) (X : (Mine.hd.heap_39 w.params).In h₀) (T : Top p loose mean mg mb h₀) (C1 : CodeHd h₀ 68 64)
  (N : News h₀ L s.heap led) (h1 : (row, listOf us.toArray c) ∈ led) (h6 : (L + 1 + 1 + 1 + 1 + 1 + 1, oo) ∈ led) (hoo : oo.data = .cell (some (.int x tx)))
  (h2 : (L + 1 + 1, ow) ∈ led) (how : ow.data = .cell (some (.int wd tw))) (h3 : (L + 1 + 1 + 1, om) ∈ led) (hom : om.data = .cell (some (.str marks tm))) (h5 : (L + 1 + 1 + 1 + 1 + 1, od) ∈ led) (hod : od.data = .cell (some (.ref D)))
  (hc1 : (c', oc) ∈ led) (hc2 : (64, LamTab c') ∈ led) (hoc : oc.data = .fields vq) (hq : vq[1]? = some (.str QLam tq)) (hD : (D, listOf vs.toArray n) ∈ led) 
  (hi : IntsAre us rs) (hlen : rs.length = 5) (hid : IntsAre vs ds) (hdlen : ds.length = 5) (hwl : marks.length < 100) (hw0 : 1 ≤ wd) (hw1 : wd ≤ 3) (M : BlwOk marks ds rs wd x)
  (hret : ∀ (h' : Heap) (tk' : Nat), Fr h₀ L h' (fun y => if y = Str.ofString "row" then some (.ref row) else m y) → News h₀ L h' led → Q .next {s with heap := h', toks := tk'}) :
  wpAny (model PySem.Challenge.rw_pg0186_01.row.prog w) (callerA.deeper (lawEnv L fa cd)) (exec ifS (lawEnv L fa cd)) Q
    (fun e s' => wpAny (model PySem.Challenge.rw_pg0186_01.row.prog w) (callerA.deeper (lawEnv L fa cd)) (leaving (lawEnv L fa cd) e) (fun _ s'' => R (.error e) s'') (fun e' s'' => R (.error e') s'') s') s := by
  revert X; k_fill; intro X
  conv =>
    pattern ifS
    whnf
  unfold lawEnv
  repeat (conv =>
    pattern lawScope
    whnf)
  k_with_none
  w_on
  (k_with "call ref" => (k_here; (with_reducible show wpAny _ _ (call (Value.ref 76) [Value.str _ _, Value.ref _, Value.int _ _, Value.int _ _]) _ _ _); (k_dflt (refine' lb_u ?M ?B ?F ?X ?N ?h1 ?h2 ?hoc ?hq ?T ?C ?hD ?hi ?hlen ?hdp ?hun ?hwl ?hw0 ?hw1 ?_; (case M => assumption); (case B => k_asm); (case F => k_asm); (case X => k_asm); (case N => k_asm); (case hq => assumption); (case hoc => assumption); (case h1 => k_mem); (case h2 => k_mem); (case T => k_asm); (case C => assumption); (case hD => k_mem); (case hi => assumption); (case hlen => assumption); (case hdp => ktr_room); (case hun => ktr_units); (case hwl => assumption); (case hw0 => assumption); (case hw1 => assumption))); intro t' h' tk' F' N'))
  (k_with "eval Call" => (k_here; (k_dflt (refine' cnt_c' ?he ?hsc ?B ?F ?hm ?X ?T ?N ?h1 ?h2 ?hoo ?hi ?hlen ?_; (case he => (conv => rhs; whnf)); (case hsc => (conv => rhs; whnf)); (case B => k_asm); (case F => k_asm); (case X => k_asm); (case T => k_asm); (case N => k_asm); (case hm => rfl); (case h1 => k_mem); (case h2 => k_mem); (case hoo => assumption); (case hi => assumption); (case hlen => assumption))); intro h' tk' t' F' N'))
  (k_with "call type:str" => (k_here; (with_reducible show wpAny _ _ (call (Value.type "str") [Value.int _ _]) _ _ _); (k_dflt (refine' st_int ?hl ?_; (case hl => assumption))); intro u' tk'))
  w_strict ((try k_fold); k_steps; (all_goals first | exact ne_no (by assumption) | exact hret _ _ (by assumption) (by assumption)))
theorem bd12' {w : World} {fa : Addr} {cd : Value} {h₀ : Heap} {L : Addr} {s : Shared} {Q : Flow → Shared → Prop} {R : Result → Shared → Prop} {m : Str → Option Value} {e₀ : Stmt} {sc₀ : Scope}
  {p : Program} {loose : List Str} {mean : ExcName → Option Value} {mg mb : Str → Option Value} {oo ow om od oc : Obj} {x wd : Int} {tx tw tm : Tok} {led : List (Addr × Obj)} {row D c' : Addr} {us vs : List Value} {rs ds : List Int} {c n : Nat} {marks : Str} {vq : Array Value} {tq : Tok}
  (he : e₀ = ifS) (hsc : sc₀ = lawScope) (B : Below callerA h₀ [] h₀) (F : Fr h₀ L s.heap m) (hm : m (Str.ofString "row") = some (.ref row)) (X : (Mine.hd.heap_39 w.params).In h₀) (T : Top p loose mean mg mb h₀) (C1 : CodeHd h₀ 68 64)
  (N : News h₀ L s.heap led) (h1 : (row, listOf us.toArray c) ∈ led) (h6 : (L + 1 + 1 + 1 + 1 + 1 + 1, oo) ∈ led) (hoo : oo.data = .cell (some (.int x tx)))
  (h2 : (L + 1 + 1, ow) ∈ led) (how : ow.data = .cell (some (.int wd tw))) (h3 : (L + 1 + 1 + 1, om) ∈ led) (hom : om.data = .cell (some (.str marks tm))) (h5 : (L + 1 + 1 + 1 + 1 + 1, od) ∈ led) (hod : od.data = .cell (some (.ref D)))
  (hc1 : (c', oc) ∈ led) (hc2 : (64, LamTab c') ∈ led) (hoc : oc.data = .fields vq) (hq : vq[1]? = some (.str QLam tq)) (hD : (D, listOf vs.toArray n) ∈ led) 
  (hi : IntsAre us rs) (hlen : rs.length = 5) (hid : IntsAre vs ds) (hdlen : ds.length = 5) (hwl : marks.length < 100) (hw0 : 1 ≤ wd) (hw1 : wd ≤ 3) (M : BlwOk marks ds rs wd x)
  (hret : ∀ (h' : Heap) (tk' : Nat), Fr h₀ L h' m → News h₀ L h' led → Q .next {s with heap := h', toks := tk'}) :
  wpAny (model PySem.Challenge.rw_pg0186_01.row.prog w) (callerA.deeper (envOfC (Str.ofString "law") sc₀ L fa cd)) (exec e₀ (envOfC (Str.ofString "law") sc₀ L fa cd)) Q
    (fun e s' => wpAny (model PySem.Challenge.rw_pg0186_01.row.prog w) (callerA.deeper (envOfC (Str.ofString "law") sc₀ L fa cd)) (leaving (envOfC (Str.ofString "law") sc₀ L fa cd) e) (fun _ s'' => R (.error e) s'') (fun e' s'' => R (.error e') s'') s') s := by
  subst he; subst hsc
  exact bd12 B (fr_pin F hm) X T C1 N h1 h6 hoo h2 how h3 hom h5 hod hc1 hc2 hoc hq hD hi hlen hid hdlen hwl hw0 hw1 M fun h' tk' F' N' => hret h' tk' (fr_unpin F' hm) N'
end Mine
end
/-! J12 -/
section
open PySem PySem.Spec PySem.Calls PySem.W PyProof.Rows
namespace Mine
/-- what a turn over the two bounds must bring back -/
def BlEnd (h₀ : Heap) (L : Addr) (m : Str → Option Value) (rest : List (Addr × Obj)) (s₁ s₂ : Shared) : Prop :=
  ∃ h' tk oo vo, s₂ = { s₁ with heap := h', toks := tk } ∧ Fr h₀ L h' m ∧ News h₀ L h' ((L + 1 + 1 + 1 + 1 + 1 + 1, oo) :: rest) ∧ oo.data = .cell vo
def BlPost (h₀ : Heap) (L : Addr) (m : Str → Option Value) (rest : List (Addr × Obj)) (s₁ : Shared) (Q : Flow → Shared → Prop) (f : Flow) (s₂ : Shared) : Prop :=
  match f with
  | .ret v => Q (.ret v) s₂
  | .brk => Q .next s₂
  | _ => BlEnd h₀ L m rest s₁ s₂
section
variable {prog : Program} {w : World} {A : Around} {E : Value → Shared → Prop} {s : Shared} {env : Env} {h₀ : Heap} {target : Expr} {body : List Stmt} {Q : Flow → Shared → Prop}
theorem bl_unr {m : Str → Option Value} {rest : List (Addr × Obj)} {fp : List Addr} {P : Nat → Value → Prop} (hfp : env.locals + 1 + 1 + 1 + 1 + 1 + 1 ∉ fp)
    (turn : ∀ (i : Nat) (v : Value) (oo : Obj) (vo : Option Value) (h : Heap) (tk : Nat) (own : List (Addr × Obj)), P i v → oo.data = .cell vo → (∀ p ∈ own, p.1 ∈ fp) →
      Fr h₀ env.locals h m → News h₀ env.locals h ((env.locals + 1 + 1 + 1 + 1 + 1 + 1, oo) :: (rest ++ own)) →
      wpAny (model prog w) A (assign target env v) (fun _ s₂ => wpAny (model prog w) A (execs body env) (BlPost h₀ env.locals m (rest ++ own) { s with heap := h, toks := tk } Q) E s₂) E { s with heap := h, toks := tk })
    (done : ∀ (oo : Obj) (vo : Option Value) (h : Heap) (tk : Nat), oo.data = .cell vo → Fr h₀ env.locals h m → News h₀ env.locals h ((env.locals + 1 + 1 + 1 + 1 + 1 + 1, oo) :: rest) → Q .next { s with heap := h, toks := tk }) :
    ∀ (k i : Nat) (oo : Obj) (vo : Option Value), oo.data = .cell vo → Unr prog w A E h₀ env target body Q P fp s k i m ((env.locals + 1 + 1 + 1 + 1 + 1 + 1, oo) :: rest) := by
  intro k
  induction k with
  | zero =>
    intro i oo vo ho
    exact Unr.zero fun h' tk F N => done oo vo h' tk ho F N
  | succ k ih =>
    intro i oo vo ho
    refine Unr.succ fun v h₁ tk₁ own hP hown F N => ?_
    refine wpAny_mono (turn i v oo vo h₁ tk₁ own hP ho hown F (fun p hp => N p ?_)) (fun _ s₂ h₂ => wpAny_mono h₂ (fun f s₃ h₃ => ?_) fun _ _ e => e) fun _ _ e => e
    · simp only [List.mem_cons, List.mem_append] at hp ⊢
      rcases hp with h | h | h
      · exact .inr (.inl h)
      · exact .inr (.inr h)
      · exact .inl h
    · have up : BlEnd h₀ env.locals m (rest ++ own) { s with heap := h₁, toks := tk₁ } s₃ → LoopStep2 h₀ env.locals own ((env.locals + 1 + 1 + 1 + 1 + 1 + 1, oo) :: rest) (Unr prog w A E h₀ env target body Q P fp s k (i + 1)) { s with heap := h₁, toks := tk₁ } .next s₃ := by
        rintro ⟨h', tk, oo', vo', rfl, F', N', ho'⟩
        refine LoopStep2.intro (news₂ := (env.locals + 1 + 1 + 1 + 1 + 1 + 1, oo') :: rest) F' (fun p hp => N' p ?_) rfl (ih (i + 1) oo' vo' ho')
        simp only [List.mem_cons, List.mem_append] at hp ⊢
        rcases hp with h | h | h
        · exact .inr (.inr h)
        · exact .inl h
        · exact .inr (.inl h)
      cases f with
      | ret v => exact h₃
      | brk => exact h₃
      | next => exact up h₃
      | cont => exact up h₃
theorem bl_iter {m : Str → Option Value} {rest led : List (Addr × Obj)} {D L : Addr} {x0 x1 : Int} {u0 u1 : Tok} {k : Nat} {oo : Obj} {vo : Option Value} (hL : env.locals = L)
    (hh : A.handled = none) (F : Fr h₀ L s.heap m) (N : News h₀ L s.heap led) (hm : (D, listOf [Value.int x0 u0, .int x1 u1].toArray k) ∈ led) (hD : @Ne Nat D (L + 1 + 1 + 1 + 1 + 1 + 1))
    (hs : ∀ p ∈ (L + 1 + 1 + 1 + 1 + 1 + 1, oo) :: rest, p ∈ led) (ho : oo.data = .cell vo)
    (hgo : ∀ I v, letOwnedTupleGo target (.ref I) v = pure ())
    (turn : ∀ (x : Int) (t : Tok) (oo : Obj) (vo : Option Value) (h : Heap) (tk : Nat) (own : List (Addr × Obj)), x = x0 ∨ x = x1 → oo.data = .cell vo → (∀ p ∈ own, p.1 ≠ L + 1 + 1 + 1 + 1 + 1 + 1) →
      Fr h₀ L h m → News h₀ L h ((L + 1 + 1 + 1 + 1 + 1 + 1, oo) :: (rest ++ own)) →
      wpAny (model prog w) A (assign target env (.int x t)) (fun _ s₂ => wpAny (model prog w) A (execs body env) (BlPost h₀ L m (rest ++ own) { s with heap := h, toks := tk } Q) E s₂) E { s with heap := h, toks := tk })
    (done : ∀ (oo : Obj) (vo : Option Value) (h : Heap) (tk : Nat), oo.data = .cell vo → Fr h₀ L h m → News h₀ L h ((L + 1 + 1 + 1 + 1 + 1 + 1, oo) :: rest) → Q .next { s with heap := h, toks := tk }) :
    wpAny (model prog w) A (pyIter (.ref D)) (fun it s₂ => UnrAt prog w A h₀ env target body Q E it s₂) E s := by
  subst hL
  have hl := N.isList hm
  have hlt : ∀ p ∈ led, p.1 < s.heap.objs.size := fun p hp => Heap.lt_size (N p hp).1
  have hDl : D < s.heap.objs.size := hlt _ hm
  have h6 : env.locals + 1 + 1 + 1 + 1 + 1 + 1 < s.heap.objs.size := hlt _ (hs _ (.head _))
  refine wpAny_pyIter_list hl ?_
  have up : ∀ b o, s.heap.get? b = some o → (s.heap.push { cls := .type "list_iterator", data := .fields #[.ref D, .int 0 0] }).get? b = some o := fun b o e => Heap.get?_push_of_some _ e
  have hfp : env.locals + 1 + 1 + 1 + 1 + 1 + 1 ∉ [s.heap.objs.size, D] := by
    intro h
    rcases List.mem_cons.mp h with e | h
    · rw [e] at h6; exact Nat.lt_irrefl _ h6
    · exact hD (List.mem_singleton.mp h).symm
  refine ⟨s.heap.objs.size, _, _, _, _, _, m, (env.locals + 1 + 1 + 1 + 1 + 1 + 1, oo) :: rest, rfl, Walks.list hh s.heap.objs.size D (Nat.ne_of_lt hDl) _, ?_, ?_, ?_, ⟨⟨_, Heap.get?_push_size _ rfl, rfl, rfl⟩, hl.push _⟩, F.keeps up, (fun p hp => ⟨up _ _ (N p (hs p hp)).1, (N p (hs p hp)).2⟩), ?_, ?_⟩
  · intro h
    rcases List.mem_cons.mp h with e | h
    · exact absurd F.ns.lt (e ▸ Nat.lt_irrefl _)
    · exact (N _ hm).2.1 (List.mem_singleton.mp h).symm
  · intro b hb
    rw [List.mem_singleton.mp hb]
    exact next_is_new F
  · intro p hp hI
    exact absurd (hlt p (hs p hp)) ((List.mem_singleton.mp hI) ▸ Nat.lt_irrefl _)
  · intro i s' v Q' _ hQ'
    rw [hgo]; exact wpAny_pure hQ'
  · refine bl_unr hfp ?_ ?_ _ 0 oo vo ho
    · intro i v oo vo h tk own hP ho hown F' N'
      have hv : ∃ x t, v = .int x t ∧ (x = x0 ∨ x = x1) := by
        cases i with
        | zero => exact ⟨x0, u0, (Option.some.inj hP).symm, .inl rfl⟩
        | succ i => cases i with
          | zero => exact ⟨x1, u1, (Option.some.inj hP).symm, .inr rfl⟩
          | succ i => cases hP
      obtain ⟨x, t, rfl, hx⟩ := hv
      exact turn x t oo vo h tk own hx ho (fun p hp e => hfp (e ▸ hown p hp)) F' N'
    · exact done
end
end Mine
end
/-! K12 -/
section
open PySem PySem.Spec PySem.Calls PySem.W PyProof.Rows
namespace Mine
local macro_rules | `(tactic| k_mem) => `(tactic| k_dflt assumption)
theorem bl_end {h₀ : Heap} {L : Addr} {m : Str → Option Value} {rest : List (Addr × Obj)} {s₁ : Shared} {h' : Heap} {tk : Nat} {oo : Obj} {vo : Option Value} (F : Fr h₀ L h' m) (N : News h₀ L h' ((L + 1 + 1 + 1 + 1 + 1 + 1, oo) :: rest)) (ho : oo.data = .cell vo) :
    BlEnd h₀ L m rest s₁ { s₁ with heap := h', toks := tk } := ⟨h', tk, oo, vo, rfl, F, N, ho⟩
set_option maxRecDepth 100000 in
set_option maxHeartbeats 600000 in
theorem bl_turn {w : World} {fa : Addr} {cd : Value} {h₀ : Heap} {L : Addr} {s : Shared} {Q : Flow → Shared → Prop} {R : Result → Shared → Prop} {m : Str → Option Value}
  {p : Program} {loose : List Str} {mean : ExcName → Option Value} {mg mb : Str → Option Value} {oo ow om od oc : Obj} {x wd : Int} {t tw tm : Tok} {led : List (Addr × Obj)} {row D c' : Addr} {us vs : List Value} {rs ds : List Int} {c n : Nat} {marks : Str} {vq : Array Value} {tq : Tok} {vo : Option Value}
  (B : Below callerA h₀ [] h₀) (F : Fr h₀ L s.heap m) (hm : m (Str.ofString "row") = some (.ref row)) (X : (Mine.hd.heap_39 w.params).In h₀) (T : Top p loose mean mg mb h₀) (C1 : CodeHd h₀ 68 64)
  (N : News h₀ L s.heap ((L + 1 + 1 + 1 + 1 + 1 + 1, oo) :: led)) (hne : ∀ p ∈ led, p.1 ≠ L + 1 + 1 + 1 + 1 + 1 + 1) (h1 : (row, listOf us.toArray c) ∈ led) (hvo : oo.data = .cell vo)
  (h2 : (L + 1 + 1, ow) ∈ led) (how : ow.data = .cell (some (.int wd tw))) (h3 : (L + 1 + 1 + 1, om) ∈ led) (hom : om.data = .cell (some (.str marks tm))) (h5 : (L + 1 + 1 + 1 + 1 + 1, od) ∈ led) (hod : od.data = .cell (some (.ref D)))
  (hc1 : (c', oc) ∈ led) (hc2 : (64, LamTab c') ∈ led) (hoc : oc.data = .fields vq) (hq : vq[1]? = some (.str QLam tq)) (hD : (D, listOf vs.toArray n) ∈ led) 
  (hi : IntsAre us rs) (hlen : rs.length = 5) (hid : IntsAre vs ds) (hdlen : ds.length = 5) (hwl : marks.length < 100) (hw0 : 1 ≤ wd) (hw1 : wd ≤ 3) (M : BlwOk marks ds rs wd x) :
  wpAny (model PySem.Challenge.rw_pg0186_01.row.prog w) (callerA.deeper (lawEnv L fa cd)) (assign (forT 12) (lawEnv L fa cd) (.int x t)) (fun _ s₂ => wpAny (model PySem.Challenge.rw_pg0186_01.row.prog w) (callerA.deeper (lawEnv L fa cd)) (execs (forB 12) (lawEnv L fa cd)) (BlPost h₀ L m led s Q)
    (fun e s' => wpAny (model PySem.Challenge.rw_pg0186_01.row.prog w) (callerA.deeper (lawEnv L fa cd)) (leaving (lawEnv L fa cd) e) (fun _ s'' => R (.error e) s'') (fun e' s'' => R (.error e') s'') s') s₂)
    (fun e s' => wpAny (model PySem.Challenge.rw_pg0186_01.row.prog w) (callerA.deeper (lawEnv L fa cd)) (leaving (lawEnv L fa cd) e) (fun _ s'' => R (.error e) s'') (fun e' s'' => R (.error e') s'') s') s := by
  revert X; k_fill; intro X
  conv =>
    pattern (forB _)
    whnf
  conv =>
    pattern (forT _)
    whnf
  unfold lawEnv
  repeat (conv =>
    pattern lawScope
    whnf)
  k_with_none
  w_on
  (k_with "BlPost" => (dsimp only [BlPost]))
  (k_with "BlEnd" => (k_dflt (exact bl_end (by assumption) (by assumption) (by assumption))))
  (k_with "exec If" => (k_here; (k_dflt (refine' bd12' ?he ?hsc ?B ?F ?hm ?X ?T ?C1 ?N ?h1 ?h6 ?hoo ?h2 ?how ?h3 ?hom ?h5 ?hod ?hc1 ?hc2 ?hoc ?hq ?hD ?hi ?hlen ?hid ?hdlen ?hwl ?hw0 ?hw1 ?M ?_; (case he => (conv => rhs; whnf)); (case hsc => (conv => rhs; whnf)); (case B => k_asm); (case F => k_asm); (case X => k_asm); (case T => k_asm); (case C1 => assumption); (case N => k_asm); (case hm => assumption); (case h1 => exact .tail _ (by assumption)); (case h6 => exact .head _); (case hoo => assumption); (case h2 => exact .tail _ (by assumption)); (case how => assumption); (case h3 => exact .tail _ (by assumption)); (case hom => assumption); (case h5 => exact .tail _ (by assumption)); (case hod => assumption); (case hq => assumption); (case hoc => assumption); (case hc1 => exact .tail _ (by assumption)); (case hc2 => exact .tail _ (by assumption)); (case hD => exact .tail _ (by assumption)); (case M => assumption); (case hi => assumption); (case hid => assumption); (case hlen => assumption); (case hdlen => assumption); (case hwl => assumption); (case hw0 => assumption); (case hw1 => assumption))); intro h' tk' F' N'))
  w_strict ((try k_fold); k_steps; skip)
theorem bl_turn' {e₀ : Expr} {b₀ : List Stmt} {sc₀ : Scope} {w : World} {fa : Addr} {cd : Value} {h₀ : Heap} {L : Addr} {s : Shared} {Q : Flow → Shared → Prop} {R : Result → Shared → Prop} {m : Str → Option Value}
  {p : Program} {loose : List Str} {mean : ExcName → Option Value} {mg mb : Str → Option Value} {oo ow om od oc : Obj} {x wd : Int} {t tw tm : Tok} {led : List (Addr × Obj)} {row D c' : Addr} {us vs : List Value} {rs ds : List Int} {c n : Nat} {marks : Str} {vq : Array Value} {tq : Tok} {vo : Option Value}
  (he : e₀ = forT 12) (hb : b₀ = forB 12) (hsc : sc₀ = lawScope) (B : Below callerA h₀ [] h₀) (F : Fr h₀ L s.heap m) (hm : m (Str.ofString "row") = some (.ref row)) (X : (Mine.hd.heap_39 w.params).In h₀) (T : Top p loose mean mg mb h₀) (C1 : CodeHd h₀ 68 64)
  (N : News h₀ L s.heap ((L + 1 + 1 + 1 + 1 + 1 + 1, oo) :: led)) (hne : ∀ p ∈ led, p.1 ≠ L + 1 + 1 + 1 + 1 + 1 + 1) (h1 : (row, listOf us.toArray c) ∈ led) (hvo : oo.data = .cell vo)
  (h2 : (L + 1 + 1, ow) ∈ led) (how : ow.data = .cell (some (.int wd tw))) (h3 : (L + 1 + 1 + 1, om) ∈ led) (hom : om.data = .cell (some (.str marks tm))) (h5 : (L + 1 + 1 + 1 + 1 + 1, od) ∈ led) (hod : od.data = .cell (some (.ref D)))
  (hc1 : (c', oc) ∈ led) (hc2 : (64, LamTab c') ∈ led) (hoc : oc.data = .fields vq) (hq : vq[1]? = some (.str QLam tq)) (hD : (D, listOf vs.toArray n) ∈ led) 
  (hi : IntsAre us rs) (hlen : rs.length = 5) (hid : IntsAre vs ds) (hdlen : ds.length = 5) (hwl : marks.length < 100) (hw0 : 1 ≤ wd) (hw1 : wd ≤ 3) (M : BlwOk marks ds rs wd x) :
  wpAny (model PySem.Challenge.rw_pg0186_01.row.prog w) (callerA.deeper (envOfC (Str.ofString "law") sc₀ L fa cd)) (assign e₀ (envOfC (Str.ofString "law") sc₀ L fa cd) (.int x t)) (fun _ s₂ => wpAny (model PySem.Challenge.rw_pg0186_01.row.prog w) (callerA.deeper (envOfC (Str.ofString "law") sc₀ L fa cd)) (execs b₀ (envOfC (Str.ofString "law") sc₀ L fa cd)) (BlPost h₀ L m led s Q)
    (fun e s' => wpAny (model PySem.Challenge.rw_pg0186_01.row.prog w) (callerA.deeper (envOfC (Str.ofString "law") sc₀ L fa cd)) (leaving (envOfC (Str.ofString "law") sc₀ L fa cd) e) (fun _ s'' => R (.error e) s'') (fun e' s'' => R (.error e') s'') s') s₂)
    (fun e s' => wpAny (model PySem.Challenge.rw_pg0186_01.row.prog w) (callerA.deeper (envOfC (Str.ofString "law") sc₀ L fa cd)) (leaving (envOfC (Str.ofString "law") sc₀ L fa cd) e) (fun _ s'' => R (.error e) s'') (fun e' s'' => R (.error e') s'') s') s := by
  subst he; subst hb; subst hsc
  exact bl_turn B F hm X T C1 N hne h1 hvo h2 how h3 hom h5 hod hc1 hc2 hoc hq hD hi hlen hid hdlen hwl hw0 hw1 M
end Mine
end
/-! I12 -/
section
open PySem PySem.Spec PySem.Calls PySem.W PyProof.Rows
namespace Mine
local macro_rules | `(tactic| k_mem) => `(tactic| k_dflt assumption)
theorem bl_pick {bd x y0 y1 : Int} {marks : Str} {ds rs : List Int} {wd : Int} (hb0 : 12 ≤ bd) (M : ∀ x, 0 ≤ x → x < bd → BlwOk marks ds rs wd x) (h : x = Int.fmod y0 bd ∨ x = Int.fmod y1 bd) : BlwOk marks ds rs wd x := by
  rcases h with rfl | rfl
  · exact M _ (fmod_lo y0 (by omega)) (fmod_hi y0 (by omega))
  · exact M _ (fmod_lo y1 (by omega)) (fmod_hi y1 (by omega))
theorem bl_hne {L : Addr} {rest own : List (Addr × Obj)} (h : ∀ p ∈ rest, p.1 ≠ L + 1 + 1 + 1 + 1 + 1 + 1) (ho : ∀ p ∈ own, p.1 ≠ L + 1 + 1 + 1 + 1 + 1 + 1) : ∀ p ∈ rest ++ own, p.1 ≠ L + 1 + 1 + 1 + 1 + 1 + 1 := fun p hp => (List.mem_append.mp hp).elim (h p) (ho p)
set_option maxRecDepth 100000 in
set_option maxHeartbeats 600000 in
theorem st12 {w : World} {fa : Addr} {cd : Value} {h₀ : Heap} {L : Addr} {s : Shared} {Q : Flow → Shared → Prop} {R : Result → Shared → Prop} {m : Str → Option Value}
  {p : Program} {loose : List Str} {mean : ExcName → Option Value} {mg mb : Str → Option Value} {oo ob ow om od oc : Obj} {bd wd : Int} {tb tw tm : Tok} {led : List (Addr × Obj)} {nb row D c' : Addr} {us vs : List Value} {rs ds : List Int} {c n n0 : Nat} {marks : Str} {vq : Array Value} {tq : Tok} {vo : Option Value} {a0 a1 a2 a3 a4 a5 : Int} {t0 t1 t2 t3 t4 t5 : Tok}
  (B : Below callerA h₀ [] h₀) (F : Fr h₀ L s.heap (fun y => if y = Str.ofString "numbers" then some (.ref nb) else m y)) (hm : m (Str.ofString "row") = some (.ref row)) (X : (Mine.hd.heap_39 w.params).In h₀) (T : Top p loose mean mg mb h₀) (C1 : CodeHd h₀ 68 64)
  (N : News h₀ L s.heap ((nb, listOf [Value.int a0 t0, .int a1 t1, .int a2 t2, .int a3 t3, .int a4 t4, .int a5 t5].toArray n0) :: (L + 1 + 1 + 1 + 1 + 1 + 1, oo) :: led)) (hnb6 : @LT.lt Nat _ (L + 1 + 1 + 1 + 1 + 1 + 1) nb) (hne : ∀ p ∈ led, p.1 ≠ L + 1 + 1 + 1 + 1 + 1 + 1) (h1 : (row, listOf us.toArray c) ∈ led) (hoo : oo.data = .cell vo)
  (hb : (L + 1, ob) ∈ led) (hob : ob.data = .cell (some (.int bd tb)))
  (h2 : (L + 1 + 1, ow) ∈ led) (how : ow.data = .cell (some (.int wd tw))) (h3 : (L + 1 + 1 + 1, om) ∈ led) (hom : om.data = .cell (some (.str marks tm))) (h5 : (L + 1 + 1 + 1 + 1 + 1, od) ∈ led) (hod : od.data = .cell (some (.ref D)))
  (hc1 : (c', oc) ∈ led) (hc2 : (64, LamTab c') ∈ led) (hoc : oc.data = .fields vq) (hq : vq[1]? = some (.str QLam tq)) (hD : (D, listOf vs.toArray n) ∈ led) 
  (hi : IntsAre us rs) (hlen : rs.length = 5) (hid : IntsAre vs ds) (hdlen : ds.length = 5) (hwl : marks.length < 100) (hw0 : 1 ≤ wd) (hw1 : wd ≤ 3) (hb0 : 12 ≤ bd) (hb1 : bd ≤ 51) (M : ∀ x, 0 ≤ x → x < bd → BlwOk marks ds rs wd x)
  (hret : ∀ (h' : Heap) (tk' : Nat) (oo : Obj), Fr h₀ L h' (fun y => if y = Str.ofString "numbers" then some (.ref nb) else m y) → News h₀ L h' ((L + 1 + 1 + 1 + 1 + 1 + 1, oo) :: led) → Q .next {s with heap := h', toks := tk'}) :
  wpAny (model PySem.Challenge.rw_pg0186_01.row.prog w) (callerA.deeper (lawEnv L fa cd)) (exec (lawSt 12) (lawEnv L fa cd)) Q
    (fun e s' => wpAny (model PySem.Challenge.rw_pg0186_01.row.prog w) (callerA.deeper (lawEnv L fa cd)) (leaving (lawEnv L fa cd) e) (fun _ s'' => R (.error e) s'') (fun e' s'' => R (.error e') s'') s') s := by
  revert X; k_fill; intro X
  conv =>
    pattern lawSt _
    whnf
  unfold lawEnv
  repeat (conv =>
    pattern lawScope
    whnf)
  k_with_none
  w_on
  (k_with "exec For" => (k_here; (rename Fr _ _ _ _ => lF'); (with_unfolding_all refine' For_unrF lF' ?_ ?ks); (case ks => (intro _; with_unfolding_all rfl))))
  (k_with "pyIter ref" => (k_here; (rename Fr _ _ _ _ => lF'); (rename News _ _ _ _ => lN'); (k_dflt ((refine' bl_iter (by with_unfolding_all rfl) ?hh lF' lN' ?hm ?hD ?hs ?ho ?hgo ?turn (fun oo' vo' h' tk' ho' F' N' => ?_)); (case hh => with_unfolding_all rfl); (case hm => exact .head _); (case hs => exact fun p hp => .tail _ (.tail _ hp)); (case hD => k_ne); (case ho => assumption); (case hgo => (intro _ _; with_unfolding_all rfl)); (case turn => (intro x' t' oo' vo' h' tk' own' hx' ho' hown' F' N'; (refine' bl_turn' ?he ?hb ?hsc ?B F' ?hm ?X ?T ?C1 N' ?hne ?h1 ho' ?h2 ?how ?h3 ?hom ?h5 ?hod ?hc1 ?hc2 ?hoc ?hq ?hD ?hi ?hlen ?hid ?hdlen ?hwl ?hw0 ?hw1 ?M); (case he => (conv => rhs; whnf)); (case hb => (conv => rhs; whnf)); (case hsc => (conv => rhs; whnf)); (case B => k_asm); (case X => k_asm); (case T => k_asm); (case C1 => assumption); (case hm => exact (if_neg (by decide)).trans (by assumption)); (case hne => exact bl_hne (by assumption) hown'); (case h1 => exact List.mem_append_left _ (by assumption)); (case h2 => exact List.mem_append_left _ (by assumption)); (case how => assumption); (case h3 => exact List.mem_append_left _ (by assumption)); (case hom => assumption); (case h5 => exact List.mem_append_left _ (by assumption)); (case hod => assumption); (case hq => assumption); (case hoc => assumption); (case hc1 => exact List.mem_append_left _ (by assumption)); (case hc2 => exact List.mem_append_left _ (by assumption)); (case hD => exact List.mem_append_left _ (by assumption)); (case M => exact bl_pick (by assumption) (by assumption) hx'); (case hi => assumption); (case hid => assumption); (case hlen => assumption); (case hdlen => assumption); (case hwl => assumption); (case hw0 => assumption); (case hw1 => assumption))))); (try dsimp only)))
  w_strict ((try k_fold); k_steps; (all_goals exact hret _ _ _ (by assumption) (by assumption)))
theorem st12' {w : World} {fa : Addr} {cd : Value} {h₀ : Heap} {L : Addr} {s : Shared} {Q : Flow → Shared → Prop} {R : Result → Shared → Prop} {m : Str → Option Value}
  {p : Program} {loose : List Str} {mean : ExcName → Option Value} {mg mb : Str → Option Value} {oo ob ow om od oc : Obj} {bd wd : Int} {tb tw tm : Tok} {led rest : List (Addr × Obj)} {nb row D c' : Addr} {us vs : List Value} {rs ds : List Int} {c n n0 : Nat} {marks : Str} {vq : Array Value} {tq : Tok} {vo : Option Value} {a0 a1 a2 a3 a4 a5 : Int} {t0 t1 t2 t3 t4 t5 : Tok}
  (B : Below callerA h₀ [] h₀) (F : Fr h₀ L s.heap m) (hm : m (Str.ofString "row") = some (.ref row)) (hm2 : m (Str.ofString "numbers") = some (.ref nb)) (X : (Mine.hd.heap_39 w.params).In h₀) (T : Top p loose mean mg mb h₀) (C1 : CodeHd h₀ 68 64)
  (N : News h₀ L s.heap led) (hs : ∀ p ∈ (L + 1 + 1 + 1 + 1 + 1 + 1, oo) :: rest, p ∈ led) (hne : ∀ p ∈ rest, p.1 ≠ L + 1 + 1 + 1 + 1 + 1 + 1) (hnb : (nb, listOf [Value.int a0 t0, .int a1 t1, .int a2 t2, .int a3 t3, .int a4 t4, .int a5 t5].toArray n0) ∈ rest) (hnb6 : @LT.lt Nat _ (L + 1 + 1 + 1 + 1 + 1 + 1) nb) (h1 : (row, listOf us.toArray c) ∈ rest) (hoo : oo.data = .cell vo)
  (hb : (L + 1, ob) ∈ rest) (hob : ob.data = .cell (some (.int bd tb)))
  (h2 : (L + 1 + 1, ow) ∈ rest) (how : ow.data = .cell (some (.int wd tw))) (h3 : (L + 1 + 1 + 1, om) ∈ rest) (hom : om.data = .cell (some (.str marks tm))) (h5 : (L + 1 + 1 + 1 + 1 + 1, od) ∈ rest) (hod : od.data = .cell (some (.ref D)))
  (hc1 : (c', oc) ∈ rest) (hc2 : (64, LamTab c') ∈ rest) (hoc : oc.data = .fields vq) (hq : vq[1]? = some (.str QLam tq)) (hD : (D, listOf vs.toArray n) ∈ rest) 
  (hi : IntsAre us rs) (hlen : rs.length = 5) (hid : IntsAre vs ds) (hdlen : ds.length = 5) (hwl : marks.length < 100) (hw0 : 1 ≤ wd) (hw1 : wd ≤ 3) (hb0 : 12 ≤ bd) (hb1 : bd ≤ 51) (M : ∀ x, 0 ≤ x → x < bd → BlwOk marks ds rs wd x)
  (hret : ∀ (h' : Heap) (tk' : Nat), Fr h₀ L h' m → News h₀ L h' rest → Q .next {s with heap := h', toks := tk'}) :
  wpAny (model PySem.Challenge.rw_pg0186_01.row.prog w) (callerA.deeper (lawEnv L fa cd)) (exec (lawSt 12) (lawEnv L fa cd)) Q
    (fun e s' => wpAny (model PySem.Challenge.rw_pg0186_01.row.prog w) (callerA.deeper (lawEnv L fa cd)) (leaving (lawEnv L fa cd) e) (fun _ s'' => R (.error e) s'') (fun e' s'' => R (.error e') s'') s') s := by
  refine st12 (m := m) (led := rest) (oo := oo) (vo := vo) (nb := nb) (n0 := n0) (a0 := a0) (a1 := a1) (a2 := a2) (a3 := a3) (a4 := a4) (a5 := a5) (t0 := t0) (t1 := t1) (t2 := t2) (t3 := t3) (t4 := t4) (t5 := t5) B (fr_pin F hm2) hm X T C1 (news_sub N ?_) hnb6 hne h1 hoo hb hob h2 how h3 hom h5 hod hc1 hc2 hoc hq hD hi hlen hid hdlen hwl hw0 hw1 hb0 hb1 M
    (fun h' tk' oo F' N' => hret h' tk' (fr_unpin F' hm2) (news_tl N'))
  intro p hp
  rcases List.mem_cons.mp hp with e | hp
  · rw [e]; exact hs _ (.tail _ hnb)
  exact hs p hp
end Mine
end
/-! L13 -/
section
open PySem PySem.Spec PySem.Calls PySem.W PyProof.Rows
namespace Mine
def retE : Expr := match lawSt 13 with | .Return (some e) _ => e | _ => default
def retR : Expr := match retE with | .Compare _ _ (r :: _) _ => r | _ => default
def retM : Expr := match retR with | .BinOp _ _ r _ => r | _ => default
def mnE : Expr := match retM with | .BinOp _ _ r _ => r | _ => default
def MnOk (bd k : Int) : Prop := (bd ≤ 20 ∧ k = 2) ∨ (20 < bd ∧ bd ≤ 40 ∧ k = 3) ∨ (40 < bd ∧ k = 4)
set_option maxRecDepth 100000 in
set_option maxHeartbeats 600000 in
theorem mn_c {w : World} {fa : Addr} {cd : Value} {base h₀ : Heap} {L : Addr} {s : Shared} {Q : Value → Shared → Prop} {R : Result → Shared → Prop} {m : Str → Option Value}
  {p : Program} {loose : List Str} {mean : ExcName → Option Value} {mg mb : Str → Option Value} {ob : Obj} {bd : Int} {tb : Tok} {news : List (Addr × Obj)} {tp : Addr} {otp : Obj}
  (B : Below callerA h₀ [] h₀) (F : Fr h₀ L s.heap m) (X : (Mine.hd.heap_39 w.params).In h₀) (T : Top p loose mean mg mb h₀)
  (N : News h₀ L s.heap ((L + 1, ob) :: (tp, otp) :: news)) (hob : ob.data = .cell (some (.int bd tb))) (htp : AllLt (tp + 1) news) (hL : L + 1 < tp + 1) (hb0 : 12 ≤ bd) (hb1 : bd ≤ 51)
  (hret : ∀ (h' : Heap) (tk' : Nat) (t : Tok) (k : Int), MnOk bd k → Fr h₀ L h' m → News h₀ L h' ((L + 1, ob) :: (tp, otp) :: news) → Q (.int k t) {s with heap := h', toks := tk'}) :
  wpAny (model PySem.Challenge.rw_pg0186_01.row.prog w) (callerA.deeper (lawEnv L fa cd)) (eval mnE (lawEnv L fa cd)) Q
    (fun e s' => wpAny (model PySem.Challenge.rw_pg0186_01.row.prog w) (callerA.deeper (lawEnv L fa cd)) (leaving (lawEnv L fa cd) e) (fun _ s'' => R (.error e) s'') (fun e' s'' => R (.error e') s'') s') s := by
  revert X; k_fill; intro X
  conv =>
    pattern mnE
    whnf
  unfold lawEnv
  repeat (conv =>
    pattern lawScope
    whnf)
  k_with_none
  w_on
  (k_with "binaryOp LShift int int" => (k_here; k_dflt (first | refine' lw_lsh 10 (by decide) (by decide) (by decide) ?_ | refine' lw_lsh 20 (by decide) (by decide) (by decide) ?_ | refine' lw_lsh 40 (by decide) (by decide) (by decide) ?_ | refine' lw_lsh 80 (by decide) (by decide) (by decide) ?_)))
  (k_with "CompEnd" => (k_dflt (refine comp_end (by k_asm) (by k_asm) (by assumption) (by exact True.intro) ?_)))
  (k_with "CompSrcT" => (k_here; k_dflt (refine LCt.CompSrcT.range (n := 4) (by rfl) (by k_asm) (by k_asm) (by assumption) (by decide) (by rfl) (by exact Nat.le_of_ble_eq_true rfl) ?_; intro g')))
  w_strict ((try k_fold); k_steps; (all_goals first | exact hret _ _ _ _ (by unfold MnOk; omega) (by assumption) (news_tl (by assumption))))
theorem mn_c' {w : World} {fa : Addr} {cd : Value} {h₀ : Heap} {L : Addr} {s : Shared} {Q : Value → Shared → Prop} {R : Result → Shared → Prop} {m : Str → Option Value} {e₀ : Expr} {sc₀ : Scope}
  {p : Program} {loose : List Str} {mean : ExcName → Option Value} {mg mb : Str → Option Value} {ob : Obj} {bd : Int} {tb : Tok} {led : List (Addr × Obj)}
  (he : e₀ = mnE) (hsc : sc₀ = lawScope) (B : Below callerA h₀ [] h₀) (F : Fr h₀ L s.heap m) (X : (Mine.hd.heap_39 w.params).In h₀) (T : Top p loose mean mg mb h₀)
  (N : News h₀ L s.heap led) (h1 : (L + 1, ob) ∈ led) (hob : ob.data = .cell (some (.int bd tb))) (hb0 : 12 ≤ bd) (hb1 : bd ≤ 51)
  (hret : ∀ (h' : Heap) (tk' : Nat) (t : Tok) (k : Int), MnOk bd k → Fr h₀ L h' m → News h₀ L h' led → Q (.int k t) {s with heap := h', toks := tk'}) :
  wpAny (model PySem.Challenge.rw_pg0186_01.row.prog w) (callerA.deeper (envOfC (Str.ofString "law") sc₀ L fa cd)) (eval e₀ (envOfC (Str.ofString "law") sc₀ L fa cd)) Q
    (fun e s' => wpAny (model PySem.Challenge.rw_pg0186_01.row.prog w) (callerA.deeper (envOfC (Str.ofString "law") sc₀ L fa cd)) (leaving (envOfC (Str.ofString "law") sc₀ L fa cd) e) (fun _ s'' => R (.error e) s'') (fun e' s'' => R (.error e') s'') s') s := by
  subst he; subst hsc
  obtain ⟨tp, otp, m1, m2⟩ := led_max led (led_ne h1)
  refine mn_c (tp := tp) (otp := otp) (news := led) (base := h₀) B F X T (news_sub N ?_) hob (allLt_mono m2 fun _ h => h) (Nat.lt_succ_of_le (m2 _ h1)) hb0 hb1 fun h' tk' t k hk F' N' => hret h' tk' t k hk F' (news_sub N' fun p hp => .tail _ (.tail _ hp))
  intro p hp
  rcases List.mem_cons.mp hp with e | hp
  · rw [e]; exact h1
  rcases List.mem_cons.mp hp with e | hp
  · rw [e]; exact m1
  exact hp
end Mine
end
/-! M13 -/
section
open PySem PySem.Spec PySem.Calls PySem.W PyProof.Rows
namespace Mine
local macro_rules | `(tactic| k_mem) => `(tactic| k_dflt assumption)
theorem m13_mul {prog : Program} {w : World} {A : Around} {E : Value → Shared → Prop} {s : Shared} {Q : Value → Shared → Prop} {bd k : Int} {t u : Tok} (h : MnOk bd k) (hq : ∀ y, y = 5 * k → Q (.int y s.toks) { s with toks := s.toks + 1 }) : wpAny (model prog w) A (binaryOp .Mult (.int 5 t) (.int k u)) Q E s := by
  rcases h with ⟨_, rfl⟩ | ⟨_, _, rfl⟩ | ⟨_, rfl⟩
  all_goals exact mul_int (hq _ rfl) (by exact PySem.IntMulOk.of_left (PySem.intBits_le_64 (by omega) (by omega)))
theorem ret_true {Q : Flow → Shared → Prop} {c : Prop} [Decidable c] {s : Shared} (hc : c) (h : Q (.ret (.bool true)) s) : Q (.ret (.bool (decide c))) s := by rw [decide_eq_true hc]; exact h
theorem m13_le {a b y bd k : Int} (hend : ∀ k, MnOk bd k → a + b ≤ 10 + 5 * k) (hk : MnOk bd k) (hy : y = 5 * k) : a + b ≤ 10 + y := by rw [hy]; exact hend k hk
set_option maxRecDepth 100000 in
set_option maxHeartbeats 600000 in
theorem st13 {w : World} {fa : Addr} {cd : Value} {h₀ : Heap} {L : Addr} {s : Shared} {Q : Flow → Shared → Prop} {R : Result → Shared → Prop} {m : Str → Option Value}
  {p : Program} {loose : List Str} {mean : ExcName → Option Value} {mg mb : Str → Option Value} {ob om : Obj} {bd pk : Int} {tb tm tpk : Tok} {led : List (Addr × Obj)} {marks : Str}
  (B : Below callerA h₀ [] h₀) (F : Fr h₀ L s.heap (fun y => if y = Str.ofString "packed" then some (.int pk tpk) else m y)) (X : (Mine.hd.heap_39 w.params).In h₀) (T : Top p loose mean mg mb h₀)
  (N : News h₀ L s.heap led) (h1 : (L + 1, ob) ∈ led) (h3 : (L + 1 + 1 + 1, om) ∈ led) (hob : ob.data = .cell (some (.int bd tb))) (hom : om.data = .cell (some (.str marks tm))) (hb0 : 12 ≤ bd) (hb1 : bd ≤ 51)
  (hwl : marks.length < 100) (hend : ∀ k, MnOk bd k → ((marks.length : Nat) : Int) + ((Builtin.Int.intBits pk : Nat) : Int) ≤ 10 + 5 * k)
  (hret : ∀ (h' : Heap) (tk' : Nat), Fr h₀ L h' (fun y => if y = Str.ofString "packed" then some (.int pk tpk) else m y) → News h₀ L h' led → Q (.ret (.bool true)) {s with heap := h', toks := tk'}) :
  wpAny (model PySem.Challenge.rw_pg0186_01.row.prog w) (callerA.deeper (lawEnv L fa cd)) (exec (lawSt 13) (lawEnv L fa cd)) Q
    (fun e s' => wpAny (model PySem.Challenge.rw_pg0186_01.row.prog w) (callerA.deeper (lawEnv L fa cd)) (leaving (lawEnv L fa cd) e) (fun _ s'' => R (.error e) s'') (fun e' s'' => R (.error e') s'') s') s := by
  revert X; k_fill; intro X
  conv =>
    pattern lawSt _
    whnf
  unfold lawEnv
  repeat (conv =>
    pattern lawScope
    whnf)
  k_with_none
  w_on
  (k_with "binaryOp Mult int int" => (k_here; k_dflt (refine' m13_mul (by assumption) ?_); intro y' hy'))
  (k_with "eval Call" => (k_here; k_dflt (refine' mn_c' ?he ?hsc ?B ?F ?X ?T ?N ?h1 ?hob ?hb0 ?hb1 ?_; (case he => (conv => rhs; whnf)); (case hsc => (conv => rhs; whnf)); (case B => k_asm); (case F => k_asm); (case X => k_asm); (case T => k_asm); (case N => k_asm); (case h1 => k_mem); (case hob => assumption); (case hb0 => assumption); (case hb1 => assumption)); intro h' tk' t' k' hk' F' N'))
  w_strict ((try k_fold); k_steps; (all_goals exact ret_true (m13_le hend (by assumption) (by assumption)) (hret _ _ (by assumption) (by assumption))))
theorem st13' {w : World} {fa : Addr} {cd : Value} {h₀ : Heap} {L : Addr} {s : Shared} {Q : Flow → Shared → Prop} {R : Result → Shared → Prop} {m : Str → Option Value}
  {p : Program} {loose : List Str} {mean : ExcName → Option Value} {mg mb : Str → Option Value} {ob om : Obj} {bd pk : Int} {tb tm tpk : Tok} {led : List (Addr × Obj)} {marks : Str}
  (B : Below callerA h₀ [] h₀) (F : Fr h₀ L s.heap m) (hm : m (Str.ofString "packed") = some (.int pk tpk)) (X : (Mine.hd.heap_39 w.params).In h₀) (T : Top p loose mean mg mb h₀)
  (N : News h₀ L s.heap led) (h1 : (L + 1, ob) ∈ led) (h3 : (L + 1 + 1 + 1, om) ∈ led) (hob : ob.data = .cell (some (.int bd tb))) (hom : om.data = .cell (some (.str marks tm))) (hb0 : 12 ≤ bd) (hb1 : bd ≤ 51)
  (hwl : marks.length < 100) (hend : ∀ k, MnOk bd k → ((marks.length : Nat) : Int) + ((Builtin.Int.intBits pk : Nat) : Int) ≤ 10 + 5 * k)
  (hret : ∀ (h' : Heap) (tk' : Nat), Fr h₀ L h' m → News h₀ L h' led → Q (.ret (.bool true)) {s with heap := h', toks := tk'}) :
  wpAny (model PySem.Challenge.rw_pg0186_01.row.prog w) (callerA.deeper (lawEnv L fa cd)) (exec (lawSt 13) (lawEnv L fa cd)) Q
    (fun e s' => wpAny (model PySem.Challenge.rw_pg0186_01.row.prog w) (callerA.deeper (lawEnv L fa cd)) (leaving (lawEnv L fa cd) e) (fun _ s'' => R (.error e) s'') (fun e' s'' => R (.error e') s'') s') s :=
  st13 B (fr_pin F hm) X T N h1 h3 hob hom hb0 hb1 hwl hend fun h' tk' F' N' => hret h' tk' (fr_unpin F' hm) N'
end Mine
end
/-! Plain2 -/
section
open PySem PySem.Spec PySem.Calls PySem.W PyProof.Rows
namespace Mine
theorem wd_cases {bd wd : Int} (h : WdOk bd wd) : wd = 1 ∨ wd = 2 ∨ wd = 3 := by unfold WdOk at h; omega
theorem pw_one : (2 : Int) ^ (1 : Int).toNat = 2 := rfl
theorem pw_two : (2 : Int) ^ (2 : Int).toNat = 4 := rfl
theorem pw_three : (2 : Int) ^ (3 : Int).toNat = 8 := rfl
/-- the packed number has these digits -/
theorem dv_dig {nd : Int} {ds : List Int} (h : ∀ d ∈ ds, 0 ≤ d ∧ d < 2 ^ nd.toNat) : ∀ i, i < ds.length → dig nd (DV nd ds) i = ds.getD i 0 := by
  induction ds with
  | nil => intro i hi; exact absurd hi (Nat.not_lt_zero _)
  | cons d ds ih =>
    intro i hi
    have h1 := h d (.head _)
    have hp := dp_pos nd.toNat
    cases i with
    | zero =>
      unfold dig
      rw [Nat.zero_mul, Int.pow_zero, Int.ediv_one, DV, Int.add_mul_emod_self_left]
      exact Int.emod_eq_of_lt h1.1 h1.2
    | succ i =>
      have e := ih (fun x hx => h x (.tail _ hx)) i (by rw [List.length_cons] at hi; omega)
      have e2 : (d :: ds).getD (i + 1) 0 = ds.getD i 0 := rfl
      rw [e2, ← e]
      unfold dig
      rw [Nat.succ_mul, Nat.add_comm (i * nd.toNat), Int.pow_add, ← Int.ediv_ediv_of_nonneg (Int.le_of_lt hp), DV, Int.add_mul_ediv_left _ _ (Int.ne_of_gt hp), Int.ediv_eq_zero_of_lt h1.1 h1.2, Int.zero_add]
theorem map_getD (rs : List Int) (W : Int) (hW : 0 < W) (i : Nat) : (rs.map fun k => Int.fmod k W).getD i 0 = rs.getD i 0 % W := by
  rw [List.getD_eq_getElem?_getD, List.getD_eq_getElem?_getD, List.getElem?_map]
  cases rs[i]? with
  | none => simp
  | some v => exact Int.fmod_eq_emod_of_nonneg _ (Int.le_of_lt hW)
structure PkOk (wd pk : Int) (rs : List Int) : Prop where
  lo : 0 ≤ pk
  hi : pk < 2 ^ (5 * wd).toNat
  sm : pk < 32768
  dig : ∀ i : Nat, i < 5 → dig wd pk i = rs.getD i 0 % 2 ^ wd.toNat
theorem pk_ok {wd pk : Int} {rs : List Int} (hw : wd = 1 ∨ wd = 2 ∨ wd = 3) (hl : rs.length = 5) (h : pk = DV wd (rs.map fun k => k.fmod (2 ^ wd.toNat))) : PkOk wd pk rs := by
  have hW := pow2_pos wd.toNat
  have b := dg_bd (wd := wd) (rs := rs)
  have hl' : (rs.map fun k => Int.fmod k (2 ^ wd.toNat)).length = 5 := by rw [List.length_map, hl]
  have h1 := dv_bnd b
  have h2 := dv_le (show wd ≤ 3 by omega) (by rw [hl']; exact Nat.le_refl _) b
  rw [hl'] at h1
  have h3 := dv_dig b
  rw [← h] at h1 h2 h3
  refine ⟨h1.1, ?_, h2.2, fun i hi => ?_⟩
  · rw [show (5 * wd).toNat = 5 * wd.toNat by omega]; exact h1.2
  · rw [h3 i (by rw [hl']; exact hi), map_getD rs _ hW]
theorem su_iff {W : Int} {rs : List Int} (hW : 0 < W) (hs : Srt rs) {n i : Nat} (hi : i < rs.length) : i < SU W rs n ↔ rs.getD i 0 / W < (n : Int) := by
  constructor
  · intro h
    rcases Int.lt_or_le (rs.getD i 0 / W) (n : Int) with h1 | h1
    · exact h1
    · exfalso
      have : SU W rs n ≤ i := countP_le fun j hj hl => by
        have := div_mono hW (hs i j hj hl)
        exact decide_eq_false (by omega)
      omega
  · intro h
    have : i + 1 ≤ SU W rs n := le_countP (by omega) fun j hj => by
      have := div_mono hW (hs j i (by omega) hi)
      exact decide_eq_true (by omega)
    omega
theorem su_all {bd W : Int} {rs : List Int} {U : Nat} (hW : 0 < W) (hR : RowOk bd rs) (hU : (U : Int) = (bd - 1) / W + 1) : SU W rs U = 5 := by
  have h : SU W rs U = rs.length := by
    unfold SU
    rw [List.countP_eq_length]
    intro v hv
    exact decide_eq_true (up_lt_U hW hR hU hv)
  rw [h, hR.len]
theorem marks_len {bd W : Int} {rs : List Int} {U : Nat} {marks : Str} (hW : 0 < W) (hR : RowOk bd rs) (hU : (U : Int) = (bd - 1) / W + 1) (hm : marks.cps.toList = mkL W rs U) : marks.length = U + 5 := by
  show marks.cps.toList.length = _
  rw [hm, mkL_len (up_nonneg hW hR), su_all hW hR hU]
theorem pow_wd {wd : Int} (hw : wd = 1 ∨ wd = 2 ∨ wd = 3) : (2 : Int) ^ wd.toNat = 2 ∨ (2 : Int) ^ wd.toNat = 4 ∨ (2 : Int) ^ wd.toNat = 8 := by
  rcases hw with rfl | rfl | rfl
  · exact .inl rfl
  · exact .inr (.inl rfl)
  · exact .inr (.inr rfl)
theorem U_le {bd wd : Int} {U : Nat} (hW : WdOk bd wd) (hb0 : 12 ≤ bd) (hb1 : bd ≤ 51) (hU : (U : Int) = (bd - 1) / 2 ^ wd.toNat + 1) : U ≤ 10 := by
  rcases hW with ⟨h, rfl⟩ | ⟨_, h, rfl⟩ | ⟨h, rfl⟩
  · rw [pw_one] at hU; omega
  · rw [pw_two] at hU; omega
  · rw [pw_three] at hU; omega
theorem end_ok {bd wd pk k : Int} {U : Nat} {rs : List Int} {marks : Str} (hW : WdOk bd wd) (hb0 : 12 ≤ bd) (hb1 : bd ≤ 51) (hU : (U : Int) = (bd - 1) / 2 ^ wd.toNat + 1) (hP : PkOk wd pk rs) (hl : marks.length = U + 5) (hk : MnOk bd k) :
    ((marks.length : Nat) : Int) + ((Builtin.Int.intBits pk : Nat) : Int) ≤ 10 + 5 * k := by
  have hb2 : Builtin.Int.intBits pk ≤ 5 * wd.toNat := intBits_le (by
    have h1 := hP.hi
    have h0 := hP.lo
    have e1 : ((2 : Int) ^ (5 * wd).toNat) = ((2 ^ (5 * wd).toNat : Nat) : Int) := by simp
    rw [e1] at h1
    have : (5 * wd).toNat = 5 * wd.toNat := by have := wd_cases hW; omega
    rw [this] at h1
    omega)
  generalize Builtin.Int.intBits pk = b at *
  rw [hl]
  rcases hW with ⟨h, rfl⟩ | ⟨_, h, rfl⟩ | ⟨h, rfl⟩
  · rw [pw_one] at hU
    have : (1 : Int).toNat = 1 := rfl
    unfold MnOk at hk; omega
  · rw [pw_two] at hU
    have : (2 : Int).toNat = 2 := rfl
    unfold MnOk at hk; omega
  · rw [pw_three] at hU
    have : (3 : Int).toNat = 3 := rfl
    unfold MnOk at hk; omega
theorem ds_dig {wd pk : Int} {rs ds : List Int} (hP : PkOk wd pk rs) (hd : DigOk wd pk ds) : ∀ i : Nat, i < 5 → ds.getD i 0 = rs.getD i 0 % 2 ^ wd.toNat := fun i hi => (hd.2 i).trans (hP.dig i hi)
theorem tl_ok {bd wd pk : Int} {U : Nat} {rs ds : List Int} {marks : Str} (hWd : WdOk bd wd) (hb0 : 12 ≤ bd) (hb1 : bd ≤ 51) (hR : RowOk bd rs) (hU : (U : Int) = (bd - 1) / 2 ^ wd.toNat + 1) (hm : marks.cps.toList = mkL (2 ^ wd.toNat) rs U) (hP : PkOk wd pk rs) (hd : DigOk wd pk ds) : TlMark marks wd ds rs := by
  have hW := pow2_pos wd.toNat
  refine ⟨hR.len, hd.1, ?_, ds_dig hP hd, fun i hi => ?_, fun i r hi h0 hp => told_place hW hR hU hm hi h0 hp⟩
  · have := marks_len hW hR hU hm
    have := U_le hWd hb0 hb1 hU
    omega
  · have := hR.lo _ (getD_mem (show i < rs.length by rw [hR.len]; exact hi))
    omega
/-- below a bound -/
theorem blw_ok {bd wd pk : Int} {U : Nat} {rs ds : List Int} {marks : Str} (hWd : WdOk bd wd) (hb0 : 12 ≤ bd) (hb1 : bd ≤ 51) (hR : RowOk bd rs) (hU : (U : Int) = (bd - 1) / 2 ^ wd.toNat + 1) (hm : marks.cps.toList = mkL (2 ^ wd.toNat) rs U) (hP : PkOk wd pk rs) (hd : DigOk wd pk ds)
    {x : Int} (hx0 : 0 ≤ x) (hx1 : x < bd) : BlwOk marks ds rs wd x := by
  have hW := pow2_pos wd.toNat
  have hfd : x.fdiv (2 ^ wd.toNat) = x / 2 ^ wd.toNat := Int.fdiv_eq_ediv_of_nonneg _ (Int.le_of_lt hW)
  have hfm : x.fmod (2 ^ wd.toNat) = x % 2 ^ wd.toNat := Int.fmod_eq_emod_of_nonneg _ (Int.le_of_lt hW)
  have hds := ds_dig hP hd
  have hUl := U_le hWd hb0 hb1 hU
  have hq0 : 0 ≤ x / 2 ^ wd.toNat := Int.ediv_nonneg hx0 (Int.le_of_lt hW)
  have hqU : x / 2 ^ wd.toNat ≤ (bd - 1) / 2 ^ wd.toNat := div_mono hW (by omega)
  obtain ⟨u, hu⟩ := Int.eq_ofNat_of_zero_le hq0
  generalize hWW : (2 : Int) ^ wd.toNat = W at *
  have huU : u + 1 ≤ U := by omega
  have key : ∀ i, i < 5 → SU W rs u ≤ i → i < SU W rs (u + 1) → rs.getD i 0 = W * (u : Int) + ds.getD i 0 := by
    intro i hi h1 h2
    have hil : i < rs.length := by rw [hR.len]; exact hi
    have e1 : rs.getD i 0 / W < ((u + 1 : Nat) : Int) := (su_iff hW hR.srt hil).mp h2
    have e2 : ¬ rs.getD i 0 / W < (u : Int) := fun h => by have := (su_iff hW hR.srt hil).mpr h; omega
    have e3 : rs.getD i 0 / W = (u : Int) := by omega
    have e4 := Int.mul_ediv_add_emod (rs.getD i 0) W
    rw [e3] at e4
    rw [hds i hi]; exact e4.symm
  have hxe : x = W * (u : Int) + x % W := by
    have e4 := Int.mul_ediv_add_emod x W
    rw [hu] at e4
    exact e4.symm
  have hS5 : SU W rs (u + 1) ≤ 5 := by rw [← hR.len]; exact List.countP_le_length
  have hSS : SU W rs u ≤ SU W rs (u + 1) := by rw [su_succ]; omega
  have places : ∀ r1 r2 : Int, 0 ≤ r1 → LpP marks 48 (x.fdiv W).toNat r1 r1 → 0 ≤ r2 → LpP marks 48 (x.fdiv W + 1).toNat r2 r2 → r1 = (u : Int) + (SU W rs u : Int) ∧ r2 = ((u + 1 : Nat) : Int) + (SU W rs (u + 1) : Int) := by
    intro r1 r2 h1 p1 h2 p2
    rw [hfd, hu] at p1 p2
    rw [show ((u : Int)).toNat = u by omega] at p1
    rw [show ((u : Int) + 1).toNat = u + 1 by omega] at p2
    exact ⟨zero_place hW hR hm (by omega) h1 p1, zero_place hW hR hm huU h2 p2⟩
  have srt : SrtOn ds (SU W rs u : Int) (SU W rs (u + 1) : Int) := by
    intro i j h1 h2 h3
    have ki := key i (by omega) (by omega) (by omega)
    have kj := key j (by omega) (by omega) (by omega)
    have := hR.srt i j h2 (by rw [hR.len]; omega)
    omega
  refine ⟨hx0, by omega, ?_, ?_, ?_, ?_⟩
  · rw [hWW, hfd, hu]; omega
  · rw [hWW, hfd, hu]; omega
  · rw [hWW]
    intro r1 r2 h1 _ p1 h2 _ p2
    obtain ⟨e1, e2⟩ := places r1 r2 h1 p1 h2 p2
    rw [hfd, hu, e1, e2]
    have a1 : (u : Int) + (SU W rs u : Int) - (u : Int) = (SU W rs u : Int) := by omega
    have a2 : ((u + 1 : Nat) : Int) + (SU W rs (u + 1) : Int) - (u : Int) - 1 = (SU W rs (u + 1) : Int) := by omega
    rw [a1, a2]
    exact ⟨by omega, by omega, by rw [hd.1]; omega, srt⟩
  · rw [hWW]
    rintro r ⟨r1, r2, h1, _, p1, h2, _, p2, g1, g2, hB⟩
    obtain ⟨e1, e2⟩ := places r1 r2 h1 p1 h2 p2
    rw [hfd, hu, e1] at g1 hB
    rw [hfd, hu, e2] at g2
    rw [e2] at hB
    have a1 : (u : Int) + (SU W rs u : Int) - (u : Int) = (SU W rs u : Int) := by omega
    have a2 : ((u + 1 : Nat) : Int) + (SU W rs (u + 1) : Int) - (u : Int) - 1 = (SU W rs (u + 1) : Int) := by omega
    rw [a1] at g1 hB
    rw [a2] at g2 hB
    rw [hfm] at hB
    have c1 : r.toNat ≤ rs.countP fun v => decide (v < x) := le_countP (by rw [hR.len]; omega) fun i hi => by
      refine decide_eq_true ?_
      by_cases hc : i < SU W rs u
      · have hil : i < rs.length := by rw [hR.len]; omega
        have := (su_iff hW hR.srt hil).mp hc
        rcases Int.lt_or_le (rs.getD i 0) x with h | h
        · exact h
        · have := div_mono hW h
          omega
      · have ki := key i (by omega) (by omega) (by omega)
        have := hB.1 i (by omega) (by omega)
        omega
    have c2 : (rs.countP fun v => decide (v < x)) ≤ r.toNat := countP_le fun i hi hl => by
      refine decide_eq_false ?_
      rw [hR.len] at hl
      by_cases hc : i < SU W rs (u + 1)
      · have ki := key i (by omega) (by omega) hc
        have := hB.2 i (by omega) (by omega)
        omega
      · have hil : i < rs.length := by rw [hR.len]; omega
        have h3 : ¬ rs.getD i 0 / W < ((u + 1 : Nat) : Int) := fun h => hc ((su_iff hW hR.srt hil).mpr h)
        intro h
        have := div_mono hW (show rs.getD i 0 ≤ x by omega)
        omega
    omega
end Mine
end
end
/-! Law -/
section
open PySem PySem.Spec PySem.Calls PySem.W PyProof.Rows
namespace Mine
theorem execs_app (a b : List Stmt) (env : Env) : execs (a ++ b) env = (do match ← execs a env with | .next => execs b env | f => pure f) := by
  induction a with
  | nil => rw [List.nil_append, execs_nil, pure_bind]
  | cons st a ih =>
    rw [List.cons_append, execs_cons, execs_cons, LawfulMonad.bind_assoc]
    congr 1
    funext f
    cases f with
    | next => exact ih
    | ret v => rw [pure_bind]
    | brk => rw [pure_bind]
    | cont => rw [pure_bind]
theorem wpAny_execs_app {M : Model} {A : Around} {E : Value → Shared → Prop} {s : Shared} {env : Env} {a b : List Stmt} {Q : Flow → Shared → Prop}
    (h : wpAny M A (execs a env) (fun f s' => match f with | .next => wpAny M A (execs b env) Q E s' | f => Q f s') E s) : wpAny M A (execs (a ++ b) env) Q E s := by
  rw [execs_app]
  refine wpAny_bind (wpAny_mono h (fun f s' hf => ?_) fun _ _ e => e)
  cases f with
  | next => exact hf
  | ret v => exact wpAny_pure hf
  | brk => exact wpAny_pure hf
  | cont => exact wpAny_pure hf
theorem lawBody_eq : lawBody = [lawSt 0, lawSt 1, lawSt 2, lawSt 3, lawSt 4, lawSt 5] ++ [lawSt 6, lawSt 7, lawSt 8, lawSt 9, lawSt 10, lawSt 11, lawSt 12, lawSt 13] := by with_unfolding_all rfl
set_option maxRecDepth 100000 in
theorem law_w {w : World} {fa : Addr} {cd : Value} {h₀ : Heap} {L : Addr} {s : Shared} {Q : Flow → Shared → Prop} {R : Result → Shared → Prop} {m : Str → Option Value}
  {p : Program} {loose : List Str} {mean : ExcName → Option Value} {mg mb : Str → Option Value} {sc : Addr} {vs : List Value} {ns : List Int} {o1 o2 o3 o4 o5 o6 : Obj}
  (B : Below callerA h₀ [] h₀) (F : Fr h₀ L s.heap m) (hm : m (Str.ofString "script") = some (.ref sc)) (X : (Mine.hd.heap_39 w.params).In h₀)
  (N : News h₀ L s.heap [(L + 1 + 1 + 1 + 1 + 1 + 1, o6), (L + 1 + 1 + 1 + 1 + 1, o5), (L + 1 + 1 + 1 + 1, o4), (L + 1 + 1 + 1, o3), (L + 1 + 1, o2), (L + 1, o1), (64, tabObj #[]), (30, tabObj #[]), (23, tabObj #[])]) (T : Top p loose mean mg mb h₀)
  (C1 : CodeHd h₀ 68 64) (C2 : CodeHd h₀ 34 30) (C3 : CodeHd h₀ 27 23)
  (d1 : o1.data = .cell none) (d2 : o2.data = .cell none) (d3 : o3.data = .cell none) (d4 : o4.data = .cell none) (d5 : o5.data = .cell none) (d6 : o6.data = .cell none)
  (hl0 : @LT.lt Nat _ 64 L) (hs : h₀.IsList sc vs.toArray) (hi : IntsAre vs ns) (hns : ns.length ≤ 63)
  (hret : ∀ (h' : Heap) (tk' : Nat) (m' : Str → Option Value) (p1 p2 p3 : Array Value), Fr h₀ L h' m' → News h₀ L h' [(64, tabObj p1), (30, tabObj p2), (23, tabObj p3)] → Q (.ret (.bool true)) {s with heap := h', toks := tk'}) :
  wpAny (model PySem.Challenge.rw_pg0186_01.row.prog w) (callerA.deeper (envOfC (Str.ofString "law") lawScope L fa cd)) (execs lawBody (envOfC (Str.ofString "law") lawScope L fa cd)) Q
    (fun e s' => wpAny (model PySem.Challenge.rw_pg0186_01.row.prog w) (callerA.deeper (envOfC (Str.ofString "law") lawScope L fa cd)) (leaving (envOfC (Str.ofString "law") lawScope L fa cd) e) (fun _ s'' => R (.error e) s'') (fun e' s'' => R (.error e') s'') s') s := by
  rw [lawBody_eq]
  refine wpAny_execs_app ?_
  refine law_A (m := m) B (fr_pin F hm) X N T d1 d2 d3 d4 d5 d6 hl0 hs hi hns ?_
  intro h1 tk1 m1 nb row a0 a1 a2 a3 a4 a5 t0 t1 t2 t3 t4 t5 n0 us rs c bd wd tb tw tm ob ow om hnb hrow hb0 hb1 hW hP hiu hob how hom hmr hmn F1 N1
  have hR : RowOk bd rs := rowOk_of hb0 hP rfl
  have hw := wd_cases hW
  have hw0 : 1 ≤ wd := by omega
  have hw1 : wd ≤ 3 := by omega
  refine wpAny_execs_cons ?_
  refine mk_for (ou := o4) (om := om) (row := row) (us := us) (c := c) (rest := [(row, listOf us.toArray c), (nb, listOf [Value.int a0 t0, .int a1 t1, .int a2 t2, .int a3 t3, .int a4 t4, .int a5 t5].toArray n0), (L + 1 + 1 + 1 + 1 + 1 + 1, o6), (L + 1 + 1 + 1 + 1 + 1, o5), (64, tabObj #[]), (30, tabObj #[]), (23, tabObj #[])]) B F1 X T (news_sub N1 (by lcg_sub)) (by k_mem) hmr hob how (by k_all) (by k_all) d4 hom rfl hiu hR.len hb0 hb1 hW ?_
  intro h2 tk2 tm2 ou2 om2 vu y n hu2 hom2 hn hy2 F2 N2
  refine wpAny_execs_cons ?_
  refine' st7' (row := row) (us := us) (c := c) B F2 hmr X T C2 N2 ?U (by k_mem) (by k_mem) how hl0 ?hr2 hiu hR.len hw0 hw1 ?_
  case U => k_updF
  case hr2 => omega
  intro h3 tk3 t3' pk p30 hpk F3 N3
  have hPk := pk_ok hw hR.len hpk
  refine wpAny_execs_app (a := [lawSt 8, lawSt 9]) (b := [lawSt 10, lawSt 11, lawSt 12, lawSt 13]) ?_
  refine st89' (od := o5) (rest := [(row, listOf us.toArray c), (nb, listOf [Value.int a0 t0, .int a1 t1, .int a2 t2, .int a3 t3, .int a4 t4, .int a5 t5].toArray n0), (L + 1 + 1 + 1 + 1 + 1 + 1, o6), (L + 1 + 1 + 1 + 1, ou2), (L + 1 + 1 + 1, om2), (L + 1 + 1, ow), (L + 1, ob), (64, tabObj #[]), (30, tabObj p30)]) B F3 (if_pos rfl) X T C3 N3 (by lcg_sub) (by k_mem) how d5 hl0 ⟨(nb, _), .tail _ (.head _), ?hb⟩ (by k_all) (by k_all) hw0 hw1 hPk.lo hPk.hi hPk.sm ?_
  case hb => (show @LT.lt Nat _ _ _); omega
  intro h4 tk4 D vs' ds od p23 hid hdig hod hDlt F4 N4
  have hD6 : @LT.lt Nat _ (L + 1 + 1 + 1 + 1 + 1 + 1) D := hDlt (L + 1 + 1 + 1 + 1 + 1 + 1, o6) (by k_mem)
  have hDrow : @LT.lt Nat _ row D := hDlt (row, listOf us.toArray c) (by k_mem)
  have hTl := tl_ok hW hb0 hb1 hR hn hy2 hPk hdig
  refine wpAny_execs_cons ?_
  refine st10 (od := od) (om := om2) (ow := ow) (pl := [(64, tabObj #[])]) (rest := [(D, listOf vs'.toArray 0), (row, listOf us.toArray c), (nb, listOf [Value.int a0 t0, .int a1 t1, .int a2 t2, .int a3 t3, .int a4 t4, .int a5 t5].toArray n0), (L + 1 + 1 + 1 + 1 + 1 + 1, o6), (L + 1 + 1 + 1 + 1 + 1, od), (L + 1 + 1 + 1 + 1, ou2), (L + 1 + 1 + 1, om2), (L + 1 + 1, ow), (L + 1, ob), (30, tabObj p30), (23, tabObj p23)]) B F4 X T C1 (news_sub N4 (by (simp only [List.cons_append, List.nil_append]); lcg_sub)) (.inl rfl) ?off (by k_mem) (by k_mem) (by k_mem) (by k_mem) hid how hom2 hod hl0 hw0 hw1 hTl ?_
  case off =>
    intro q hq
    rw [List.mem_singleton.mp hq]
    have key : ∀ p ∈ ([(D, listOf vs'.toArray 0), (row, listOf us.toArray c), (nb, listOf [Value.int a0 t0, .int a1 t1, .int a2 t2, .int a3 t3, .int a4 t4, .int a5 t5].toArray n0), (L + 1 + 1 + 1 + 1 + 1 + 1, o6), (L + 1 + 1 + 1 + 1 + 1, od), (L + 1 + 1 + 1 + 1, ou2), (L + 1 + 1 + 1, om2), (L + 1 + 1, ow), (L + 1, ob), (30, tabObj p30), (23, tabObj p23)] : List (Addr × Obj)), p.1 ≠ 64 := by k_all
    exact fun p hp e => key p hp e.symm
  intro h5 tk5 Dt ys pl' hys hfull hoff F5 N5
  have hrb : ∀ v ∈ rs, 0 ≤ v ∧ v < 100 := fun v hv => by have := hR.lo v hv; omega
  refine wpAny_execs_cons ?_
  refine st11' (Dt := Dt) (nb := nb) (n0 := n0) (a0 := a0) (t0 := t0) (t1 := t1) (t2 := t2) (t3 := t3) (t4 := t4) (t5 := t5) B F5 (if_pos rfl) ((if_neg (by decide)).trans ((if_neg (by decide)).trans hmn)) X T N5 (.head _) (.tail _ (List.mem_append_right _ (by k_mem))) (.tail _ (List.mem_append_right _ (by k_mem))) hob hl0 hys hP hb0 hb1 hrb (by rw [hR.len]; exact Nat.le_refl _) ?_
  intro h6 tk6 F6 N6
  obtain ⟨c', oc, vq, tq, rfl, hoc, hq⟩ := hfull
  have hc6 : @Ne Nat c' (L + 1 + 1 + 1 + 1 + 1 + 1) := hoff (c', oc) (.head _) (L + 1 + 1 + 1 + 1 + 1 + 1, o6) (by k_mem)
  have hlen := marks_len (pow2_pos wd.toNat) hR hn hy2
  refine wpAny_execs_cons ?_
  refine st12' (oo := o6) (ob := ob) (ow := ow) (om := om2) (od := od) (oc := oc) (c' := c') (D := D) (row := row) (nb := nb) (us := us) (c := c) (n := 0) (n0 := n0) (a0 := a0) (a1 := a1) (a2 := a2) (a3 := a3) (a4 := a4) (a5 := a5) (t0 := t0) (t1 := t1) (t2 := t2) (t3 := t3) (t4 := t4) (t5 := t5) (rest := [(c', oc), (64, LamTab c'), (D, listOf vs'.toArray 0), (row, listOf us.toArray c), (nb, listOf [Value.int a0 t0, .int a1 t1, .int a2 t2, .int a3 t3, .int a4 t4, .int a5 t5].toArray n0), (L + 1 + 1 + 1 + 1 + 1, od), (L + 1 + 1 + 1, om2), (L + 1 + 1, ow), (L + 1, ob), (30, tabObj p30), (23, tabObj p23)])
    B F6 ((if_neg (by decide)).trans ((if_neg (by decide)).trans hmr)) ((if_neg (by decide)).trans ((if_neg (by decide)).trans hmn)) X T C1 N6 (by (simp only [List.cons_append, List.nil_append]); lcg_sub) (by k_all) (by k_mem) hnb (by k_mem) d6 (by k_mem) hob (by k_mem) how (by k_mem) hom2 (by k_mem) hod (by k_mem) (by k_mem) hoc hq (by k_mem) hiu hR.len hid hdig.1 hTl.mlen hw0 hw1 hb0 hb1 (fun x hx0 hx1 => blw_ok hW hb0 hb1 hR hn hy2 hPk hdig hx0 hx1) ?_
  intro h7 tk7 F7 N7
  refine wpAny_execs_cons ?_
  refine st13' (ob := ob) (om := om2) B F7 ((if_neg (by decide)).trans (if_pos rfl)) X T N7 (by k_mem) (by k_mem) hob hom2 hb0 hb1 hTl.mlen (fun k hk => end_ok hW hb0 hb1 hn hPk hlen hk) ?_
  intro h8 tk8 F8 N8
  exact hret h8 tk8 _ _ p30 p23 F8 (news_sub N8 (by lcg_sub))
end Mine
end
end
/-! Top2 -/
open PySem PySem.Spec PySem.Calls PySem.W PyProof.Rows
namespace Mine
theorem law_w' {w : World} {fa : Addr} {cd : Value} {h₀ : Heap} {L : Addr} {s : Shared} {Q : Flow → Shared → Prop} {R' : Value → Shared → Prop} {b₀ : List Stmt} {sc₀ : Scope} {nm₀ : Str} {m : Str → Option Value}
  {p : Program} {loose : List Str} {mean : ExcName → Option Value} {mg mb : Str → Option Value} {sc : Addr} {vs : List Value} {ns : List Int} {o1 o2 o3 o4 o5 o6 : Obj}
  (hb : b₀ = lawBody) (hsc : sc₀ = lawScope) (hnm : nm₀ = Str.ofString "law")
  (B : Below callerA h₀ [] h₀) (F : Fr h₀ L s.heap m) (hm : m (Str.ofString "script") = some (.ref sc)) (X : (Mine.hd.heap_39 w.params).In h₀)
  (N : News h₀ L s.heap [(L + 1 + 1 + 1 + 1 + 1 + 1, o6), (L + 1 + 1 + 1 + 1 + 1, o5), (L + 1 + 1 + 1 + 1, o4), (L + 1 + 1 + 1, o3), (L + 1 + 1, o2), (L + 1, o1), (64, tabObj #[]), (30, tabObj #[]), (23, tabObj #[])]) (T : Top p loose mean mg mb h₀)
  (C1 : CodeHd h₀ 68 64) (C2 : CodeHd h₀ 34 30) (C3 : CodeHd h₀ 27 23)
  (d1 : o1.data = .cell none) (d2 : o2.data = .cell none) (d3 : o3.data = .cell none) (d4 : o4.data = .cell none) (d5 : o5.data = .cell none) (d6 : o6.data = .cell none)
  (hl0 : @LT.lt Nat _ 64 L) (hs : h₀.IsList sc vs.toArray) (hi : IntsAre vs ns) (hns : ns.length ≤ 63)
  (hret : ∀ (h' : Heap) (tk' : Nat) (m' : Str → Option Value) (p1 p2 p3 : Array Value), Fr h₀ L h' m' → News h₀ L h' [(64, tabObj p1), (30, tabObj p2), (23, tabObj p3)] → Q (.ret (.bool true)) {s with heap := h', toks := tk'}) :
  wpAny (model PySem.Challenge.rw_pg0186_01.row.prog w) (callerA.deeper (envOfC nm₀ sc₀ L fa cd)) (execs b₀ (envOfC nm₀ sc₀ L fa cd)) Q
    (fun e s' => wpAny (model PySem.Challenge.rw_pg0186_01.row.prog w) (callerA.deeper (envOfC nm₀ sc₀ L fa cd)) (leaving (envOfC nm₀ sc₀ L fa cd) e) (fun _ s'' => R' e s'') (fun e' s'' => R' e' s'') s') s := by
  subst hb; subst hsc; subst hnm
  exact law_w (R := fun r s => match r with | .error e => R' e s | _ => True) B F hm X N T C1 C2 C3 d1 d2 d3 d4 d5 d6 hl0 hs hi hns hret
end Mine
open PySem PySem.W PyProof.Rows Mine
set_option maxRecDepth 100000 in
set_option maxHeartbeats 8000000 in
theorem PySem.Challenge.cw_pg0186_01_holds : PySem.Challenge.rw_pg0186_01.Holds := by
  k_with_none
  refine Mine.hd ?_
  (k_go0; (all_goals try k_fold); (k_dflt (refine' law_w' ?hb ?hsc ?hnm ?B ?F ?hm ?X ?N ?T ?C1 ?C2 ?C3 ?d1 ?d2 ?d3 ?d4 ?d5 ?d6 ?hl0 ?hs ?hi ?hns ?_)); (case hb => (with_unfolding_all rfl)); (case hsc => (with_unfolding_all rfl)); (case hnm => (rfl)); (case B => (k_asm)); (case F => (k_asm)); (case X => (k_asm)); (case N => (k_asm)); (case T => (k_asm)); (case hm => (with_unfolding_all rfl)); (case C1 => (assumption)); (case C2 => (assumption)); (case C3 => (assumption)); (case d1 => (assumption)); (case d2 => (assumption)); (case d3 => (assumption)); (case d4 => (assumption)); (case d5 => (assumption)); (case d6 => (assumption)); (case hl0 => (exact And.left (by assumption))); (case hs => (assumption)); (case hi => (assumption)); (case hns => (omega)); (intro h' tk' m' p1' p2' p3' F' N'); (try dsimp only); k_steps; skip)
