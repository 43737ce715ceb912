import PyProof.Rows.All
import Wide.All
import OpenK.AllK
import Wide.FinOn
import KE.KWords
import Lean
import PySem.Challenge.RW_fe0309_01
open PySem PySem.W PyProof.Rows
set_option Elab.async false
/-! The head once; one contract a def of the law; the plain law over lists of codes; the walk of the law itself. -/
namespace Mine
set_option maxRecDepth 100000 in
set_option maxHeartbeats 8000000 in
open_top hd for PySem.Challenge.rw_fe0309_01
end Mine
section
namespace Mine
abbrev Led := List (Addr × Obj)
abbrev ListRet (h₀ : Heap) (L : Addr) (m : Str → Option Value) (news : Led) (s : Shared) (Q : Value → Shared → Prop) (ws : List Str) : Prop :=
  ∀ (D : Addr) (vs : List Value) (n : Nat) (h' : Heap) (tk' : Nat), StrsAre vs ws → Fr h₀ L h' m → News h₀ L h' ((D, listOf vs.toArray n) :: news) → (∀ p ∈ news, p.1 < D) → Q (.ref D) { s with heap := h', toks := tk' }
abbrev TextRet (h₀ : Heap) (L : Addr) (m : Str → Option Value) (news : Led) (s : Shared) (Q : Value → Shared → Prop) (ok : Str → Prop) : Prop :=
  ∀ (x : Str) (t : Tok) (h' : Heap) (tk' : Nat), ok x → Fr h₀ L h' m → News h₀ L h' news → Q (.str x t) { s with heap := h', toks := tk' }

abbrev CallsTo (lev : Nat) (w : World) (mean : ExcName → Option Value) (mg mb : Str → Option Value) (f : Addr) (vs : List Value) (news : Led)
    (R : Heap → Addr → (Str → Option Value) → Shared → (Value → Shared → Prop) → Prop) : Prop :=
  ∀ (dp un : Nat) (gd : Option (List Code)) (cn : Str) (cs : Scope) (a : Addr) (ccd : Value) (cl : List (Str × Addr)) (outer : List Env) (A₀ : Around) (base h₀ : Heap) (L : Addr) (m : Str → Option Value) (s : Shared) (Q E : Value → Shared → Prop),
    Below A₀ base outer h₀ → Fr h₀ L s.heap m → (hd.heap_39 w.params).In h₀ → News h₀ L s.heap news → Top hd.view_39 (looseW hd.view_39 [Str.ofString "parse_words"]) mean mg mb h₀ → cs.kind = .function →
    dp + lev < recursionLimit → un + 20 * lev < cLine → R h₀ L m s Q →
      wpAny (model Challenge.rw_fe0309_01.row.prog w) (ktrTop dp un gd cn cs L a ccd cl outer) (call (.ref f) vs) Q E s
theorem drop1 {h₀ h : Heap} {L : Addr} {q : Addr × Obj} {news : Led} (N : News h₀ L h (q :: news)) : News h₀ L h news := fun p hp => N p (List.Mem.tail _ hp)
section
variable {lev : Nat} {w : World} {mean : ExcName → Option Value} {mg mb : Str → Option Value} {f : Addr} {vs : List Value} {news : Led} {R : Heap → Addr → (Str → Option Value) → Shared → (Value → Shared → Prop) → Prop}
  {dp un : Nat} {gd : Option (List Code)} {cn : Str} {cs : Scope} {a : Addr} {ccd : Value} {cl : List (Str × Addr)} {outer : List Env} {A₀ : Around} {base h₀ : Heap} {L : Addr} {m : Str → Option Value} {s : Shared} {Q E : Value → Shared → Prop}
theorem use_c (C : CallsTo lev w mean mg mb f vs news R) (B : Below A₀ base outer h₀) (F : Fr h₀ L s.heap m) (X : (hd.heap_39 w.params).In h₀) (N : News h₀ L s.heap news)
    (T : Top hd.view_39 (looseW hd.view_39 [Str.ofString "parse_words"]) mean mg mb h₀) (hk : cs.kind = .function) (hdp : dp + lev < recursionLimit) (hun : un + 20 * lev < cLine) (hr : R h₀ L m s Q) :
    wpAny (model Challenge.rw_fe0309_01.row.prog w) (ktrTop dp un gd cn cs L a ccd cl outer) (call (.ref f) vs) Q E s := C _ _ _ _ _ _ _ _ _ _ _ _ _ _ _ _ _ B F X N T hk hdp hun hr
end
end Mine
end
section
namespace Mine
/-- plain_words: what part a sign comes to -/
def pOf (p : Int) (c : Nat) : Int :=
  if Txt.isalnum ⟨#[c]⟩ = true then (if 1 < p then 3 else 1)
  else if (Builtin.Str.occurrences (Str.ofString "'’") ⟨#[c]⟩ 0 (Str.ofString "'’").length 1).isEmpty = true then 0
  else if 0 < p ∧ p < 3 then 2 else 0
def pStep (st : Str × Int) (c : Nat) : Str × Int := (st.1 ++ (if pOf st.2 c = 0 then Str.ofString " " else ⟨#[c]⟩), pOf st.2 c)
def pRun (l : List Int) : Str × Int := (l.map Int.toNat).foldl pStep (Str.ofString "", 0)
def PInv (pre : List Int) (r : Str) (p : Int) : Prop := r.length = pre.length ∧ (r, p) = pRun pre
theorem pInv0 : PInv [] (Str.ofString "") 0 := ⟨by decide, rfl⟩
theorem PInv.len {pre : List Int} {r : Str} {p : Int} (h : PInv pre r p) : r.length = pre.length := h.1
theorem pInvT {pre : List Int} {r r' : Str} {p p' : Int} {n : Nat} (h : PInv pre r p) (hp : pOf p n = p') (hr : r' = r ++ (if p' = 0 then Str.ofString " " else ⟨#[n]⟩)) : PInv (pre ++ [(n : Int)]) r' p' := by
  obtain ⟨h1, h2⟩ := h
  subst hp
  subst hr
  refine ⟨?_, ?_⟩
  · rw [Str.length_append, List.length_append, h1]
    split <;> rfl
  · unfold pRun at h2 ⊢
    rw [List.map_append, List.foldl_append, ← h2]
    rfl
section
variable {pre : List Int} {r : Str} {p : Int} {n : Nat}
theorem pWay1 (h : PInv pre r p) (a : Txt.isalnum ⟨#[n]⟩ = true) (b : 1 < p) : PInv (pre ++ [(n : Int)]) (r ++ ⟨#[n]⟩) 3 := pInvT h (by rw [pOf, if_pos a, if_pos b]) rfl
theorem pWay2 (h : PInv pre r p) (a : Txt.isalnum ⟨#[n]⟩ = true) (b : ¬ 1 < p) : PInv (pre ++ [(n : Int)]) (r ++ ⟨#[n]⟩) 1 := pInvT h (by rw [pOf, if_pos a, if_neg b]) rfl
theorem pWay3 (h : PInv pre r p) (a : Txt.isalnum ⟨#[n]⟩ = false) (b : (Builtin.Str.occurrences (Str.ofString "'’") ⟨#[n]⟩ 0 (Str.ofString "'’").length 1).isEmpty = true) : PInv (pre ++ [(n : Int)]) (r ++ Str.ofString " ") 0 :=
  pInvT h (by rw [pOf, if_neg (by rw [a]; exact Bool.false_ne_true), if_pos b]) rfl
theorem pWay4 (h : PInv pre r p) (a : Txt.isalnum ⟨#[n]⟩ = false) (b : (Builtin.Str.occurrences (Str.ofString "'’") ⟨#[n]⟩ 0 (Str.ofString "'’").length 1).isEmpty = false) (c : 0 < p) (d : p < 3) : PInv (pre ++ [(n : Int)]) (r ++ ⟨#[n]⟩) 2 :=
  pInvT h (by rw [pOf, if_neg (by rw [a]; exact Bool.false_ne_true), if_neg (by rw [b]; exact Bool.false_ne_true), if_pos ⟨c, d⟩]) rfl
theorem pWay5 (h : PInv pre r p) (a : Txt.isalnum ⟨#[n]⟩ = false) (b : (Builtin.Str.occurrences (Str.ofString "'’") ⟨#[n]⟩ 0 (Str.ofString "'’").length 1).isEmpty = false) (c : ¬ 0 < p) : PInv (pre ++ [(n : Int)]) (r ++ Str.ofString " ") 0 :=
  pInvT h (by rw [pOf, if_neg (by rw [a]; exact Bool.false_ne_true), if_neg (by rw [b]; exact Bool.false_ne_true), if_neg (fun q => c q.1)]) rfl
theorem pWay6 (h : PInv pre r p) (a : Txt.isalnum ⟨#[n]⟩ = false) (b : (Builtin.Str.occurrences (Str.ofString "'’") ⟨#[n]⟩ 0 (Str.ofString "'’").length 1).isEmpty = false) (d : ¬ p < 3) : PInv (pre ++ [(n : Int)]) (r ++ Str.ofString " ") 0 :=
  pInvT h (by rw [pOf, if_neg (by rw [a]; exact Bool.false_ne_true), if_neg (by rw [b]; exact Bool.false_ne_true), if_neg (fun q => d q.2)]) rfl
end
theorem listRet_of {h₀ : Heap} {L : Addr} {m : Str → Option Value} {news : Led} {s : Shared} {Q : Value → Shared → Prop} {ws : List Str} (h : ListRet h₀ L m news s Q ws) {D : Addr} {l : List (Str × Tok)} {n : Nat} {h' : Heap} {tk' : Nat}
    (e : l.map (fun x => x.1) = ws) (a : StrsAre (strValues l) (l.map (fun x => x.1))) (F : Fr h₀ L h' m) (N : News h₀ L h' ((D, listOf (strValues l).toArray n) :: news)) (lt : ∀ p ∈ news, p.1 < D) : Q (.ref D) { s with heap := h', toks := tk' } := by
  subst e
  exact h D _ n h' tk' a F N lt
theorem pEnd {x r : Str} {p : Int} {ws : List Str} (h : PInv (KStt.codes x) r p) (e : ws = Txt.words r) : ws = Txt.words (pRun (KStt.codes x)).1 := by rw [← h.2]; exact e

set_option maxRecDepth 100000 in
set_option maxHeartbeats 8000000 in
theorem plain_c {w : World} {mean : ExcName → Option Value} {mg mb : Str → Option Value} (x : Str) (tx : Tok) (news : Led) (hx : x.length ≤ 1000) :
    CallsTo 2 w mean mg mb 29 [.str x tx] news (fun h₀ L m s Q => ListRet h₀ L m news s Q (Txt.words (pRun (KStt.codes x)).1)) := by
  unfold CallsTo
  k_with_none
  w_top off
  k_fill
  intro dp un gd cn cs a ccd cl outer A₀ base h₀ L m s Q E B F X N T hk hdp hun hret
  k_with "pyIter str" => k_state (fun pre r p => r.length = pre.length ∧ PInv pre r p) "result" "part"
  k_with "state" => first
    | exact ⟨by decide, pInv0⟩
    | (refine (fun h => ⟨PInv.len h, h⟩) ?_; first
      | exact pWay1 (by assumption) (by assumption) (by assumption)
      | exact pWay2 (by assumption) (by assumption) (by assumption)
      | exact pWay3 (by assumption) (by assumption) (by assumption)
      | exact pWay4 (by assumption) (by assumption) (by assumption) (by assumption) (by assumption)
      | exact pWay5 (by assumption) (by assumption) (by assumption) (by assumption)
      | exact pWay6 (by assumption) (by assumption) (by assumption) (by assumption))
  refine wpAny_call ?_
  k_dflt cell_enter
  k_steps
  exact listRet_of hret (pEnd (by assumption) (by assumption)) (by assumption) (by assumption) (by assumption) (by assumption)
end Mine
end
section
namespace Mine
abbrev upText : Str := Str.ofString "ABCDEFGHIJKLMNOPQRSTUVWXYZ"
abbrev loText : Str := Str.ofString "abcdefghijklmnopqrstuvwxyz"
theorem find_one (x : Str) (c : Nat) : (Txt.find x ⟨#[c]⟩ = -1 ∧ ∀ v : Nat, x.cps.toList[v]? ≠ some c) ∨ ∃ k : Nat, Txt.find x ⟨#[c]⟩ = (k : Int) ∧ k < x.length ∧ x.cps.toList[k]? = some c ∧ ∀ v : Nat, v < k → x.cps.toList[v]? ≠ some c := by
  unfold Txt.find
  rcases StrLaws.occ_head x ⟨#[c]⟩ 1 (Nat.le_refl 1) with ⟨h0, hn⟩ | ⟨k, r, h0, hk, hn⟩
  · rw [h0]
    exact .inl ⟨rfl, fun v he => hn v ((StrLaws.subAt_one x c v).mpr he)⟩
  · rw [h0]
    have hm := (StrLaws.subAt_one x c k).mp hk
    have hlt : k < x.length := by have := hk.1; have e : (⟨#[c]⟩ : Str).length = 1 := rfl; omega
    exact .inr ⟨k, rfl, hlt, hm, fun v h1 he => hn v h1 ((StrLaws.subAt_one x c v).mpr he)⟩
theorem find_hi (x : Str) (c : Nat) (N : Nat) (hN : x.length ≤ N) : Txt.find x ⟨#[c]⟩ < (N : Int) := by
  rcases find_one x c with ⟨h, _⟩ | ⟨k, h, hk, _⟩ <;> rw [h] <;> omega
theorem find_lo (x : Str) (c : Nat) : -1 ≤ Txt.find x ⟨#[c]⟩ := by
  rcases find_one x c with ⟨h, _⟩ | ⟨k, h, hk, _⟩ <;> rw [h] <;> omega
theorem upHi (c : Nat) : Txt.find upText ⟨#[c]⟩ < (loText.length : Int) := find_hi _ _ _ (by decide +kernel)
theorem upLo (c : Nat) : -(loText.length : Int) ≤ Txt.find upText ⟨#[c]⟩ := by
  have := find_lo upText c
  have e : loText.length = 26 := by decide +kernel
  omega
theorem upFits (c : Nat) : fitsSsize (Txt.find upText ⟨#[c]⟩) = true := fitsSsize_of (N := 26) (by have := find_lo upText c; omega) (find_hi _ _ 26 (by decide +kernel)) (by omega)

def sOf (c : Nat) : Str := if 0 ≤ Txt.find upText ⟨#[c]⟩ then Txt.item loText (Txt.find upText ⟨#[c]⟩) else ⟨#[c]⟩
def sRun (l : List Int) : Str := (l.map Int.toNat).foldl (fun f c => f ++ sOf c) (Str.ofString "")
def SInv (pre : List Int) (f : Str) : Prop := f.length = pre.length ∧ f = sRun pre
theorem sInv0 : SInv [] (Str.ofString "") := ⟨by decide, rfl⟩
theorem sOf_len (c : Nat) : (sOf c).length = 1 := by unfold sOf; split <;> rfl
theorem sInvT {pre : List Int} {f g : Str} {n : Nat} (h : SInv pre f) (hg : sOf n = g) : SInv (pre ++ [(n : Int)]) (f ++ g) := by
  obtain ⟨h1, h2⟩ := h
  subst hg
  refine ⟨?_, ?_⟩
  · rw [Str.length_append, List.length_append, h1, sOf_len]
    rfl
  · unfold sRun at h2 ⊢
    rw [List.map_append, List.foldl_append, ← h2]
    rfl
theorem sWay1 {pre : List Int} {f : Str} {n : Nat} (h : SInv pre f) (a : 0 ≤ Txt.find (Str.ofString "ABCDEFGHIJKLMNOPQRSTUVWXYZ") ⟨#[n]⟩) : SInv (pre ++ [(n : Int)]) (f ++ Txt.item (Str.ofString "abcdefghijklmnopqrstuvwxyz") (Txt.find (Str.ofString "ABCDEFGHIJKLMNOPQRSTUVWXYZ") ⟨#[n]⟩)) := sInvT h (if_pos a)
theorem sWay2 {pre : List Int} {f : Str} {n : Nat} (h : SInv pre f) (a : ¬ 0 ≤ Txt.find (Str.ofString "ABCDEFGHIJKLMNOPQRSTUVWXYZ") ⟨#[n]⟩) : SInv (pre ++ [(n : Int)]) (f ++ ⟨#[n]⟩) := sInvT h (if_neg a)
theorem sLen {pre : List Int} {f : Str} (h : SInv pre f) : f.length = pre.length ∧ SInv pre f := ⟨h.1, h⟩

local macro_rules | `(tactic| walk_at "subscriptTail Name Name str int") => `(tactic| (k_here; (with_reducible show wpAny _ _ (subscriptTail _ _ (Value.str _ _) (Value.int (Txt.find _ _) _)) _ _ _); (refine item_str (upFits _) (upLo _) (upHi _) ?_); intro _))
local macro_rules | `(tactic| walk_at "subscriptTail") => `(tactic| (k_here; (with_reducible show wpAny _ _ (subscriptTail _ _ (Value.str _ _) (Value.int (Txt.find _ _) _)) _ _ _); (refine item_str (upFits _) (upLo _) (upHi _) ?_); intro _))
set_option maxRecDepth 100000 in
set_option maxHeartbeats 8000000 in
theorem small_c {w : World} {mean : ExcName → Option Value} {mg mb : Str → Option Value} (x : Str) (tx : Tok) (news : Led) (hx : x.length ≤ 1000) :
    CallsTo 2 w mean mg mb 57 [.str x tx] news (fun h₀ L m s Q => TextRet h₀ L m news s Q (SInv (KStt.codes x))) := by
  unfold CallsTo
  k_with_none
  w_top off
  k_fill
  intro dp un gd cn cs a ccd cl outer A₀ base h₀ L m s Q E B F X N T hk hdp hun hret
  k_with "pyIter str" => k_state (fun pre r => r.length = pre.length ∧ SInv pre r) "found"
  k_with "state" => first
    | exact sLen sInv0
    | exact sLen (sWay1 (by assumption) (by assumption))
    | exact sLen (sWay2 (by assumption) (by assumption))
  refine wpAny_call ?_
  k_dflt cell_enter
  k_steps
  exact hret _ _ _ _ (by assumption) (by assumption) (by assumption)
end Mine
end
section
namespace Mine
abbrev IntRet (h₀ : Heap) (L : Addr) (m : Str → Option Value) (news : Led) (s : Shared) (Q : Value → Shared → Prop) (ok : Int → Prop) : Prop :=
  ∀ (i : Int) (t : Tok) (h' : Heap) (tk' : Nat), ok i → Fr h₀ L h' m → News h₀ L h' news → Q (.int i t) { s with heap := h', toks := tk' }
def Thou (i : Int) : Prop := 0 ≤ i ∧ i < 1000
theorem thou_mod (n : Int) : Thou (n.fmod 1000) := ⟨Int.fmod_nonneg_of_pos n (by decide), Int.fmod_lt_of_pos n (by decide)⟩
local macro_rules | `(tactic| is_list) => `(tactic| exact News.isList (by assumption) (by assumption))
set_option maxRecDepth 100000 in
set_option maxHeartbeats 8000000 in
theorem number_c {w : World} {mean : ExcName → Option Value} {mg mb : Str → Option Value} (l : Addr) (vs : List Value) (ns : List Int) (nn : Nat) (i : Int) (ti : Tok) (news : Led)
    (hl : (l, listOf vs.toArray nn) ∈ news) (hi : IntsAre vs ns) (hn : ns.length ≤ 100) (h0 : 0 ≤ i) (h1 : i ≤ 100) :
    CallsTo 2 w mean mg mb 36 [.ref l, .int i ti] news (fun h₀ L m s Q => IntRet h₀ L m news s Q Thou) := by
  unfold CallsTo
  k_with_none
  w_top off
  k_fill
  intro dp un gd cn cs a ccd cl outer A₀ base h₀ L m s Q E B F X N T hk hdp hun hret
  refine wpAny_call ?_
  k_dflt cell_enter
  k_steps
  all_goals exact hret _ _ _ _ (thou_mod _) (by assumption) (by assumption)
end Mine
end
section
namespace Mine
abbrev signsT : Str := Str.ofString "abBZ09''z' _-Cm\t.\n"
def okCodes : List Nat := [97, 98, 66, 90, 48, 57, 39, 39, 122, 39, 32, 95, 45, 67, 109, 9, 46, 10]
def Good (f : Str) : Prop := ∀ c ∈ f.cps.toList, c ∈ okCodes
def TInv (pre : List Int) (f : Str) : Prop := f.length = pre.length ∧ Good f
theorem tInv0 : TInv [] (Str.ofString "") := ⟨by decide, fun _ h => absurd h (List.not_mem_nil)⟩
theorem item_good (i : Int) : Good (Txt.item signsT (Int.fmod i (signsT.length : Int))) := by
  have e : (signsT.length : Int) = 18 := by decide +kernel
  rw [e]
  have h1 := Int.fmod_nonneg_of_pos i (by decide : (0 : Int) < 18)
  have h2 := Int.fmod_lt_of_pos i (by decide : (0 : Int) < 18)
  generalize i.fmod 18 = k at h1 h2
  obtain ⟨k, rfl⟩ := Int.eq_ofNat_of_zero_le h1
  have h3 : k < 18 := by omega
  have all : ∀ k : Fin 18, (Txt.item signsT (k.val : Int)).cps.toList.all (fun c => okCodes.contains c) = true := by decide +kernel
  have := all ⟨k, h3⟩
  intro c hc
  have := List.all_eq_true.mp this c hc
  simpa using this
theorem tInvT {pre : List Int} {f : Str} {k : Int} (i : Int) (h : TInv pre f) : TInv (pre ++ [k]) (f ++ Txt.item signsT (Int.fmod i (signsT.length : Int))) := by
  refine ⟨?_, ?_⟩
  · rw [Str.length_append, List.length_append, h.1]; rfl
  · intro c hc
    rw [Str.cps_append, Array.toList_append] at hc
    rcases List.mem_append.mp hc with hc | hc
    · exact h.2 c hc
    · exact item_good i c hc
theorem tLen {pre : List Int} {f : Str} (h : TInv pre f) : f.length = pre.length ∧ TInv pre f := ⟨h.1, h⟩
def TOk (f : Str) : Prop := f.length ≤ 22 ∧ Good f
theorem at_small {k i : Int} {p : Nat} (h : k = 0 + (p : Int)) (h2 : p < (i.fmod 23 - 0).toNat) : k + 1 ≤ 100 := by
  have := Int.fmod_lt_of_pos i (by decide : (0 : Int) < 23)
  omega
theorem tOk_of {f : Str} {i : Int} (g : TInv (rangeKs 0 (i.fmod 23 - 0).toNat) f) : TOk f := by
  have := Int.fmod_lt_of_pos i (by decide : (0 : Int) < 23)
  have h := g.1
  rw [rangeKs_length] at h
  exact ⟨by omega, g.2⟩
local macro_rules | `(tactic| is_list) => `(tactic| exact News.isList (by assumption) (by assumption))
theorem mem_app {p : Addr × Obj} {a b : Led} (h : p ∈ a) : p ∈ a ++ b := List.mem_append.mpr (.inl h)
local macro_rules | `(tactic| walk_at "call ref") => `(tactic| (
  k_here
  (with_reducible show wpAny _ _ (call (Value.ref 36) _) _ _ _)
  k_dflt (refine' use_c (number_c _ _ _ _ _ _ _ ?c1 ?c2 ?c3 ?c4 ?c5) ?k1 ?k2 ?k3 ?k4 ?k5 ?k6 ?k7 ?k8 ?_)
  (case k1 => k_asm); (case k2 => k_asm); (case k3 => k_asm); (case k4 => k_asm); (case k5 => k_asm); (case k6 => first | exact rfl | assumption); (case k7 => ktr_room); (case k8 => ktr_units)
  (case c1 => first | assumption | exact List.Mem.tail _ (by assumption) | exact mem_app (by assumption) | exact mem_app (List.Mem.tail _ (by assumption))  | exact List.Mem.tail _ (mem_app (by assumption))); (case c2 => assumption); (case c3 => first | assumption | omega); (case c4 => omega); (case c5 => first | omega | exact at_small (by assumption) (by assumption))
  k_whole; intro i9 t9 h9 tk9 ok9 F9 N9; (try dsimp only); (try k_fold)))
set_option maxRecDepth 100000 in
set_option maxHeartbeats 8000000 in
theorem text_c {w : World} {mean : ExcName → Option Value} {mg mb : Str → Option Value} (l : Addr) (vs : List Value) (ns : List Int) (nn : Nat) (news : Led)
    (hl : (l, listOf vs.toArray nn) ∈ news) (hi : IntsAre vs ns) (hn : ns.length ≤ 100) :
    CallsTo 4 w mean mg mb 43 [.ref l] news (fun h₀ L m s Q => TextRet h₀ L m news s Q TOk) := by
  unfold CallsTo
  k_with_none
  w_top off
  k_fill
  intro dp un gd cn cs a ccd cl outer A₀ base h₀ L m s Q E B F X N T hk hdp hun hret
  k_with "pyIter ref" => k_state (fun pre f => f.length = pre.length ∧ TInv pre f) "found"
  k_with "state" => first
    | exact tLen tInv0
    | exact tLen (tInvT _ (by assumption))
  refine wpAny_call ?_
  k_dflt cell_enter
  k_steps
  exact hret _ _ _ _ (tOk_of (by assumption)) (by assumption) (drop1 (by assumption))
end Mine
end
section
namespace Mine
abbrev BoolRet (h₀ : Heap) (L : Addr) (m : Str → Option Value) (news : Led) (s : Shared) (Q : Value → Shared → Prop) (b : Bool) : Prop :=
  ∀ (h' : Heap) (tk' : Nat), Fr h₀ L h' m → News h₀ L h' news → Q (.bool b) { s with heap := h', toks := tk' }
abbrev lettersT : Str := Str.ofString "abcdefghijklmnopqrstuvwxyzABCDEFGHIJKLMNOPQRSTUVWXYZ0123456789"
def isLet (x : Str) : Bool := !(Builtin.Str.occurrences lettersT x 0 lettersT.length 1).isEmpty
set_option maxRecDepth 100000 in
set_option maxHeartbeats 8000000 in
theorem letter_c {w : World} {mean : ExcName → Option Value} {mg mb : Str → Option Value} (x : Str) (tx : Tok) (news : Led) :
    CallsTo 2 w mean mg mb 50 [.str x tx] news (fun h₀ L m s Q => BoolRet h₀ L m news s Q (isLet x)) := by
  unfold CallsTo
  k_with_none
  w_top off
  k_fill
  intro dp un gd cn cs a ccd cl outer A₀ base h₀ L m s Q E B F X N T hk hdp hun hret
  refine wpAny_call ?_
  k_dflt cell_enter
  k_steps
  exact hret _ _ (by assumption) (by assumption)
end Mine
end
section
namespace Mine
def WhOut {σ : Type} (h₀ : Heap) (L : Addr) (s : Shared) (led : σ → Led) (ps : σ → List (Str × Value)) (stored : List Str) (m₀ : Str → Option Value) (R : σ → Prop) (s₂ : Shared) : Prop :=
  ∃ (c : σ) (h' : Heap) (tk : Nat) (m' : Str → Option Value) (news' : Led), s₂ = { s with heap := h', toks := tk } ∧ Fr h₀ L h' m' ∧ News h₀ L h' news' ∧ (∀ p ∈ led c, p ∈ news') ∧ (∀ p ∈ ps c, m' p.1 = some p.2) ∧ (∀ z, (∀ p ∈ ps c, z ≠ p.1) → stored.contains z = false → m' z = m₀ z) ∧ R c
def WhNext {σ : Type} (h₀ : Heap) (L : Addr) (s : Shared) (led : σ → Led) (ps : σ → List (Str × Value)) (stored : List Str) (m₀ : Str → Option Value) (P : σ → Prop) (μ : σ → Nat) (c : σ) (f : Flow) (s₂ : Shared) : Prop :=
  match f with
  | .ret _ => False
  | .brk => False
  | _ => WhOut h₀ L s led ps stored m₀ (fun c' => P c' ∧ μ c' < μ c) s₂
theorem wh_out {σ : Type} {h₀ : Heap} {L : Addr} {s : Shared} {led : σ → Led} {ps : σ → List (Str × Value)} {stored : List Str} {m₀ m' : Str → Option Value} {R : σ → Prop} {h' : Heap} {tk : Nat} {news' : Led} (c : σ)
    (F : Fr h₀ L h' m') (N : News h₀ L h' news') (hn : ∀ p ∈ led c, p ∈ news') (hk : ∀ p ∈ ps c, m' p.1 = some p.2) (hr : ∀ z, (∀ p ∈ ps c, z ≠ p.1) → stored.contains z = false → m' z = m₀ z) (hp : R c) :
    WhOut h₀ L s led ps stored m₀ R { s with heap := h', toks := tk } := ⟨c, h', tk, m', news', rfl, F, N, hn, hk, hr, hp⟩
section
variable {prog : Program} {w : World} {A : Around} {E : Value → Shared → Prop} {Q : Flow → Shared → Prop} {s : Shared} {env : Env} {h₀ : Heap} {L : Addr}
theorem wh {σ : Type} {test : Expr} {body : List Stmt} {pos : Pos} {m₀ : Str → Option Value} (led : σ → Led) (ps : σ → List (Str × Value)) (stored : List Str) (P R : σ → Prop) (μ : σ → Nat) (c₀ : σ)
    (F : Fr h₀ L s.heap m₀) (N : News h₀ L s.heap (led c₀)) (hk : ∀ p ∈ ps c₀, m₀ p.1 = some p.2) (hp : P c₀)
    (turn : ∀ (c : σ) (u : Str → Option Value) h tk, P c → Fr h₀ L h (kstB (fun z => if stored.contains z then u z else m₀ z) (ps c)) → News h₀ L h (led c) →
      wpAny (model prog w) A (isTrue test env (eval test env)) (fun b s₂ =>
        if b = true then wpAny (model prog w) A (execs body env) (WhNext h₀ L s led ps stored m₀ P μ c) E s₂ else WhOut h₀ L s led ps stored m₀ R s₂) E { s with heap := h, toks := tk })
    (done : ∀ (c : σ) (u : Str → Option Value) h tk, R c → Fr h₀ L h (kstB (fun z => if stored.contains z then u z else m₀ z) (ps c)) → News h₀ L h (led c) → Q .next { s with heap := h, toks := tk })
    (hE : PassesOwn (model prog w) A env E) :
    wpAny (model prog w) A (exec (.While test body [] pos) env) Q E s := by
  refine While_inv2 (fun n m nx => ∃ c : σ, nx = led c ∧ μ c = n ∧ (∀ p ∈ ps c, m p.1 = some p.2) ∧ (∀ z, (∀ p ∈ ps c, z ≠ p.1) → stored.contains z = false → m z = m₀ z) ∧ P c) F N ⟨c₀, rfl, rfl, hk, fun _ _ _ => rfl, hp⟩ ?_ hE
  rintro n m₁ nx h tk F₁ N₁ ⟨c, hnx, hsz, h1, h2, hp'⟩
  rw [hnx] at N₁
  rw [← hsz]
  refine wpAny_mono (turn c m₁ h tk hp' (ksw_fr h1 h2 F₁) N₁) (fun b s₂ p => ?_) fun _ _ x => x
  cases b with
  | false =>
    simp only [Bool.false_eq_true, if_false] at p ⊢
    obtain ⟨c', h', tk', m', news', rfl, F', N', hn, hk9, hr9, hp9⟩ := p
    exact done c' m' h' tk' hp9 (ksw_fr hk9 hr9 F') fun p hp => N' p (hn p hp)
  | true =>
    simp only [if_true] at p ⊢
    refine wpAny_mono p (fun f s₃ q => ?_) fun _ _ x => x
    cases f with
    | ret v => exact q.elim
    | brk => exact q.elim
    | next =>
      obtain ⟨c', h', tk', m', news', rfl, F', N', hn, hk9, hr9, hp9, hm9⟩ := q
      exact ⟨h', tk', m', led c', μ c', rfl, F', fun p hp => N' p (hn p hp), hm9, c', rfl, rfl, hk9, hr9, hp9⟩
    | cont =>
      obtain ⟨c', h', tk', m', news', rfl, F', N', hn, hk9, hr9, hp9, hm9⟩ := q
      exact ⟨h', tk', m', led c', μ c', rfl, F', fun p hp => N' p (hn p hp), hm9, c', rfl, rfl, hk9, hr9, hp9⟩
/-- a while that turns the name «at» alone, its ways out met; m: what «middle» or «first» holds -/
theorem at_while {test : Expr} {body : List Stmt} {pos : Pos} {m₀ : Str → Option Value} {news : Led} {a₀ b₀ : Int} {t₀ u₀ : Tok} (y : Str) (P R : Int → Int → Int → Prop) (μ : Int → Nat)
    (F : Fr h₀ L s.heap m₀) (N : News h₀ L s.heap news) (hk : m₀ (Str.ofString "at") = some (.int a₀ t₀)) (hy : m₀ y = some (.int b₀ u₀)) (hp : P b₀ a₀ a₀)
    (turn : ∀ (i : Int) (t : Tok) h tk, P b₀ a₀ i → Fr h₀ L h (fun z => if z = Str.ofString "at" then some (.int i t) else m₀ z) → News h₀ L h news →
      wpAny (model prog w) A (isTrue test env (eval test env)) (fun b s₂ =>
        if b = true then wpAny (model prog w) A (execs body env) (WhNext h₀ L s (fun _ => news) (fun (c : Int × Tok) => [(Str.ofString "at", .int c.1 c.2)]) [] m₀ (fun c => P b₀ a₀ c.1) (fun c => μ c.1) (i, t)) E s₂
        else WhOut h₀ L s (fun _ => news) (fun (c : Int × Tok) => [(Str.ofString "at", .int c.1 c.2)]) [] m₀ (fun c => R b₀ a₀ c.1) s₂) E { s with heap := h, toks := tk })
    (done : ∀ (i : Int) (t : Tok) h tk, R b₀ a₀ i → Fr h₀ L h (fun z => if z = Str.ofString "at" then some (.int i t) else m₀ z) → News h₀ L h news → Q .next { s with heap := h, toks := tk })
    (hE : PassesOwn (model prog w) A env E) :
    wpAny (model prog w) A (exec (.While test body [] pos) env) Q E s :=
  wh (fun _ => news) (fun (c : Int × Tok) => [(Str.ofString "at", .int c.1 c.2)]) [] (fun c => P b₀ a₀ c.1) (fun c => R b₀ a₀ c.1) (fun c => μ c.1) (a₀, t₀) F N (fun p hp => by rw [List.mem_singleton.mp hp]; exact hk) hp
    (fun c _ h tk hp F N => turn c.1 c.2 h tk hp F N) (fun c _ h tk hp F N => done c.1 c.2 h tk hp F N) hE
abbrev OSt := Int × Tok × List Value × List Str × Nat
theorem out_while {test : Expr} {body : List Stmt} {pos : Pos} {m₀ : Str → Option Value} {q : Addr × Obj} {l : Addr} {n₀ : Nat} {news : Led} {a₀ : Int} {t₀ : Tok} (P R : Int → List Str → Prop) (μ : Int → Nat)
    (F : Fr h₀ L s.heap m₀) (N : News h₀ L s.heap (q :: (l, listOf #[] n₀) :: news)) (hk : m₀ (Str.ofString "at") = some (.int a₀ t₀)) (hp : P a₀ [])
    (turn : ∀ (i : Int) (t : Tok) (vs : List Value) (ws : List Str) (n : Nat) (u : Str → Option Value) h tk, StrsAre vs ws → P i ws →
      Fr h₀ L h (fun z => if z = Str.ofString "at" then some (.int i t) else if [Str.ofString "first", Str.ofString "middle"].contains z then u z else m₀ z) → News h₀ L h ((l, listOf vs.toArray n) :: news) →
      wpAny (model prog w) A (isTrue test env (eval test env)) (fun b s₂ =>
        if b = true then wpAny (model prog w) A (execs body env) (WhNext h₀ L s (fun (c : OSt) => (l, listOf c.2.2.1.toArray c.2.2.2.2) :: news) (fun (c : OSt) => [(Str.ofString "at", .int c.1 c.2.1)]) [Str.ofString "first", Str.ofString "middle"] m₀ (fun c => StrsAre c.2.2.1 c.2.2.2.1 ∧ P c.1 c.2.2.2.1) (fun c => μ c.1) (i, t, vs, ws, n)) E s₂
        else WhOut h₀ L s (fun (c : OSt) => (l, listOf c.2.2.1.toArray c.2.2.2.2) :: news) (fun (c : OSt) => [(Str.ofString "at", .int c.1 c.2.1)]) [Str.ofString "first", Str.ofString "middle"] m₀ (fun c => StrsAre c.2.2.1 c.2.2.2.1 ∧ R c.1 c.2.2.2.1) s₂) E { s with heap := h, toks := tk })
    (done : ∀ (i : Int) (t : Tok) (vs : List Value) (ws : List Str) (n : Nat) (u : Str → Option Value) h tk, StrsAre vs ws → R i ws →
      Fr h₀ L h (fun z => if z = Str.ofString "at" then some (.int i t) else if [Str.ofString "first", Str.ofString "middle"].contains z then u z else m₀ z) → News h₀ L h ((l, listOf vs.toArray n) :: news) → Q .next { s with heap := h, toks := tk })
    (hE : PassesOwn (model prog w) A env E) :
    wpAny (model prog w) A (exec (.While test body [] pos) env) Q E s :=
  wh (fun (c : OSt) => (l, listOf c.2.2.1.toArray c.2.2.2.2) :: news) (fun (c : OSt) => [(Str.ofString "at", .int c.1 c.2.1)]) [Str.ofString "first", Str.ofString "middle"] (fun c => StrsAre c.2.2.1 c.2.2.2.1 ∧ P c.1 c.2.2.2.1) (fun c => StrsAre c.2.2.1 c.2.2.2.1 ∧ R c.1 c.2.2.2.1) (fun c => μ c.1)
    (a₀, t₀, [], [], n₀) F (drop1 N) (fun p hp => by rw [List.mem_singleton.mp hp]; exact hk) ⟨.nil, hp⟩
    (fun c u h tk hp F N => turn c.1 c.2.1 c.2.2.1 c.2.2.2.1 c.2.2.2.2 u h tk hp.1 hp.2 F N) (fun c u h tk hp F N => done c.1 c.2.1 c.2.2.1 c.2.2.2.1 c.2.2.2.2 u h tk hp.1 hp.2 F N) hE
end
/-- the codes -/
abbrev cd (x : Str) : List Nat := x.cps.toList
def Seg (x : Str) (q : Nat → Bool) (a i : Int) : Prop := 0 ≤ a ∧ a ≤ i ∧ i ≤ (x.length : Int) ∧ ∃ seg, (cd x).drop a.toNat = seg ++ (cd x).drop i.toNat ∧ (seg.length : Int) = i - a ∧ ∀ c ∈ seg, q c = true
def Stop (x : Str) (q : Nat → Bool) (i : Int) : Prop := ∀ c r, (cd x).drop i.toNat = c :: r → q c = false
theorem cd_len (x : Str) : (cd x).length = x.length := by simp [cd, Str.length]
theorem item_at {x : Str} {i : Int} (h0 : 0 ≤ i) (h1 : i < (x.length : Int)) : ∃ c, Txt.item x i = ⟨#[c]⟩ ∧ (cd x).drop i.toNat = c :: (cd x).drop (i + 1).toNat := by
  have hl : i.toNat < (cd x).length := by rw [cd_len]; omega
  refine ⟨(cd x)[i.toNat], ?_, ?_⟩
  · have hs : seqIndex? i x.length = some i.toNat := by
      have n : ¬ i < 0 := by omega
      simp [seqIndex?, n, h0, h1]
    have hl' : i.toNat < x.cps.size := by
      have e9 : (cd x).length = x.cps.size := by simp [cd]
      omega
    unfold Txt.item Txt.charAt
    rw [hs]
    show (⟨#[(x.cps[i.toNat]?).getD 0]⟩ : Str) = _
    rw [Array.getElem?_eq_getElem hl']
    rfl
  · have e : (i + 1).toNat = i.toNat + 1 := by omega
    rw [e]
    exact List.drop_eq_getElem_cons hl
theorem seg0 {x : Str} {q : Nat → Bool} {a : Int} (h0 : 0 ≤ a) (h1 : a ≤ (x.length : Int)) : Seg x q a a := ⟨h0, Int.le_refl _, h1, [], rfl, by simp, fun _ h => absurd h List.not_mem_nil⟩
theorem segT {x : Str} {q : Nat → Bool} {a i : Int} (h : Seg x q a i) (h1 : i < (x.length : Int)) (hq : ∀ c, Txt.item x i = ⟨#[c]⟩ → q c = true) : Seg x q a (i + 1) := by
  obtain ⟨h0, ha, hi, seg, e, hs, hall⟩ := h
  obtain ⟨c, ec, ed⟩ := item_at (x := x) (i := i) (by omega) h1
  refine ⟨h0, by omega, by omega, seg ++ [c], ?_, ?_, ?_⟩
  · rw [e, ed, List.append_assoc]; rfl
  · rw [List.length_append, List.length_singleton]; omega
  · intro d hd
    rcases List.mem_append.mp hd with hd | hd
    · exact hall d hd
    · rw [List.mem_singleton.mp hd]; exact hq c ec
theorem stop_end {x : Str} {q : Nat → Bool} {i : Int} (h : ¬ i < (x.length : Int)) : Stop x q i := by
  intro c r e
  rw [List.drop_eq_nil_of_le (by rw [cd_len]; omega)] at e
  cases e
theorem stop_at {x : Str} {q : Nat → Bool} {i : Int} (h0 : 0 ≤ i) (h1 : i < (x.length : Int)) (hq : ∀ c, Txt.item x i = ⟨#[c]⟩ → q c = false) : Stop x q i := by
  intro c r e
  obtain ⟨d, ec, ed⟩ := item_at h0 h1
  rw [ed] at e
  cases e
  exact hq _ ec
end Mine
end
section
namespace Mine
def isL (c : Nat) : Bool := isLet ⟨#[c]⟩
def isA (c : Nat) : Bool := decide (c = 39)
theorem dw_le (q : Nat → Bool) (l : List Nat) : (l.dropWhile q).length ≤ l.length := (List.dropWhile_suffix q).length_le
/-- the words of _law_words, over the codes -/
noncomputable def lw : List Nat → List (List Nat)
  | [] => []
  | c :: r =>
    if isL c = true then
      let w1 := c :: r.takeWhile isL
      let r1 := r.dropWhile isL
      let w2 := r1.takeWhile isA
      let r2 := r1.dropWhile isA
      if w2 = [] then w1 :: lw r2 else (w1 ++ w2 ++ r2.takeWhile isL) :: lw (r2.dropWhile isL)
    else lw r
termination_by l => l.length
decreasing_by
  all_goals simp_wf
  · exact Nat.lt_succ_of_le (Nat.le_trans (dw_le _ _) (dw_le _ _))
  · exact Nat.lt_succ_of_le (Nat.le_trans (dw_le _ _) (Nat.le_trans (dw_le _ _) (dw_le _ _)))
def Stops (q : Nat → Bool) (r : List Nat) : Prop := ∀ c r', r = c :: r' → q c = false
theorem tw_app {q : Nat → Bool} {r : List Nat} (hr : Stops q r) : ∀ s : List Nat, (∀ c ∈ s, q c = true) → (s ++ r).takeWhile q = s ∧ (s ++ r).dropWhile q = r
  | [], _ => by
    cases r with
    | nil => exact ⟨rfl, rfl⟩
    | cons c r' => simp [hr c r' rfl]
  | c :: s, h => by
    have hc := h c (.head _)
    have ih := tw_app hr s fun d hd => h d (.tail _ hd)
    simp [hc, ih.1, ih.2]
theorem lw_skip {c : Nat} {r : List Nat} (h : isL c = false) : lw (c :: r) = lw r := by
  rw [lw, if_neg (by rw [h]; exact Bool.false_ne_true)]
theorem lw_word {s1 s2 s3 r1 r2 r3 : List Nat} (h1 : ∀ c ∈ s1, isL c = true) (n1 : s1 ≠ []) (t1 : Stops isL r1) (e1 : r1 = s2 ++ r2) (h2 : ∀ c ∈ s2, isA c = true) (t2 : Stops isA r2) (e2 : r2 = s3 ++ r3) (h3 : ∀ c ∈ s3, isL c = true)
    (n3 : s2 = [] → s3 = []) (t3 : s2 ≠ [] → Stops isL r3) : lw (s1 ++ r1) = (s1 ++ s2 ++ s3) :: lw r3 := by
  cases s1 with
  | nil => exact absurd rfl n1
  | cons c s =>
    have hc := h1 c (.head _)
    have a1 := tw_app t1 s fun d hd => h1 d (.tail _ hd)
    have a2 := tw_app t2 s2 h2
    rw [List.cons_append, lw, if_pos hc]
    simp only
    rw [a1.1, a1.2, e1, a2.1, a2.2]
    by_cases h0 : s2 = []
    · have h3' := n3 h0
      rw [if_pos h0, h0, e2, h3']
      simp
    · have a3 := tw_app (t3 h0) s3 h3
      rw [if_neg h0, e2, a3.1, a3.2]
def ofCs (l : List Nat) : Str := ⟨l.toArray⟩
noncomputable def LW (x : Str) : List Str := (lw (cd x)).map ofCs
def OWrd (x : Str) (i : Int) (ws : List Str) : Prop := (ws.length : Int) ≤ i ∧ ws ++ (lw ((cd x).drop i.toNat)).map ofCs = LW x
theorem oStart (x : Str) : (0 : Int) ≤ 0 ∧ (0 : Int) ≤ (x.length : Int) ∧ ([] : List Str).length ≤ x.length ∧ OWrd x 0 [] := ⟨by omega, by omega, Nat.zero_le _, by simp, rfl⟩
theorem stops_of {x : Str} {q : Nat → Bool} {i : Int} (h : Stop x q i) : Stops q ((cd x).drop i.toNat) := h
section
variable {x : Str} {vs : List Value} {ws : List Str} {a b c d i : Int}
theorem oEnd (hA : StrsAre vs ws) (q : OWrd x i ws) (h : i ≤ (x.length : Int)) (n : ¬ i < (x.length : Int)) : StrsAre vs ws ∧ i = (x.length : Int) ∧ OWrd x i ws := ⟨hA, by omega, q⟩
theorem oWhole (q : OWrd x i ws) (h : i = (x.length : Int)) : ws = LW x := by
  have e := q.2
  rw [List.drop_eq_nil_of_le (by rw [cd_len]; omega), lw] at e
  simpa using e
theorem oSkip (hA : StrsAre vs ws) (h0 : 0 ≤ a) (h1 : a < (x.length : Int)) (q : OWrd x a ws) (s : Seg x isL a i ∧ Stop x isL i) (e : i = a) :
    (StrsAre vs ws ∧ 0 ≤ i + 1 ∧ i + 1 ≤ (x.length : Int) ∧ ws.length ≤ x.length ∧ OWrd x (i + 1) ws) ∧ ((x.length : Int) - (i + 1)).toNat < ((x.length : Int) - a).toNat := by
  subst e
  obtain ⟨q1, q2⟩ := q
  obtain ⟨c, _, ed⟩ := item_at h0 h1
  have hc : isL c = false := s.2 c _ ed
  refine ⟨⟨hA, by omega, by omega, by omega, by omega, ?_⟩, by omega⟩
  rw [ed, lw_skip hc] at q2
  exact q2
theorem oWord {t : Tok} (hA : StrsAre vs ws) (h1 : a < (x.length : Int)) (q : OWrd x a ws) (s1 : Seg x isL a b ∧ Stop x isL b) (ne : b ≠ a) (s2 : Seg x isA b c ∧ Stop x isA c)
    (s3 : (c ≤ b → d = c) ∧ Seg x isL c d ∧ (b < c → Stop x isL d)) :
    (StrsAre (vs ++ [Value.str (Txt.slice x (some a) (some d)) t]) (ws ++ [Txt.slice x (some a) (some d)]) ∧ 0 ≤ d ∧ d ≤ (x.length : Int) ∧ (ws ++ [Txt.slice x (some a) (some d)]).length ≤ x.length ∧ OWrd x d (ws ++ [Txt.slice x (some a) (some d)])) ∧
      ((x.length : Int) - d).toNat < ((x.length : Int) - a).toNat := by
  obtain ⟨q1, q2⟩ := q
  obtain ⟨⟨a0, ab, bl, g1, e1, l1, all1⟩, st1⟩ := s1
  obtain ⟨⟨b0, bc, cl, g2, e2, l2, all2⟩, st2⟩ := s2
  obtain ⟨dc, ⟨c0, cd', dl, g3, e3, l3, all3⟩, st3⟩ := s3
  have hlen : (ws ++ [Txt.slice x (some a) (some d)]).length = ws.length + 1 := by simp
  have hw := lw_word all1 (by intro h; rw [h] at l1; simp at l1; omega) st1 e2 all2 st2 e3 all3 (fun h => by
    rw [h] at l2; simp at l2
    have := dc (by omega)
    have : (g3.length : Int) = 0 := by omega
    exact List.eq_nil_of_length_eq_zero (by omega)) (fun h => by
    have : g2.length ≠ 0 := fun h0 => h (List.eq_nil_of_length_eq_zero h0)
    exact st3 (by omega))
  have hs : Txt.slice x (some a) (some d) = ofCs (g1 ++ g2 ++ g3) := by
    have h9 : Txt.slice x (some a) (some d) = ⟨((cd x).drop a.toNat).take (d - a).toNat |>.toArray⟩ := StrLaws.sliceText_plain ⟨a0, by omega, by have := cd_len x; show d ≤ ((cd x).length : Int); omega⟩
    rw [h9, e1, e2, e3]
    have hl : (d - a).toNat = (g1 ++ g2 ++ g3).length := by simp; omega
    have happ : g1 ++ (g2 ++ (g3 ++ (cd x).drop d.toNat)) = (g1 ++ g2 ++ g3) ++ (cd x).drop d.toNat := by simp
    rw [happ, hl, List.take_left']
    · rfl
    · rfl
  refine ⟨⟨hA.append' (.cons _ _ .nil), by omega, dl, by omega, by omega, ?_⟩, by omega⟩
  rw [e1, hw, List.map_cons] at q2
  rw [hs, ← q2]
  simp
theorem aOf {i : Int} (h : isLet (Txt.item x i) = true) : ∀ c, Txt.item x i = ⟨#[c]⟩ → isL c = true := fun c e => by rw [e] at h; exact h
theorem aNot {i : Int} (h : isLet (Txt.item x i) = false) : ∀ c, Txt.item x i = ⟨#[c]⟩ → isL c = false := fun c e => by rw [e] at h; exact h
theorem apo_iff (c : Nat) : ((⟨#[c]⟩ : Str) == Str.ofString "'") = isA c := by
  have e : Str.ofString "'" = ⟨#[39]⟩ := by decide
  rw [e]
  unfold isA
  by_cases h : c = 39
  · subst h; decide
  · rw [decide_eq_false h]
    simp [h]
theorem bOf {i : Int} (h : (Txt.item x i == Str.ofString "'") = true) : ∀ c, Txt.item x i = ⟨#[c]⟩ → isA c = true := fun c e => by rw [e, apo_iff] at h; exact h
theorem bNot {i : Int} (h : (Txt.item x i == Str.ofString "'") = false) : ∀ c, Txt.item x i = ⟨#[c]⟩ → isA c = false := fun c e => by rw [e, apo_iff] at h; exact h
theorem s1Start {q : Nat → Bool} (h0 : 0 ≤ i) (h1 : i ≤ (x.length : Int)) : 0 ≤ i ∧ i ≤ (x.length : Int) ∧ Seg x q i i := ⟨h0, h1, seg0 h0 h1⟩
theorem s1Turn {q : Nat → Bool} (h0 : 0 ≤ i) (h1 : i < (x.length : Int)) (s : Seg x q a i) (hq : ∀ c, Txt.item x i = ⟨#[c]⟩ → q c = true) :
    (0 ≤ i + 1 ∧ i + 1 ≤ (x.length : Int) ∧ Seg x q a (i + 1)) ∧ ((x.length : Int) - (i + 1)).toNat < ((x.length : Int) - i).toNat := ⟨⟨by omega, by omega, segT s h1 hq⟩, by omega⟩
theorem s1OutA {q : Nat → Bool} (h0 : 0 ≤ i) (h2 : i ≤ (x.length : Int)) (s : Seg x q a i) (h1 : ¬ i < (x.length : Int)) : 0 ≤ i ∧ a ≤ i ∧ i ≤ (x.length : Int) ∧ Seg x q a i ∧ Stop x q i := ⟨h0, s.2.1, h2, s, stop_end h1⟩
theorem s1OutB {q : Nat → Bool} (h0 : 0 ≤ i) (h2 : i ≤ (x.length : Int)) (s : Seg x q a i) (h1 : i < (x.length : Int)) (hq : ∀ c, Txt.item x i = ⟨#[c]⟩ → q c = false) : 0 ≤ i ∧ a ≤ i ∧ i ≤ (x.length : Int) ∧ Seg x q a i ∧ Stop x q i := ⟨h0, s.2.1, h2, s, stop_at h0 h1 hq⟩
theorem s3Start {q : Nat → Bool} (h0 : 0 ≤ i) (h1 : i ≤ (x.length : Int)) : 0 ≤ i ∧ i ≤ (x.length : Int) ∧ (i ≤ b → i = i) ∧ Seg x q i i := ⟨h0, h1, fun _ => rfl, seg0 h0 h1⟩
theorem s3Turn {q : Nat → Bool} (h0 : 0 ≤ i) (h1 : i < (x.length : Int)) (hb : b < i) (s : (a ≤ b → i = a) ∧ Seg x q a i) (hq : ∀ c, Txt.item x i = ⟨#[c]⟩ → q c = true) :
    (0 ≤ i + 1 ∧ i + 1 ≤ (x.length : Int) ∧ (a ≤ b → i + 1 = a) ∧ Seg x q a (i + 1)) ∧ ((x.length : Int) - (i + 1)).toNat < ((x.length : Int) - i).toNat :=
  ⟨⟨by omega, by omega, fun h => by have := s.1 h; omega, segT s.2 h1 hq⟩, by omega⟩
theorem s3OutA {q : Nat → Bool} (h0 : 0 ≤ i) (h2 : i ≤ (x.length : Int)) (s : (a ≤ b → i = a) ∧ Seg x q a i) (h1 : ¬ b < i) : 0 ≤ i ∧ a ≤ i ∧ i ≤ (x.length : Int) ∧ (a ≤ b → i = a) ∧ Seg x q a i ∧ (b < a → Stop x q i) :=
  ⟨h0, s.2.2.1, h2, s.1, s.2, fun h => by have := s.2.2.1; omega⟩
theorem s3OutB {q : Nat → Bool} (h0 : 0 ≤ i) (h2 : i ≤ (x.length : Int)) (s : (a ≤ b → i = a) ∧ Seg x q a i) (h1 : ¬ i < (x.length : Int)) : 0 ≤ i ∧ a ≤ i ∧ i ≤ (x.length : Int) ∧ (a ≤ b → i = a) ∧ Seg x q a i ∧ (b < a → Stop x q i) :=
  ⟨h0, s.2.2.1, h2, s.1, s.2, fun _ => stop_end h1⟩
theorem s3OutC {q : Nat → Bool} (h0 : 0 ≤ i) (h2 : i ≤ (x.length : Int)) (s : (a ≤ b → i = a) ∧ Seg x q a i) (h1 : i < (x.length : Int)) (hq : ∀ c, Txt.item x i = ⟨#[c]⟩ → q c = false) : 0 ≤ i ∧ a ≤ i ∧ i ≤ (x.length : Int) ∧ (a ≤ b → i = a) ∧ Seg x q a i ∧ (b < a → Stop x q i) :=
  ⟨h0, s.2.2.1, h2, s.1, s.2, fun _ => stop_at h0 h1 hq⟩
end
end Mine
end
section
namespace Mine
theorem wordsRet {h₀ : Heap} {L : Addr} {m : Str → Option Value} {news : Led} {s : Shared} {Q : Value → Shared → Prop} {ws us : List Str} (h : ListRet h₀ L m news s Q ws) {D : Addr} {vs : List Value} {n : Nat} {h' : Heap} {tk' : Nat}
    (e : us = ws) (a : StrsAre vs us) (F : Fr h₀ L h' m) (N : News h₀ L h' ((D, listOf vs.toArray n) :: news)) (lt : ∀ p ∈ news, p.1 < D) : Q (.ref D) { s with heap := h', toks := tk' } := by
  subst e
  exact h D _ n h' tk' a F N lt
local macro_rules | `(tactic| walk_at "call ref") => `(tactic| (
  k_here
  (with_reducible show wpAny _ _ (call (Value.ref 50) _) _ _ _)
  k_dflt (refine' use_c (letter_c _ _ _) ?k1 ?k2 ?k3 ?k4 ?k5 ?k6 ?k7 ?k8 ?_)
  (case k1 => k_asm); (case k2 => k_asm); (case k3 => k_asm); (case k4 => k_asm); (case k5 => k_asm); (case k6 => first | exact rfl | assumption); (case k7 => ktr_room); (case k8 => ktr_units)
  k_whole; intro h9 tk9 F9 N9; (try dsimp only); (try k_fold)))
local macro_rules | `(tactic| walk_at "WhNext") => `(tactic| dsimp only [WhNext])
local macro_rules | `(tactic| walk_at "WhOut") => `(tactic| ((rename News _ _ _ _ => nE9); (try simp only [List.push_toArray] at nE9); first | (refine wh_out ⟨_, _⟩ (by assumption) nE9 (by kst_in) (by kst_all) (by ksw_same) (by kst_p)) | (refine wh_out ⟨_, _, _, _, _⟩ (by assumption) nE9 (by kst_in) (by kst_all) (by ksw_same) (by kst_p))))
set_option maxRecDepth 100000 in
set_option maxHeartbeats 8000000 in
theorem words_c {w : World} {mean : ExcName → Option Value} {mg mb : Str → Option Value} (x : Str) (tx : Tok) (news : Led) (hx : x.length ≤ 1000) :
    CallsTo 4 w mean mg mb 71 [.str x tx] news (fun h₀ L m s Q => ListRet h₀ L m news s Q (LW x)) := by
  unfold CallsTo
  k_with_none
  w_top off
  k_fill
  intro dp un gd cn cs a ccd cl outer A₀ base h₀ L m s Q E B F X N T hk hdp hun hret
  k_with "exec While Compare cons nil" => (
    refine' out_while (fun i ws => 0 ≤ i ∧ i ≤ (x.length : Int) ∧ ws.length ≤ x.length ∧ OWrd x i ws) (fun i ws => i = (x.length : Int) ∧ OWrd x i ws) (fun i => (x.length - i).toNat) ?w9F ?w9N ?w9k ?w9p ?_ ?_ ?w9E
    (case w9F => assumption); (case w9N => assumption); (case w9k => with_unfolding_all rfl); (case w9p => kst_p); (case w9E => with_reducible exact PySem.PassesOwn.leaving)
    intro i9 t9 vs9 ws9 n9 u9 h9 tk9 a9 p9 F9 N9
    obtain ⟨q1, q2, q3, q4⟩ := p9
    have q5 := StrsAre.length a9
    (try k_fold)
    rotate_left
    intro i9 t9 vs9 ws9 n9 u9 h9 tk9 a9 p9 F9 N9
    obtain ⟨q1, q2⟩ := p9
    (try k_fold))
  k_with "exec While BoolOp cons nil" => (
    first
    | ((with_reducible show wpAny _ _ (exec (Stmt.While (Expr.BoolOp _ [_, Expr.Call _ _ _ _] _) _ _ _) _) _ _ _)
       refine' at_while (Str.ofString "first") (fun b a i => 0 ≤ i ∧ i ≤ (x.length : Int) ∧ Seg x isL a i) (fun b a i => 0 ≤ i ∧ a ≤ i ∧ i ≤ (x.length : Int) ∧ Seg x isL a i ∧ Stop x isL i) (fun i => (x.length - i).toNat) ?w9F ?w9N ?w9k ?w9y ?w9p ?_ ?_ ?w9E)
    | ((with_reducible show wpAny _ _ (exec (Stmt.While (Expr.BoolOp _ [_, Expr.Compare _ _ _ _] _) _ _ _) _) _ _ _)
       refine' at_while (Str.ofString "middle") (fun b a i => 0 ≤ i ∧ i ≤ (x.length : Int) ∧ Seg x isA a i) (fun b a i => 0 ≤ i ∧ a ≤ i ∧ i ≤ (x.length : Int) ∧ Seg x isA a i ∧ Stop x isA i) (fun i => (x.length - i).toNat) ?w9F ?w9N ?w9k ?w9y ?w9p ?_ ?_ ?w9E)
    | ((with_reducible show wpAny _ _ (exec (Stmt.While (Expr.BoolOp _ [_, _, _] _) _ _ _) _) _ _ _)
       refine' at_while (Str.ofString "middle") (fun b a i => 0 ≤ i ∧ i ≤ (x.length : Int) ∧ (a ≤ b → i = a) ∧ Seg x isL a i) (fun b a i => 0 ≤ i ∧ a ≤ i ∧ i ≤ (x.length : Int) ∧ (a ≤ b → i = a) ∧ Seg x isL a i ∧ (b < a → Stop x isL i)) (fun i => (x.length - i).toNat) ?w9F ?w9N ?w9k ?w9y ?w9p ?_ ?_ ?w9E)
    (case w9F => assumption); (case w9N => assumption); (case w9k => with_unfolding_all rfl); (case w9y => with_unfolding_all rfl); (case w9p => kst_p); (case w9E => with_reducible exact PySem.PassesOwn.leaving)
    intro i9 t9 h9 tk9 p9 F9 N9
    obtain ⟨q1, q2, q3⟩ := p9
    (try k_fold)
    rotate_left
    intro i9 t9 h9 tk9 p9 F9 N9
    obtain ⟨q1, q2, q3, q4⟩ := p9
    (try k_fold))
  k_with "state" => first
    | exact oStart _
    | exact s1Start (by assumption) (by assumption)
    | exact s3Start (by assumption) (by assumption)
    | exact s1Turn (by assumption) (by assumption) (by assumption) (aOf (by assumption))
    | exact s1Turn (by assumption) (by assumption) (by assumption) (bOf (by assumption))
    | exact s3Turn (by assumption) (by assumption) (by assumption) (by assumption) (aOf (by assumption))
    | exact s1OutA (by assumption) (by assumption) (by assumption) (by assumption)
    | exact s1OutB (by assumption) (by assumption) (by assumption) (by assumption) (aNot (by assumption))
    | exact s1OutB (by assumption) (by assumption) (by assumption) (by assumption) (bNot (by assumption))
    | exact s3OutA (by assumption) (by assumption) (by assumption) (by assumption)
    | exact s3OutB (by assumption) (by assumption) (by assumption) (by assumption)
    | exact s3OutC (by assumption) (by assumption) (by assumption) (by assumption) (aNot (by assumption))
    | exact oSkip (by assumption) (by assumption) (by assumption) (by assumption) (by assumption) (by assumption)
    | exact oWord (by assumption) (by assumption) (by assumption) (by assumption) (by assumption) (by assumption) (by assumption)
    | exact oEnd (by assumption) (by assumption) (by assumption) (by assumption)
  refine wpAny_call ?_
  k_dflt cell_enter
  k_steps
  exact wordsRet hret (oWhole (by assumption) (by assumption)) (by assumption) (by assumption) (by assumption) (by assumption)
end Mine
end
section
namespace Mine
section
variable {prog : Program} {w : World} {A : Around} {E : Value → Shared → Prop} {s : Shared} {env : Env} {h₀ : Heap} {x : Str} {body : List Stmt} {Q : Flow → Shared → Prop}
theorem text_loopG {xt : Str} {tx : Tok} {m₀ : Str → Option Value} {news : Led} (J : Nat → (Str → Option Value) → Led → Prop)
    (hh : A.handled = none) (F : Fr h₀ env.locals s.heap m₀) (N : News h₀ env.locals s.heap news) (hj : J 0 m₀ news)
    (turn : ∀ i c t m₁ nx h tk own, xt.cps[i]? = some c → OwnOff own (nx.map (·.1)) → J i m₁ nx → Fr h₀ env.locals h (fun y => if y = x then some (.str ⟨#[c]⟩ t) else m₁ y) → News h₀ env.locals h (nx ++ own) →
      wpAny (model prog w) A (execs body env) (InvPostG h₀ env.locals (J (i + 1)) own { s with heap := h, toks := tk } Q) E { s with heap := h, toks := tk })
    (done : ∀ m₁ nx h tk, J xt.cps.size m₁ nx → Fr h₀ env.locals h m₁ → News h₀ env.locals h nx → Q .next { s with heap := h, toks := tk }) :
    wpAny (model prog w) A (pyIter (.str xt tx)) (fun it s₂ => LoopAtV prog w A h₀ env x body Q E it s₂) E s := by
  cases ha : xt.cps.all (· < 128)
  · refine wpAny_pyIter_wide ha ?_
    refine kdr_loop J (Walks.strWide hh _ xt tx) (fun _ h => h) (fun _ h => h) ?_ ?_ ?_ ?_ ⟨_, Heap.get?_push_size _ rfl, rfl, rfl⟩ (F.push _) (fun p hp => ⟨Heap.get?_push_of_some _ (N p hp).1, (N p hp).2⟩) hj ?_ done
    · intro i h hi b hb
      rw [List.mem_singleton.mp hb]
      obtain ⟨o, ho, _⟩ := hi
      exact ⟨o, ho⟩
    · intro hm
      exact absurd F.ns.lt ((List.mem_singleton.mp hm) ▸ Nat.lt_irrefl _)
    · intro b hb
      rw [List.mem_singleton.mp hb]
      exact next_is_new F
    · intro p hp hI
      exact absurd (Heap.lt_size (N p hp).1) ((List.mem_singleton.mp hI) ▸ Nat.lt_irrefl _)
    · rintro i v m₁ nx h tk own hi ⟨c, u, hc, rfl⟩ hoff hJ F₁ N₁
      exact turn i c u m₁ nx h tk own hc hoff hJ F₁ N₁
  · refine wpAny_pyIter_ascii ha ?_
    refine kdr_loop J (Walks.strAscii hh _ xt tx) (fun _ h => h) (fun _ h => h) ?_ ?_ ?_ ?_ ⟨_, Heap.get?_push_size _ rfl, rfl, rfl⟩ (F.push _) (fun p hp => ⟨Heap.get?_push_of_some _ (N p hp).1, (N p hp).2⟩) hj ?_ done
    · intro i h hi b hb
      rw [List.mem_singleton.mp hb]
      obtain ⟨o, ho, _⟩ := hi
      exact ⟨o, ho⟩
    · intro hm
      exact absurd F.ns.lt ((List.mem_singleton.mp hm) ▸ Nat.lt_irrefl _)
    · intro b hb
      rw [List.mem_singleton.mp hb]
      exact next_is_new F
    · intro p hp hI
      exact absurd (Heap.lt_size (N p hp).1) ((List.mem_singleton.mp hI) ▸ Nat.lt_irrefl _)
    · rintro i v m₁ nx h tk own hi ⟨c, u, hc, rfl⟩ hoff hJ F₁ N₁
      exact turn i c u m₁ nx h tk own hc hoff hJ F₁ N₁
end
end Mine
end
section
namespace Mine
abbrev nFound : Str := Str.ofString "found"
abbrev nHere : Str := Str.ofString "here"
def BEnd (h₀ : Heap) (L : Addr) (s : Shared) (x : Str) (m₀ : Str → Option Value) (P : List Str → Str → Prop) (news own : Led) (s₂ : Shared) : Prop :=
  ∃ (D : Addr) (vs : List Value) (n : Nat) (ws : List Str) (here : Str) (th : Tok) (h' : Heap) (tk : Nat) (m' : Str → Option Value) (news' : Led), s₂ = { s with heap := h', toks := tk } ∧ Fr h₀ L h' m' ∧ News h₀ L h' news' ∧
    (∀ p ∈ (D, listOf vs.toArray n) :: news, p ∈ news') ∧ (∀ p ∈ own, p ∈ news') ∧ (∀ p ∈ own, p.1 ≠ D) ∧ (∀ p ∈ news, p.1 < D) ∧ StrsAre vs ws ∧ m' nFound = some (.ref D) ∧ m' nHere = some (.str here th) ∧
    (∀ z, z ≠ x → z ≠ nFound → z ≠ nHere → m' z = m₀ z) ∧ P ws here
def BPost (h₀ : Heap) (L : Addr) (s : Shared) (x : Str) (m₀ : Str → Option Value) (P : List Str → Str → Prop) (news own : Led) (f : Flow) (s₂ : Shared) : Prop :=
  match f with
  | .ret _ => False
  | .brk => False
  | _ => BEnd h₀ L s x m₀ P news own s₂
theorem b_end {h₀ : Heap} {L : Addr} {s : Shared} {x : Str} {m₀ m' : Str → Option Value} {P : List Str → Str → Prop} {news own news' : Led} {D : Addr} {vs : List Value} {n : Nat} {ws : List Str} {here : Str} {th : Tok} {h' : Heap} {tk : Nat}
    (F : Fr h₀ L h' m') (N : News h₀ L h' news') (hn : ∀ p ∈ (D, listOf vs.toArray n) :: news, p ∈ news') (ho : ∀ p ∈ own, p ∈ news') (hd : ∀ p ∈ own, p.1 ≠ D) (hl : ∀ p ∈ news, p.1 < D) (ha : StrsAre vs ws) (k1 : m' nFound = some (.ref D)) (k2 : m' nHere = some (.str here th))
    (k3 : ∀ z, z ≠ x → z ≠ nFound → z ≠ nHere → m' z = m₀ z) (hp : P ws here) : BEnd h₀ L s x m₀ P news own { s with heap := h', toks := tk } :=
  ⟨D, vs, n, ws, here, th, h', tk, m', news', rfl, F, N, hn, ho, hd, hl, ha, k1, k2, k3, hp⟩
def bMap (x : Str) (v : Option Value) (D : Addr) (here : Str) (th : Tok) (m₀ : Str → Option Value) : Str → Option Value := fun y => if y = x then v else if y = nFound then some (.ref D) else if y = nHere then some (.str here th) else m₀ y
theorem bMap_eq {x : Str} {v : Option Value} {D : Addr} {here : Str} {th : Tok} {m₀ m : Str → Option Value} (k1 : m nFound = some (.ref D)) (k2 : m nHere = some (.str here th)) (k3 : ∀ z, z ≠ x → z ≠ nFound → z ≠ nHere → m z = m₀ z) :
    (fun y => if y = x then v else m y) = bMap x v D here th m₀ := by
  funext y
  unfold bMap
  by_cases h1 : y = x
  · rw [if_pos h1, if_pos h1]
  · rw [if_neg h1, if_neg h1]
    by_cases h2 : y = nFound
    · rw [if_pos h2, h2, k1]
    · rw [if_neg h2]
      by_cases h3 : y = nHere
      · rw [if_pos h3, h3, k2]
      · rw [if_neg h3]
        exact k3 y h1 h2 h3
section
variable {prog : Program} {w : World} {A : Around} {E : Value → Shared → Prop} {s : Shared} {env : Env} {h₀ : Heap} {x : Str} {body : List Stmt} {Q : Flow → Shared → Prop}
theorem blank_loop {xt : Str} {tx : Tok} {m₀ : Str → Option Value} {q : Addr × Obj} {D₀ : Addr} {n₀ : Nat} {news : Led} {here₀ : Str} {t₀ : Tok} (P : List Nat → List Str → Str → Prop)
    (hh : A.handled = none) (F : Fr h₀ env.locals s.heap m₀) (N : News h₀ env.locals s.heap (q :: (D₀, listOf #[] n₀) :: news)) (k1 : m₀ nFound = some (.ref D₀)) (k2 : m₀ nHere = some (.str here₀ t₀)) (hl₀ : ∀ p ∈ news, p.1 < D₀) (hp : P [] [] here₀)
    (turn : ∀ (D : Addr) (vs : List Value) (n : Nat) (ws : List Str) (here : Str) (th : Tok) (pre : List Nat) (c : Nat) (post : List Nat) (t : Tok) h tk (own : Led), cd xt = pre ++ c :: post → (∀ p ∈ own, p.1 ≠ D) → (∀ p ∈ news, p.1 < D) → StrsAre vs ws → P pre ws here →
      Fr h₀ env.locals h (fun y => if y = x then some (.str ⟨#[c]⟩ t) else if y = Str.ofString "found" then some (.ref D) else if y = Str.ofString "here" then some (.str here th) else m₀ y) → News h₀ env.locals h ((D, listOf vs.toArray n) :: (news ++ own)) →
      wpAny (model prog w) A (execs body env) (BPost h₀ env.locals { s with heap := h, toks := tk } x m₀ (P (pre ++ [c])) news own) E { s with heap := h, toks := tk })
    (done : ∀ (D : Addr) (vs : List Value) (n : Nat) (ws : List Str) (here : Str) (th : Tok) (u : Str → Option Value) h tk, (∀ p ∈ news, p.1 < D) → StrsAre vs ws → P (cd xt) ws here →
      Fr h₀ env.locals h (fun y => if y = x then u y else if y = Str.ofString "found" then some (.ref D) else if y = Str.ofString "here" then some (.str here th) else m₀ y) → News h₀ env.locals h ((D, listOf vs.toArray n) :: news) → Q .next { s with heap := h, toks := tk }) :
    wpAny (model prog w) A (pyIter (.str xt tx)) (fun it s₂ => LoopAtV prog w A h₀ env x body Q E it s₂) E s := by
  refine text_loopG (fun i m nx => ∃ (D : Addr) (vs : List Value) (n : Nat) (ws : List Str) (here : Str) (th : Tok), nx = (D, listOf vs.toArray n) :: news ∧ (∀ p ∈ news, p.1 < D) ∧ StrsAre vs ws ∧ m nFound = some (.ref D) ∧ m nHere = some (.str here th) ∧ (∀ z, z ≠ x → z ≠ nFound → z ≠ nHere → m z = m₀ z) ∧ P ((cd xt).take i) ws here)
    hh F (drop1 N) ⟨D₀, [], n₀, [], here₀, t₀, rfl, hl₀, .nil, k1, k2, fun _ _ _ _ => rfl, by simpa using hp⟩ ?_ ?_
  · rintro i c t m₁ nx h tk own hc hoff ⟨D, vs, n, ws, here, th, rfl, hl, ha, e1, e2, e3, hp'⟩ F₁ N₁
    have hc' : (cd xt)[i]? = some c := by simpa [cd] using hc
    have hs : (cd xt).take (i + 1) = (cd xt).take i ++ [c] := by simp [List.take_add_one, hc']
    have e : cd xt = (cd xt).take i ++ c :: (cd xt).drop (i + 1) := by
      have ht := List.take_append_drop (i + 1) (cd xt)
      rw [hs, List.append_assoc] at ht
      exact ht.symm
    have hd : ∀ p ∈ own, p.1 ≠ D := fun p hp => hoff p hp D (.head _)
    have F₂ : Fr h₀ env.locals h (bMap x (some (.str ⟨#[c]⟩ t)) D here th m₀) := bMap_eq (v := some (.str ⟨#[c]⟩ t)) e1 e2 e3 ▸ F₁
    refine wpAny_mono (turn D vs n ws here th _ c _ t h tk own e hd hl ha hp' F₂ N₁) (fun f s₂ p => ?_) fun _ _ x => x
    have fin : BEnd h₀ env.locals { s with heap := h, toks := tk } x m₀ (P ((cd xt).take i ++ [c])) news own s₂ →
        InvEndG h₀ env.locals (fun m nx => ∃ (D : Addr) (vs : List Value) (n : Nat) (ws : List Str) (here : Str) (th : Tok), nx = (D, listOf vs.toArray n) :: news ∧ (∀ p ∈ news, p.1 < D) ∧ StrsAre vs ws ∧ m nFound = some (.ref D) ∧ m nHere = some (.str here th) ∧ (∀ z, z ≠ x → z ≠ nFound → z ≠ nHere → m z = m₀ z) ∧ P ((cd xt).take (i + 1)) ws here) own { s with heap := h, toks := tk } s₂ := by
      rintro ⟨D', vs', n', ws', here', th', h', tk', m', news', rfl, F', N', hn, ho, hd', hl', ha', j1, j2, j3, hp9⟩
      refine ⟨h', tk', m', news', _, rfl, F', N', hn, ho, ?_, D', vs', n', ws', here', th', rfl, hl', ha', j1, j2, j3, hs ▸ hp9⟩
      intro p hp b hb
      rcases List.mem_cons.mp hb with rfl | hb
      · exact hd' p hp
      · exact hoff p hp b (.tail _ hb)
    cases f with
    | ret v => exact p.elim
    | brk => exact p.elim
    | next => exact fin p
    | cont => exact fin p
  · rintro m₁ nx h tk ⟨D, vs, n, ws, here, th, rfl, hl, ha, e1, e2, e3, hp'⟩ F₁ N₁
    have hw : (cd xt).take xt.cps.size = cd xt := List.take_of_length_le (by simp [cd])
    rw [hw] at hp'
    have F₂ : Fr h₀ env.locals h (bMap x (m₁ x) D here th m₀) := by
      have e := bMap_eq (v := m₁ x) e1 e2 e3
      rw [← e]
      have e' : (fun y => if y = x then m₁ x else m₁ y) = m₁ := by funext y; by_cases h : y = x <;> simp [h]
      rw [e']; exact F₁
    have F₃ : Fr h₀ env.locals h (fun y => if y = x then (fun _ => m₁ x) y else if y = Str.ofString "found" then some (.ref D) else if y = Str.ofString "here" then some (.str here th) else m₀ y) := F₂
    exact done D vs n ws here th (fun _ => m₁ x) h tk hl ha hp' F₃ N₁
end
end Mine
end
section
namespace Mine
def isB (c : Nat) : Bool := !(Builtin.Str.occurrences (Str.ofString " \t\n") ⟨#[c]⟩ 0 (Str.ofString " \t\n").length 1).isEmpty
def bStep (st : List Str × Str) (c : Nat) : List Str × Str := if isB c = true then (if (st.2 != Str.ofString "") = true then st.1 ++ [st.2] else st.1 ++ [], Str.ofString "") else (st.1, st.2 ++ ⟨#[c]⟩)
def bRun (l : List Nat) : List Str × Str := l.foldl bStep ([], Str.ofString "")
def BInv (pre : List Nat) (ws : List Str) (here : Str) : Prop := (ws, here) = bRun pre
def LB (x : Str) : List Str := (bRun (cd (x ++ Str.ofString " "))).1
theorem bRun_snoc (l : List Nat) (c : Nat) : bRun (l ++ [c]) = bStep (bRun l) c := by unfold bRun; rw [List.foldl_append]; rfl
theorem bStart : ([] : List Str).length ≤ ([] : List Nat).length ∧ (Str.ofString "").length ≤ ([] : List Nat).length ∧ BInv [] [] (Str.ofString "") := ⟨Nat.le_refl _, by decide, rfl⟩
section
variable {pre : List Nat} {ws : List Str} {here : Str} {c : Nat}
theorem bWay1 (q1 : ws.length ≤ pre.length) (q2 : here.length ≤ pre.length) (q3 : BInv pre ws here) (a : (Builtin.Str.occurrences (Str.ofString " \t\n") ⟨#[c]⟩ 0 (Str.ofString " \t\n").length 1).isEmpty = true) :
    ws.length ≤ (pre ++ [c]).length ∧ (here ++ ⟨#[c]⟩ : Str).length ≤ (pre ++ [c]).length ∧ BInv (pre ++ [c]) ws (here ++ ⟨#[c]⟩) := by
  have e1 : (⟨#[c]⟩ : Str).length = 1 := rfl
  have e2 : (pre ++ [c]).length = pre.length + 1 := by simp
  refine ⟨by omega, by rw [Str.length_append]; omega, ?_⟩
  unfold BInv at q3 ⊢
  have hb : isB c = false := by unfold isB; rw [a]; rfl
  rw [bRun_snoc, ← q3, bStep, if_neg (by rw [hb]; exact Bool.false_ne_true)]
theorem bWay2 (q1 : ws.length ≤ pre.length) (q3 : BInv pre ws here) (a : (Builtin.Str.occurrences (Str.ofString " \t\n") ⟨#[c]⟩ 0 (Str.ofString " \t\n").length 1).isEmpty = false) (b : (here != Str.ofString "") = true) :
    (ws ++ [here]).length ≤ (pre ++ [c]).length ∧ (Str.ofString "").length ≤ (pre ++ [c]).length ∧ BInv (pre ++ [c]) (ws ++ [here]) (Str.ofString "") := by
  have e2 : (pre ++ [c]).length = pre.length + 1 := by simp
  have e3 : (ws ++ [here]).length = ws.length + 1 := by simp
  have e4 : (Str.ofString "").length = 0 := by decide
  refine ⟨by omega, by omega, ?_⟩
  unfold BInv at q3 ⊢
  have hb : isB c = true := by unfold isB; rw [a]; rfl
  rw [bRun_snoc, ← q3, bStep, if_pos hb, if_pos b]
theorem bWay3 (q1 : ws.length ≤ pre.length) (q3 : BInv pre ws here) (a : (Builtin.Str.occurrences (Str.ofString " \t\n") ⟨#[c]⟩ 0 (Str.ofString " \t\n").length 1).isEmpty = false) (b : (here != Str.ofString "") = false) :
    (ws ++ []).length ≤ (pre ++ [c]).length ∧ (Str.ofString "").length ≤ (pre ++ [c]).length ∧ BInv (pre ++ [c]) (ws ++ []) (Str.ofString "") := by
  have e2 : (pre ++ [c]).length = pre.length + 1 := by simp
  have e3 : (ws ++ []).length = ws.length := by simp
  have e4 : (Str.ofString "").length = 0 := by decide
  refine ⟨by omega, by omega, ?_⟩
  unfold BInv at q3 ⊢
  have hb : isB c = true := by unfold isB; rw [a]; rfl
  rw [bRun_snoc, ← q3, bStep, if_pos hb, if_neg (by rw [b]; exact Bool.false_ne_true)]
end
theorem blanksRet {h₀ : Heap} {L : Addr} {m : Str → Option Value} {news : Led} {s : Shared} {Q : Value → Shared → Prop} {x : Str} {ws : List Str} {here : Str} (h : ListRet h₀ L m news s Q (LB x)) {D : Addr} {vs : List Value} {n : Nat} {h' : Heap} {tk' : Nat}
    (e : BInv (cd (x ++ Str.ofString " ")) ws here) (a : StrsAre vs ws) (F : Fr h₀ L h' m) (N : News h₀ L h' ((D, listOf vs.toArray n) :: news)) (lt : ∀ p ∈ news, p.1 < D) : Q (.ref D) { s with heap := h', toks := tk' } := by
  have e' : ws = LB x := by unfold LB; rw [← e]
  subst e'
  exact h D _ n h' tk' a F N lt
theorem own_lt {A B : Prop} {D : Addr} {news own : Led} (h : A ∧ B ∧ AllLt D (news ++ own)) : ∀ p ∈ news, p.1 < D := fun p hp => ktn_ltOf h.2.2 p (List.mem_append.mpr (.inl hp))
theorem own_ne {A B : Prop} {D : Addr} {news own : Led} (h : A ∧ B ∧ AllLt D (news ++ own)) : ∀ p ∈ own, p.1 ≠ D := fun p hp => Nat.ne_of_lt (ktn_ltOf h.2.2 p (List.mem_append.mpr (.inr hp)))
theorem add_any {prog : Program} {w : World} {A : Around} {E : Value → Shared → Prop} {s : Shared} {h₀ : Heap} {L a b : Addr} {m : Str → Option Value} {news : Led} {vs us : List Value} {Q : Value → Shared → Prop}
    (F : Fr h₀ L s.heap m) (N : News h₀ L s.heap news) (ha : s.heap.IsList a vs.toArray) (hb : s.heap.IsList b us.toArray)
    (h : ∀ D h', Fr h₀ L h' m → News h₀ L h' ((D, listOf (vs ++ us).toArray 0) :: news) → (∀ p ∈ news, p.1 < D) → Q (.ref D) { s with heap := h' })
    (hz : vs.length + us.length ≤ sizeLine) : wpAny (model prog w) A (binaryOp .Add (.ref a) (.ref b)) Q E s :=
  add_lists (hsz := hz) F N ha hb fun h' F' N' => h _ h' F' N' fun p hp => Heap.lt_size (N p hp).1
theorem pre_lt {x : Str} {n : Nat} {pre post : List Nat} {c : Nat} (e : cd (x ++ Str.ofString " ") = pre ++ c :: post) (h : x.length ≤ n) : pre.length ≤ n := by
  have e' := congrArg List.length e
  rw [cd_len, Str.length_append, List.length_append, List.length_cons] at e'
  have e1 : (Str.ofString " ").length = 1 := by decide
  omega
local macro_rules | `(tactic| walk_at "binaryOp Add ref ref") => `(tactic| (k_here; (with_reducible show wpAny _ _ (binaryOp _ (Value.ref _) (Value.ref _)) _ _ _); k_dflt (refine' add_any ?w9F ?w9N ?w9a ?w9b ?_ ?w9z; (case w9F => k_asm); (case w9N => k_asm); (case w9a => kmk_list); (case w9b => kmk_list); (case w9z => (simp only [sizeLine_eq, List.length_cons, List.length_nil]; omega))); intro D' h' F' N' l1; (try k_lt l1); (try k_sweep)))
local macro_rules | `(tactic| walk_at "BPost") => `(tactic| dsimp only [BPost])
local macro_rules | `(tactic| walk_at "BEnd") => `(tactic| (
  (rename News _ _ _ _ => nE9)
  (try simp only [List.push_toArray] at nE9)
  (refine' b_end ?w9F nE9 ?w9n ?w9o ?w9d ?w9l ?w9a ?w9x ?w9y ?w9k ?w9p)
  (case w9F => assumption)
  (case w9x => with_unfolding_all rfl)
  (case w9y => with_unfolding_all rfl)
  (case w9n => kst_in)
  (case w9o => kst_in)
  (case w9d => first | assumption | exact own_ne (by assumption))
  (case w9l => first | assumption | exact own_lt (by assumption))
  (case w9a => first | assumption | exact StrsAre.append' (by assumption) (.cons _ _ .nil) | exact StrsAre.append' (by assumption) .nil)
  (case w9k => (intro z h1 h2 h3; simp [h1, h2, h3]))
  (case w9p => kst_p)))
local macro_rules | `(tactic| walk_at "exec For Name BinOp cons nil") => `(tactic| (k_here; (rename Fr _ _ _ _ => lF'); (refine' For_invVF lF' ?w9a ?w9b ?_ ?w9h ?w9E); (case w9a => exact rfl); (case w9b => exact rfl); (case w9h => (intro _; rfl)); (case w9E => with_reducible exact PySem.PassesOwn.leaving); k_whole))
set_option maxRecDepth 100000 in
set_option maxHeartbeats 8000000 in
theorem blanks_c {w : World} {mean : ExcName → Option Value} {mg mb : Str → Option Value} (x : Str) (tx : Tok) (news : Led) (hx : x.length ≤ 1000) :
    CallsTo 2 w mean mg mb 64 [.str x tx] news (fun h₀ L m s Q => ListRet h₀ L m news s Q (LB x)) := by
  unfold CallsTo
  k_with_none
  w_top off
  k_fill
  intro dp un gd cn cs a ccd cl outer A₀ base h₀ L m s Q E B F X N T hk hdp hun hret
  k_with "pyIter str" => (
    refine' blank_loop (fun pre ws here => ws.length ≤ pre.length ∧ here.length ≤ pre.length ∧ BInv pre ws here) ?w9h ?w9F ?w9N ?w9k ?w9y ?w9l ?w9p ?_ ?_
    (case w9h => rfl); (case w9F => assumption); (case w9N => assumption); (case w9k => with_unfolding_all rfl); (case w9y => with_unfolding_all rfl); (case w9l => assumption); (case w9p => kst_p)
    intro D9 vs9 n9 ws9 here9 th9 pre9 c9 post9 t9 h9 tk9 own9 e9 d9 l9 a9 p9 F9 N9
    obtain ⟨q1, q2, q3⟩ := p9
    have q5 := StrsAre.length a9
    have q6 := pre_lt e9 hx
    (try k_fold)
    rotate_left
    intro D9 vs9 n9 ws9 here9 th9 u9 h9 tk9 l9 a9 p9 F9 N9
    obtain ⟨q1, q2, q3⟩ := p9
    (try k_fold))
  k_with "state" => first
    | exact bStart
    | exact bWay1 (by assumption) (by assumption) (by assumption) (by assumption)
    | exact bWay2 (by assumption) (by assumption) (by assumption) (by assumption)
    | exact bWay3 (by assumption) (by assumption) (by assumption) (by assumption)
  refine wpAny_call ?_
  k_dflt cell_enter
  k_steps
  exact blanksRet hret (by assumption) (by assumption) (by assumption) (by assumption) (by assumption)
end Mine
end
section
namespace Mine
def okC : List Nat := [97, 98, 66, 90, 48, 57, 39, 122, 32, 95, 45, 67, 109, 9, 46, 10, 99]
def Ok (l : List Nat) : Prop := ∀ c ∈ l, c ∈ okC
theorem all_ok {f : Nat → Bool} (h : okC.all f = true) {c : Nat} (hc : c ∈ okC) : f c = true := List.all_eq_true.mp h c hc
theorem f_alnum {c : Nat} (h : c ∈ okC) : Txt.isalnum ⟨#[c]⟩ = isL c := by
  have := all_ok (f := fun c => Txt.isalnum ⟨#[c]⟩ == isL c) (by decide +kernel) h
  simpa using this
theorem f_apo {c : Nat} (h : c ∈ okC) : (Builtin.Str.occurrences (Str.ofString "'’") ⟨#[c]⟩ 0 (Str.ofString "'’").length 1).isEmpty = !isA c := by
  have := all_ok (f := fun c => (Builtin.Str.occurrences (Str.ofString "'’") ⟨#[c]⟩ 0 (Str.ofString "'’").length 1).isEmpty == !isA c) (by decide +kernel) h
  simpa using this
theorem f_space {c : Nat} (h : c ∈ okC) : Unicode.isSpace c = isB c := by
  have := all_ok (f := fun c => Unicode.isSpace c == isB c) (by decide +kernel) h
  simpa using this
theorem f_low {c : Nat} (h : c ∈ okC) : sOf c = ⟨#[lo1 c]⟩ := by
  have := all_ok (f := fun c => sOf c == ⟨#[lo1 c]⟩) (by decide +kernel) h
  simpa using this
theorem f_lowOk {c : Nat} (h : c ∈ okC) : lo1 c ∈ okC := by
  have := all_ok (f := fun c => okC.contains (lo1 c)) (by decide +kernel) h
  simpa using this
theorem f_small {c : Nat} (h : c ∈ okC) : c < 128 := by
  have := all_ok (f := fun c => decide (c < 128)) (by decide +kernel) h
  simpa using this
theorem f_LA {c : Nat} (h : isL c = true) : isA c = false := by
  cases e : isA c with
  | false => rfl
  | true =>
    have : c = 39 := by simpa [isA] using e
    subst this
    exact absurd h (by decide +kernel)
theorem f_AL {c : Nat} (h : isA c = true) : isL c = false := by
  cases e : isL c with
  | false => rfl
  | true => rw [f_LA e] at h; cases h
theorem f_LB {c : Nat} (hc : c ∈ okC) (h : isL c = true) : isB c = false := by
  have := all_ok (f := fun c => !isL c || !isB c) (by decide +kernel) hc
  simpa [h] using this
theorem f_AB {c : Nat} (h : isA c = true) : isB c = false := by
  have : c = 39 := by simpa [isA] using h
  subst this
  decide +kernel
theorem b32 : isB 32 = true := by decide +kernel
theorem b10 : isB 10 = true := by decide +kernel
theorem l32 : isL 32 = false := by decide +kernel
theorem a32 : isA 32 = false := by decide +kernel

/-- the words between blanks, over codes -/
noncomputable def bl (cur : List Nat) : List Nat → List (List Nat)
  | [] => if cur = [] then [] else [cur]
  | c :: r => if isB c = true then (if cur = [] then bl [] r else cur :: bl [] r) else bl (cur ++ [c]) r
theorem str_eq {x y : Str} (h : cd x = cd y) : x = y := Str.ext' (Array.toList_inj.mp h)
theorem cd_of (l : List Nat) : cd (ofCs l) = l := rfl
theorem of_cd (x : Str) : ofCs (cd x) = x := str_eq rfl
theorem cd_app (x y : Str) : cd (x ++ y) = cd x ++ cd y := by simp [cd, Str.cps_append]
theorem len0_iff (x : Str) : x.length = 0 ↔ cd x = [] := by rw [← cd_len]; exact List.length_eq_zero_iff
theorem cd_empty : cd Str.empty = [] := rfl
theorem ne_iff (x : Str) : (x != Str.ofString "") = !decide (cd x = []) := by
  have e : Str.ofString "" = Str.empty := by decide
  rw [e]
  by_cases h : cd x = []
  · have : x = Str.empty := str_eq h
    subst this
    decide
  · rw [decide_eq_false h]
    have : x ≠ Str.empty := fun e => h (by rw [e]; rfl)
    simp [this]

theorem words_fold : ∀ (l : List Nat), Ok l → ∀ st : KWd.St, KWd.fin (l.foldl KWd.step st) = st.1 ++ (bl (cd st.2) l).map ofCs
  | [], _, st => by
    show KWd.fin st = _
    unfold KWd.fin bl
    by_cases h : st.2.length = 0
    · rw [if_pos h, if_pos ((len0_iff _).mp h)]; simp
    · rw [if_neg h, if_neg (fun e => h ((len0_iff _).mpr e))]; simp [of_cd]
  | c :: r, h, st => by
    have hr : Ok r := fun d hd => h d (.tail _ hd)
    rw [List.foldl_cons, words_fold r hr]
    unfold KWd.step
    rw [f_space (h c (.head _))]
    rw [bl]
    by_cases hb : isB c = true
    · rw [if_pos hb, if_pos hb]
      by_cases h0 : st.2.length = 0
      · have e0 := (len0_iff _).mp h0
        rw [if_pos h0, if_pos e0, e0]
      · rw [if_neg h0, if_neg (fun e => h0 ((len0_iff _).mpr e))]
        simp [of_cd, cd_empty]
    · rw [if_neg hb, if_neg hb, cd_app]
theorem words_bl {x : Str} (h : Ok (cd x)) : Txt.words x = (bl [] (cd x)).map ofCs := by
  rw [KWd.words_scan, KWd.scan, words_fold _ h]
  rfl
theorem blanks_fold : ∀ (l : List Nat) (st : List Str × Str), ((l ++ [32]).foldl bStep st).1 = st.1 ++ (bl (cd st.2) l).map ofCs
  | [], st => by
    show (bStep st 32).1 = _
    unfold bStep bl
    rw [if_pos b32, ne_iff]
    by_cases h : cd st.2 = []
    · simp [h]
    · simp [h, of_cd]
  | c :: r, st => by
    rw [List.cons_append, List.foldl_cons, blanks_fold r, bl]
    unfold bStep
    by_cases hb : isB c = true
    · rw [if_pos hb, if_pos hb, ne_iff]
      by_cases h : cd st.2 = []
      · simp [h]; rfl
      · simp [h, of_cd]; rfl
    · rw [if_neg hb, if_neg hb, cd_app]
theorem LB_bl (x : Str) : LB x = (bl [] (cd x)).map ofCs := by
  unfold LB bRun
  rw [cd_app]
  have e : cd (Str.ofString " ") = [32] := by decide
  rw [e, blanks_fold]
  rfl
/-- by blanks: parse_words answers as _law_by_blanks -/
theorem law_blanks {x : Str} (h : Ok (cd x)) : Txt.words x = LB x := by rw [words_bl h, LB_bl]

/-- plain_words' walk, over codes: the part, the word at hand -/
noncomputable def mach (p : Int) (cur : List Nat) : List Nat → List (List Nat)
  | [] => if cur = [] then [] else [cur]
  | c :: r => if pOf p c = 0 then (if cur = [] then mach 0 [] r else cur :: mach 0 [] r) else mach (pOf p c) (cur ++ [c]) r
theorem pOf_eq {p : Int} {c : Nat} (h : c ∈ okC) : pOf p c = if isL c = true then (if 1 < p then 3 else 1) else if isA c = true then (if 0 < p ∧ p < 3 then 2 else 0) else 0 := by
  unfold pOf
  rw [f_alnum h, f_apo h]
  cases isA c <;> simp
theorem pOf_blank {p : Int} {c : Nat} (hc : c ∈ okC) (h : pOf p c ≠ 0) : isB c = false := by
  rw [pOf_eq hc] at h
  by_cases hl : isL c = true
  · exact f_LB hc hl
  · rw [if_neg hl] at h
    by_cases ha : isA c = true
    · exact f_AB ha
    · rw [if_neg ha] at h
      exact absurd rfl h
theorem pOf_range {p : Int} {c : Nat} (hc : c ∈ okC) : 0 ≤ pOf p c := by
  rw [pOf_eq hc]
  repeat' split
  all_goals decide
theorem mach_fold : ∀ (l : List Nat), Ok l → ∀ (r : Str) (p : Int), (p = 0 → cd (KWd.scan r).2 = []) →
    KWd.fin (KWd.scan (l.foldl pStep (r, p)).1) = (KWd.scan r).1 ++ (mach p (cd (KWd.scan r).2) l).map ofCs
  | [], _, r, p, _ => by
    show KWd.fin (KWd.scan r) = _
    unfold KWd.fin mach
    by_cases h : (KWd.scan r).2.length = 0
    · rw [if_pos h, if_pos ((len0_iff _).mp h)]; simp
    · rw [if_neg h, if_neg (fun e => h ((len0_iff _).mpr e))]; simp [of_cd]
  | c :: l, h, r, p, hp => by
    have hl : Ok l := fun d hd => h d (.tail _ hd)
    have hc := h c (.head _)
    have e32 : Str.ofString " " = ⟨#[32]⟩ := by decide
    rw [List.foldl_cons]
    unfold mach
    by_cases h0 : pOf p c = 0
    · have e : pStep (r, p) c = (r ++ ⟨#[32]⟩, 0) := by
        unfold pStep
        simp only
        rw [if_pos h0, h0, e32]
      rw [e, if_pos h0]
      have s32 : Unicode.isSpace 32 = true := by decide +kernel
      by_cases hz : (KWd.scan r).2.length = 0
      · have hs : KWd.scan (r ++ ⟨#[32]⟩) = ((KWd.scan r).1, (KWd.scan r).2) := KWd.scan_blank0 rfl s32 hz
        have ez := (len0_iff _).mp hz
        rw [mach_fold l hl (r ++ ⟨#[32]⟩) 0 (fun _ => by rw [hs]; exact ez), hs, if_pos ez, ez]
      · have hs : KWd.scan (r ++ ⟨#[32]⟩) = ((KWd.scan r).1 ++ [(KWd.scan r).2], Str.empty) := KWd.scan_blank rfl s32 hz
        rw [mach_fold l hl (r ++ ⟨#[32]⟩) 0 (fun _ => by rw [hs]; rfl), hs, if_neg (fun e => hz ((len0_iff _).mpr e))]
        simp [of_cd, cd_empty]
    · have e : pStep (r, p) c = (r ++ ⟨#[c]⟩, pOf p c) := by
        unfold pStep
        simp only
        rw [if_neg h0]
      rw [e, if_neg h0]
      have sc : Unicode.isSpace c = false := by rw [f_space hc]; exact pOf_blank hc h0
      have hs : KWd.scan (r ++ ⟨#[c]⟩) = ((KWd.scan r).1, (KWd.scan r).2 ++ ⟨#[c]⟩) := KWd.scan_sign rfl sc
      rw [mach_fold l hl (r ++ ⟨#[c]⟩) (pOf p c) (fun e => absurd e h0), hs, cd_app]
theorem codes_nat (x : Str) : (KStt.codes x).map Int.toNat = cd x := by
  unfold KStt.codes
  rw [List.map_map]
  exact (List.map_congr_left (g := _root_.id) fun c _ => Int.toNat_natCast c).trans (List.map_id _)
theorem words_mach {x : Str} (h : Ok (cd x)) : Txt.words (pRun (KStt.codes x)).1 = (mach 0 [] (cd x)).map ofCs := by
  have e : Str.ofString "" = Str.empty := by decide
  rw [KWd.words_scan, pRun, codes_nat, mach_fold _ h _ _ (fun _ => by rw [e]; rfl), e]
  rfl
theorem mach_letters : ∀ (s r : List Nat), Ok (s ++ r) → (∀ c ∈ s, isL c = true) → ∀ (p : Int) (cur : List Nat), mach p cur (s ++ r) = mach (if s = [] then p else if 1 < p then 3 else 1) (cur ++ s) r
  | [], r, _, _, p, cur => by simp
  | c :: s, r, h, hs, p, cur => by
    have hc := h c (.head _)
    have hl := hs c (.head _)
    have e : pOf p c = if 1 < p then 3 else 1 := by rw [pOf_eq hc, if_pos hl]
    have ne : pOf p c ≠ 0 := by rw [e]; split <;> decide
    rw [List.cons_append, mach, if_neg ne, mach_letters s r (fun d hd => h d (.tail _ hd)) (fun d hd => hs d (.tail _ hd)), e]
    rw [List.append_assoc]
    congr 1
    by_cases h1 : 1 < p
    · simp [h1]
    · simp [h1]
theorem mach_apos : ∀ (s r : List Nat), Ok (s ++ r) → (∀ c ∈ s, isA c = true) → ∀ (p : Int) (cur : List Nat), 0 < p → p < 3 → mach p cur (s ++ r) = mach (if s = [] then p else 2) (cur ++ s) r
  | [], r, _, _, p, cur, _, _ => by simp
  | c :: s, r, h, hs, p, cur, h0, h3 => by
    have hc := h c (.head _)
    have ha := hs c (.head _)
    have e : pOf p c = 2 := by rw [pOf_eq hc, if_neg (by rw [f_AL ha]; exact Bool.false_ne_true), if_pos ha, if_pos ⟨h0, h3⟩]
    have ne : pOf p c ≠ 0 := by rw [e]; decide
    rw [List.cons_append, mach, if_neg ne, mach_apos s r (fun d hd => h d (.tail _ hd)) (fun d hd => hs d (.tail _ hd)) _ _ (by rw [e]; decide) (by rw [e]; decide), e]
    rw [List.append_assoc]
    congr 1
    by_cases h1 : s = [] <;> simp [h1]
theorem mach_stop {p : Int} {cur r : List Nat} (h : Ok r) (hn : cur ≠ []) (hs : ∀ c r', r = c :: r' → pOf p c = 0 ∧ isL c = false) (ih : ∀ r' : List Nat, r'.length < r.length → Ok r' → mach 0 [] r' = lw r') : mach p cur r = cur :: lw r := by
  cases r with
  | nil => rw [mach, if_neg hn, lw]
  | cons c r' =>
    obtain ⟨h0, h1⟩ := hs c r' rfl
    rw [mach, if_pos h0, if_neg hn, lw_skip h1, ih r' (Nat.lt_succ_self _) fun d hd => h d (.tail _ hd)]
theorem take_drop (q : Nat → Bool) (l : List Nat) : l = l.takeWhile q ++ l.dropWhile q := (List.takeWhile_append_dropWhile).symm
theorem tw_all (q : Nat → Bool) (l : List Nat) : ∀ c ∈ l.takeWhile q, q c = true := fun c hc => by
  induction l with
  | nil => cases hc
  | cons d r ih =>
    rw [List.takeWhile_cons] at hc
    split at hc
    · rename_i hd
      rcases List.mem_cons.mp hc with rfl | hc
      · exact hd
      · exact ih hc
    · cases hc
theorem dw_stops (q : Nat → Bool) (l : List Nat) : Stops q (l.dropWhile q) := fun c r' e => by
  induction l with
  | nil => cases e
  | cons d r ih =>
    rw [List.dropWhile_cons] at e
    split at e
    · exact ih e
    · rename_i hd
      cases e
      simpa using hd
theorem mach_lw : ∀ (n : Nat) (l : List Nat), l.length ≤ n → Ok l → mach 0 [] l = lw l
  | _, [], _, _ => by rw [mach, lw]; rfl
  | 0, _ :: _, h, _ => absurd h (by simp)
  | n + 1, c :: r, hn, h => by
    have hc := h c (.head _)
    have hr : Ok r := fun d hd => h d (.tail _ hd)
    have hrn : r.length ≤ n := Nat.le_of_succ_le_succ hn
    have ih : ∀ r' : List Nat, r'.length ≤ n → Ok r' → mach 0 [] r' = lw r' := fun r' h1 h2 => mach_lw n r' h1 h2
    by_cases hl : isL c = true
    · -- a word
      generalize e1 : (c :: r).takeWhile isL = s1
      generalize f1 : (c :: r).dropWhile isL = r1
      generalize e2 : r1.takeWhile isA = s2
      generalize f2 : r1.dropWhile isA = r2
      have d1 : c :: r = s1 ++ r1 := by rw [← e1, ← f1]; exact take_drop _ _
      have d2 : r1 = s2 ++ r2 := by rw [← e2, ← f2]; exact take_drop _ _
      have a1 : ∀ d ∈ s1, isL d = true := e1 ▸ tw_all _ _
      have a2 : ∀ d ∈ s2, isA d = true := e2 ▸ tw_all _ _
      have t1 : Stops isL r1 := f1 ▸ dw_stops _ _
      have t2 : Stops isA r2 := f2 ▸ dw_stops _ _
      have n1 : s1 ≠ [] := by rw [← e1, List.takeWhile_cons, if_pos hl]; simp
      have h' : Ok (s1 ++ r1) := d1 ▸ h
      have h1 : Ok r1 := fun d hd => h' d (List.mem_append.mpr (.inr hd))
      have h1' : Ok (s2 ++ r2) := d2 ▸ h1
      have h2 : Ok r2 := fun d hd => h1' d (List.mem_append.mpr (.inr hd))
      have len1 : r1.length ≤ n := by
        have e := congrArg List.length d1
        have : s1.length ≠ 0 := fun h0 => n1 (List.eq_nil_of_length_eq_zero h0)
        simp only [List.length_cons, List.length_append] at e
        omega
      have len2 : r2.length ≤ n := by
        have e := congrArg List.length d2
        simp only [List.length_append] at e
        omega
      rw [d1, mach_letters s1 r1 h' a1, if_neg n1, if_neg (by decide)]
      by_cases z2 : s2 = []
      · -- no apostrophe
        have hw := lw_word (s3 := []) a1 n1 t1 d2 a2 t2 rfl (fun _ h => absurd h List.not_mem_nil) (fun _ => rfl) (fun h => absurd z2 h)
        have er : r1 = r2 := by rw [d2, z2]; rfl
        rw [hw, z2, List.append_nil, List.append_nil, List.nil_append, ← er]
        refine mach_stop h1 (by simpa using n1) (fun d r' e => ?_) fun r' hlt hok => ih r' (by omega) hok
        have hd : d ∈ okC := h1 d (by rw [e]; exact .head _)
        have nl := t1 d r' e
        have na : isA d = false := t2 d r' (er ▸ e)
        refine ⟨?_, nl⟩
        rw [pOf_eq hd, if_neg (by rw [nl]; exact Bool.false_ne_true), if_neg (by rw [na]; exact Bool.false_ne_true)]
      · generalize e3 : r2.takeWhile isL = s3
        generalize f3 : r2.dropWhile isL = r3
        have d3 : r2 = s3 ++ r3 := by rw [← e3, ← f3]; exact take_drop _ _
        have a3 : ∀ d ∈ s3, isL d = true := e3 ▸ tw_all _ _
        have t3 : Stops isL r3 := f3 ▸ dw_stops _ _
        have h2' : Ok (s3 ++ r3) := d3 ▸ h2
        have h3 : Ok r3 := fun d hd => h2' d (List.mem_append.mpr (.inr hd))
        have len3 : r3.length ≤ n := by
          have e := congrArg List.length d3
          simp only [List.length_append] at e
          omega
        have hw := lw_word a1 n1 t1 d2 a2 t2 d3 a3 (fun h => absurd h z2) (fun _ => t3)
        rw [hw, d2, mach_apos s2 r2 h1' a2 _ _ (by decide) (by decide), if_neg z2, d3, mach_letters s3 r3 h2' a3]
        refine mach_stop h3 (by simp [n1]) (fun d r' e => ?_) fun r' hlt hok => ih r' (by omega) hok
        have hd : d ∈ okC := h3 d (by rw [e]; exact .head _)
        have nl := t3 d r' e
        refine ⟨?_, nl⟩
        rw [pOf_eq hd, if_neg (by rw [nl]; exact Bool.false_ne_true)]
        by_cases z3 : s3 = []
        · have na : isA d = false := t2 d r' (by rw [d3, z3]; exact e)
          rw [if_neg (by rw [na]; exact Bool.false_ne_true)]
        · rw [if_neg z3]
          cases isA d <;> simp
    · have hl' : isL c = false := by simpa using hl
      have e : pOf 0 c = 0 := by
        rw [pOf_eq hc, if_neg hl]
        by_cases ha : isA c = true
        · rw [if_pos ha, if_neg (by decide)]
        · rw [if_neg ha]
      rw [mach, if_pos e, if_pos rfl, lw_skip hl', ih r hrn hr]
/-- plain_words answers as _law_words -/
theorem law_words {x : Str} (h : Ok (cd x)) : Txt.words (pRun (KStt.codes x)).1 = LW x := by
  rw [words_mach h, mach_lw _ _ (Nat.le_refl _) h]
  rfl

/-- small letters -/
theorem sRun_cd : ∀ (l : List Nat), Ok l → ∀ f : Str, cd (l.foldl (fun f c => f ++ sOf c) f) = cd f ++ l.map lo1
  | [], _, f => by simp
  | c :: r, h, f => by
    rw [List.foldl_cons, sRun_cd r (fun d hd => h d (.tail _ hd)), cd_app, f_low (h c (.head _))]
    simp [cd]
theorem small_low {x y : Str} (h : Ok (cd x)) (hy : SInv (KStt.codes x) y) : y = Txt.lower x := by
  rw [lower_ascii fun c hc => f_small (h c hc)]
  refine str_eq ?_
  have e := hy.2
  rw [e, sRun, codes_nat, sRun_cd _ h]
  have z : cd (Str.ofString "") = [] := by decide
  rw [z]
  simp [cd]
theorem low_ok {x : Str} (h : Ok (cd x)) : Ok (cd (Txt.lower x)) := by
  rw [lower_ascii fun c hc => f_small (h c hc)]
  intro d hd
  have hd' : d ∈ (cd x).map lo1 := by simpa [cd] using hd
  obtain ⟨c, hc, rfl⟩ := List.mem_map.mp hd'
  exact f_lowOk (h c hc)
theorem low_len {x : Str} (h : Ok (cd x)) : (Txt.lower x).length = x.length := by
  rw [lower_ascii fun c hc => f_small (h c hc)]
  simp [Str.length]
theorem good_ok {x : Str} (h : Good x) : Ok (cd x) := fun c hc => by
  have h1 := h c hc
  have all : okCodes.all (fun c => okC.contains c) = true := by decide
  simpa using List.all_eq_true.mp all c h1

/-- a word as it stands alone -/
def IsW (v : List Nat) : Prop := ∃ s1 s2 s3 : List Nat, v = s1 ++ s2 ++ s3 ∧ s1 ≠ [] ∧ (∀ c ∈ s1, isL c = true) ∧ (∀ c ∈ s2, isA c = true) ∧ (∀ c ∈ s3, isL c = true) ∧ (s2 = [] → s3 = [])
theorem lw_isW : ∀ (n : Nat) (l : List Nat), l.length ≤ n → ∀ v ∈ lw l, IsW v ∧ (∀ c ∈ v, c ∈ l)
  | _, [], _, v, hv => by rw [lw] at hv; cases hv
  | 0, _ :: _, h, _, _ => absurd h (by simp)
  | n + 1, c :: r, hn, v, hv => by
    have hrn : r.length ≤ n := Nat.le_of_succ_le_succ hn
    by_cases hl : isL c = true
    · generalize e1 : (c :: r).takeWhile isL = s1
      generalize f1 : (c :: r).dropWhile isL = r1
      generalize e2 : r1.takeWhile isA = s2
      generalize f2 : r1.dropWhile isA = r2
      have d1 : c :: r = s1 ++ r1 := by rw [← e1, ← f1]; exact take_drop _ _
      have d2 : r1 = s2 ++ r2 := by rw [← e2, ← f2]; exact take_drop _ _
      have a1 : ∀ d ∈ s1, isL d = true := e1 ▸ tw_all _ _
      have a2 : ∀ d ∈ s2, isA d = true := e2 ▸ tw_all _ _
      have t1 : Stops isL r1 := f1 ▸ dw_stops _ _
      have t2 : Stops isA r2 := f2 ▸ dw_stops _ _
      have n1 : s1 ≠ [] := by rw [← e1, List.takeWhile_cons, if_pos hl]; simp
      have len1 : r1.length ≤ n := by
        have e := congrArg List.length d1
        have : s1.length ≠ 0 := fun h0 => n1 (List.eq_nil_of_length_eq_zero h0)
        simp only [List.length_cons, List.length_append] at e
        omega
      have len2 : r2.length ≤ n := by
        have e := congrArg List.length d2
        simp only [List.length_append] at e
        omega
      rw [d1] at hv ⊢
      by_cases z2 : s2 = []
      · have hw := lw_word (s3 := []) a1 n1 t1 d2 a2 t2 rfl (fun _ h => absurd h List.not_mem_nil) (fun _ => rfl) (fun h => absurd z2 h)
        rw [hw] at hv
        rcases List.mem_cons.mp hv with rfl | hv
        · refine ⟨⟨s1, s2, [], rfl, n1, a1, a2, fun _ h => absurd h List.not_mem_nil, fun _ => rfl⟩, fun d hd => ?_⟩
          rw [z2] at hd
          simp only [List.append_nil] at hd
          exact List.mem_append.mpr (.inl hd)
        · obtain ⟨h1, h2⟩ := lw_isW n r2 len2 v hv
          exact ⟨h1, fun d hd => List.mem_append.mpr (.inr (d2 ▸ List.mem_append.mpr (.inr (h2 d hd))))⟩
      · generalize e3 : r2.takeWhile isL = s3
        generalize f3 : r2.dropWhile isL = r3
        have d3 : r2 = s3 ++ r3 := by rw [← e3, ← f3]; exact take_drop _ _
        have a3 : ∀ d ∈ s3, isL d = true := e3 ▸ tw_all _ _
        have t3 : Stops isL r3 := f3 ▸ dw_stops _ _
        have len3 : r3.length ≤ n := by
          have e := congrArg List.length d3
          simp only [List.length_append] at e
          omega
        have hw := lw_word a1 n1 t1 d2 a2 t2 d3 a3 (fun h => absurd h z2) (fun _ => t3)
        rw [hw] at hv
        rcases List.mem_cons.mp hv with rfl | hv
        · refine ⟨⟨s1, s2, s3, rfl, n1, a1, a2, a3, fun h => absurd h z2⟩, fun d hd => ?_⟩
          rw [d2, d3]
          simp only [List.mem_append] at hd ⊢
          rcases hd with (hd | hd) | hd
          · exact .inl hd
          · exact .inr (.inl hd)
          · exact .inr (.inr (.inl hd))
        · obtain ⟨h1, h2⟩ := lw_isW n r3 len3 v hv
          refine ⟨h1, fun d hd => ?_⟩
          rw [d2, d3]
          simp only [List.mem_append]
          exact .inr (.inr (.inr (h2 d hd)))
    · have hl' : isL c = false := by simpa using hl
      rw [lw_skip hl'] at hv
      obtain ⟨h1, h2⟩ := lw_isW n r hrn v hv
      exact ⟨h1, fun d hd => .tail _ (h2 d hd)⟩
theorem lw_front {v r : List Nat} (h : IsW v) (h1 : Stops isL r) (h2 : Stops isA r) : lw (v ++ r) = v :: lw r := by
  obtain ⟨s1, s2, s3, rfl, n1, a1, a2, a3, n3⟩ := h
  have e : s1 ++ s2 ++ s3 ++ r = s1 ++ (s2 ++ (s3 ++ r)) := by simp
  rw [e]
  refine lw_word a1 n1 ?_ rfl a2 ?_ rfl a3 n3 (fun _ => h1)
  · intro c r' ec
    cases s2 with
    | nil => rw [n3 rfl] at ec; exact h1 c r' ec
    | cons d s => cases ec; exact f_AL (a2 _ (.head _))
  · intro c r' ec
    cases s3 with
    | nil => exact h2 c r' ec
    | cons d s => cases ec; exact f_LA (a3 _ (.head _))
/-- the words with a sign between -/
noncomputable def sewn (b : Nat) : List (List Nat) → List Nat
  | [] => []
  | [v] => v
  | v :: u :: r => v ++ b :: sewn b (u :: r)
theorem lw_sewn {b : Nat} (h1 : isL b = false) (h2 : isA b = false) : ∀ ws : List (List Nat), (∀ v ∈ ws, IsW v) → lw (sewn b ws) = ws
  | [], _ => by rw [sewn, lw]
  | [v], h => by
    have := lw_front (r := []) (h v (.head _)) (fun _ _ e => by cases e) (fun _ _ e => by cases e)
    rw [List.append_nil, lw] at this
    exact this
  | v :: u :: r, h => by
    have e : sewn b (v :: u :: r) = v ++ b :: sewn b (u :: r) := rfl
    rw [e, lw_front (h v (.head _)) (fun _ _ e => by cases e; exact h1) (fun _ _ e => by cases e; exact h2), lw_skip h1, lw_sewn h1 h2 (u :: r) fun w hw => h w (.tail _ hw)]
theorem bl_front : ∀ (v r cur : List Nat), (∀ c ∈ v, isB c = false) → bl cur (v ++ r) = bl (cur ++ v) r
  | [], r, cur, _ => by simp
  | c :: v, r, cur, h => by
    rw [List.cons_append, bl, if_neg (by rw [h c (.head _)]; exact Bool.false_ne_true), bl_front v r _ (fun d hd => h d (.tail _ hd)), List.append_assoc]
    rfl
theorem bl_sewn {b : Nat} (hb : isB b = true) : ∀ ws : List (List Nat), (∀ v ∈ ws, v ≠ [] ∧ ∀ c ∈ v, isB c = false) → bl [] (sewn b ws) = ws
  | [], _ => rfl
  | [v], h => by
    have := bl_front v [] [] (h v (.head _)).2
    rw [List.append_nil] at this
    show bl [] v = [v]
    rw [this, List.nil_append, bl, if_neg (h v (.head _)).1]
  | v :: u :: r, h => by
    have e : sewn b (v :: u :: r) = v ++ b :: sewn b (u :: r) := rfl
    rw [e, bl_front v _ _ (h v (.head _)).2, List.nil_append, bl, if_pos hb, if_neg (h v (.head _)).1, bl_sewn hb (u :: r) fun w hw => h w (.tail _ hw)]
theorem IsW.ne {v : List Nat} (h : IsW v) : v ≠ [] := by
  obtain ⟨s1, s2, s3, rfl, n1, _⟩ := h
  simp [n1]
theorem IsW.noB {v : List Nat} (h : IsW v) (ok : Ok v) : ∀ c ∈ v, isB c = false := by
  obtain ⟨s1, s2, s3, rfl, n1, a1, a2, a3, _⟩ := h
  intro c hc
  have hk := ok c hc
  simp only [List.mem_append] at hc
  rcases hc with (hc | hc) | hc
  · exact f_LB hk (a1 c hc)
  · exact f_AB (a2 c hc)
  · exact f_LB hk (a3 c hc)
theorem cd_join (b : Nat) (ws : List (List Nat)) : cd (Txt.join ⟨#[b]⟩ (ws.map ofCs)) = sewn b ws := by
    show cd (Builtin.Str.glued _ _) = _
    rw [StrLaws.glued_eq_join]
    induction ws with
    | nil => rfl
    | cons v r ih =>
      cases r with
      | nil => rfl
      | cons u r =>
        have e : Str.join ⟨#[b]⟩ ((v :: u :: r).map ofCs) = ofCs v ++ ⟨#[b]⟩ ++ Str.join ⟨#[b]⟩ ((u :: r).map ofCs) := rfl
        rw [e, cd_app, cd_app, ih]
        show v ++ [b] ++ sewn b (u :: r) = v ++ b :: sewn b (u :: r)
        simp
theorem sewn_ok {b : Nat} (hb : b ∈ okC) : ∀ ws : List (List Nat), (∀ v ∈ ws, Ok v) → Ok (sewn b ws)
  | [], _ => fun _ h => absurd h List.not_mem_nil
  | [v], h => h v (.head _)
  | v :: u :: r, h => by
    intro c hc
    have e : sewn b (v :: u :: r) = v ++ b :: sewn b (u :: r) := rfl
    rw [e] at hc
    rcases List.mem_append.mp hc with hc | hc
    · exact h v (.head _) c hc
    · rcases List.mem_cons.mp hc with rfl | hc
      · exact hb
      · exact sewn_ok hb (u :: r) (fun w hw => h w (.tail _ hw)) c hc
theorem lw_ok {l : List Nat} (h : Ok l) : ∀ v ∈ lw l, Ok v := fun v hv c hc => h c ((lw_isW _ l (Nat.le_refl _) v hv).2 c hc)
theorem lw_w (l : List Nat) : ∀ v ∈ lw l, IsW v := fun v hv => (lw_isW _ l (Nat.le_refl _) v hv).1
theorem join_ok {x : Str} (h : Ok (cd x)) {b : Nat} (hb : b ∈ okC) : Ok (cd (Txt.join ⟨#[b]⟩ (LW x))) := by
  unfold LW
  rw [cd_join]
  exact sewn_ok hb _ (lw_ok h)
theorem law_again {x : Str} (h : Ok (cd x)) : Txt.words (pRun (KStt.codes (Txt.join (Str.ofString " ") (LW x)))).1 = LW x := by
  have e : Str.ofString " " = ⟨#[32]⟩ := by decide
  rw [e, law_words (join_ok h (by decide))]
  show (lw (cd (Txt.join ⟨#[32]⟩ ((lw (cd x)).map ofCs)))).map ofCs = (lw (cd x)).map ofCs
  rw [cd_join, lw_sewn l32 a32 _ (lw_w _)]
theorem law_lines {x : Str} (h : Ok (cd x)) : Txt.words (Txt.join (Str.ofString "\n") (LW x)) = LW x := by
  have e : Str.ofString "\n" = ⟨#[10]⟩ := by decide
  rw [e, words_bl (join_ok h (by decide))]
  show (bl [] (cd (Txt.join ⟨#[10]⟩ ((lw (cd x)).map ofCs)))).map ofCs = (lw (cd x)).map ofCs
  rw [cd_join, bl_sewn b10 _ fun v hv => ⟨(lw_w _ v hv).ne, (lw_w _ v hv).noB (lw_ok h v hv)⟩]
end Mine
end
section
open PySem PySem.W PyProof.Rows PySem.Calls PySem.SeqAt
namespace Mine
theorem canLay_strs : ∀ ws : List Str, (∀ x ∈ ws, PyData.strOk x = true) → PyData.canLayAll0 (ws.map PyData.str) = true
  | [], _ => by simp [PyData.canLayAll0]
  | x :: r, h => by simp [PyData.canLayAll0, PyData.canLay0, h x (.head _), canLay_strs r fun y hy => h y (.tail _ hy)]
theorem depth_strs : ∀ ws : List Str, PyData.depthAll (ws.map PyData.str) = 0
  | [] => rfl
  | _ :: r => by simp [PyData.depthAll, PyData.depth, depth_strs r]
theorem shaped_strs {ws : List Str} (h : ∀ x ∈ ws, PyData.strOk x = true) : SeqAt.shaped (.list (ws.map PyData.str)) = true := by
  simp [SeqAt.shaped, PyData.canLay0, PyData.depth, canLay_strs ws h, depth_strs]
theorem same_strs : ∀ ws : List Str, PySem.Spec.sameAll (ws.map PyData.str) (ws.map PyData.str) = true
  | [] => by simp [PySem.Spec.sameAll]
  | x :: r => by
    simp only [List.map_cons, PySem.Spec.sameAll, PySem.Spec.same, same_strs r]
    simp
theorem carried_strs : ∀ {vs : List Value} {ws : List Str}, StrsAre vs ws → CarriedAll vs (ws.map PyData.str)
  | _, _, .nil => .nil
  | _, _, .cons _ t r => .cons (.str _ t) (carried_strs r)
section
variable {prog : Program} {w : World} {A : Around} {E : Value → Shared → Prop} {s : Shared} {a b : Addr} {xs ys : List Value} {us ws : List Str} {Q : Value → Shared → Prop} {h₀ : Heap} {L : Addr} {m : Str → Option Value} {news : Led} {n n' : Nat}
theorem eq_texts (hF : Fr h₀ L s.heap m) (N : News h₀ L s.heap news) (ma : (a, listOf xs.toArray n) ∈ news) (mb : (b, listOf ys.toArray n') ∈ news) (hi : StrsAre xs us) (hj : StrsAre ys ws) (e : us = ws) (hok : ∀ x ∈ ws, PyData.strOk x = true) (hu : A.units + 64 < cLine) (h : Q (.bool true) s) :
    wpAny (model prog w) A (compareOp .Eq (.ref a) (.ref b)) Q E s := by
  subst e
  have ha := News.isList N ma
  have hb := News.isList N mb
  refine eq_dataH_same (reads_newData ha (carried_strs hi)) (reads_newData hb (carried_strs hj)) (shaped_strs hok) (shaped_strs hok) hu (SeqAt.noMix_of_shape (.list .str) rfl _ _ (list_map_has fun _ => rfl) (list_map_has fun _ => rfl)) ?_
  have e9 : PySem.Spec.same (.list (us.map PyData.str)) (.list (us.map PyData.str)) = true := by simp only [PySem.Spec.same]; exact same_strs us
  rw [e9]; exact h
theorem ne_texts (hF : Fr h₀ L s.heap m) (N : News h₀ L s.heap news) (ma : (a, listOf xs.toArray n) ∈ news) (mb : (b, listOf ys.toArray n') ∈ news) (hi : StrsAre xs us) (hj : StrsAre ys ws) (e : us = ws) (hok : ∀ x ∈ ws, PyData.strOk x = true) (hu : A.units + 64 < cLine) (h : Q (.bool false) s) :
    wpAny (model prog w) A (compareOp .NotEq (.ref a) (.ref b)) Q E s := by
  subst e
  have ha := News.isList N ma
  have hb := News.isList N mb
  refine ne_dataH_same (reads_newData ha (carried_strs hi)) (reads_newData hb (carried_strs hj)) (shaped_strs hok) (shaped_strs hok) hu (SeqAt.noMix_of_shape (.list .str) rfl _ _ (list_map_has fun _ => rfl) (list_map_has fun _ => rfl)) ?_
  have e9 : PySem.Spec.same (.list (us.map PyData.str)) (.list (us.map PyData.str)) = true := by simp only [PySem.Spec.same]; exact same_strs us
  rw [e9]; exact h
theorem values_of : ∀ {vs : List Value} {ws : List Str}, StrsAre vs ws → ∃ l : List (Str × Tok), vs = strValues l ∧ l.map (·.1) = ws
  | _, _, .nil => ⟨[], rfl, rfl⟩
  | _, _, .cons x t r => by
    obtain ⟨l, e1, e2⟩ := values_of r
    exact ⟨(x, t) :: l, by rw [e1]; rfl, by rw [← e2]; rfl⟩
theorem join_texts {x : Str} {t : Tok} (hF : Fr h₀ L s.heap m) (N : News h₀ L s.heap news) (ma : (a, listOf xs.toArray n) ∈ news) (hi : StrsAre xs us) (hok : JoinOk x us = true) (h : ∀ (j : Str) t' k, j = Txt.join x us → Q (.str j t') { s with toks := k }) :
    wpAny (model prog w) A (call (.builtin "str.join") [.str x t, .ref a]) Q E s := by
  obtain ⟨l, e1, e2⟩ := values_of hi
  subst e1
  exact SC.join (News.isList N ma) e2 hok fun t' k => h _ t' k rfl
end
theorem low_call {prog : Program} {w : World} {A : Around} {E : Value → Shared → Prop} {s : Shared} {x : Str} {t : Tok} {Q : Value → Shared → Prop} (hx : x.length ≤ 22) (h : ∀ t' k, Q (.str (Txt.lower x) t') { s with toks := k }) :
    wpAny (model prog w) A (call (.builtin "str.lower") [.str x t]) Q E s := SC.lower (fit_lower (by omega)) (h _ _)
/-- what every text of the law's is -/
structure Fine (x : Str) : Prop where
  len : x.length ≤ 1000
  ok : Ok (cd x)
structure Fine22 (x : Str) : Prop where
  len : x.length ≤ 22
  ok : Ok (cd x)
theorem fine22 {x : Str} (h : TOk x) : Fine22 x := ⟨h.1, good_ok h.2⟩
theorem Fine22.fine {x : Str} (h : Fine22 x) : Fine x := ⟨Nat.le_trans h.len (by decide), h.ok⟩
theorem Fine22.low {x : Str} (h : Fine22 x) : Fine (Txt.lower x) := ⟨by rw [low_len h.ok]; exact h.fine.len, low_ok h.ok⟩
theorem pRun_len (l : List Nat) (f : Str) (p : Int) : (l.foldl pStep (f, p)).1.length = f.length + l.length := by
  induction l generalizing f p with
  | nil => rfl
  | cons c r ih =>
    rw [List.foldl_cons]
    have e : pStep (f, p) c = (f ++ (if pOf p c = 0 then Str.ofString " " else ⟨#[c]⟩), pOf p c) := rfl
    rw [e, ih, Str.length_append, List.length_cons]
    have : (if pOf p c = 0 then Str.ofString " " else (⟨#[c]⟩ : Str)).length = 1 := by split <;> rfl
    omega
theorem LW_words {x : Str} (h : Fine22 x) : ∃ y : Str, LW x = Txt.words y ∧ y.length ≤ 22 := by
  refine ⟨(pRun (KStt.codes x)).1, (law_words h.ok).symm, ?_⟩
  unfold pRun
  rw [codes_nat, pRun_len, cd_len]
  have e : (Str.ofString "").length = 0 := by decide
  have := h.len
  omega
theorem join_len {x sep : Str} (h : Fine22 x) (hs : sep.length ≤ 4) : (Txt.join sep (LW x)).length ≤ 1000 ∧ JoinOk sep (LW x) = true := by
  obtain ⟨y, e, hy⟩ := LW_words h
  rw [e]
  exact ⟨by have := len_join_le (sep := sep) (StrLaws.words_weight y) hs; omega, joinOk_of_words rfl (by omega) (by omega)⟩
theorem Fine22.again {x : Str} (h : Fine22 x) : Fine (Txt.join (Str.ofString " ") (LW x)) := ⟨(join_len h (by decide)).1, by
  have e : Str.ofString " " = ⟨#[32]⟩ := by decide
  rw [e]; exact join_ok h.ok (by decide)⟩
theorem Fine22.lines {x : Str} (h : Fine22 x) : Fine (Txt.join (Str.ofString "\n") (LW x)) := ⟨(join_len h (by decide)).1, by
  have e : Str.ofString "\n" = ⟨#[10]⟩ := by decide
  rw [e]; exact join_ok h.ok (by decide)⟩
theorem ok_strs {ws : List (List Nat)} (h : ∀ v ∈ ws, Ok v) : ∀ x ∈ ws.map ofCs, PyData.strOk x = true := by
  intro x hx
  obtain ⟨v, hv, rfl⟩ := List.mem_map.mp hx
  unfold PyData.strOk ofCs
  rw [List.all_toArray, List.all_eq_true]
  intro c hc
  have := f_small (h v hv c hc)
  simp
  omega
theorem LW_strs {x : Str} (h : Fine x) : ∀ v ∈ LW x, PyData.strOk v = true := ok_strs (lw_ok h.ok)
theorem bl_sub : ∀ (l cur : List Nat), ∀ v ∈ bl cur l, ∀ c ∈ v, c ∈ cur ∨ c ∈ l
  | [], cur, v, hv, c, hc => by
    unfold bl at hv
    split at hv
    · cases hv
    · rw [List.mem_singleton.mp hv] at hc; exact .inl hc
  | d :: r, cur, v, hv, c, hc => by
    unfold bl at hv
    split at hv
    · split at hv
      · rcases bl_sub r [] v hv c hc with h | h
        · cases h
        · exact .inr (.tail _ h)
      · rcases List.mem_cons.mp hv with rfl | hv
        · exact .inl hc
        · rcases bl_sub r [] v hv c hc with h | h
          · cases h
          · exact .inr (.tail _ h)
    · rcases bl_sub r _ v hv c hc with h | h
      · rcases List.mem_append.mp h with h | h
        · exact .inl h
        · rw [List.mem_singleton.mp h]; exact .inr (.head _)
      · exact .inr (.tail _ h)
theorem LB_strs {x : Str} (h : Fine x) : ∀ v ∈ LB x, PyData.strOk v = true := by
  rw [LB_bl]
  refine ok_strs fun v hv c hc => ?_
  rcases bl_sub _ _ v hv c hc with h' | h'
  · cases h'
  · exact h.ok c h'
/-- the second readings -/
theorem again_eq {x : Str} (h : Fine22 x) : LW (Txt.join (Str.ofString " ") (LW x)) = LW x := by rw [← law_words h.again.ok]; exact law_again h.ok
theorem lines_eq {x : Str} (h : Fine22 x) : LB (Txt.join (Str.ofString "\n") (LW x)) = LW x := by rw [← law_blanks h.lines.ok]; exact law_lines h.ok
theorem fine_again {x j : Str} (h : Fine22 x) (e : j = Txt.join (Str.ofString " ") (LW x)) : Fine j := e ▸ h.again
theorem fine_lines {x j : Str} (h : Fine22 x) (e : j = Txt.join (Str.ofString "\n") (LW x)) : Fine j := e ▸ h.lines
theorem again_eq' {x j : Str} (h : Fine22 x) (e : j = Txt.join (Str.ofString " ") (LW x)) : LW j = LW x := e ▸ again_eq h
theorem lines_eq' {x j : Str} (h : Fine22 x) (e : j = Txt.join (Str.ofString "\n") (LW x)) : LB j = LW x := e ▸ lines_eq h
theorem plain_cc {w : World} {mean : ExcName → Option Value} {mg mb : Str → Option Value} (x : Str) (tx : Tok) (news : Led) (hx : Fine x) :
    CallsTo 2 w mean mg mb 29 [.str x tx] news (fun h₀ L m s Q => ListRet h₀ L m news s Q (LW x)) := by
  rw [← law_words hx.ok]
  exact plain_c x tx news hx.len
theorem split_cc {prog : Program} {w : World} {A : Around} {E : Value → Shared → Prop} {s : Shared} {h₀ : Heap} {L : Addr} {m : Str → Option Value} {news : Led} {x : Str} {t : Tok} {Q : Value → Shared → Prop} (F : Fr h₀ L s.heap m) (N : News h₀ L s.heap news) (hx : Fine x)
    (h : ListRet h₀ L m news s Q (LB x)) : wpAny (model prog w) A (call (.builtin "str.split") [.str x t]) Q E s := by
  refine KSpl.split0 F N (fun D l h' k e a F' N' lt => h D _ 0 h' k ?_ F' N' lt) (by have := hx.len; rw [sizeLine_eq]; omega)
  rw [← law_blanks hx.ok, ← e]
  exact a
theorem low_eq {x y : Str} (h : Fine22 x) (hy : SInv (KStt.codes x) y) : y = Txt.lower x := small_low h.ok hy
end Mine
end
section
namespace Mine
abbrev CallsKw (lev : Nat) (w : World) (mean : ExcName → Option Value) (mg mb : Str → Option Value) (f : Addr) (vs : List Value) (kw : List (Str × Value)) (news : Led)
    (R : Heap → Addr → (Str → Option Value) → Shared → (Value → Shared → Prop) → Prop) : Prop :=
  ∀ (dp un : Nat) (gd : Option (List Code)) (cn : Str) (cs : Scope) (a : Addr) (ccd : Value) (cl : List (Str × Addr)) (outer : List Env) (A₀ : Around) (base h₀ : Heap) (L : Addr) (m : Str → Option Value) (s : Shared) (Q E : Value → Shared → Prop),
    Below A₀ base outer h₀ → Fr h₀ L s.heap m → (hd.heap_39 w.params).In h₀ → News h₀ L s.heap news → Top hd.view_39 (looseW hd.view_39 [Str.ofString "parse_words"]) mean mg mb h₀ → cs.kind = .function →
    dp + lev < recursionLimit → un + 20 * lev < cLine → R h₀ L m s Q →
      wpAny (model Challenge.rw_fe0309_01.row.prog w) (ktrTop dp un gd cn cs L a ccd cl outer) (call (.ref f) vs kw) Q E s
section
variable {lev : Nat} {w : World} {mean : ExcName → Option Value} {mg mb : Str → Option Value} {f : Addr} {vs : List Value} {kw : List (Str × Value)} {news : Led} {R : Heap → Addr → (Str → Option Value) → Shared → (Value → Shared → Prop) → Prop}
  {dp un : Nat} {gd : Option (List Code)} {cn : Str} {cs : Scope} {a : Addr} {ccd : Value} {cl : List (Str × Addr)} {outer : List Env} {A₀ : Around} {base h₀ : Heap} {L : Addr} {m : Str → Option Value} {s : Shared} {Q E : Value → Shared → Prop}
theorem use_kw (C : CallsKw lev w mean mg mb f vs kw news R) (B : Below A₀ base outer h₀) (F : Fr h₀ L s.heap m) (X : (hd.heap_39 w.params).In h₀) (N : News h₀ L s.heap news)
    (T : Top hd.view_39 (looseW hd.view_39 [Str.ofString "parse_words"]) mean mg mb h₀) (hk : cs.kind = .function) (hdp : dp + lev < recursionLimit) (hun : un + 20 * lev < cLine) (hr : R h₀ L m s Q) :
    wpAny (model Challenge.rw_fe0309_01.row.prog w) (ktrTop dp un gd cn cs L a ccd cl outer) (call (.ref f) vs kw) Q E s := C _ _ _ _ _ _ _ _ _ _ _ _ _ _ _ _ _ B F X N T hk hdp hun hr
end
local macro_rules | `(tactic| walk_at "call ref") => `(tactic| (
  k_here
  (with_reducible show wpAny _ _ (call (Value.ref 29) _) _ _ _)
  k_dflt (refine' use_c (plain_cc _ _ _ (by assumption)) ?w9B ?w9F ?w9X ?w9N ?w9T ?w9K ?w9d ?w9u ?_)
  (case w9B => k_asm); (case w9F => k_asm); (case w9X => k_asm); (case w9N => k_asm); (case w9T => k_asm); (case w9K => first | exact rfl | assumption); (case w9d => ktr_room); (case w9u => ktr_units)
  k_whole; intro D9 vs9 n9 h9 tk9 a9 F9 N9 l9
  (try k_lt l9); (try dsimp only); (try k_fold)))
local macro_rules | `(tactic| walk_at "call builtin:str.split") => `(tactic| (
  k_here
  (with_reducible show wpAny _ _ (call (Value.builtin "str.split") [Value.str _ _]) _ _ _)
  (refine split_cc (by k_asm) (by k_asm) (by assumption) ?_)
  intro D9 vs9 n9 h9 tk9 a9 F9 N9 l9
  (try k_lt l9); (try dsimp only); (try k_fold)))
local macro_rules | `(tactic| walk_at "call builtin:str.lower") => `(tactic| (
  k_here
  (with_reducible show wpAny _ _ (call (Value.builtin "str.lower") [Value.str _ _]) _ _ _)
  (refine low_call (Fine22.len (by assumption)) ?_)
  intro t9 k9))
set_option maxRecDepth 100000 in
set_option maxHeartbeats 8000000 in
theorem parse_1 {w : World} {mean : ExcName → Option Value} {mg mb : Str → Option Value} (x : Str) (tx : Tok) (news : Led) (hx : Fine22 x) :
    CallsKw 4 w mean mg mb 22 [Value.str x tx] [] news (fun h₀ L m s Q => ListRet h₀ L m news s Q (LW (Txt.lower x))) := by
  unfold CallsKw
  k_with_none
  w_top off
  k_fill
  intro dp un gd cn cs a ccd cl outer A₀ base h₀ L m s Q E B F X N T hk hdp hun hret
  have hx2 := hx.low
  refine wpAny_call ?_
  k_dflt (refine' code_def ?w9a ?w9b ?w9c ?w9d ?w9e ?w9f ?w9g ?w9h ?w9i ?w9j ?w9k ?w9l ?w9m ?_ ?w9n ?w9o ?w9p ?w9q)
  (case w9f => exact rfl); (case w9g => exact rfl); (case w9h => assumption); (case w9a => k_asm); (case w9b => k_asm); (case w9c => k_asm); (case w9d => k_asm); (case w9e => k_asm); (case w9i => k_is); (case w9j => k_is); (case w9k => ktr_room)
  (case w9l => k_dflt (exact binds_K (by k_in) rfl (by k_is) rfl rfl rfl)); (case w9q => decide); (case w9m => exact locs rfl); (case w9n => exact rfl); (case w9o => exact rfl); (case w9p => exact rfl)
  k_whole; intro g' L' h' FG' F' N' B' X' T'; (try dsimp only); (try k_lift B'); (try k_fold)
  k_steps
  exact hret _ _ _ _ _ (by assumption) (by assumption) (by assumption) (by assumption)
set_option maxRecDepth 100000 in
set_option maxHeartbeats 8000000 in
theorem parse_2 {w : World} {mean : ExcName → Option Value} {mg mb : Str → Option Value} (x : Str) (tx : Tok) (news : Led) (hx : Fine x) :
    CallsKw 4 w mean mg mb 22 [Value.str x tx, Value.bool true] [] news (fun h₀ L m s Q => ListRet h₀ L m news s Q (LW x)) := by
  unfold CallsKw
  k_with_none
  w_top off
  k_fill
  intro dp un gd cn cs a ccd cl outer A₀ base h₀ L m s Q E B F X N T hk hdp hun hret
  refine wpAny_call ?_
  k_dflt (refine' code_def ?w9a ?w9b ?w9c ?w9d ?w9e ?w9f ?w9g ?w9h ?w9i ?w9j ?w9k ?w9l ?w9m ?_ ?w9n ?w9o ?w9p ?w9q)
  (case w9f => exact rfl); (case w9g => exact rfl); (case w9h => assumption); (case w9a => k_asm); (case w9b => k_asm); (case w9c => k_asm); (case w9d => k_asm); (case w9e => k_asm); (case w9i => k_is); (case w9j => k_is); (case w9k => ktr_room)
  (case w9l => k_dflt (exact binds_K (by k_in) rfl (by k_is) rfl rfl rfl)); (case w9q => decide); (case w9m => exact locs rfl); (case w9n => exact rfl); (case w9o => exact rfl); (case w9p => exact rfl)
  k_whole; intro g' L' h' FG' F' N' B' X' T'; (try dsimp only); (try k_lift B'); (try k_fold)
  k_steps
  exact hret _ _ _ _ _ (by assumption) (by assumption) (by assumption) (by assumption)
set_option maxRecDepth 100000 in
set_option maxHeartbeats 8000000 in
theorem parse_3 {w : World} {mean : ExcName → Option Value} {mg mb : Str → Option Value} (x : Str) (tx : Tok) (news : Led) (hx : Fine22 x) :
    CallsKw 4 w mean mg mb 22 [Value.str x tx] [(Str.ofString "split_by_space", Value.bool true)] news (fun h₀ L m s Q => ListRet h₀ L m news s Q (LB (Txt.lower x))) := by
  unfold CallsKw
  k_with_none
  w_top off
  k_fill
  intro dp un gd cn cs a ccd cl outer A₀ base h₀ L m s Q E B F X N T hk hdp hun hret
  have hx2 := hx.low
  refine wpAny_call ?_
  k_dflt (refine' code_def ?w9a ?w9b ?w9c ?w9d ?w9e ?w9f ?w9g ?w9h ?w9i ?w9j ?w9k ?w9l ?w9m ?_ ?w9n ?w9o ?w9p ?w9q)
  (case w9f => exact rfl); (case w9g => exact rfl); (case w9h => assumption); (case w9a => k_asm); (case w9b => k_asm); (case w9c => k_asm); (case w9d => k_asm); (case w9e => k_asm); (case w9i => k_is); (case w9j => k_is); (case w9k => ktr_room)
  (case w9l => k_dflt (exact binds_K (by k_in) rfl (by k_is) rfl rfl rfl)); (case w9q => decide); (case w9m => exact locs rfl); (case w9n => exact rfl); (case w9o => exact rfl); (case w9p => exact rfl)
  k_whole; intro g' L' h' FG' F' N' B' X' T'; (try dsimp only); (try k_lift B'); (try k_fold)
  k_steps
  exact hret _ _ _ _ _ (by assumption) (by assumption) (by assumption) (by assumption)
set_option maxRecDepth 100000 in
set_option maxHeartbeats 8000000 in
theorem parse_4 {w : World} {mean : ExcName → Option Value} {mg mb : Str → Option Value} (x : Str) (tx : Tok) (news : Led) (hx : Fine x) :
    CallsKw 4 w mean mg mb 22 [Value.str x tx, Value.bool true, Value.bool true] [] news (fun h₀ L m s Q => ListRet h₀ L m news s Q (LB x)) := by
  unfold CallsKw
  k_with_none
  w_top off
  k_fill
  intro dp un gd cn cs a ccd cl outer A₀ base h₀ L m s Q E B F X N T hk hdp hun hret
  refine wpAny_call ?_
  k_dflt (refine' code_def ?w9a ?w9b ?w9c ?w9d ?w9e ?w9f ?w9g ?w9h ?w9i ?w9j ?w9k ?w9l ?w9m ?_ ?w9n ?w9o ?w9p ?w9q)
  (case w9f => exact rfl); (case w9g => exact rfl); (case w9h => assumption); (case w9a => k_asm); (case w9b => k_asm); (case w9c => k_asm); (case w9d => k_asm); (case w9e => k_asm); (case w9i => k_is); (case w9j => k_is); (case w9k => ktr_room)
  (case w9l => k_dflt (exact binds_K (by k_in) rfl (by k_is) rfl rfl rfl)); (case w9q => decide); (case w9m => exact locs rfl); (case w9n => exact rfl); (case w9o => exact rfl); (case w9p => exact rfl)
  k_whole; intro g' L' h' FG' F' N' B' X' T'; (try dsimp only); (try k_lift B'); (try k_fold)
  k_steps
  exact hret _ _ _ _ _ (by assumption) (by assumption) (by assumption) (by assumption)
set_option maxRecDepth 100000 in
set_option maxHeartbeats 8000000 in
theorem parse_5 {w : World} {mean : ExcName → Option Value} {mg mb : Str → Option Value} (x : Str) (tx : Tok) (news : Led) (hx : Fine x) :
    CallsKw 4 w mean mg mb 22 [Value.str x tx] [(Str.ofString "preserve_case", Value.bool true), (Str.ofString "split_by_space", Value.bool false)] news (fun h₀ L m s Q => ListRet h₀ L m news s Q (LW x)) := by
  unfold CallsKw
  k_with_none
  w_top off
  k_fill
  intro dp un gd cn cs a ccd cl outer A₀ base h₀ L m s Q E B F X N T hk hdp hun hret
  refine wpAny_call ?_
  k_dflt (refine' code_def ?w9a ?w9b ?w9c ?w9d ?w9e ?w9f ?w9g ?w9h ?w9i ?w9j ?w9k ?w9l ?w9m ?_ ?w9n ?w9o ?w9p ?w9q)
  (case w9f => exact rfl); (case w9g => exact rfl); (case w9h => assumption); (case w9a => k_asm); (case w9b => k_asm); (case w9c => k_asm); (case w9d => k_asm); (case w9e => k_asm); (case w9i => k_is); (case w9j => k_is); (case w9k => ktr_room)
  (case w9l => k_dflt (exact binds_K (by k_in) rfl (by k_is) rfl rfl rfl)); (case w9q => decide); (case w9m => exact locs rfl); (case w9n => exact rfl); (case w9o => exact rfl); (case w9p => exact rfl)
  k_whole; intro g' L' h' FG' F' N' B' X' T'; (try dsimp only); (try k_lift B'); (try k_fold)
  k_steps
  exact hret _ _ _ _ _ (by assumption) (by assumption) (by assumption) (by assumption)
end Mine
end
section
namespace Mine
local macro_rules | `(tactic| walk_at "call ref") => `(tactic| (
  k_here
  (with_reducible show wpAny _ _ (call (Value.ref 43) _) _ _ _)
  k_dflt (refine' use_c (text_c _ _ _ _ _ (List.Mem.head _) ?w9i ?w9n) ?w9B ?w9F ?w9X ?w9N ?w9T ?w9K ?w9d ?w9u ?_)
  (case w9B => k_asm); (case w9F => k_asm); (case w9X => k_asm); (case w9N => k_asm); (case w9T => k_asm); (case w9K => first | exact rfl | assumption); (case w9d => ktr_room); (case w9u => ktr_units)
  (case w9i => assumption); (case w9n => omega)
  k_whole; intro x9 t9 h9 tk9 ok9 F9 N9
  have g9 := fine22 ok9
  have g8 := g9.fine
  have g7 := g9.low
  (try dsimp only); (try k_fold)))
local macro_rules | `(tactic| walk_at "call ref") => `(tactic| (
  k_here
  (with_reducible show wpAny _ _ (call (Value.ref 57) _) _ _ _)
  k_dflt (refine' use_c (small_c _ _ _ (Fine.len (by assumption))) ?w9B ?w9F ?w9X ?w9N ?w9T ?w9K ?w9d ?w9u ?_)
  (case w9B => k_asm); (case w9F => k_asm); (case w9X => k_asm); (case w9N => k_asm); (case w9T => k_asm); (case w9K => first | exact rfl | assumption); (case w9d => ktr_room); (case w9u => ktr_units)
  k_whole; intro y9 t9 h9 tk9 ok9 F9 N9
  have e9 := low_eq (by assumption) ok9
  clear ok9
  subst e9
  (try dsimp only); (try k_fold)))
local macro_rules | `(tactic| walk_at "call ref") => `(tactic| (
  k_here
  (with_reducible show wpAny _ _ (call (Value.ref 22) _ _) _ _ _)
  k_dflt (first
    | refine' use_kw (parse_1 _ _ _ (by assumption)) ?w9B ?w9F ?w9X ?w9N ?w9T ?w9K ?w9d ?w9u ?_
    | refine' use_kw (parse_2 _ _ _ (by assumption)) ?w9B ?w9F ?w9X ?w9N ?w9T ?w9K ?w9d ?w9u ?_
    | refine' use_kw (parse_3 _ _ _ (by assumption)) ?w9B ?w9F ?w9X ?w9N ?w9T ?w9K ?w9d ?w9u ?_
    | refine' use_kw (parse_4 _ _ _ (by assumption)) ?w9B ?w9F ?w9X ?w9N ?w9T ?w9K ?w9d ?w9u ?_
    | refine' use_kw (parse_5 _ _ _ (by assumption)) ?w9B ?w9F ?w9X ?w9N ?w9T ?w9K ?w9d ?w9u ?_)
  (case w9B => k_asm); (case w9F => k_asm); (case w9X => k_asm); (case w9N => k_asm); (case w9T => k_asm); (case w9K => first | exact rfl | assumption); (case w9d => ktr_room); (case w9u => ktr_units)
  k_whole; intro D9 vs9 n9 h9 tk9 a9 F9 N9 l9
  (try k_lt l9); (try dsimp only); (try k_fold)))
local macro_rules | `(tactic| walk_at "call ref") => `(tactic| (
  k_here
  (with_reducible show wpAny _ _ (call (Value.ref 71) _) _ _ _)
  k_dflt (refine' use_c (words_c _ _ _ (Fine.len (by assumption))) ?w9B ?w9F ?w9X ?w9N ?w9T ?w9K ?w9d ?w9u ?_)
  (case w9B => k_asm); (case w9F => k_asm); (case w9X => k_asm); (case w9N => k_asm); (case w9T => k_asm); (case w9K => first | exact rfl | assumption); (case w9d => ktr_room); (case w9u => ktr_units)
  k_whole; intro D9 vs9 n9 h9 tk9 a9 F9 N9 l9
  (try k_lt l9); (try dsimp only); (try k_fold)))
local macro_rules | `(tactic| walk_at "call ref") => `(tactic| (
  k_here
  (with_reducible show wpAny _ _ (call (Value.ref 64) _) _ _ _)
  k_dflt (refine' use_c (blanks_c _ _ _ (Fine.len (by assumption))) ?w9B ?w9F ?w9X ?w9N ?w9T ?w9K ?w9d ?w9u ?_)
  (case w9B => k_asm); (case w9F => k_asm); (case w9X => k_asm); (case w9N => k_asm); (case w9T => k_asm); (case w9K => first | exact rfl | assumption); (case w9d => ktr_room); (case w9u => ktr_units)
  k_whole; intro D9 vs9 n9 h9 tk9 a9 F9 N9 l9
  (try k_lt l9); (try dsimp only); (try k_fold)))
local macro_rules | `(tactic| walk_at "call builtin:str.join") => `(tactic| (
  k_here
  (with_reducible show wpAny _ _ (call (Value.builtin "str.join") [Value.str _ _, Value.ref _]) _ _ _)
  k_dflt (refine' join_texts ?w9F ?w9N ?w9a ?w9i ?w9o ?_)
  (case w9F => k_asm); (case w9N => k_asm); (case w9a => k_dflt k_mem); (case w9i => assumption); (case w9o => k_dflt exact (join_len (by assumption) (by decide)).2)
  intro j9 t9 k9 e9
  have f9 := (by first | exact fine_again (by assumption) e9 | exact fine_lines (by assumption) e9 : Fine j9)))
local macro_rules | `(tactic| walk_at "compareOp NotEq ref ref") => `(tactic| (
  k_here
  (with_reducible show wpAny _ _ (compareOp CmpOp.NotEq (Value.ref _) (Value.ref _)) _ _ _)
  k_dflt (refine' ne_texts ?w9F ?w9N ?w9a ?w9b ?w9i ?w9j ?w9e ?w9o ?w9u ?_)
  (case w9F => k_asm); (case w9N => k_asm); (case w9a => k_dflt k_mem); (case w9b => k_dflt k_mem); (case w9i => assumption); (case w9j => assumption); (case w9e => with_reducible rfl)
  (case w9o => k_dflt first | exact LW_strs (by assumption) | exact LB_strs (by assumption)); (case w9u => k_dflt ke_room)))
local macro_rules | `(tactic| walk_at "compareOp Eq ref ref") => `(tactic| (
  k_here
  (with_reducible show wpAny _ _ (compareOp CmpOp.Eq (Value.ref _) (Value.ref _)) _ _ _)
  k_dflt (refine' eq_texts ?w9F ?w9N ?w9a ?w9b ?w9i ?w9j ?w9e ?w9o ?w9u ?_)
  (case w9F => k_asm); (case w9N => k_asm); (case w9a => k_dflt k_mem); (case w9b => k_dflt k_mem); (case w9i => assumption); (case w9j => assumption); (case w9e => k_dflt first | exact again_eq' (by assumption) (by assumption) | exact lines_eq' (by assumption) (by assumption))
  (case w9o => k_dflt exact LW_strs (by assumption)); (case w9u => k_dflt ke_room)))
set_option maxRecDepth 100000 in
set_option maxHeartbeats 8000000 in
theorem main : PySem.Challenge.rw_fe0309_01.Holds := hd (by
  k_with_none
  k_go0
  (all_goals try k_fold)
  k_steps
  all_goals w_report)
end Mine
end
set_option maxRecDepth 100000 in
theorem PySem.Challenge.cw_fe0309_01_holds : PySem.Challenge.rw_fe0309_01.Holds :=
  Mine.main
