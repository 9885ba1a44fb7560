import PyProof.Rows.All
import Wide.All
import OpenK.AllK
import Wide.FinOn
import PySem.Challenge.RW_eu0032_01
set_option Elab.async false
section
open PySem PySem.W PyProof.Rows
set_option Elab.async false
namespace Mine
set_option maxRecDepth 100000 in
set_option maxHeartbeats 8000000 in
open_top hd for PySem.Challenge.rw_eu0032_01
end Mine
end
section
open PySem PySem.W
namespace Mine
/-- the scanner of find_matching_paren, on codes -/
def scanAt (cs : List Nat) (i : Nat) (d : Int) (sg db : Bool) : Option Nat :=
  if h : i < cs.length then
    if sg then
      if cs[i] = 39 then
        if cs[i+1]? = some 39 then scanAt cs (i+2) d true db
        else scanAt cs (i+1) d false db
      else scanAt cs (i+1) d true db
    else if db then
      if cs[i] = 34 then
        if cs[i+1]? = some 34 then scanAt cs (i+2) d false true
        else scanAt cs (i+1) d false false
      else scanAt cs (i+1) d false true
    else if cs[i] = 39 then scanAt cs (i+1) d true false
    else if cs[i] = 34 then scanAt cs (i+1) d false true
    else if cs[i] = 40 then scanAt cs (i+1) (d+1) false false
    else if cs[i] = 41 then if d - 1 = 0 then some i else scanAt cs (i+1) (d-1) false false
    else scanAt cs (i+1) d false false
  else none
termination_by cs.length - i
theorem itm {t : Str} {i : Int} (h0 : 0 ≤ i) (h1 : i < (t.length : Int)) (c : Nat) : (Txt.item t i == (⟨#[c]⟩ : Str)) = decide (t.cps.toList[i.toNat]? = some c) := by
  rw [item_meets ⟨h0, h1⟩]
  have hl : i.toNat < t.cps.size := by unfold Str.length at h1; omega
  have e : t.cps.toList[i.toNat]? = some (t.cps.getD i.toNat 0) := by
    simp [Array.getD, hl]
  rw [e]
  by_cases hc : t.cps.getD i.toNat 0 = c
  · rw [hc]; simp
  · have : ¬ ((⟨#[t.cps.getD i.toNat 0]⟩ : Str) = ⟨#[c]⟩) := by
      intro hh; injection hh with hh; apply hc; simpa using hh
    simp only [Option.some.injEq, hc, decide_false]
    exact beq_false_of_ne this
theorem itb {t : Str} {i : Int} (h0 : 0 ≤ i) (h1 : i < (t.length : Int)) {c : Nat} {x : Str} (hx : x = ⟨#[c]⟩) {b : Bool} (h : (Txt.item t i == x) = b) : decide (t.cps.toList[i.toNat]? = some c) = b := by
  rw [← h, hx, itm h0 h1]
theorem itt {t : Str} {i : Int} (h0 : 0 ≤ i) (h1 : i < (t.length : Int)) {c : Nat} {x : Str} (hx : x = ⟨#[c]⟩) (h : (Txt.item t i == x) = true) : t.cps.toList[i.toNat]? = some c := of_decide_eq_true (itb h0 h1 hx h)
theorem itf {t : Str} {i : Int} (h0 : 0 ≤ i) (h1 : i < (t.length : Int)) {c : Nat} {x : Str} (hx : x = ⟨#[c]⟩) (h : (Txt.item t i == x) = false) : t.cps.toList[i.toNat]? ≠ some c := of_decide_eq_false (itb h0 h1 hx h)
theorem lenL (t : Str) : t.cps.toList.length = t.length := by simp [Str.length]
theorem sq39 : (Str.ofString "'") = ⟨#[39]⟩ := by decide +kernel
theorem sq34 : (Str.ofString "\"") = ⟨#[34]⟩ := by decide +kernel
theorem sq40 : (Str.ofString "(") = ⟨#[40]⟩ := by decide +kernel
theorem sq41 : (Str.ofString ")") = ⟨#[41]⟩ := by decide +kernel
/-- one step of the scanner, by what stands at the place -/
theorem scan_step {cs : List Nat} {i : Nat} {d : Int} {sg db : Bool} (h : i < cs.length) : scanAt cs i d sg db =
    if sg then
      if cs[i]? = some 39 then
        if cs[i+1]? = some 39 then scanAt cs (i+2) d true db
        else scanAt cs (i+1) d false db
      else scanAt cs (i+1) d true db
    else if db then
      if cs[i]? = some 34 then
        if cs[i+1]? = some 34 then scanAt cs (i+2) d false true
        else scanAt cs (i+1) d false false
      else scanAt cs (i+1) d false true
    else if cs[i]? = some 39 then scanAt cs (i+1) d true false
    else if cs[i]? = some 34 then scanAt cs (i+1) d false true
    else if cs[i]? = some 40 then scanAt cs (i+1) (d+1) false false
    else if cs[i]? = some 41 then if d - 1 = 0 then some i else scanAt cs (i+1) (d-1) false false
    else scanAt cs (i+1) d false false := by
  rw [scanAt, dif_pos h]
  simp only [List.getElem?_eq_getElem h, Option.some.injEq]
/-- the loop's word -/
def FmpP (t : Str) (r : Option Nat) (i d : Int) (sg db : Bool) : Prop := 0 ≤ i ∧ scanAt t.cps.toList i.toNat d sg db = r
section
variable {t : Str} {r : Option Nat} {i d : Int} {sg db : Bool}
theorem toN1 (h0 : 0 ≤ i) : (i + 1).toNat = i.toNat + 1 := by omega
theorem toN2 (h0 : 0 ≤ i) : (i + 2).toNat = i.toNat + 2 := by omega
theorem ltL (h0 : 0 ≤ i) (h1 : i < (t.length : Int)) : i.toNat < t.cps.toList.length := by rw [lenL]; omega
theorem nx1 (h0 : 0 ≤ i) (h2 : ¬ i + 1 < (t.length : Int)) (c : Nat) : t.cps.toList[i.toNat + 1]? ≠ some c := by
  rw [List.getElem?_eq_none (by rw [lenL]; omega)]; simp
theorem nx2 (h0 : 0 ≤ i) (h2 : i + 1 < (t.length : Int)) {c : Nat} {x : Str} (hx : x = ⟨#[c]⟩) (h : (Txt.item t (i+1) == x) = true) : t.cps.toList[i.toNat + 1]? = some c := by
  have := itt (by omega) h2 hx h; rwa [toN1 h0] at this
theorem nx3 (h0 : 0 ≤ i) (h2 : i + 1 < (t.length : Int)) {c : Nat} {x : Str} (hx : x = ⟨#[c]⟩) (h : (Txt.item t (i+1) == x) = false) : t.cps.toList[i.toNat + 1]? ≠ some c := by
  have := itf (by omega) h2 hx h; rwa [toN1 h0] at this
theorem fs1 (h0 : 0 ≤ i) (hP : scanAt t.cps.toList i.toNat d sg db = r) (h1 : i < (t.length : Int)) (hs : sg = true) (ha : (Txt.item t i == Str.ofString "'") = true) (h2 : i + 1 < (t.length : Int)) (hb : (Txt.item t (i+1) == Str.ofString "'") = true) : FmpP t r (i+2) d sg db := by
  subst hs; refine ⟨by omega, ?_⟩
  rw [scan_step (ltL h0 h1), if_pos rfl, if_pos (itt h0 h1 sq39 ha), if_pos (nx2 h0 h2 sq39 hb)] at hP
  rw [toN2 h0]; exact hP
theorem fs2 (h0 : 0 ≤ i) (hP : scanAt t.cps.toList i.toNat d sg db = r) (h1 : i < (t.length : Int)) (hs : sg = true) (ha : (Txt.item t i == Str.ofString "'") = true) (h2 : i + 1 < (t.length : Int)) (hb : (Txt.item t (i+1) == Str.ofString "'") = false) : FmpP t r (i+1) d false db := by
  subst hs; refine ⟨by omega, ?_⟩
  rw [scan_step (ltL h0 h1), if_pos rfl, if_pos (itt h0 h1 sq39 ha), if_neg (nx3 h0 h2 sq39 hb)] at hP
  rw [toN1 h0]; exact hP
theorem fs3 (h0 : 0 ≤ i) (hP : scanAt t.cps.toList i.toNat d sg db = r) (h1 : i < (t.length : Int)) (hs : sg = true) (ha : (Txt.item t i == Str.ofString "'") = true) (h2 : ¬ i + 1 < (t.length : Int)) : FmpP t r (i+1) d false db := by
  subst hs; refine ⟨by omega, ?_⟩
  rw [scan_step (ltL h0 h1), if_pos rfl, if_pos (itt h0 h1 sq39 ha), if_neg (nx1 h0 h2 _)] at hP
  rw [toN1 h0]; exact hP
theorem fs4 (h0 : 0 ≤ i) (hP : scanAt t.cps.toList i.toNat d sg db = r) (h1 : i < (t.length : Int)) (hs : sg = true) (ha : (Txt.item t i == Str.ofString "'") = false) : FmpP t r (i+1) d sg db := by
  subst hs; refine ⟨by omega, ?_⟩
  rw [scan_step (ltL h0 h1), if_pos rfl, if_neg (itf h0 h1 sq39 ha)] at hP
  rw [toN1 h0]; exact hP
theorem fd1 (h0 : 0 ≤ i) (hP : scanAt t.cps.toList i.toNat d sg db = r) (h1 : i < (t.length : Int)) (hs : sg = false) (hd : db = true) (ha : (Txt.item t i == Str.ofString "\"") = true) (h2 : i + 1 < (t.length : Int)) (hb : (Txt.item t (i+1) == Str.ofString "\"") = true) : FmpP t r (i+2) d sg db := by
  subst hs hd; refine ⟨by omega, ?_⟩
  rw [scan_step (ltL h0 h1), if_neg Bool.false_ne_true, if_pos rfl, if_pos (itt h0 h1 sq34 ha), if_pos (nx2 h0 h2 sq34 hb)] at hP
  rw [toN2 h0]; exact hP
theorem fd2 (h0 : 0 ≤ i) (hP : scanAt t.cps.toList i.toNat d sg db = r) (h1 : i < (t.length : Int)) (hs : sg = false) (hd : db = true) (ha : (Txt.item t i == Str.ofString "\"") = true) (h2 : i + 1 < (t.length : Int)) (hb : (Txt.item t (i+1) == Str.ofString "\"") = false) : FmpP t r (i+1) d sg false := by
  subst hs hd; refine ⟨by omega, ?_⟩
  rw [scan_step (ltL h0 h1), if_neg Bool.false_ne_true, if_pos rfl, if_pos (itt h0 h1 sq34 ha), if_neg (nx3 h0 h2 sq34 hb)] at hP
  rw [toN1 h0]; exact hP
theorem fd3 (h0 : 0 ≤ i) (hP : scanAt t.cps.toList i.toNat d sg db = r) (h1 : i < (t.length : Int)) (hs : sg = false) (hd : db = true) (ha : (Txt.item t i == Str.ofString "\"") = true) (h2 : ¬ i + 1 < (t.length : Int)) : FmpP t r (i+1) d sg false := by
  subst hs hd; refine ⟨by omega, ?_⟩
  rw [scan_step (ltL h0 h1), if_neg Bool.false_ne_true, if_pos rfl, if_pos (itt h0 h1 sq34 ha), if_neg (nx1 h0 h2 _)] at hP
  rw [toN1 h0]; exact hP
theorem fd4 (h0 : 0 ≤ i) (hP : scanAt t.cps.toList i.toNat d sg db = r) (h1 : i < (t.length : Int)) (hs : sg = false) (hd : db = true) (ha : (Txt.item t i == Str.ofString "\"") = false) : FmpP t r (i+1) d sg db := by
  subst hs hd; refine ⟨by omega, ?_⟩
  rw [scan_step (ltL h0 h1), if_neg Bool.false_ne_true, if_pos rfl, if_neg (itf h0 h1 sq34 ha)] at hP
  rw [toN1 h0]; exact hP
theorem fq1 (h0 : 0 ≤ i) (hP : scanAt t.cps.toList i.toNat d sg db = r) (h1 : i < (t.length : Int)) (hs : sg = false) (hd : db = false) (ha : (Txt.item t i == Str.ofString "'") = true) : FmpP t r (i+1) d true db := by
  subst hs hd; refine ⟨by omega, ?_⟩
  rw [scan_step (ltL h0 h1), if_neg Bool.false_ne_true, if_neg Bool.false_ne_true, if_pos (itt h0 h1 sq39 ha)] at hP
  rw [toN1 h0]; exact hP
theorem fq2 (h0 : 0 ≤ i) (hP : scanAt t.cps.toList i.toNat d sg db = r) (h1 : i < (t.length : Int)) (hs : sg = false) (hd : db = false) (ha : (Txt.item t i == Str.ofString "'") = false) (hb : (Txt.item t i == Str.ofString "\"") = true) : FmpP t r (i+1) d sg true := by
  subst hs hd; refine ⟨by omega, ?_⟩
  rw [scan_step (ltL h0 h1), if_neg Bool.false_ne_true, if_neg Bool.false_ne_true, if_neg (itf h0 h1 sq39 ha), if_pos (itt h0 h1 sq34 hb)] at hP
  rw [toN1 h0]; exact hP
theorem fo (h0 : 0 ≤ i) (hP : scanAt t.cps.toList i.toNat d sg db = r) (h1 : i < (t.length : Int)) (hs : sg = false) (hd : db = false) (ha : (Txt.item t i == Str.ofString "'") = false) (hb : (Txt.item t i == Str.ofString "\"") = false) (hc : (Txt.item t i == Str.ofString "(") = true) : FmpP t r (i+1) (d+1) sg db := by
  subst hs hd; refine ⟨by omega, ?_⟩
  rw [scan_step (ltL h0 h1), if_neg Bool.false_ne_true, if_neg Bool.false_ne_true, if_neg (itf h0 h1 sq39 ha), if_neg (itf h0 h1 sq34 hb), if_pos (itt h0 h1 sq40 hc)] at hP
  rw [toN1 h0]; exact hP
theorem fc (h0 : 0 ≤ i) (hP : scanAt t.cps.toList i.toNat d sg db = r) (h1 : i < (t.length : Int)) (hs : sg = false) (hd : db = false) (ha : (Txt.item t i == Str.ofString "'") = false) (hb : (Txt.item t i == Str.ofString "\"") = false) (hc : (Txt.item t i == Str.ofString "(") = false) (he : (Txt.item t i == Str.ofString ")") = true) (hz : ¬ d - 1 = 0) : FmpP t r (i+1) (d-1) sg db := by
  subst hs hd; refine ⟨by omega, ?_⟩
  rw [scan_step (ltL h0 h1), if_neg Bool.false_ne_true, if_neg Bool.false_ne_true, if_neg (itf h0 h1 sq39 ha), if_neg (itf h0 h1 sq34 hb), if_neg (itf h0 h1 sq40 hc), if_pos (itt h0 h1 sq41 he), if_neg hz] at hP
  rw [toN1 h0]; exact hP
theorem fret (h0 : 0 ≤ i) (hP : scanAt t.cps.toList i.toNat d sg db = r) (h1 : i < (t.length : Int)) (hs : sg = false) (hd : db = false) (ha : (Txt.item t i == Str.ofString "'") = false) (hb : (Txt.item t i == Str.ofString "\"") = false) (hc : (Txt.item t i == Str.ofString "(") = false) (he : (Txt.item t i == Str.ofString ")") = true) (hz : d - 1 = 0) : r = some i.toNat := by
  subst hs hd
  rw [scan_step (ltL h0 h1), if_neg Bool.false_ne_true, if_neg Bool.false_ne_true, if_neg (itf h0 h1 sq39 ha), if_neg (itf h0 h1 sq34 hb), if_neg (itf h0 h1 sq40 hc), if_pos (itt h0 h1 sq41 he), if_pos hz] at hP
  exact hP.symm
theorem fz (h0 : 0 ≤ i) (hP : scanAt t.cps.toList i.toNat d sg db = r) (h1 : i < (t.length : Int)) (hs : sg = false) (hd : db = false) (ha : (Txt.item t i == Str.ofString "'") = false) (hb : (Txt.item t i == Str.ofString "\"") = false) (hc : (Txt.item t i == Str.ofString "(") = false) (he : (Txt.item t i == Str.ofString ")") = false) : FmpP t r (i+1) d sg db := by
  subst hs hd; refine ⟨by omega, ?_⟩
  rw [scan_step (ltL h0 h1), if_neg Bool.false_ne_true, if_neg Bool.false_ne_true, if_neg (itf h0 h1 sq39 ha), if_neg (itf h0 h1 sq34 hb), if_neg (itf h0 h1 sq40 hc), if_neg (itf h0 h1 sq41 he)] at hP
  rw [toN1 h0]; exact hP
theorem fend (h0 : 0 ≤ i) (hP : scanAt t.cps.toList i.toNat d sg db = r) (h1 : ¬ i < (t.length : Int)) : r = none := by
  rw [scanAt, dif_neg (by rw [lenL]; omega)] at hP
  exact hP.symm
def fmpVal (r : Option Nat) (tk : Tok) : Value := match r with | some j => .int j tk | none => .none
theorem valSome {r : Option Nat} (h0 : 0 ≤ i) (h : r = some i.toNat) (tk : Tok) : Value.int i tk = fmpVal r tk := by
  subst h; show Value.int i tk = Value.int (i.toNat : Int) tk; rw [Int.toNat_of_nonneg h0]
theorem valNone {r : Option Nat} (h : r = none) (tk : Tok) : Value.none = fmpVal r tk := by
  subst h; rfl
end
end Mine
end
section
open PySem PySem.W PyProof.Rows PySem.Calls PySem.Spec
set_option Elab.async false
set_option maxRecDepth 100000
namespace Mine
theorem fill_a : (PySem.Challenge.rw_eu0032_01 = PySem.Challenge.rw_eu0032_01) ∧ (Mine.hd.heap_39 = Mine.hd.heap_39) := by w_top off; k_fill; exact ⟨rfl, rfl⟩
def Stop (P : Prop) : Prop := P
theorem Stop.out {P : Prop} (h : Stop P) : P := h
def Pc (P : Prop) : Prop := P
local macro_rules | `(tactic| walk_at "exec While Compare cons nil") => `(tactic| (refine Stop.out ?_))
local macro_rules | `(tactic| walk_at "KswEnd") => `(tactic| (refine Stop.out ?_))
set_option maxHeartbeats 8000000 in
theorem fmp_tells {w : World} {p : Program} {loose : List Str} {mean : ExcName → Option Value} {mg mb : Str → Option Value}
   {dp un : Nat} {gd : Option (List Code)} {cn : Str} {cs : Scope} {a : Addr} {ccd : Value} {cl : List (Str × Addr)} {outer : List Env} {A₀ : Around} {base h₀ : Heap} {L : Addr} {m : Str → Option Value} {news : List (Addr × Obj)} {s : Shared} {Q E : Value → Shared → Prop}
   {t : Str} {tk : Tok} {i : Int} {tk2 : Tok} {r : Option Nat}
   (B : Below A₀ base outer h₀) (F : Fr h₀ L s.heap m) (X : (Mine.hd.heap_39 w.params).In h₀) (N : News h₀ L s.heap news) (T : Top p loose mean mg mb h₀) (hk : cs.kind = .function)
   (hd : dp + 1 < recursionLimit) (hu : un + 8 < cLine)
   (h0 : 0 ≤ i) (h1 : i < (t.length : Int)) (hc : (Txt.item t i == Str.ofString "(") = true) (hsz : t.length ≤ 1048576)
   (hr : scanAt t.cps.toList i.toNat 0 false false = r)
   (hret : ∀ (v : Value) (tk : Tok) (h' : Heap) (tk' : Nat), v = fmpVal r tk → Fr h₀ L h' m → News h₀ L h' news → Q v { s with heap := h', toks := tk' })
   : wpAny (model PySem.Challenge.rw_eu0032_01.row.prog w) (ktrTop dp un gd cn cs L a ccd cl outer) (call (.ref 22) [.str t tk, .int i tk2]) Q E s := by
  refine wpAny_call ?_
  refine' code_def ?k1 ?k2 ?k3 ?k4 ?k5 ?kA ?kF ?kK ?k6 ?k7 ?k8 ?k9 ?kB ?_ ?c2 ?c3 ?c4 ?c5
  (case kA => exact rfl)
  (case kF => exact rfl)
  (case kK => assumption)
  (case k1 => k_asm)
  (case k2 => k_asm)
  (case k3 => k_asm)
  (case k4 => k_asm)
  (case k5 => k_asm)
  (case k6 => k_is)
  (case k7 => k_is)
  (case k8 => ktr_room)
  (case k9 => first | exact BindsTo.of_eq rfl | exact binds_K (by k_in) rfl (by k_is) rfl rfl rfl)
  (case c5 => decide)
  (case kB => exact locs rfl)
  (case c2 => exact rfl)
  (case c3 => exact rfl)
  (case c4 => exact rfl)
  intro g' L' h' FG' F' N' B' X' T'
  (try dsimp only)
  (try k_lift B')
  (try k_fold)
  k_steps
  unfold Stop
  rename Fr g' _ _ _ => F1
  rename News g' _ _ _ => N1
  refine' ksw_while (σ := Int × Tok × Int × Tok × Bool × Bool) (fun _ => news) (fun c => [(Str.ofString "i", .int c.1 c.2.1), (Str.ofString "depth", .int c.2.2.1 c.2.2.2.1), (Str.ofString "in_single", .bool c.2.2.2.2.1), (Str.ofString "in_double", .bool c.2.2.2.2.2)]) (fun _ => True) [Str.ofString "ch"] (fun c => FmpP t r c.1 c.2.2.1 c.2.2.2.2.1 c.2.2.2.2.2) (fun c => t.length - c.1.toNat) (i, _, 0, _, false, false) F1 N1 trivial ?hk ?hp ?turn ?hE
  (case hk => kst_all)
  (case hp => exact ⟨h0, hr⟩)
  (case hE => first | passes_own | with_unfolding_all passes_own)
  (case turn =>
    clear F1 N1
    rintro ⟨wi, wti, wd, wtd, wsg, wdb⟩ wu wh wtk _ wP wF wN
    dsimp only [kstB] at wP wF wN
    obtain ⟨wP0, wP1⟩ := wP
    (try k_fold)
    k_steps
    all_goals first
      | (unfold Stop
         rename Fr g' _ _ _ => F2
         rename News g' _ _ _ => N2
         refine' ksw_end (_, _, _, _, _, _) F2 N2 (fun _ h => h) trivial ?k1 ?k2 ?k3 ?k4
         (case k1 => kst_all)
         (case k2 => ksw_same)
         (case k3 =>
           dsimp only
           first
           | exact fs1 wP0 wP1 (by assumption) (by assumption) (by assumption) (by assumption) (by assumption)
           | exact fs2 wP0 wP1 (by assumption) (by assumption) (by assumption) (by assumption) (by assumption)
           | exact fs3 wP0 wP1 (by assumption) (by assumption) (by assumption) (by assumption)
           | exact fs4 wP0 wP1 (by assumption) (by assumption) (by assumption)
           | exact fd1 wP0 wP1 (by assumption) (by assumption) (by assumption) (by assumption) (by assumption) (by assumption)
           | exact fd2 wP0 wP1 (by assumption) (by assumption) (by assumption) (by assumption) (by assumption) (by assumption)
           | exact fd3 wP0 wP1 (by assumption) (by assumption) (by assumption) (by assumption) (by assumption)
           | exact fd4 wP0 wP1 (by assumption) (by assumption) (by assumption) (by assumption)
           | exact fq1 wP0 wP1 (by assumption) (by assumption) (by assumption) (by assumption)
           | exact fq2 wP0 wP1 (by assumption) (by assumption) (by assumption) (by assumption) (by assumption)
           | exact fo wP0 wP1 (by assumption) (by assumption) (by assumption) (by assumption) (by assumption) (by assumption)
           | exact fc wP0 wP1 (by assumption) (by assumption) (by assumption) (by assumption) (by assumption) (by assumption) (by assumption) (by assumption)
           | exact fz wP0 wP1 (by assumption) (by assumption) (by assumption) (by assumption) (by assumption) (by assumption) (by assumption))
         (case k4 => dsimp only; omega))
      | exact hret _ _ _ _ (valNone (fend wP0 wP1 (by assumption)) 0) (by assumption) (by assumption)
      | exact hret _ _ _ _ (valSome wP0 (fret wP0 wP1 (by assumption) (by assumption) (by assumption) (by assumption) (by assumption) (by assumption) (by assumption) (by assumption)) _) (by assumption) (by assumption))
end Mine
end
section
open PySem PySem.W
namespace Mine
/-- what strip_outer_parens gives -/
def sopF (t : Str) : Str :=
  if ((Txt.strip t).length : Int) < 2 then t
  else if (Txt.item (Txt.strip t) 0 != Str.ofString "(") = true then t
  else if (Txt.item (Txt.strip t) (-1) != Str.ofString ")") = true then t
  else match scanAt (Txt.strip t).cps.toList (0 : Int).toNat 0 false false with
    | some j => if (j : Int) = ((Txt.strip t).length : Int) - 1 then Txt.slice (Txt.strip t) (some 1) (some (-1)) else t
    | none => t
section
variable {t : Str}
theorem sop1 (h : ((Txt.strip t).length : Int) < 2) : t = sopF t := by rw [sopF, if_pos h]
theorem sop2 (h : ¬ ((Txt.strip t).length : Int) < 2) (h2 : (Txt.item (Txt.strip t) 0 != Str.ofString "(") = true) : t = sopF t := by rw [sopF, if_neg h, if_pos h2]
theorem sop3 (h : ¬ ((Txt.strip t).length : Int) < 2) (h2 : (Txt.item (Txt.strip t) 0 != Str.ofString "(") = false) (h3 : (Txt.item (Txt.strip t) (-1) != Str.ofString ")") = true) : t = sopF t := by
  rw [sopF, if_neg h, if_neg (by rw [h2]; exact Bool.false_ne_true), if_pos h3]
theorem sop4 (h : ¬ ((Txt.strip t).length : Int) < 2) (h2 : (Txt.item (Txt.strip t) 0 != Str.ofString "(") = false) (h3 : (Txt.item (Txt.strip t) (-1) != Str.ofString ")") = false)
    (hr : scanAt (Txt.strip t).cps.toList (0 : Int).toNat 0 false false = none) : t = sopF t := by
  rw [sopF, if_neg h, if_neg (by rw [h2]; exact Bool.false_ne_true), if_neg (by rw [h3]; exact Bool.false_ne_true), hr]
theorem sop5 {j : Nat} (h : ¬ ((Txt.strip t).length : Int) < 2) (h2 : (Txt.item (Txt.strip t) 0 != Str.ofString "(") = false) (h3 : (Txt.item (Txt.strip t) (-1) != Str.ofString ")") = false)
    (hr : scanAt (Txt.strip t).cps.toList (0 : Int).toNat 0 false false = some j) (hj : (j : Int) = ((Txt.strip t).length : Int) - 1) : Txt.slice (Txt.strip t) (some 1) (some (-1)) = sopF t := by
  rw [sopF, if_neg h, if_neg (by rw [h2]; exact Bool.false_ne_true), if_neg (by rw [h3]; exact Bool.false_ne_true), hr]
  dsimp only
  rw [if_pos hj]
theorem sop6 {j : Nat} (h : ¬ ((Txt.strip t).length : Int) < 2) (h2 : (Txt.item (Txt.strip t) 0 != Str.ofString "(") = false) (h3 : (Txt.item (Txt.strip t) (-1) != Str.ofString ")") = false)
    (hr : scanAt (Txt.strip t).cps.toList (0 : Int).toNat 0 false false = some j) (hj : (j : Int) ≠ ((Txt.strip t).length : Int) - 1) : t = sopF t := by
  rw [sopF, if_neg h, if_neg (by rw [h2]; exact Bool.false_ne_true), if_neg (by rw [h3]; exact Bool.false_ne_true), hr]
  dsimp only
  rw [if_neg hj]
end
end Mine
end
section
open PySem PySem.W PyProof.Rows PySem.Calls PySem.Spec
set_option Elab.async false
set_option maxRecDepth 100000
namespace Mine
theorem fill_b : (PySem.Challenge.rw_eu0032_01 = PySem.Challenge.rw_eu0032_01) ∧ (Mine.hd.heap_39 = Mine.hd.heap_39) := by w_top off; k_fill; exact ⟨rfl, rfl⟩
local macro_rules | `(tactic| walk_at "call ref") => `(tactic| ((with_reducible show wpAny _ _ (call (Value.ref 22) _ _) _ _ _); (refine Stop.out ?_)))
set_option maxHeartbeats 2000000 in
theorem sop_tells {w : World} {p : Program} {loose : List Str} {mean : ExcName → Option Value} {mg mb : Str → Option Value}
   {dp un : Nat} {gd : Option (List Code)} {cn : Str} {cs : Scope} {a : Addr} {ccd : Value} {cl : List (Str × Addr)} {outer : List Env} {A₀ : Around} {base h₀ : Heap} {L : Addr} {m : Str → Option Value} {news : List (Addr × Obj)} {s : Shared} {Q E : Value → Shared → Prop}
   {t : Str} {tk : Tok}
   (B : Below A₀ base outer h₀) (F : Fr h₀ L s.heap m) (X : (Mine.hd.heap_39 w.params).In h₀) (N : News h₀ L s.heap news) (T : Top p loose mean mg mb h₀) (hk : cs.kind = .function)
   (hd : dp + 2 < recursionLimit) (hu : un + 16 < cLine)
   (hsz : t.length ≤ 1048576)
   (hret : ∀ (v : Str) (tk : Tok) (h' : Heap) (tk' : Nat), v = sopF t → Fr h₀ L h' m → News h₀ L h' news → Q (.str v tk) { s with heap := h', toks := tk' })
   : wpAny (model PySem.Challenge.rw_eu0032_01.row.prog w) (ktrTop dp un gd cn cs L a ccd cl outer) (call (.ref 29) [.str t tk]) Q E s := by
  refine wpAny_call ?_
  refine' code_def ?k1 ?k2 ?k3 ?k4 ?k5 ?kA ?kF ?kK ?k6 ?k7 ?k8 ?k9 ?kB ?_ ?c2 ?c3 ?c4 ?c5
  (case kA => exact rfl)
  (case kF => exact rfl)
  (case kK => assumption)
  (case k1 => k_asm)
  (case k2 => k_asm)
  (case k3 => k_asm)
  (case k4 => k_asm)
  (case k5 => k_asm)
  (case k6 => k_is)
  (case k7 => k_is)
  (case k8 => ktr_room)
  (case k9 => first | exact BindsTo.of_eq rfl | exact binds_K (by k_in) rfl (by k_is) rfl rfl rfl)
  (case c5 => decide)
  (case kB => exact locs rfl)
  (case c2 => exact rfl)
  (case c3 => exact rfl)
  (case c4 => exact rfl)
  intro g' L' h' FG' F' N' B' X' T'
  (try dsimp only)
  (try k_lift B')
  (try k_fold)
  k_steps
  case refine'_31.refine'_4.refine'_4.refine'_9.refine'_4.refine'_4.refine'_4.refine_2.refine'_4.refine_2.refine'_4.refine_2.refine'_9.refine'_3.refine'_4 =>
    unfold Stop
    rename Fr g' _ _ _ => F1
    rename News g' _ _ _ => N1
    have hbnd : ¬ ((Txt.strip t).length : Int) < 2 := by assumption
    have hit : (Txt.item (Txt.strip t) 0 == Str.ofString "(") = true := by
      have hh : (Txt.item (Txt.strip t) 0 != Str.ofString "(") = false := by assumption
      simpa [bne] using hh
    refine' fmp_tells (i := 0) ?kB F1 ?kX N1 ?kT ?kk ?kd ?ku (by decide) (by omega) hit (by omega) rfl ?ret
    (case kB => k_asm)
    (case kX => k_asm)
    (case kT => k_asm)
    (case kk => exact rfl)
    (case kd => ktr_room)
    (case ku => ktr_units)
    intro v9 t9 h9 tk9 e9 F9 N9
    cases hr : scanAt (Txt.strip t).cps.toList (0 : Int).toNat 0 false false with
    | none =>
      rw [hr] at e9
      subst e9
      dsimp only [fmpVal]
      (try k_fold)
      k_steps
      all_goals (refine hret _ _ _ _ ?_ (by assumption) (by assumption))
      exact sop4 (by assumption) (by assumption) (by assumption) hr
    | some j =>
      rw [hr] at e9
      subst e9
      dsimp only [fmpVal]
      (try k_fold)
      k_steps
      all_goals (refine hret _ _ _ _ ?_ (by assumption) (by assumption))
      · exact sop5 (by assumption) (by assumption) (by assumption) hr (by assumption)
      · exact sop6 (by assumption) (by assumption) (by assumption) hr (by assumption)
  all_goals (refine hret _ _ _ _ ?_ (by assumption) (by assumption))
  · exact sop1 (by assumption)
  · exact sop2 (by assumption) (by assumption)
  · exact sop3 (by assumption) (by assumption) (by assumption)
end Mine
end
section
open PySem PySem.W PyProof.Rows
namespace Mine
abbrev sing (c : Nat) : Str := ⟨#[c]⟩
/-- the loop of quoted_token_parser, on codes -/
def qscan (cs : List Nat) (i : Nat) (q : Bool) (dn : List (List Nat)) (cu : List Nat) : List (List Nat) :=
  if h : i < cs.length then
    if cs[i] = 34 then
      if q = true ∧ cs[i+1]? = some 34 then qscan cs (i+2) q dn (cu ++ [34])
      else qscan cs (i+1) (!q) dn cu
    else if cs[i] = 46 ∧ q = false then qscan cs (i+1) q (dn ++ [cu]) []
    else qscan cs (i+1) q dn (cu ++ [cs[i]])
  else dn ++ [cu]
termination_by cs.length - i
theorem qscan_step {cs : List Nat} {i : Nat} {q : Bool} {dn : List (List Nat)} {cu : List Nat} {c : Nat} (h : cs[i]? = some c) : qscan cs i q dn cu =
    if c = 34 then
      if q = true ∧ cs[i+1]? = some 34 then qscan cs (i+2) q dn (cu ++ [34])
      else qscan cs (i+1) (!q) dn cu
    else if c = 46 ∧ q = false then qscan cs (i+1) q (dn ++ [cu]) []
    else qscan cs (i+1) q dn (cu ++ [c]) := by
  obtain ⟨hi, e⟩ := List.getElem?_eq_some_iff.mp h
  rw [qscan, dif_pos hi, e]
theorem qscan_end {cs : List Nat} {i : Nat} {q : Bool} {dn : List (List Nat)} {cu : List Nat} (h : cs.length ≤ i) : qscan cs i q dn cu = dn ++ [cu] := by
  rw [qscan, dif_neg (by omega)]
/-- a token's list, of one-sign texts -/
def TokOf (led : List (Addr × Obj)) (v : Value) (d : List Nat) : Prop := ∃ (a : Addr) (vs : List Value) (n : Nat), v = .ref a ∧ (a, listOf vs.toArray n) ∈ led ∧ StrsAre vs (d.map sing)
inductive Toks (led : List (Addr × Obj)) : List Value → List (List Nat) → Prop
  | nil : Toks led [] []
  | cons {v : Value} {d : List Nat} {us : List Value} {ds : List (List Nat)} : TokOf led v d → Toks led us ds → Toks led (v :: us) (d :: ds)
theorem Toks.mono {led led' : List (Addr × Obj)} {us : List Value} {ds : List (List Nat)} (h : Toks led us ds) (hs : ∀ p ∈ led, p ∈ led') : Toks led' us ds := by
  induction h with
  | nil => exact .nil
  | cons hv _ ih => obtain ⟨a, vs, n, e, hm, hS⟩ := hv; exact .cons ⟨a, vs, n, e, hs _ hm, hS⟩ ih
theorem Toks.snoc {led : List (Addr × Obj)} {us : List Value} {ds : List (List Nat)} {a : Addr} {vs : List Value} {n : Nat} {d : List Nat} (h : Toks led us ds) (hm : (a, listOf vs.toArray n) ∈ led) (hv : StrsAre vs (d.map sing)) : Toks led (us ++ [.ref a]) (ds ++ [d]) := by
  induction h with
  | nil => exact .cons ⟨a, vs, n, rfl, hm, hv⟩ .nil
  | cons hx _ ih => exact .cons hx ih
theorem Toks.length {led : List (Addr × Obj)} {us : List Value} {ds : List (List Nat)} (h : Toks led us ds) : us.length = ds.length := by
  induction h with
  | nil => rfl
  | cons _ _ ih => simp [ih]
theorem Toks.mem {led : List (Addr × Obj)} {us : List Value} {ds : List (List Nat)} (h : Toks led us ds) : ∀ v ∈ us, ∃ d ∈ ds, TokOf led v d := by
  induction h with
  | nil => intro v hv; cases hv
  | cons hx _ ih =>
    intro v hv
    rcases List.mem_cons.mp hv with rfl | hv
    · exact ⟨_, .head _, hx⟩
    · obtain ⟨d, hd, ht⟩ := ih v hv
      exact ⟨d, .tail _ hd, ht⟩
theorem strsAre_inj : ∀ {vs : List Value} {a b : List Str}, StrsAre vs a → StrsAre vs b → a = b
  | _, _, _, .nil, .nil => rfl
  | _, _, _, .cons y t h, h' => by
    cases h' with
    | cons _ _ h'' => rw [strsAre_inj h h'']
theorem map_sing_inj : ∀ {a b : List Nat}, a.map sing = b.map sing → a = b
  | [], [], _ => rfl
  | [], _ :: _, h => by cases h
  | _ :: _, [], h => by cases h
  | x :: r, y :: q, h => by
    rw [List.map_cons, List.map_cons] at h
    injection h with h1 h2
    injection h1 with h3
    have : x = y := by simpa using h3
    rw [this, map_sing_inj h2]
theorem TokOf.uniq {h₀ h : Heap} {L : Addr} {led : List (Addr × Obj)} (N : News h₀ L h led) {v : Value} {d d' : List Nat} (h1 : TokOf led v d) (h2 : TokOf led v d') : d = d' := by
  obtain ⟨a, vs, n, e, hm, hS⟩ := h1
  obtain ⟨a', vs', n', e', hm', hS'⟩ := h2
  rw [e] at e'
  injection e' with e'
  subst e'
  have g1 := (N _ hm).1
  have g2 := (N _ hm').1
  dsimp only at g1 g2
  rw [g1] at g2
  injection g2 with g2
  injection g2 with _ _ g3 _
  injection g3 with g4 _
  have : vs = vs' := by simpa using g4
  subst this
  exact map_sing_inj (strsAre_inj hS hS')
def wrap (d : List Nat) : Str := ⟨d.toArray⟩
/-- what quoted_token_parser gives -/
def qtpF (t : Str) : List Str :=
  if (Builtin.Str.occurrences t (Str.ofString "\"") 0 t.length 1).isEmpty = true then Txt.split t (Str.ofString ".")
  else (qscan t.cps.toList 0 false [] []).map wrap
theorem sq46 : (Str.ofString ".") = ⟨#[46]⟩ := by decide +kernel
theorem sqE : (Str.ofString "") = ⟨#[]⟩ := by decide +kernel
theorem item_sing {t : Str} {i : Int} (h0 : 0 ≤ i) (h1 : i < (t.length : Int)) {c : Nat} (h : t.cps.toList[i.toNat]? = some c) : Txt.item t i = sing c := by
  rw [item_meets ⟨h0, h1⟩]
  have hl : i.toNat < t.cps.size := by unfold Str.length at h1; omega
  have e : t.cps.toList[i.toNat]? = some (t.cps.getD i.toNat 0) := by simp [Array.getD, hl]
  rw [e] at h
  injection h with h
  rw [h]
theorem item_code {t : Str} {i : Int} (h0 : 0 ≤ i) (h1 : i < (t.length : Int)) : ∃ c, t.cps.toList[i.toNat]? = some c ∧ Txt.item t i = sing c := by
  have hl := ltL h0 h1
  exact ⟨_, List.getElem?_eq_getElem hl, item_sing h0 h1 (List.getElem?_eq_getElem hl)⟩
theorem join_sing (d : List Nat) : Txt.join (Str.ofString "") (d.map sing) = wrap d := by
  have key : ∀ (d : List Nat) (acc : Array Nat), (d.map sing).foldl (fun (acc : Array Nat) (p : Str) => acc ++ (Str.ofString "").cps ++ p.cps) acc = acc ++ d.toArray := by
    intro d
    induction d with
    | nil => intro acc; simp
    | cons c r ih =>
      intro acc
      rw [List.map_cons, List.foldl_cons, ih, sqE]
      simp only [sing]
      apply Array.ext'
      simp
  show Builtin.Str.glued _ _ = _
  unfold Builtin.Str.glued wrap
  cases d with
  | nil => rfl
  | cons c r =>
    rw [List.map_cons, List.drop_one, List.tail_cons, key, List.headD_cons]
    congr 1
    apply Array.ext'
    simp [sing]
def stB (st : Int) : Bool := decide (st = 1)
/-- the loop's word -/
def QP (t : Str) (R : List (List Nat)) (i st : Int) (dn : List (List Nat)) (cu : List Nat) : Prop := 0 ≤ i ∧ i ≤ (t.length : Int) ∧ (st = 0 ∨ st = 1) ∧ qscan t.cps.toList i.toNat (stB st) dn cu = R
section
variable {t : Str} {R : List (List Nat)} {i st : Int} {dn : List (List Nat)} {cu : List Nat}
theorem quo {t : Str} {i : Int} (h0 : 0 ≤ i) (h1 : i < (t.length : Int)) (ha : (Txt.item t i == Str.ofString "\"") = true) : t.cps.toList[i.toNat]? = some 34 := itt h0 h1 sq34 ha
theorem q1 (h0 : 0 ≤ i) (hs : st = 0 ∨ st = 1) (hP : qscan t.cps.toList i.toNat (stB st) dn cu = R) (h1 : i < (t.length : Int)) (ha : (Txt.item t i == Str.ofString "\"") = true) (hst : st = 1) (h2 : i < (t.length : Int) - 1) (hb : (Txt.item t (i+1) == Str.ofString "\"") = true) :
    QP t R (i+1+1) st dn (cu ++ [34]) := by
  refine ⟨by omega, by omega, hs, ?_⟩
  rw [qscan_step (quo h0 h1 ha), if_pos rfl, if_pos ⟨by simp [stB, hst], nx2 h0 (by omega) sq34 hb⟩] at hP
  rw [show (i+1+1).toNat = i.toNat + 2 from by omega]; exact hP
theorem xor1 (hst : st = 1) : Builtin.bitXor st 1 = 0 := by subst hst; decide +kernel
theorem xor0 (hs : st = 0 ∨ st = 1) (hst : st ≠ 1) : Builtin.bitXor st 1 = 1 := by
  rcases hs with rfl | rfl
  · decide +kernel
  · exact absurd rfl hst
theorem q2 (h0 : 0 ≤ i) (hs : st = 0 ∨ st = 1) (hP : qscan t.cps.toList i.toNat (stB st) dn cu = R) (h1 : i < (t.length : Int)) (ha : (Txt.item t i == Str.ofString "\"") = true) (hst : st = 1) (h2 : i < (t.length : Int) - 1) (hb : (Txt.item t (i+1) == Str.ofString "\"") = false) :
    QP t R (i+1) (Builtin.bitXor st 1) dn cu := by
  rw [xor1 hst]
  refine ⟨by omega, by omega, .inl rfl, ?_⟩
  rw [qscan_step (quo h0 h1 ha), if_pos rfl, if_neg (fun h => nx3 h0 (by omega) sq34 hb h.2)] at hP
  rw [toN1 h0, ← hP]; subst hst; rfl
theorem q3 (h0 : 0 ≤ i) (hs : st = 0 ∨ st = 1) (hP : qscan t.cps.toList i.toNat (stB st) dn cu = R) (h1 : i < (t.length : Int)) (ha : (Txt.item t i == Str.ofString "\"") = true) (hst : st = 1) (h2 : ¬ i < (t.length : Int) - 1) :
    QP t R (i+1) (Builtin.bitXor st 1) dn cu := by
  rw [xor1 hst]
  refine ⟨by omega, by omega, .inl rfl, ?_⟩
  rw [qscan_step (quo h0 h1 ha), if_pos rfl, if_neg (fun h => nx1 h0 (by omega) _ h.2)] at hP
  rw [toN1 h0, ← hP]; subst hst; rfl
theorem q4 (h0 : 0 ≤ i) (hs : st = 0 ∨ st = 1) (hP : qscan t.cps.toList i.toNat (stB st) dn cu = R) (h1 : i < (t.length : Int)) (ha : (Txt.item t i == Str.ofString "\"") = true) (hst : st ≠ 1) :
    QP t R (i+1) (Builtin.bitXor st 1) dn cu := by
  rw [xor0 hs hst]
  refine ⟨by omega, by omega, .inr rfl, ?_⟩
  have e : stB st = false := by simp [stB, hst]
  rw [qscan_step (quo h0 h1 ha), if_pos rfl, e, if_neg (fun h => absurd h.1 Bool.false_ne_true)] at hP
  rw [toN1 h0, ← hP]; rfl
theorem q5 (h0 : 0 ≤ i) (hs : st = 0 ∨ st = 1) (hP : qscan t.cps.toList i.toNat (stB st) dn cu = R) (h1 : i < (t.length : Int)) (ha : (Txt.item t i == Str.ofString "\"") = false) (hb : (Txt.item t i == Str.ofString ".") = true) (hst : st = 0) :
    QP t R (i+1) st (dn ++ [cu]) [] := by
  refine ⟨by omega, by omega, hs, ?_⟩
  have e : stB st = false := by simp [stB, hst]
  rw [qscan_step (itt h0 h1 sq46 hb), if_neg (by decide), if_pos ⟨rfl, e⟩] at hP
  rw [toN1 h0]; exact hP
theorem q6 (h0 : 0 ≤ i) (hs : st = 0 ∨ st = 1) (hP : qscan t.cps.toList i.toNat (stB st) dn cu = R) (h1 : i < (t.length : Int)) (ha : (Txt.item t i == Str.ofString "\"") = false) (hb : (Txt.item t i == Str.ofString ".") = true) (hst : st ≠ 0) :
    ∃ c, Txt.item t i = sing c ∧ QP t R (i+1) st dn (cu ++ [c]) := by
  obtain ⟨c, hc, he⟩ := item_code h0 h1
  refine ⟨c, he, by omega, by omega, hs, ?_⟩
  have e : stB st = true := by rcases hs with h | h; exact absurd h hst; simp [stB, h]
  have n1 : ¬ c = 34 := fun h => itf h0 h1 sq34 ha (by rw [hc, h])
  have n2 : ¬ (c = 46 ∧ stB st = false) := fun h => by rw [e] at h; exact absurd h.2 (by simp)
  rw [qscan_step hc, if_neg n1, if_neg n2] at hP
  rw [toN1 h0]; exact hP
theorem q7 (h0 : 0 ≤ i) (hs : st = 0 ∨ st = 1) (hP : qscan t.cps.toList i.toNat (stB st) dn cu = R) (h1 : i < (t.length : Int)) (ha : (Txt.item t i == Str.ofString "\"") = false) (hb : (Txt.item t i == Str.ofString ".") = false) :
    ∃ c, Txt.item t i = sing c ∧ QP t R (i+1) st dn (cu ++ [c]) := by
  obtain ⟨c, hc, he⟩ := item_code h0 h1
  refine ⟨c, he, by omega, by omega, hs, ?_⟩
  have n1 : ¬ c = 34 := fun h => itf h0 h1 sq34 ha (by rw [hc, h])
  have n2 : ¬ (c = 46 ∧ stB st = false) := fun h => itf h0 h1 sq46 hb (by rw [hc, h.1])
  rw [qscan_step hc, if_neg n1, if_neg n2] at hP
  rw [toN1 h0]; exact hP
theorem qend (h0 : 0 ≤ i) (hP : qscan t.cps.toList i.toNat (stB st) dn cu = R) (h1 : ¬ i < (t.length : Int)) : dn ++ [cu] = R := by
  rw [qscan_end (by rw [lenL]; omega)] at hP; exact hP
theorem qtp_a {t : Str} {l : List Str} (h : (Builtin.Str.occurrences t (Str.ofString "\"") 0 t.length 1).isEmpty = true) (hl : l = Txt.split t (Str.ofString ".")) {vs : List Value} (hS : StrsAre vs l) : StrsAre vs (qtpF t) := by
  rw [qtpF, if_pos h, ← hl]; exact hS
theorem qtp_b {t : Str} {R : List (List Nat)} (h : (Builtin.Str.occurrences t (Str.ofString "\"") 0 t.length 1).isEmpty = false) (hR : qscan t.cps.toList 0 false [] [] = R) {vs : List Value} (hS : StrsAre vs (R.map wrap)) : StrsAre vs (qtpF t) := by
  rw [qtpF, if_neg (by rw [h]; exact Bool.false_ne_true), hR]; exact hS
/-- what one element of the closing comprehension is -/
def EltIs (led : List (Addr × Obj)) (v y : Value) : Prop := ∃ tk, ∀ d, TokOf led v d → y = .str (wrap d) tk
theorem paired_toks {led : List (Addr × Obj)} : ∀ {us ys : List Value} {ds : List (List Nat)}, Toks led us ds → Paired (EltIs led) us ys → StrsAre ys (ds.map wrap)
  | _, _, _, .nil, .nil => .nil
  | _, _, _, .cons hx ht, .cons hF hP => by
    obtain ⟨tk, hF⟩ := hF
    rw [hF _ hx]
    exact .cons _ _ (paired_toks ht hP)
end
section
variable {prog : Program} {w : World} {A : Around} {E : Value → Shared → Prop} {s : Shared}
theorem call_join1 {a : Addr} {vs : List Value} {d : List Nat} {t : Tok} (hL : s.heap.IsList a vs.toArray) (hS : StrsAre vs (d.map sing)) (hz : d.length ≤ 1048576) :
    wpAny (model prog w) A (call (.builtin "str.join") [.str (Str.ofString "") t, .ref a]) (fun y s₃ => (∃ tk, y = .str (wrap d) tk) ∧ Keeps s s₃) E s := by
  have hc : CarriedAll vs (d.map fun c => PyData.str (sing c)) := by
    have := hS.carried
    rwa [List.map_map] at this
  refine KT.join_1 (g := sing) hL hc (fun _ _ => rfl) hz fun t' k' _ => ?_
  rw [join_sing]
  exact ⟨⟨t', rfl⟩, s.heap, k', rfl, fun _ _ e => e⟩
theorem keeps_tok {s s' : Shared} {k : Nat} (h : Keeps { s with toks := k } s') : Keeps s s' := by
  obtain ⟨h', tk, rfl, hk⟩ := h
  exact ⟨h', tk, rfl, hk⟩
end
end Mine
end
section
open PySem PySem.W PyProof.Rows PySem.Calls PySem.Spec
set_option Elab.async false
set_option maxRecDepth 100000
namespace Mine
theorem fill_c : (PySem.Challenge.rw_eu0032_01 = PySem.Challenge.rw_eu0032_01) ∧ (Mine.hd.heap_39 = Mine.hd.heap_39) := by w_top off; k_fill; exact ⟨rfl, rfl⟩
local macro_rules | `(tactic| walk_at "exec While Compare cons nil") => `(tactic| (refine Stop.out ?_))
local macro_rules | `(tactic| walk_at "eval ListComp") => `(tactic| (refine Stop.out ?_))
local macro_rules | `(tactic| walk_at "KswEnd") => `(tactic| (refine Stop.out ?_))
section
variable {prog : Program} {w : World} {A : Around} {E : Value → Shared → Prop} {s : Shared}
theorem my_last {value slice : PySem.Expr} {l : Addr} {vs : List Value} {u : Tok} {v : Value} {Q : Value → Shared → Prop} (hl : s.heap.IsList l (vs ++ [v]).toArray) (h : Q v s)
    (hs : subscripted slice false (.ref l) (.int (-1) u) = operate [.ref l, .int (-1) u] (getItem (.ref l) (.int (-1) u)) := by with_unfolding_all rfl) :
    wpAny (model prog w) A (subscriptTail value slice (.ref l) (.int (-1) u)) Q E s :=
  kde_neg (j := vs.length) hl (by decide) (by decide) (by rw [List.length_append, List.length_singleton]; rw [seqIndex_neg (by decide) (by omega)]; congr 1; omega) (by simp) h hs
end
theorem all_ne1 {l : List (Addr × Obj)} {a b : Addr} (h : ∀ p ∈ l, p.1 ≠ a ∧ p.1 ≠ b) : ∀ p ∈ l, p.1 ≠ a := fun p hp => (h p hp).1
theorem all_ne2 {l : List (Addr × Obj)} {a b : Addr} (h : ∀ p ∈ l, p.1 ≠ a ∧ p.1 ≠ b) : ∀ p ∈ l, p.1 ≠ b := fun p hp => (h p hp).2
local macro_rules | `(tactic| k_all) => `(tactic| first | exact all_ne1 (by assumption) | exact all_ne2 (by assumption))
local macro_rules | `(tactic| walk_at "subscriptTail Name UnaryOp ref int") => `(tactic| (k_here; (with_reducible show wpAny _ _ (subscriptTail _ _ (Value.ref _) (Value.int _ _)) _ _ _); (with_unfolding_all refine' my_last ?k1 ?_ ?k6; (case k1 => is_list); (case k6 => with_unfolding_all rfl); k_whole)))
structure QS where
  i : Int
  ti : Tok
  st : Int
  ts : Tok
  pre : List Value
  cur : Addr
  cvs : List Value
  n1 : Nat
  n2 : Nat
  older : List (Addr × Obj)
  dn : List (List Nat)
  cu : List Nat
def QLed (res : Addr) (news : List (Addr × Obj)) (c : QS) : List (Addr × Obj) :=
  (res, listOf (c.pre ++ [Value.ref c.cur]).toArray c.n1) :: (c.cur, listOf c.cvs.toArray c.n2) :: (c.older ++ news)
def QPs (c : QS) : List (Str × Value) := [(Str.ofString "idx", .int c.i c.ti), (Str.ofString "state", .int c.st c.ts)]
def QFacts (res : Addr) (news : List (Addr × Obj)) (c : QS) : Prop := @Ne Nat c.cur res ∧ StrsAre c.cvs (c.cu.map sing) ∧ (∀ p ∈ c.older ++ news, p.1 ≠ c.cur ∧ p.1 ≠ res) ∧ c.pre.length + c.cvs.length ≤ c.i.toNat ∧ Toks c.older c.pre c.dn ∧ ∀ d ∈ c.dn, d.length ≤ 1048576
theorem q_start {l1 l2 : Addr} {news : List (Addr × Obj)} {ti ts : Tok} {n1 n2 : Nat} (h1 : ∀ p ∈ news, p.1 < l1) (h2 : l1 < l2 ∧ AllLt l2 news) : QFacts l2 news ⟨0, ti, 0, ts, [], l1, [], n1, n2, [], [], []⟩ :=
  ⟨Nat.ne_of_lt h2.1, .nil, fun p hp => by
    have h3 := h1 p hp
    have h4 := h2.1
    exact ⟨Nat.ne_of_lt h3, Nat.ne_of_lt (Nat.lt_trans h3 h4)⟩, Nat.le_refl _, .nil, fun _ h => nomatch h⟩
theorem q_app {res : Addr} {news : List (Addr × Obj)} {i i' : Int} {ti ti' ts ts' : Tok} {st st' : Int} {pre : List Value} {cur : Addr} {cvs : List Value} {n1 n1' n2 n2' : Nat} {older : List (Addr × Obj)} {dn : List (List Nat)} {cu : List Nat} {x : Str} {tx : Tok} {c : Nat}
    (h : QFacts res news ⟨i, ti, st, ts, pre, cur, cvs, n1, n2, older, dn, cu⟩) (hx : x = sing c) (hi : i.toNat + 1 ≤ i'.toNat) : QFacts res news ⟨i', ti', st', ts', pre, cur, cvs ++ [.str x tx], n1', n2', older, dn, cu ++ [c]⟩ := by
  obtain ⟨h1, h2, h3, h4, h5, h6⟩ := h
  subst hx
  refine ⟨h1, ?_, h3, ?_, h5, h6⟩
  · show StrsAre _ ((cu ++ [c]).map sing)
    rw [List.map_append]
    exact h2.append' (.cons _ _ .nil)
  · show pre.length + (cvs ++ [Value.str (sing c) tx]).length ≤ i'.toNat
    have h4' : pre.length + cvs.length ≤ i.toNat := h4
    rw [List.length_append, List.length_singleton]; omega
theorem q_same {res : Addr} {news : List (Addr × Obj)} {i i' : Int} {ti ti' ts ts' : Tok} {st st' : Int} {pre : List Value} {cur : Addr} {cvs : List Value} {n1 n1' n2 n2' : Nat} {older : List (Addr × Obj)} {dn : List (List Nat)} {cu : List Nat}
    (h : QFacts res news ⟨i, ti, st, ts, pre, cur, cvs, n1, n2, older, dn, cu⟩) (hi : i.toNat ≤ i'.toNat) : QFacts res news ⟨i', ti', st', ts', pre, cur, cvs, n1', n2', older, dn, cu⟩ := by
  obtain ⟨h1, h2, h3, h4, h5, h6⟩ := h
  refine ⟨h1, h2, h3, ?_, h5, h6⟩
  have h4' : pre.length + cvs.length ≤ i.toNat := h4
  show pre.length + cvs.length ≤ i'.toNat
  omega
theorem q_new {res l3 : Addr} {news : List (Addr × Obj)} {i i' : Int} {ti ti' ts ts' : Tok} {st st' : Int} {pre : List Value} {cur : Addr} {cvs : List Value} {n1 n1' n2 n2' : Nat} {older : List (Addr × Obj)} {dn : List (List Nat)} {cu : List Nat}
    (h : QFacts res news ⟨i, ti, st, ts, pre, cur, cvs, n1, n2, older, dn, cu⟩) (hl : res < l3 ∧ cur < l3 ∧ AllLt l3 (older ++ news)) (hi : i.toNat + 1 ≤ i'.toNat) (hb : i.toNat ≤ 1048576) :
    QFacts res news ⟨i', ti', st', ts', pre ++ [.ref cur], l3, [], n1', n2', (cur, listOf cvs.toArray n2) :: older, dn ++ [cu], []⟩ := by
  obtain ⟨h1, h2, h3, h4, h5, h6⟩ := h
  have h4' : pre.length + cvs.length ≤ i.toNat := h4
  have hlen : cvs.length = cu.length := by have := h2.length; simpa using this
  have lt_of : ∀ {l : List (Addr × Obj)}, AllLt l3 l → ∀ p ∈ l, p.1 < l3 := by
    intro l
    induction l with
    | nil => intro _ p hp; cases hp
    | cons q r ih =>
      intro h p hp
      rcases List.mem_cons.mp hp with rfl | hp
      · exact h.1
      · exact ih h.2 p hp
  refine ⟨Nat.ne_of_gt hl.1, .nil, ?_, ?_, ?_, ?_⟩
  · intro p hp
    rcases List.mem_cons.mp hp with rfl | hp
    · exact ⟨Nat.ne_of_lt hl.2.1, h1⟩
    · exact ⟨Nat.ne_of_lt (lt_of hl.2.2 p hp), (h3 p hp).2⟩
  · show (pre ++ [Value.ref cur]).length + ([] : List Value).length ≤ i'.toNat
    rw [List.length_append, List.length_singleton, List.length_nil]; omega
  · exact (h5.mono fun p hp => .tail _ hp).snoc (.head _) h2
  · intro d hd
    rcases List.mem_append.mp hd with hd | hd
    · exact h6 d hd
    · rw [List.mem_singleton.mp hd, ← hlen]; omega
theorem q_mem {res : Addr} {news : List (Addr × Obj)} {l3 cur : Addr} {o1 o2 o3 : Obj} {older : List (Addr × Obj)} : ∀ p ∈ (res, o1) :: (l3, o2) :: (((cur, o3) :: older) ++ news), p ∈ (l3, o2) :: (res, o1) :: (cur, o3) :: (older ++ news) := by
  intro p hp
  simp only [List.cons_append, List.mem_cons, List.mem_append] at hp ⊢
  rcases hp with h | h | h | h <;> simp [h]
section
variable {prog : Program} {w : World} {A : Around} {E : Value → Shared → Prop} {s : Shared} {h₀ : Heap} {L D : Addr} {m : Str → Option Value} {news news' : List (Addr × Obj)}
theorem append_my {vs : List Value} {n : Nat} {x : Value} {Q : Value → Shared → Prop} (F : Fr h₀ L s.heap m) (N : News h₀ L s.heap news) (U : Upd D (listOf vs.toArray n) (listOf (vs ++ [x]).toArray (n + 1)) news news')
    (hsz : vs.length ≤ 4000000) (h : ∀ h', Fr h₀ L h' m → News h₀ L h' news' → Q .none { s with heap := h' }) : wpAny (model prog w) A (call (.builtin "list.append") [.ref D, x]) Q E s := by
  refine append_K (its := vs.toArray) (n := n) (news' := news') F N ?_ h (by rw [sizeLine_eq, List.size_toArray]; omega)
  have e : (vs ++ [x]).toArray = vs.toArray.push x := by simp
  rwa [e] at U
end
local macro_rules | `(tactic| walk_at "call builtin:list.append") => `(tactic| (k_here; (with_reducible show wpAny _ _ (call (Value.builtin _) [Value.ref _, _]) _ _ _); k_dflt (refine' append_my ?k1 ?k2 ?k3 ?z ?_; (case k1 => k_asm); (case k2 => k_asm); (case k3 => k_upd); (case z => ((try simp only [List.length_append, List.length_singleton]); omega)); k_whole); intro h' F' N'; (try k_sweep)))
set_option maxHeartbeats 8000000 in
theorem qtp_tells {w : World} {p : Program} {loose : List Str} {mean : ExcName → Option Value} {mg mb : Str → Option Value}
   {dp un : Nat} {gd : Option (List Code)} {cn : Str} {cs : Scope} {a : Addr} {ccd : Value} {cl : List (Str × Addr)} {outer : List Env} {A₀ : Around} {base h₀ : Heap} {L : Addr} {m : Str → Option Value} {news : List (Addr × Obj)} {s : Shared} {Q E : Value → Shared → Prop}
   {t : Str} {tk : Tok}
   (B : Below A₀ base outer h₀) (F : Fr h₀ L s.heap m) (X : (Mine.hd.heap_39 w.params).In h₀) (N : News h₀ L s.heap news) (T : Top p loose mean mg mb h₀) (hk : cs.kind = .function)
   (hd : dp + 2 < recursionLimit) (hu : un + 16 < cLine)
   (hsz : t.length ≤ 1048576)
   {R : List (List Nat)} (hR : qscan t.cps.toList 0 false [] [] = R)
   (hret : ∀ (l : Addr) (vs : List Value) (h' : Heap) (tk' : Nat), StrsAre vs (qtpF t) → Fr h₀ L h' m → News h₀ L h' news → h'.IsList l vs.toArray → Q (.ref l) { s with heap := h', toks := tk' })
   : wpAny (model PySem.Challenge.rw_eu0032_01.row.prog w) (ktrTop dp un gd cn cs L a ccd cl outer) (call (.ref 34) [.str t tk]) Q E s := by
  refine wpAny_call ?_
  refine' code_def ?k1 ?k2 ?k3 ?k4 ?k5 ?kA ?kF ?kK ?k6 ?k7 ?k8 ?k9 ?kB ?_ ?c2 ?c3 ?c4 ?c5
  (case kA => exact rfl)
  (case kF => exact rfl)
  (case kK => assumption)
  (case k1 => k_asm)
  (case k2 => k_asm)
  (case k3 => k_asm)
  (case k4 => k_asm)
  (case k5 => k_asm)
  (case k6 => k_is)
  (case k7 => k_is)
  (case k8 => ktr_room)
  (case k9 => first | exact BindsTo.of_eq rfl | exact binds_K (by k_in) rfl (by k_is) rfl rfl rfl)
  (case c5 => decide)
  (case kB => exact locs rfl)
  (case c2 => exact rfl)
  (case c3 => exact rfl)
  (case c4 => exact rfl)
  intro g' L' h' FG' F' N' B' X' T'
  (try dsimp only)
  (try k_lift B')
  (try k_fold)
  k_steps
  case refine'_31.refine'_4.refine_2.refine'_4.refine'_5.refine'_5.refine'_4.refine'_4.refine'_9.refine'_4.refine'_4 =>
    unfold Stop
    rename Fr g' _ _ _ => F1
    rename News g' _ _ _ => N1
    refine' ksw_while (σ := QS) (QLed ?res news) QPs (QFacts ?res news) [Str.ofString "char"] (fun c => QP t R c.i c.st c.dn c.cu) (fun c => t.length - c.i.toNat) ⟨0, _, 0, _, [], _, [], _, _, [], [], []⟩ F1 N1 ?kf ?hk ?hp ?turn ?hE
    (case hk => kst_all)
    (case hp => exact ⟨Int.le_refl _, Int.natCast_nonneg _, .inl rfl, hR⟩)
    (case hE => first | passes_own | with_unfolding_all passes_own)
    (case kf =>
      rename (_ : Nat) < _ ∧ AllLt _ _ => hl2
      rename ∀ p ∈ news, p.1 < _ => hl1
      exact q_start hl1 hl2)
    (case turn =>
      clear F1 N1
      rintro ⟨wi, wti, wst, wts, wpre, wcur, wcvs, wn1, wn2, wold, wdn, wcu⟩ wu wh wtk wf wP wF wN
      have wf0 := wf
      dsimp only [kstB, QPs, QLed, QFacts] at wf wP wF wN
      obtain ⟨wf1, wf2, wf3, wf4, wf5, wf6⟩ := wf
      obtain ⟨wP0, wPl, wP1, wP2⟩ := wP
      (try k_fold)
      k_steps
      · unfold Stop
        rename Fr g' _ _ _ => F2
        rename News g' _ _ _ => N2
        refine' ksw_end ⟨_, _, _, _, wpre, wcur, wcvs ++ [_], _, _, wold, wdn, wcu ++ [34]⟩ F2 N2 (fun _ h => h) ?kf1 ?k1 ?k2 ?k3 ?k4
        (case k1 => kst_all)
        (case k2 => dsimp only [QPs]; ksw_same)
        (case kf1 => exact q_app wf0 sq34 (by omega))
        (case k3 => exact q1 wP0 wP1 wP2 (by assumption) (by assumption) (by assumption) (by assumption) (by assumption))
        (case k4 => dsimp only; omega)
      · unfold Stop
        rename Fr g' _ _ _ => F2
        rename News g' _ _ _ => N2
        refine' ksw_end ⟨_, _, _, _, wpre, wcur, wcvs, _, _, wold, wdn, wcu⟩ F2 N2 (fun _ h => h) ?kf2 ?k1 ?k2 ?k3 ?k4
        (case k1 => kst_all)
        (case k2 => dsimp only [QPs]; ksw_same)
        (case kf2 => exact q_same wf0 (by omega))
        (case k3 => exact q2 wP0 wP1 wP2 (by assumption) (by assumption) (by assumption) (by assumption) (by assumption))
        (case k4 => dsimp only; omega)
      · unfold Stop
        rename Fr g' _ _ _ => F2
        rename News g' _ _ _ => N2
        refine' ksw_end ⟨_, _, _, _, wpre, wcur, wcvs, _, _, wold, wdn, wcu⟩ F2 N2 (fun _ h => h) ?kf3 ?k1 ?k2 ?k3 ?k4
        (case k1 => kst_all)
        (case k2 => dsimp only [QPs]; ksw_same)
        (case kf3 => exact q_same wf0 (by omega))
        (case k3 => exact q3 wP0 wP1 wP2 (by assumption) (by assumption) (by assumption) (by assumption))
        (case k4 => dsimp only; omega)
      · unfold Stop
        rename Fr g' _ _ _ => F2
        rename News g' _ _ _ => N2
        refine' ksw_end ⟨_, _, _, _, wpre, wcur, wcvs, _, _, wold, wdn, wcu⟩ F2 N2 (fun _ h => h) ?kf4 ?k1 ?k2 ?k3 ?k4
        (case k1 => kst_all)
        (case k2 => dsimp only [QPs]; ksw_same)
        (case kf4 => exact q_same wf0 (by omega))
        (case k3 => exact q4 wP0 wP1 wP2 (by assumption) (by assumption) (by assumption))
        (case k4 => dsimp only; omega)
      · unfold Stop
        rename Fr g' _ _ _ => F2
        rename News g' _ _ _ => N2
        refine' ksw_end ⟨_, _, _, _, wpre ++ [.ref wcur], _, [], _, _, (wcur, listOf wcvs.toArray wn2) :: wold, wdn ++ [wcu], []⟩ F2 N2 q_mem ?kf5 ?k1 ?k2 ?k3 ?k4
        (case k1 => kst_all)
        (case k2 => dsimp only [QPs]; ksw_same)
        (case kf5 => exact q_new wf0 (by assumption) (by omega) (by omega))
        (case k3 => exact q5 wP0 wP1 wP2 (by assumption) (by assumption) (by assumption) (by assumption))
        (case k4 => dsimp only; omega)
      · unfold Stop
        rename Fr g' _ _ _ => F2
        rename News g' _ _ _ => N2
        obtain ⟨wc, hce, hcq⟩ := q6 wP0 wP1 wP2 (by assumption) (by assumption) (by assumption) (by assumption)
        refine' ksw_end ⟨_, _, _, _, wpre, wcur, wcvs ++ [_], _, _, wold, wdn, wcu ++ [wc]⟩ F2 N2 (fun _ h => h) ?kf6 ?k1 ?k2 ?k3 ?k4
        (case k1 => kst_all)
        (case k2 => dsimp only [QPs]; ksw_same)
        (case kf6 => exact q_app wf0 hce (by omega))
        (case k3 => exact hcq)
        (case k4 => dsimp only; omega)
      · unfold Stop
        rename Fr g' _ _ _ => F2
        rename News g' _ _ _ => N2
        obtain ⟨wc, hce, hcq⟩ := q7 wP0 wP1 wP2 (by assumption) (by assumption) (by assumption)
        refine' ksw_end ⟨_, _, _, _, wpre, wcur, wcvs ++ [_], _, _, wold, wdn, wcu ++ [wc]⟩ F2 N2 (fun _ h => h) ?kf7 ?k1 ?k2 ?k3 ?k4
        (case k1 => kst_all)
        (case k2 => dsimp only [QPs]; ksw_same)
        (case kf7 => exact q_app wf0 hce (by omega))
        (case k3 => exact hcq)
        (case k4 => dsimp only; omega)
      · unfold Stop
        rename Fr g' _ _ _ => F2
        rename News g' _ _ _ => N2
        have hR2 := qend wP0 wP2 (by assumption)
        have N3 : News g' L' wh ((wcur, listOf wcvs.toArray wn2) :: (wold ++ news)) := fun p hp => N2 p (.tail _ hp)
        have hT : Toks ((wcur, listOf wcvs.toArray wn2) :: (wold ++ news)) (wpre ++ [Value.ref wcur]) R := by
          rw [← hR2]
          exact (wf5.mono fun p hp => .tail _ (List.mem_append.mpr (.inl hp))).snoc (.head _) wf2
        have hcu : wcvs.length = wcu.length := by have := wf2.length; simpa using this
        have hD : ∀ d ∈ R, d.length ≤ 1048576 := by
          rw [← hR2]
          intro d hd
          rcases List.mem_append.mp hd with hd | hd
          · exact wf6 d hd
          · rw [List.mem_singleton.mp hd]; omega
        refine wpAny_ListComp_map (fun _ => true) (EltIs ((wcur, listOf wcvs.toArray wn2) :: (wold ++ news))) rfl (by decide) (by decide) rfl (by decide) rfl ?_
        walk1
        refine ⟨_, (wpre ++ [Value.ref wcur]).toArray, rfl, (N2 _ (.head _)).1 |> fun e => ⟨_, e, rfl, _, rfl⟩, by rw [sizeLine_eq, List.size_toArray, List.length_append, List.length_singleton]; omega, fun C v s₂ m₂ E' hv hn hm hk => wpAny_tests_nil ⟨rfl, s₂.heap, s₂.toks, rfl, fun _ _ e => e⟩, fun C v s₂ m₂ E' hv _ hn hm hk => ?_, fun D h2 tk2 ys hnew hl hP hkeep => ?_⟩
        · obtain ⟨d, hd, hTk⟩ := hT.mem v (by simpa using hv)
          have hTk0 := hTk
          obtain ⟨a', vs', n', rfl, hm', hS'⟩ := hTk
          refine MethodCall_ ?_
          refine Calls.Constant_str ?_
          refine GM.join ?_
          refine callWith_method1 ?_
          refine args_cons ?_
          refine wpAny_Name (wpAny_loadName_local rfl rfl hn hm ?_)
          refine args_nil ?_
          refine wpAny_mono (call_join1 (d := d) ⟨_, hk _ _ (N3 _ hm').1, rfl, _, rfl⟩ hS' (hD d hd)) (fun y s₃ h3 => ?_) fun _ _ e => e
          obtain ⟨⟨t3, e3⟩, h3⟩ := h3
          exact ⟨⟨t3, fun d2 hd2 => by rw [e3, TokOf.uniq N3 hd2 hTk0]⟩, keeps_tok h3⟩
        · have hys := paired_toks (ys := ys.toList) hT (by rw [filter_allG] at hP; exact hP)
          have F3 := F2.keeps hkeep
          have N4 : News g' L' h2 news := fun p hp => by
            have h4 := N3 p (.tail _ (List.mem_append.mpr (.inr hp)))
            exact ⟨hkeep _ _ h4.1, h4.2⟩
          clear N2 F2 N3
          (try dsimp only)
          k_steps
          exact hret D ys.toList _ _ (qtp_b (by assumption) hR hys) (by assumption) (by assumption) hl)
  rename News h₀ L _ _ => N2
  exact hret _ _ _ _ (qtp_a (by assumption) (by assumption) (by assumption)) (by assumption) (fun p hp => N2 p (.tail _ hp)) (by assumption)
end Mine
end
section
open PySem PySem.W PyProof.Rows PySem.Calls PySem.Spec
namespace Mine
/-- a turn's end: what is kept (the iterator's own objects) stands, the ledger may have grown -/
def TurnEnd (h₀ : Heap) (L : Addr) (s : Shared) (keep : List (Addr × Obj)) (J : (Str → Option Value) → List (Addr × Obj) → Prop) (s₂ : Shared) : Prop :=
  ∃ h' tk m₂ news₂, s₂ = { s with heap := h', toks := tk } ∧ Fr h₀ L h' m₂ ∧ News h₀ L h' (keep ++ news₂) ∧ (∀ p ∈ news₂, ∀ q ∈ keep, p.1 ≠ q.1) ∧ J m₂ news₂
def StepEnd (h₀ : Heap) (L : Addr) (s : Shared) (keep : List (Addr × Obj)) (J : (Str → Option Value) → List (Addr × Obj) → Prop) (Q : Flow → Shared → Prop) (f : Flow) (s₂ : Shared) : Prop :=
  match f with
  | .ret v => Q (.ret v) s₂
  | .brk => Q .next s₂
  | _ => TurnEnd h₀ L s keep J s₂
theorem TurnEnd.intro {h₀ : Heap} {L : Addr} {s : Shared} {keep : List (Addr × Obj)} {J : (Str → Option Value) → List (Addr × Obj) → Prop} {h' : Heap} {tk : Nat} {m₂ : Str → Option Value} {news' : List (Addr × Obj)} (news₂ : List (Addr × Obj))
    (F : Fr h₀ L h' m₂) (N : News h₀ L h' news') (hs : ∀ p ∈ keep ++ news₂, p ∈ news') (hd : ∀ p ∈ news₂, ∀ q ∈ keep, p.1 ≠ q.1) (hJ : J m₂ news₂) : TurnEnd h₀ L s keep J { s with heap := h', toks := tk } :=
  ⟨h', tk, m₂, news₂, rfl, F, fun p hp => N p (hs p hp), hd, hJ⟩
section
variable {prog : Program} {w : World} {A : Around} {s : Shared} {env : Env} {h₀ : Heap}
/-- a loop over pairs, the ledger grows; iterator objects: fp, those it writes: wr (all new) -/
theorem for_two {R : Result → Shared → Prop} {xi xc : Str} {pk pv pt : Pos} {x1 : Nat} {body : List Stmt} {I : Addr} {fp wr : List Addr} {n : Nat} {Pt : Nat → Array Value → Prop} {St : Nat → Heap → Prop} {Mid : Nat → Addr → Heap → Prop}
    {P2 : Nat → Value → Value → Prop} {m : Str → Option Value} {news : List (Addr × Obj)} (hh : A.handled = none) (W : WalksU prog w A I fp wr n Pt St Mid) (h2 : ∀ i vals, Pt i vals → ∃ v0 v1, vals = #[v0, v1] ∧ P2 i v0 v1)
    (hxi : env.kindOf xi = some .local) (hxc : env.kindOf xc = some .local)
    (hp : (env.scope.kind == .class || (env.scope.kind == .module && env.locals != env.globals)) = false)
    (hLf : env.locals ∉ fp) (hwr : ∀ b ∈ wr, h₀.get? b = none) (hnw : ∀ p ∈ news, p.1 ∉ wr)
    (hst : St 0 s.heap) (F : Fr h₀ env.locals s.heap m) (N : News h₀ env.locals s.heap news)
    (J : Nat → (Str → Option Value) → List (Addr × Obj) → Prop) (h0 : J 0 m news)
    (step : ∀ i v0 v1 m₁ news₁ h tk, i < n → P2 i v0 v1 → J i m₁ news₁ → (∀ p ∈ news₁, p.1 ∉ wr) → St (i + 1) h →
      Fr h₀ env.locals h (fun y => if y = xc then some v1 else if y = xi then some v0 else m₁ y) → News h₀ env.locals h news₁ →
      wpAny (model prog w) A (execs body env) (fun f s₂ => match f with
        | .ret v => R (.ok (.ret v)) s₂
        | .brk => R (.ok .next) s₂
        | _ => ∃ h' tk' m₂ news₂, s₂ = { s with heap := h', toks := tk' } ∧ Fr h₀ env.locals h' m₂ ∧ News h₀ env.locals h' news₂ ∧ (∀ p ∈ news₂, p.1 ∉ wr) ∧ St (i + 1) h' ∧ J (i + 1) m₂ news₂)
        (notedBy (model prog w) A env fun e s' => R (.error e) s') { s with heap := h, toks := tk })
    (hR : ∀ h' tk m' news', Fr h₀ env.locals h' m' → News h₀ env.locals h' news' → J n m' news' → R (.ok .next) { s with heap := h', toks := tk }) :
    codeAny (model prog w) A (.forLoop (.Tuple [.Name xi pk, .Name xc pv] x1 pt) (.ref I) body [] env) R s := by
  have hLw : env.locals ∉ wr := fun h => hLf (W.sub _ h)
  have old : ∀ b o, h₀.get? b = some o → b ∉ wr := fun b o e hb => by rw [hwr b hb] at e; cases e
  refine codeAny_forLoop_any
    (fun k s' => ∃ h' tk m' news' i, s' = { s with heap := h', toks := tk } ∧ St i h' ∧ Fr h₀ env.locals h' m' ∧ News h₀ env.locals h' news' ∧ (∀ p ∈ news', p.1 ∉ wr) ∧ J i m' news' ∧ i ≤ n ∧ k = n + 1 - i) ?_ (n + 1)
    ⟨s.heap, s.toks, m, news, 0, rfl, hst, F, N, hnw, h0, Nat.zero_le _, rfl⟩
  rintro k s' ⟨H, tk, m', news', i, rfl, hst', F', N', ha', hJ, hi, rfl⟩
  have next : ∀ h₁ : Heap, (∀ b o, b ∉ wr → H.get? b = some o → h₁.get? b = some o) → Fr h₀ env.locals h₁ m' ∧ News h₀ env.locals h₁ news' := fun h₁ hk₁ =>
    ⟨⟨F'.ns.at' fun o e => hk₁ _ o hLw e, fun b o e => hk₁ b o (old b o e) (F'.keep b o e), F'.above⟩, fun p hp => ⟨hk₁ _ _ (ha' p hp) (N' p hp).1, (N' p hp).2⟩⟩
  by_cases hlt : i < n
  · refine W.item i _ _ _ hlt hst' fun T vals h₁ tk₁ hPt hT hMid hk₁ => ?_
    obtain ⟨v0, v1, rfl, hP2⟩ := h2 i vals hPt
    refine W.go _ x1 pt i T _ _ _ hMid fun h₂ hst₂ hk₂ => ?_
    have ht₂ : h₂.IsTuple T #[v0, v1] := hT.at fun o e => hk₂ T o (W.apart i T h₁ hMid) e
    refine wpAny_assign_Tuple hh ht₂ rfl rfl fun h₃ hx₃ => ?_
    replace hx₃ : Heap.ExtBut h₂.objs.size h₂ h₃ := hx₃
    have up₃ : ∀ b o, h₂.get? b = some o → h₃.get? b = some o := fun b o x => hx₃ b o (Nat.ne_of_lt (Heap.lt_size x)) x
    obtain ⟨F₃, N₃⟩ := next h₃ fun b o hb x => up₃ b o (hk₂ b o hb (hk₁ b o hb x))
    show wpAny _ A (do holding [v1] (assign (.Name xi pk) env v0); do holding [] (assign (.Name xc pv) env v1); pure ()) _ _ _
    refine wpAny_bind (wpAny_holding (wpAny_assign_Name (wpAny_storeName_local hxi F₃.ns (fun h₄ hn₄ hs₄ => ?_) hp)))
    replace hs₄ : Heap.SameBut env.locals h₃ h₄ := hs₄
    have F₄ := F₃.set hn₄ hs₄
    refine wpAny_bind (wpAny_holding (wpAny_assign_Name (wpAny_storeName_local hxc F₄.ns (fun h₅ hn₅ hs₅ => wpAny_pure ?_) hp)))
    replace hs₅ : Heap.SameBut env.locals h₄ h₅ := hs₅
    have F₅ := F₄.set hn₅ hs₅
    have N₅ : News h₀ env.locals h₅ news' := (N₃.set hs₄).set hs₅
    have hst₅ : St (i + 1) h₅ := W.frame _ _ _ hst₂ fun b hb o e => hs₅.extBut b o (fun q => hLf (q ▸ hb)) (hs₄.extBut b o (fun q => hLf (q ▸ hb)) (up₃ b o e))
    refine wpAny_mono (step i v0 v1 m' news' _ _ hlt hP2 hJ ha' hst₅ F₅ N₅) (fun f s₃ h₆ => ?_) fun _ _ e => e
    cases f with
    | ret v => exact h₆
    | brk => exact h₆
    | cont =>
      obtain ⟨h₆', tk₆, m₂, news₂, rfl, F₆, N₆, ha₆, hst₆, hJ₆⟩ := h₆
      exact ⟨n + 1 - (i + 1), by omega, h₆', tk₆, m₂, news₂, i + 1, rfl, hst₆, F₆, N₆, ha₆, hJ₆, hlt, rfl⟩
    | next =>
      obtain ⟨h₆', tk₆, m₂, news₂, rfl, F₆, N₆, ha₆, hst₆, hJ₆⟩ := h₆
      exact ⟨n + 1 - (i + 1), by omega, h₆', tk₆, m₂, news₂, i + 1, rfl, hst₆, F₆, N₆, ha₆, hJ₆, hlt, rfl⟩
  · have hin : i = n := by omega
    subst hin
    refine W.done _ _ _ hst' fun h₁ tk₁ hk₁ => wpAny_execs_nil ?_
    obtain ⟨F₁, N₁⟩ := next h₁ hk₁
    exact hR h₁ tk₁ m' news' F₁ N₁ hJ
theorem enum_loop {E : Value → Shared → Prop} {Q : Flow → Shared → Prop} {xi xc : Str} {pk pv pt : Pos} {x1 : Nat} {body : List Stmt} {e it l : Addr} {vs : List Value} {nn : Nat} {m : Str → Option Value} {news : List (Addr × Obj)}
    (hh : A.handled = none) (hxi : env.kindOf xi = some .local) (hxc : env.kindOf xc = some .local)
    (hp : (env.scope.kind == .class || (env.scope.kind == .module && env.locals != env.globals)) = false)
    (J : Nat → (Str → Option Value) → List (Addr × Obj) → Prop)
    (he : IsEnum s.heap e it 0 .none) (hit : s.heap.IsListIter it l 0) (hei : e ≠ it) (hle : l ≠ e) (hli : l ≠ it) (hLe : env.locals ≠ e) (hLi : env.locals ≠ it) (hLl : env.locals ≠ l) (h0e : h₀.get? e = none) (h0i : h₀.get? it = none)
    (F : Fr h₀ env.locals s.heap m) (N : News h₀ env.locals s.heap news) (hnw : ∀ p ∈ news, p.1 ≠ e ∧ p.1 ≠ it) (h0 : J 0 m news) (hJl : ∀ i m nw, J i m nw → (l, listOf vs.toArray nn) ∈ nw)
    (hE : PassesOwn (model prog w) A env E)
    (step : ∀ (i : Nat) v t m₁ news₁ h tk oe oi, vs[i]? = some v → J i m₁ news₁ → (∀ p ∈ news₁, p.1 ≠ e ∧ p.1 ≠ it) → Fr h₀ env.locals h (fun y => if y = xc then some v else if y = xi then some (.int i t) else m₁ y) → News h₀ env.locals h ([(e, oe), (it, oi)] ++ news₁) →
      wpAny (model prog w) A (execs body env) (StepEnd h₀ env.locals { s with heap := h, toks := tk } [(e, oe), (it, oi)] (J (i + 1)) Q) E { s with heap := h, toks := tk })
    (done : ∀ h' tk m' news', Fr h₀ env.locals h' m' → News h₀ env.locals h' news' → J vs.length m' news' → Q .next { s with heap := h', toks := tk }) :
    codeAny (model prog w) A (.forLoop (.Tuple [.Name xi pk, .Name xc pv] x1 pt) (.ref e) body [] env) (fun r s' => match r with | .ok f => Q f s' | .error e => cameBackBy (model prog w) A env E e s') s := by
  have hl0 : s.heap.IsList l vs.toArray := ⟨_, (N _ (hJl _ _ _ h0)).1, rfl, nn, rfl⟩
  have W := (WalksT.enumerate (prog := prog) (w := w) hh e it l hei hle hli vs.toArray).toU
  rw [List.size_toArray] at W
  refine for_two (R := fun r s' => match r with | .ok f => Q f s' | .error e => cameBackBy (model prog w) A env E e s') (P2 := fun i v0 v1 => ∃ t, v0 = .int i t ∧ vs[i]? = some v1) hh W ?_ hxi hxc hp ?_ ?_ ?_ ⟨⟨_, he⟩, hit, hl0⟩ F N J h0 ?_ ?_
  · rintro i vals ⟨t, x, hx, rfl⟩
    exact ⟨_, _, rfl, t, rfl, by simpa using hx⟩
  · intro hm
    rcases List.mem_cons.mp hm with h | hm
    · exact hLe h
    · rcases List.mem_cons.mp hm with h | hm
      · exact hLi h
      · exact hLl (List.mem_singleton.mp hm)
  · intro b hb
    rcases List.mem_cons.mp hb with rfl | hb
    · exact h0e
    · rw [List.mem_singleton.mp hb]; exact h0i
  · intro p hp hb
    rcases List.mem_cons.mp hb with h | hb
    · exact (hnw p hp).1 h
    · exact (hnw p hp).2 (List.mem_singleton.mp hb)
  · rintro i v0 v1 m₁ news₁ h tk hi ⟨t, rfl, hx⟩ hJ hn₁ hst F₁ N₁
    have hn₁' : ∀ p ∈ news₁, p.1 ≠ e ∧ p.1 ≠ it := fun p hp => ⟨fun q => hn₁ p hp (q ▸ List.mem_cons_self ..), fun q => hn₁ p hp (q ▸ List.mem_cons_of_mem _ (List.mem_cons_self ..))⟩
    obtain ⟨⟨old, hE1⟩, hI1, hL1⟩ := hst
    obtain ⟨oe, hoe, hback⟩ : ∃ oe, h.get? e = some oe ∧ (∀ h' : Heap, h'.get? e = some oe → ∃ old, IsEnum h' e it ((i + 1 : Nat) : Int) old) := ⟨_, hE1, fun h' q => ⟨old, q⟩⟩
    obtain ⟨oi, hoi, hoc, hod⟩ := id hI1
    have N₂ : News h₀ env.locals h ([(e, oe), (it, oi)] ++ news₁) := by
      intro p hp
      rcases List.mem_append.mp hp with hp | hp
      · rcases List.mem_cons.mp hp with rfl | hp
        · exact ⟨hoe, hLe.symm, h0e⟩
        · rw [List.mem_singleton.mp hp]; exact ⟨hoi, hLi.symm, h0i⟩
      · exact N₁ p hp
    refine wpAny_passesOwn hE (wpAny_mono (step i v1 t m₁ news₁ h tk oe oi hx hJ hn₁' F₁ N₂) (fun f s₂ hf => ?_) fun _ _ x => x)
    have fin : TurnEnd h₀ env.locals { s with heap := h, toks := tk } [(e, oe), (it, oi)] (J (i + 1)) s₂ → ∃ h' tk' m₂ news₂, s₂ = { s with heap := h', toks := tk' } ∧ Fr h₀ env.locals h' m₂ ∧ News h₀ env.locals h' news₂ ∧ (∀ p ∈ news₂, p.1 ∉ [e, it]) ∧
        ((∃ old, IsEnum h' e it ((i + 1 : Nat) : Int) old) ∧ h'.IsListIter it l (i + 1) ∧ h'.IsList l vs.toArray) ∧ J (i + 1) m₂ news₂ := by
      rintro ⟨h', tk', m₂, news₂, rfl, F₂, N₂, hd, hJ₂⟩
      refine ⟨h', tk', m₂, news₂, rfl, F₂, fun p hp => N₂ p (List.mem_append.mpr (.inr hp)), ?_, ⟨hback _ (N₂ (e, oe) (List.mem_append.mpr (.inl (List.mem_cons_self ..)))).1, ⟨oi, (N₂ (it, oi) (List.mem_append.mpr (.inl (List.mem_cons_of_mem _ (List.mem_cons_self ..))))).1, hoc, hod⟩, ⟨_, (N₂ _ (List.mem_append.mpr (.inr (hJl _ _ _ hJ₂)))).1, rfl, nn, rfl⟩⟩, hJ₂⟩
      intro p hp hb
      rcases List.mem_cons.mp hb with h | hb
      · exact hd p hp _ (List.mem_cons_self ..) h
      · exact hd p hp _ (List.mem_cons_of_mem _ (List.mem_cons_self ..)) (List.mem_singleton.mp hb)
    cases f with
    | ret v => exact hf
    | brk => exact hf
    | next => exact fin hf
    | cont => exact fin hf
  · exact fun h' tk m' news' F' N' hJ => done h' tk m' news' F' N' hJ
end
end Mine
end
section
open PySem PySem.W PyProof.Rows PySem.Calls PySem.Spec
namespace Mine
/-- all later than a -/
def Later (a : Nat) (l : List (Addr × Obj)) : Prop := ∀ p ∈ l, @LT.lt Nat _ a p.1
theorem Later.ne {a x : Nat} {l : List (Addr × Obj)} (h : Later a l) (hx : x ≤ a) : ∀ p ∈ l, p.1 ≠ x := fun p hp => Nat.ne_of_gt (Nat.lt_of_le_of_lt hx (h p hp))
abbrev tupOf (a b : Value) : Obj := { cls := .type "tuple", data := .seq #[a, b] }
/-- a list of made pairs of ints -/
inductive PairsAre (led : List (Addr × Obj)) : List Value → List (Int × Int) → Prop
  | nil : PairsAre led [] []
  | cons {T : Addr} {a b : Int} {ta tb : Tok} {us : List Value} {ps : List (Int × Int)} : (T, tupOf (.int a ta) (.int b tb)) ∈ led → PairsAre led us ps → PairsAre led (.ref T :: us) ((a, b) :: ps)
theorem PairsAre.mono {led led' : List (Addr × Obj)} {us : List Value} {ps : List (Int × Int)} (h : PairsAre led us ps) (hs : ∀ p ∈ led, p ∈ led') : PairsAre led' us ps := by
  induction h with
  | nil => exact .nil
  | cons hm _ ih => exact .cons (hs _ hm) ih
theorem PairsAre.snoc {led : List (Addr × Obj)} {us : List Value} {ps : List (Int × Int)} {T : Addr} {a b : Int} {ta tb : Tok} (h : PairsAre led us ps) (hm : (T, tupOf (.int a ta) (.int b tb)) ∈ led) : PairsAre led (us ++ [.ref T]) (ps ++ [(a, b)]) := by
  induction h with
  | nil => exact .cons hm .nil
  | cons hx _ ih => exact .cons hx ih
theorem PairsAre.length {led : List (Addr × Obj)} {us : List Value} {ps : List (Int × Int)} (h : PairsAre led us ps) : us.length = ps.length := by
  induction h with
  | nil => rfl
  | cons _ _ ih => simp [ih]
/-- the law's seven signs -/
def signs : List Nat := [97, 40, 41, 39, 34, 46, 32]
def sgn (k : Int) : Nat := signs.getD k.toNat 97
theorem sgn_mem (k : Int) : sgn k ∈ signs := by
  unfold sgn
  rw [List.getD_eq_getElem?_getD]
  cases h : signs[k.toNat]? with
  | none => exact .head _
  | some c => exact List.mem_of_getElem? h
/-- the sign at a place of a piece's inner text -/
def innerAt (y k : Int) : Nat := sgn (((y.fdiv 4).fdiv (7 ^ k.toNat)).fmod 7)
theorem wrap_length (d : List Nat) : (wrap d).length = d.length := by simp [wrap, Str.length]
section
variable {prog : Program} {w : World} {A : Around} {E : Value → Shared → Prop} {s : Shared}
theorem call_join2 {a : Addr} {vs : List Value} {d : List Nat} {t : Tok} {Q : Value → Shared → Prop} (hL : s.heap.IsList a vs.toArray) (hS : StrsAre vs (d.map sing)) (hz : d.length ≤ 1048576)
    (h : ∀ t' k, Q (.str (wrap d) t') { s with toks := k }) : wpAny (model prog w) A (call (.builtin "str.join") [.str (Str.ofString "") t, .ref a]) Q E s := by
  have hc : CarriedAll vs (d.map fun c => PyData.str (sing c)) := by
    have := hS.carried
    rwa [List.map_map] at this
  refine KT.join_1 (g := sing) hL hc (fun _ _ => rfl) hz fun t' k' _ => ?_
  rw [join_sing]
  exact h t' k'
end
theorem pow7 (n : Nat) : (7 : Int) ^ n ≠ 0 := Int.pow_ne_zero (by decide)
theorem pow7_small {k : Int} (h : k < 4) : ((7 : Int) ^ k.toNat).natAbs < 1073741824 := by
  have hc : k.toNat = 0 ∨ k.toNat = 1 ∨ k.toNat = 2 ∨ k.toNat = 3 := by omega
  rcases hc with h | h | h | h <;> rw [h] <;> decide
theorem sgn_item {k : Int} (h0 : 0 ≤ k) (h7 : k < 7) : ∃ t, (#[Value.str (Str.ofString "a") 222, Value.str (Str.ofString "(") 223, Value.str (Str.ofString ")") 224, Value.str (Str.ofString "'") 225, Value.str (Str.ofString "\"") 226, Value.str (Str.ofString ".") 227, Value.str (Str.ofString " ") 228] : Array Value)[k.toNat]? = some (.str (sing (sgn k)) t) := by
  have hc : k = 0 ∨ k = 1 ∨ k = 2 ∨ k = 3 ∨ k = 4 ∨ k = 5 ∨ k = 6 := by omega
  rcases hc with rfl | rfl | rfl | rfl | rfl | rfl | rfl
  · exact ⟨222, by rfl⟩
  · exact ⟨223, by rfl⟩
  · exact ⟨224, by rfl⟩
  · exact ⟨225, by rfl⟩
  · exact ⟨226, by rfl⟩
  · exact ⟨227, by rfl⟩
  · exact ⟨228, by rfl⟩
theorem news_tail {h₀ h : Heap} {L : Addr} {p : Addr × Obj} {l : List (Addr × Obj)} (N : News h₀ L h (p :: l)) : News h₀ L h l := fun q hq => N q (.tail _ hq)
structure BS where
  tx : Str
  tt : Tok
  ov : List Value
  on : Nat
  pv : List Value
  pn : Nat
  nv : List Value
  nn : Nat
  sv : List Value
  sn : Nat
  tups : List (Addr × Obj)
  oc : Obj
  os : List Int
  prs : List (Int × Int)
  nms : List Str
  shs : List Str
/-- the word's plain part: what a build has made after i pieces; told in Plain -/
abbrev Word := Nat → Str → List Int → List (Int × Int) → List Str → List Str → Prop
def BLed (D lop lpa lna lsh cel : Addr) (ws : List Value) (c : BS) : List (Addr × Obj) :=
  (lsh, listOf c.sv.toArray c.sn) :: (lna, listOf c.nv.toArray c.nn) :: (lpa, listOf c.pv.toArray c.pn) :: (lop, listOf c.ov.toArray c.on) :: (D, listOf ws.toArray 0) :: (cel, c.oc) :: c.tups
def BFacts (e : Nat) (c : BS) : Prop := IntsAre c.ov c.os ∧ PairsAre c.tups c.pv c.prs ∧ StrsAre c.nv c.nms ∧ StrsAre c.sv c.shs ∧ Later e c.tups ∧ ∃ v, c.oc.data = .cell v
def bStored : List Str := [Str.ofString "i", Str.ofString "x", Str.ofString "kind", Str.ofString "inner"]
def BMap (m₀ : Str → Option Value) (c : BS) (m : Str → Option Value) : Prop := m (Str.ofString "text") = some (.str c.tx c.tt) ∧ ∀ z, z ≠ Str.ofString "text" → bStored.contains z = false → m z = m₀ z
theorem BMap.eq {m₀ m : Str → Option Value} {c : BS} (h : BMap m₀ c m) : m = fun z => if z = Str.ofString "text" then some (.str c.tx c.tt) else if bStored.contains z then m z else m₀ z := by
  funext z
  by_cases h1 : z = Str.ofString "text"
  · rw [if_pos h1, h1, h.1]
  · rw [if_neg h1]
    cases h2 : bStored.contains z with
    | true => rw [if_pos rfl]
    | false => rw [if_neg Bool.false_ne_true]; exact h.2 z h1 h2
/-- a turn's end, as the walk reaches it -/
def BEnd (h₀ : Heap) (L : Addr) (s : Shared) (D lop lpa lna lsh cel e it : Addr) (oe oi : Obj) (ws : List Value) (m₀ : Str → Option Value) (P : Word) (i : Nat) (s₂ : Shared) : Prop :=
  TurnEnd h₀ L s [(e, oe), (it, oi)] (fun m nw => ∃ c : BS, nw = BLed D lop lpa lna lsh cel ws c ∧ BFacts e c ∧ BMap m₀ c m ∧ P (i + 1) c.tx c.os c.prs c.nms c.shs) s₂
def BPost (h₀ : Heap) (L : Addr) (s : Shared) (D lop lpa lna lsh cel e it : Addr) (oe oi : Obj) (ws : List Value) (m₀ : Str → Option Value) (P : Word) (i : Nat) (Q : Flow → Shared → Prop) (f : Flow) (s₂ : Shared) : Prop :=
  match f with
  | .ret v => Q (.ret v) s₂
  | .brk => Q .next s₂
  | _ => BEnd h₀ L s D lop lpa lna lsh cel e it oe oi ws m₀ P i s₂
section
variable {prog : Program} {w : World} {A : Around} {s : Shared} {env : Env} {h₀ : Heap}
theorem build {E : Value → Shared → Prop} {Q : Flow → Shared → Prop} {pk pv pt : Pos} {x1 : Nat} {body : List Stmt} {D lop lpa lna lsh cel T0 : Addr} {oT0 oc : Obj} {ws : List Value} {ns : List Int} {m₀ : Str → Option Value} {tt : Tok} {QQ : Value → Shared → Prop} (P : Word)
    (hQQ : ∀ x s₁, wpAny (model prog w) A (pyIter x) (fun it s₂ =>
      codeAny (model prog w) A (.forLoop (.Tuple [.Name (Str.ofString "i") pk, .Name (Str.ofString "x") pv] x1 pt) it body [] env) (fun r s' => match r with | .ok f => Q f s' | .error e => cameBackBy (model prog w) A env E e s') s₂) E s₁ → QQ x s₁)
    (hh : A.handled = none) (hxi : env.kindOf (Str.ofString "i") = some .local) (hxc : env.kindOf (Str.ofString "x") = some .local)
    (hp : (env.scope.kind == .class || (env.scope.kind == .module && env.locals != env.globals)) = false)
    (F : Fr h₀ env.locals s.heap m₀)
    (N : News h₀ env.locals s.heap [(D, listOf ws.toArray 0), (T0, oT0), (lsh, listOf #[] 0), (lna, listOf #[] 0), (lpa, listOf #[] 0), (lop, listOf #[] 0), (cel, oc)])
    (hI : IntsAre ws ns) (hm0 : m₀ (Str.ofString "text") = some (.str (Str.ofString "") tt)) (hoc : ∃ v, oc.data = .cell v)
    (hP0 : P 0 (Str.ofString "") [] [] [] [])
    (hord : @LT.lt Nat _ cel lop ∧ @LT.lt Nat _ lop lpa ∧ @LT.lt Nat _ lpa lna ∧ @LT.lt Nat _ lna lsh ∧ @LT.lt Nat _ lsh D)
    (hE : PassesOwn (model prog w) A env E)
    (turn : ∀ (c : BS) (u : Str → Option Value) (i : Nat) (n : Int) (t ti : Tok) (e it : Addr) (oe oi : Obj) h tk, ns[i]? = some n → @LT.lt Nat _ D it → @LT.lt Nat _ it e → IntsAre c.ov c.os → PairsAre c.tups c.pv c.prs → StrsAre c.nv c.nms → StrsAre c.sv c.shs → Later e c.tups → (∃ v, c.oc.data = .cell v) → P i c.tx c.os c.prs c.nms c.shs →
      Fr h₀ env.locals h (fun y => if y = Str.ofString "x" then some (.int n t) else if y = Str.ofString "i" then some (.int i ti) else if y = Str.ofString "text" then some (.str c.tx c.tt) else if bStored.contains y then u y else m₀ y) →
      News h₀ env.locals h ((e, oe) :: (it, oi) :: (lsh, listOf c.sv.toArray c.sn) :: (lna, listOf c.nv.toArray c.nn) :: (lpa, listOf c.pv.toArray c.pn) :: (lop, listOf c.ov.toArray c.on) :: (D, listOf ws.toArray 0) :: (cel, c.oc) :: c.tups) →
      wpAny (model prog w) A (execs body env) (BPost h₀ env.locals { s with heap := h, toks := tk } D lop lpa lna lsh cel e it oe oi ws m₀ P i Q) E { s with heap := h, toks := tk })
    (done : ∀ (c : BS) (u : Str → Option Value) (e : Addr) h tk, @LT.lt Nat _ D e → IntsAre c.ov c.os → PairsAre c.tups c.pv c.prs → StrsAre c.nv c.nms → StrsAre c.sv c.shs → Later e c.tups → (∃ v, c.oc.data = .cell v) → P ns.length c.tx c.os c.prs c.nms c.shs →
      Fr h₀ env.locals h (fun y => if y = Str.ofString "text" then some (.str c.tx c.tt) else if bStored.contains y then u y else m₀ y) →
      News h₀ env.locals h ((lsh, listOf c.sv.toArray c.sn) :: (lna, listOf c.nv.toArray c.nn) :: (lpa, listOf c.pv.toArray c.pn) :: (lop, listOf c.ov.toArray c.on) :: (D, listOf ws.toArray 0) :: (cel, c.oc) :: c.tups) →
      Q .next { s with heap := h, toks := tk }) :
    wpAny (model prog w) A (call (.type "enumerate") [.ref D]) QQ E s := by
  refine wpAny_mono ?_ (fun x s₁ h => hQQ x s₁ h) fun _ _ x => x
  obtain ⟨ho1, ho2, ho3, ho4, ho5⟩ := hord
  refine call_enumerate_1 (N _ (.head _)).1 fun h' he hit hsz hk => ?_
  have lD : @LT.lt Nat _ D s.heap.objs.size := Heap.lt_size (N _ (.head _)).1
  have lL : @LT.lt Nat _ env.locals s.heap.objs.size := F.ns.lt
  have fresh : ∀ b : Nat, s.heap.objs.size ≤ b → h₀.get? b = none := fun b hb => by
    cases q : h₀.get? b with
    | none => rfl
    | some o => exact absurd (Heap.lt_size (F.keep _ _ q)) (Nat.not_lt.mpr hb)
  have F' : Fr h₀ env.locals h' m₀ := F.keeps hk
  have N' : News h₀ env.locals h' (BLed D lop lpa lna lsh cel ws ⟨Str.ofString "", tt, [], 0, [], 0, [], 0, [], 0, [], oc, [], [], [], []⟩) := by
    intro p hp
    have hp' : p ∈ [(D, listOf ws.toArray 0), (T0, oT0), (lsh, listOf #[] 0), (lna, listOf #[] 0), (lpa, listOf #[] 0), (lop, listOf #[] 0), (cel, oc)] := by
      simp only [BLed, List.mem_cons, List.not_mem_nil, or_false] at hp ⊢
      rcases hp with h | h | h | h | h | h <;> simp [h]
    exact ⟨hk _ _ (N p hp').1, (N p hp').2⟩
  refine wpAny_pyIter_enum he ?_
  refine enum_loop (m := m₀) (vs := ws) (nn := 0) (l := D) hh hxi hxc hp (fun i m nw => ∃ c : BS, nw = BLed D lop lpa lna lsh cel ws c ∧ BFacts (s.heap.objs.size + 1) c ∧ BMap m₀ c m ∧ P i c.tx c.os c.prs c.nms c.shs)
    he hit (Nat.succ_ne_self _) (Nat.ne_of_lt (Nat.lt_succ_of_lt lD)) (Nat.ne_of_lt lD) (Nat.ne_of_lt (Nat.lt_succ_of_lt lL)) (Nat.ne_of_lt lL) (Ne.symm (N _ (.head _)).2.1) (fresh _ (Nat.le_succ _)) (fresh _ (Nat.le_refl _)) F' N' ?_ ?_ ?_ hE ?_ ?_
  · intro p hp
    simp only [BLed, List.mem_cons, List.not_mem_nil, or_false] at hp
    have g : ∀ x : Nat, x ≤ D → x ≠ s.heap.objs.size + 1 ∧ x ≠ s.heap.objs.size := fun x hx => by omega
    rcases hp with rfl | rfl | rfl | rfl | rfl | rfl
    · exact g _ (by omega)
    · exact g _ (by omega)
    · exact g _ (by omega)
    · exact g _ (by omega)
    · exact g _ (by omega)
    · exact g _ (by omega)
  · exact ⟨_, rfl, ⟨.nil, .nil, .nil, .nil, (fun p hp => nomatch hp), hoc⟩, ⟨hm0, fun z _ _ => rfl⟩, hP0⟩
  · rintro i m nw ⟨c, rfl, _⟩
    simp [BLed]
  · rintro i v t m₁ news₁ h tk oe oi hv ⟨c, rfl, ⟨f1, f2, f3, f4, f5, f6⟩, hm, hP⟩ _ F₁ N₁
    obtain ⟨n, hn⟩ : ∃ n, ns[i]? = some n := by
      have hl := hI.length
      have : i < ws.length := (List.getElem?_eq_some_iff.mp hv).1
      exact ⟨ns[i]'(by omega), List.getElem?_eq_getElem (by omega)⟩
    obtain ⟨tx', hx⟩ := hI.get i n hn
    rw [hv] at hx
    injection hx with hx
    subst hx
    rw [hm.eq] at F₁
    refine wpAny_mono (turn c m₁ i n tx' t _ _ oe oi h tk hn lD (Nat.lt_succ_self _) f1 f2 f3 f4 f5 f6 hP F₁ N₁) (fun f s₂ hf => ?_) fun _ _ x => x
    cases f with
    | ret v => exact hf
    | brk => exact hf
    | next => exact hf
    | cont => exact hf
  · rintro h'' tk m' news' F₂ N₂ ⟨c, rfl, ⟨f1, f2, f3, f4, f5, f6⟩, hm, hP⟩
    rw [hI.length] at hP
    rw [hm.eq] at F₂
    exact done c m' _ h'' tk (Nat.lt_succ_of_lt lD) f1 f2 f3 f4 f5 f6 hP F₂ N₂
end
end Mine
end
section
open PySem PySem.W PyProof.Rows
namespace Mine
abbrev sq (il : List Nat) : Str := Str.ofString "'" ++ Txt.replace (wrap il) (Str.ofString "'") (Str.ofString "''") ++ Str.ofString "'"
abbrev dq (il : List Nat) : Str := Str.ofString "\"" ++ Txt.replace (wrap il) (Str.ofString "\"") (Str.ofString "\"\"") ++ Str.ofString "\""
def words : List Str := [Str.ofString "x", Str.ofString "AND", Str.ofString "b_7", Str.ofString "id", Str.ofString "t1"]
/-- what the law has built after i pieces -/
inductive Made : Nat → Str → List Int → List (Int × Int) → List Str → List Str → Prop
  | nil : Made 0 (Str.ofString "") [] [] [] []
  | opn {i : Nat} {t : Str} {os : List Int} {prs : List (Int × Int)} {nms shs : List Str} : Made i t os prs nms shs → Made (i + 1) (t ++ Str.ofString "(") (os ++ [(t.length : Int)]) prs nms shs
  | cls {i : Nat} {t : Str} {os : List Int} {p : Int} {prs : List (Int × Int)} {nms shs : List Str} : Made i t (os ++ [p]) prs nms shs → Made (i + 1) (t ++ Str.ofString ")") os (prs ++ [(p, (t.length : Int))]) nms shs
  | blk {i : Nat} {t : Str} {os : List Int} {prs : List (Int × Int)} {nms shs : List Str} : Made i t os prs nms shs → Made (i + 1) (t ++ Str.ofString " ") os prs nms shs
  | sgl {i : Nat} {t : Str} {os : List Int} {prs : List (Int × Int)} {nms shs : List Str} {il : List Nat} : il.length ≤ 3 → (∀ c ∈ il, c ∈ signs) → Made i t os prs nms shs → Made (i + 1) (t ++ sq il) os prs nms shs
  | dbq {i : Nat} {t : Str} {os : List Int} {prs : List (Int × Int)} {nms shs : List Str} {il : List Nat} : il.length ≤ 3 → (∀ c ∈ il, c ∈ signs) → Made i t os prs nms shs → Made (i + 1) (t ++ dq il) os prs (nms ++ [wrap il]) (shs ++ [dq il])
  | wrd {i : Nat} {t : Str} {os : List Int} {prs : List (Int × Int)} {nms shs : List Str} {w : Str} : w ∈ words → Made i t os prs nms shs → Made (i + 1) (t ++ w) os prs (nms ++ [w]) (shs ++ [w])
theorem sq39' : (Str.ofString "''") = ⟨#[39, 39]⟩ := by decide +kernel
theorem sq34' : (Str.ofString "\"\"") = ⟨#[34, 34]⟩ := by decide +kernel
theorem sq32 : (Str.ofString " ") = ⟨#[32]⟩ := by decide +kernel
theorem dbl_len (c : Nat) : ∀ l : List Nat, (StrLaws.dbl c l).length ≤ 2 * l.length
  | [] => Nat.le_refl _
  | k :: r => by
    have ih := dbl_len c r
    unfold StrLaws.dbl
    split <;> simp only [List.length_cons] <;> omega
theorem sq_cps (il : List Nat) : (sq il).cps.toList = 39 :: StrLaws.dbl 39 il ++ [39] := by
  show (Str.ofString "'" ++ Txt.replace (wrap il) (Str.ofString "'") (Str.ofString "''") ++ Str.ofString "'").cps.toList = _
  rw [Str.cps_append, Str.cps_append, Array.toList_append, Array.toList_append, sq39, sq39', StrLaws.replace_double]
  simp [wrap]
theorem dq_cps (il : List Nat) : (dq il).cps.toList = 34 :: StrLaws.dbl 34 il ++ [34] := by
  show (Str.ofString "\"" ++ Txt.replace (wrap il) (Str.ofString "\"") (Str.ofString "\"\"") ++ Str.ofString "\"").cps.toList = _
  rw [Str.cps_append, Str.cps_append, Array.toList_append, Array.toList_append, sq34, sq34', StrLaws.replace_double]
  simp [wrap]
theorem rs_len {il : List Nat} (h : il.length ≤ 3) : (Txt.replace (wrap il) (Str.ofString "'") (Str.ofString "''")).length ≤ 6 := by
  rw [sq39, sq39', ← lenL, StrLaws.replace_double]
  have := dbl_len 39 il
  simp only [wrap]; omega
theorem rd_len {il : List Nat} (h : il.length ≤ 3) : (Txt.replace (wrap il) (Str.ofString "\"") (Str.ofString "\"\"")).length ≤ 6 := by
  rw [sq34, sq34', ← lenL, StrLaws.replace_double]
  have := dbl_len 34 il
  simp only [wrap]; omega
theorem l39 : (Str.ofString "'").length = 1 := by decide +kernel
theorem l34 : (Str.ofString "\"").length = 1 := by decide +kernel
theorem sq_len {il : List Nat} (h : il.length ≤ 3) : (sq il).length ≤ 8 := by
  have e := congrArg List.length (sq_cps il)
  have := dbl_len 39 il
  rw [lenL] at e
  simp only [List.length_append, List.length_cons, List.length_nil] at e
  omega
theorem dq_len {il : List Nat} (h : il.length ≤ 3) : (dq il).length ≤ 8 := by
  have e := congrArg List.length (dq_cps il)
  have := dbl_len 34 il
  rw [lenL] at e
  simp only [List.length_append, List.length_cons, List.length_nil] at e
  omega
theorem words_len : ∀ w ∈ words, w.length ≤ 3 := by decide +kernel
structure Sizes (i : Nat) (t : Str) (os : List Int) (prs : List (Int × Int)) (nms shs : List Str) : Prop where
  t : t.length ≤ 8 * i
  o : os.length ≤ i
  p : prs.length ≤ i
  n : nms.length ≤ i
  s : shs.length = nms.length
  s8 : ∀ x ∈ shs, x.length ≤ 8
theorem one_len (s : String) (c : Nat) (h : Str.ofString s = ⟨#[c]⟩) : (Str.ofString s).length = 1 := by rw [h]; rfl
theorem Made.sizes {i : Nat} {t : Str} {os : List Int} {prs : List (Int × Int)} {nms shs : List Str} (h : Made i t os prs nms shs) : Sizes i t os prs nms shs := by
  induction h with
  | nil => exact ⟨by decide +kernel, Nat.le_refl _, Nat.le_refl _, Nat.le_refl _, rfl, fun _ h => nomatch h⟩
  | opn _ ih => exact ⟨by rw [Str.length_append, one_len _ _ sq40]; have := ih.t; omega, by rw [List.length_append, List.length_singleton]; have := ih.o; omega, by have := ih.p; omega, by have := ih.n; omega, ih.s, ih.s8⟩
  | cls _ ih =>
    have ho := ih.o
    rw [List.length_append, List.length_singleton] at ho
    exact ⟨by rw [Str.length_append, one_len _ _ sq41]; have := ih.t; omega, by omega, by rw [List.length_append, List.length_singleton]; have := ih.p; omega, by have := ih.n; omega, ih.s, ih.s8⟩
  | blk _ ih => exact ⟨by rw [Str.length_append, one_len _ _ sq32]; have := ih.t; omega, by have := ih.o; omega, by have := ih.p; omega, by have := ih.n; omega, ih.s, ih.s8⟩
  | sgl hl _ _ ih => exact ⟨by rw [Str.length_append]; have := ih.t; have := sq_len hl; omega, by have := ih.o; omega, by have := ih.p; omega, by have := ih.n; omega, ih.s, ih.s8⟩
  | dbq hl _ _ ih =>
    refine ⟨by rw [Str.length_append]; have := ih.t; have := dq_len hl; omega, by have := ih.o; omega, by have := ih.p; omega, by rw [List.length_append, List.length_singleton]; have := ih.n; omega, by simp [ih.s], fun x hx => ?_⟩
    rcases List.mem_append.mp hx with hx | hx
    · exact ih.s8 x hx
    · rw [List.mem_singleton.mp hx]; exact dq_len hl
  | wrd hw _ ih =>
    have hl := words_len _ hw
    refine ⟨by rw [Str.length_append]; have := ih.t; omega, by have := ih.o; omega, by have := ih.p; omega, by rw [List.length_append, List.length_singleton]; have := ih.n; omega, by simp [ih.s], fun x hx => ?_⟩
    rcases List.mem_append.mp hx with hx | hx
    · exact ih.s8 x hx
    · rw [List.mem_singleton.mp hx]; omega
theorem ia_snoc {a : Int} {t : Tok} : ∀ {vs : List Value} {ns : List Int}, IntsAre vs ns → IntsAre (vs ++ [.int a t]) (ns ++ [a])
  | _, _, .nil => .cons a t .nil
  | _, _, .cons b u h => .cons b u (ia_snoc h)
theorem sa_snoc {a : Str} {t : Tok} : ∀ {vs : List Value} {ns : List Str}, StrsAre vs ns → StrsAre (vs ++ [.str a t]) (ns ++ [a])
  | _, _, .nil => .cons a t .nil
  | _, _, .cons b u h => .cons b u (sa_snoc h)
theorem Later.mono {a b : Nat} {l : List (Addr × Obj)} (h : Later a l) (hb : b ≤ a) : Later b l := fun p hp => Nat.lt_of_le_of_lt hb (h p hp)
theorem later_cons {e D : Nat} {o : Obj} {l : List (Addr × Obj)} (h : @LT.lt Nat _ e D) (hl : Later e l) : Later e ((D, o) :: l) := fun p hp => by
  rcases List.mem_cons.mp hp with rfl | hp
  · exact h
  · exact hl p hp
theorem last_back {os : List Int} (h : 0 < os.length) : os.dropLast ++ [os.getLastD 0] = os := by
  have hn : os ≠ [] := by intro e; rw [e] at h; exact absurd h (Nat.lt_irrefl _)
  rw [List.getLastD_eq_getLast?, List.getLast?_eq_some_getLast hn]
  exact List.dropLast_concat_getLast hn
theorem Made.cls' {i : Nat} {t : Str} {os : List Int} {prs : List (Int × Int)} {nms shs : List Str} (h : Made i t os prs nms shs) (ho : 0 < os.length) : Made (i + 1) (t ++ Str.ofString ")") os.dropLast (prs ++ [(os.getLastD 0, (t.length : Int))]) nms shs :=
  .cls (by rw [last_back ho]; exact h)
section
variable {prog : Program} {w : World} {A : Around} {E : Value → Shared → Prop} {s : Shared}
theorem word_item {t1 t2 t3 t4 t5 : Tok} {k : Int} (h0 : 0 ≤ k) (h5 : k < 5) : ∃ wd t, wd ∈ words ∧ (#[Value.str (Str.ofString "x") t1, Value.str (Str.ofString "AND") t2, Value.str (Str.ofString "b_7") t3, Value.str (Str.ofString "id") t4, Value.str (Str.ofString "t1") t5] : Array Value)[k.toNat]? = some (.str wd t) := by
  have hc : k = 0 ∨ k = 1 ∨ k = 2 ∨ k = 3 ∨ k = 4 := by omega
  rcases hc with rfl | rfl | rfl | rfl | rfl
  · exact ⟨_, t1, .head _, rfl⟩
  · exact ⟨_, t2, .tail _ (.head _), rfl⟩
  · exact ⟨_, t3, .tail _ (.tail _ (.head _)), rfl⟩
  · exact ⟨_, t4, .tail _ (.tail _ (.tail _ (.head _))), rfl⟩
  · exact ⟨_, t5, .tail _ (.tail _ (.tail _ (.tail _ (.head _)))), rfl⟩
theorem word_tail {value slice : PySem.Expr} {l : Addr} {k : Int} {u t1 t2 t3 t4 t5 : Tok} {Q : Value → Shared → Prop} (hl : s.heap.IsList l #[Value.str (Str.ofString "x") t1, Value.str (Str.ofString "AND") t2, Value.str (Str.ofString "b_7") t3, Value.str (Str.ofString "id") t4, Value.str (Str.ofString "t1") t5])
    (h0 : 0 ≤ k) (h5 : k < 5) (h : ∀ wd t, wd ∈ words → Q (.str wd t) s)
    (hs : subscripted slice false (.ref l) (.int k u) = operate [.ref l, .int k u] (getItem (.ref l) (.int k u)) := by with_unfolding_all rfl) :
    wpAny (model prog w) A (subscriptTail value slice (.ref l) (.int k u)) Q E s := by
  obtain ⟨wd, t, hw, ht⟩ := word_item (t1 := t1) (t2 := t2) (t3 := t3) (t4 := t4) (t5 := t5) h0 h5
  exact tail_any hl.typeIs slot_list_getitem.lookup (wpAny_getItem_list hl h0 (by omega) ht (h wd t hw)) hs
end
theorem bst_ne {z : Str} (h : bStored.contains z = false) : z ≠ Str.ofString "i" ∧ z ≠ Str.ofString "x" ∧ z ≠ Str.ofString "kind" ∧ z ≠ Str.ofString "inner" := by
  simp only [bStored, List.contains_cons, List.contains_nil, Bool.or_false, Bool.or_eq_false_iff, beq_eq_false_iff_ne] at h
  exact ⟨h.1, h.2.1, h.2.2.1, h.2.2.2⟩
theorem b_end {h₀ : Heap} {L : Addr} {s : Shared} {D lop lpa lna lsh cel e it : Addr} {oe oi : Obj} {ws : List Value} {m₀ m' : Str → Option Value} {P : Word} {i : Nat} {h' : Heap} {tk : Nat} {news' : List (Addr × Obj)} (c : BS)
    (F : Fr h₀ L h' m') (N : News h₀ L h' news') (hs : ∀ p ∈ [(e, oe), (it, oi)] ++ BLed D lop lpa lna lsh cel ws c, p ∈ news')
    (hord : @LT.lt Nat _ cel lop ∧ @LT.lt Nat _ lop lpa ∧ @LT.lt Nat _ lpa lna ∧ @LT.lt Nat _ lna lsh ∧ @LT.lt Nat _ lsh D ∧ @LT.lt Nat _ D it ∧ @LT.lt Nat _ it e)
    (hf : BFacts e c) (hm : BMap m₀ c m') (hP : P (i + 1) c.tx c.os c.prs c.nms c.shs) :
    BEnd h₀ L s D lop lpa lna lsh cel e it oe oi ws m₀ P i { s with heap := h', toks := tk } := by
  obtain ⟨o1, o2, o3, o4, o5, o6, o7⟩ := hord
  refine TurnEnd.intro (BLed D lop lpa lna lsh cel ws c) F N hs ?_ ⟨c, rfl, hf, hm, hP⟩
  have g : ∀ x : Nat, x ≤ D → ∀ q ∈ [(e, oe), (it, oi)], x ≠ q.1 := fun x hx q hq => by
    rcases List.mem_cons.mp hq with rfl | hq
    · show x ≠ e; omega
    · rw [List.mem_singleton.mp hq]; show x ≠ it; omega
  intro p hp
  simp only [BLed, List.mem_cons] at hp
  rcases hp with rfl | rfl | rfl | rfl | rfl | rfl | hp
  · exact g _ (by omega)
  · exact g _ (by omega)
  · exact g _ (by omega)
  · exact g _ (by omega)
  · exact g _ (by omega)
  · exact g _ (by omega)
  · have hl := hf.2.2.2.2.1 p hp
    intro q hq
    rcases List.mem_cons.mp hq with rfl | hq
    · exact Nat.ne_of_gt hl
    · rw [List.mem_singleton.mp hq]; exact Nat.ne_of_gt (Nat.lt_trans o7 hl)
/-- what stands while the law closes what is open -/
inductive Closing : Str → List Int → List (Int × Int) → List Str → List Str → Prop
  | of {i : Nat} {t : Str} {os : List Int} {prs : List (Int × Int)} {nms shs : List Str} : Made i t os prs nms shs → i ≤ 12 → Closing t os prs nms shs
  | cls {t : Str} {os : List Int} {p : Int} {prs : List (Int × Int)} {nms shs : List Str} : Closing t (os ++ [p]) prs nms shs → Closing (t ++ Str.ofString ")") os (prs ++ [(p, (t.length : Int))]) nms shs
theorem Closing.cls' {t : Str} {os : List Int} {prs : List (Int × Int)} {nms shs : List Str} (h : Closing t os prs nms shs) (ho : 0 < os.length) : Closing (t ++ Str.ofString ")") os.dropLast (prs ++ [(os.getLastD 0, (t.length : Int))]) nms shs :=
  .cls (by rw [last_back ho]; exact h)
structure Sizes2 (t : Str) (os : List Int) (prs : List (Int × Int)) (nms shs : List Str) : Prop where
  t : t.length + os.length ≤ 108
  p : prs.length + os.length ≤ 24
  n : nms.length ≤ 12
  s : shs.length = nms.length
  s8 : ∀ x ∈ shs, x.length ≤ 8
theorem Closing.sizes {t : Str} {os : List Int} {prs : List (Int × Int)} {nms shs : List Str} (h : Closing t os prs nms shs) : Sizes2 t os prs nms shs := by
  induction h with
  | of hm hi => exact ⟨by have := hm.sizes.t; have := hm.sizes.o; omega, by have := hm.sizes.p; have := hm.sizes.o; omega, by have := hm.sizes.n; omega, hm.sizes.s, hm.sizes.s8⟩
  | cls _ ih =>
    have h1 := ih.t
    have h2 := ih.p
    rw [List.length_append, List.length_singleton] at h1 h2
    exact ⟨by rw [Str.length_append, one_len _ _ sq41]; omega, by rw [List.length_append, List.length_singleton]; omega, ih.n, ih.s, ih.s8⟩
structure WS where
  tx : Str
  tt : Tok
  ov : List Value
  on : Nat
  pv : List Value
  pn : Nat
  tups : List (Addr × Obj)
  os : List Int
  prs : List (Int × Int)
def WLed (lop lpa lna lsh : Addr) (svo nvo : Obj) (c : WS) : List (Addr × Obj) :=
  (lpa, listOf c.pv.toArray c.pn) :: (lop, listOf c.ov.toArray c.on) :: (lsh, svo) :: (lna, nvo) :: c.tups
def WPs (c : WS) : List (Str × Value) := [(Str.ofString "text", .str c.tx c.tt)]
def WFacts (e : Nat) (c : WS) : Prop := IntsAre c.ov c.os ∧ PairsAre c.tups c.pv c.prs ∧ Later e c.tups
theorem PairsAre.funs {led : List (Addr × Obj)} {us : List Value} {ps : List (Int × Int)} (h : PairsAre led us ps) : ∃ (Ts : Nat → Addr) (vals : Nat → Array Value), ∀ j, j < us.length →
    us[j]? = some (.ref (Ts j)) ∧ (Ts j, ({ cls := .type "tuple", data := .seq (vals j) } : Obj)) ∈ led ∧ ∃ a b ta tb, vals j = #[.int a ta, .int b tb] ∧ ps[j]? = some (a, b) := by
  induction h with
  | nil => exact ⟨fun _ => 0, fun _ => #[], fun j hj => absurd hj (Nat.not_lt_zero _)⟩
  | @cons T a b ta tb us ps hm _ ih =>
    obtain ⟨Ts, vals, ih⟩ := ih
    refine ⟨fun j => match j with | 0 => T | j + 1 => Ts j, fun j => match j with | 0 => #[.int a ta, .int b tb] | j + 1 => vals j, fun j hj => ?_⟩
    cases j with
    | zero => exact ⟨rfl, hm, a, b, ta, tb, rfl, rfl⟩
    | succ j => exact ih j (by simpa using hj)
section
variable {prog : Program} {w : World} {A : Around} {s : Shared} {env : Env} {h₀ : Heap}
/-- a turn's end of the loop over the pairs -/
def PEnd (h₀ : Heap) (L : Addr) (s : Shared) (news : List (Addr × Obj)) (m : Str → Option Value) (xi xc : Str) (s₂ : Shared) : Prop :=
  ∃ h' tk m₂, s₂ = { s with heap := h', toks := tk } ∧ Fr h₀ L h' m₂ ∧ News h₀ L h' news ∧ ∀ z, z ≠ xi → z ≠ xc → m₂ z = m z
def PPost (h₀ : Heap) (L : Addr) (s : Shared) (news : List (Addr × Obj)) (m : Str → Option Value) (xi xc : Str) (Q : Flow → Shared → Prop) (f : Flow) (s₂ : Shared) : Prop :=
  match f with
  | .ret v => Q (.ret v) s₂
  | .brk => Q .next s₂
  | _ => PEnd h₀ L s news m xi xc s₂
theorem pairs_loop {E : Value → Shared → Prop} {Q : Flow → Shared → Prop} {xi xc : Str} {pk pv pt : Pos} {x1 : Nat} {body : List Stmt} {l : Addr} {us : List Value} {nn : Nat} {ps : List (Int × Int)} {m : Str → Option Value} {news : List (Addr × Obj)} {QQ : Value → Shared → Prop}
    (hQQ : ∀ it s₂, codeAny (model prog w) A (.forLoop (.Tuple [.Name xi pk, .Name xc pv] x1 pt) it body [] env) (fun r s' => match r with | .ok f => Q f s' | .error e => cameBackBy (model prog w) A env E e s') s₂ → QQ it s₂)
    (hh : A.handled = none) (hxi : env.kindOf xi = some .local) (hxc : env.kindOf xc = some .local)
    (hp : (env.scope.kind == .class || (env.scope.kind == .module && env.locals != env.globals)) = false)
    (F : Fr h₀ env.locals s.heap m) (N : News h₀ env.locals s.heap news) (hl : (l, listOf us.toArray nn) ∈ news) (hP : PairsAre news us ps)
    (hE : PassesOwn (model prog w) A env E)
    (turn : ∀ (a b : Int) (ta tb : Tok) (I : Addr) (oI : Obj) h tk, (a, b) ∈ ps → (∀ p ∈ news, @LT.lt Nat _ p.1 I) → Fr h₀ env.locals h (fun y => if y = xc then some (.int b tb) else if y = xi then some (.int a ta) else m y) → News h₀ env.locals h ((I, oI) :: news) →
      wpAny (model prog w) A (execs body env) (PPost h₀ env.locals { s with heap := h, toks := tk } ((I, oI) :: news) m xi xc Q) E { s with heap := h, toks := tk })
    (done : ∀ (u : Str → Option Value) h tk, Fr h₀ env.locals h (fun y => if y = xc then u xc else if y = xi then u xi else m y) → News h₀ env.locals h news → Q .next { s with heap := h, toks := tk }) :
    wpAny (model prog w) A (pyIter (.ref l)) QQ E s := by
  obtain ⟨Ts, vals, hT⟩ := hP.funs
  have hls : s.heap.IsList l us.toArray := ⟨_, (N _ hl).1, rfl, nn, rfl⟩
  have lt : ∀ p ∈ news, @LT.lt Nat _ p.1 s.heap.objs.size := fun p hp => Heap.lt_size (N p hp).1
  refine wpAny_mono ?_ (fun it s₂ h => hQQ it s₂ h) fun _ _ x => x
  refine wpAny_pyIter_list hls ?_
  have up : ∀ b o, s.heap.get? b = some o → (s.heap.push { cls := .type "list_iterator", data := .fields #[.ref l, .int 0 0] }).get? b = some o := fun b o e => Heap.get?_push_of_some _ e
  have hsz : us.toArray.size = us.length := by simp
  have W := WalksU.bound (WalksU.listOfTuples (prog := prog) (w := w) hh s.heap.objs.size l (Nat.ne_of_lt (lt _ hl)) us.toArray Ts vals
    (fun j hj => by rw [hsz] at hj; simpa using (hT j hj).1) (fun j hj => by rw [hsz] at hj; exact Nat.ne_of_lt (lt _ (hT j hj).2.1)))
  refine for_two (R := fun r s' => match r with | .ok f => Q f s' | .error e => cameBackBy (model prog w) A env E e s') (P2 := fun i v0 v1 => ∃ a b ta tb, v0 = .int a ta ∧ v1 = .int b tb ∧ (a, b) ∈ ps) (m := m) (news := news) hh W ?_ hxi hxc hp ?_ ?_ ?_ ⟨⟨_, Heap.get?_push_size _ rfl, rfl, rfl⟩, hls.at fun o e => up _ o e, fun k hk => ?_⟩ (F.keeps up) (fun p hp => ⟨up _ _ (N p hp).1, (N p hp).2⟩) (fun _ m₁ nw => nw = news ∧ ∀ z, z ≠ xi → z ≠ xc → m₁ z = m z) ⟨rfl, fun _ _ _ => rfl⟩ ?_ ?_
  · rintro i vs ⟨hi, rfl⟩
    rw [hsz] at hi
    obtain ⟨_, _, a, b, ta, tb, e, hp⟩ := hT i hi
    exact ⟨_, _, e, a, b, ta, tb, rfl, rfl, List.mem_of_getElem? hp⟩
  · intro hm
    rcases List.mem_cons.mp hm with h | hm
    · exact absurd F.ns.lt (by rw [h]; exact Nat.lt_irrefl _)
    · rcases List.mem_cons.mp hm with h | hm
      · exact (N _ hl).2.1 h.symm
      · obtain ⟨k, hk, e⟩ := List.mem_map.mp hm
        rw [hsz] at hk
        exact (N _ (hT k (List.mem_range.mp hk)).2.1).2.1 e
  · intro b hb
    rw [List.mem_singleton.mp hb]
    exact next_is_new F
  · intro p hp hb
    exact absurd (lt p hp) (by rw [List.mem_singleton.mp hb]; exact Nat.lt_irrefl _)
  · rw [hsz] at hk
    exact ⟨_, up _ _ (N _ (hT k hk).2.1).1, rfl, _, rfl⟩
  · rintro i v0 v1 m₁ news₁ h tk hi ⟨a, b, ta, tb, rfl, rfl, hab⟩ ⟨rfl, hm⟩ hn₁ hst F₁ N₁
    obtain ⟨⟨oI, hoI, hoc, hod⟩, hL1, hT1⟩ := hst
    have em : (fun y => if y = xc then some (Value.int b tb) else if y = xi then some (Value.int a ta) else m₁ y) = fun y => if y = xc then some (Value.int b tb) else if y = xi then some (Value.int a ta) else m y := by
      funext y
      by_cases h1 : y = xc
      · rw [if_pos h1, if_pos h1]
      · rw [if_neg h1, if_neg h1]
        by_cases h2 : y = xi
        · rw [if_pos h2, if_pos h2]
        · rw [if_neg h2, if_neg h2]; exact hm y h2 h1
    rw [em] at F₁
    have N₂ : News h₀ env.locals h ((s.heap.objs.size, oI) :: news₁) := by
      intro p hp
      rcases List.mem_cons.mp hp with rfl | hp
      · exact ⟨hoI, Nat.ne_of_gt F.ns.lt, next_is_new F⟩
      · exact N₁ p hp
    refine wpAny_passesOwn hE (wpAny_mono (turn a b ta tb s.heap.objs.size oI h tk hab lt F₁ N₂) (fun f s₂ hf => ?_) fun _ _ x => x)
    have fin : PEnd h₀ env.locals { s with heap := h, toks := tk } ((s.heap.objs.size, oI) :: news₁) m xi xc s₂ → ∃ h' tk' m₂ news₂, s₂ = { s with heap := h', toks := tk' } ∧ Fr h₀ env.locals h' m₂ ∧ News h₀ env.locals h' news₂ ∧ (∀ p ∈ news₂, p.1 ∉ [s.heap.objs.size]) ∧
        (h'.IsListIter s.heap.objs.size l (i + 1) ∧ h'.IsList l us.toArray ∧ ∀ k, k < us.toArray.size → h'.IsTuple (Ts k) (vals k)) ∧ (news₂ = news₁ ∧ ∀ z, z ≠ xi → z ≠ xc → m₂ z = m z) := by
      rintro ⟨h', tk', m₂, rfl, F₂, N₂, hm₂⟩
      have N₃ := news_tail N₂
      refine ⟨h', tk', m₂, news₁, rfl, F₂, N₃, hn₁, ⟨⟨oI, (N₂ _ (.head _)).1, hoc, hod⟩, ⟨_, (N₃ _ hl).1, rfl, nn, rfl⟩, fun k hk => ?_⟩, rfl, hm₂⟩
      rw [hsz] at hk
      exact ⟨_, (N₃ _ (hT k hk).2.1).1, rfl, _, rfl⟩
    cases f with
    | ret v => exact hf
    | brk => exact hf
    | next => exact fin hf
    | cont => exact fin hf
  · rintro h' tk m' news' F' N' ⟨rfl, hm⟩
    have em : m' = fun y => if y = xc then m' xc else if y = xi then m' xi else m y := by
      funext y
      by_cases h1 : y = xc
      · rw [if_pos h1, h1]
      · rw [if_neg h1]
        by_cases h2 : y = xi
        · rw [if_pos h2, h2]
        · rw [if_neg h2]; exact hm y h2 h1
    rw [em] at F'
    exact done m' h' tk F' N'
end
end Mine
end
section
open PySem PySem.W PyProof.Rows
namespace Mine
section
variable {prog : Program} {w : World} {A : Around} {s : Shared} {env : Env} {h₀ : Heap}
/-- a turn's end of the loop over the three odd texts -/
def OEnd (h₀ : Heap) (L : Addr) (s : Shared) (news : List (Addr × Obj)) (m : Str → Option Value) (xi : Str) (s₂ : Shared) : Prop :=
  ∃ h' tk m₂, s₂ = { s with heap := h', toks := tk } ∧ Fr h₀ L h' m₂ ∧ News h₀ L h' news ∧ ∀ z, z ≠ xi → m₂ z = m z
def OPost (h₀ : Heap) (L : Addr) (s : Shared) (news : List (Addr × Obj)) (m : Str → Option Value) (xi : Str) (Q : Flow → Shared → Prop) (f : Flow) (s₂ : Shared) : Prop :=
  match f with
  | .ret v => Q (.ret v) s₂
  | .brk => Q .next s₂
  | _ => OEnd h₀ L s news m xi s₂
theorem odd_loop {E : Value → Shared → Prop} {Q : Flow → Shared → Prop} {xi : Str} {pk : Pos} {body : List Stmt} {ax : Addr} {xa xb xc : Str} {ta tb tc : Tok} {nn : Nat} {m : Str → Option Value} {news : List (Addr × Obj)} {QQ : Value → Shared → Prop}
    (hQQ : ∀ it s₂, codeAny (model prog w) A (.forLoop (.Name xi pk) it body [] env) (fun r s' => match r with | .ok f => Q f s' | .error e => cameBackBy (model prog w) A env E e s') s₂ → QQ it s₂)
    (hh : A.handled = none) (hxi : env.kindOf xi = some .local)
    (hp : (env.scope.kind == .class || (env.scope.kind == .module && env.locals != env.globals)) = false)
    (F : Fr h₀ env.locals s.heap m) (N : News h₀ env.locals s.heap news) (hl : (ax, ({ cls := .type "tuple", data := .seq #[.str xa ta, .str xb tb, .str xc tc] nn } : Obj)) ∈ news)
    (hE : PassesOwn (model prog w) A env E)
    (turn : ∀ (x : Str) (t : Tok) (I : Addr) (oI : Obj) h tk, x = xa ∨ x = xb ∨ x = xc → (∀ p ∈ news, @LT.lt Nat _ p.1 I) → Fr h₀ env.locals h (fun y => if y = xi then some (.str x t) else m y) → News h₀ env.locals h ((I, oI) :: news) →
      wpAny (model prog w) A (execs body env) (OPost h₀ env.locals { s with heap := h, toks := tk } ((I, oI) :: news) m xi Q) E { s with heap := h, toks := tk })
    (done : ∀ (u : Str → Option Value) h tk, Fr h₀ env.locals h (fun y => if y = xi then u xi else m y) → News h₀ env.locals h news → Q .next { s with heap := h, toks := tk }) :
    wpAny (model prog w) A (pyIter (.ref ax)) QQ E s := by
  have hls : s.heap.IsTuple ax #[.str xa ta, .str xb tb, .str xc tc] := ⟨_, (N _ hl).1, rfl, nn, rfl⟩
  have lt : ∀ p ∈ news, @LT.lt Nat _ p.1 s.heap.objs.size := fun p hp => Heap.lt_size (N p hp).1
  refine wpAny_mono ?_ (fun it s₂ h => hQQ it s₂ h) fun _ _ x => x
  refine wpAny_pyIter_tuple hls ?_
  generalize hI : s.heap.objs.size = I at lt
  have hnI : h₀.get? I = none := hI ▸ next_is_new F
  have hLI : env.locals ≠ I := hI ▸ Nat.ne_of_lt F.ns.lt
  have up : ∀ b o, s.heap.get? b = some o → (s.heap.push { cls := .type "tuple_iterator", data := .fields #[.ref ax, .int 0 0] }).get? b = some o := fun b o e => Heap.get?_push_of_some _ e
  have W := Walks.tuple (prog := prog) (w := w) hh I ax (Nat.ne_of_lt (lt _ hl)) #[.str xa ta, .str xb tb, .str xc tc]
  have old : ∀ b o, h₀.get? b = some o → b ∉ [I] := fun b o e hb => by rw [List.mem_singleton.mp hb, hnI] at e; cases e
  refine codeAny_forLoop_any
    (fun k s' => ∃ h' tk m' i, s' = { s with heap := h', toks := tk } ∧ (h'.IsTupleIter I ax i ∧ h'.IsTuple ax #[.str xa ta, .str xb tb, .str xc tc]) ∧ Fr h₀ env.locals h' m' ∧ News h₀ env.locals h' news ∧ (∀ z, z ≠ xi → m' z = m z) ∧ i ≤ 3 ∧ k = 3 + 1 - i) ?_ (3 + 1)
    ⟨_, s.toks, m, 0, rfl, ⟨⟨_, by rw [← hI]; exact Heap.get?_push_size _ rfl, rfl, rfl⟩, hls.at fun o e => up _ o e⟩, F.keeps up, fun p hp => ⟨up _ _ (N p hp).1, (N p hp).2⟩, fun _ _ => rfl, by omega, rfl⟩
  rintro k s' ⟨H, tk, m', i, rfl, hst', F', N', hm', hi, rfl⟩
  have next : ∀ h₁ : Heap, (∀ b o, b ∉ [I] → H.get? b = some o → h₁.get? b = some o) → Fr h₀ env.locals h₁ m' ∧ News h₀ env.locals h₁ news := fun h₁ hk₁ =>
    ⟨⟨F'.ns.at' fun o e => hk₁ _ o (fun h => hLI (List.mem_singleton.mp h)) e, fun b o e => hk₁ b o (old b o e) (F'.keep b o e), F'.above⟩, fun p hp => ⟨hk₁ _ _ (fun h => absurd (lt p hp) (by rw [List.mem_singleton.mp h]; exact Nat.lt_irrefl _)) (N' p hp).1, (N' p hp).2⟩⟩
  by_cases hlt : i < 3
  · refine W.item i _ _ _ hlt hst' fun v h₁ tk₁ hP hst₁ hk₁ => ?_
    obtain ⟨F₁, N₁⟩ := next h₁ hk₁
    have hv : ∃ x t, v = .str x t ∧ (x = xa ∨ x = xb ∨ x = xc) := by
      have hc : i = 0 ∨ i = 1 ∨ i = 2 := by omega
      rcases hc with rfl | rfl | rfl
      · exact ⟨xa, ta, by have : some (Value.str xa ta) = some v := hP
                          exact (Option.some.inj this).symm, .inl rfl⟩
      · exact ⟨xb, tb, by have : some (Value.str xb tb) = some v := hP
                          exact (Option.some.inj this).symm, .inr (.inl rfl)⟩
      · exact ⟨xc, tc, by have : some (Value.str xc tc) = some v := hP
                          exact (Option.some.inj this).symm, .inr (.inr rfl)⟩
    obtain ⟨x, t, rfl, hx⟩ := hv
    refine letGo_tupleiter hst₁.1 ?_
    refine wpAny_assign_Name (wpAny_storeName_local hxi F₁.ns (fun h₂ hn₂ hs₂ => ?_) hp)
    replace hs₂ : Heap.SameBut env.locals h₁ h₂ := hs₂
    have F₂ := F₁.set hn₂ hs₂
    have N₂ := N₁.set hs₂
    have hst₂ : h₂.IsTupleIter I ax (i + 1) ∧ h₂.IsTuple ax #[.str xa ta, .str xb tb, .str xc tc] := ⟨hst₁.1.at fun o e => hs₂.extBut _ o (fun q => hLI q.symm) e, hst₁.2.at fun o e => hs₂.extBut _ o (fun q => (N _ hl).2.1 q) e⟩
    obtain ⟨⟨oI, hoI, hoc, hod⟩, hT2⟩ := hst₂
    have em : (fun y => if y = xi then some (Value.str x t) else m' y) = fun y => if y = xi then some (Value.str x t) else m y := by
      funext y
      by_cases h1 : y = xi
      · rw [if_pos h1, if_pos h1]
      · rw [if_neg h1, if_neg h1]; exact hm' y h1
    rw [em] at F₂
    have N₃ : News h₀ env.locals h₂ ((I, oI) :: news) := by
      intro p hp
      rcases List.mem_cons.mp hp with rfl | hp
      · exact ⟨hoI, hLI.symm, hnI⟩
      · exact N₂ p hp
    refine wpAny_mono (wpAny_passesOwn hE (turn x t I oI h₂ _ hx lt F₂ N₃)) (fun f s₃ hf => ?_) fun _ _ x => x
    have fin : OEnd h₀ env.locals { s with heap := h₂, toks := tk₁ } ((I, oI) :: news) m xi s₃ → ∃ k, k < 3 + 1 - i ∧ ∃ h' tk m' i, s₃ = { s with heap := h', toks := tk } ∧ (h'.IsTupleIter I ax i ∧ h'.IsTuple ax #[.str xa ta, .str xb tb, .str xc tc]) ∧ Fr h₀ env.locals h' m' ∧ News h₀ env.locals h' news ∧ (∀ z, z ≠ xi → m' z = m z) ∧ i ≤ 3 ∧ k = 3 + 1 - i := by
      rintro ⟨h', tk', m₂, rfl, F₄, N₄, hm₄⟩
      exact ⟨3 + 1 - (i + 1), by omega, h', tk', m₂, i + 1, rfl, ⟨⟨oI, (N₄ _ (.head _)).1, hoc, hod⟩, ⟨_, (N₄ _ (.tail _ hl)).1, rfl, nn, rfl⟩⟩, F₄, news_tail N₄, hm₄, hlt, rfl⟩
    cases f with
    | ret v => exact hf
    | brk => exact hf
    | next => exact fin hf
    | cont => exact fin hf
  · have hin : i = 3 := by omega
    subst hin
    refine W.done _ _ _ hst' fun h₁ tk₁ hk₁ => wpAny_execs_nil ?_
    obtain ⟨F₁, N₁⟩ := next h₁ hk₁
    have em : m' = fun y => if y = xi then m' xi else m y := by
      funext y
      by_cases h1 : y = xi
      · rw [if_pos h1, h1]
      · rw [if_neg h1]; exact hm' y h1
    rw [em] at F₁
    exact done m' h₁ tk₁ F₁ N₁
end
end Mine
end
section
open PySem PySem.W PyProof.Rows
namespace Mine
/-- where the scanner stands -/
inductive Md | out | sg | db
/-- the scanner's run: found, or still under way -/
inductive Rn | fnd (i : Nat) | go (m : Md) (d : Int)
def stp (k c : Nat) : Rn → Rn
  | .fnd i => .fnd i
  | .go .sg d => if c = 39 then .go .out d else .go .sg d
  | .go .db d => if c = 34 then .go .out d else .go .db d
  | .go .out d => if c = 39 then .go .sg d else if c = 34 then .go .db d else if c = 40 then .go .out (d + 1) else if c = 41 then (if d - 1 = 0 then .fnd k else .go .out (d - 1)) else .go .out d
def run : Rn → Nat → List Nat → Rn
  | r, _, [] => r
  | r, k, c :: cs => run (stp k c r) (k + 1) cs
def Rn.res : Rn → Option Nat
  | .fnd i => some i
  | _ => none
theorem run_fnd (i : Nat) : ∀ (cs : List Nat) (k : Nat), run (.fnd i) k cs = .fnd i
  | [], _ => rfl
  | _ :: cs, k => run_fnd i cs (k + 1)
theorem run_app : ∀ (xs ys : List Nat) (r : Rn) (k : Nat), run r k (xs ++ ys) = run (run r k xs) (k + xs.length) ys
  | [], _, _, _ => rfl
  | c :: xs, ys, r, k => by
    show run (stp k c r) (k + 1) (xs ++ ys) = run (run (stp k c r) (k + 1) xs) (k + (xs.length + 1)) ys
    rw [run_app xs ys, show k + 1 + xs.length = k + (xs.length + 1) from by omega]
def md (sg db : Bool) : Md := if sg then .sg else if db then .db else .out
theorem drop_at {cs : List Nat} {i c : Nat} (h : cs[i]? = some c) : cs.drop i = c :: cs.drop (i + 1) := by
  obtain ⟨hl, e⟩ := List.getElem?_eq_some_iff.mp h
  rw [List.drop_eq_getElem_cons hl, e]
theorem scan_run (cs : List Nat) : ∀ (n i : Nat) (d : Int) (sg db : Bool), cs.length - i ≤ n → (sg && db) = false → scanAt cs i d sg db = (run (.go (md sg db) d) i (cs.drop i)).res := by
  intro n
  induction n with
  | zero =>
    intro i d sg db hn _
    have h : ¬ i < cs.length := by omega
    rw [scanAt, dif_neg h, List.drop_eq_nil_of_le (by omega)]
    rfl
  | succ n ih =>
    intro i d sg db hn hb
    by_cases h : i < cs.length
    · have hd := List.drop_eq_getElem_cons h
      have e1 : run (.go (md sg db) d) i (cs.drop i) = run (stp i cs[i] (.go (md sg db) d)) (i + 1) (cs.drop (i + 1)) := by rw [hd]; rfl
      rw [scanAt, dif_pos h, e1]
      cases sg with
      | true =>
        have hdb : db = false := by simpa using hb
        subst hdb
        simp only [md, if_true, stp]
        by_cases hc : cs[i] = 39
        · rw [if_pos hc, if_pos hc]
          by_cases hq : cs[i+1]? = some 39
          · rw [if_pos hq, ih (i + 2) d true false (by omega) rfl, drop_at hq]
            show _ = (run (stp (i + 1) 39 (.go .out d)) (i + 1 + 1) _).res
            simp only [stp, if_true, md]
          · rw [if_neg hq, ih (i + 1) d false false (by omega) rfl]; rfl
        · rw [if_neg hc, if_neg hc, ih (i + 1) d true false (by omega) rfl]; rfl
      | false =>
        cases db with
        | true =>
          simp only [md, if_true, if_false, stp, Bool.false_eq_true]
          by_cases hc : cs[i] = 34
          · rw [if_pos hc, if_pos hc]
            by_cases hq : cs[i+1]? = some 34
            · rw [if_pos hq, ih (i + 2) d false true (by omega) rfl, drop_at hq]
              show _ = (run (stp (i + 1) 34 (.go .out d)) (i + 1 + 1) _).res
              simp [stp, md]
            · rw [if_neg hq, ih (i + 1) d false false (by omega) rfl]; rfl
          · rw [if_neg hc, if_neg hc, ih (i + 1) d false true (by omega) rfl]; rfl
        | false =>
          simp only [md, if_false, stp, Bool.false_eq_true]
          by_cases h1 : cs[i] = 39
          · rw [if_pos h1, if_pos h1, ih (i + 1) d true false (by omega) rfl]; rfl
          · rw [if_neg h1, if_neg h1]
            by_cases h2 : cs[i] = 34
            · rw [if_pos h2, if_pos h2, ih (i + 1) d false true (by omega) rfl]; rfl
            · rw [if_neg h2, if_neg h2]
              by_cases h3 : cs[i] = 40
              · rw [if_pos h3, if_pos h3, ih (i + 1) _ false false (by omega) rfl]; rfl
              · rw [if_neg h3, if_neg h3]
                by_cases h4 : cs[i] = 41
                · rw [if_pos h4, if_pos h4]
                  by_cases h5 : d - 1 = 0
                  · rw [if_pos h5, if_pos h5, run_fnd]; rfl
                  · rw [if_neg h5, if_neg h5, ih (i + 1) _ false false (by omega) rfl]; rfl
                · rw [if_neg h4, if_neg h4, ih (i + 1) _ false false (by omega) rfl]; rfl
    · rw [scanAt, dif_neg h, List.drop_eq_nil_of_le (by omega)]
      rfl
theorem scan0 (cs : List Nat) (i : Nat) (d : Int) : scanAt cs i d false false = (run (.go .out d) i (cs.drop i)).res := scan_run cs _ i d false false (Nat.le_refl _) rfl
/-- v opens n more than it closes, and at no place closes below where it began -/
def Bal (v : List Nat) (n : Nat) : Prop := ∀ (d : Int), 1 ≤ d → ∀ k, run (.go .out d) k v = .go .out (d + n)
theorem Bal.nil : Bal [] 0 := fun d _ k => by show Rn.go .out d = .go .out (d + (0 : Nat)); rw [show d + ((0 : Nat) : Int) = d from by omega]
theorem Bal.app {v w : List Nat} {n m : Nat} (h : Bal v n) (h2 : Bal w m) : Bal (v ++ w) (n + m) := fun d hd k => by
  rw [run_app, h d hd, h2 _ (by omega)]
  congr 1
  omega
theorem Bal.opn {v : List Nat} {n : Nat} (h : Bal v n) : Bal (v ++ [40]) (n + 1) := h.app (m := 1) fun d _ k => rfl
theorem Bal.cls {v : List Nat} {n : Nat} (h : Bal v (n + 1)) : Bal (v ++ [41]) n := fun d hd k => by
  rw [run_app, h d hd]
  show (if d + ((n + 1 : Nat) : Int) - 1 = 0 then Rn.fnd _ else .go .out (d + ((n + 1 : Nat) : Int) - 1)) = _
  rw [if_neg (by omega)]
  congr 1
  omega
theorem Bal.neu {v w : List Nat} {n : Nat} (h : Bal v n) (hw : Bal w 0) : Bal (v ++ w) n := h.app hw
/-- an open sign at p with n still open behind it -/
def OpenAt (cs : List Nat) (p : Int) (n : Nat) : Prop := ∃ u v, cs = u ++ 40 :: v ∧ (u.length : Int) = p ∧ Bal v n
/-- a pair of signs that fit -/
def PairAt (cs : List Nat) (a b : Int) : Prop := ∃ u v x, cs = u ++ 40 :: (v ++ 41 :: x) ∧ (u.length : Int) = a ∧ ((u.length + 1 + v.length : Nat) : Int) = b ∧ Bal v 0
structure Inv (cs : List Nat) (os : List Int) (prs : List (Int × Int)) : Prop where
  bal : Bal cs os.length
  ops : ∀ a p b, os = a ++ p :: b → OpenAt cs p b.length
  prk : ∀ a b, (a, b) ∈ prs → PairAt cs a b
  fst : ∀ n x, cs = List.replicate n 32 ++ 40 :: x → (n : Int) ∈ os ∨ ∃ b, ((n : Int), b) ∈ prs
theorem PairAt.more {cs : List Nat} {a b : Int} (h : PairAt cs a b) (w : List Nat) : PairAt (cs ++ w) a b := by
  obtain ⟨u, v, x, e, h1, h2, h3⟩ := h
  exact ⟨u, v, x ++ w, by rw [e]; simp, h1, h2, h3⟩
theorem blanks_split {cs w x : List Nat} {n : Nat} (h : cs ++ w = List.replicate n 32 ++ 40 :: x) : (∃ x', cs = List.replicate n 32 ++ 40 :: x') ∨ ∃ j, n = cs.length + j ∧ w = List.replicate j 32 ++ 40 :: x := by
  rcases List.append_eq_append_iff.mp h with ⟨a, e1, e2⟩ | ⟨c, e1, e2⟩
  · refine .inr ⟨a.length, ?_, ?_⟩
    · have := congrArg List.length e1
      simpa using this
    · have : a = List.replicate a.length 32 := List.eq_replicate_iff.mpr ⟨rfl, fun z hz => by
        have : z ∈ List.replicate n 32 := e1 ▸ List.mem_append.mpr (.inr hz)
        exact (List.mem_replicate.mp this).2⟩
      rw [← this]; exact e2
  · cases c with
    | nil => exact .inr ⟨0, by rw [e1]; simp, e2.symm⟩
    | cons z c =>
      rw [List.cons_append] at e2
      injection e2 with e3 e4
      subst e3
      exact .inl ⟨c, e1⟩
theorem Inv.nil : Inv [] [] [] := ⟨Bal.nil, fun a p b h => by simp at h, fun _ _ h => (List.not_mem_nil h).elim, fun n x h => by simp at h⟩
theorem Inv.neu {cs w : List Nat} {os : List Int} {prs : List (Int × Int)} (h : Inv cs os prs) (hw : Bal w 0) (hf : ∀ j x, w ≠ List.replicate j 32 ++ 40 :: x) : Inv (cs ++ w) os prs where
  bal := h.bal.neu hw
  ops a p b e := by
    obtain ⟨u, v, e1, e2, e3⟩ := h.ops a p b e
    exact ⟨u, v ++ w, by rw [e1]; simp, e2, e3.neu hw⟩
  prk a b hm := (h.prk a b hm).more w
  fst n x e := by
    rcases blanks_split e with ⟨x', e'⟩ | ⟨j, _, e'⟩
    · exact h.fst n x' e'
    · exact absurd e' (hf j x)
theorem Inv.opn {cs : List Nat} {os : List Int} {prs : List (Int × Int)} (h : Inv cs os prs) : Inv (cs ++ [40]) (os ++ [(cs.length : Int)]) prs where
  bal := by rw [List.length_append]; exact h.bal.opn
  ops a p b e := by
    rcases List.eq_nil_or_concat b with rfl | ⟨b', q, rfl⟩
    · have e1 := List.append_inj_right' e rfl
      injection e1 with e1 _
      exact ⟨cs, [], rfl, e1, Bal.nil⟩
    · rw [List.concat_eq_append] at e ⊢
      have e0 : os ++ [(cs.length : Int)] = (a ++ p :: b') ++ [q] := by rw [e]; simp
      have e1 := List.append_inj_left' e0 rfl
      obtain ⟨u, v, f1, f2, f3⟩ := h.ops a p b' e1
      exact ⟨u, v ++ [40], by rw [f1]; simp, f2, by rw [List.length_append]; exact f3.opn⟩
  prk a b hm := (h.prk a b hm).more _
  fst n x e := by
    rcases blanks_split e with ⟨x', e'⟩ | ⟨j, hn, e'⟩
    · rcases h.fst n x' e' with hm | hm
      · exact .inl (List.mem_append.mpr (.inl hm))
      · exact .inr hm
    · cases j with
      | zero => exact .inl (List.mem_append.mpr (.inr (by rw [hn]; exact List.mem_singleton.mpr rfl)))
      | succ j => rw [List.replicate_succ, List.cons_append] at e'; injection e' with e'; cases e'
theorem Inv.cls {cs : List Nat} {os : List Int} {p : Int} {prs : List (Int × Int)} (h : Inv cs (os ++ [p]) prs) : Inv (cs ++ [41]) os (prs ++ [(p, (cs.length : Int))]) where
  bal := by
    have hb := h.bal
    rw [List.length_append] at hb
    exact hb.cls
  ops a q b e := by
    obtain ⟨u, v, f1, f2, f3⟩ := h.ops a q (b ++ [p]) (by rw [e]; simp)
    rw [List.length_append] at f3
    exact ⟨u, v ++ [41], by rw [f1]; simp, f2, f3.cls⟩
  prk a b hm := by
    rcases List.mem_append.mp hm with hm | hm
    · exact (h.prk a b hm).more _
    · obtain ⟨u, v, f1, f2, f3⟩ := h.ops os p [] rfl
      have he := List.mem_singleton.mp hm
      injection he with ea eb
      subst ea eb
      exact ⟨u, v, [], by rw [f1]; simp, f2, by rw [f1, List.length_append, List.length_cons]; omega, f3⟩
  fst n x e := by
    rcases blanks_split e with ⟨x', e'⟩ | ⟨j, hn, e'⟩
    · rcases h.fst n x' e' with hm | ⟨b, hm⟩
      · rcases List.mem_append.mp hm with hm | hm
        · exact .inl hm
        · exact .inr ⟨_, List.mem_append.mpr (.inr (by rw [List.mem_singleton.mp hm]; exact List.mem_singleton.mpr rfl))⟩
      · exact .inr ⟨b, List.mem_append.mpr (.inl hm)⟩
    · cases j with
      | zero => injection e' with e'; cases e'
      | succ j => rw [List.replicate_succ, List.cons_append] at e'; injection e' with e'; cases e'
end Mine
end
section
open PySem PySem.W PyProof.Rows
namespace Mine
theorem capp (a b : Str) : (a ++ b).cps.toList = a.cps.toList ++ b.cps.toList := by rw [Str.cps_append, Array.toList_append]
theorem sqE' : (Str.ofString "").cps.toList = [] := by decide +kernel
theorem c40 : (Str.ofString "(").cps.toList = [40] := by rw [sq40]
theorem c41 : (Str.ofString ")").cps.toList = [41] := by rw [sq41]
theorem c32 : (Str.ofString " ").cps.toList = [32] := by rw [sq32]
theorem run_sg (d : Int) : ∀ (il : List Nat) (k : Nat), run (.go .sg d) k (StrLaws.dbl 39 il) = .go .sg d
  | [], _ => rfl
  | c :: r, k => by
    unfold StrLaws.dbl
    by_cases h : c = 39
    · subst h
      simp only [if_true, run, stp, beq_self_eq_true]
      exact run_sg d r _
    · simp only [h, run, stp, if_false, beq_iff_eq]
      exact run_sg d r _
theorem run_db (d : Int) : ∀ (il : List Nat) (k : Nat), run (.go .db d) k (StrLaws.dbl 34 il) = .go .db d
  | [], _ => rfl
  | c :: r, k => by
    unfold StrLaws.dbl
    by_cases h : c = 34
    · subst h
      simp only [if_true, run, stp, beq_self_eq_true, (by decide : ¬ (34 : Nat) = 39), if_false]
      exact run_db d r _
    · simp only [h, run, stp, if_false, beq_iff_eq]
      exact run_db d r _
theorem go0 (d : Int) : Rn.go .out d = .go .out (d + ((0 : Nat) : Int)) := by rw [show d + ((0 : Nat) : Int) = d from by omega]
theorem bal_sq (il : List Nat) : Bal (39 :: StrLaws.dbl 39 il ++ [39]) 0 := fun d _ k => by
  rw [run_app]
  show run (run (.go .sg d) (k + 1) (StrLaws.dbl 39 il)) _ [39] = _
  rw [run_sg]
  exact go0 d
theorem bal_dq (il : List Nat) : Bal (34 :: StrLaws.dbl 34 il ++ [34]) 0 := fun d _ k => by
  rw [run_app]
  show run (run (.go .db d) (k + 1) (StrLaws.dbl 34 il)) _ [34] = _
  rw [run_db]
  exact go0 d
def plainC (c : Nat) : Bool := c != 39 && c != 34 && c != 40 && c != 41
theorem bal_plain : ∀ {w : List Nat}, (∀ c ∈ w, plainC c = true) → Bal w 0
  | [], _ => Bal.nil
  | c :: r, h => fun d hd k => by
    have hc := h c (.head _)
    simp only [plainC, Bool.and_eq_true, bne_iff_ne] at hc
    obtain ⟨⟨⟨h1, h2⟩, h3⟩, h4⟩ := hc
    show run (stp k c (.go .out d)) (k + 1) r = _
    simp only [stp, if_neg h1, if_neg h2, if_neg h3, if_neg h4]
    exact bal_plain (fun z hz => h z (.tail _ hz)) d hd _
theorem bal_blanks (j : Nat) : Bal (List.replicate j 32) 0 := bal_plain fun c hc => by rw [(List.mem_replicate.mp hc).2]; rfl
/-- no sign of the built text but the blank is a space -/
def okc (c : Nat) : Prop := c < 128 ∧ (Unicode.isSpace c = true → c = 32)
theorem signs_ok : ∀ c ∈ signs, c < 128 ∧ (Unicode.isSpace c = true → c = 32) := by decide +kernel
theorem words_ok : ∀ w ∈ words, ∀ c ∈ w.cps.toList, (c < 128 ∧ (Unicode.isSpace c = true → c = 32)) ∧ plainC c = true ∧ c ≠ 46 := by decide +kernel
theorem mem_dbl {q c : Nat} : ∀ {il : List Nat}, c ∈ StrLaws.dbl q il → c ∈ il
  | [], h => h
  | a :: r, h => by
    unfold StrLaws.dbl at h
    split at h
    · rename_i e
      rcases List.mem_cons.mp h with h | h
      · exact h ▸ .head _
      · rcases List.mem_cons.mp h with h | h
        · exact h ▸ .head _
        · exact .tail _ (mem_dbl h)
    · rcases List.mem_cons.mp h with h | h
      · exact h ▸ .head _
      · exact .tail _ (mem_dbl h)
theorem head_ne {c : Nat} {r x : List Nat} {j : Nat} (h1 : c ≠ 32) (h2 : c ≠ 40) : c :: r ≠ List.replicate j 32 ++ 40 :: x := by
  intro h
  cases j with
  | zero => injection h with h; exact h2 h
  | succ j => rw [List.replicate_succ, List.cons_append] at h; injection h with h; exact h1 h
theorem no40 {w : List Nat} (h : ∀ c ∈ w, c ≠ 40) (j : Nat) (x : List Nat) : w ≠ List.replicate j 32 ++ 40 :: x := by
  intro e
  exact h 40 (by rw [e]; exact List.mem_append.mpr (.inr (.head _))) rfl
structure Bt (t : Str) (os : List Int) (prs : List (Int × Int)) : Prop where
  inv : Inv t.cps.toList os prs
  ok : ∀ c ∈ t.cps.toList, okc c
theorem ok_snoc {cs w : List Nat} (h : ∀ c ∈ cs, okc c) (h2 : ∀ c ∈ w, okc c) : ∀ c ∈ cs ++ w, okc c := fun c hc => (List.mem_append.mp hc).elim (h c) (h2 c)
theorem ok_one {c : Nat} (h : okc c) : ∀ z ∈ [c], okc z := fun z hz => by rw [List.mem_singleton.mp hz]; exact h
theorem okc40 : okc 40 := by unfold okc; decide +kernel
theorem okc41 : okc 41 := by unfold okc; decide +kernel
theorem okc32 : okc 32 := by unfold okc; decide +kernel
theorem okc39 : okc 39 := by unfold okc; decide +kernel
theorem okc34 : okc 34 := by unfold okc; decide +kernel
theorem ok_q {q : Nat} {il : List Nat} (hq : okc q) (him : ∀ c ∈ il, c ∈ signs) : ∀ c ∈ q :: StrLaws.dbl q il ++ [q], okc c := by
  refine ok_snoc (fun c hc => ?_) (ok_one hq)
  rcases List.mem_cons.mp hc with rfl | hc
  · exact hq
  · exact signs_ok c (him c (mem_dbl hc))
theorem Bt.cls {t : Str} {os : List Int} {p : Int} {prs : List (Int × Int)} (h : Bt t (os ++ [p]) prs) : Bt (t ++ Str.ofString ")") os (prs ++ [(p, (t.length : Int))]) := by
  have hi := h.inv.cls
  rw [lenL] at hi
  exact ⟨by rw [capp, c41]; exact hi, by rw [capp, c41]; exact ok_snoc h.ok (ok_one okc41)⟩
theorem Made.bt {i : Nat} {t : Str} {os : List Int} {prs : List (Int × Int)} {nms shs : List Str} (h : Made i t os prs nms shs) : Bt t os prs := by
  induction h with
  | nil => exact ⟨by rw [sqE']; exact Inv.nil, by rw [sqE']; exact fun c hc => (List.not_mem_nil hc).elim⟩
  | opn _ ih =>
    have hi := ih.inv.opn
    rw [lenL] at hi
    exact ⟨by rw [capp, c40]; exact hi, by rw [capp, c40]; exact ok_snoc ih.ok (ok_one okc40)⟩
  | cls _ ih => exact ih.cls
  | blk _ ih => exact ⟨by rw [capp, c32]; exact ih.inv.neu (bal_blanks 1) (no40 (by decide)), by rw [capp, c32]; exact ok_snoc ih.ok (ok_one okc32)⟩
  | sgl _ him _ ih => exact ⟨by rw [capp, sq_cps]; exact ih.inv.neu (bal_sq _) (fun j x => head_ne (by decide) (by decide)), by rw [capp, sq_cps]; exact ok_snoc ih.ok (ok_q okc39 him)⟩
  | dbq _ him _ ih => exact ⟨by rw [capp, dq_cps]; exact ih.inv.neu (bal_dq _) (fun j x => head_ne (by decide) (by decide)), by rw [capp, dq_cps]; exact ok_snoc ih.ok (ok_q okc34 him)⟩
  | wrd hw _ ih =>
    have ho := words_ok _ hw
    have h4 := no40 (w := _) fun c hc (e : c = 40) => absurd (ho c hc).2.1 (by rw [e]; decide)
    exact ⟨by rw [capp]; exact ih.inv.neu (bal_plain fun c hc => (ho c hc).2.1) h4, by rw [capp]; exact ok_snoc ih.ok fun c hc => (ho c hc).1⟩
theorem Closing.bt {t : Str} {os : List Int} {prs : List (Int × Int)} {nms shs : List Str} (h : Closing t os prs nms shs) : Bt t os prs := by
  induction h with
  | of hm _ => exact hm.bt
  | cls _ ih => exact ih.cls
end Mine
end
section
open PySem PySem.W PyProof.Rows
namespace Mine
/-! cuts and items of texts -/
theorem ssi_neg (n : Nat) (h : 2 ≤ n) : Builtin.Str.strSliceIndices (some 1) (some (-1)) 1 n = Builtin.Str.strSliceIndices (some ((1 : Nat) : Int)) (some ((n - 1 : Nat) : Int)) 1 n := by
  have e1 : ¬ (((n - 1 : Nat) : Int) < 0) := by omega
  have e2 : (-1 : Int) + (n : Int) = ((n - 1 : Nat) : Int) := by omega
  simp only [Builtin.Str.strSliceIndices, e1, e2, if_false, show ((-1 : Int) < 0) = True from by simp, if_true]
  rfl
theorem ssi_none (n : Nat) (b : Int) : Builtin.Str.strSliceIndices none (some b) 1 n = Builtin.Str.strSliceIndices (some ((0 : Nat) : Int)) (some b) 1 n := by
  have e1 : max (0 : Int) (min 0 (n : Int)) = 0 := by omega
  simp [Builtin.Str.strSliceIndices, e1]
theorem slice_cps {x : Str} {l u : Option Int} {a b : Nat} (e : Builtin.Str.strSliceIndices l u 1 x.length = Builtin.Str.strSliceIndices (some (a : Int)) (some (b : Int)) 1 x.length) (hab : a ≤ b) (hb : b ≤ x.length) :
    (Txt.slice x l u).cps.toList = (x.cps.toList.drop a).take (b - a) := by
  unfold Txt.slice
  split
  · rename_i h
    rw [e, StrLaws.strSliceIndices_plain hab hb] at h
    simp only [beq_self_eq_true, Bool.true_and, List.length_map, List.length_range, beq_iff_eq] at h
    have ha : a = 0 := by omega
    subst ha
    rw [List.drop_zero, h, ← lenL, List.take_length]
  · rw [e, StrLaws.sliced_plain x hab hb]
theorem item_last {t : Str} (h : 1 ≤ t.length) : Txt.item t (-1) = Txt.item t ((t.length - 1 : Nat) : Int) := by
  have e1 : ¬ (((t.length - 1 : Nat) : Int) < 0) := by omega
  have e2 : (-1 : Int) + (t.length : Int) = ((t.length - 1 : Nat) : Int) := by omega
  simp only [Txt.item, Txt.charAt, seqIndex?, e1, e2, if_false, show ((-1 : Int) < 0) = True from by simp, if_true]
/-! strip -/
theorem sp_false {c : Nat} (h : okc c) (hc : c ≠ 32) : Unicode.isSpace c = false := by
  cases e : Unicode.isSpace c with
  | false => rfl
  | true => exact absurd (h.2 e) hc
theorem sp32 : Unicode.isSpace 32 = true := by decide +kernel
theorem tw_blanks {rest : List Nat} (h : ∀ a, rest.head? = some a → Unicode.isSpace a = false) : ∀ n, ((List.replicate n 32 ++ rest).takeWhile Unicode.isSpace).length = n
  | 0 => by
    cases rest with
    | nil => rfl
    | cons a r => simp [List.takeWhile, h a rfl]
  | n + 1 => by
    rw [List.replicate_succ, List.cons_append, List.takeWhile_cons, if_pos sp32, List.length_cons, tw_blanks h n]
structure Core (cs : List Nat) (n : Nat) (mid : List Nat) (m : Nat) : Prop where
  eq : cs = List.replicate n 32 ++ (mid ++ List.replicate m 32)
  hd : mid.head? ≠ some 32
  lst : mid.getLast? ≠ some 32
  ne : mid ≠ []
theorem strips {s : Str} {n m : Nat} {mid : List Nat} (C : Core s.cps.toList n mid m) (ok : ∀ c ∈ s.cps.toList, okc c) :
    (Txt.strip s).cps.toList = mid ∧ (Txt.lstrip s).length = mid.length + m ∧ (Txt.rstrip s).length = n + mid.length := by
  obtain ⟨e, hh, hl, hne⟩ := C
  have hlen : s.length = n + (mid.length + m) := by rw [← lenL, e]; simp
  have okm : ∀ c ∈ mid, okc c := fun c hc => ok c (by rw [e]; simp [hc])
  have h1 : ∀ (w : List Nat) a, (mid ++ w).head? = some a → Unicode.isSpace a = false := by
    intro w a ha
    cases mid with
    | nil => exact absurd rfl hne
    | cons c r =>
      have : c = a := by simpa using ha
      subst this
      exact sp_false (okm _ (.head _)) (fun h => hh (by rw [h]; rfl))
  have h2 : ∀ (w : List Nat) a, (mid.reverse ++ w).head? = some a → Unicode.isSpace a = false := by
    intro w a ha
    have hr : mid.reverse ≠ [] := by simpa using hne
    have ha2 : mid.reverse.head? = some a := by
      cases hm : mid.reverse with
      | nil => exact absurd hm hr
      | cons c r => rw [hm] at ha; simpa using ha
    rw [List.head?_reverse] at ha2
    exact sp_false (okm a (List.mem_of_getLast? ha2)) (fun h => hl (by rw [ha2, h]))
  have lo : ((s.cps.toList).takeWhile Unicode.isSpace).length = n := by rw [e]; exact tw_blanks (h1 _) n
  have d1 : (s.cps.toList.drop n).reverse = List.replicate m 32 ++ (mid.reverse ++ []) := by
    rw [e]; simp
  have d2 : (s.cps.toList.drop 0).reverse = List.replicate m 32 ++ (mid.reverse ++ List.replicate n 32) := by
    rw [e]; simp
  have hi1 : ((s.cps.toList.drop n).reverse.takeWhile Unicode.isSpace).length = m := by rw [d1]; exact tw_blanks (h2 _) m
  have hi2 : ((s.cps.toList.drop 0).reverse.takeWhile Unicode.isSpace).length = m := by rw [d2]; exact tw_blanks (h2 _) m
  refine ⟨?_, ?_, ?_⟩
  · rw [Txt.strip, PyProof.Rows.stripBy_eq, StrLaws.strSub_toList]
    simp only [stripLo, stripHi, if_true, lo, hi1, hlen]
    rw [e, List.drop_left' (by simp), show n + (mid.length + m) - m - n = mid.length from by omega, List.take_left' rfl]
  · rw [← lenL, Txt.lstrip, PyProof.Rows.stripBy_eq, StrLaws.strSub_toList]
    simp only [stripLo, stripHi, if_true, lo, Bool.false_eq_true, if_false, List.length_take, List.length_drop, lenL]
    omega
  · rw [← lenL, Txt.rstrip, PyProof.Rows.stripBy_eq, StrLaws.strSub_toList]
    simp only [stripLo, stripHi, if_true, Bool.false_eq_true, if_false, hi2, List.length_take, List.length_drop, lenL]
    omega
theorem strips0 {s : Str} {n : Nat} (e : s.cps.toList = List.replicate n 32) : (Txt.strip s).cps.toList = [] ∧ (Txt.lstrip s).length = 0 ∧ (Txt.rstrip s).length = 0 := by
  have hlen : s.length = n := by rw [← lenL, e]; simp
  have t0 : ∀ k, ((List.replicate k 32).takeWhile Unicode.isSpace).length = k := fun k => by
    have := tw_blanks (rest := []) (fun a h => by cases h) k
    rwa [List.append_nil] at this
  have lo : ((s.cps.toList).takeWhile Unicode.isSpace).length = n := by rw [e]; exact t0 n
  have hi2 : ((s.cps.toList.drop 0).reverse.takeWhile Unicode.isSpace).length = n := by rw [e, List.drop_zero, List.reverse_replicate]; exact t0 n
  refine ⟨?_, ?_, ?_⟩
  · rw [Txt.strip, PyProof.Rows.stripBy_eq, StrLaws.strSub_toList]
    simp only [stripLo, if_true, lo]
    rw [List.drop_eq_nil_of_le (by rw [lenL]; omega), List.take_nil]
  · rw [← lenL, Txt.lstrip, PyProof.Rows.stripBy_eq, StrLaws.strSub_toList]
    simp only [stripLo, if_true, lo]
    rw [List.drop_eq_nil_of_le (by rw [lenL]; omega)]
    simp
  · rw [← lenL, Txt.rstrip, PyProof.Rows.stripBy_eq, StrLaws.strSub_toList]
    simp only [stripLo, stripHi, if_true, Bool.false_eq_true, if_false, hi2, hlen]
    simp
theorem front_ex : ∀ cs : List Nat, ∃ n rest, cs = List.replicate n 32 ++ rest ∧ rest.head? ≠ some 32
  | [] => ⟨0, [], rfl, by simp⟩
  | c :: r => by
    by_cases h : c = 32
    · obtain ⟨n, rest, e, h2⟩ := front_ex r
      exact ⟨n + 1, rest, by rw [h, e, List.replicate_succ, List.cons_append], h2⟩
    · exact ⟨0, c :: r, rfl, by simpa using h⟩
theorem core_ex (cs : List Nat) : (∃ n, cs = List.replicate n 32) ∨ ∃ n mid m, Core cs n mid m := by
  obtain ⟨n, rest, e, h⟩ := front_ex cs
  obtain ⟨m, q, e2, h2⟩ := front_ex rest.reverse
  have e3 : rest = q.reverse ++ List.replicate m 32 := by
    have := congrArg List.reverse e2
    rw [List.reverse_reverse, List.reverse_append, List.reverse_replicate] at this
    exact this
  cases q with
  | nil =>
    cases m with
    | zero => exact .inl ⟨n, by rw [e, e3]; simp⟩
    | succ m => rw [e3] at h; exact absurd (by simp [List.replicate_succ]) h
  | cons c q =>
    refine .inr ⟨n, (c :: q).reverse, m, by rw [e, e3], fun hq => h ?_, by rw [List.getLast?_reverse]; exact h2, by simp⟩
    rw [e3, List.head?_append, hq]; rfl
/-! strip_outer_parens, as a law -/
theorem sop_keep {s : Str} {mid : List Nat} (hm : (Txt.strip s).cps.toList = mid) (hk : ∀ y j, mid = 40 :: y → (run (.go .out 0) 0 mid).res = some j → j + 1 ≠ mid.length) : sopF s = s := by
  have hl : (Txt.strip s).length = mid.length := by rw [← lenL, hm]
  by_cases h1 : ((Txt.strip s).length : Int) < 2
  · exact (sop1 h1).symm
  · cases h2 : (Txt.item (Txt.strip s) 0 != Str.ofString "(") with
    | true => exact (sop2 h1 h2).symm
    | false =>
      cases h3 : (Txt.item (Txt.strip s) (-1) != Str.ofString ")") with
      | true => exact (sop3 h1 h2 h3).symm
      | false =>
        cases hr : scanAt (Txt.strip s).cps.toList (0 : Int).toNat 0 false false with
        | none => exact (sop4 h1 h2 h3 hr).symm
        | some j =>
          by_cases hj : (j : Int) = ((Txt.strip s).length : Int) - 1
          · have h4 := itt (t := Txt.strip s) (i := 0) (by omega) (by omega) sq40 (by simpa using h2)
            rw [hm] at h4
            have h5 : scanAt (Txt.strip s).cps.toList 0 0 false false = some j := hr
            rw [scan0, List.drop_zero, hm] at h5
            have h6 := drop_at h4
            rw [Int.toNat_zero, List.drop_zero] at h6
            exact absurd (by rw [hl] at hj; omega) (hk _ j h6 h5)
          · exact (sop6 h1 h2 h3 hr hj).symm
theorem wrap_run {v : List Nat} (hb : Bal v 0) (x : List Nat) : run (.go .out 0) 0 (40 :: (v ++ 41 :: x)) = .fnd (v.length + 1) := by
  show run (.go .out (0 + 1)) (0 + 1) (v ++ 41 :: x) = _
  rw [run_app, hb _ (by omega)]
  show run (stp (0 + 1 + v.length) 41 (.go .out _)) _ x = _
  simp only [stp, if_true, show ¬ (41 : Nat) = 39 from by decide, show ¬ (41 : Nat) = 34 from by decide, show ¬ (41 : Nat) = 40 from by decide, if_false]
  rw [if_pos (by omega), run_fnd]
  congr 1; omega
theorem sop_wrap {s : Str} {v : List Nat} (hm : (Txt.strip s).cps.toList = 40 :: (v ++ [41])) (hb : Bal v 0) : (sopF s).cps.toList = v := by
  have hl : (Txt.strip s).length = v.length + 2 := by rw [← lenL, hm]; simp
  have h1 : ¬ ((Txt.strip s).length : Int) < 2 := by omega
  have h2 : (Txt.item (Txt.strip s) 0 != Str.ofString "(") = false := by
    have : (Txt.item (Txt.strip s) 0 == Str.ofString "(") = true := by
      rw [sq40, itm (by omega) (by omega), hm]; rfl
    simp [bne, this]
  have h3 : (Txt.item (Txt.strip s) (-1) != Str.ofString ")") = false := by
    have : (Txt.item (Txt.strip s) (-1) == Str.ofString ")") = true := by
      rw [item_last (by omega), sq41, itm (by omega) (by omega), hm, hl]
      refine decide_eq_true ?_
      rw [show (((v.length + 2 - 1 : Nat) : Int)).toNat = v.length + 1 from by omega, List.getElem?_cons_succ]
      simp
    simp [bne, this]
  have hr : scanAt (Txt.strip s).cps.toList (0 : Int).toNat 0 false false = some (v.length + 1) := by
    show scanAt (Txt.strip s).cps.toList 0 0 false false = _
    rw [scan0, List.drop_zero, hm, wrap_run hb]; rfl
  rw [← sop5 h1 h2 h3 hr (by omega), slice_cps (ssi_neg _ (by omega)) (by omega) (by omega), hm, hl]
  show (v ++ [41]).take (v.length + 2 - 1 - 1) = v
  rw [List.take_left' (by omega)]
end Mine
end
section
open PySem PySem.W PyProof.Rows
namespace Mine
/-- up to two blanks -/
def PadOk (pd : Str) : Prop := ∃ j, j ≤ 2 ∧ pd.cps.toList = List.replicate j 32
theorem PadOk.len {pd : Str} (h : PadOk pd) : pd.length ≤ 2 := by
  obtain ⟨j, hj, e⟩ := h
  rw [← lenL, e, List.length_replicate]; exact hj
structure PairOk (t : Str) (a b : Int) : Prop where
  a0 : 0 ≤ a
  ab : a < b
  bl : b < (t.length : Int)
  it : (Txt.item t a == Str.ofString "(") = true
  sc : scanAt t.cps.toList a.toNat 0 false false = some b.toNat
  sl : (Txt.slice t none (some b)).length = b.toNat
  it2 : (Txt.item (Txt.slice t none (some b)) a == Str.ofString "(") = true
  sc2 : scanAt (Txt.slice t none (some b)).cps.toList a.toNat 0 false false = none
theorem str_ext {a b : Str} (h : a.cps.toList = b.cps.toList) : a = b := by
  cases a; cases b
  congr 1
  exact Array.ext' h
theorem wrap_runK {v : List Nat} (hb : Bal v 0) (x : List Nat) (k : Nat) : run (.go .out 0) k (40 :: (v ++ 41 :: x)) = .fnd (k + 1 + v.length) := by
  show run (.go .out (0 + 1)) (k + 1) (v ++ 41 :: x) = _
  rw [run_app, hb _ (by omega)]
  show run (stp (k + 1 + v.length) 41 (.go .out _)) _ x = _
  simp only [stp, if_true, show ¬ (41 : Nat) = 39 from by decide, show ¬ (41 : Nat) = 34 from by decide, show ¬ (41 : Nat) = 40 from by decide, if_false]
  rw [if_pos (by omega), run_fnd]
theorem open_run {v : List Nat} {n : Nat} (hb : Bal v n) (k : Nat) : run (.go .out 0) k (40 :: v) = .go .out (1 + n) := by
  show run (.go .out (0 + 1)) (k + 1) v = _
  rw [hb _ (by omega)]
  rfl
theorem PairAt.ok {t : Str} {a b : Int} (h : PairAt t.cps.toList a b) : PairOk t a b := by
  obtain ⟨u, v, x, e, ha, hb, hv⟩ := h
  have hl : t.length = u.length + (v.length + (x.length + 1) + 1) := by rw [← lenL, e]; simp
  have a1 : a.toNat = u.length := by omega
  have b1 : b.toNat = u.length + 1 + v.length := by omega
  have hs : (Txt.slice t none (some b)).cps.toList = u ++ 40 :: v := by
    rw [← hb, slice_cps (ssi_none _ _) (by omega) (by omega), e, List.drop_zero, show u ++ 40 :: (v ++ 41 :: x) = (u ++ 40 :: v) ++ 41 :: x from by simp, List.take_left' (by simp; omega)]
  have hsl : (Txt.slice t none (some b)).length = b.toNat := by rw [← lenL, hs, b1]; simp; omega
  refine ⟨by omega, by omega, by omega, ?_, ?_, hsl, ?_, ?_⟩
  · rw [sq40, itm (by omega) (by omega), e, a1]
    exact decide_eq_true (by rw [List.getElem?_append_right (Nat.le_refl _), Nat.sub_self]; rfl)
  · rw [scan0, e, a1, List.drop_left' rfl, wrap_runK hv, b1]; rfl
  · rw [sq40, itm (by omega) (by rw [hsl]; omega), hs, a1]
    exact decide_eq_true (by rw [List.getElem?_append_right (Nat.le_refl _), Nat.sub_self]; rfl)
  · rw [scan0, hs, a1, List.drop_left' rfl, open_run hv]; rfl
theorem res_fnd {r : Rn} {j : Nat} (h : r.res = some j) : r = .fnd j := by
  cases r with
  | fnd i => injection h with h; rw [h]
  | go m d => cases h
theorem ok_blanks (j : Nat) : ∀ c ∈ List.replicate j 32, okc c := fun c hc => by rw [(List.mem_replicate.mp hc).2]; exact okc32
section
variable {t pd : Str} {prs : List (Int × Int)}
theorem Bt.whole (h : Bt t [] prs) (hp : PadOk pd) : sopF (pd ++ Str.ofString "(" ++ pd ++ Str.ofString "(" ++ t ++ Str.ofString ")" ++ Str.ofString ")" ++ pd) = pd ++ Str.ofString "(" ++ t ++ Str.ofString ")" := by
  obtain ⟨j, _, ep⟩ := hp
  have hb := h.inv.bal
  have ok := h.ok
  generalize hcs : t.cps.toList = cs at *
  have e : (pd ++ Str.ofString "(" ++ pd ++ Str.ofString "(" ++ t ++ Str.ofString ")" ++ Str.ofString ")" ++ pd).cps.toList = List.replicate j 32 ++ ((40 :: ((List.replicate j 32 ++ [40] ++ cs ++ [41]) ++ [41])) ++ List.replicate j 32) := by
    simp only [capp, c40, c41, ep, hcs, List.append_assoc, List.cons_append, List.nil_append]
  have C : Core (pd ++ Str.ofString "(" ++ pd ++ Str.ofString "(" ++ t ++ Str.ofString ")" ++ Str.ofString ")" ++ pd).cps.toList j (40 :: ((List.replicate j 32 ++ [40] ++ cs ++ [41]) ++ [41])) j := ⟨e, by simp, by rw [← List.cons_append, List.getLast?_append]; simp, by simp⟩
  have okw : ∀ c ∈ (pd ++ Str.ofString "(" ++ pd ++ Str.ofString "(" ++ t ++ Str.ofString ")" ++ Str.ofString ")" ++ pd).cps.toList, okc c := by
    simp only [capp, c40, c41, ep, hcs]
    exact ok_snoc (ok_snoc (ok_snoc (ok_snoc (ok_snoc (ok_snoc (ok_snoc (ok_blanks j) (ok_one okc40)) (ok_blanks j)) (ok_one okc40)) ok) (ok_one okc41)) (ok_one okc41)) (ok_blanks j)
  have hB : Bal (List.replicate j 32 ++ [40] ++ cs ++ [41]) 0 := (((bal_blanks j).opn).app hb).cls
  refine str_ext ?_
  rw [sop_wrap (strips C okw).1 hB]
  simp only [capp, c40, c41, ep, hcs]
theorem Bt.once (h : Bt t [] prs) (hp : PadOk pd) : sopF (pd ++ Str.ofString "(" ++ t ++ Str.ofString ")") = t := by
  obtain ⟨j, _, ep⟩ := hp
  have hb := h.inv.bal
  have ok := h.ok
  generalize hcs : t.cps.toList = cs at *
  have e : (pd ++ Str.ofString "(" ++ t ++ Str.ofString ")").cps.toList = List.replicate j 32 ++ ((40 :: (cs ++ [41])) ++ List.replicate 0 32) := by
    simp only [capp, c40, c41, ep, hcs, List.append_assoc, List.cons_append, List.nil_append, List.replicate_zero, List.append_nil]
  have C : Core (pd ++ Str.ofString "(" ++ t ++ Str.ofString ")").cps.toList j (40 :: (cs ++ [41])) 0 := ⟨e, by simp, by rw [← List.cons_append, List.getLast?_append]; simp, by simp⟩
  have okw : ∀ c ∈ (pd ++ Str.ofString "(" ++ t ++ Str.ofString ")").cps.toList, okc c := by
    simp only [capp, c40, c41, ep, hcs]
    exact ok_snoc (ok_snoc (ok_snoc (ok_blanks j) (ok_one okc40)) ok) (ok_one okc41)
  refine str_ext ?_
  rw [sop_wrap (strips C okw).1 hb, hcs]
theorem Bt.odd1 (h : Bt t [] prs) (hp : PadOk pd) : sopF (pd ++ Str.ofString "(" ++ t ++ Str.ofString ")(" ++ t ++ Str.ofString ")") = pd ++ Str.ofString "(" ++ t ++ Str.ofString ")(" ++ t ++ Str.ofString ")" := by
  obtain ⟨j, _, ep⟩ := hp
  have hb := h.inv.bal
  have ok := h.ok
  have c4140 : (Str.ofString ")(").cps.toList = [41, 40] := by decide +kernel
  generalize hcs : t.cps.toList = cs at *
  have e : (pd ++ Str.ofString "(" ++ t ++ Str.ofString ")(" ++ t ++ Str.ofString ")").cps.toList = List.replicate j 32 ++ ((40 :: (cs ++ 41 :: (40 :: cs ++ [41]))) ++ List.replicate 0 32) := by
    simp only [capp, c40, c41, c4140, ep, hcs, List.append_assoc, List.cons_append, List.nil_append, List.replicate_zero, List.append_nil]
  have C : Core (pd ++ Str.ofString "(" ++ t ++ Str.ofString ")(" ++ t ++ Str.ofString ")").cps.toList j (40 :: (cs ++ 41 :: (40 :: cs ++ [41]))) 0 := ⟨e, by simp, by
    rw [show 40 :: (cs ++ 41 :: (40 :: cs ++ [41])) = (40 :: (cs ++ 41 :: (40 :: cs))) ++ [41] from by simp, List.getLast?_append]; simp, by simp⟩
  have okw : ∀ c ∈ (pd ++ Str.ofString "(" ++ t ++ Str.ofString ")(" ++ t ++ Str.ofString ")").cps.toList, okc c := by
    simp only [capp, c40, c41, c4140, ep, hcs]
    exact ok_snoc (ok_snoc (ok_snoc (ok_snoc (ok_snoc (ok_blanks j) (ok_one okc40)) ok) (fun c hc => by rcases List.mem_cons.mp hc with rfl | hc; exact okc41; exact ok_one okc40 c hc)) ok) (ok_one okc41)
  refine sop_keep (strips C okw).1 fun y k _ hr => ?_
  rw [wrap_run hb] at hr
  injection hr with hr
  rw [← hr]
  simp only [List.length_cons, List.length_append, List.length_nil]
  omega
theorem Bt.odd2 (h : Bt t [] prs) (hp : PadOk pd) : sopF (pd ++ Str.ofString "(" ++ t) = pd ++ Str.ofString "(" ++ t := by
  obtain ⟨j, _, ep⟩ := hp
  have hb := h.inv.bal
  have ok := h.ok
  generalize hcs : t.cps.toList = cs at *
  obtain ⟨m, q, eq, hq⟩ := front_ex (40 :: cs).reverse
  have eq2 : 40 :: cs = q.reverse ++ List.replicate m 32 := by
    have := congrArg List.reverse eq
    rw [List.reverse_reverse, List.reverse_append, List.reverse_replicate] at this
    exact this
  have hqn : q ≠ [] := by
    rintro rfl
    have : (40 : Nat) ∈ List.replicate m 32 := by rw [List.reverse_nil, List.nil_append] at eq2; rw [← eq2]; exact .head _
    exact absurd (List.mem_replicate.mp this).2 (by decide)
  have hh : q.reverse.head? = some 40 := by
    cases hr : q.reverse with
    | nil => exact absurd (by simpa using hr) hqn
    | cons c r => rw [hr] at eq2; injection eq2 with e1 _; rw [← e1]; rfl
  have C : Core (pd ++ Str.ofString "(" ++ t).cps.toList j q.reverse m := ⟨by rw [capp, capp, c40, ep, hcs, List.append_assoc, ← eq2]; rfl, by rw [hh]; simp, by rw [List.getLast?_reverse]; exact hq, by simpa using hqn⟩
  have okw : ∀ c ∈ (pd ++ Str.ofString "(" ++ t).cps.toList, okc c := by
    simp only [capp, c40, ep, hcs]
    exact ok_snoc (ok_snoc (ok_blanks j) (ok_one okc40)) ok
  refine sop_keep (strips C okw).1 fun y k _ hr => ?_
  have h1 := open_run hb 0
  rw [eq2, run_app, res_fnd hr, run_fnd] at h1
  cases h1
theorem Bt.odd3 (h : Bt t [] prs) (hp : PadOk pd) : sopF (t ++ Str.ofString ")" ++ pd) = t ++ Str.ofString ")" ++ pd := by
  obtain ⟨j, _, ep⟩ := hp
  have inv := h.inv
  have ok := h.ok
  generalize hcs : t.cps.toList = cs at *
  obtain ⟨n, rest, er, hr0⟩ := front_ex (cs ++ [41])
  have hne : rest ≠ [] := by
    rintro rfl
    have : (41 : Nat) ∈ List.replicate n 32 := by rw [List.append_nil] at er; rw [← er]; simp
    exact absurd (List.mem_replicate.mp this).2 (by decide)
  have hlast : rest.getLast? = some 41 := by
    have := congrArg List.getLast? er
    rw [List.getLast?_append, List.getLast?_append] at this
    cases hz : rest.getLast? with
    | none => exact absurd (List.getLast?_eq_none_iff.mp hz) hne
    | some z => rw [hz] at this; simpa using this.symm
  have C : Core (t ++ Str.ofString ")" ++ pd).cps.toList n rest j := ⟨by rw [capp, capp, c41, ep, hcs, er, List.append_assoc], hr0, by rw [hlast]; simp, hne⟩
  have okw : ∀ c ∈ (t ++ Str.ofString ")" ++ pd).cps.toList, okc c := by
    simp only [capp, c41, ep, hcs]
    exact ok_snoc (ok_snoc ok (ok_one okc41)) (ok_blanks j)
  refine sop_keep (strips C okw).1 fun y k hy hr => ?_
  subst hy
  rcases blanks_split er with ⟨x', e'⟩ | ⟨i, hn, e'⟩
  · rcases inv.fst n x' e' with hm | ⟨b, hm⟩
    · exact absurd hm List.not_mem_nil
    · obtain ⟨u, v, x, f1, f2, f3, f4⟩ := inv.prk _ _ hm
      have g : u ++ (40 :: (v ++ 41 :: (x ++ [41]))) = List.replicate n 32 ++ 40 :: y := by rw [← er, f1]; simp
      have g2 := List.append_inj_right g (by rw [List.length_replicate]; omega)
      rw [← g2, wrap_run f4] at hr
      injection hr with hr
      rw [← hr, ← g2]
      simp only [List.length_cons, List.length_append, List.length_nil]
      omega
  · cases i with
    | zero => injection e' with e'; cases e'
    | succ i => rw [List.replicate_succ, List.cons_append] at e'; injection e' with e'; cases e'
theorem Bt.isIn (h : Bt t [] prs) (hm : ((t.length : Int) - ((Txt.lstrip t).length : Int), ((Txt.rstrip t).length : Int) - 1) ∈ prs) : sopF t = Txt.slice t (some ((t.length : Int) - ((Txt.lstrip t).length : Int) + 1)) (some (((Txt.rstrip t).length : Int) - 1)) := by
  rcases core_ex t.cps.toList with ⟨n, e⟩ | ⟨n, mid, m, C⟩
  · obtain ⟨s1, s2, s3⟩ := strips0 e
    obtain ⟨u, v, x, f1, f2, f3, f4⟩ := h.inv.prk _ _ hm
    rw [s3] at f3
    omega
  · obtain ⟨s1, s2, s3⟩ := strips C h.ok
    have hl : t.length = n + (mid.length + m) := by rw [← lenL, C.eq]; simp
    have st : (t.length : Int) - ((Txt.lstrip t).length : Int) = n := by rw [s2]; omega
    rw [st, s3] at hm ⊢
    obtain ⟨u, v, x, f1, f2, f3, f4⟩ := h.inv.prk _ _ hm
    have g : u ++ (40 :: (v ++ 41 :: x)) = List.replicate n 32 ++ (mid ++ List.replicate m 32) := by rw [← f1, C.eq]
    have g2 := List.append_inj_right g (by rw [List.length_replicate]; omega)
    have g3 : (40 :: (v ++ [41])) ++ x = mid ++ List.replicate m 32 := by rw [← g2]; simp
    have g4 := List.append_inj_left g3 (by simp; omega)
    rw [← g4] at s1
    refine str_ext ?_
    rw [sop_wrap s1 f4, show (n : Int) + 1 = ((n + 1 : Nat) : Int) from by omega, show ((n + mid.length : Nat) : Int) - 1 = ((n + mid.length - 1 : Nat) : Int) from by omega, slice_cps rfl (by omega) (by omega), f1,
      show u ++ 40 :: (v ++ 41 :: x) = (u ++ [40]) ++ (v ++ 41 :: x) from by simp, List.drop_left' (by simp; omega), List.take_left' (by omega)]
theorem Bt.notIn (h : Bt t [] prs) (hm : ((t.length : Int) - ((Txt.lstrip t).length : Int), ((Txt.rstrip t).length : Int) - 1) ∉ prs) : sopF t = t := by
  rcases core_ex t.cps.toList with ⟨n, e⟩ | ⟨n, mid, m, C⟩
  · obtain ⟨s1, s2, s3⟩ := strips0 e
    exact sop_keep s1 fun y j hy => nomatch hy
  · obtain ⟨s1, s2, s3⟩ := strips C h.ok
    have hl : t.length = n + (mid.length + m) := by rw [← lenL, C.eq]; simp
    have st : (t.length : Int) - ((Txt.lstrip t).length : Int) = n := by rw [s2]; omega
    rw [st, s3] at hm
    refine sop_keep s1 fun y j hy hr hj => hm ?_
    have e := C.eq
    rw [hy, List.cons_append] at e
    rcases h.inv.fst n _ e with hq | ⟨b, hq⟩
    · exact absurd hq List.not_mem_nil
    · obtain ⟨u, v, x, f1, f2, f3, f4⟩ := h.inv.prk _ _ hq
      have g : u ++ (40 :: (v ++ 41 :: x)) = List.replicate n 32 ++ (40 :: (y ++ List.replicate m 32)) := by rw [← f1, e]
      have g2 := List.append_inj_right g (by rw [List.length_replicate]; omega)
      have r1 := wrap_run f4 x
      rw [g2, ← List.cons_append, ← hy, run_app, res_fnd hr, run_fnd] at r1
      injection r1 with r1
      have hb : b = ((n + mid.length : Nat) : Int) - 1 := by omega
      rw [← hb]; exact hq
end
end Mine
end
section
open PySem PySem.W PyProof.Rows
namespace Mine
/-! the quoted parser, as a law -/
def jn : List (List Nat) → List Nat
  | [] => []
  | [a] => a
  | a :: b :: r => a ++ 46 :: jn (b :: r)
theorem c46 : (Str.ofString ".").cps.toList = [46] := by rw [sq46]
theorem join_cps : ∀ l : List Str, (Str.join (Str.ofString ".") l).cps.toList = jn (l.map fun x => x.cps.toList)
  | [] => rfl
  | [a] => rfl
  | a :: b :: r => by
    show (a ++ Str.ofString "." ++ Str.join (Str.ofString ".") (b :: r)).cps.toList = _
    rw [capp, capp, c46, join_cps (b :: r)]
    show _ = a.cps.toList ++ 46 :: jn ((b :: r).map fun x => x.cps.toList)
    simp
/-- qscan, on what is left -/
def QSuf (q : Bool) (dn : List (List Nat)) (cu rest : List Nat) (R : List (List Nat)) : Prop := ∀ cs i, cs.drop i = rest → qscan cs i q dn cu = R
theorem at_drop {cs rest : List Nat} {i c : Nat} (h : cs.drop i = c :: rest) : cs[i]? = some c ∧ cs.drop (i + 1) = rest := by
  have h1 : (cs.drop i)[0]? = some c := by rw [h]; rfl
  rw [List.getElem?_drop, Nat.add_zero] at h1
  refine ⟨h1, ?_⟩
  have h2 := congrArg (List.drop 1) h
  rw [List.drop_drop] at h2
  simpa using h2
theorem at_head {cs rest : List Nat} {i : Nat} (h : cs.drop i = rest) : cs[i]? = rest.head? := by
  rw [← h, List.head?_drop]
theorem QSuf.nil {q : Bool} {dn : List (List Nat)} {cu : List Nat} : QSuf q dn cu [] (dn ++ [cu]) := fun cs i h => by
  have hl := congrArg List.length h
  rw [List.length_drop, List.length_nil] at hl
  exact qscan_end (by omega)
theorem QSuf.plain {dn : List (List Nat)} {rest : List Nat} {R : List (List Nat)} : ∀ {w : List Nat}, (∀ c ∈ w, c ≠ 34 ∧ c ≠ 46) → ∀ {cu : List Nat}, QSuf false dn (cu ++ w) rest R → QSuf false dn cu (w ++ rest) R
  | [], _, cu, h => by rwa [List.append_nil] at h
  | c :: w, hw, cu, h => fun cs i e => by
    obtain ⟨h1, h2⟩ := at_drop e
    have hc := hw c (.head _)
    rw [qscan_step h1, if_neg hc.1, if_neg (fun z => hc.2 z.1)]
    exact QSuf.plain (fun z hz => hw z (.tail _ hz)) (by rw [List.append_assoc]; exact h) cs (i + 1) h2
theorem QSuf.dot {dn : List (List Nat)} {cu rest : List Nat} {R : List (List Nat)} (h : QSuf false (dn ++ [cu]) [] rest R) : QSuf false dn cu (46 :: rest) R := fun cs i e => by
  obtain ⟨h1, h2⟩ := at_drop e
  rw [qscan_step h1, if_neg (by decide), if_pos ⟨rfl, rfl⟩]
  exact h cs (i + 1) h2
theorem QSuf.inside {dn : List (List Nat)} {rest : List Nat} {R : List (List Nat)} (hr : rest.head? ≠ some 34) : ∀ {il cu : List Nat}, QSuf false dn (cu ++ il) rest R → QSuf true dn cu (StrLaws.dbl 34 il ++ 34 :: rest) R
  | [], cu, h => fun cs i e => by
    rw [List.append_nil] at h
    obtain ⟨h1, h2⟩ := at_drop (show cs.drop i = 34 :: rest from e)
    rw [qscan_step h1, if_pos rfl, if_neg (fun z => hr (by rw [← at_head h2]; exact z.2))]
    exact h cs (i + 1) h2
  | c :: il, cu, h => fun cs i e => by
    unfold StrLaws.dbl at e
    have h' : QSuf false dn ((cu ++ [c]) ++ il) rest R := by rw [List.append_assoc]; exact h
    by_cases hc : c = 34
    · rw [if_pos (by simp [hc])] at e
      obtain ⟨h1, h2⟩ := at_drop (rest := c :: (StrLaws.dbl 34 il ++ 34 :: rest)) e
      obtain ⟨h3, h4⟩ := at_drop h2
      rw [qscan_step h1, if_pos hc, if_pos ⟨rfl, by rw [h3, hc]⟩, ← hc]
      exact QSuf.inside hr h' cs (i + 2) h4
    · rw [if_neg (by simp [hc])] at e
      obtain ⟨h1, h2⟩ := at_drop (rest := StrLaws.dbl 34 il ++ 34 :: rest) e
      rw [qscan_step h1, if_neg hc, if_neg (fun z => Bool.noConfusion z.2)]
      exact QSuf.inside hr h' cs (i + 1) h2
theorem QSuf.quoted {dn : List (List Nat)} {rest cu il : List Nat} {R : List (List Nat)} (hr : rest.head? ≠ some 34) (h : QSuf false dn (cu ++ il) rest R) : QSuf false dn cu (34 :: StrLaws.dbl 34 il ++ [34] ++ rest) R := fun cs i e => by
  obtain ⟨h1, h2⟩ := at_drop (c := 34) (rest := StrLaws.dbl 34 il ++ 34 :: rest) (by rw [e]; simp)
  rw [qscan_step h1, if_pos rfl, if_neg (fun z => Bool.noConfusion z.1)]
  exact QSuf.inside hr h cs (i + 1) h2
/-- a name and how it is shown -/
def Shown (n s : Str) : Prop := (∃ il, (∀ c ∈ il, c ∈ signs) ∧ n = wrap il ∧ s = dq il) ∨ (n ∈ words ∧ s = n)
inductive Shows : List Str → List Str → Prop
  | nil : Shows [] []
  | cons {n s : Str} {ns ss : List Str} : Shown n s → Shows ns ss → Shows (n :: ns) (s :: ss)
theorem Shows.snoc {n s : Str} (h : Shown n s) : ∀ {ns ss : List Str}, Shows ns ss → Shows (ns ++ [n]) (ss ++ [s])
  | _, _, .nil => .cons h .nil
  | _, _, .cons h1 h2 => .cons h1 (h2.snoc h)
theorem Made.shows {i : Nat} {t : Str} {os : List Int} {prs : List (Int × Int)} {nms shs : List Str} (h : Made i t os prs nms shs) : Shows nms shs := by
  induction h with
  | nil => exact .nil
  | opn _ ih => exact ih
  | cls _ ih => exact ih
  | blk _ ih => exact ih
  | sgl _ _ _ ih => exact ih
  | dbq _ him _ ih => exact ih.snoc (.inl ⟨_, him, rfl, rfl⟩)
  | wrd hw _ ih => exact ih.snoc (.inr ⟨hw, rfl⟩)
theorem Closing.shows {t : Str} {os : List Int} {prs : List (Int × Int)} {nms shs : List Str} (h : Closing t os prs nms shs) : Shows nms shs := by
  induction h with
  | of hm _ => exact hm.shows
  | cls _ ih => exact ih
theorem Shown.qs {n s : Str} (h : Shown n s) {dn : List (List Nat)} {rest : List Nat} {R : List (List Nat)} (hr : rest.head? ≠ some 34) (hq : QSuf false dn n.cps.toList rest R) : QSuf false dn [] (s.cps.toList ++ rest) R := by
  rcases h with ⟨il, _, rfl, rfl⟩ | ⟨hw, rfl⟩
  · rw [dq_cps]
    exact QSuf.quoted hr hq
  · refine QSuf.plain (cu := []) (fun c hc => ?_) hq
    have := words_ok _ hw c hc
    refine ⟨fun e => ?_, this.2.2⟩
    have h2 := this.2.1
    rw [e] at h2
    exact absurd h2 (by decide)
theorem Shows.qs : ∀ {ns ss : List Str}, Shows ns ss → 0 < ns.length → ∀ dn, QSuf false dn [] (jn (ss.map fun x => x.cps.toList)) (dn ++ ns.map fun x => x.cps.toList)
  | _, _, .nil, h, _ => absurd h (Nat.lt_irrefl _)
  | _, _, .cons (n := n) (s := s) h1 .nil, _, dn => by
    have := h1.qs (rest := []) (R := dn ++ [n.cps.toList]) (by simp) QSuf.nil
    rwa [List.append_nil] at this
  | _, _, .cons (n := n) (s := s) h1 (.cons (n := n2) (s := s2) (ns := ns) (ss := ss) h2 h3), _, dn => by
    have ih := Shows.qs (.cons h2 h3) (Nat.succ_pos _) (dn ++ [n.cps.toList])
    rw [List.append_assoc] at ih
    exact h1.qs (by simp) ih.dot
theorem jn_inj : ∀ {L M : List (List Nat)}, (∀ l ∈ L, 46 ∉ l) → (∀ l ∈ M, 46 ∉ l) → L ≠ [] → M ≠ [] → jn L = jn M → L = M
  | [], _, _, _, h, _, _ => absurd rfl h
  | _ :: _, [], _, _, _, h, _ => absurd rfl h
  | [a], [b], _, _, _, _, e => by rw [show a = b from e]
  | [a], b :: c :: r, h, _, _, _, e => by
    have e' : a = b ++ 46 :: jn (c :: r) := e
    exact absurd (by rw [e']; simp) (h a (.head _))
  | a :: c :: r, [b], _, h, _, _, e => by
    have e' : a ++ 46 :: jn (c :: r) = b := e
    exact absurd (by rw [← e']; simp) (h b (.head _))
  | a :: a2 :: r, b :: b2 :: q, h1, h2, _, _, e => by
    have e' : a ++ 46 :: jn (a2 :: r) = b ++ 46 :: jn (b2 :: q) := e
    have key : a = b ∧ jn (a2 :: r) = jn (b2 :: q) := by
      rcases List.append_eq_append_iff.mp e' with ⟨z, e1, e2⟩ | ⟨z, e1, e2⟩
      · cases z with
        | nil => rw [List.append_nil] at e1; injection e2 with _ e2; exact ⟨e1.symm, e2⟩
        | cons w z => injection e2 with e3 _; subst e3; exact absurd (by rw [e1]; simp) (h2 b (.head _))
      · cases z with
        | nil => rw [List.append_nil] at e1; injection e2 with _ e2; exact ⟨e1, e2.symm⟩
        | cons w z => injection e2 with e3 _; subst e3; exact absurd (by rw [e1]; simp) (h1 a (.head _))
    rw [key.1, jn_inj (fun l hl => h1 l (.tail _ hl)) (fun l hl => h2 l (.tail _ hl)) (by simp) (by simp) key.2]
theorem mem_jn {c : Nat} : ∀ {L : List (List Nat)} {l : List Nat}, l ∈ L → c ∈ l → c ∈ jn L
  | [a], l, h, hc => by rw [List.mem_singleton.mp h] at hc; exact hc
  | a :: b :: r, l, h, hc => by
    show c ∈ a ++ 46 :: jn (b :: r)
    rcases List.mem_cons.mp h with rfl | h
    · exact List.mem_append.mpr (.inl hc)
    · exact List.mem_append.mpr (.inr (.tail _ (mem_jn h hc)))
theorem Shows.words : ∀ {ns ss : List Str}, Shows ns ss → (∀ s ∈ ss, 34 ∉ s.cps.toList) → ss = ns ∧ ∀ n ∈ ns, n ∈ words
  | _, _, .nil, _ => ⟨rfl, fun _ h => nomatch h⟩
  | _, _, .cons h1 h2, h => by
    obtain ⟨e, hw⟩ := h2.words fun s hs => h s (.tail _ hs)
    rcases h1 with ⟨il, _, rfl, rfl⟩ | ⟨hn, rfl⟩
    · exact absurd (by rw [dq_cps]; simp) (h _ (.head _))
    · rw [e]
      refine ⟨rfl, fun n hn2 => ?_⟩
      rcases List.mem_cons.mp hn2 with rfl | hn2
      · exact hn
      · exact hw n hn2
theorem words_ne : ∀ w ∈ words, w.cps.toList ≠ [] := by decide +kernel
theorem wrap_cps : ∀ l : List Str, (l.map fun x => x.cps.toList).map wrap = l
  | [] => rfl
  | a :: r => by
    rw [List.map_cons, List.map_cons, wrap_cps r]
    rfl
theorem join_eq (l : List Str) : Txt.join (Str.ofString ".") l = Str.join (Str.ofString ".") l := by
  show Builtin.Str.glued _ _ = _
  rw [StrLaws.glued_eq_join]
theorem cps_inj {l r : List Str} (h : (l.map fun x => x.cps.toList) = r.map fun x => x.cps.toList) : l = r := by
  rw [← wrap_cps l, h, wrap_cps]
theorem Shows.parsed {ns ss : List Str} (h : Shows ns ss) (hn : 0 < ns.length) : qtpF (Txt.join (Str.ofString ".") ss) = ns := by
  have hj : (Txt.join (Str.ofString ".") ss).cps.toList = jn (ss.map fun x => x.cps.toList) := by rw [join_eq, join_cps]
  unfold qtpF
  split
  · rename_i he
    have hf := StrLaws.found_one (Txt.join (Str.ofString ".") ss) 34
    rw [← sq34, he] at hf
    have h34 : 34 ∉ (Txt.join (Str.ofString ".") ss).cps.toList := of_decide_eq_false hf.symm
    rw [hj] at h34
    obtain ⟨e, hw⟩ := h.words fun s hs hc => h34 (mem_jn (List.mem_map.mpr ⟨s, hs, rfl⟩) hc)
    subst e
    have hs1 := StrLaws.join_split (Txt.join (Str.ofString ".") ss) (Str.ofString ".")
    have hs2 := StrLaws.split_free (Txt.join (Str.ofString ".") ss) 46
    rw [← sq46] at hs2
    generalize Txt.split (Txt.join (Str.ofString ".") ss) (Str.ofString ".") = P at hs1 hs2
    have e1 : jn (P.map fun x => x.cps.toList) = jn (ss.map fun x => x.cps.toList) := by rw [← join_cps, hs1, hj]
    refine cps_inj (jn_inj ?_ ?_ ?_ ?_ e1)
    · intro l hl
      obtain ⟨x, hx, rfl⟩ := List.mem_map.mp hl
      exact hs2 x hx
    · intro l hl hc
      obtain ⟨x, hx, rfl⟩ := List.mem_map.mp hl
      exact (words_ok x (hw x hx) 46 hc).2.2 rfl
    · intro hP
      rw [hP] at e1
      cases ss with
      | nil => exact absurd hn (Nat.lt_irrefl _)
      | cons a r =>
        have hne := words_ne a (hw a (.head _))
        cases ha : a.cps.toList with
        | nil => exact hne ha
        | cons c q =>
          have : c ∈ jn ((a :: r).map fun x => x.cps.toList) := mem_jn (List.mem_map.mpr ⟨a, .head _, rfl⟩) (by rw [ha]; exact .head _)
          rw [← e1] at this
          exact absurd this List.not_mem_nil
    · intro hP
      rw [List.map_eq_nil_iff] at hP
      rw [hP] at hn
      exact absurd hn (Nat.lt_irrefl _)
  · rw [h.qs hn [] _ 0 (by rw [List.drop_zero, hj]), List.nil_append, wrap_cps]
theorem Shows.ok : ∀ {ns ss : List Str}, Shows ns ss → ∀ x ∈ ns, PyData.strOk x = true
  | _, _, .nil, _, h => nomatch h
  | _, _, .cons h1 h2, x, h => by
    rcases List.mem_cons.mp h with rfl | h
    · have hc : ∀ c ∈ x.cps.toList, c < 128 := by
        rcases h1 with ⟨il, him, rfl, _⟩ | ⟨hw, _⟩
        · exact fun c hc => (signs_ok c (him c (by simpa [wrap] using hc))).1
        · exact fun c hc => (words_ok _ hw c hc).1.1
      unfold PyData.strOk
      rw [Array.all_eq_true']
      intro c hc2
      have := hc c (by simpa using hc2)
      exact decide_eq_true (by omega)
    · exact h2.ok x h
end Mine
end
section
open PySem PySem.W PyProof.Rows
namespace Mine
theorem pad_ok {i : Int} (h0 : 0 ≤ i) (h3 : i < 3) : PadOk (Txt.mul (Str.ofString " ") i) := by
  have hc : i = 0 ∨ i = 1 ∨ i = 2 := by omega
  rw [sq32]
  rcases hc with rfl | rfl | rfl
  · exact ⟨0, by decide, by decide +kernel⟩
  · exact ⟨1, by decide, by decide +kernel⟩
  · exact ⟨2, by decide, by decide +kernel⟩
section
variable {prog : Program} {w : World} {A : Around} {E : Value → Shared → Prop} {s : Shared}
theorem pad_mul {i : Int} {t u : Tok} {Q : Value → Shared → Prop} (h0 : 0 ≤ i) (h3 : i < 3) (h : ∀ pd t' k, PadOk pd → pd.length ≤ 2 → Q (.str pd t') { s with toks := k }) :
    wpAny (model prog w) A (binaryOp .Mult (.str (Str.ofString " ") t) (.int i u)) Q E s :=
  KXi.mul (n := 1) (by decide +kernel) (by decide) (by omega) (by omega) fun t' k _ _ => h _ t' k (pad_ok h0 h3) (pad_ok h0 h3).len
end
theorem Closing.pairOk {t : Str} {prs : List (Int × Int)} {nms shs : List Str} (h : Closing t [] prs nms shs) : ∀ a b, (a, b) ∈ prs → PairOk t a b := fun a b hm => (h.bt.inv.prk a b hm).ok
section
variable {t pd : Str} {prs : List (Int × Int)} {nms shs : List Str}
theorem sop_whole (h : Closing t [] prs nms shs) (hp : PadOk pd) : sopF (pd ++ Str.ofString "(" ++ pd ++ Str.ofString "(" ++ t ++ Str.ofString ")" ++ Str.ofString ")" ++ pd) = pd ++ Str.ofString "(" ++ t ++ Str.ofString ")" := h.bt.whole hp
theorem sop_once (h : Closing t [] prs nms shs) (hp : PadOk pd) : sopF (pd ++ Str.ofString "(" ++ t ++ Str.ofString ")") = t := h.bt.once hp
theorem sop_odd1 (h : Closing t [] prs nms shs) (hp : PadOk pd) : sopF (pd ++ Str.ofString "(" ++ t ++ Str.ofString ")(" ++ t ++ Str.ofString ")") = pd ++ Str.ofString "(" ++ t ++ Str.ofString ")(" ++ t ++ Str.ofString ")" := h.bt.odd1 hp
theorem sop_odd2 (h : Closing t [] prs nms shs) (hp : PadOk pd) : sopF (pd ++ Str.ofString "(" ++ t) = pd ++ Str.ofString "(" ++ t := h.bt.odd2 hp
theorem sop_odd3 (h : Closing t [] prs nms shs) (hp : PadOk pd) : sopF (t ++ Str.ofString ")" ++ pd) = t ++ Str.ofString ")" ++ pd := h.bt.odd3 hp
theorem sop_in (h : Closing t [] prs nms shs) (hm : ((t.length : Int) - ((Txt.lstrip t).length : Int), ((Txt.rstrip t).length : Int) - 1) ∈ prs) : sopF t = Txt.slice t (some ((t.length : Int) - ((Txt.lstrip t).length : Int) + 1)) (some (((Txt.rstrip t).length : Int) - 1)) := h.bt.isIn hm
theorem sop_out (h : Closing t [] prs nms shs) (hm : ((t.length : Int) - ((Txt.lstrip t).length : Int), ((Txt.rstrip t).length : Int) - 1) ∉ prs) : sopF t = t := h.bt.notIn hm
theorem qtp_names (h : Closing t [] prs nms shs) (hn : 0 < nms.length) : qtpF (Txt.join (Str.ofString ".") shs) = nms := h.shows.parsed hn
theorem nms_ok (h : Closing t [] prs nms shs) : ∀ x ∈ nms, PyData.strOk x = true := h.shows.ok
end
section
variable {prog : Program} {w : World} {A : Around} {E : Value → Shared → Prop} {s : Shared}
theorem ne_same {x : Str} {t u : Tok} {Q : Value → Shared → Prop} (h : Q (.bool false) s) : wpAny (model prog w) A (compareOp .NotEq (.str x t) (.str x u)) Q E s :=
  ne_str (by rw [bne_self_eq_false]; exact h)
end
end Mine
end
section
open PySem PySem.W PyProof.Rows
namespace Mine
theorem sum_le {b : Nat} : ∀ {l : List Nat}, (∀ x ∈ l, x ≤ b) → l.sum ≤ l.length * b
  | [], _ => Nat.zero_le _
  | x :: r, h => by
    have h1 := h x (.head _)
    have h2 := sum_le (l := r) fun y hy => h y (.tail _ hy)
    rw [List.sum_cons, List.length_cons, Nat.add_mul]; omega
theorem join_dot_len {shs : List Str} (h8 : ∀ x ∈ shs, x.length ≤ 8) (hn : shs.length ≤ 12) : (Txt.join (Str.ofString ".") shs).length ≤ 108 := by
  have e : Txt.join (Str.ofString ".") shs = Str.join (Str.ofString ".") shs := by
    show Builtin.Str.glued _ _ = _
    rw [StrLaws.glued_eq_join]
  rw [e]
  have h := StrLaws.join_length_le (Str.ofString ".") shs
  have h1 : (Str.ofString ".").length = 1 := by decide +kernel
  have h2 := sum_le (b := 8) (l := shs.map (·.length)) fun x hx => by
    obtain ⟨y, hy, rfl⟩ := List.mem_map.mp hx
    exact h8 y hy
  rw [List.length_map] at h2
  rw [h1] at h
  omega
section
variable {prog : Program} {w : World} {A : Around} {E : Value → Shared → Prop} {s : Shared}
theorem call_joinD {a : Addr} {vs : List Value} {shs : List Str} {t : Tok} {Q : Value → Shared → Prop} (hL : s.heap.IsList a vs.toArray) (hS : StrsAre vs shs) (h8 : ∀ x ∈ shs, x.length ≤ 8) (hn : shs.length ≤ 12)
    (h : ∀ t' k, (Txt.join (Str.ofString ".") shs).length ≤ 108 → Q (.str (Txt.join (Str.ofString ".") shs) t') { s with toks := k }) : wpAny (model prog w) A (call (.builtin "str.join") [.str (Str.ofString ".") t, .ref a]) Q E s := by
  have h1 : (Str.ofString ".").length = 1 := by decide +kernel
  refine KT.join_B (x := Str.ofString ".") (g := id) (l := shs) 8 hL hS.carried h8 (by omega) (by omega) fun t' k => ?_
  rw [List.map_id]
  exact h t' k (join_dot_len h8 hn)
def pairDat (p : Int × Int) : PySem.W.Dat := .tuple [.int p.1, .int p.2]
theorem PairsAre.dats {led : List (Addr × Obj)} {us : List Value} {ps : List (Int × Int)} (h : PairsAre led us ps) : DatAll led us (ps.map pairDat) := by
  induction h with
  | nil => exact .nil
  | cons hm _ ih => exact .cons (DatIn.tuple (n := 0) hm (.cons (.int _ _) (.cons (.int _ _) .nil))) ih
open Classical in
theorem pair_in {h₀ : Heap} {L l T : Addr} {news : List (Addr × Obj)} {us : List Value} {k : Nat} {ps : List (Int × Int)} {a b : Int} {ta tb : Tok} {Q : Value → Shared → Prop} (N : News h₀ L s.heap news) (ml : (l, listOf us.toArray k) ∈ news) (hP : PairsAre news us ps)
    (mT : (T, ({ cls := .type "tuple", data := .seq #[.int a ta, .int b tb] } : Obj)) ∈ news) (hu : A.units + 64 < cLine) (ht : (a, b) ∈ ps → Q (.bool true) s) (hf : (a, b) ∉ ps → Q (.bool false) s) : wpAny (model prog w) A (compareOp .In (.ref T) (.ref l)) Q E s := by
  refine kqd_isIn (d := pairDat (a, b)) N ml rfl rfl hP.dats (fun _ h => h) (DatIn.tuple (n := 0) (vs := [.int a ta, .int b tb]) mT (.cons (.int _ _) (.cons (.int _ _) .nil))) (fun _ h => h) (fun d hd => ?_) rfl hu ?_
  · obtain ⟨p, _, rfl⟩ := List.mem_map.mp hd
    rfl
  · by_cases hm : (a, b) ∈ ps
    · rw [decide_eq_true (List.mem_map.mpr ⟨_, hm, rfl⟩)]; exact ht hm
    · rw [decide_eq_false fun hq => hm ?_]; exact hf hm
      obtain ⟨⟨c, d⟩, hp, e⟩ := List.mem_map.mp hq
      simp only [pairDat, Dat.tuple.injEq, List.cons.injEq, Dat.int.injEq] at e
      rw [← e.1, ← e.2.1]; exact hp
theorem lay_strs : ∀ {ns : List Str}, (∀ x ∈ ns, PyData.strOk x = true) → PyData.canLayAll0 (ns.map PyData.str) = true
  | [], _ => rfl
  | x :: r, h => by
    rw [List.map_cons, PyData.canLayAll0, lay_strs fun y hy => h y (.tail _ hy), PyData.canLay0, h x (.head _)]; rfl
theorem depth_strs : ∀ ns : List Str, PyData.depthAll (ns.map PyData.str) = 0
  | [] => rfl
  | x :: r => by rw [List.map_cons, PyData.depthAll, depth_strs r, PyData.depth]; rfl
theorem texts_eq {a b : Addr} {xs ys : List Value} {ns : List Str} {Q : Value → Shared → Prop} (ha : s.heap.IsList a xs.toArray) (hb : s.heap.IsList b ys.toArray) (hi : StrsAre xs ns) (hj : StrsAre ys ns) (hok : ∀ x ∈ ns, PyData.strOk x = true) (hu : A.units + 64 < cLine)
    (h : Q (.bool true) s) : wpAny (model prog w) A (compareOp .Eq (.ref a) (.ref b)) Q E s := by
  have hl : (PyData.list (ns.map .str)).canLay0 = true := by rw [PyData.canLay0]; exact lay_strs hok
  have hs : SeqAt.shaped (.list (ns.map PyData.str)) = true := by
    unfold SeqAt.shaped
    rw [hl, PyData.depth, depth_strs]; rfl
  exact eq_dataH (reads_newData ha hi.carried) (reads_newData hb hj.carried) hs hs hu (by rw [PySem.SeqAt.eqv_refl _ hl]; exact h)
theorem not_names {a : Addr} {vs : List Value} {ns : List Str} {Q : Value → Shared → Prop} (hl : s.heap.IsList a vs.toArray) (hi : StrsAre vs ns) (hn : ns.length ≤ 12)
    (h0 : ns.length = 0 → ∀ k, Q (.bool true) { s with toks := k }) (h1 : 0 < ns.length → ∀ k, Q (.bool false) { s with toks := k }) : wpAny (model prog w) A (unaryOp .Not (.ref a)) Q E s := by
  have hlen := hi.length
  refine not_of (wpAny_truthy_list hl (by simp only [List.size_toArray]; omega) ?_)
  cases hv : vs with
  | nil =>
    rw [hv] at hlen
    exact h0 hlen.symm _
  | cons v r =>
    rw [hv, List.length_cons] at hlen
    exact h1 (by omega) _
end
end Mine
end
section
open PySem PySem.W PyProof.Rows PySem.Calls PySem.Spec
set_option Elab.async false
set_option maxRecDepth 100000
namespace Mine
local macro_rules | `(tactic| walk_at "call type:enumerate cons nil") => `(tactic| (refine Stop.out ?_))
local macro_rules | `(tactic| walk_at "exec For Tuple Call") => `(tactic| (refine Stop.out ?_))
local macro_rules | `(tactic| walk_at "eval ListComp") => `(tactic| (refine Stop.out ?_))
local macro_rules | `(tactic| walk_at "CompSrc") => `(tactic| (refine Stop.out ?_))
local macro_rules | `(tactic| walk_at "call builtin:str.join") => `(tactic| (refine Stop.out ?_))
local macro_rules | `(tactic| walk_at "subscriptTail Name BinOp ref int") => `(tactic| ((with_reducible show wpAny _ _ (subscriptTail _ _ (Value.ref 35) _) _ _ _); (refine Stop.out ?_)))
local macro_rules | `(tactic| walk_at "binaryOp FloorDiv int int") => `(tactic| ((with_reducible show wpAny _ _ (binaryOp _ _ (Value.int (HPow.hPow _ _) _)) _ _ _); (with_reducible refine floordiv_int (pow7 _) ?_ (Or.inl (PyProof.noPylong_small (pow7_small (by omega)))))))
local macro_rules | `(tactic| walk_at "call builtin:list.append") => `(tactic| (k_here; (with_reducible show wpAny _ _ (call (Value.builtin _) [Value.ref _, _]) _ _ _); k_dflt (refine' append_my ?k1 ?k2 ?k3 ?z ?_; (case k1 => k_asm); (case k2 => k_asm); (case k3 => k_upd); (case z => ((try simp only [List.length_append, List.length_singleton]); omega)); k_whole); intro h' F' N'; (try k_sweep)))
local macro_rules | `(tactic| walk_at "call builtin:str.replace") => `(tactic| (k_here; (with_reducible show wpAny _ _ (call (Value.builtin "str.replace") [Value.str _ _, Value.str _ _, Value.str _ _]) _ _ _); (refine SC.replaceW (by omega) (by omega) (by omega) (by decide +kernel) (by omega) (by decide +kernel) ?_); intro _ _))
local macro_rules | `(tactic| walk_at "binaryOp Add str str") => `(tactic| ((with_reducible show wpAny _ _ (binaryOp Operator.Add (Value.str _ _) (Value.str _ _)) _ _ _); (refine PyProof.Rows.add_str ?_ (by (rw [PySem.sizeLine_eq]; (try simp only [PySem.Str.length_append]); omega))); intro _ _))
local macro_rules | `(tactic| walk_at "inplaceOp Add str str") => `(tactic| ((with_reducible show wpAny _ _ (inplaceOp Operator.Add (Value.str _ _) (Value.str _ _)) _ _ _); (refine PyProof.Rows.iadd_str ?_ (by (rw [PySem.sizeLine_eq]; (try simp only [PySem.Str.length_append]); omega))); intro _ _))
local macro_rules | `(tactic| walk_at "subscriptTail Name UnaryOp ref int") => `(tactic| (k_here; (with_reducible show wpAny _ _ (subscriptTail _ _ (Value.ref _) (Value.int _ _)) _ _ _); (with_unfolding_all refine' my_last ?k1 ?_ ?k6; (case k1 => is_list); (case k6 => with_unfolding_all rfl); k_whole)))
local macro_rules | `(tactic| walk_at "subscriptTail Call Name nil nil BinOp ref int") => `(tactic| (refine Stop.out ?_))
local macro_rules | `(tactic| walk_at "subscriptTail") => `(tactic| ((with_reducible show wpAny _ _ (subscriptTail (PySem.Expr.Call _ _ _ _) _ (Value.ref _) _) _ _ _); (refine Stop.out ?_)))
local macro_rules | `(tactic| walk_at "exec While") => `(tactic| (refine Stop.out ?_))
local macro_rules | `(tactic| walk_at "exec While Name") => `(tactic| (refine Stop.out ?_))
local macro_rules | `(tactic| walk_at "exec While Name cons nil") => `(tactic| (refine Stop.out ?_))
local macro_rules | `(tactic| walk_at "KswEnd") => `(tactic| (refine Stop.out ?_))
local macro_rules | `(tactic| walk_at "exec For Tuple Name") => `(tactic| (refine Stop.out ?_))
local macro_rules | `(tactic| walk_at "PPost") => `(tactic| (dsimp only [PPost]))
local macro_rules | `(tactic| walk_at "exec For Name Tuple cons nil") => `(tactic| (refine Stop.out ?_))
local macro_rules | `(tactic| walk_at "pyIter ref") => `(tactic| (refine Stop.out ?_))
local macro_rules | `(tactic| walk_at "OPost") => `(tactic| (dsimp only [OPost]))
local macro_rules | `(tactic| walk_at "OEnd") => `(tactic| (refine Stop.out ?_))
local macro_rules | `(tactic| walk_at "compareOp In ref ref") => `(tactic| (refine Stop.out ?_))
local macro_rules | `(tactic| walk_at "compareOp Eq ref ref") => `(tactic| (refine Stop.out ?_))
local macro_rules | `(tactic| walk_at "unaryOp Not ref") => `(tactic| (refine Stop.out ?_))
local macro_rules | `(tactic| walk_at "PEnd") => `(tactic| (refine Stop.out ?_))
local macro_rules | `(tactic| walk_at "call ref") => `(tactic| first | ((with_reducible show wpAny _ _ (call (Value.ref 22) _ _) _ _ _); (refine Stop.out ?_)) | ((with_reducible show wpAny _ _ (call (Value.ref 29) _ _) _ _ _); (refine Stop.out ?_)) | ((with_reducible show wpAny _ _ (call (Value.ref 34) _ _) _ _ _); (refine Stop.out ?_)))
local macro_rules | `(tactic| walk_at "binaryOp Mult str int") => `(tactic| (refine Stop.out ?_))
local macro_rules | `(tactic| walk_at "compareOp NotEq str str") => `(tactic| (with_reducible refine ne_same ?_))
local macro_rules | `(tactic| walk_at "BPost") => `(tactic| (dsimp only [BPost]))
local macro_rules | `(tactic| walk_at "BEnd") => `(tactic| (refine Stop.out ?_))
local macro_rules | `(tactic| k_all) => `(tactic| exact Later.ne (by assumption) (by omega))
section
variable {prog : Program} {w w' : World} {A : Around} {E : Value → Shared → Prop} {s : Shared} {h₀ : Heap} {L : Addr} {m : Str → Option Value}
theorem sign_tail {value slice : PySem.Expr} {k : Int} {u : Tok} {Q : Value → Shared → Prop} (X : (Mine.hd.heap_39 w'.params).In h₀) (F : Fr h₀ L s.heap m) (h0 : 0 ≤ k) (h7 : k < 7) (h : ∀ t, Q (.str (sing (sgn k)) t) s)
    (hs : subscripted slice false (.ref 35) (.int k u) = operate [.ref 35, .int k u] (getItem (.ref 35) (.int k u)) := by with_unfolding_all rfl) :
    wpAny (model prog w) A (subscriptTail value slice (.ref 35) (.int k u)) Q E s := by
  obtain ⟨t, ht⟩ := sgn_item h0 h7
  have hl : s.heap.IsList 35 _ := ⟨_, F.keep _ _ (X 35 _ (by rfl)), rfl, _, rfl⟩
  exact tail_any hl.typeIs slot_list_getitem.lookup (wpAny_getItem_list hl h0 (by omega) ht (h t)) hs
end
set_option maxHeartbeats 8000000 in
theorem law_holds : PySem.Challenge.rw_eu0032_01.Holds := Mine.hd (by
  k_go0
  (all_goals try k_fold)
  k_steps
  unfold Stop
  k_dflt refine wpAny_For ?_ ?hs
  (case hs => intro _; rfl)
  k_steps
  unfold Stop
  rename Fr _ _ _ _ => F1
  rename News _ _ _ _ => N1
  rename IntsAre _ (List.take _ _) => hI1
  rename _ = Data.cell _ => hcell
  k_dflt refine' build Made (fun _ _ h => h) ?hh ?hxi ?hxc ?hp F1 N1 hI1 ?hm0 ⟨_, hcell⟩ ?hP0 ?ord ?pass ?turn ?done
  (case hh => exact rfl)
  (case hxi => exact rfl)
  (case hxc => exact rfl)
  (case hp => exact rfl)
  (case hm0 => exact rfl)
  (case hP0 => exact Made.nil)
  (case ord => omega)
  (case pass => first | passes_own | with_unfolding_all passes_own)
  (case turn =>
    clear F1 N1 hcell
    rintro ⟨ctx, ctt, cov, con, cpv, cpn, cnv, cnn, csv, csn, ctups, coc, cos, cprs, cnms, cshs⟩ wu wi wn wt wti e it oe oi wh wtk hwn hDit hite wf1 wf2 wf3 wf4 wf5 ⟨wcv, wf6⟩ wP wF wN
    dsimp only at wf1 wf2 wf3 wf4 wf5 wf6 wP wF wN
    have hw12 : wi < 12 := by
      have h1 := (List.getElem?_eq_some_iff.mp hwn).1
      rw [List.length_take] at h1
      omega
    have wz := wP.sizes
    have wzt := wz.t
    have wzo := wz.o
    have wzp := wz.p
    have wzn := wz.n
    have wl1 := wf1.length
    have wl2 := wf2.length
    have wl3 := wf3.length
    have wl4 := wf4.length
    have wzs := wz.s
    (try k_fold)
    k_steps
    unfold Stop
    k_dflt (refine LCg.ListComp_U (F₀ := by k_asm) (by with_unfolding_all rfl) (by decide) (by rfl) (by decide) (by rfl) ?_)
    k_steps
    unfold Stop
    rename Fr _ _ _ _ => F2
    rename News _ _ _ _ => N2
    rename IsRange _ _ _ _ _ _ _ _ => hR2
    have hb1 : 0 ≤ (wn.fdiv 7 + (wi : Int)).fmod 4 := fmod_lo _ (by decide)
    have hb2 : (wn.fdiv 7 + (wi : Int)).fmod 4 < 4 := fmod_hi _ (by decide)
    k_dflt refine' LCg.CompSrc.range ?c1 F2 N2 hR2 ?c2 ?c3 ?c4 ?c5
    (case c1 => exact rfl)
    (case c2 => exact small_one (by decide) (by decide) (by omega) (by omega))
    (case c3 => exact rangeSize_nat _ _)
    (case c4 => rw [PySem.sizeLine_eq]; omega)
    (case c5 =>
      intro g'
      refine' kct_range (fun k => sing (innerAt (wn.fdiv 7 + (wi : Int)) k)) (fun k' t' I' oI' C' oC' D' m' ys' h' tk' E' hlo' hhi' hC' hx' F' N' off' ne' hMark' => ?_) ?_
      · clear F2 N2
        k_steps
        · unfold Stop
          k_dflt (refine sign_tail (by k_asm) (by k_asm) (fmod_lo _ (by decide)) (fmod_hi _ (by decide)) ?_)
          intro t9
          refine LCg.CompEnd.intro F' N' _ (fun p hp => hp) off' trivial ⟨rfl, t9, rfl⟩
      · unfold KPfDone
        intro ys hC hlen
        unfold LCg.FinE
        intro D9 h9 tk9 F9 N9 off9
        have N8 := news_tail N9
        have hL9 : Heap.IsList h9 D9 ys.toArray := ⟨_, (N9 _ (.head _)).1, rfl, _, rfl⟩
        have hS9 : StrsAre ys (((rangeKs 0 (((wn.fdiv 7 + (wi : Int)).fmod 4) - 0).toNat).map (innerAt (wn.fdiv 7 + (wi : Int)))).map sing) := by
          rw [List.map_map]
          exact hC.strsOf
        have hil : ((rangeKs 0 (((wn.fdiv 7 + (wi : Int)).fmod 4) - 0).toNat).map (innerAt (wn.fdiv 7 + (wi : Int)))).length ≤ 3 := by
          rw [List.length_map, rangeKs_length]; omega
        have him : ∀ c ∈ (rangeKs 0 (((wn.fdiv 7 + (wi : Int)).fmod 4) - 0).toNat).map (innerAt (wn.fdiv 7 + (wi : Int))), c ∈ signs := by
          intro c hc
          obtain ⟨k9, _, rfl⟩ := List.mem_map.mp hc
          exact sgn_mem _
        generalize (rangeKs 0 (((wn.fdiv 7 + (wi : Int)).fmod 4) - 0).toNat).map (innerAt (wn.fdiv 7 + (wi : Int))) = il at hS9 hil him
        clear F2 N2 hR2 hC hlen
        (try dsimp only)
        k_steps
        unfold Stop
        k_dflt (refine call_join2 hL9 hS9 (by omega) ?_)
        intro t8 k8
        have hrs := rs_len hil
        have hrd := rd_len hil
        have h39 := l39
        have h34 := l34
        have h40 : (Str.ofString "(").length = 1 := by decide +kernel
        have h41 : (Str.ofString ")").length = 1 := by decide +kernel
        have h32 : (Str.ofString " ").length = 1 := by decide +kernel
        have hwl : (wrap il).length ≤ 3 := by rw [wrap_length]; exact hil
        clear N9 off9 hL9 hS9
        (try dsimp only)
        iterate 10 (first | walk1 | (dsimp only; walk1))
        · k_steps
          unfold Stop
          rename Fr _ _ _ _ => F7
          rename News _ _ _ _ => N7
          k_dflt refine' b_end ⟨_, _, cov ++ [_], _, cpv, cpn, cnv, cnn, csv, csn, ctups, _, cos ++ [(ctx.length : Int)], cprs, cnms, cshs⟩ F7 N7 ?hs1 ?ho1 ?hf1 ?hm1 ?hP1
          (case hm1 => refine ⟨by with_unfolding_all rfl, fun z h1 h2 => ?_⟩; (obtain ⟨a, b, c, d⟩ := bst_ne h2; simp only [if_neg h1, if_neg a, if_neg b, if_neg c, if_neg d, h2, Bool.false_eq_true, if_false]))
          (case hs1 => dsimp only [BLed, List.cons_append, List.nil_append]; kst_in)
          (case ho1 => omega)
          (case hf1 => exact ⟨ia_snoc wf1, wf2, wf3, wf4, wf5, _, by assumption⟩)
          (case hP1 => exact .opn wP)
        iterate 16 (first | walk1 | (dsimp only; walk1))
        · k_steps
          unfold Stop
          rename Fr _ _ _ _ => F7
          rename News _ _ _ _ => N7
          rename IntsAre (List.dropLast _) _ => hI7
          rename 0 < cos.length => hco
          k_dflt refine' b_end ⟨_, _, cov.dropLast, _, cpv ++ [.ref _], _, cnv, cnn, csv, csn, (_, tupOf (.int (cos.getLastD 0) _) (.int (ctx.length : Int) _)) :: ctups, _, cos.dropLast, cprs ++ [(cos.getLastD 0, (ctx.length : Int))], cnms, cshs⟩ F7 N7 ?hs2 ?ho2 ?hf2 ?hm2 ?hP2
          (case hm2 => refine ⟨by with_unfolding_all rfl, fun z h1 h2 => ?_⟩; (obtain ⟨a, b, c, d⟩ := bst_ne h2; simp only [if_neg h1, if_neg a, if_neg b, if_neg c, if_neg d, h2, Bool.false_eq_true, if_false]))
          (case hs2 => dsimp only [BLed, List.cons_append, List.nil_append]; kst_in)
          (case ho2 => omega)
          (case hf2 => exact ⟨hI7, (wf2.mono (fun p hp => .tail _ hp)).snoc (.head _), wf3, wf4, later_cons (by omega) wf5, _, by assumption⟩)
          (case hP2 => exact wP.cls' hco)
        · k_steps
          unfold Stop
          rename Fr _ _ _ _ => F7
          rename News _ _ _ _ => N7
          k_dflt refine' b_end ⟨_, _, cov, _, cpv, cpn, cnv, cnn, csv, csn, ctups, _, cos, cprs, cnms, cshs⟩ F7 N7 ?hs3 ?ho3 ?hf3 ?hm3 ?hP3
          (case hm3 => refine ⟨by with_unfolding_all rfl, fun z h1 h2 => ?_⟩; (obtain ⟨a, b, c, d⟩ := bst_ne h2; simp only [if_neg h1, if_neg a, if_neg b, if_neg c, if_neg d, h2, Bool.false_eq_true, if_false]))
          (case hs3 => dsimp only [BLed, List.cons_append, List.nil_append]; kst_in)
          (case ho3 => omega)
          (case hf3 => exact ⟨wf1, wf2, wf3, wf4, wf5, _, by assumption⟩)
          (case hP3 => exact .blk wP)
        iterate 19 (first | walk1 | (dsimp only; walk1))
        · k_steps
          unfold Stop
          rename Fr _ _ _ _ => F7
          rename News _ _ _ _ => N7
          k_dflt refine' b_end ⟨_, _, cov, _, cpv, cpn, cnv, cnn, csv, csn, ctups, _, cos, cprs, cnms, cshs⟩ F7 N7 ?hs4 ?ho4 ?hf4 ?hm4 ?hP4
          (case hm4 => refine ⟨by with_unfolding_all rfl, fun z h1 h2 => ?_⟩; (obtain ⟨a, b, c, d⟩ := bst_ne h2; simp only [if_neg h1, if_neg a, if_neg b, if_neg c, if_neg d, h2, Bool.false_eq_true, if_false]))
          (case hs4 => dsimp only [BLed, List.cons_append, List.nil_append]; kst_in)
          (case ho4 => omega)
          (case hf4 => exact ⟨wf1, wf2, wf3, wf4, wf5, _, by assumption⟩)
          (case hP4 => exact .sgl hil him wP)
        iterate 15 (first | walk1 | (dsimp only; walk1))
        · iterate 18 (first | walk1 | (dsimp only; walk1))
          · k_steps
            unfold Stop
            rename Fr _ _ _ _ => F7
            rename News _ _ _ _ => N7
            k_dflt refine' b_end ⟨_, _, cov, _, cpv, cpn, cnv ++ [.str (wrap il) _], _, csv ++ [.str (dq il) _], _, ctups, _, cos, cprs, cnms ++ [wrap il], cshs ++ [dq il]⟩ F7 N7 ?hs5 ?ho5 ?hf5 ?hm5 ?hP5
            (case hm5 => refine ⟨by with_unfolding_all rfl, fun z h1 h2 => ?_⟩; (obtain ⟨a, b, c, d⟩ := bst_ne h2; simp only [if_neg h1, if_neg a, if_neg b, if_neg c, if_neg d, h2, Bool.false_eq_true, if_false]))
            (case hs5 => dsimp only [BLed, List.cons_append, List.nil_append]; kst_in)
            (case ho5 => omega)
            (case hf5 => exact ⟨wf1, wf2, sa_snoc wf3, sa_snoc wf4, wf5, _, by assumption⟩)
            (case hP5 => exact .dbq hil him wP)
          · exfalso; omega
        · iterate 27 (first | walk1 | (dsimp only; walk1))
          unfold Stop
          k_dflt (refine word_tail (by is_list) (fmod_lo _ (by decide)) (fmod_hi _ (by decide)) ?_)
          intro wd t7 hwd
          have hwdl := words_len _ hwd
          iterate 17 (first | walk1 | (dsimp only; walk1))
          · exfalso; omega
          · k_steps
            unfold Stop
            rename Fr _ _ _ _ => F7
            rename News _ _ _ _ => N7
            k_dflt refine' b_end ⟨_, _, cov, _, cpv, cpn, cnv ++ [.str wd _], _, csv ++ [.str wd _], _, ctups, _, cos, cprs, cnms ++ [wd], cshs ++ [wd]⟩ F7 N7 ?hs6 ?ho6 ?hf6 ?hm6 ?hP6
            (case hm6 => refine ⟨by with_unfolding_all rfl, fun z h1 h2 => ?_⟩; (obtain ⟨a, b, c, d⟩ := bst_ne h2; simp only [if_neg h1, if_neg a, if_neg b, if_neg c, if_neg d, h2, Bool.false_eq_true, if_false]))
            (case hs6 => dsimp only [BLed, List.cons_append, List.nil_append]; kst_in)
            (case ho6 => omega)
            (case hf6 => exact ⟨wf1, wf2, sa_snoc wf3, sa_snoc wf4, wf5, _, by assumption⟩)
            (case hP6 => exact .wrd hwd wP)))
  (case done =>
    clear F1 N1 hcell
    rintro ⟨ctx, ctt, cov, con, cpv, cpn, cnv, cnn, csv, csn, ctups, coc, cos, cprs, cnms, cshs⟩ wu e wh wtk hDe wf1 wf2 wf3 wf4 wf5 ⟨wcv, wf6⟩ wP wF wN
    dsimp only at wf1 wf2 wf3 wf4 wf5 wf6 wP wF wN
    rename (List.take _ _).length = min _ _ => hmin
    have hC := Closing.of wP (by omega)
    (try dsimp only)
    (try k_fold)
    k_steps
    unfold Stop
    rename Fr _ _ _ _ => F1
    rename News _ _ _ _ => N1
    k_dflt refine' ksw_while (σ := WS) (WLed ?w1 ?w2 ?w3 ?w4 (listOf csv.toArray csn) (listOf cnv.toArray cnn)) WPs (WFacts ?w3) [] (fun c => Closing c.tx c.os c.prs cnms cshs) (fun c => c.os.length) ⟨ctx, ctt, cov, con, cpv, cpn, ctups, cos, cprs⟩ F1 ?kN ?kf ?hk hC ?turn ?hE
    (case kN => exact kst_newsOf N1 (by dsimp only [WLed]; kst_in))
    (case kf => exact ⟨wf1, wf2, wf5.mono (by omega)⟩)
    (case hk => kst_all)
    (case hE => first | passes_own | with_unfolding_all passes_own)
    (case turn =>
      clear F1 N1
      rintro ⟨vtx, vtt, vov, von, vpv, vpn, vtups, vos, vprs⟩ vu vh vtk ⟨vf1, vf2, vf5⟩ vP vF vN
      dsimp only [WLed, WPs, kstB] at vf1 vf2 vf5 vP vF vN
      have vz1 := vP.sizes.t
      have vz2 := vP.sizes.p
      have vl1 := vf1.length
      have vl2 := vf2.length
      have h41 : (Str.ofString ")").length = 1 := by decide +kernel
      (try k_fold)
      iterate 5 (first | walk1 | (dsimp only; walk1))
      · k_steps
        unfold Stop
        rename Fr _ _ _ _ => F2
        rename News _ _ _ _ => N2
        rename IntsAre (List.dropLast _) _ => hI7
        rename 0 < vos.length => hco
        k_dflt refine' ksw_end ⟨_, _, vov.dropLast, _, vpv ++ [.ref _], _, (_, tupOf (.int (vos.getLastD 0) _) (.int (vtx.length : Int) _)) :: vtups, vos.dropLast, vprs ++ [(vos.getLastD 0, (vtx.length : Int))]⟩ F2 N2 ?hn7 ?hf7 ?hk7 ?hr7 ?hp7 ?hm7
        (case hk7 => dsimp only [WPs]; kst_all)
        (case hn7 => dsimp only [WLed]; kst_in)
        (case hf7 => exact ⟨hI7, (vf2.mono (fun p hp => .tail _ hp)).snoc (.head _), later_cons (by omega) vf5⟩)
        (case hr7 => dsimp only [WPs]; ksw_same)
        (case hp7 => exact vP.cls' hco)
        (case hm7 => show vos.dropLast.length < vos.length; rw [List.length_dropLast]; omega)
      · k_steps
        unfold Stop
        rename ¬ 0 < vos.length => hv0
        have hvn : vos = [] := by cases vos with | nil => rfl | cons _ _ => exact absurd (Nat.succ_pos _) hv0
        subst hvn
        k_dflt refine wpAny_For ?_ ?hs
        (case hs => intro _; rfl)
        walk1
        rename Fr _ _ _ _ => F1
        rename News _ _ _ _ => N1
        k_dflt refine' pairs_loop (ps := vprs) (fun _ _ h => h) ?hh ?hxi ?hxc ?hp F1 N1 ?hl ?hP ?pass ?turn2 ?done2
        (case hh => exact rfl)
        (case hxi => exact rfl)
        (case hxc => exact rfl)
        (case hp => exact rfl)
        (case hl => exact List.Mem.head _)
        (case hP => exact vf2.mono (fun p hp => .tail _ (.tail _ (.tail _ (.tail _ hp)))))
        (case pass => first | passes_own | with_unfolding_all passes_own)
        (case turn2 =>
          intro a b ta tb I oI h3 tk3 hab hI F3 N3
          clear F1 N1
          have hok := vP.pairOk a b hab
          have hok0 := hok.a0
          have hok1 := hok.ab
          have hok2 := hok.bl
          have hok3 := hok.sl
          (try dsimp only)
          (try k_fold)
          k_steps
          unfold Stop
          rename Fr _ _ _ _ => FA
          rename News _ _ _ _ => NA
          refine' fmp_tells (i := a) ?kBA FA ?kXA NA ?kTA ?kkA ?kdA ?kuA (hok.a0) (by omega) (hok.it) (by omega) (hok.sc) ?retA
          (case kBA => k_asm)
          (case kXA => k_asm)
          (case kTA => k_asm)
          (case kkA => exact rfl)
          (case kdA => ktr_room)
          (case kuA => ktr_units)
          intro vA tA hA tkA eA GA MA
          clear FA NA
          have eA2 : vA = .int b tA := by rw [eA]; show Value.int (b.toNat : Int) tA = _; rw [Int.toNat_of_nonneg (by omega)]
          subst eA2
          clear eA
          (try dsimp only)
          (try k_fold)
          k_steps
          unfold Stop
          rename Fr _ _ _ _ => FB
          rename News _ _ _ _ => NB
          refine' fmp_tells (i := a) ?kBB FB ?kXB NB ?kTB ?kkB ?kdB ?kuB (hok.a0) (by rw [hok3]; omega) (hok.it2) (by rw [hok3]; omega) (hok.sc2) ?retB
          (case kBB => k_asm)
          (case kXB => k_asm)
          (case kTB => k_asm)
          (case kkB => exact rfl)
          (case kdB => ktr_room)
          (case kuB => ktr_units)
          intro vB tB hB tkB eB GB MB
          clear FB NB
          have eB2 : vB = .none := eB
          subst eB2
          clear eB
          (try dsimp only)
          (try k_fold)
          k_steps
          unfold Stop
          exact ⟨_, _, _, rfl, GB, MB, fun z h1 h2 => by (try dsimp only); simp only [if_neg h1, if_neg h2]⟩)
        (case done2 =>
          intro pu ph ptk F3 N3
          clear F1 N1
          have hsl := vP.sizes.t
          have hsp := vP.sizes.p
          have hsn := vP.sizes.n
          have hss := vP.sizes.s
          have hs8 := vP.sizes.s8
          have h40 : (Str.ofString "(").length = 1 := by decide +kernel
          have h41 : (Str.ofString ")").length = 1 := by decide +kernel
          have h32 : (Str.ofString " ").length = 1 := by decide +kernel
          have h4140 : (Str.ofString ")(").length = 2 := by decide +kernel
          (try dsimp only)
          (try k_fold)
          k_steps
          unfold Stop
          k_dflt (refine pad_mul (fmod_lo _ (by decide)) (fmod_hi _ (by decide)) ?_)
          intro pd pt pk hpd hpl
          (try dsimp only)
          k_steps
          unfold Stop
          rename Fr _ _ _ _ => FC
          rename News _ _ _ _ => NC
          refine' sop_tells ?kBC FC ?kXC NC ?kTC ?kkC ?kdC ?kuC (by (simp only [PySem.Str.length_append]; omega)) ?retC
          (case kBC => k_asm)
          (case kXC => k_asm)
          (case kTC => k_asm)
          (case kkC => exact rfl)
          (case kdC => ktr_room)
          (case kuC => ktr_units)
          intro vC tC hC tkC eC GC MC
          clear FC NC
          rw [sop_whole vP hpd] at eC
          have eC' := eC.symm
          subst eC'
          clear eC
          (try dsimp only)
          (try k_fold)
          k_steps
          unfold Stop
          rename Fr _ _ _ _ => FD
          rename News _ _ _ _ => ND
          refine' sop_tells ?kBD FD ?kXD ND ?kTD ?kkD ?kdD ?kuD (by (simp only [PySem.Str.length_append]; omega)) ?retD
          (case kBD => k_asm)
          (case kXD => k_asm)
          (case kTD => k_asm)
          (case kkD => exact rfl)
          (case kdD => ktr_room)
          (case kuD => ktr_units)
          intro vD tD hD tkD eD GD MD
          clear FD ND
          rw [sop_once vP hpd] at eD
          have eD' := eD.symm
          subst eD'
          clear eD
          (try dsimp only)
          (try k_fold)
          k_steps
          unfold Stop
          k_dflt refine wpAny_For ?_ ?hs
          (case hs => intro _; rfl)
          k_steps
          unfold Stop
          rename Fr _ _ _ _ => F4
          rename News _ _ _ _ => N4
          k_dflt refine' odd_loop (fun _ _ h => h) ?hh ?hxi ?hp F4 N4 (List.Mem.head _) ?pass ?turn3 ?done3
          (case hh => exact rfl)
          (case hxi => exact rfl)
          (case hp => exact rfl)
          (case pass => first | passes_own | with_unfolding_all passes_own)
          (case turn3 =>
            intro x tx I oI h3 tk3 hx hI F5 N5
            clear F4 N4
            have hx2 : sopF x = x ∧ x.length ≤ 1000 := by
              rcases hx with rfl | rfl | rfl
              · exact ⟨sop_odd1 vP hpd, by simp only [PySem.Str.length_append]; omega⟩
              · exact ⟨sop_odd2 vP hpd, by simp only [PySem.Str.length_append]; omega⟩
              · exact ⟨sop_odd3 vP hpd, by simp only [PySem.Str.length_append]; omega⟩
            obtain ⟨hx2, hx3⟩ := hx2
            clear hx
            (try dsimp only)
            (try k_fold)
            k_steps
            unfold Stop
            rename Fr _ _ _ _ => FE
            rename News _ _ _ _ => NE
            refine' sop_tells ?kBE FE ?kXE NE ?kTE ?kkE ?kdE ?kuE (by omega) ?retE
            (case kBE => k_asm)
            (case kXE => k_asm)
            (case kTE => k_asm)
            (case kkE => exact rfl)
            (case kdE => ktr_room)
            (case kuE => ktr_units)
            intro vE tE hE tkE eE GE ME
            clear FE NE
            rw [hx2] at eE
            have eE' := eE.symm
            subst eE'
            clear eE
            (try dsimp only)
            (try k_fold)
            k_steps
            unfold Stop
            exact ⟨_, _, _, rfl, GE, ME, fun z h1 => by (try dsimp only); simp only [if_neg h1]⟩)
          (case done3 =>
            intro pu2 ph2 ptk2 F5 N5
            clear F4 N4
            (try dsimp only)
            (try k_fold)
            k_steps
            unfold Stop
            rename Fr _ _ _ _ => FG
            rename News _ _ _ _ => NG
            refine' sop_tells ?kBG FG ?kXG NG ?kTG ?kkG ?kdG ?kuG (by omega) ?retG
            (case kBG => k_asm)
            (case kXG => k_asm)
            (case kTG => k_asm)
            (case kkG => exact rfl)
            (case kdG => ktr_room)
            (case kuG => ktr_units)
            intro vG tG hG tkG eG GG MG
            clear FG NG
            (try dsimp only)
            (try k_fold)
            k_steps
            unfold Stop
            rename Fr _ _ _ _ => F6
            rename News _ _ _ _ => N6
            k_dflt refine' pair_in N6 ?ml ?hP6 ?mT ?hu6 ?ht ?hf
            (case ml => repeat (first | exact List.Mem.head _ | refine List.Mem.tail _ ?_))
            (case hP6 => exact vf2.mono (by kst_in))
            (case mT => repeat (first | exact List.Mem.head _ | refine List.Mem.tail _ ?_))
            (case hu6 => ktr_units)
            (case ht =>
              intro hin
              rw [sop_in vP hin] at eG
              have eG' := eG.symm
              subst eG'
              clear eG
              (try dsimp only)
              k_steps
              unfold Stop
              k_dflt refine' not_names (ns := cnms) ?hl1 ?hi1 ?hn1 ?h01 ?h11
              (case hl1 => is_list)
              (case hi1 => exact wf3)
              (case hn1 => exact hsn)
              (case h01 =>
                intro hq kq
                (try dsimp only)
                k_steps)
              (case h11 =>
                intro hq kq
                (try dsimp only)
                k_steps
                unfold Stop
                k_dflt (refine call_joinD (by is_list) wf4 hs8 (by omega) ?_)
                intro tj kj hj
                (try dsimp only)
                k_steps
                unfold Stop
                rename Fr _ _ _ _ => FQ1
                rename News _ _ _ _ => NQ1
                refine' qtp_tells ?kBQ FQ1 ?kXQ NQ1 ?kTQ ?kkQ ?kdQ ?kuQ (by omega) rfl ?retQ1
                (case kBQ => k_asm)
                (case kXQ => k_asm)
                (case kTQ => k_asm)
                (case kkQ => exact rfl)
                (case kdQ => ktr_room)
                (case kuQ => ktr_units)
                intro lq vq hq2 tq hsq GQ MQ hlq
                rw [qtp_names vP hq] at hsq
                clear FQ1 NQ1
                (try dsimp only)
                (try k_fold)
                k_steps
                unfold Stop
                k_dflt refine' texts_eq hlq ?hbQ hsq wf3 (nms_ok vP) ?huQ ?_
                (case hbQ => is_list)
                (case huQ => ktr_units)
                k_steps))
            (case hf =>
              intro hin
              rw [sop_out vP hin] at eG
              have eG' := eG.symm
              subst eG'
              clear eG
              (try dsimp only)
              k_steps
              unfold Stop
              k_dflt refine' not_names (ns := cnms) ?hl2 ?hi2 ?hn2 ?h02 ?h12
              (case hl2 => is_list)
              (case hi2 => exact wf3)
              (case hn2 => exact hsn)
              (case h02 =>
                intro hq kq
                (try dsimp only)
                k_steps)
              (case h12 =>
                intro hq kq
                (try dsimp only)
                k_steps
                unfold Stop
                k_dflt (refine call_joinD (by is_list) wf4 hs8 (by omega) ?_)
                intro tj kj hj
                (try dsimp only)
                k_steps
                unfold Stop
                rename Fr _ _ _ _ => FQ2
                rename News _ _ _ _ => NQ2
                refine' qtp_tells ?kBQ2 FQ2 ?kXQ2 NQ2 ?kTQ2 ?kkQ2 ?kdQ2 ?kuQ2 (by omega) rfl ?retQ2
                (case kBQ2 => k_asm)
                (case kXQ2 => k_asm)
                (case kTQ2 => k_asm)
                (case kkQ2 => exact rfl)
                (case kdQ2 => ktr_room)
                (case kuQ2 => ktr_units)
                intro lq vq hq2 tq hsq GQ MQ hlq
                rw [qtp_names vP hq] at hsq
                clear FQ2 NQ2
                (try dsimp only)
                (try k_fold)
                k_steps
                unfold Stop
                k_dflt refine' texts_eq hlq ?hbQ2 hsq wf3 (nms_ok vP) ?huQ2 ?_
                (case hbQ2 => is_list)
                (case huQ2 => ktr_units)
                k_steps)))))))
end Mine
end
theorem PySem.Challenge.cw_eu0032_01_holds : PySem.Challenge.rw_eu0032_01.Holds :=
  Mine.law_holds
