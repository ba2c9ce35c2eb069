import PyProof.Rows.All
import Wide.All
import OpenK.AllK
import Wide.FinOn
import PySem.Challenge.RW_tc0007_01
set_option Elab.async false
set_option rowWalk.seconds 0
set_option maxRecDepth 100000
set_option maxHeartbeats 8000000

section
open PySem PySem.W PyProof.Rows
namespace Tc
noncomputable def view : Program := PySem.W.view PySem.Challenge.pw_tc0007_01 [1,2,3,4,5,10,11,12,14,15,16,17,18,19]
theorem is_open : opening PySem.Challenge.pw_tc0007_01 = plainProg PySem.Challenge.pw_tc0007_01.main.scope.names := by kernel_rfl
theorem well_said : PySem.Challenge.rw_tc0007_01.wellSaid = true := by
  rw [PySem.W.Fast.te9446332074065402090]
  decide +kernel
theorem left_of {q : Program} {loose : List Str} {Xt : Shared → Bool} {α : Type} {Yf : Shared → α} {Ya : World → α}
    (k : ∀ w : World, (fun os => (topFrom treeTable PySem.Challenge.pw_tc0007_01 w 1056 ⟨boot_heap w.params, Array.mk [], boot_drawn, boot_toks, os⟩).map (fun s => (openSeen q loose (importedModules PySem.Challenge.pw_tc0007_01.main.body) Xt true s, Yf s))) = fun _ => some (openGood q loose, Ya w)) :
    LeftO PySem.Challenge.pw_tc0007_01 q loose Xt Yf Ya 1056 := fun w => by
  obtain ⟨s, hs, hv⟩ := Option.map_eq_some_iff.mp (boot_open is_open (N := 1056) rfl (fun _ => rfl) w)
  unfold openEnds
  rw [hs]
  obtain ⟨a, b, c, d, os⟩ := s
  simp only [Prod.mk.injEq] at hv
  obtain ⟨rfl, rfl, rfl, rfl⟩ := hv
  exact congrFun (k w) os
noncomputable def looks (s : Shared) : Bool := xlAt Tc.view [] s && recOk [] s
theorem head_at (H : Hook) {d : DefRec} {kwd : List (Str × Expr)}
    (k1 : PySem.Challenge.rw_tc0007_01.row.wellSaid = true)
    (hdef : defOf Tc.view PySem.Challenge.rw_tc0007_01.row.name = some (d, kwd)) (hp : PySem.Challenge.rw_tc0007_01.row.prog.theDef PySem.Challenge.rw_tc0007_01.row.name = some (d.params, d.body, d.scope)) (hk : kwWritten? d.params.kwonlyargs d.params.kw_defaults = some kwd)
    (hl : LeftO PySem.Challenge.pw_tc0007_01 Tc.view [Str.ofString "bisect_right", Str.ofString "bisect_left"] looks H.obs H.val 1056)
    (hw : PySem.Challenge.rw_tc0007_01.row.toRowW.promised)
    (hc : WalkO Tc.view [Str.ofString "bisect_right", Str.ofString "bisect_left"] (XL Tc.view []) H.says PySem.Challenge.rw_tc0007_01.row.toRowW d kwd fun f vs => PySem.call f vs) : PySem.Challenge.rw_tc0007_01.row.Holds :=
  holds_open (q := Tc.view) (loose := [Str.ofString "bisect_right", Str.ofString "bisect_left"]) (Xt := looks) (XP := XL Tc.view []) (Yf := H.obs) (Ya := H.val) (YP := H.says) (N := 1056)
    hl H.of H.keeps (fun s e => xl_of s (Bool.and_eq_true_iff.mp e).1) XL.keeps hdef hp hk (fun s e => recFacts_of (Bool.and_eq_true_iff.mp e).2) rfl k1 (by decide +kernel) ⟨rfl, rfl, rfl, rfl, rfl, by decide +kernel⟩ hw hc
example : True := by
  k_with "tc:law" => (refine holds_law well_said fun zzsaid => ?_)
  k_with "tc:hl" => (
    refine left_of ?_
    unfold topFrom
    rw [PySem.W.Fast.te14082659384304107361, PySem.W.Fast.te14364793385576792824, PySem.W.Fast.te4187177175401517315]
    exact fun w => by kernel_rfl)
  trivial
local macro_rules | `(tactic| o_law) => `(tactic| k_extra "tc:law")
local macro_rules | `(tactic| o_head $H) => `(tactic| (refine Tc.head_at $H (by assumption) (by rfl) (by rfl) (by rfl) ?_ ?hw ?hc; k_extra "tc:hl"))
open_top hd for PySem.Challenge.rw_tc0007_01
end Tc

end

section
namespace Tc
noncomputable def strip1 : List Nat → List Nat → List Nat × List Nat
  | x :: xs, y :: ys => bif Nat.beq x y then strip1 xs ys else (x :: xs, y :: ys)
  | xs, ys => (xs, ys)
noncomputable def stripEnd (a b : List Nat) : List Nat × List Nat :=
  let p := strip1 a.reverse b.reverse
  (p.1.reverse, p.2.reverse)
theorem strip1_eq {x y : Nat} {xs ys : List Nat} (h : x = y) : strip1 (x :: xs) (y :: ys) = strip1 xs ys := by
  subst h; simp [strip1, Nat.beq_refl]
theorem strip1_ne {x y : Nat} {xs ys : List Nat} (h : x ≠ y) : strip1 (x :: xs) (y :: ys) = (x :: xs, y :: ys) := by
  have : Nat.beq x y = false := by
    cases e : Nat.beq x y with
    | false => rfl
    | true => exact absurd (Nat.eq_of_beq_eq_true e) h
  simp [strip1, this]
theorem strip1_nil_l (ys : List Nat) : strip1 [] ys = ([], ys) := by simp [strip1]
theorem strip1_nil_r (xs : List Nat) : strip1 xs [] = (xs, []) := by cases xs <;> simp [strip1]
theorem strip1_step {a b : List Nat} {p : Nat} (ha : p < a.length) (hb : p < b.length) (h : a[p] = b[p]) : strip1 (a.drop (p + 1)) (b.drop (p + 1)) = strip1 (a.drop p) (b.drop p) := by
  rw [List.drop_eq_getElem_cons ha, List.drop_eq_getElem_cons hb, strip1_eq h]
theorem strip1_stop {a b : List Nat} {p : Nat} (ha : p < a.length) (hb : p < b.length) (h : a[p] ≠ b[p]) : strip1 (a.drop p) (b.drop p) = (a.drop p, b.drop p) := by
  rw [List.drop_eq_getElem_cons ha, List.drop_eq_getElem_cons hb, strip1_ne h]
theorem strip1_end_l {a b : List Nat} {p : Nat} (ha : a.length ≤ p) : strip1 (a.drop p) (b.drop p) = (a.drop p, b.drop p) := by
  rw [List.drop_of_length_le ha, strip1_nil_l]
theorem strip1_end_r {a b : List Nat} {p : Nat} (hb : b.length ≤ p) : strip1 (a.drop p) (b.drop p) = (a.drop p, b.drop p) := by
  rw [List.drop_of_length_le hb, strip1_nil_r]
theorem rev_take (a : List Nat) (q : Nat) : (a.take (a.length - q)).reverse = a.reverse.drop q := by
  by_cases h : q ≤ a.length
  · have := List.reverse_drop (l := a.reverse) (i := q)
    rw [List.reverse_reverse, List.length_reverse] at this
    rw [← this, List.reverse_reverse]
  · have e : a.length - q = 0 := by omega
    rw [e, List.drop_of_length_le (by simp; omega)]; simp
theorem rev_get (a : List Nat) {q : Nat} (h : q < a.length) : a.reverse[q]'(by simpa using h) = a[a.length - (q + 1)]'(by omega) := by
  rw [List.getElem_reverse]
  congr 1
  omega
end Tc

end

section
open PySem PySem.Builtin PySem.Builtin.Str
namespace Tc
/-- a place, as a slice clips it -/
noncomputable def cl (i : Int) (n : Nat) : Nat := (max 0 (min (if i < 0 then i + n else i) (n : Int))).toNat
theorem mm_mid {x : Int} {n : Nat} (h0 : 0 ≤ x) (h1 : x ≤ n) : max 0 (min x (n : Int)) = x := by rw [Int.min_eq_left h1, Int.max_eq_right h0]
theorem mm_hi {x : Int} {n : Nat} (h : (n : Int) ≤ x) : max 0 (min x (n : Int)) = n := by rw [Int.min_eq_right h, Int.max_eq_right (Int.natCast_nonneg n)]
theorem mm_lo {x : Int} {n : Nat} (h : x ≤ 0) : max 0 (min x (n : Int)) = 0 := Int.max_eq_left (Int.le_trans (Int.min_le_left _ _) h)
theorem nn_if (p n : Nat) : (if (p : Int) < 0 then (p : Int) + n else (p : Int)) = p := if_neg (Int.not_lt.mpr (Int.natCast_nonneg p))
theorem cl_int (i : Int) (n : Nat) : ((cl i n : Nat) : Int) = max 0 (min (if i < 0 then i + n else i) (n : Int)) := Int.toNat_of_nonneg (Int.le_max_left _ _)
theorem cl_le (i : Int) (n : Nat) : cl i n ≤ n := by
  refine Int.ofNat_le.mp ?_
  rw [cl_int]
  exact Int.max_le.mpr ⟨Int.natCast_nonneg n, Int.min_le_right _ _⟩
theorem cl_nat {p n : Nat} (h : p ≤ n) : cl (p : Int) n = p := by
  unfold cl; rw [nn_if, mm_mid (Int.natCast_nonneg p) (Int.ofNat_le.mpr h)]; rfl
theorem cl_big {p n : Nat} (h : n ≤ p) : cl (p : Int) n = n := by
  unfold cl; rw [nn_if, mm_hi (Int.ofNat_le.mpr h)]; rfl
theorem cl_min (p n : Nat) : cl (p : Int) n = min p n := by
  rcases Nat.le_total p n with h | h
  · rw [cl_nat h, Nat.min_eq_left h]
  · rw [cl_big h, Nat.min_eq_right h]
theorem cl_neg {q n : Nat} (h : 0 < q) : cl (-(q : Int)) n = n - q := by
  have e : (if (-(q : Int)) < 0 then -(q : Int) + n else -(q : Int)) = (n : Int) - q := by
    rw [if_pos (Int.neg_neg_of_pos (Int.ofNat_lt.mpr h)), Int.add_comm]; rfl
  unfold cl
  rw [e]
  rcases Nat.le_total q n with h1 | h1
  · rw [mm_mid (Int.sub_nonneg.mpr (Int.ofNat_le.mpr h1)) (Int.sub_le_self _ (Int.natCast_nonneg q)), ← Int.ofNat_sub h1]; rfl
  · rw [mm_lo (Int.sub_nonpos_of_le (Int.ofNat_le.mpr h1)), Nat.sub_eq_zero_of_le h1]; rfl
theorem cl_fix (i : Int) (n : Nat) : max (0 : Int) (min (if ((cl i n : Nat) : Int) < 0 then ((cl i n : Nat) : Int) + n else (cl i n : Nat)) n) = max 0 (min (if i < 0 then i + n else i) n) := by
  rw [nn_if, mm_mid (Int.natCast_nonneg _) (Int.ofNat_le.mpr (cl_le i n)), cl_int]
theorem idx_cl (i j : Int) (n : Nat) : strSliceIndices (some i) (some j) 1 n = strSliceIndices (some (cl i n : Nat)) (some (cl j n : Nat)) 1 n := by
  simp only [strSliceIndices, show ((1 : Int) > 0) = True from by simp, if_true]
  rw [cl_fix, cl_fix]
theorem idx_none_l (u : Option Int) (n : Nat) : strSliceIndices none u 1 n = strSliceIndices (some (0 : Int)) u 1 n := by
  have h : max (0 : Int) (min (if (0 : Int) < 0 then (0 : Int) + n else 0) n) = 0 := mm_lo (Int.le_refl 0)
  simp only [strSliceIndices, show ((1 : Int) > 0) = True from by simp, if_true, h]
theorem idx_none_u (l : Option Int) (n : Nat) : strSliceIndices l none 1 n = strSliceIndices l (some (n : Int)) 1 n := by
  have h : max (0 : Int) (min (if (n : Int) < 0 then (n : Int) + n else n) n) = n := by rw [nn_if]; exact mm_hi (Int.le_refl _)
  simp only [strSliceIndices, show ((1 : Int) > 0) = True from by simp, if_true, h]
theorem picks_cl (l : List Nat) (a b : Nat) (ha : a ≤ l.length) (hb : b ≤ l.length) : (strSliceIndices (some (a : Int)) (some (b : Int)) 1 l.length).filterMap (l[·]?) = (l.drop a).take (b - a) := by
  by_cases hab : a ≤ b
  · have := StrLaws.sliced_plain (⟨l.toArray⟩ : Str) hab (by simpa [Str.length] using hb)
    simpa [Str.length] using this
  · have e : b - a = 0 := by omega
    have h1 : ¬ ((a : Int) < 0) := Int.not_lt.mpr (Int.natCast_nonneg a)
    have h2 : ¬ ((b : Int) < 0) := Int.not_lt.mpr (Int.natCast_nonneg b)
    have e1 : max (0 : Int) (min (a : Int) (l.length : Int)) = a := mm_mid (Int.natCast_nonneg a) (Int.ofNat_le.mpr ha)
    have e2 : max (0 : Int) (min (b : Int) (l.length : Int)) = b := mm_mid (Int.natCast_nonneg b) (Int.ofNat_le.mpr hb)
    have e3 : ¬ ((a : Int) < b) := fun h => hab (Nat.le_of_lt (Int.ofNat_lt.mp h))
    simp [strSliceIndices, sliceRange, h1, h2, e1, e2, e3, e]
theorem len_mk (l : List Nat) : (⟨l.toArray⟩ : Str).length = l.length := by simp [Str.length]
theorem slice_of (l : List Nat) (i j : Int) : Txt.slice ⟨l.toArray⟩ (some i) (some j) = ⟨((l.drop (cl i l.length)).take (cl j l.length - cl i l.length)).toArray⟩ := by
  have e := picks_cl l (cl i l.length) (cl j l.length) (cl_le _ _) (cl_le _ _)
  unfold Txt.slice
  rw [len_mk, idx_cl]
  have e' : (strSliceIndices (some ((cl i l.length : Nat) : Int)) (some ((cl j l.length : Nat) : Int)) 1 l.length).filterMap ((⟨l.toArray⟩ : Str).cps[·]?) = (l.drop (cl i l.length)).take (cl j l.length - cl i l.length) := by
    simpa using e
  split
  · rename_i h
    have hlen : ((strSliceIndices (some ((cl i l.length : Nat) : Int)) (some ((cl j l.length : Nat) : Int)) 1 l.length)).length = l.length := by simpa using h
    have hl2 : (cl i l.length) = 0 ∧ cl j l.length = l.length := by
      have hle := cl_le i l.length
      have hle2 := cl_le j l.length
      by_cases hab : cl i l.length ≤ cl j l.length
      · rw [StrLaws.strSliceIndices_plain hab hle2] at hlen
        simp at hlen
        omega
      · have h1 : ¬ (((cl i l.length : Nat) : Int) < 0) := by omega
        have h2 : ¬ (((cl j l.length : Nat) : Int) < 0) := by omega
        have e1 : max (0 : Int) (min ((cl i l.length : Nat) : Int) (l.length : Int)) = (cl i l.length : Nat) := by omega
        have e2 : max (0 : Int) (min ((cl j l.length : Nat) : Int) (l.length : Int)) = (cl j l.length : Nat) := by omega
        have e3 : ¬ (((cl i l.length : Nat) : Int) < (cl j l.length : Nat)) := by omega
        simp [strSliceIndices, sliceRange, h1, h2, e1, e2, e3] at hlen
        omega
    rw [hl2.1, hl2.2]
    simp
  · rw [e']
theorem slice_from (l : List Nat) (i : Int) : Txt.slice ⟨l.toArray⟩ (some i) none = ⟨(l.drop (cl i l.length)).toArray⟩ := by
  have h : Txt.slice ⟨l.toArray⟩ (some i) none = Txt.slice ⟨l.toArray⟩ (some i) (some (l.length : Int)) := by
    unfold Txt.slice
    rw [len_mk, idx_none_u]
  rw [h, slice_of, cl_nat (Nat.le_refl _)]
  congr 2
  exact List.take_of_length_le (by simp)
theorem slice_to (l : List Nat) (j : Int) : Txt.slice ⟨l.toArray⟩ none (some j) = ⟨(l.take (cl j l.length)).toArray⟩ := by
  have h : Txt.slice ⟨l.toArray⟩ none (some j) = Txt.slice ⟨l.toArray⟩ (some 0) (some j) := by
    unfold Txt.slice
    rw [len_mk, idx_none_l]
  rw [h, slice_of]
  have : cl 0 l.length = 0 := cl_nat (p := 0) (Nat.zero_le _)
  rw [this]; simp
theorem slice_whole (l : List Nat) : Txt.slice ⟨l.toArray⟩ none none = ⟨l.toArray⟩ := by
  have h : Txt.slice ⟨l.toArray⟩ none none = Txt.slice ⟨l.toArray⟩ none (some (l.length : Int)) := by
    unfold Txt.slice
    rw [len_mk, idx_none_u]
  rw [h, slice_to, cl_nat (Nat.le_refl _), List.take_length]
theorem item_nat (l : List Nat) {p : Nat} (h : p < l.length) : Txt.item ⟨l.toArray⟩ (p : Int) = ⟨#[l[p]]⟩ := by
  have h1 : ¬ ((p : Int) < 0) := by omega
  have h2 : ((0 : Int) ≤ (p : Int)) := by omega
  have h3 : ((p : Int) < (l.length : Int)) := by omega
  simp [Txt.item, Txt.charAt, seqIndex?, len_mk, h1, h2, h3, h]
theorem item_neg (l : List Nat) {q : Nat} (h0 : 0 < q) (h : q ≤ l.length) : Txt.item ⟨l.toArray⟩ (-(q : Int)) = ⟨#[l[l.length - q]'(by omega)]⟩ := by
  have h1 : (-(q : Int) < 0) := by omega
  have h2 : ((0 : Int) ≤ -(q : Int) + l.length) := by omega
  have h3 : (-(q : Int) + (l.length : Int) < (l.length : Int)) := by omega
  have h4 : (-(q : Int) + (l.length : Int)).toNat = l.length - q := by omega
  have h5 : l.length - q < l.length := by omega
  simp only [Txt.item, Txt.charAt, seqIndex?, len_mk, h1, if_true, h2, h3, decide_true, Bool.and_self, Option.bind_some, h4]
  simp [h5]
theorem str_beq {a b : List Nat} : ((⟨a.toArray⟩ : Str) == ⟨b.toArray⟩) = (a == b) := by
  rw [Bool.eq_iff_iff, beq_iff_eq, beq_iff_eq]
  constructor
  · intro h
    have := congrArg Str.cps h
    simpa using this
  · rintro rfl; rfl
end Tc

end

section
open PySem PySem.W PySem.Calls PyProof.Rows

namespace Tc
abbrev LS : List Str := [Str.ofString "bisect_right", Str.ofString "bisect_left"]
abbrev aroundOf (dp un : Nat) (gd : Option (List Code)) (outer : List Env) : Around := { handled := none, depth := dp, frames := some outer, guards := gd, units := un }
/-- what a call of the def at `f` with `vs` gives, whatever stands around it -/
noncomputable def ConK (p : Program) (w : World) (K : Frag) (f : Addr) (lv : Nat) (vs : List Value) (kw : List (Str × Value)) (pre : Heap → Prop) (post : Value → Heap → Prop) : Prop :=
  ∀ (pp : Program) (loose : List Str) (mean : ExcName → Option Value) (mg mb : Str → Option Value) (dp un : Nat) (gd : Option (List Code)) (base : Heap) (outer : List Env) (s : Shared) (Q E : Value → Shared → Prop),
    Below (aroundOf dp un gd outer) base outer s.heap → K.In s.heap → Top pp loose mean mg mb s.heap → dp + lv < recursionLimit → un + 10 * lv < cLine → pre s.heap →
    (∀ v h' t', s.heap.StaysIn h' → post v h' → Q v { s with heap := h', toks := t' }) →
    wpAny (model p w) (aroundOf dp un gd outer) (call (.ref f) vs kw) Q E s
abbrev Con (p : Program) (w : World) (K : Frag) (f : Addr) (lv : Nat) (vs : List Value) (pre : Heap → Prop) (post : Value → Heap → Prop) : Prop := ConK p w K f lv vs [] pre post

theorem con_enter {p pp : Program} {w : World} {K : Frag} {loose : List Str} {mean : ExcName → Option Value} {mg mb : Str → Option Value} {dp un : Nat} {gd : Option (List Code)} {base : Heap} {outer : List Env} {s : Shared} {Q E : Value → Shared → Prop}
    {name qual : Str} {params : Arguments} {body : List Stmt} {scope : Scope} {dV kV doc pm cdv ct oc : Value} {an od : Option Addr} {osl : Array (Option Value)} {f : Addr} {args : Args} {binds : List (Str × Value)}
    (B : Below (aroundOf dp un gd outer) base outer s.heap) (X : K.In s.heap) (T : Top pp loose mean mg mb s.heap)
    (ho : K.lookup f = some ⟨oc, od, .func (fnOf name qual params body scope dV kV doc pm an cdv ct), osl⟩) (hcd : codeIn K cdv qual = true) (hroom : dp < recursionLimit)
    (hbind : BindsTo s (fnOf name qual params body scope dV kV doc pm an cdv ct) args binds) (hloc : ∀ y ∈ binds, scope.names.lookup y.1 = some .local)
    (h : ∀ L' h₁, Fr s.heap L' h₁ (fun y => binds.reverse.lookup y) → News s.heap L' h₁ [] →
      wpAny (model p w) ((aroundOf dp un gd outer).deeper (envOf qual scope L' f cdv)) (execs body (envOf qual scope L' f cdv))
        (fun fl s' => Q (match fl with | .ret v => v | _ => .none) s') (fun _ _ => False)
        { s with heap := h₁, toks := s.toks + binds.length })
    (hco : scope.isCoroutine = false) (hgen : scope.isGenerator = false) (hk : scope.kind = .function)
    (hcell : ∀ x ∈ scope.names, x.2 ≠ .cell) : codeAny (model p w) (aroundOf dp un gd outer) (.call (.ref f) args) (fun r s' => match r with | .ok (.ret v) => Q v s' | .ok _ => False | .error e => E e s') s := by
  refine codeAny_call_def (fd := fnOf name qual params body scope dV kV doc pm an cdv ct) (body := body) (binds := binds) hroom (X _ _ ho) rfl T.nolimit (codeRec_of X hcd) rfl hbind hcell hloc (fun h₁ hns hk₁ => ?_) hco hgen hk
  exact wpAny_mono (h s.heap.objs.size h₁ ⟨hns, hk₁, Nat.le_refl _⟩ News.nil) (fun fl s' hl => hl) fun _ _ y => y.elim

/-- the walk stops here -/
noncomputable def Hold (P : Prop) : Prop := P
theorem Hold.mk {P : Prop} (h : Hold P) : P := h
theorem Hold.of {P : Prop} (h : P) : Hold P := h
abbrev lM (l : List (Str × Value)) : Str → Option Value := fun y => l.lookup y
abbrev up1 {σ : Type} (x : Str) (f : σ → Value) (R : Str → Option Value) : σ → Str → Option Value := fun st y => if y = x then some (f st) else R y
abbrev up2 {σ : Type} (x : Str) (f : σ → Value) (x' : Str) (g : σ → Value) (R : Str → Option Value) : σ → Str → Option Value := fun st y => if y = x then some (f st) else if y = x' then some (g st) else R y
/-- the state is the old one but for heap and tokens, the frame as told, the ledger as told -/
noncomputable def Re {σ : Type} (h₀ : Heap) (L : Addr) (news : σ → List (Addr × Obj)) (St : σ → Str → Option Value) (P : σ → Prop) (s s' : Shared) : Prop :=
  ∃ st h tk, s' = { s with heap := h, toks := tk } ∧ Fr h₀ L h (St st) ∧ News h₀ L h (news st) ∧ P st
theorem Re.intro {σ : Type} {h₀ : Heap} {L : Addr} {news : σ → List (Addr × Obj)} {St : σ → Str → Option Value} {P : σ → Prop} {s : Shared} {h : Heap} {tk : Nat} (st : σ) (F : Fr h₀ L h (St st)) (N : News h₀ L h (news st)) (p : P st) :
    Re h₀ L news St P s { s with heap := h, toks := tk } := ⟨st, h, tk, rfl, F, N, p⟩
theorem Fr_ext {h₀ h : Heap} {L : Addr} {m m' : Str → Option Value} (F : Fr h₀ L h m) (e : ∀ y, m y = m' y) : Fr h₀ L h m' := by
  have : m = m' := funext e
  exact this ▸ F
theorem upd_upd {x : Str} {a b : Option Value} {m : Str → Option Value} : ∀ y, (if y = x then a else if y = x then b else m y) = if y = x then a else m y := by
  intro y
  by_cases h : y = x <;> simp [h]

section
variable {prog : Program} {w : World} {A : Around} {E : Value → Shared → Prop} {Q : Flow → Shared → Prop} {s : Shared} {env : Env} {h₀ : Heap} {L : Addr}
theorem while_st {σ : Type} {test : Expr} {body : List Stmt} {pos : Pos} (news : List (Addr × Obj)) (St : σ → Str → Option Value) (I D : σ → Prop) (μ : σ → Nat) (st₀ : σ)
    (F : Fr h₀ L s.heap (St st₀)) (N : News h₀ L s.heap news) (hI : I st₀)
    (turn : ∀ st h tk, I st → Fr h₀ L h (St st) → News h₀ L h news →
      wpAny (model prog w) A (isTrue test env (eval test env)) (fun b s₂ =>
        if b = true then wpAny (model prog w) A (execs body env) (fun f s₃ => f = .next ∧ Re h₀ L (fun _ => news) St (fun st' => I st' ∧ μ st' < μ st) s s₃) E s₂
        else Re h₀ L (fun _ => news) St D s s₂) E { s with heap := h, toks := tk })
    (out : ∀ st h tk, D st → Fr h₀ L h (St st) → News h₀ L h news → Q .next { s with heap := h, toks := tk })
    (hE : PassesOwn (model prog w) A env E := by passes_own) :
    wpAny (model prog w) A (exec (.While test body [] pos) env) Q E s := by
  refine While_inv (fun n m ns => ∃ st, n = μ st ∧ m = St st ∧ ns = news ∧ I st) (n₀ := μ st₀) F N ⟨st₀, rfl, rfl, rfl, hI⟩ ?_ hE
  rintro n m₁ news₁ h₁ tk₁ F₁ N₁ ⟨st, rfl, rfl, rfl, hI₁⟩
  refine wpAny_mono (turn st h₁ tk₁ hI₁ F₁ N₁) (fun b s₂ h₂ => ?_) (fun _ _ e => e)
  by_cases hb : b = true
  · rw [if_pos hb] at h₂ ⊢
    refine wpAny_mono h₂ (fun f s₃ h₃ => ?_) (fun _ _ e => e)
    obtain ⟨rfl, st', h', tk', rfl, F', N', hI', hμ⟩ := h₃
    exact WhileStep.intro F' N' hμ ⟨st', rfl, rfl, rfl, hI'⟩
  · rw [if_neg hb] at h₂ ⊢
    obtain ⟨st', h', tk', rfl, F', N', hD⟩ := h₂
    exact out st' h' tk' hD F' N'
end
theorem dflt_kfill : (fun (_ : OpenLaw) (_ : Params → Frag) => True) PySem.Challenge.rw_tc0007_01 hd.heap_1 := by
  k_fill
  trivial
end Tc

namespace Tc
section
variable {prog : Program} {w : World} {A : Around} {E : Value → Shared → Prop} {s : Shared} {value slice : Expr} {l : List Nat} {t : Tok} {h₀ : Heap} {L : Addr} {m : Str → Option Value} {news : List (Addr × Obj)} {Q : Value → Shared → Prop}
theorem lenOk {l : List Nat} (h : l.length ≤ 1000) : (⟨l.toArray⟩ : Str).length ≤ sizeLine := by
  rw [len_mk, sizeLine_eq]; omega
theorem sl_nn (hF : Fr h₀ L s.heap m) (hN : News h₀ L s.heap news) (hz : l.length ≤ 1000) (h : ∀ h' t' k, Fr h₀ L h' m → News h₀ L h' news → Q (.str ⟨l.toArray⟩ t') { s with heap := h', toks := k })
    (hs : subscripted slice false (.str ⟨l.toArray⟩ t) (.ref s.heap.objs.size) = operate [.ref s.heap.objs.size, .str ⟨l.toArray⟩ t] (getItem (.str ⟨l.toArray⟩ t) (.ref s.heap.objs.size)) := by with_unfolding_all rfl)
    (ht : ∀ r, letTemporaryGo value (.str ⟨l.toArray⟩ t) r = pure () := by intro _; with_unfolding_all rfl) :
    wpAny (model prog w) A (subscriptTail value slice (.str ⟨l.toArray⟩ t) (.ref s.heap.objs.size)) Q E { s with heap := s.heap.push { cls := .type "slice", data := .fields #[.none, .none, .none] } } :=
  slice_strN_nn hF hN (fun h' t' k a b => by rw [slice_whole]; exact h h' t' k a b) hs ht (lenOk hz)
theorem sl_ns {j : Int} {uj : Tok} {q : Nat} (hF : Fr h₀ L s.heap m) (hN : News h₀ L s.heap news) (hz : l.length ≤ 1000) (e : cl j l.length = q) (h : ∀ h' t' k, Fr h₀ L h' m → News h₀ L h' news → (l.take q).length = min q l.length → Q (.str ⟨(l.take q).toArray⟩ t') { s with heap := h', toks := k })
    (hs : subscripted slice false (.str ⟨l.toArray⟩ t) (.ref s.heap.objs.size) = operate [.ref s.heap.objs.size, .str ⟨l.toArray⟩ t] (getItem (.str ⟨l.toArray⟩ t) (.ref s.heap.objs.size)) := by with_unfolding_all rfl)
    (ht : ∀ r, letTemporaryGo value (.str ⟨l.toArray⟩ t) r = pure () := by intro _; with_unfolding_all rfl) :
    wpAny (model prog w) A (subscriptTail value slice (.str ⟨l.toArray⟩ t) (.ref s.heap.objs.size)) Q E { s with heap := s.heap.push { cls := .type "slice", data := .fields #[.none, .int j uj, .none] } } :=
  slice_strN_ns hF hN (fun h' t' k a b => by rw [slice_to, e]; exact h h' t' k a b List.length_take) hs ht (lenOk hz)
theorem sl_sn {i : Int} {ui : Tok} {p : Nat} (hF : Fr h₀ L s.heap m) (hN : News h₀ L s.heap news) (hz : l.length ≤ 1000) (e : cl i l.length = p) (h : ∀ h' t' k, Fr h₀ L h' m → News h₀ L h' news → (l.drop p).length = l.length - p → Q (.str ⟨(l.drop p).toArray⟩ t') { s with heap := h', toks := k })
    (hs : subscripted slice false (.str ⟨l.toArray⟩ t) (.ref s.heap.objs.size) = operate [.ref s.heap.objs.size, .str ⟨l.toArray⟩ t] (getItem (.str ⟨l.toArray⟩ t) (.ref s.heap.objs.size)) := by with_unfolding_all rfl)
    (ht : ∀ r, letTemporaryGo value (.str ⟨l.toArray⟩ t) r = pure () := by intro _; with_unfolding_all rfl) :
    wpAny (model prog w) A (subscriptTail value slice (.str ⟨l.toArray⟩ t) (.ref s.heap.objs.size)) Q E { s with heap := s.heap.push { cls := .type "slice", data := .fields #[.int i ui, .none, .none] } } :=
  slice_strN_sn hF hN (fun h' t' k a b => by rw [slice_from, e]; exact h h' t' k a b List.length_drop) hs ht (lenOk hz)
theorem sl_ss {i j : Int} {ui uj : Tok} {p q : Nat} (hF : Fr h₀ L s.heap m) (hN : News h₀ L s.heap news) (hz : l.length ≤ 1000) (e : cl i l.length = p) (f : cl j l.length = q) (h : ∀ h' t' k, Fr h₀ L h' m → News h₀ L h' news → ((l.drop p).take (q - p)).length = min (q - p) (l.length - p) → Q (.str ⟨((l.drop p).take (q - p)).toArray⟩ t') { s with heap := h', toks := k })
    (hs : subscripted slice false (.str ⟨l.toArray⟩ t) (.ref s.heap.objs.size) = operate [.ref s.heap.objs.size, .str ⟨l.toArray⟩ t] (getItem (.str ⟨l.toArray⟩ t) (.ref s.heap.objs.size)) := by with_unfolding_all rfl)
    (ht : ∀ r, letTemporaryGo value (.str ⟨l.toArray⟩ t) r = pure () := by intro _; with_unfolding_all rfl) :
    wpAny (model prog w) A (subscriptTail value slice (.str ⟨l.toArray⟩ t) (.ref s.heap.objs.size)) Q E { s with heap := s.heap.push { cls := .type "slice", data := .fields #[.int i ui, .int j uj, .none] } } :=
  slice_strN_ss hF hN (fun h' t' k a b => by rw [slice_of, e, f]; exact h h' t' k a b (by rw [List.length_take, List.length_drop])) hs ht (lenOk hz)
/-- the sign at a place, counted from behind where it is below nought -/
noncomputable def at' (l : List Nat) (i : Int) : Nat := l.getD (if i < 0 then i + l.length else i).toNat 0
theorem at_nat {l : List Nat} {p : Nat} (h : p < l.length) : at' l (p : Int) = l[p] := by
  have h1 : ¬ ((p : Int) < 0) := by omega
  simp [at', h1, h]
theorem at_neg {l : List Nat} {i : Int} {q : Nat} (e : i = -((q : Int) + 1)) (h : q < l.length) : at' l i = l[l.length - (q + 1)]'(by omega) := by
  have h1 : i < 0 := by omega
  have h2 : (i + (l.length : Int)).toNat = l.length - (q + 1) := by omega
  have h3 : l.length - (q + 1) < l.length := by omega
  simp only [at', h1, if_true, h2]
  simp [h3]
theorem item_at {l : List Nat} {i : Int} (h1 : -(l.length : Int) ≤ i) (h2 : i < l.length) : Txt.item ⟨l.toArray⟩ i = ⟨#[at' l i]⟩ := by
  by_cases h : i < 0
  · have e : i = -(((-i).toNat : Nat) : Int) := by omega
    have h3 : 0 < (-i).toNat := by omega
    have h4 : (-i).toNat ≤ l.length := by omega
    have e2 := item_neg l h3 h4
    rw [← e] at e2
    rw [e2, at_neg (q := (-i).toNat - 1) (by omega) (by omega)]
    have e3 : l.length - ((-i).toNat - 1 + 1) = l.length - (-i).toNat := by omega
    simp only [e3]
  · have e : i = ((i.toNat : Nat) : Int) := by omega
    have h3 : i.toNat < l.length := by omega
    have e2 := item_nat l h3
    rw [← e] at e2
    rw [e2]
    have := at_nat h3
    rw [← e] at this
    rw [this]
theorem it_str {i : Int} {u : Tok} (hz : l.length ≤ 1000) (h1 : -(l.length : Int) ≤ i) (h2 : i < l.length) (h : ∀ k, Q (.str ⟨#[at' l i]⟩ k) { s with toks := k + 1 })
    (hs : subscripted slice false (.str ⟨l.toArray⟩ t) (.int i u) = operate [.str ⟨l.toArray⟩ t, .int i u] (getItem (.str ⟨l.toArray⟩ t) (.int i u)) := by with_unfolding_all rfl)
    (ht : ∀ r, letTemporaryGo value (.str ⟨l.toArray⟩ t) r = pure () := by intro _; with_unfolding_all rfl) :
    wpAny (model prog w) A (subscriptTail value slice (.str ⟨l.toArray⟩ t) (.int i u)) Q E s :=
  item_str (fitsSsize_of (N := 9223372036854775808) (by omega) (by omega) (Int.le_refl _)) (by rw [len_mk]; exact h1) (by rw [len_mk]; exact h2) (fun _ => by rw [item_at h1 h2]; exact h s.toks) hs ht
end
section
variable {prog : Program} {w : World} {A : Around} {E : Value → Shared → Prop} {s : Shared} {l : List Nat} {t : Tok} {Q : Bool → Shared → Prop}
theorem tr_str (hz : l.length ≤ 1000) (h1 : 0 < l.length → ∀ k, Q true { s with toks := k }) (h2 : l.length = 0 → ∀ k, Q false { s with toks := k }) : wpAny (model prog w) A (PySem.truthy (.str ⟨l.toArray⟩ t)) Q E s := by
  refine SBL.truthy (by rw [len_mk]; omega) ?_
  rw [len_mk]
  by_cases h : l.length = 0
  · rw [h]; exact h2 h _
  · have e : (((l.length : Nat) : Int) != 0) = true := by simpa using h
    rw [e]; exact h1 (by omega) _
end
section
variable {prog : Program} {w : World} {A : Around} {E : Value → Shared → Prop} {s : Shared} {l : List Nat} {t : Tok} {Q : Value → Shared → Prop}
theorem len_strL (hz : l.length ≤ 1000) (h : ∀ k, Q (.int (l.length : Int) k) { s with toks := k + 1 }) : wpAny (model prog w) A (call (.builtin "len") [.str ⟨l.toArray⟩ t]) Q E s := by
  refine P.len_str (by rw [len_mk]; omega) ?_
  rw [len_mk]
  exact h _
end
end Tc

namespace Tc
section
variable {M : Model} {A : Around} {E : Value → Shared → Prop} {Q : Flow → Shared → Prop} {s : Shared} {env : Env}
theorem wp_execs_app {l2 : List Stmt} {Γ : Ctx} (hΓ : Γ.In A) : ∀ (l1 : List Stmt) (p : Pos) (s : Shared),
    Sem.wp M Γ (execs l1 env) (fun f _ s' => match f with | .next => wpAny M A (execs l2 env) Q E s' | f => Q f s') (fun e _ s' => E e s') p s →
    Sem.wp M Γ (execs (l1 ++ l2) env) (fun f _ s' => Q f s') (fun e _ s' => E e s') p s
  | [], p, s, h => by
    have h' : wpAny M A (execs l2 env) Q E s := by simpa [execs, Sem.wp_pure'] using h
    exact h' Γ p hΓ
  | st :: r, p, s, h => by
    rw [execs_cons, Sem.wp_bind'] at h
    rw [List.cons_append, execs_cons, Sem.wp_bind']
    refine Sem.wp_mono M Γ _ (fun f p' s' h' => ?_) (fun _ _ _ e => e) p s h
    cases f with
    | next => exact wp_execs_app hΓ r p' s' h'
    | brk => simpa using h'
    | cont => simpa using h'
    | ret v => simpa using h'
theorem wpAny_execs_app {l1 l2 : List Stmt} (h : wpAny M A (execs l1 env) (fun f s' => match f with | .next => wpAny M A (execs l2 env) Q E s' | f => Q f s') E s) : wpAny M A (execs (l1 ++ l2) env) Q E s :=
  fun Γ p hΓ => wp_execs_app hΓ l1 p s (h Γ p hΓ)
/-- the first n lines to a told state, the rest from there -/
theorem cut_execs {σ : Type} {h₀ : Heap} {L : Addr} {l : List Stmt} (n : Nat) (news : σ → List (Addr × Obj)) (St : σ → Str → Option Value) (P : σ → Prop)
    (h1 : wpAny M A (execs (l.take n) env) (fun f s' => f = .next ∧ Re h₀ L news St P s s') E s)
    (h2 : ∀ st h tk, P st → Fr h₀ L h (St st) → News h₀ L h (news st) → wpAny M A (execs (l.drop n) env) Q E { s with heap := h, toks := tk }) :
    wpAny M A (execs l env) Q E s := by
  rw [← List.take_append_drop n l]
  refine wpAny_execs_app (wpAny_mono h1 (fun f s' h' => ?_) fun _ _ e => e)
  obtain ⟨rfl, st, h, tk, rfl, F, N, p⟩ := h'
  exact h2 st h tk p F N
theorem cut_up {σ : Type} {h₀ : Heap} {L : Addr} {m : Str → Option Value} {l : List Stmt} (n : Nat) (F : Fr h₀ L s.heap m) (news : σ → List (Addr × Obj)) (up : (Str → Option Value) → σ → Str → Option Value) (P : σ → Prop)
    (h1 : wpAny M A (execs (l.take n) env) (fun f s' => f = .next ∧ Re h₀ L news (up m) P s s') E s)
    (h2 : ∀ st h tk, P st → Fr h₀ L h (up m st) → News h₀ L h (news st) → wpAny M A (execs (l.drop n) env) Q E { s with heap := h, toks := tk }) :
    wpAny M A (execs l env) Q E s := let _ := F; cut_execs n news (up m) P h1 h2
theorem cut_up1 {σ : Type} {h₀ : Heap} {L : Addr} {m : Str → Option Value} {st : Stmt} (F : Fr h₀ L s.heap m) (news : σ → List (Addr × Obj)) (up : (Str → Option Value) → σ → Str → Option Value) (P : σ → Prop)
    (h1 : wpAny M A (exec st env) (fun f s' => f = .next ∧ Re h₀ L news (up m) P s s') E s)
    (h2 : ∀ st h tk, P st → Fr h₀ L h (up m st) → News h₀ L h (news st) → Q .next { s with heap := h, toks := tk }) :
    wpAny M A (exec st env) Q E s := by
  let _ := F
  refine wpAny_mono h1 (fun f s' h' => ?_) fun _ _ e => e
  obtain ⟨rfl, st, h, tk, rfl, F, N, p⟩ := h'
  exact h2 st h tk p F N
end
end Tc

namespace Tc
section
variable {prog : Program} {w : World} {A : Around} {E : Value → Shared → Prop} {s : Shared} {env : Env} {h₀ : Heap} {x : Str} {body : List Stmt} {Q : Flow → Shared → Prop}
/-- how a turn of a for ends -/
noncomputable def TE {σ : Type} (h₀ : Heap) (L : Addr) (news : σ → List (Addr × Obj)) (St : σ → Str → Option Value) (own : List (Addr × Obj)) (I : σ → Prop) (Q : Flow → Shared → Prop) (s : Shared) (f : Flow) (s₃ : Shared) : Prop :=
  match f with
  | .ret v => Q (.ret v) s₃
  | .brk => Q .next s₃
  | _ => ∃ st' h' tk' news', s₃ = { s with heap := h', toks := tk' } ∧ Fr h₀ L h' (St st') ∧ News h₀ L h' news' ∧ (∀ p ∈ news st', p ∈ news') ∧ (∀ p ∈ own, p ∈ news') ∧ I st'
theorem TE.intro {σ : Type} {L : Addr} {news : σ → List (Addr × Obj)} {St : σ → Str → Option Value} {own news' : List (Addr × Obj)} {I : σ → Prop} {s : Shared} {h : Heap} {tk : Nat} (st : σ)
    (F : Fr h₀ L h (St st)) (N : News h₀ L h news') (h1 : ∀ p ∈ news st, p ∈ news') (h2 : ∀ p ∈ own, p ∈ news') (hI : I st) :
    TE h₀ L news St own I Q s .next { s with heap := h, toks := tk } := ⟨st, h, tk, news', rfl, F, N, h1, h2, hI⟩
theorem for_rg {σ : Type} {r : Addr} {a₀ b₀ : Int} {n : Nat} {t₀ u₀ v₀ : Tok} (news : σ → List (Addr × Obj)) (St : σ → Str → Option Value) (I : Nat → σ → Prop) (st₀ : σ) (adr : List Addr) (hadr : ∀ st, (news st).map (·.1) = adr)
    (hh : A.handled = none) (hr : IsRange s.heap r a₀ b₀ 1 t₀ u₀ v₀) (hsmall : Builtin.Range.small a₀ b₀ 1 = true) (hn : Builtin.Range.rangeSize a₀ b₀ 1 = (n : Int))
    (F : Fr h₀ env.locals s.heap (St st₀)) (N : News h₀ env.locals s.heap (news st₀)) (hI : I 0 st₀)
    (turn : ∀ i st h tk own t, i < n → OwnOff own adr → I i st → Fr h₀ env.locals h (fun y => if y = x then some (.int (a₀ + (i : Int)) t) else St st y) → News h₀ env.locals h (news st ++ own) →
      wpAny (model prog w) A (execs body env) (TE h₀ env.locals news St own (I (i + 1)) Q s) E { s with heap := h, toks := tk })
    (done : ∀ st h tk, I n st → Fr h₀ env.locals h (St st) → News h₀ env.locals h (news st) → Q .next { s with heap := h, toks := tk }) :
    wpAny (model prog w) A (pyIter (.ref r)) (fun it s₂ => LoopAtV prog w A h₀ env x body Q E it s₂) E s := by
  refine wpAny_pyIter_range hr hsmall ?_
  have W : Walks prog w A s.heap.objs.size [s.heap.objs.size] [s.heap.objs.size] n (fun i v => i < n ∧ ∃ t, v = .int (a₀ + i * 1) t)
      (fun i h => IsRangeIter h s.heap.objs.size (a₀ + (i : Nat) * 1) ((n : Int) - (i : Nat)) 1) := (Walks.range hh _ a₀ 1 n).bound
  have off : ∀ p ∈ news st₀, p.1 ∉ [s.heap.objs.size] := fun p hp hI => absurd (Heap.lt_size (N p hp).1) ((List.mem_singleton.mp hI) ▸ Nat.lt_irrefl _)
  refine loop_invN (fun i m ns => ∃ st, m = St st ∧ ns = news st ∧ I i st) W ?_ ?_ off off (by show IsRangeIter _ _ _ _ _; rw [hn]; simpa using Heap.get?_push_size _ rfl) (F.push _) (fun p hp => ⟨Heap.get?_push_of_some _ (N p hp).1, (N p hp).2⟩) ⟨st₀, rfl, rfl, hI⟩ ?_ ?_
  · intro hm
    exact absurd F.ns.lt ((List.mem_singleton.mp hm) ▸ Nat.lt_irrefl _)
  · intro b hb
    rw [List.mem_singleton.mp hb]
    exact next_is_new F
  · rintro i v m₁ news₁ h tk own hi ⟨_, t, rfl⟩ _ hoff ⟨st, rfl, rfl, hI₁⟩ F₁ N₁
    rw [hadr] at hoff
    rw [Int.mul_one] at F₁
    refine wpAny_mono (turn i st h tk own t hi hoff hI₁ F₁ N₁) (fun f s₃ h₃ => ?_) fun _ _ e => e
    have fin : (∃ st' h' tk' news', s₃ = { s with heap := h', toks := tk' } ∧ Fr h₀ env.locals h' (St st') ∧ News h₀ env.locals h' news' ∧ (∀ p ∈ news st', p ∈ news') ∧ (∀ p ∈ own, p ∈ news') ∧ I (i + 1) st') →
        InvEndN h₀ env.locals (fun m ns => ∃ st, m = St st ∧ ns = news st ∧ I (i + 1) st) own ((news st₀).map (·.1)) { { s with heap := s.heap.push { cls := .type "range_iterator", data := .fields #[rawInt a₀, rawInt (Builtin.Range.rangeSize a₀ b₀ 1), rawInt 1] } } with heap := h, toks := tk } s₃ := by
      rintro ⟨st', h', tk', news', rfl, F', N', k1, k2, hI'⟩
      exact ⟨h', tk', St st', news', news st', rfl, F', N', k1, k2, by rw [hadr, hadr], st', rfl, rfl, hI'⟩
    cases f with
    | ret v => exact h₃
    | brk => exact h₃
    | next => exact fin h₃
    | cont => exact fin h₃
  · rintro m₁ news₁ h tk ⟨st, rfl, rfl, hI₁⟩ F₁ N₁
    exact done st h tk hI₁ F₁ N₁
end
/-- the ints from a on, n of them, each two more -/
noncomputable def twos (a : Int) : Nat → List Int
  | 0 => []
  | n + 1 => a :: twos (a + 2) n
theorem twos_len : ∀ (n : Nat) (a : Int), (twos a n).length = n
  | 0, _ => rfl
  | n + 1, a => by rw [twos, List.length_cons, twos_len n]
theorem twos_ints : ∀ (vs : List Value) (a : Int) (n : Nat), vs.length = n → (∀ (j : Nat) (v : Value), vs[j]? = some v → ∃ t, v = .int (a + j * 2) t) → IntsAre vs (twos a n)
  | [], a, n, e, _ => by subst e; exact IntsAre.nil
  | v :: r, a, n, e, h => by
    subst e
    obtain ⟨t, ht⟩ := h 0 v rfl
    have hv : v = .int a t := by rw [ht]; simp
    subst hv
    refine IntsAre.cons _ _ (twos_ints r (a + 2) r.length rfl fun j v hj => ?_)
    obtain ⟨t', ht'⟩ := h (j + 1) v hj
    refine ⟨t', ht'.trans ?_⟩
    congr 1
    omega
section
variable {prog : Program} {w : World} {A : Around} {E : Value → Shared → Prop} {s : Shared} {h₀ : Heap} {L r : Addr} {m : Str → Option Value} {news : List (Addr × Obj)} {a b : Int} {t₀ u₀ v₀ : Tok} {n : Nat} {Q : Value → Shared → Prop}
theorem list_range2 (hh : A.handled = none) (F : Fr h₀ L s.heap m) (N : News h₀ L s.heap news) (hr : IsRange s.heap r a b 2 t₀ u₀ v₀) (ha : -1000 ≤ a ∧ a ≤ 1000) (hb : b = a + 2 * (n : Int)) (hz : n ≤ 1000)
    (h : ∀ D us c h' tk, Fr h₀ L h' m → News h₀ L h' ((D, listOf (List.toArray us) c) :: news) → (∀ p ∈ news, p.1 < D) → IntsAre us (twos a n) → Q (.ref D) { s with heap := h', toks := tk }) :
    wpAny (model prog w) A (call (.type "list") [.ref r]) Q E s := by
  have hn : Builtin.Range.rangeSize a b 2 = (n : Int) := by
    unfold Builtin.Range.rangeSize
    subst hb
    simp
    omega
  have hsmall : Builtin.Range.small a b 2 = true := by
    unfold Builtin.Range.small
    rw [hn]
    simp only [Builtin.Range.rangeFitsLong]
    simp
    omega
  refine call_list_range hh hr hsmall hn (Nat.le_trans hz (by decide)) fun h' tk acc c hk hD hI => ?_
  have hD' : h'.get? s.heap.objs.size = some (listOf (List.toArray acc.toList) c) := by
    rw [Array.toArray_toList]
    exact hD
  exact h _ acc.toList c h' tk (F.keeps hk) (news_pushed F N hk hD' rfl) (fun p hp => Heap.lt_size (N p hp).1) (twos_ints _ _ _ (by rw [Array.length_toList]; exact hI.1) fun j v hj => hI.2 j v (by rw [← hj, Array.getElem?_toList]))
end
end Tc

namespace Tc
theorem con_use {p pp : Program} {w : World} {K : Frag} {f : Addr} {lv : Nat} {vs : List Value} {kw : List (Str × Value)} {pre : Heap → Prop} {post : Value → Heap → Prop} (C : ConK p w K f lv vs kw pre post)
    {A A₀ : Around} {base h₀ : Heap} {outer : List Env} {env : Env} {L : Addr} {m : Str → Option Value} {news : List (Addr × Obj)} {loose : List Str} {mean : ExcName → Option Value} {mg mb : Str → Option Value} {s : Shared} {Q E : Value → Shared → Prop}
    (B : Below A₀ base outer h₀) (F : Fr h₀ L s.heap m) (X : K.In h₀) (N : News h₀ L s.heap news) (T : Top pp loose mean mg mb h₀)
    (hh : A.handled = none) (hA : A.frames = some (env :: outer)) (hf : env.frame = some L) (hke : env.scope.kind = .function) (hd : A.depth + lv < recursionLimit) (hu : A.units + 10 * lv < cLine) (hpre : pre s.heap)
    (ret : ∀ v h' t', Fr h₀ L h' m → News h₀ L h' news → s.heap.StaysIn h' → post v h' → Q v { s with heap := h', toks := t' }) :
    wpAny (model p w) A (call (.ref f) vs kw) Q E s := by
  obtain ⟨hd0, dp, fr, gd, un⟩ := A
  obtain rfl : hd0 = none := hh
  obtain rfl : fr = some (env :: outer) := hA
  have B₁ := pushX B F hf hke
  refine C pp loose mean mg mb dp un gd base (env :: outer) s Q E ⟨rfl, B₁.stays, B₁.frames⟩ (X.keeps F.keep) (T.keeps F.keep) hd hu hpre (fun v h' t' hs hp => ?_)
  refine ret v h' t' ?_ ?_ hs hp
  · obtain ⟨oL, a1, a2, hL, a3⟩ := F.ns
    exact ⟨⟨oL, a1, a2, hs _ _ hL, a3⟩, fun b o e => hs _ _ (F.keep b o e), F.above⟩
  · exact fun q hq => ⟨hs _ _ (N q hq).1, (N q hq).2⟩
noncomputable def lo (c : Nat) : Nat := if 65 ≤ c ∧ c ≤ 90 then c + 32 else c
theorem lower_one {c : Nat} (h : c < 128) : Txt.lower ⟨#[c]⟩ = ⟨#[lo c]⟩ :=
  (by decide +kernel : ∀ c, c < 128 → Txt.lower ⟨#[c]⟩ = ⟨#[lo c]⟩) c h
noncomputable def cost (a b : Nat) : Int := if a = b then 0 else if lo a = lo b then 1 else 2
section
variable {prog : Program} {w : World} {A : Around} {E : Value → Shared → Prop} {s : Shared} {c : Nat} {t : Tok} {Q : Value → Shared → Prop}
theorem call_lower1 (hc : c < 128) (h : ∀ k, Q (.str ⟨#[lo c]⟩ k) { s with toks := k + 1 }) : wpAny (model prog w) A (call (.builtin "str.lower") [.str ⟨#[c]⟩ t]) Q E s := by
  refine SC.lower ?_ ?_
  · rw [lower_one hc]; rfl
  · rw [lower_one hc]; exact h _
end
end Tc
namespace Tc
theorem p_int {x y : Int} {t : Tok} (e : x = y) : ∃ t', Value.int x t = Value.int y t' := ⟨t, e ▸ rfl⟩
theorem p_str {x y : List Nat} {t : Tok} (e : x = y) : ∃ t', Value.str ⟨x.toArray⟩ t = Value.str ⟨y.toArray⟩ t' := ⟨t, e ▸ rfl⟩
theorem one_beq {a b : Nat} {c : Bool} (h : ((⟨#[a]⟩ : Str) == ⟨#[b]⟩) = c) : (a == b) = c := by
  rw [← h, str_beq]; simp
end Tc
namespace Tc
structure Lv where
  row : List Int
  dist : Int
  res : Int
  mn : Int
noncomputable def lvStep (a : List Nat) (bc : Nat) (s : Lv) (k : Nat) : Lv :=
  let d := s.row.getD k 0
  let ins := (if d < s.res then d else s.res) + 2
  let sub := s.dist + cost bc (a.getD k 0)
  let r := if sub < ins then sub else ins
  ⟨s.row.set k r, d, r, if r < s.mn then r else s.mn⟩
noncomputable def lvInner (a : List Nat) (bc : Nat) (s : Lv) : Nat → Lv
  | 0 => s
  | k + 1 => lvStep a bc (lvInner a bc s k) k
noncomputable def lvOuter (a : List Nat) (c : Int) : List Nat → Nat → List Int → Int → Int
  | [], _, _, res => res
  | bc :: bs, j, row, _ =>
    let s := lvInner a bc ⟨row, (j : Int) * 2, (j : Int) * 2, 9223372036854775807⟩ a.length
    if s.mn > c then c + 1 else lvOuter a c bs (j + 1) s.row s.res
noncomputable def lvDp (a b : List Nat) (c : Int) : Int :=
  if ((b.length : Int) - a.length) * 2 > c then c + 1 else lvOuter a c b 0 (twos 2 a.length) 0
noncomputable def lvTwo (a b : List Nat) (c : Int) : Int :=
  if a.length = 0 ∨ b.length = 0 then 2 * ((a.length : Int) + b.length)
  else if b.length < a.length then lvDp b a c else lvDp a b c
noncomputable def lev (a b : List Nat) (c : Int) : Int :=
  if a = b then 0 else
  let p := strip1 a b
  let q := stripEnd p.1 p.2
  lvTwo q.1 q.2 c
theorem lvInner_len (a : List Nat) (bc : Nat) (s : Lv) : ∀ k, (lvInner a bc s k).row.length = s.row.length
  | 0 => rfl
  | k + 1 => by simp [lvInner, lvStep, lvInner_len a bc s k]
end Tc
namespace Tc
theorem s_eq {a b : List Nat} {c : Bool} (h : ((⟨a.toArray⟩ : Str) == ⟨b.toArray⟩) = c) : (a == b) = c := by rw [← h, str_beq]
end Tc
namespace Tc
theorem up_swap {x x' : Str} (hx : x ≠ x') {a b : Option Value} {m : Str → Option Value} : ∀ y, (if y = x then a else if y = x' then b else m y) = if y = x' then b else if y = x then a else m y := by
  intro y
  by_cases h : y = x
  · subst h
    rw [if_pos rfl, if_neg hx, if_pos rfl]
  · rw [if_neg h]
    by_cases h' : y = x'
    · rw [if_pos h', if_pos h']
    · rw [if_neg h', if_neg h', if_neg h]
theorem up_same {x x' : Str} {a b : Option Value} {m : Str → Option Value} : ∀ y, (if y = x then a else if y = x' then b else m y) = if y = x then a else if y = x' then b else (if y = x then a else if y = x' then b else m y) := by
  intro y
  by_cases h : y = x
  · rw [if_pos h, if_pos h]
  · by_cases h' : y = x'
    · rw [if_neg h, if_pos h', if_neg h, if_pos h']
    · rw [if_neg h, if_neg h', if_neg h, if_neg h']
      try rw [if_neg h, if_neg h']
end Tc
namespace Tc
theorem at'_nat (l : List Nat) (k : Nat) : at' l (k : Int) = l.getD k 0 := by
  have h1 : ¬ ((k : Int) < 0) := by omega
  simp [at', h1]
theorem getD_lt {l : List Nat} (h : ∀ x ∈ l, x < 128) (k : Nat) : l.getD k 0 < 128 := by
  by_cases hk : k < l.length
  · rw [List.getD_eq_getElem?_getD, List.getElem?_eq_getElem hk]
    exact h _ (List.getElem_mem hk)
  · rw [List.getD_eq_getElem?_getD, List.getElem?_eq_none (by omega)]
    exact (by decide : (0 : Nat) < 128)
theorem at'_lt {l : List Nat} (h : ∀ x ∈ l, x < 128) (i : Int) : at' l i < 128 := getD_lt h _
section
variable {prog : Program} {w : World} {A : Around} {E : Value → Shared → Prop} {s : Shared} {env : Env} {h₀ : Heap} {x : Str} {body : List Stmt} {Q : Flow → Shared → Prop}
theorem for_r0 {σ : Type} {r : Addr} {b₀ : Int} {n : Nat} {t₀ u₀ v₀ : Tok} (news : σ → List (Addr × Obj)) (St : σ → Str → Option Value) (I : Nat → σ → Prop) (st₀ : σ) (adr : List Addr) (hadr : ∀ st, (news st).map (·.1) = adr)
    (hh : A.handled = none) (hr : IsRange s.heap r 0 b₀ 1 t₀ u₀ v₀) (hb : b₀ = (n : Int)) (hz : n ≤ 100000)
    (F : Fr h₀ env.locals s.heap (St st₀)) (N : News h₀ env.locals s.heap (news st₀)) (hI : I 0 st₀)
    (turn : ∀ i st h tk own t, i < n → OwnOff own adr → I i st → Fr h₀ env.locals h (fun y => if y = x then some (.int (i : Int) t) else St st y) → News h₀ env.locals h (news st ++ own) →
      wpAny (model prog w) A (execs body env) (TE h₀ env.locals news St own (I (i + 1)) Q s) E { s with heap := h, toks := tk })
    (done : ∀ st h tk, I n st → Fr h₀ env.locals h (St st) → News h₀ env.locals h (news st) → Q .next { s with heap := h, toks := tk }) :
    wpAny (model prog w) A (pyIter (.ref r)) (fun it s₂ => LoopAtV prog w A h₀ env x body Q E it s₂) E s := by
  refine for_rg (n := n) news St I st₀ adr hadr hh hr (small_one (by omega) (by omega) (by omega) (by omega)) ?_ F N hI (fun i st h tk own t hi ho hI F N => turn i st h tk own t hi ho hI (by rw [Int.zero_add] at F; exact F) N) done
  rw [rangeSize_nat]; omega
end
end Tc
namespace Tc
theorem tmpc {tm : List Str} {y x : Str} (h : ¬ tm.contains y = true) (hx : tm.contains x = true) : ¬ y = x := fun e => h (e ▸ hx)
structure OS where
  us : List Value
  ns : List Int
  cc : Nat
  r : Int
  t : Tok
  e : Str → Option Value
structure IS where
  us : List Value
  s : Lv
  cc : Nat
  t1 : Tok
  t2 : Tok
  t3 : Tok
  e : Str → Option Value
abbrev upT {σ : Type} (x : Str) (f : σ → Value) (tm : List Str) (e : σ → Str → Option Value) (R : Str → Option Value) : σ → Str → Option Value :=
  fun st y => if y = x then some (f st) else if tm.contains y = true then e st y else R y
abbrev upT3 {σ : Type} (x1 : Str) (f1 : σ → Value) (x2 : Str) (f2 : σ → Value) (x3 : Str) (f3 : σ → Value) (tm : List Str) (e : σ → Str → Option Value) (R : Str → Option Value) : σ → Str → Option Value :=
  fun st y => if y = x1 then some (f1 st) else if y = x2 then some (f2 st) else if y = x3 then some (f3 st) else if tm.contains y = true then e st y else R y
theorem tmp1 {x : Str} {v : Option Value} {tm : List Str} {R : Str → Option Value} : ∀ y, (if y = x then v else R y) = if y = x then v else if tm.contains y = true then R y else R y := by
  intro y
  by_cases h : tm.contains y = true
  · rw [if_pos h]
  · rw [if_neg h]
theorem tmp3 {x1 x2 x3 : Str} {v1 v2 v3 : Option Value} {tm : List Str} {R : Str → Option Value} :
    ∀ y, (if y = x1 then v1 else if y = x2 then v2 else if y = x3 then v3 else R y) = if y = x1 then v1 else if y = x2 then v2 else if y = x3 then v3 else if tm.contains y = true then R y else R y := by
  intro y
  by_cases h : tm.contains y = true
  · rw [if_pos h]
  · rw [if_neg h]
end Tc
namespace Tc
theorem end1 {x1 : Str} {v1 : Option Value} {tm : List Str} {m R : Str → Option Value} (h1 : m x1 = v1) (h : ∀ y, ¬ y = x1 → ¬ tm.contains y = true → m y = R y) :
    ∀ y, m y = if y = x1 then v1 else if tm.contains y = true then m y else R y := by
  intro y
  by_cases a : y = x1
  · rw [if_pos a, a, h1]
  · rw [if_neg a]
    by_cases d : tm.contains y = true
    · rw [if_pos d]
    · rw [if_neg d, h y a d]
theorem end3 {x1 x2 x3 : Str} {v1 v2 v3 : Option Value} {tm : List Str} {m R : Str → Option Value} (h1 : m x1 = v1) (h2 : m x2 = v2) (h3 : m x3 = v3)
    (h : ∀ y, ¬ y = x1 → ¬ y = x2 → ¬ y = x3 → ¬ tm.contains y = true → m y = R y) :
    ∀ y, m y = if y = x1 then v1 else if y = x2 then v2 else if y = x3 then v3 else if tm.contains y = true then m y else R y := by
  intro y
  by_cases a : y = x1
  · rw [if_pos a, a, h1]
  · rw [if_neg a]
    by_cases b : y = x2
    · rw [if_pos b, b, h2]
    · rw [if_neg b]
      by_cases c : y = x3
      · rw [if_pos c, c, h3]
      · rw [if_neg c]
        by_cases d : tm.contains y = true
        · rw [if_pos d]
        · rw [if_neg d, h y a b c d]
end Tc
namespace Tc
theorem lvOuter_step {a b : List Nat} {c : Int} {j : Nat} {ns : List Int} {r : Int} {s : Lv} (hj : j < b.length) (hs : s = lvInner a (b.getD j 0) ⟨ns, (j : Int) * 2, (j : Int) * 2, 9223372036854775807⟩ a.length) :
    lvOuter a c (b.drop j) j ns r = if c < s.mn then c + 1 else lvOuter a c (b.drop (j + 1)) (j + 1) s.row s.res := by
  have e : b.getD j 0 = b[j] := by simp [hj]
  rw [e] at hs
  rw [List.drop_eq_getElem_cons hj, lvOuter, ← hs]
theorem lvOuter_end {a b : List Nat} {c : Int} {ns : List Int} {r : Int} : lvOuter a c (b.drop b.length) b.length ns r = r := by
  rw [List.drop_length, lvOuter]
end Tc
namespace Tc
theorem tmps {tm tm' : List Str} {y : Str} (h : ¬ tm.contains y = true) (hs : tm'.all (fun x => tm.contains x) = true) : ¬ tm'.contains y = true := by
  intro hc
  rw [List.contains_iff_mem] at hc
  exact h (List.all_eq_true.mp hs y hc)
end Tc
namespace Tc
theorem Fr_end1 {h₀ h : Heap} {L : Addr} {x1 : Str} {v1 : Value} {tm : List Str} {m R : Str → Option Value} (F : Fr h₀ L h m) (h1 : m x1 = some v1) (hR : ∀ y, ¬ y = x1 → ¬ tm.contains y = true → m y = R y) :
    Fr h₀ L h (fun y => if y = x1 then some v1 else if tm.contains y = true then m y else R y) := Fr_ext F (end1 h1 hR)
theorem Fr_end3 {h₀ h : Heap} {L : Addr} {x1 x2 x3 : Str} {v1 v2 v3 : Value} {tm : List Str} {m R : Str → Option Value} (F : Fr h₀ L h m) (h1 : m x1 = some v1) (h2 : m x2 = some v2) (h3 : m x3 = some v3)
    (hR : ∀ y, ¬ y = x1 → ¬ y = x2 → ¬ y = x3 → ¬ tm.contains y = true → m y = R y) :
    Fr h₀ L h (fun y => if y = x1 then some v1 else if y = x2 then some v2 else if y = x3 then some v3 else if tm.contains y = true then m y else R y) := Fr_ext F (end3 h1 h2 h3 hR)
end Tc
namespace Tc
theorem name_fr {h₀ h : Heap} {L : Addr} {m : Str → Option Value} (F : Fr h₀ L h m) : ∃ m', m' = m ∧ Fr h₀ L h m' := ⟨m, rfl, F⟩
end Tc
namespace Tc
theorem p_some {r z : Int} {t : Tok} (e : r = z) : some (Value.int r t) = some (Value.int z t) := by rw [e]
end Tc
namespace Tc
theorem mem_ca {α : Type} {x : α} {l r : List α} : ∀ p ∈ x :: l, p ∈ x :: (l ++ r) := by
  intro p hp
  rcases List.mem_cons.mp hp with rfl | hp
  · exact List.mem_cons_self
  · exact List.mem_cons_of_mem _ (List.mem_append.mpr (.inl hp))
theorem mem_cb {α : Type} {x : α} {l r : List α} : ∀ p ∈ r, p ∈ x :: (l ++ r) := fun _ hp => List.mem_cons_of_mem _ (List.mem_append.mpr (.inr hp))
end Tc
namespace Tc
theorem Fr_top {h₀ h : Heap} {L : Addr} {x : Str} {v : Value} {m : Str → Option Value} (F : Fr h₀ L h m) (hv : m x = some v) : Fr h₀ L h (fun y => if y = x then some v else m y) :=
  Fr_ext F (fun y => by
    by_cases e : y = x
    · rw [if_pos e, e, hv]
    · rw [if_neg e])
theorem up22 {x1 x2 : Str} {a1 a2 b1 b2 : Option Value} {m : Str → Option Value} (hx : x1 ≠ x2) : ∀ y, (if y = x1 then a1 else if y = x2 then a2 else if y = x1 then b1 else if y = x2 then b2 else m y) = if y = x1 then a1 else if y = x2 then a2 else m y := by
  intro y
  by_cases h : y = x1
  · rw [if_pos h, if_pos h]
  · by_cases h' : y = x2
    · rw [if_neg h, if_pos h', if_neg h, if_pos h']
    · rw [if_neg h, if_neg h', if_neg h, if_neg h', if_neg h, if_neg h']
end Tc
namespace Tc
theorem one_blank {c : Nat} {b : Bool} (h : ((⟨#[c]⟩ : Str) == Str.ofString " ") = b) : (c == 32) = b := by
  rw [show Str.ofString " " = ⟨#[32]⟩ from by decide +kernel] at h
  exact one_beq h
theorem cl_succ {k n : Nat} (h : k + 1 ≤ n) : cl ((k : Int) + 1) n = k + 1 := by
  have : ((k : Int) + 1) = ((k + 1 : Nat) : Int) := by omega
  rw [this]; exact cl_nat h
end Tc

namespace Tc
abbrev upG {σ : Type} (known : σ → List (Str × Value)) (tm : List Str) (e : σ → Str → Option Value) (R : Str → Option Value) : σ → Str → Option Value :=
  fun st y => ((known st).lookup y).or (if tm.contains y = true then e st y else R y)
noncomputable def AllAt (m : Str → Option Value) : List (Str × Value) → Prop
  | [] => True
  | p :: r => m p.1 = some p.2 ∧ AllAt m r
/-- where a sorted search ends -/
structure Bis (p : Nat → Prop) (lo hi r : Nat) : Prop where
  lo_le : lo ≤ r
  le_hi : r ≤ hi
  below : ∀ i, lo ≤ i → i < r → p i
  above : ∀ i, r ≤ i → i < hi → ¬ p i
end Tc
namespace Tc
section
variable {prog : Program} {w : World} {A : Around} {E : Value → Shared → Prop} {s : Shared} {Q : Value → Shared → Prop}
theorem fdiv_nat (a b : Nat) : Int.fdiv ((a : Int) + (b : Int)) 2 = (((a + b) / 2 : Nat) : Int) := by
  rw [Int.fdiv_eq_ediv_of_nonneg _ (by decide)]
  omega
end
end Tc

namespace Tc
section
variable {prog : Program} {w : World} {A : Around} {E : Value → Shared → Prop} {s : Shared} {Q : Value → Shared → Prop}
theorem half_nat {a b : Nat} {t u : Tok} (h : Q (.int (((a + b) / 2 : Nat) : Int) s.toks) { s with toks := s.toks + 1 }) :
    wpAny (model prog w) A (binaryOp .FloorDiv (.int ((a : Int) + (b : Int)) t) (.int 2 u)) Q E s :=
  floordiv_int (by decide) (by rw [fdiv_nat]; exact h) (Or.inl (PyProof.noPylong_of_log2 (by decide +kernel)))
end
abbrev upT2 {σ : Type} (x1 : Str) (f1 : σ → Value) (x2 : Str) (f2 : σ → Value) (tm : List Str) (e : σ → Str → Option Value) (R : Str → Option Value) : σ → Str → Option Value :=
  fun st y => if y = x1 then some (f1 st) else if y = x2 then some (f2 st) else if tm.contains y = true then e st y else R y
theorem end2 {x1 x2 : Str} {v1 v2 : Option Value} {tm : List Str} {m R : Str → Option Value} (h1 : m x1 = v1) (h2 : m x2 = v2)
    (h : ∀ y, ¬ y = x1 → ¬ y = x2 → ¬ tm.contains y = true → m y = R y) :
    ∀ y, m y = if y = x1 then v1 else if y = x2 then v2 else if tm.contains y = true then m y else R y := by
  intro y
  by_cases a : y = x1
  · rw [if_pos a, a, h1]
  · rw [if_neg a]
    by_cases b : y = x2
    · rw [if_pos b, b, h2]
    · rw [if_neg b]
      by_cases d : tm.contains y = true
      · rw [if_pos d]
      · rw [if_neg d, h y a b d]
theorem Fr_end2 {h₀ h : Heap} {L : Addr} {x1 x2 : Str} {v1 v2 : Value} {tm : List Str} {m R : Str → Option Value} (F : Fr h₀ L h m) (h1 : m x1 = some v1) (h2 : m x2 = some v2)
    (hR : ∀ y, ¬ y = x1 → ¬ y = x2 → ¬ tm.contains y = true → m y = R y) :
    Fr h₀ L h (fun y => if y = x1 then some v1 else if y = x2 then some v2 else if tm.contains y = true then m y else R y) := Fr_ext F (end2 h1 h2 hR)
structure BS where
  lo : Nat
  hi : Nat
  t1 : Tok
  t2 : Tok
  e : Str → Option Value
theorem Bis_below {ns : List Int} {p : Int → Prop} {lo : Nat} {m : Nat} (hs : ∀ i j, i ≤ j → j < ns.length → p (ns.getD j 0) → p (ns.getD i 0)) (hm : m < ns.length) (hp : p (ns.getD m 0)) :
    ∀ i, lo ≤ i → i < m + 1 → p (ns.getD i 0) := fun i _ h => hs i m (by omega) hm hp
theorem Bis_above {ns : List Int} {p : Int → Prop} {hi : Nat} {m : Nat} (hs : ∀ i j, i ≤ j → j < ns.length → p (ns.getD j 0) → p (ns.getD i 0)) (hh : hi ≤ ns.length) (hp : ¬ p (ns.getD m 0)) :
    ∀ i, m ≤ i → i < hi → ¬ p (ns.getD i 0) := fun i h1 h2 h3 => hp (hs m i h1 (by omega) h3)
end Tc
namespace Tc
/-- a key function: what it gives for each item -/
noncomputable def KeyCon (p : Program) (w : World) (K : Frag) (f : Addr) (pre : Heap → Prop) (g : Int → Int) (ns : List Int) : Prop :=
  ((∀ h h', h.StaysIn h' → pre h → pre h') ∧ ∀ h, pre h → FnAt f h) ∧ ∀ i, i < ns.length → ∀ t, Con p w K f 1 [.int (ns.getD i 0) t] pre (fun v _ => ∃ t', v = .int (g (ns.getD i 0)) t')
theorem key_fn {p : Program} {w : World} {K : Frag} {f : Addr} {pre : Heap → Prop} {g : Int → Int} {ns : List Int} (H : KeyCon p w K f pre g ns) {h₀ h : Heap} {L : Addr} {m : Str → Option Value} (F : Fr h₀ L h m) (hp : pre h₀) : FnAt f h :=
  H.1.2 _ (H.1.1 _ _ F.keep hp)
theorem key_use {p pp : Program} {w : World} {K : Frag} {f : Addr} {pre : Heap → Prop} {g : Int → Int} {ns : List Int} {i : Nat} {t : Tok} (H : KeyCon p w K f pre g ns)
    {A A₀ : Around} {base h₀ : Heap} {outer : List Env} {env : Env} {L : Addr} {m : Str → Option Value} {news : List (Addr × Obj)} {loose : List Str} {mean : ExcName → Option Value} {mg mb : Str → Option Value} {s : Shared} {Q E : Value → Shared → Prop}
    (hi : i < ns.length) (hp : pre h₀)
    (B : Below A₀ base outer h₀) (F : Fr h₀ L s.heap m) (X : K.In h₀) (N : News h₀ L s.heap news) (T : Top pp loose mean mg mb h₀)
    (hh : A.handled = none) (hA : A.frames = some (env :: outer)) (hf : env.frame = some L) (hke : env.scope.kind = .function) (hd : A.depth + 1 < recursionLimit) (hu : A.units + 10 * 1 < cLine)
    (ret : ∀ t' h' tk, Fr h₀ L h' m → News h₀ L h' news → Q (.int (g (ns.getD i 0)) t') { s with heap := h', toks := tk }) :
    wpAny (model p w) A (call (.ref f) [.int (ns.getD i 0) t]) Q E s :=
  con_use (H.2 i hi t) B F X N T hh hA hf hke hd hu (H.1.1 _ _ F.keep hp) fun v h' tk F' N' _ ⟨t', e⟩ => by
    subst e
    exact ret t' h' tk F' N'
end Tc

namespace Tc
/-- what a code table holds: nothing, or the code of its one lambda -/
noncomputable def TabIs (pos : Pos) (qual : Str) (ps : Array Value) (ex : List (Addr × Obj)) : Prop :=
  (ps = #[] ∧ ex = []) ∨ ∃ c' oc vs t, ps = #[rawInt pos.line, rawInt pos.col, .ref c'] ∧ ex = [(c', oc)] ∧ oc.data = .fields vs ∧ vs[1]? = some (.str qual t)
theorem TabIs.second {pos : Pos} {qual : Str} {ps : Array Value} {ex : List (Addr × Obj)} (h : TabIs pos qual ps ex) : ps[1]? = none ∨ ps[1]? = some (rawInt pos.col) := by
  rcases h with ⟨rfl, _⟩ | ⟨c', oc, vs, t, rfl, _⟩
  · exact .inl rfl
  · exact .inr rfl
/-- no iterator over a range -/
noncomputable def NotIt (o : Obj) : Prop := ∀ a b c : Int, o.data ≠ .fields #[rawInt a, rawInt b, rawInt c]
theorem TabIs.notIt {pos : Pos} {qual : Str} {ps : Array Value} {ex : List (Addr × Obj)} (h : TabIs pos qual ps ex) : NotIt (tabObj ps) ∧ ∀ q ∈ ex, NotIt q.2 := by
  rcases h with ⟨rfl, rfl⟩ | ⟨c', oc, vs, t, rfl, rfl, hd, hv⟩
  · exact ⟨fun a b c e => by simp at e, fun _ hq => nomatch hq⟩
  · refine ⟨fun a b c e => by simp [rawInt] at e, fun q hq => ?_⟩
    rw [List.mem_singleton.mp hq]
    intro a b c e
    rw [hd] at e
    cases e
    simp [rawInt] at hv
abbrev posA : Pos := ⟨133, 55, 133, 67⟩
abbrev posB : Pos := ⟨124, 10, 124, 27⟩
abbrev quA : Str := Str.ofString "_law_way.<locals>.<lambda>"
abbrev quB : Str := Str.ofString "_law_word.<locals>.<lambda>"
abbrev tabs (p1 p2 : Array Value) (exs : List (Addr × Obj)) : List (Addr × Obj) := (74, tabObj p1) :: (69, tabObj p2) :: exs
noncomputable def TabSt (p1 p2 : Array Value) (exs : List (Addr × Obj)) : Prop := ∃ e1 e2, exs = e1 ++ e2 ∧ TabIs posA quA p1 e1 ∧ TabIs posB quB p2 e2
/-- the lambda's code object stands in the ledger -/
noncomputable def LamAt (c' : Addr) (qual : Str) (exs : List (Addr × Obj)) : Prop := ∃ oc vs t, (c', oc) ∈ exs ∧ oc.data = .fields vs ∧ vs[1]? = some (.str qual t)
theorem LamAt.codeRec {c' : Addr} {qual : Str} {exs news : List (Addr × Obj)} (x : LamAt c' qual exs) {h₀ h₁ : Heap} {L : Addr} (N : News h₀ L h₁ news) (hex : ∀ q ∈ exs, q ∈ news) : h₁.CodeRec (.ref c') qual :=
  let ⟨oc, vs, t, hm, hd, hv⟩ := x; ⟨c', oc, vs, t, rfl, (N _ (hex _ hm)).1, hd, hv⟩
theorem TabSt.start : TabSt #[] #[] [] := ⟨[], [], rfl, .inl ⟨rfl, rfl⟩, .inl ⟨rfl, rfl⟩⟩
theorem TabSt.notIt {p1 p2 : Array Value} {exs : List (Addr × Obj)} (h : TabSt p1 p2 exs) : ∀ q ∈ tabs p1 p2 exs, NotIt q.2 := by
  obtain ⟨e1, e2, rfl, h1, h2⟩ := h
  intro q hq
  rcases List.mem_cons.mp hq with rfl | hq
  · exact h1.notIt.1
  · rcases List.mem_cons.mp hq with rfl | hq
    · exact h2.notIt.1
    · rcases List.mem_append.mp hq with hq | hq
      · exact h1.notIt.2 q hq
      · exact h2.notIt.2 q hq
theorem TabIs.ex_ne {pos : Pos} {qual : Str} {ps : Array Value} {ex : List (Addr × Obj)} (h : TabIs pos qual ps ex) : ∀ q ∈ ex, ∃ vs t, q.2.data = .fields vs ∧ vs[1]? = some (.str qual t) := by
  rcases h with ⟨rfl, rfl⟩ | ⟨c', oc, vs, t, rfl, rfl, hd, hv⟩
  · exact fun _ hq => nomatch hq
  · intro q hq
    rw [List.mem_singleton.mp hq]
    exact ⟨vs, t, hd, hv⟩
/-- the code objects are no tables -/
theorem TabIs.ex_off {pos pos' : Pos} {qual qual' : Str} {ps ps' : Array Value} {ex ex' : List (Addr × Obj)} (h : TabIs pos qual ps ex) (h' : TabIs pos' qual' ps' ex') {h₀ h₁ : Heap} {L P : Addr} {news : List (Addr × Obj)} (N : News h₀ L h₁ news)
    (hP : (P, tabObj ps') ∈ news) (hex : ∀ q ∈ ex, q ∈ news) : ∀ q ∈ ex, q.1 ≠ P := by
  intro q hq e
  obtain ⟨vs, t, hd, hv⟩ := h.ex_ne q hq
  have e1 := (N _ (hex q hq)).1
  rw [e, (N _ hP).1] at e1
  rw [← Option.some.inj e1] at hd
  cases hd
  rcases h'.second with k | k <;> (rw [k] at hv; cases hv)
theorem TabSt.off {p1 p2 : Array Value} {exs : List (Addr × Obj)} (h : TabSt p1 p2 exs) {h₀ h₁ : Heap} {L : Addr} {news : List (Addr × Obj)} (N : News h₀ L h₁ news) (ht : ∀ q ∈ tabs p1 p2 exs, q ∈ news) :
    ∀ q ∈ exs, q.1 ≠ 74 ∧ q.1 ≠ 69 := by
  obtain ⟨e1, e2, rfl, h1, h2⟩ := h
  have m1 := ht _ List.mem_cons_self
  have m2 := ht _ (List.mem_cons_of_mem _ List.mem_cons_self)
  have mx : ∀ q ∈ e1 ++ e2, q ∈ news := fun q hq => ht q (List.mem_cons_of_mem _ (List.mem_cons_of_mem _ hq))
  intro q hq
  rcases List.mem_append.mp hq with hq | hq
  · exact ⟨h1.ex_off h1 N m1 (fun q hq => mx q (List.mem_append_left _ hq)) q hq, h1.ex_off h2 N m2 (fun q hq => mx q (List.mem_append_left _ hq)) q hq⟩
  · exact ⟨h2.ex_off h1 N m1 (fun q hq => mx q (List.mem_append_right _ hq)) q hq, h2.ex_off h2 N m2 (fun q hq => mx q (List.mem_append_right _ hq)) q hq⟩
/-- what a call gives of a def that makes a lambda, or calls one that does -/
noncomputable def ConT (p : Program) (w : World) (K : Frag) (f : Addr) (lv : Nat) (vs : List Value) (pre : Heap → Prop) (post : Value → Heap → Prop) : Prop :=
  ∀ (pp : Program) (loose : List Str) (mean : ExcName → Option Value) (mg mb : Str → Option Value) (dp un : Nat) (gd : Option (List Code)) (base : Heap) (outer : List Env) (g : Heap) (p1 p2 : Array Value) (exs : List (Addr × Obj)) (s : Shared) (Q E : Value → Shared → Prop),
    Below (aroundOf dp un gd outer) base outer g → K.In g → Top pp loose mean mg mb g → CodeHd g 78 74 → CodeHd g 71 69 → g.StaysIn s.heap → g.objs.size ≤ s.heap.objs.size →
    TabSt p1 p2 exs → (∀ q ∈ tabs p1 p2 exs, s.heap.get? q.1 = some q.2 ∧ g.get? q.1 = none) → dp + lv < recursionLimit → un + 10 * lv < cLine → pre g →
    (∀ v h' t' p1' p2' exs', g.StaysIn h' → TabSt p1' p2' exs' → (∀ q ∈ tabs p1' p2' exs', h'.get? q.1 = some q.2 ∧ g.get? q.1 = none) → (∀ q ∈ exs, q ∈ exs') → post v h' → Q v { s with heap := h', toks := t' }) →
    wpAny (model p w) (aroundOf dp un gd outer) (call (.ref f) vs) Q E s

theorem con_enterT {p pp : Program} {w : World} {K : Frag} {loose : List Str} {mean : ExcName → Option Value} {mg mb : Str → Option Value} {dp un : Nat} {gd : Option (List Code)} {outer : List Env} {g : Heap} {s : Shared} {Q E : Value → Shared → Prop}
    {name qual : Str} {params : Arguments} {body : List Stmt} {scope : Scope} {dV kV doc pm cdv ct oc : Value} {an od : Option Addr} {osl : Array (Option Value)} {f : Addr} {args : Args} {binds : List (Str × Value)} {p1 p2 : Array Value} {exs : List (Addr × Obj)}
    (X : K.In g) (T : Top pp loose mean mg mb g) (hs : g.StaysIn s.heap) (hz : g.objs.size ≤ s.heap.objs.size) (ht : ∀ q ∈ tabs p1 p2 exs, s.heap.get? q.1 = some q.2 ∧ g.get? q.1 = none)
    (ho : K.lookup f = some ⟨oc, od, .func (fnOf name qual params body scope dV kV doc pm an cdv ct), osl⟩) (hcd : codeIn K cdv qual = true) (hroom : dp < recursionLimit)
    (hbind : BindsTo s (fnOf name qual params body scope dV kV doc pm an cdv ct) args binds) (hloc : ∀ y ∈ binds, scope.names.lookup y.1 = some .local)
    (h : ∀ L' h₁, Fr g L' h₁ (fun y => binds.reverse.lookup y) → News g L' h₁ (tabs p1 p2 exs) →
      wpAny (model p w) ((aroundOf dp un gd outer).deeper (envOf qual scope L' f cdv)) (execs body (envOf qual scope L' f cdv))
        (fun fl s' => Q (match fl with | .ret v => v | _ => .none) s') (fun _ _ => False)
        { s with heap := h₁, toks := s.toks + binds.length })
    (hco : scope.isCoroutine = false) (hgen : scope.isGenerator = false) (hk : scope.kind = .function)
    (hcell : ∀ x ∈ scope.names, x.2 ≠ .cell) : codeAny (model p w) (aroundOf dp un gd outer) (.call (.ref f) args) (fun r s' => match r with | .ok (.ret v) => Q v s' | .ok _ => False | .error e => E e s') s := by
  have X' : K.In s.heap := X.keeps hs
  refine codeAny_call_def (fd := fnOf name qual params body scope dV kV doc pm an cdv ct) (body := body) (binds := binds) hroom (X' _ _ ho) rfl (T.keeps hs).nolimit (codeRec_of X' hcd) rfl hbind hcell hloc (fun h₁ hns hk₁ => ?_) hco hgen hk
  refine wpAny_mono (h s.heap.objs.size h₁ ⟨hns, fun b o e => hk₁ b o (hs b o e), hz⟩ fun q hq => ⟨hk₁ _ _ (ht q hq).1, Nat.ne_of_lt (Heap.lt_size (ht q hq).1), (ht q hq).2⟩) (fun fl s' hl => hl) fun _ _ y => y.elim

/-- a list stays a list where only the tables are hidden -/
theorem hid_list {h₀ h g : Heap} {L l : Addr} {news : List (Addr × Obj)} {p1 p2 : Array Value} {exs : List (Addr × Obj)} {its : Array Value} {n : Nat} (N : News h₀ L h news) (hT : TabSt p1 p2 exs) (ht : ∀ q ∈ tabs p1 p2 exs, q ∈ news) (hm : (l, listOf its n) ∈ news)
    (hg : ∀ b o, h.get? b = some o → b ∉ (tabs p1 p2 exs).map (·.1) → g.get? b = some o) : g.IsList l its := by
  refine ⟨listOf its n, hg _ _ (N _ hm).1 fun hb => ?_, rfl, n, rfl⟩
  obtain ⟨r, hr, e⟩ := List.mem_map.mp hb
  have e1 := (N r (ht r hr)).1
  rw [e, (N _ hm).1] at e1
  have e2 := Option.some.inj e1
  obtain ⟨x1, x2, rfl, h1, h2⟩ := hT
  rcases List.mem_cons.mp hr with rfl | hr
  · cases e2
  · rcases List.mem_cons.mp hr with rfl | hr
    · cases e2
    · rcases List.mem_append.mp hr with hr | hr
      · obtain ⟨vs, t, hd, _⟩ := h1.ex_ne r hr
        rw [← e2] at hd; cases hd
      · obtain ⟨vs, t, hd, _⟩ := h2.ex_ne r hr
        rw [← e2] at hd; cases hd
end Tc

namespace Tc
noncomputable def ups (a : Int) : Nat → List Int
  | 0 => []
  | n + 1 => a :: ups (a + 1) n
theorem ups_len : ∀ (n : Nat) (a : Int), (ups a n).length = n
  | 0, _ => rfl
  | n + 1, a => by rw [ups, List.length_cons, ups_len n]
theorem ups_ints : ∀ (vs : List Value) (a : Int) (n : Nat), vs.length = n → (∀ (j : Nat) (v : Value), vs[j]? = some v → ∃ t, v = .int (a + j * 1) t) → IntsAre vs (ups a n)
  | [], a, n, e, _ => by subst e; exact IntsAre.nil
  | v :: r, a, n, e, h => by
    subst e
    obtain ⟨t, ht⟩ := h 0 v rfl
    have hv : v = .int a t := by rw [ht]; simp
    subst hv
    refine IntsAre.cons _ _ (ups_ints r (a + 1) r.length rfl fun j v hj => ?_)
    obtain ⟨t', ht'⟩ := h (j + 1) v hj
    refine ⟨t', ht'.trans ?_⟩
    congr 1
    omega
section
variable {prog : Program} {w : World} {A : Around} {E : Value → Shared → Prop} {s : Shared} {h₀ : Heap} {L r : Addr} {m : Str → Option Value} {news : List (Addr × Obj)} {a b : Int} {t₀ u₀ v₀ : Tok} {n : Nat} {Q : Value → Shared → Prop}
theorem list_range1 (hh : A.handled = none) (F : Fr h₀ L s.heap m) (N : News h₀ L s.heap news) (hr : IsRange s.heap r a b 1 t₀ u₀ v₀) (ha : -1000 ≤ a ∧ a ≤ 1000) (hb : b = a + (n : Int)) (hz : n ≤ 1000)
    (h : ∀ D us c h' tk, Fr h₀ L h' m → News h₀ L h' ((D, listOf (List.toArray us) c) :: news) → (∀ p ∈ news, p.1 < D) → IntsAre us (ups a n) → Q (.ref D) { s with heap := h', toks := tk }) :
    wpAny (model prog w) A (call (.type "list") [.ref r]) Q E s := by
  have hn : Builtin.Range.rangeSize a b 1 = (n : Int) := by
    unfold Builtin.Range.rangeSize
    subst hb
    simp
    omega
  have hsmall : Builtin.Range.small a b 1 = true := by
    unfold Builtin.Range.small
    rw [hn]
    simp only [Builtin.Range.rangeFitsLong]
    simp
    omega
  refine call_list_range hh hr hsmall hn (Nat.le_trans hz (by decide)) fun h' tk acc c hk hD hI => ?_
  have hD' : h'.get? s.heap.objs.size = some (listOf (List.toArray acc.toList) c) := by
    rw [Array.toArray_toList]
    exact hD
  exact h _ acc.toList c h' tk (F.keeps hk) (news_pushed F N hk hD' rfl) (fun p hp => Heap.lt_size (N p hp).1) (ups_ints _ _ _ (by rw [Array.length_toList]; exact hI.1) fun j v hj => hI.2 j v (by rw [← hj, Array.getElem?_toList]))
end
section
variable {prog : Program} {w : World} {A : Around} {E : Value → Shared → Prop} {s : Shared} {env : Env} {h₀ : Heap} {x : Str} {body : List Stmt} {Q : Flow → Shared → Prop}
/-- a for over a range, the ledger's addresses free -/
theorem for_rgM {σ : Type} {r : Addr} {a₀ b₀ : Int} {n : Nat} {t₀ u₀ v₀ : Tok} (news : σ → List (Addr × Obj)) (St : σ → Str → Option Value) (I : Nat → σ → Prop) (st₀ : σ) (hni : ∀ i st, I i st → ∀ p ∈ news st, NotIt p.2)
    (hh : A.handled = none) (hr : IsRange s.heap r a₀ b₀ 1 t₀ u₀ v₀) (hsmall : Builtin.Range.small a₀ b₀ 1 = true) (hn : Builtin.Range.rangeSize a₀ b₀ 1 = (n : Int))
    (F : Fr h₀ env.locals s.heap (St st₀)) (N : News h₀ env.locals s.heap (news st₀)) (hI : I 0 st₀)
    (turn : ∀ i st h tk own t, i < n → (∀ p ∈ own, ∀ q ∈ news st, p.1 ≠ q.1) → I i st → Fr h₀ env.locals h (fun y => if y = x then some (.int (a₀ + (i : Int)) t) else St st y) → News h₀ env.locals h (news st ++ own) →
      wpAny (model prog w) A (execs body env) (TE h₀ env.locals news St own (I (i + 1)) Q s) E { s with heap := h, toks := tk })
    (done : ∀ st h tk, I n st → Fr h₀ env.locals h (St st) → News h₀ env.locals h (news st) → Q .next { s with heap := h, toks := tk }) :
    wpAny (model prog w) A (pyIter (.ref r)) (fun it s₂ => LoopAtV prog w A h₀ env x body Q E it s₂) E s := by
  refine wpAny_pyIter_range hr hsmall ?_
  have W : Walks prog w A s.heap.objs.size [s.heap.objs.size] [s.heap.objs.size] n (fun i v => i < n ∧ ∃ t, v = .int (a₀ + i * 1) t)
      (fun i h => IsRangeIter h s.heap.objs.size (a₀ + (i : Nat) * 1) ((n : Int) - (i : Nat)) 1) := (Walks.range hh _ a₀ 1 n).bound
  have hfr : h₀.get? s.heap.objs.size = none := Heap.get?_none_of_le (Nat.le_trans F.above (Nat.le_of_lt F.ns.lt))
  refine ⟨_, _, _, n, _, _, St st₀, news st₀, fun i m ns => ∃ st, m = St st ∧ ns = news st ∧ I i st, rfl, W, ?_, ?_, ?_, ?_, F.push _, fun p hp => ⟨Heap.get?_push_of_some _ (N p hp).1, (N p hp).2⟩, ⟨st₀, rfl, rfl, hI⟩, ?_, ?_⟩
  · intro hm
    exact absurd F.ns.lt ((List.mem_singleton.mp hm) ▸ Nat.lt_irrefl _)
  · intro b hb
    rw [List.mem_singleton.mp hb]
    exact hfr
  · intro p hp hI
    exact absurd (Heap.lt_size (N p hp).1) ((List.mem_singleton.mp hI) ▸ Nat.lt_irrefl _)
  · show IsRangeIter _ _ _ _ _
    rw [hn]
    simpa using Heap.get?_push_size _ rfl
  · rintro i v m₁ news₁ s₁ own ⟨h, tk, rfl⟩ hi ⟨_, t, rfl⟩ ⟨st, rfl, rfl, hI₁⟩ hoff hown hget hall hst F₁ N₁
    have hio := hall _ (List.mem_singleton.mpr rfl) hfr _ hst
    rw [Int.mul_one] at F₁
    have hofo : ∀ p ∈ own, ∀ q ∈ news st, p.1 ≠ q.1 := fun p hp q hq e => hoff q hq (by rw [← e]; exact hown p hp)
    refine wpAny_mono (turn i st h tk own t hi hofo hI₁ F₁ (fun p hp => N₁ p ((List.mem_append.mp hp).elim (fun h => List.mem_append.mpr (.inr h)) fun h => List.mem_append.mpr (.inl h)))) (fun f s₃ h₃ => ?_) fun _ _ e => e
    have fin : (∃ st' h' tk' news', s₃ = { s with heap := h', toks := tk' } ∧ Fr h₀ env.locals h' (St st') ∧ News h₀ env.locals h' news' ∧ (∀ p ∈ news st', p ∈ news') ∧ (∀ p ∈ own, p ∈ news') ∧ I (i + 1) st') →
        LoopStepU h₀ env.locals [s.heap.objs.size] own (fun m ns => ∃ st, m = St st ∧ ns = news st ∧ I (i + 1) st) { s with heap := h, toks := tk } .next s₃ := by
      rintro ⟨st', h', tk', news', rfl, F', N', k1, k2, hI'⟩
      refine ⟨rfl, h', tk', St st', news st', rfl, F', fun p hp => N' p ((List.mem_append.mp hp).elim (k2 p) (k1 p)), fun p hp hq => ?_, st', rfl, rfl, hI'⟩
      have e1 := (N' p (k1 p hp)).1
      rw [List.mem_singleton.mp hq, (N' _ (k2 _ hio)).1] at e1
      have e2 := Option.some.inj e1
      exact hni _ _ hI' p hp _ _ _ (by rw [← e2])
    cases f with
    | ret v => exact .ret h₃
    | brk => exact .brk h₃
    | next => exact .next (fin h₃)
    | cont => exact .cont (fin h₃)
  · rintro h' tk m' news' F' N' _ ⟨st, rfl, rfl, hI⟩
    exact done st h' tk hI F' N'
end
theorem updF_mid {P : Addr} {o : Obj} {post : List (Addr × Obj)} (hpost : ∀ q ∈ post, q.1 ≠ P) : ∀ {own : List (Addr × Obj)}, (∀ q ∈ own, q.1 ≠ P) → UpdF P o (own ++ (P, o) :: post) (fun o' => own ++ (P, o') :: post)
  | [], _ => .head hpost
  | _ :: _, h => .tail (h _ (.head _)) (updF_mid hpost fun q hq => h q (.tail _ hq))
section
variable {M : Model} {A : Around} {E : Value → Shared → Prop} {s : Shared} {h₀ : Heap} {L a : Addr} {m mg mb : Str → Option Value} {cn : Str} {cs : Scope} {ccd : Value} {cl : List (Str × Addr)} {news own : List (Addr × Obj)}
  {p : Program} {loose : List Str} {mean : ExcName → Option Value} {name qual : Str} {params : Arguments} {body : Expr} {scope : Scope} {p1 p2 : Array Value} {exs : List (Addr × Obj)} {pos : Pos} {firstLine : Nat} {clos : List (Str × Addr)}
/-- the lambda of _law_way, made the first time or again -/
theorem lamA {Q : Value → Shared → Prop} (F : Fr h₀ L s.heap m) (N : News h₀ L s.heap news) (T : Top p loose mean mg mb h₀) (C : CodeHd h₀ 78 74) (hT : TabSt p1 p2 exs) (ht : ∀ q ∈ tabs p1 p2 exs, q ∈ news) (hown : ∀ q ∈ own, q ∈ news ∧ q.1 ≠ 74)
    (hcd : ccd = .ref 78) (hpos : pos = posA) (hq : qual = quA) (hcl : closureFor scope (envX cn cs L a ccd cl) = pure clos)
    (h : ∀ f c' ctv h' tk p1' exs', TabSt p1' p2 exs' → (∀ q ∈ exs, q ∈ exs') → (∀ q ∈ own ++ tabs p1 p2 exs, q.1 < f) → Fr h₀ L h' m → News h₀ L h' ((f, kla_obj name qual params body scope clos ((mg "__name__").getD .none) c' ctv) :: (own ++ tabs p1' p2 exs')) → h'.CodeRec (.ref c') quA → Q (.ref f) { s with heap := h', toks := tk }) :
    wpAny M A (makeFunction name qual params (.expr body) scope (envX cn cs L a ccd cl) [] [] [] pos firstLine) Q E s := by
  subst hpos
  subst hq
  have hoff := hT.off N ht
  have N0 : News h₀ L s.heap (own ++ tabs p1 p2 exs) := fun q hq => (List.mem_append.mp hq).elim (fun h => N q (hown q h).1) fun h => N q (ht q h)
  have hpost : ∀ q ∈ (69, tabObj p2) :: exs, q.1 ≠ 74 := fun q hq => by
    rcases List.mem_cons.mp hq with rfl | hq
    · exact (by decide : (69 : Nat) ≠ 74)
    · exact (hoff q hq).1
  have U := updF_mid (o := tabObj p1) hpost (own := own) fun q hq => (hown q hq).2
  obtain ⟨e1, e2, rfl, h1, h2⟩ := hT
  rcases h1 with ⟨rfl, rfl⟩ | ⟨c', oc, vs, t, rfl, rfl, hd, hv⟩
  · refine kla_nest F N0 T C hcd U True.intro rfl hcl fun f c' oc vs t ctv h' tk F' N' hd hv hlt1 hlt2 => ?_
    refine h f c' ctv h' tk _ ((c', oc) :: e2) ⟨[(c', oc)], e2, rfl, .inr ⟨c', oc, vs, t, rfl, rfl, hd, hv⟩, h2⟩ (fun q hq => .tail _ hq) (fun q hq => Nat.lt_trans (hlt1 q hq) hlt2) F' (fun q hq => N' q ?_) ⟨c', oc, vs, t, rfl, (N' _ (.tail _ (.head _))).1, hd, hv⟩
    simp only [List.mem_cons, List.mem_append, List.nil_append] at hq ⊢
    rcases hq with h | h | h | h | h | h
    · exact .inl h
    · exact .inr (.inr (.inl h))
    · exact .inr (.inr (.inr (.inl h)))
    · exact .inr (.inr (.inr (.inr (.inl h))))
    · exact .inr (.inl h)
    · exact .inr (.inr (.inr (.inr (.inr h))))
  · refine kla_hit (c' := c') F N0 T C hcd (List.mem_append_right _ (.head _)) (by simp [TriplesOk, rawInt]) (by simp [codeAmong, rawInt]) hcl fun f ctv h' tk F' N' hlt => ?_
    exact h f c' ctv h' tk _ _ ⟨[(c', oc)], e2, rfl, .inr ⟨c', oc, vs, t, rfl, rfl, hd, hv⟩, h2⟩ (fun q hq => hq) hlt F' N' ⟨c', oc, vs, t, rfl, (N' _ (.tail _ (List.mem_append_right _ (.tail _ (.tail _ (.head _)))))).1, hd, hv⟩
/-- the lambda of _law_word -/
theorem lamB {Q : Value → Shared → Prop} (F : Fr h₀ L s.heap m) (N : News h₀ L s.heap news) (T : Top p loose mean mg mb h₀) (C : CodeHd h₀ 71 69) (hT : TabSt p1 p2 exs) (ht : ∀ q ∈ tabs p1 p2 exs, q ∈ news) (hown : ∀ q ∈ own, q ∈ news ∧ q.1 ≠ 69)
    (hcd : ccd = .ref 71) (hpos : pos = posB) (hq : qual = quB) (hcl : closureFor scope (envX cn cs L a ccd cl) = pure clos)
    (h : ∀ f c' ctv h' tk p2' exs', TabSt p1 p2' exs' → (∀ q ∈ exs, q ∈ exs') → (∀ q ∈ own ++ tabs p1 p2 exs, q.1 < f) → Fr h₀ L h' m → News h₀ L h' ((f, kla_obj name qual params body scope clos ((mg "__name__").getD .none) c' ctv) :: (own ++ tabs p1 p2' exs')) → LamAt c' quB exs' → Q (.ref f) { s with heap := h', toks := tk }) :
    wpAny M A (makeFunction name qual params (.expr body) scope (envX cn cs L a ccd cl) [] [] [] pos firstLine) Q E s := by
  subst hpos
  subst hq
  have hoff := hT.off N ht
  have N0 : News h₀ L s.heap ((own ++ [(74, tabObj p1)]) ++ (69, tabObj p2) :: exs) := fun q hq => by
    rw [List.append_assoc] at hq
    exact (List.mem_append.mp hq).elim (fun h => N q (hown q h).1) fun h => N q (ht q h)
  have hpost : ∀ q ∈ exs, q.1 ≠ 69 := fun q hq => (hoff q hq).2
  have U := updF_mid (o := tabObj p2) hpost (own := own ++ [(74, tabObj p1)]) fun q hq => (List.mem_append.mp hq).elim (fun h => (hown q h).2) fun h => by rw [List.mem_singleton.mp h]; exact (by decide : (74 : Nat) ≠ 69)
  obtain ⟨e1, e2, rfl, h1, h2⟩ := hT
  rcases h2 with ⟨rfl, rfl⟩ | ⟨c', oc, vs, t, rfl, rfl, hd, hv⟩
  · refine kla_nest F N0 T C hcd U True.intro rfl hcl fun f c' oc vs t ctv h' tk F' N' hd hv hlt1 hlt2 => ?_
    refine h f c' ctv h' tk _ (e1 ++ [(c', oc)]) ⟨e1, [(c', oc)], rfl, h1, .inr ⟨c', oc, vs, t, rfl, rfl, hd, hv⟩⟩ (fun q hq => by rw [List.append_nil] at hq; exact List.mem_append_left _ hq) (fun q hq => Nat.lt_trans (hlt1 q (by rw [List.append_assoc]; exact hq)) hlt2) F' (fun q hq => N' q ?_) ⟨oc, vs, t, List.mem_append_right _ (.head _), hd, hv⟩
    simp only [List.mem_cons, List.mem_append, List.nil_append, List.not_mem_nil, or_false, List.append_nil] at hq ⊢
    rcases hq with h | h | h | h | h | h
    · exact .inl h
    · exact .inr (.inr (.inl (.inl h)))
    · exact .inr (.inr (.inl (.inr h)))
    · exact .inr (.inr (.inr (.inl h)))
    · exact .inr (.inr (.inr (.inr h)))
    · exact .inr (.inl h)
  · refine kla_hit (c' := c') F N0 T C hcd (List.mem_append_right _ (.head _)) (by simp [TriplesOk, rawInt]) (by simp [codeAmong, rawInt]) hcl fun f ctv h' tk F' N' hlt => ?_
    refine h f c' ctv h' tk _ _ ⟨e1, [(c', oc)], rfl, h1, .inr ⟨c', oc, vs, t, rfl, rfl, hd, hv⟩⟩ (fun q hq => hq) (fun q hq => hlt q (by rw [List.append_assoc]; exact hq)) F' (fun q hq => N' q ?_) ⟨oc, vs, t, List.mem_append_right _ (.head _), hd, hv⟩
    rw [List.append_assoc]
    exact hq
theorem lamB' {Q : Value → Shared → Prop} (F : Fr h₀ L s.heap m) (N : News h₀ L s.heap (own ++ tabs p1 p2 exs)) (T : Top p loose mean mg mb h₀) (C : CodeHd h₀ 71 69) (hT : TabSt p1 p2 exs) (hown : ∀ q ∈ own, q.1 ≠ 69)
    (hcd : ccd = .ref 71) (hpos : pos = posB) (hq : qual = quB) (hcl : closureFor scope (envX cn cs L a ccd cl) = pure clos)
    (h : ∀ f c' ctv h' tk p2' exs', TabSt p1 p2' exs' → (∀ q ∈ exs, q ∈ exs') → (∀ q ∈ own ++ tabs p1 p2 exs, q.1 < f) → Fr h₀ L h' m → News h₀ L h' ((f, kla_obj name qual params body scope clos ((mg "__name__").getD .none) c' ctv) :: (own ++ tabs p1 p2' exs')) → LamAt c' quB exs' → Q (.ref f) { s with heap := h', toks := tk }) :
    wpAny M A (makeFunction name qual params (.expr body) scope (envX cn cs L a ccd cl) [] [] [] pos firstLine) Q E s :=
  lamB F N T C hT (fun _ hq => List.mem_append_right _ hq) (fun q hq => ⟨List.mem_append_left _ hq, hown q hq⟩) hcd hpos hq hcl h
end
end Tc

namespace Tc
/-- the contract of a key made by a lambda of one argument -/
theorem keyCon_of {p : Program} {w : World} {K : Frag} {f : Addr} {name qual : Str} {params : Arguments} {body : Expr} {scope : Scope} {cl : List (Str × Addr)} {pm ctv : Value} {c' : Addr} {g : Int → Int} {ns : List Int} {x : Str} {pre' : Heap → Prop}
    (hst : ∀ h h', h.StaysIn h' → pre' h → pre' h')
    (h : ∀ (pp : Program) (loose : List Str) (mean : ExcName → Option Value) (mg mb : Str → Option Value) (dp un : Nat) (gd : Option (List Code)) (base : Heap) (outer : List Env) (s : Shared) (Q : Value → Shared → Prop) (i : Nat) (t : Tok) (L' : Addr) (h₁ : Heap) (tk : Nat),
      i < ns.length → Below (aroundOf dp un gd outer) base outer s.heap → K.In s.heap → Top pp loose mean mg mb s.heap → dp + 1 < recursionLimit → un + 10 * 1 < cLine → pre' s.heap →
      Fr s.heap L' h₁ (lM [(x, .int (ns.getD i 0) t)]) → News s.heap L' h₁ [] → (∀ t' h' tk', s.heap.StaysIn h' → Q (.int (g (ns.getD i 0)) t') { s with heap := h', toks := tk' }) →
      wpAny (model p w) ((aroundOf dp un gd outer).deeper (envX qual scope L' f (.ref c') cl)) (eval body (envX qual scope L' f (.ref c') cl)) (fun v s' => Q v s') (fun _ _ => False) { s with heap := h₁, toks := tk })
    (hbind : ∀ v, bindArgs (kla_fn name qual params body scope cl pm (.ref c') ctv) ⟨[v], []⟩ = pure [(x, v)]) (hloc : scope.names.lookup x = some .local)
    (hco : scope.isCoroutine = false) (hgen : scope.isGenerator = false) (hk : scope.kind = .function) (hcell : ∀ x ∈ scope.names, x.2 ≠ .cell) :
    KeyCon p w K f (fun h => (h.get? f = some (kla_obj name qual params body scope cl pm c' ctv) ∧ h.CodeRec (.ref c') qual) ∧ pre' h) g ns := by
  refine ⟨⟨fun a b k ⟨⟨h1, h2⟩, h3⟩ => ⟨⟨k _ _ h1, ?_⟩, hst _ _ k h3⟩, fun a ⟨⟨h1, _⟩, _⟩ => ⟨_, _, _, _, h1⟩⟩, fun i hi t => ?_⟩
  · obtain ⟨c₂, oc, vs, tq, e, e1, e2, e3⟩ := h2
    exact ⟨c₂, oc, vs, tq, e, k _ _ e1, e2, e3⟩
  · rintro pp loose mean mg mb dp un gd base outer s Q E B X T hd hu ⟨⟨hp1, hp2⟩, hp3⟩ hret
    refine wpAny_call ?_
    refine kla_callFunE (by show dp < recursionLimit; omega) hp1 rfl hco hgen rfl hp2 ?_
    rw [hbind]
    refine wpAny_pure (wpAny_newFunctionEnv hcell (fun y hy => by rw [List.mem_singleton.mp hy]; exact hloc) (fun h₁ hns hsb => ⟨(T.nolimit).fresh _ hsb, ?_⟩) hk)
    show codeAny _ _ (.expr body (envX qual scope s.heap.objs.size f (.ref c') cl)) _ _
    have hk₁ : ∀ b o, s.heap.get? b = some o → h₁.get? b = some o := fun b o e => hsb.extBut b o (Nat.ne_of_lt (Heap.lt_size e)) (Heap.get?_push_of_some _ e)
    refine kla_codeExpr (wpAny_mono (h pp loose mean mg mb dp un gd base outer s (fun v s' => Q v s') i t s.heap.objs.size h₁ _ hi B X T hd hu hp3 ⟨hns, hk₁, Nat.le_refl _⟩ News.nil (fun t' h' tk' hs => hret _ h' tk' hs ⟨t', rfl⟩)) (fun v s' hl => hl) fun _ _ y => y.elim)
theorem key_exists {p : Program} {w : World} {K : Frag} {f : Addr} {name qual : Str} {params : Arguments} {body : Expr} {scope : Scope} {cl : List (Str × Addr)} {pm ctv : Value} {c' : Addr} (g : Int → Int) (ns : List Int) (x : Str) (pre' : Heap → Prop) {h' : Heap}
    (hf : h'.get? f = some (kla_obj name qual params body scope cl pm c' ctv)) (hcr : h'.CodeRec (.ref c') qual) (hp' : pre' h') (hst : ∀ h h', h.StaysIn h' → pre' h → pre' h')
    (h : ∀ (pp : Program) (loose : List Str) (mean : ExcName → Option Value) (mg mb : Str → Option Value) (dp un : Nat) (gd : Option (List Code)) (base : Heap) (outer : List Env) (s : Shared) (Q : Value → Shared → Prop) (i : Nat) (t : Tok) (L' : Addr) (h₁ : Heap) (tk : Nat),
      i < ns.length → Below (aroundOf dp un gd outer) base outer s.heap → K.In s.heap → Top pp loose mean mg mb s.heap → dp + 1 < recursionLimit → un + 10 * 1 < cLine → pre' s.heap →
      Fr s.heap L' h₁ (lM [(x, .int (ns.getD i 0) t)]) → News s.heap L' h₁ [] → (∀ t' h' tk', s.heap.StaysIn h' → Q (.int (g (ns.getD i 0)) t') { s with heap := h', toks := tk' }) →
      wpAny (model p w) ((aroundOf dp un gd outer).deeper (envX qual scope L' f (.ref c') cl)) (eval body (envX qual scope L' f (.ref c') cl)) (fun v s' => Q v s') (fun _ _ => False) { s with heap := h₁, toks := tk })
    (hbind : ∀ v, bindArgs (kla_fn name qual params body scope cl pm (.ref c') ctv) ⟨[v], []⟩ = pure [(x, v)]) (hloc : scope.names.lookup x = some .local)
    (hco : scope.isCoroutine = false) (hgen : scope.isGenerator = false) (hk : scope.kind = .function) (hcell : ∀ x ∈ scope.names, x.2 ≠ .cell) :
    ∃ pre, pre h' ∧ KeyCon p w K f pre g ns := ⟨_, ⟨⟨hf, hcr⟩, hp'⟩, keyCon_of hst h hbind hloc hco hgen hk hcell⟩
end Tc

namespace Tc
theorem con_enterTC {p pp : Program} {w : World} {K : Frag} {loose : List Str} {mean : ExcName → Option Value} {mg mb : Str → Option Value} {dp un : Nat} {gd : Option (List Code)} {outer : List Env} {g : Heap} {s : Shared} {Q E : Value → Shared → Prop}
    {name qual : Str} {params : Arguments} {body : List Stmt} {scope : Scope} {dV kV doc pm cdv ct oc : Value} {an od : Option Addr} {osl : Array (Option Value)} {f : Addr} {args : Args} {binds : List (Str × Value)} {p1 p2 : Array Value} {exs : List (Addr × Obj)}
    (X : K.In g) (T : Top pp loose mean mg mb g) (hs : g.StaysIn s.heap) (hz : g.objs.size ≤ s.heap.objs.size) (ht : ∀ q ∈ tabs p1 p2 exs, s.heap.get? q.1 = some q.2 ∧ g.get? q.1 = none)
    (ho : K.lookup f = some ⟨oc, od, .func (fnOf name qual params body scope dV kV doc pm an cdv ct), osl⟩) (hcd : codeIn K cdv qual = true) (hroom : dp < recursionLimit)
    (hbind : BindsTo s (fnOf name qual params body scope dV kV doc pm an cdv ct) args binds)
    (hkind : (binds.all fun y => scope.names.lookup y.1 == some .local || scope.names.lookup y.1 == some .cell) = true)
    (hnd : ((cellsFrom 0 scope.names []).map (·.1)).Nodup)
    (h : ∀ L' h₁ tk cells, Fr g L' h₁ (bindL (envOfC qual scope L' f cdv).kindOf binds fun _ => none) → News g L' h₁ (cells ++ tabs p1 p2 exs) →
      CellsAre (bindC (envOfC qual scope L' f cdv).kindOf binds fun _ => none) (cellsFrom (L' + 1) scope.names []) cells → (∀ q ∈ tabs p1 p2 exs, q.1 < L') →
      wpAny (model p w) ((aroundOf dp un gd outer).deeper (envOfC qual scope L' f cdv)) (execs body (envOfC qual scope L' f cdv))
        (fun fl s' => Q (match fl with | .ret v => v | _ => .none) s') (fun _ _ => False)
        { s with heap := h₁, toks := tk })
    (hco : scope.isCoroutine = false) (hgen : scope.isGenerator = false) (hk : scope.kind = .function) : codeAny (model p w) (aroundOf dp un gd outer) (.call (.ref f) args) (fun r s' => match r with | .ok (.ret v) => Q v s' | .ok _ => False | .error e => E e s') s := by
  have X' : K.In s.heap := X.keeps hs
  refine codeAny_call_function hroom (X' _ _ ho) rfl hco hgen rfl (codeRec_of X' hcd) (hbind _ _ _ _ ?_)
  refine wpAny_newFunctionEnv_cells hk (kindsX hkind _) fun env' he s' x => ?_
  subst he
  refine ⟨((T.keeps hs).nolimit).keeps x.toInCall.keep, codeAny_func ?_⟩
  obtain ⟨h₁, tk, rfl, _⟩ := x.done
  have hk₁ := x.toInCall.keep
  obtain ⟨cells, NC, Y⟩ := Cl.news (h₀ := s.heap) (Nat.le_refl _) fun n c hm => ⟨x.cell n c (lookup_of_mem_nodup (cellsFrom_names scope.names 0 (s.heap.objs.size + 1) [] [] rfl ▸ hnd) hm), x.above n c hm⟩
  refine wpAny_mono (h s.heap.objs.size h₁ tk cells ⟨x.toInCall.ns, fun b o e => hk₁ b o (hs b o e), hz⟩ (fun q hq => ?_) Y fun q hq => Heap.lt_size (ht q hq).1) (fun fl s' hl => hl) fun _ _ y => y.elim
  rcases List.mem_append.mp hq with hq | hq
  · refine ⟨(NC q hq).1, (NC q hq).2.1, ?_⟩
    cases k : g.get? q.1 with
    | none => rfl
    | some o => have := hs _ _ k; rw [(NC q hq).2.2] at this; cases this
  · exact ⟨hk₁ _ _ (ht q hq).1, Nat.ne_of_lt (Heap.lt_size (ht q hq).1), (ht q hq).2⟩
theorem all_off {L d : Nat} {l : List (Addr × Obj)} (h : ∀ q ∈ l, q.1 < L) (hd : L ≤ d) : ∀ p ∈ l, p.1 ≠ d := fun p hp => Nat.ne_of_lt (Nat.lt_of_lt_of_le (h p hp) hd)
section
variable {M : Model} {A : Around} {E : Value → Shared → Prop} {s : Shared} {h₀ : Heap} {L a : Addr} {m : Str → Option Value} {cn : Str} {cs : Scope} {ccd : Value} {cl : List (Str × Addr)} {x : Str} {pos : Pos} {v : Value} {Q : Value → Shared → Prop} {c : Addr}
theorem name_free (F : Fr h₀ L s.heap m) (hc : cl.lookup x = some c) (hC : h₀.IsCell c (some v)) (h : Q v s)
    (hk : cs.kind = .function := by rfl) (hx : (envX cn cs L a ccd cl).kindOf x = some .free := by rfl) (hb : (x == ("__debug__" : Str)) = false := by decide) (hn : (x == ("__classdict__" : Str)) = false := by decide) :
    wpAny M A (eval (.Name x pos) (envX cn cs L a ccd cl)) Q E s := wpAny_Name (wpAny_loadName_free hk hx hc (let ⟨o, e, d⟩ := hC; ⟨o, F.keep _ _ e, d⟩) h hn) hb
end
theorem isCell_keeps {h h' : Heap} {c : Addr} {v : Option Value} (k : h.StaysIn h') (x : h.IsCell c v) : h'.IsCell c v := let ⟨o, e, d⟩ := x; ⟨o, k _ _ e, d⟩
theorem isList_keeps {h h' : Heap} {c : Addr} {v : Array Value} (k : h.StaysIn h') (x : h.IsList c v) : h'.IsList c v := let ⟨o, e, d⟩ := x; ⟨o, k _ _ e, d⟩
theorem TabSt.fields {p1 p2 : Array Value} {exs : List (Addr × Obj)} (h : TabSt p1 p2 exs) : ∀ q ∈ exs, ∃ vs, q.2.data = .fields vs := by
  obtain ⟨e1, e2, rfl, h1, h2⟩ := h
  intro q hq
  rcases List.mem_append.mp hq with hq | hq
  · obtain ⟨vs, _, hd, _⟩ := h1.ex_ne q hq
    exact ⟨vs, hd⟩
  · obtain ⟨vs, _, hd, _⟩ := h2.ex_ne q hq
    exact ⟨vs, hd⟩
/-- what is no record of fields lies beside the code objects -/
theorem TabSt.off_of {p1 p2 : Array Value} {exs news : List (Addr × Obj)} (h : TabSt p1 p2 exs) {h₀ h₁ : Heap} {L c : Addr} {o : Obj} (N : News h₀ L h₁ news) (hex : ∀ q ∈ exs, q ∈ news) (hm : (c, o) ∈ news) (ho : ∀ vs, o.data ≠ .fields vs) :
    ∀ q ∈ exs, q.1 ≠ c := by
  intro q hq e
  obtain ⟨vs, hd⟩ := h.fields q hq
  have e1 := (N q (hex q hq)).1
  rw [e, (N _ hm).1] at e1
  rw [← Option.some.inj e1] at hd
  exact ho vs hd
end Tc

namespace Tc
open LCg in
/-- how a turn of a comprehension ends: the ledger is the one it began with -/
noncomputable def CT (h₀ : Heap) (L : Addr) (m : Str → Option Value) (s : Shared) (led : List (Addr × Obj)) (J : Value → Prop) (y : Value) (s₂ : Shared) : Prop :=
  ∃ h' tk, s₂ = { s with heap := h', toks := tk } ∧ Fr h₀ L h' m ∧ News h₀ L h' led ∧ J y
theorem CT.intro {h₀ : Heap} {L : Addr} {m : Str → Option Value} {s : Shared} {led all : List (Addr × Obj)} {J : Value → Prop} {y : Value} {h' : Heap} {tk : Nat}
    (F : Fr h₀ L h' m) (N : News h₀ L h' all) (sub : ∀ p ∈ led, p ∈ all) (j : J y) : CT h₀ L m s led J y { s with heap := h', toks := tk } := ⟨h', tk, rfl, F, fun p hp => N p (sub p hp), j⟩
open LCg in
theorem rest_inv {prog : Program} {w : World} {A : Around} {s : Shared} {h₀ : Heap} {L : Addr} {m : Str → Option Value} {env : Env} {elt : Expr} {x : Str} {scope : Scope} {cl : List (Str × Addr)} {S : List (Addr × Obj) → Prop} {P : Nat → Value → Prop}
    {Fin : List Value → List (Addr × Obj) → Prop} {n : Nat} {news : List (Addr × Obj)} (J : Nat → List Value → Prop) (hS : S news)
    (turn : ∀ i ys v I oI C oC D m₂ h tk (E' : Value → Shared → Prop), i < n → P i v → NsObj oC m₂ → m₂ x = some v → Fr h₀ L h m → News h₀ L h ((I, oI) :: (C, oC) :: (D, lst ys) :: news) → Off3 I C D news → ((@Ne Nat I C) ∧ (@Ne Nat I D) ∧ (@Ne Nat C D)) → J i ys →
      wpAny (model prog w) A (eval elt (compEnvC scope cl C env)) (CT h₀ L m s ((I, oI) :: (C, oC) :: (D, lst ys) :: news) (fun y => J (i + 1) (ys ++ [y]))) E' { s with heap := h, toks := tk })
    (fin : ∀ ys, J n ys → Fin ys news) :
    ∀ k i ys, k + i = n → J i ys → CompRest prog w A h₀ L m env elt x scope cl s S P Fin k i ys news
  | 0, i, ys, e, j => CompRest.zero (fin ys (by rw [Nat.zero_add] at e; exact e ▸ j))
  | k + 1, i, ys, e, j => CompRest.succ fun v I oI C oC D m₂ h tk E' hP hC hx F N off ne =>
    wpAny_mono (turn i ys v I oI C oC D m₂ h tk E' (by omega) hP hC hx F N off ne j) (fun y s₂ ⟨h', tk', e2, F', N', j'⟩ => by
      subst e2
      exact ⟨h', tk', news, rfl, F', N', off, hS, rest_inv J hS turn fin k (i + 1) (ys ++ [y]) (by omega) j'⟩) fun _ _ e => e
end Tc

namespace Tc
theorem word_join (a b c : Nat) (ha : 2 ≤ a ∧ a ≤ 4) (hb : 2 ≤ b ∧ b ≤ 4) (hc : 2 ≤ c ∧ c ≤ 4) :
    PySem.Txt.join (Str.ofString "") ((rangeKs 0 (a + b + c)).map fun k : Int => if k < (a : Int) then (⟨#[97]⟩ : Str) else if k < (a : Int) + b then ⟨#[98]⟩ else ⟨#[99]⟩) = ⟨(List.replicate a 97 ++ List.replicate b 98 ++ List.replicate c 99).toArray⟩ := by
  obtain rfl | rfl | rfl : a = 2 ∨ a = 3 ∨ a = 4 := by omega
  all_goals obtain rfl | rfl | rfl : b = 2 ∨ b = 3 ∨ b = 4 := by omega
  all_goals obtain rfl | rfl | rfl : c = 2 ∨ c = 3 ∨ c = 4 := by omega
  all_goals decide +kernel
end Tc

namespace Tc
noncomputable def HN (env : Env) (e : Value) : Sem Fin := (do noteFrame e env; theTreesLotGoes e : Sem Unit).wrap (fun _ => .raise e) .raise id id
noncomputable def kOwn (env : Env) (K : Flow → Sem Fin) (H : Value → Sem Fin) (gd : Bool → Bool) (lv : List Value → List Value) (r : Result) : Sem Fin :=
  ((match r with | .ok f => (.pure f : Sem Flow) | .error e => .raise e).onRaise fun (x : Value) => do
    if (← field x 1) == Value.none then unsupported "frame.own-activation:exception-without-traceback"
    setFlight x env.frame).wrap K H gd lv
section
variable {M : Model} {A : Around} {R : GenEnd} {Y : Protocol} {n : Nat} {s₀ : Shared} {c : Code} {fs : List Frame} {s : Shared} {env : Env}
  {K : Flow → Sem Fin} {H : Value → Sem Fin} {gd : Bool → Bool} {lv : List Value → List Value}
theorem seg_stmt {st : Stmt} (h : wpAny M (A.over c fs) (exec st env) (fun f s' => Seg M A R Y n s₀ c (K f) fs s') (fun _ _ => False) s) : Seg M A R Y n s₀ c ((exec st env).wrap K H gd lv) fs s :=
  seg_wrap (wpAny_mono h (fun _ _ x => x) fun _ _ x => x.elim)
theorem seg_If {test : Expr} {body orelse : List Stmt} {pos : Pos}
    (h : wpAny M (A.over c fs) (isTrue test env (eval test env)) (fun b s' => if b = true then Seg M A R Y n s₀ c ((execs body env).wrap K H gd lv) fs s' else Seg M A R Y n s₀ c ((execs orelse env).wrap K H gd lv) fs s') (fun _ _ => False) s) :
    Seg M A R Y n s₀ c ((exec (.If test body orelse pos) env).wrap K H gd lv) fs s := by
  show Seg M A R Y n s₀ c (.at pos fun _ => ((isTrue test env (eval test env)) >>= fun b => if b = true then execs body env else execs orelse env).wrap K H gd lv) fs s
  refine seg_at ?_
  rw [Sem.bind_eq_wrap', Sem.wrap_wrap]
  refine seg_wrap (wpAny_mono h (fun b s' hb => ?_) fun _ _ x => x.elim)
  cases b with
  | true => exact hb
  | false => exact hb
theorem seg_For {target iter : Expr} {body orelse : List Stmt} {pos : Pos}
    (h : wpAny M (A.over c fs) (eval iter env) (fun x s₁ => wpAny M (A.over c fs) (pyIter x) (fun it s₂ => ∀ p, Seg M A R Y n s₀ (.forLoop target it body orelse env) (M.den (.forLoop target it body orelse env))
      (.ret (kOwn env K H gd lv) none (gd false) (lv []) c p [] :: fs) s₂) (fun _ _ => False) s₁) (fun _ _ => False) s)
    (hs : ∀ x, foldedSetIterable iter env x = pure x := by intro _; rfl) :
    Seg M A R Y n s₀ c ((exec (.For target iter body orelse pos) env).wrap K H gd lv) fs s := by
  rw [exec_For]
  show Seg M A R Y n s₀ c (.at pos fun _ => (eval iter env >>= fun x => foldedSetIterable iter env x >>= fun x => standAt iter.pos >>= fun _ => holding [x] (pyIter x) >>= fun it => runOwn (.forLoop target it body orelse env) env).wrap K H gd lv) fs s
  refine seg_at ?_
  rw [Sem.bind_eq_wrap', Sem.wrap_wrap]
  refine seg_wrap (wpAny_mono h (fun x s₁ h₁ => ?_) fun _ _ x => x.elim)
  rw [hs]
  show Seg M A R Y n s₀ c (.at iter.pos fun _ => (holding [x] (pyIter x) >>= fun it => runOwn (.forLoop target it body orelse env) env).wrap K H gd lv) fs s₁
  refine seg_at ?_
  rw [Sem.bind_eq_wrap', Sem.wrap_wrap]
  refine seg_wrap (wpAny_holding (wpAny_mono h₁ (fun it s₂ h₂ => ?_) fun _ _ x => x.elim))
  exact seg_call h₂
end
section
variable {prog : Program} {w : World} {A : Around} {R : GenEnd} {Y : Protocol} {n : Nat} {s₀ : Shared} {fs : List Frame} {s : Shared} {env : Env}
theorem seg_block {stmts : List Stmt}
    (h : Seg (model prog w) A R Y n s₀ (.block stmts env) ((execs stmts env).wrap (fun f => .pure (.done f)) (HN env) id id) fs s) :
    Seg (model prog w) A R Y n s₀ (.block stmts env) ((model prog w).den (.block stmts env)) fs s := by
  show Seg _ A R Y n s₀ _ (((execs stmts env).onRaise (fun x => do noteFrame x env; theTreesLotGoes x)) >>= fun f => pure (.done f)) fs s
  rw [Sem.onRaise_eq_wrap, Sem.bind_eq_wrap', Sem.wrap_wrap]
  rw [Sem.wrap_congr (execs stmts env) _ _ (K' := fun f => (.pure (.done f) : Sem Fin)) (H' := HN env) (fun f => by rfl)
    (fun e => by (show ((do noteFrame e env; theTreesLotGoes e : Sem Unit).bind fun _ => .raise e).wrap _ _ _ _ = _; rw [Sem.bind_eq_wrap, Sem.wrap_wrap]; rfl))]
  exact h
theorem seg_forLoop {target : Expr} {it : Value} {body orelse : List Stmt}
    (h : wpAny (model prog w) (A.over (.forLoop target it body orelse env) fs) (pyNext it) (fun r s₁ => match r with
      | none => Seg (model prog w) A R Y n s₀ (.block orelse env) ((model prog w).den (.block orelse env)) fs s₁
      | some v => wpAny (model prog w) (A.over (.forLoop target it body orelse env) fs) (assign target env v) (fun _ s₂ =>
          Seg (model prog w) A R Y n s₀ (.forLoop target it body orelse env) ((execs body env).wrap (fun f => match f with
            | .next | .cont => .pure (.again (.forLoop target it body orelse env))
            | .brk => .pure (.done .next)
            | .ret v => .pure (.done (.ret v))) (HN env) id id) fs s₂) (fun _ _ => False) s₁) (fun _ _ => False) s)
    (ht : ∀ v, letOwnedTupleGo target it v = pure () := by intro _; rfl) :
    Seg (model prog w) A R Y n s₀ (.forLoop target it body orelse env) ((model prog w).den (.forLoop target it body orelse env)) fs s := by
  show Seg _ A R Y n s₀ _ ((forTurn target it body orelse env).onRaise (fun x => do noteFrame x env; theTreesLotGoes x)) fs s
  unfold forTurn
  rw [Sem.onRaise_eq_wrap]
  show Seg _ A R Y n s₀ _ (.at target.pos fun _ => Sem.wrap Sem.pure _ _ _ (((pyNext it).onRaise (fun _ => standAt { target.pos with line := 0 })) >>= fun r => (match r with
    | none => again (.block orelse env)
    | some v => (letOwnedTupleGo target it v) >>= fun _ => (assign target env v) >>= fun _ => (execs body env) >>= fun f => (match f with
      | .next | .cont => again (.forLoop target it body orelse env)
      | .brk => pure (.done .next)
      | .ret v => pure (.done (.ret v)) : Sem Fin) : Sem Fin))) fs s
  refine seg_at ?_
  rw [Sem.bind_eq_wrap', Sem.wrap_wrap]
  refine seg_wrap (wpAny_onRaise (wpAny_mono h (fun r s₁ h₁ => ?_) fun _ _ x => x.elim))
  cases r with
  | none => exact seg_again rfl h₁
  | some v =>
    show Seg _ A R Y n s₀ _ (Sem.wrap _ _ _ _ (letOwnedTupleGo target it v >>= _)) fs s₁
    rw [ht]
    show Seg _ A R Y n s₀ _ (Sem.wrap Sem.pure _ _ _ ((assign target env v) >>= fun _ => (execs body env) >>= fun f => (match f with
      | .next | .cont => again (.forLoop target it body orelse env)
      | .brk => pure (.done .next)
      | .ret v => pure (.done (.ret v)) : Sem Fin))) fs s₁
    rw [Sem.bind_eq_wrap', Sem.wrap_wrap]
    refine seg_wrap (wpAny_mono h₁ (fun _ s₂ h₂ => ?_) fun _ _ x => x.elim)
    rw [Sem.bind_eq_wrap', Sem.wrap_wrap]
    rw [Sem.wrap_congr (execs body env) _ _ (K' := fun f => match f with
            | .next | .cont => .pure (.again (.forLoop target it body orelse env))
            | .brk => .pure (.done .next)
            | .ret v => .pure (.done (.ret v))) (H' := HN env)
        (fun f => by cases f <;> rfl)
        (fun e => by first | rfl | exact Sem.bind_eq_wrap _ _ | (show (do noteFrame e env; theTreesLotGoes e : Sem Unit).bind (fun _ => .raise e) = _; rw [Sem.bind_eq_wrap]; rfl))]
    exact h₂
end
end Tc

namespace Tc
/-- what the generator yields: n yields are left, val the numbers by what is left -/
noncomputable def okAt (fin : Bool) (val : Nat → Int) : Nat → List Int → Option Int → Prop
  | n, [], _ => n = 0
  | n, x :: r, last => if x = 127 then n = 0 else if x = 0 then fin = false ∧ 0 < n ∧ ∃ y, last = some y ∧ ∀ j, j < n → val j = y else ∃ m, n = m + 1 ∧ val m = x ∧ okAt fin val m r (some x)
noncomputable def LIter (o : Obj) : Prop := ∃ (l : Addr) (i : Nat), o.data = .fields #[.ref l, .int i 0]
noncomputable def MovedG (g : Heap) (ks : List Addr) (s₀ s₁ : Shared) : Prop :=
  ∃ h tk, s₁ = { s₀ with heap := h, toks := tk } ∧ g.StaysIn h ∧ ∀ b ∈ ks, ∀ o, ¬ LIter o → s₀.heap.get? b = some o → h.get? b = some o
theorem MovedG.refl {g : Heap} {ks : List Addr} (s : Shared) (k : g.StaysIn s.heap) : MovedG g ks s s := ⟨s.heap, s.toks, rfl, k, fun _ _ _ _ e => e⟩
/-- the objects that the generator leaves alone -/
noncomputable def Kept (ks : List Addr) (h : Heap) (kept : List (Addr × Obj)) : Prop :=
  (∀ q ∈ kept, q.1 ∈ ks ∧ h.get? q.1 = some q.2 ∧ ¬ LIter q.2) ∧ ∀ b ∈ ks, ∀ o, ¬ LIter o → h.get? b = some o → (b, o) ∈ kept
theorem kept_ex (h : Heap) : ∀ ks : List Addr, ∃ kept, Kept ks h kept
  | [] => ⟨[], ⟨fun _ hq => absurd hq List.not_mem_nil, fun _ hb => absurd hb List.not_mem_nil⟩⟩
  | b :: ks => by
    obtain ⟨kept, k1, k2⟩ := kept_ex h ks
    by_cases hb : ∃ o, h.get? b = some o ∧ ¬ LIter o
    · obtain ⟨o, e, hl⟩ := hb
      refine ⟨(b, o) :: kept, fun q hq => ?_, fun c hc o' hl' e' => ?_⟩
      · rcases List.mem_cons.mp hq with rfl | hq
        · exact ⟨.head _, e, hl⟩
        · exact ⟨.tail _ (k1 q hq).1, (k1 q hq).2⟩
      · rcases List.mem_cons.mp hc with rfl | hc
        · rw [e] at e'; cases e'; exact .head _
        · exact .tail _ (k2 c hc o' hl' e')
    · refine ⟨kept, fun q hq => ⟨.tail _ (k1 q hq).1, (k1 q hq).2⟩, fun c hc o' hl' e' => ?_⟩
      rcases List.mem_cons.mp hc with rfl | hc
      · exact absurd ⟨o', e', hl'⟩ hb
      · exact k2 c hc o' hl' e'
theorem MovedG.step {g : Heap} {ks : List Addr} {s₀ s₁ : Shared} {kept : List (Addr × Obj)} (x : MovedG g ks s₀ s₁) (hk : Kept ks s₁.heap kept) {h' : Heap} {tk' : Nat} (k : g.StaysIn h') (a : ∀ q ∈ kept, h'.get? q.1 = some q.2) :
    MovedG g ks s₀ { s₁ with heap := h', toks := tk' } := by
  obtain ⟨h, tk, rfl, _, k₀⟩ := x
  exact ⟨h', tk', rfl, k, fun b hb o hl e => a _ (hk.2 b hb o hl (k₀ b hb o hl e))⟩
noncomputable def YP (g : Heap) (ks : List Addr) (Lg : Addr) (val : Nat → Int) (fin : Bool) : Protocol := fun n s₀ v s₁ kap =>
  ∃ (t : Tok) (rest : List (Addr × Obj)), v = .int (val n) t ∧ MovedG g ks s₀ s₁ ∧ (∀ q ∈ rest, s₁.heap.get? q.1 = some q.2 ∧ g.get? q.1 = none ∧ (q.1 = Lg ∨ LIter q.2)) ∧
    ((n = 0 → fin = true) → ∀ s'' : Shared, g.StaysIn s''.heap → (∀ q ∈ rest, s''.heap.get? q.1 = some q.2) → kap (.send .none) s'')
abbrev RP (g : Heap) (ks : List Addr) : GenEnd := fun n s₀ r s₁ => r = .ok (.ret .none) ∧ n = 0 ∧ MovedG g ks s₀ s₁
/-- what a call of the def at `f` gives that makes a list of numbers, a generator left behind -/
noncomputable def ConG (p : Program) (w : World) (K : Frag) (f : Addr) (lv : Nat) (vs : List Value) (pre : Heap → Prop) (out : List Int) : Prop :=
  ∀ (pp : Program) (loose : List Str) (mean : ExcName → Option Value) (mg mb : Str → Option Value) (dp un : Nat) (gd : Option (List Code)) (base : Heap) (outer : List Env) (s : Shared) (Q E : Value → Shared → Prop),
    Below (aroundOf dp un gd outer) base outer s.heap → K.In s.heap → Top pp loose mean mg mb s.heap → dp + lv < recursionLimit → un + 10 * lv < cLine → pre s.heap →
    (∀ D ys c h' t' x, s.heap.StaysIn h' → s.heap.get? D = none → h'.get? D = some (listOf (List.toArray ys) c) → IntsAre ys out → x.bare = true → Q (.ref D) { s with heap := h', toks := t', gens := s.gens.push x }) →
    wpAny (model p w) (aroundOf dp un gd outer) (call (.ref f) vs) Q E s
theorem gen_call {p pp : Program} {w : World} {K : Frag} {A : Around} {loose : List Str} {mean : ExcName → Option Value} {mg mb : Str → Option Value} {s : Shared} {Q E : Value → Shared → Prop} {h₀ : Heap} {L : Addr} {m : Str → Option Value} {news : List (Addr × Obj)}
    {name qual : Str} {params : Arguments} {body : List Stmt} {scope : Scope} {dV kV doc pm cdv ct oc : Value} {an od : Option Addr} {osl : Array (Option Value)} {f : Addr} {vs : List Value} {binds : List (Str × Value)}
    (F : Fr h₀ L s.heap m) (X : K.In h₀) (N : News h₀ L s.heap news) (T : Top pp loose mean mg mb h₀)
    (ho : K.lookup f = some ⟨oc, od, .func (fnOf name qual params body scope dV kV doc pm an cdv ct), osl⟩) (hcd : codeIn K cdv qual = true) (hroom : A.depth < recursionLimit)
    (hbind : bindArgs (fnOf name qual params body scope dV kV doc pm an cdv ct) ⟨vs, []⟩ = pure binds) (hloc : ∀ y ∈ binds, scope.names.lookup y.1 = some .local)
    (h : ∀ Lg G h₂ oL og tk, Fr h₀ Lg h₂ (fun y => binds.reverse.lookup y) → Fr h₀ L h₂ m → h₂.IsGen G s.gens.size → h₂.get? Lg = some oL → h₂.get? G = some og → (∀ b o, s.heap.get? b = some o → h₂.get? b = some o ∧ b ≠ Lg ∧ b ≠ G) → h₀.get? G = none → ¬ LIter og → Lg ≠ G →
      Q (.ref G) { s with heap := h₂, toks := tk, gens := s.gens.push (.fresh (.func body (envOf qual scope Lg f cdv))) })
    (hco : scope.isCoroutine = false) (hgen : scope.isGenerator = true) (hk : scope.kind = .function)
    (hcell : ∀ x ∈ scope.names, x.2 ≠ .cell) : wpAny (model p w) A (call (.ref f) vs) Q E s := by
  have X' : K.In s.heap := X.keeps F.keep
  refine wpAny_call (codeAny_call_generator hroom (X' _ _ ho) rfl hco hgen rfl (codeRec_of X' hcd) ?_)
  rw [hbind]
  refine wpAny_pure (wpAny_newFunctionEnv hcell hloc (fun h₁ hns hsb => ⟨((T.keeps F.keep).nolimit).fresh _ hsb, ?_⟩) hk)
  have hsz : h₁.objs.size = s.heap.objs.size + 1 := by rw [hsb.1, Heap.size_push]
  have k₁ : ∀ b o, s.heap.get? b = some o → h₁.get? b = some o := fun b o e => hsb.extBut b o (Nat.ne_of_lt (Heap.lt_size e)) (Heap.get?_push_of_some _ e)
  have hz : h₀.objs.size ≤ s.heap.objs.size := Nat.le_of_lt (Nat.lt_of_le_of_lt F.above F.ns.lt)
  obtain ⟨oL, es, ep, hoL, r⟩ := id hns
  have k₂ : ∀ b o, s.heap.get? b = some o → (h₁.push { cls := .type "generator", data := .fields #[.int s.gens.size 0, .str name (s.toks + binds.length), .str qual (s.toks + binds.length + 1)] }).get? b = some o := fun b o e => Heap.get?_push_of_some _ (k₁ b o e)
  have hn : h₀.get? h₁.objs.size = none := by
    cases e : h₀.get? h₁.objs.size with
    | none => rfl
    | some o => exact absurd (Heap.lt_size e) (Nat.not_lt.mpr (by rw [hsz]; exact Nat.le_succ_of_le hz))
  have H := h s.heap.objs.size h₁.objs.size _ oL { cls := .type "generator", data := .fields #[.int s.gens.size 0, .str name (s.toks + binds.length), .str qual (s.toks + binds.length + 1)] } (s.toks + binds.length + 1 + 1)
    ⟨hns.push _, fun b o e => k₂ b o (F.keep b o e), hz⟩ ⟨F.ns.at (fun o e => k₂ _ o e), fun b o e => k₂ b o (F.keep b o e), F.above⟩
    ⟨_, _, _, Heap.get?_push_size _ rfl, rfl, rfl, rfl⟩ (Heap.get?_push_of_some _ hoL) (Heap.get?_push_size _ rfl)
    (fun b o e => ⟨k₂ b o e, Nat.ne_of_lt (Heap.lt_size e), by rw [hsz]; exact Nat.ne_of_lt (Nat.lt_succ_of_lt (Heap.lt_size e))⟩) hn (fun ⟨l, i, e⟩ => by simp at e) (by rw [hsz]; exact Nat.ne_of_lt (Nat.lt_succ_self _))
  exact H
theorem next_gen {prog : Program} {w : World} {A : Around} {E : Value → Shared → Prop} {s : Shared} {a : Addr} {g n : Nat} {gs : GenState} {P : Nat → Shared → Shared → Prop} {Y : Protocol} {Q : Option Value → Shared → Prop} (hh : A.handled = none)
    (hl : s.heap.NoLimit) (hroom : A.depth < recursionLimit) (hg : s.heap.IsGen a g) (hgs : s.gens[g]? = some gs)
    (hgo : gs.Goes (model prog w) A.in1 (fun n s₀ r s₁ => r = .ok (.ret .none) ∧ P n s₀ s₁) Y n (.send .none) (s.setGen g .running))
    (hY : ∀ v s₁ gs', gs'.bare = true → Y (n - 1) (s.setGen g .running) v s₁ (fun r' s'' => match n with
        | 0 => False
        | m + 1 => gs'.Goes (model prog w) A.in1 (fun n s₀ r s₁ => r = .ok (.ret .none) ∧ P n s₀ s₁) Y m r' s'') → Q (some v) (s₁.setGen g gs'))
    (hP : ∀ s₁, P n (s.setGen g .running) s₁ → ∀ h', (∀ b o, s₁.heap.get? b = some o → h'.get? b = some o) → Q none { s₁.setGen g .finished with heap := h' }) :
    wpAny (model prog w) A (pyNext (.ref a)) Q E s := by
  unfold pyNext
  refine wpAny_bind (wpAny_attempt (wpAny_callSpecial?_slot (name := Str.ofString "__next__") hg.typeIs slot_gen_next
    (wpAny_call_entry slot_gen_next hg.typeIs entry_gen_next ?_ (args_gen_next _))))
  show wpAny _ A.in1 (Builtin.Generator.genWake (.ref a) (.send .none)) _ _ s
  unfold Builtin.Generator.genWake
  refine wpAny_bind (wpAny_holding (wpAny_genNumber hg (wpAny_bind (wpAny_genState hgs ?_))))
  cases gs with
  | running => exact hgo.elim
  | finished => exact hgo.elim
  | _ =>
    refine wpAny_bind (wpAny_roomToWake hl hroom ?_)
    show wpAny _ A.in1 (.resume g (.send .none) [] _) _ _ s
    refine wpAny_resumeQ hgs hgo (fun x s₁ ⟨hx, hp⟩ => ?_) (fun v s₁ gs' hb hv => wpAny_pure ⟨v, rfl, wpAny_pure (hY v s₁ gs' hb hv)⟩)
    subst hx
    show wpAny _ A.in1 (newExc (.type "StopIteration") [] >>= _) _ _ _
    simp only [newExc, newTuple]
    refine wpAny_bind (wpAny_bind (wpAny_newObj_type (wpAny_bind (m := firstArgMember _ _) (wpAny_of_eq (a := Value.none) (by first | rfl | (simp only [firstArgMember]; rfl)) (wpAny_newObj_type ?_ (by size_fits)))) (by size_fits)))
    simp only [raiseNew]
    refine wpAny_bind (wpAny_bind (wpAny_handled ?_))
    rw [show A.in1.handled = none from hh]
    exact wpAny_throw (wpAny_bind (wpAny_isInstance (T := "StopIteration") (b := true) ⟨_, Heap.get?_push_size _ rfl, rfl⟩ isSubtype_stop (wpAny_pure (hP s₁ hp _ fun b o hb => Heap.get?_push_of_some _ (Heap.get?_push_of_some _ hb)))))
theorem push_set {α : Type} (a : Array α) (x y : α) : (a.push x).setIfInBounds a.size y = a.push y := by
  obtain ⟨l⟩ := a
  simp [List.set_append]
theorem seg_ind {M : Model} {A : Around} {R : GenEnd} {Y : Protocol} {c : Code} {t : Sem Fin} {fs : List Frame} (Φ : List Int → Nat → Shared → Shared → Prop)
    (nil : ∀ n s₀ s, Φ [] n s₀ s → Seg M A R Y n s₀ c t fs s)
    (cons : ∀ x r, (∀ n s₀ s, Φ r n s₀ s → Seg M A R Y n s₀ c t fs s) → ∀ n s₀ s, Φ (x :: r) n s₀ s → Seg M A R Y n s₀ c t fs s) :
    ∀ (sfx : List Int) (n : Nat) (s₀ s : Shared), Φ sfx n s₀ s → Seg M A R Y n s₀ c t fs s
  | [] => nil
  | x :: r => cons x r (seg_ind Φ nil cons r)
theorem seg_indN {M : Model} {A : Around} {R : GenEnd} {Y : Protocol} {c : Code} {t : Sem Fin} {fs : List Frame} (Φ : Nat → Shared → Shared → Prop)
    (succ : ∀ n, (∀ s₀ s, Φ n s₀ s → 0 < n → Seg M A R Y n s₀ c t fs s) → ∀ s₀ s, Φ (n + 1) s₀ s → Seg M A R Y (n + 1) s₀ c t fs s) :
    ∀ (n : Nat) (s₀ s : Shared), Φ n s₀ s → 0 < n → Seg M A R Y n s₀ c t fs s
  | 0 => fun _ _ _ h => absurd h (Nat.lt_irrefl 0)
  | n + 1 => fun s₀ s h _ => succ n (seg_indN Φ succ n) s₀ s h
noncomputable def LastIs : Option Int → Value → Prop
  | none, v => v = .none
  | some y, v => ∃ t, v = .int y t
abbrev mG (l : Addr) (vl : Option Value) (lv : Value) : Str → Option Value := fun y => if y = Str.ofString "interval" then vl else if y = Str.ofString "last_interval" then some lv else if y = Str.ofString "grouping" then some (.ref l) else none
theorem ints_drop {x : Int} {r : List Int} : ∀ {vs : List Value} {ns : List Int}, IntsAre vs ns → ∀ {i : Nat}, ns.drop i = x :: r → (∃ t, vs.toArray[i]? = some (.int x t)) ∧ ns.drop (i + 1) = r
  | _, _, .nil, i, h => by simp at h
  | _, _, .cons y t a, 0, h => by
    simp only [List.drop_zero, List.cons.injEq] at h
    obtain ⟨rfl, rfl⟩ := h
    exact ⟨⟨t, by simp⟩, by simp⟩
  | _, _, .cons y t a, i + 1, h => by
    simp only [List.drop_succ_cons] at h ⊢
    obtain ⟨⟨t', e⟩, e'⟩ := ints_drop a h
    exact ⟨⟨t', by simpa using e⟩, e'⟩
theorem ints_end {vs : List Value} {ns : List Int} (a : IntsAre vs ns) {i : Nat} (h : ns.drop i = []) : vs.toArray[i]? = none := by
  have h1 : ns.length ≤ i := List.drop_eq_nil_iff.mp h
  have h2 := a.length
  simp
  omega
noncomputable def firsts (val : Nat → Int) (N j : Nat) : List Int := (List.range j).map fun i => val (N - 1 - i)
noncomputable def TG (s : Shared) (L' D : Addr) (mp : Option Value → Str → Option Value) (val : Nat → Int) (N j : Nat) (G : Addr) (og : Obj) (gs : GenState) (rest : List (Addr × Obj)) (R : Result → Shared → Prop) (f : Flow) (s₃ : Shared) : Prop :=
  (f = .next ∧ j + 1 ≤ 5 ∧ ∃ h tk c ys vl, s₃ = { s with heap := h, toks := tk, gens := s.gens.push gs } ∧ Fr s.heap L' h (mp vl) ∧ News s.heap L' h ((D, listOf (List.toArray ys) c) :: (G, og) :: rest) ∧ IntsAre ys (firsts val N (j + 1))) ∨ (f = .brk ∧ R (.ok .next) s₃)
theorem not_liter_list {its : Array Value} {c : Nat} : ¬ LIter (listOf its c) := fun ⟨l, i, e⟩ => by cases e
theorem loopG {prog : Program} {w : World} {A : Around} {env : Env} {target : Expr} {body : List Stmt} {R : Result → Shared → Prop} {s : Shared} {L' D G Lg : Addr} {og oL : Obj} {mp : Option Value → Str → Option Value} {val : Nat → Int} {N : Nat} {fin : Bool}
    {h₂ : Heap} {tk₂ : Nat} {gs₀ : GenState} {vl₀ : Option Value}
    (hh : A.handled = none) (hroom : A.depth < recursionLimit) (hlim : s.heap.NoLimit) (hf : fin = true → N ≤ 5) (hf' : fin = false → N = 6)
    (F₀ : Fr s.heap L' h₂ (mp vl₀)) (N₀ : News s.heap L' h₂ ((D, listOf (List.toArray []) 0) :: (G, og) :: [(Lg, oL)])) (hg : h₂.IsGen G s.gens.size) (hGl : ¬ LIter og) (hLg : L' ≠ Lg) (hDLg : D ≠ Lg)
    (hb₀ : gs₀.bare = true)
    (go₀ : ∀ s'' : Shared, s.heap.StaysIn s''.heap → (∀ q ∈ [(Lg, oL)], s''.heap.get? q.1 = some q.2) → gs₀.Goes (model prog w) A.in1 (RP s.heap [L', D, G]) (YP s.heap [L', D, G] Lg val fin) N (.send .none) s'')
    (turn : ∀ j h tk gs rest c ys vl t, j < N → j ≤ 5 → Fr s.heap L' h (mp vl) → News s.heap L' h ((D, listOf (List.toArray ys) c) :: (G, og) :: rest) → (∀ q ∈ rest, q.1 ≠ D) → IntsAre ys (firsts val N j) → gs.bare = true →
      wpAny (model prog w) A (assign target env (.int (val (N - 1 - j)) t)) (fun _ s₂ => wpAny (model prog w) A (execs body env) (TG s L' D mp val N j G og gs rest R)
        (notedBy (model prog w) A env fun e s' => R (.error e) s') s₂) (notedBy (model prog w) A env fun e s' => R (.error e) s') { s with heap := h, toks := tk, gens := s.gens.push gs })
    (done : ∀ h tk c ys vl x, x.bare = true → Fr s.heap L' h (mp vl) → News s.heap L' h [(D, listOf (List.toArray ys) c)] → IntsAre ys (firsts val N N) → N ≤ 5 → R (.ok .next) { s with heap := h, toks := tk, gens := s.gens.push x })
    (ht : ∀ v, letOwnedTupleGo target (.ref G) v = pure () := by intro _; rfl) :
    codeAny (model prog w) A (.forLoop target (.ref G) body [] env) R { s with heap := h₂, toks := tk₂, gens := s.gens.push gs₀ } := by
  have hGo : h₂.get? G = some og := (N₀ _ (.tail _ (.head _))).1
  have hgen : ∀ h : Heap, h.get? G = some og → h.IsGen G s.gens.size := by
    intro h e
    obtain ⟨o, nm, qn, e', r⟩ := hg
    rw [hGo] at e'
    cases e'
    exact ⟨og, nm, qn, e, r⟩
  refine codeAny_forLoop (fun k s' => ∃ j h tk gs rest c ys vl, k = N + 1 - j ∧ j ≤ 5 ∧ j ≤ N ∧ s' = { s with heap := h, toks := tk, gens := s.gens.push gs } ∧ Fr s.heap L' h (mp vl) ∧ News s.heap L' h ((D, listOf (List.toArray ys) c) :: (G, og) :: rest) ∧ (∀ q ∈ rest, q.1 ≠ D) ∧ IntsAre ys (firsts val N j) ∧ gs.bare = true ∧
      (∀ s'' : Shared, s.heap.StaysIn s''.heap → (∀ q ∈ rest, s''.heap.get? q.1 = some q.2) → gs.Goes (model prog w) A.in1 (RP s.heap [L', D, G]) (YP s.heap [L', D, G] Lg val fin) (N - j) (.send .none) s'')) ?_ (N + 1)
    ⟨0, h₂, tk₂, gs₀, [(Lg, oL)], 0, [], vl₀, rfl, Nat.zero_le _, Nat.zero_le _, rfl, F₀, N₀, (fun q hq => by rw [List.mem_singleton.mp hq]; exact Ne.symm hDLg), .nil, hb₀, go₀⟩ ht
  rintro k s' ⟨j, h, tk, gs, rest, c, ys, vl, rfl, hj5, hjN, rfl, F, N', hrD, hys, hb, go⟩
  have moved : ∀ h' : Heap, s.heap.StaysIn h' → (∀ b ∈ [L', D, G], ∀ o, ¬ LIter o → h.get? b = some o → h'.get? b = some o) → Fr s.heap L' h' (mp vl) ∧ (∀ q ∈ [(D, listOf (List.toArray ys) c), (G, og)], h'.get? q.1 = some q.2 ∧ q.1 ≠ L' ∧ s.heap.get? q.1 = none) := by
    intro h' ks km
    refine ⟨⟨?_, ks, F.above⟩, ?_⟩
    · obtain ⟨o, es, ep, e, hd, r⟩ := F.ns
      exact ⟨o, es, ep, km _ (.head _) _ (fun ⟨l, i, e'⟩ => by rw [hd] at e'; cases e') e, hd, r⟩
    · intro q hq
      rcases List.mem_cons.mp hq with rfl | hq
      · exact ⟨km _ (.tail _ (.head _)) _ not_liter_list (N' _ (.head _)).1, (N' _ (.head _)).2⟩
      · rw [List.mem_singleton.mp hq]
        exact ⟨km _ (.tail _ (.tail _ (.head _))) _ hGl (N' _ (.tail _ (.head _))).1, (N' _ (.tail _ (.head _))).2⟩
  have hgs : (s.gens.push gs)[s.gens.size]? = some gs := Array.getElem?_push_size
  have goes := go ({ s with heap := h, toks := tk, gens := s.gens.push gs } : Shared) F.keep (fun q hq => (N' q (.tail _ (.tail _ hq))).1)
  have goes' := go (({ s with heap := h, toks := tk, gens := s.gens.push gs } : Shared).setGen s.gens.size .running) F.keep (fun q hq => (N' q (.tail _ (.tail _ hq))).1)
  by_cases hlt : j < N
  · obtain ⟨m, hm⟩ : ∃ m, N - j = m + 1 := ⟨N - j - 1, by omega⟩
    rw [hm] at goes'
    refine next_gen (n := m + 1) (P := fun n s₀ s₁ => n = 0 ∧ MovedG s.heap [L', D, G] s₀ s₁) hh (hlim.keeps F.keep) hroom (hgen _ (N' _ (.tail _ (.head _))).1) hgs goes' ?_ (fun s₁ hp => absurd hp.1 (by omega))
    rintro v s₁ gs' hb' ⟨t, rest', rfl, ⟨h', tk', rfl, kg, km⟩, hr, go'⟩
    obtain ⟨F', N2⟩ := moved h' kg km
    have e : (({ (({ s with heap := h, toks := tk, gens := s.gens.push gs } : Shared).setGen s.gens.size .running) with heap := h', toks := tk' } : Shared).setGen s.gens.size gs') = { s with heap := h', toks := tk', gens := s.gens.push gs' } := by
      simp only [Shared.setGen, push_set]
    rw [e]
    have hrL : ∀ q ∈ rest', q.1 ≠ L' ∧ q.1 ≠ D := by
      intro q hq
      obtain ⟨a1, a2, a3⟩ := hr q hq
      rcases a3 with a3 | ⟨l, i, a3⟩
      · exact ⟨a3 ▸ hLg.symm, a3 ▸ hDLg.symm⟩
      · refine ⟨fun e => ?_, fun e => ?_⟩
        · obtain ⟨o, es, ep, e', hd, r⟩ := F'.ns
          rw [e, e'] at a1
          cases a1
          rw [hd] at a3; cases a3
        · rw [e, (N2 _ (.head _)).1] at a1
          exact not_liter_list ⟨l, i, (Option.some.inj a1) ▸ a3⟩
    have N3 : News s.heap L' h' ((D, listOf (List.toArray ys) c) :: (G, og) :: rest') := by
      intro q hq
      rcases List.mem_cons.mp hq with rfl | hq
      · exact N2 _ (.head _)
      · rcases List.mem_cons.mp hq with rfl | hq
        · exact N2 _ (.tail _ (.head _))
        · exact ⟨(hr q hq).1, (hrL q hq).1, (hr q hq).2.1⟩
    have hv : m + 1 - 1 = N - 1 - j := by omega
    rw [hv]
    refine wpAny_mono (turn j h' tk' gs' rest' c ys vl t hlt hj5 F' N3 (fun q hq => (hrL q hq).2) hys hb') (fun _ s₂ h₂ => wpAny_mono h₂ (fun f s₃ h₃ => ?_) fun _ _ e => e) fun _ _ e => e
    rcases h₃ with ⟨rfl, hj', h4, tk4, c4, ys4, vl4, rfl, F4, N4, hys4⟩ | ⟨rfl, h₃⟩
    · refine ⟨N + 1 - (j + 1), by omega, j + 1, h4, tk4, gs', rest', c4, ys4, vl4, rfl, hj', hlt, rfl, F4, N4, (fun q hq => (hrL q hq).2), hys4, hb', fun s'' k1 k2 => ?_⟩
      have hm' : N - (j + 1) = m := by omega
      rw [hm']
      refine go' (fun h0 => ?_) s'' k1 k2
      cases hfin : fin with
      | true => rfl
      | false => have := hf' hfin; omega
    · exact h₃
  · have hjN' : j = N := by omega
    subst hjN'
    have hfin : fin = true := by
      cases hfin : fin with
      | true => rfl
      | false => have := hf' hfin; omega
    rw [Nat.sub_self] at goes'
    refine next_gen (n := 0) (P := fun n s₀ s₁ => n = 0 ∧ MovedG s.heap [L', D, G] s₀ s₁) hh (hlim.keeps F.keep) hroom (hgen _ (N' _ (.tail _ (.head _))).1) hgs goes' ?_ ?_
    · rintro v s₁ gs' hb' ⟨t, rest', rfl, ⟨h', tk', rfl, kg, km⟩, hr, go'⟩
      obtain ⟨F', N2⟩ := moved h' kg km
      exact (go' (fun _ => hfin) { s with heap := h' } F'.keep (fun q hq => (hr q hq).1)).elim
    · rintro s₁ ⟨-, h', tk', rfl, kg, km⟩ h5 k5
      obtain ⟨F', N2⟩ := moved h' kg km
      have e : ({ (({ (({ s with heap := h, toks := tk, gens := s.gens.push gs } : Shared).setGen s.gens.size .running) with heap := h', toks := tk' } : Shared).setGen s.gens.size .finished) with heap := h5 } : Shared) = { s with heap := h5, toks := tk', gens := s.gens.push .finished } := by
        simp only [Shared.setGen, push_set]
      rw [e]
      exact wpAny_execs_nil (done h5 tk' c ys vl .finished rfl ⟨F'.ns.at fun o e => k5 _ _ e, fun b o e => k5 _ _ (F'.keep b o e), F'.above⟩ (fun q hq => by rw [List.mem_singleton.mp hq]; exact ⟨k5 _ _ (N2 _ (.head _)).1, (N2 _ (.head _)).2⟩) hys hj5)
end Tc

namespace Tc
theorem con_enterC {p pp : Program} {w : World} {K : Frag} {loose : List Str} {mean : ExcName → Option Value} {mg mb : Str → Option Value} {dp un : Nat} {gd : Option (List Code)} {base : Heap} {outer : List Env} {s : Shared} {Q E : Value → Shared → Prop}
    {name qual : Str} {params : Arguments} {body : List Stmt} {scope : Scope} {dV kV doc pm cdv ct oc : Value} {an od : Option Addr} {osl : Array (Option Value)} {f : Addr} {args : Args} {binds : List (Str × Value)}
    (_B : Below (aroundOf dp un gd outer) base outer s.heap) (X : K.In s.heap) (T : Top pp loose mean mg mb s.heap)
    (ho : K.lookup f = some ⟨oc, od, .func (fnOf name qual params body scope dV kV doc pm an cdv ct), osl⟩) (hcd : codeIn K cdv qual = true) (hroom : dp < recursionLimit)
    (hbind : BindsTo s (fnOf name qual params body scope dV kV doc pm an cdv ct) args binds)
    (hkind : (binds.all fun y => scope.names.lookup y.1 == some .local || scope.names.lookup y.1 == some .cell) = true)
    (hnd : ((cellsFrom 0 scope.names []).map (·.1)).Nodup)
    (h : ∀ L' h₁ tk cells, Fr s.heap L' h₁ (bindL (envOfC qual scope L' f cdv).kindOf binds fun _ => none) → News s.heap L' h₁ cells →
      CellsAre (bindC (envOfC qual scope L' f cdv).kindOf binds fun _ => none) (cellsFrom (L' + 1) scope.names []) cells →
      wpAny (model p w) ((aroundOf dp un gd outer).deeper (envOfC qual scope L' f cdv)) (execs body (envOfC qual scope L' f cdv))
        (fun fl s' => Q (match fl with | .ret v => v | _ => .none) s') (fun _ _ => False)
        { s with heap := h₁, toks := tk })
    (hco : scope.isCoroutine = false) (hgen : scope.isGenerator = false) (hk : scope.kind = .function) : codeAny (model p w) (aroundOf dp un gd outer) (.call (.ref f) args) (fun r s' => match r with | .ok (.ret v) => Q v s' | .ok _ => False | .error e => E e s') s := by
  refine codeAny_call_function hroom (X _ _ ho) rfl hco hgen rfl (codeRec_of X hcd) (hbind _ _ _ _ ?_)
  refine wpAny_newFunctionEnv_cells hk (kindsX hkind _) fun env' he s' x => ?_
  subst he
  refine ⟨(T.nolimit).keeps x.toInCall.keep, codeAny_func ?_⟩
  obtain ⟨h₁, tk, rfl, _⟩ := x.done
  have hk₁ := x.toInCall.keep
  obtain ⟨cells, NC, Y⟩ := Cl.news (h₀ := s.heap) (Nat.le_refl _) fun n c hm => ⟨x.cell n c (lookup_of_mem_nodup (cellsFrom_names scope.names 0 (s.heap.objs.size + 1) [] [] rfl ▸ hnd) hm), x.above n c hm⟩
  exact wpAny_mono (h s.heap.objs.size h₁ tk cells ⟨x.toInCall.ns, hk₁, Nat.le_refl _⟩ NC Y) (fun fl s' hl => hl) fun _ _ y => y.elim
section
variable {prog : Program} {w : World} {A : Around} {E : Value → Shared → Prop} {s : Shared} {a b : List Nat} {t u : Tok} {Q : Value → Shared → Prop}
theorem app_mk (a b : List Nat) : ((⟨a.toArray⟩ : Str) ++ ⟨b.toArray⟩) = ⟨(a ++ b).toArray⟩ := by
  show Str.mk _ = _
  simp
theorem add_strL (hs : a.length + b.length ≤ 1000000) (h : ∀ t' k, Q (.str ⟨(a ++ b).toArray⟩ t') { s with toks := k }) : wpAny (model prog w) A (binaryOp .Add (.str ⟨a.toArray⟩ t) (.str ⟨b.toArray⟩ u)) Q E s := by
  refine KOpn.add (by rw [len_mk, len_mk]; omega) fun t' k _ => ?_
  rw [app_mk]
  exact h t' k
theorem mul_blank {n : Nat} (hn : n ≤ 1000) (h : ∀ t' k, Q (.str ⟨(List.replicate n 32).toArray⟩ t') { s with toks := k }) : wpAny (model prog w) A (binaryOp .Mult (.str (Str.ofString " ") t) (.int (n : Int) u)) Q E s := by
  refine KXi.mul (n := 1) rfl (by decide) (by omega) (by omega) fun t' k _ _ => ?_
  have e : Txt.mul (Str.ofString " ") (n : Int) = ⟨(List.replicate n 32).toArray⟩ := by
    have h1 := mul_one_list 32 (n : Int)
    show Txt.mul ⟨#[32]⟩ (n : Int) = _
    rw [Int.toNat_natCast] at h1
    rw [← h1]
  rw [e]
  exact h t' k
theorem upper_strL (hz : a.length ≤ 1000) (hA : ∀ c ∈ a, c < 128) (h : ∀ k, Q (.str ⟨(a.map PyProof.Rows.up1).toArray⟩ s.toks) { s with toks := k }) : wpAny (model prog w) A (call (.builtin "str.upper") [.str ⟨a.toArray⟩ t]) Q E s := by
  refine SCL.upper (by rw [len_mk]; omega) fun _ => ?_
  rw [upper_ascii (by simpa using hA)]
  simpa using h _
end
end Tc
namespace Tc
noncomputable def grownIn (sh lo : List Nat) : Bool := (List.range (sh.length + 1)).any fun i => lo.take i ++ lo.drop (i + (lo.length - sh.length)) == sh
noncomputable def grownOf (a b : List Nat) : Bool := if a.length < b.length then grownIn a b else grownIn b a
theorem cl_add {p q n : Nat} (h : p + q ≤ n) : cl ((p : Int) + (q : Int)) n = p + q := by unfold cl; omega
noncomputable def cutOf (lo : List Nat) (d : Nat) (k : Int) : Str := ⟨(lo.take k.toNat ++ lo.drop (k.toNat + d)).toArray⟩
theorem strs_of : ∀ {ys : List Value} {l : List Str}, CarriedAll ys (l.map PyData.str) → StrsAre ys l
  | [], [], _ => .nil
  | [], _ :: _, h => by cases h
  | _ :: _, [], h => by cases h
  | y :: ys, x :: l, h => by
    cases h with
    | cons h1 h2 =>
      cases h1
      exact .cons _ _ (strs_of h2)
theorem grown_any (sh lo : List Nat) : (((rangeKs 0 (sh.length + 1)).map fun k => PyData.str (cutOf lo (lo.length - sh.length) k)).any (datHitsStr (⟨sh.toArray⟩ : Str))) = grownIn sh lo := by
  unfold grownIn rangeKs
  rw [List.map_map, List.any_map]
  congr 1
  funext i
  have e : datHitsStr (⟨sh.toArray⟩ : Str) (PyData.str (cutOf lo (lo.length - sh.length) (0 + (i : Int)))) = (cutOf lo (lo.length - sh.length) (0 + (i : Int)) == ⟨sh.toArray⟩) := by
    simp [datHitsStr]
  show datHitsStr _ (PyData.str (cutOf lo (lo.length - sh.length) (0 + (i : Int)))) = _
  rw [e, Int.zero_add, cutOf, Int.toNat_natCast, str_beq]
end Tc
namespace Tc
theorem up_s (a : Nat) : a < a + 1 := Nat.lt_succ_self a
theorem up_t {a b : Nat} (h : a < b) : a < b + 1 := Nat.lt_succ_of_lt h
end Tc

section
namespace Tc
variable {prg : Program}
local macro_rules | `(tactic| walk_at $s:str) => `(tactic| k_extra $s)
local macro_rules | `(tactic| omega) => `(tactic| k_extra "tc:omega")
local macro_rules | `(tactic| k_ne) => `(tactic| k_extra "tc:ne")
local macro_rules | `(tactic| k_all) => `(tactic| k_extra "tc:all")
example : True := by
  k_with_none
  k_with "tc:enter" => (
    refine wpAny_call ?_
    k_dflt (refine' con_enter (by assumption) (by assumption) (by assumption) ?zzk1 ?zzk2 ?zzk3 ?zzk4 ?zzk5 ?_ ?zzc1 ?zzc2 ?zzc3 ?zzc4; (case zzk1 => k_is); (case zzk2 => k_is); (case zzk3 => omega); (case zzk4 => first | exact BindsTo.of_eq rfl | exact kp_binds (by assumption) (fun _ => rfl)); (case zzc4 => decide); (case zzk5 => exact locs rfl); (case zzc1 => exact rfl); (case zzc2 => exact rfl); (case zzc3 => exact rfl); k_whole))
  k_with "tc:len" => (first | omega | ((try simp only [List.length_drop, List.length_take, List.length_append, List.length_cons, List.length_nil, List.length_reverse]); omega))
  k_with "tc:cl" => (first
    | exact cl_nat (by k_extra "tc:len")
    | exact cl_neg (by k_extra "tc:len")
    | exact cl_succ (by k_extra "tc:len")
    | exact cl_min _ _)
  k_with "subscriptTail Name Slice str ref" => (k_here; (with_reducible rename Fr _ _ _ _ => zzkF); (with_reducible rename News _ _ _ _ => zzkN); (with_reducible (first
    | (refine' sl_sn (s := ⟨_, _, _, _, _⟩) zzkF zzkN ?zzz ?zze ?_; (case zzz => k_extra "tc:len"); (case zze => k_extra "tc:cl"); k_whole; intro _ _ _ _ _ _)
    | (refine' sl_ns (s := ⟨_, _, _, _, _⟩) zzkF zzkN ?zzz ?zze ?_; (case zzz => k_extra "tc:len"); (case zze => k_extra "tc:cl"); k_whole; intro _ _ _ _ _ _)
    | (refine' sl_nn (s := ⟨_, _, _, _, _⟩) zzkF zzkN ?zzz ?_; (case zzz => k_extra "tc:len"); k_whole; intro _ _ _ _ _)
    | (refine' sl_ss (s := ⟨_, _, _, _, _⟩) zzkF zzkN ?zzz ?zze ?zzf ?_; (case zzz => k_extra "tc:len"); (case zze => k_extra "tc:cl"); (case zzf => k_extra "tc:cl"); k_whole; intro _ _ _ _ _ _))); (try k_sweep))
  k_with "tc:item" => (k_here; (with_reducible show wpAny _ _ (subscriptTail _ _ (Value.str (Str.mk (List.toArray _)) _) (Value.int _ _)) _ _ _); (with_reducible refine it_str ?zzz ?zza ?zzb ?_); (case zzz => k_extra "tc:len"); (case zza => k_extra "tc:len"); (case zzb => k_extra "tc:len"); k_whole; intro _)
  k_with "subscriptTail Name Name str int" => (k_extra "tc:item")
  k_with "subscriptTail Name BinOp str int" => (k_extra "tc:item")
  k_with "subscriptTail Name Constant str int" => (k_extra "tc:item")
  k_with "subscriptTail Constant Call str int" => (k_extra "tc:item")
  k_with "truthy str" => (k_here; (with_reducible show wpAny _ _ (PySem.truthy (Value.str (Str.mk (List.toArray _)) _)) _ _ _); (refine tr_str ?zzz ?_ ?_; (case zzz => k_extra "tc:len"); (all_goals intro _ _); (all_goals (try (exfalso; omega)))))
  k_with "call builtin:len" => (k_here; (with_reducible show wpAny _ _ (call (Value.builtin "len") [Value.str (Str.mk (List.toArray _)) _]) _ _ _); k_dflt (refine' len_strL ?zzz ?_; (case zzz => k_extra "tc:len"); intro _))
  k_with "eval Name local" => (fail "none")
  k_with "exec While BoolOp cons nil" => (refine Hold.mk ?_)
  k_with "exec If Compare cons nil" => ((with_reducible show wpAny _ _ (exec (Stmt.If _ [Stmt.Assign [Expr.Tuple _ _ _] _ _] [] _) _) _ _ _); refine Hold.mk ?_)
  k_with "pyIter ref" => (k_here; (with_reducible show wpAny _ _ (pyIter (Value.ref _)) (fun it s₂ => LoopAtV _ _ _ _ _ _ _ _ _ it s₂) _ _); refine Hold.mk ?_)
  k_with "exec For Name Call cons nil" => (k_here; (rename Fr _ _ _ _ => zzlF'); (with_unfolding_all refine' For_invVF zzlF' ?zzk1 ?zzk2 ?_; (case zzk1 => exact rfl); (case zzk2 => exact rfl); k_whole))
  k_with "call type:list" => ((with_reducible show wpAny _ _ (call (Value.type "list") [Value.ref _]) _ _ _); refine Hold.mk ?_)
  k_with "tc:dep" => (first | omega | ((simp only [Around.deeper, Around.in1, aroundOf] at *); omega) | (dsimp only [Around.deeper, Around.in1, aroundOf]; omega))
  k_with "tc:own" => (first
    | exact OwnOff.ne (by assumption) (by simp)
    | (intro zzq zzhq; rcases List.mem_append.mp zzhq with zzhq | zzhq <;> exact OwnOff.ne (by assumption) (by simp) zzq zzhq))
  k_with "setItem ref int" => (k_here; (with_reducible show wpAny _ _ (setItem (Value.ref _) (Value.int _ _) (Value.int _ _)) _ _ _); k_dflt (refine' ksa_set ?zzk1 ?zzk2 (Upd.head ?zzk3) ?zzk4 ?zzk5 ?zzk6 ?zzk7 ?_; (case zzk1 => k_asm); (case zzk2 => k_asm); (case zzk3 => k_extra "tc:own"); (case zzk4 => with_reducible assumption); (case zzk5 => omega); (case zzk6 => omega); (case zzk7 => omega); k_whole); intro _ _ _ _ _ zzhs'; clear zzhs'; (try k_sweep))
  k_with "exec While BoolOp cons cons nil" => (refine Hold.mk ?_)
  k_with "exec While Compare cons nil" => (refine Hold.mk ?_)
  k_with "binaryOp FloorDiv int int" => (k_here; (with_reducible refine half_nat ?_))
  k_with "tc:use" => (
    (case zzB => k_asm); (case zzF => k_asm); (case zzX => k_asm); (case zzN => k_asm); (case zzT => k_asm); (case zzh1 => exact rfl); (case zzh2 => exact rfl); (case zzh3 => exact rfl); (case zzh4 => exact rfl); (case zzh5 => (dsimp only [Around.deeper, Around.in1, aroundOf]; omega)); (case zzh6 => (dsimp only [Around.deeper, Around.in1, aroundOf]; omega)))
  k_with "tc:omega" => (first
    | ((repeat (with_reducible rename @Ne Nat _ _ => zzhh; clear zzhh)); (repeat (with_reducible rename (@Ne Nat _ _) ∧ _ => zzhh; clear zzhh)); (repeat (with_reducible rename ((@Ne Nat _ _) ∧ _) ∧ _ => zzhh; clear zzhh)); omega (splitDisjunctions := true))
    | omega (splitDisjunctions := true))
  k_with "tc:pr" => ((with_reducible rename _ ∧ _ => zzhh); first
    | exact zzhh.1 | exact zzhh.1.symm | exact Nat.ne_of_lt zzhh.1 | exact Nat.ne_of_gt zzhh.1
    | exact zzhh.2 | exact zzhh.2.symm | exact Nat.ne_of_lt zzhh.2 | exact Nat.ne_of_gt zzhh.2
    | (have zzh1 := zzhh.1; have zzh2 := zzhh.2; clear zzhh; k_extra "tc:pr"))
  k_with "tc:ne" => (refine neN ?_; (try dsimp only); with_reducible (first | assumption | exact Ne.symm (by assumption) | exact Nat.ne_of_gt (by k_extra "tc:up") | exact Nat.ne_of_lt (by k_extra "tc:up") | k_extra "tc:pr"))
  k_with "tc:up" => (with_reducible (first | exact up_s _ | assumption | k_extra "tc:prl" | (refine up_t ?_; k_extra "tc:up")))
  k_with "tc:prl" => ((with_reducible rename _ ∧ _ => zzhh); first
    | exact zzhh.1 | exact zzhh.2
    | (have zzh2 := zzhh.2; clear zzhh; k_extra "tc:prl"))
  trivial

theorem quiet1 : True := by
  w_top off
  trivial
example : True := by
  k_with "call builtin:str.lower" => (k_here; (with_reducible show wpAny _ _ (call (Value.builtin "str.lower") [Value.str (Str.mk (List.toArray [_])) _]) _ _ _); (with_reducible refine call_lower1 ?zza ?_); (case zza => assumption); intro _)
  trivial
theorem subst_con (w : World) (a b : Nat) (ta tb : Tok) (ha : a < 128) (hb : b < 128) : Con prg w (hd.heap_1 w.params) 21 1 [.str ⟨#[a]⟩ ta, .str ⟨#[b]⟩ tb] (fun _ => True) (fun v _ => ∃ t, v = .int (cost a b) t) := by
  show (fun (_ : OpenLaw) => Con prg w (hd.heap_1 w.params) 21 1 [.str ⟨#[a]⟩ ta, .str ⟨#[b]⟩ tb] (fun _ => True) (fun v _ => ∃ t, v = .int (cost a b) t)) PySem.Challenge.rw_tc0007_01
  k_fill
  dsimp only
  intro pp loose mean mg mb dp un gd base outer s Q E B X T hd hu hpre hret
  k_extra "tc:enter"
  intro L' h₁ F' N'
  dsimp only
  replace F' : Fr s.heap L' h₁ (lM [(Str.ofString "ch_b", .str ⟨#[b]⟩ tb), (Str.ofString "ch_a", .str ⟨#[a]⟩ ta)]) := F'
  k_steps
  all_goals (rename Fr _ _ _ _ => F'; dsimp only)
  · have e1 := one_beq ‹_›
    exact hret _ _ _ F'.keep (p_int (by simp_all [cost]))
  · have e2 := one_beq ‹((⟨#[lo a]⟩ : Str) == ⟨#[lo b]⟩) = true›
    have e1 := one_beq ‹((⟨#[a]⟩ : Str) == ⟨#[b]⟩) = false›
    exact hret _ _ _ F'.keep (p_int (by simp_all [cost]))
  · have e2 := one_beq ‹((⟨#[lo a]⟩ : Str) == ⟨#[lo b]⟩) = false›
    have e1 := one_beq ‹((⟨#[a]⟩ : Str) == ⟨#[b]⟩) = false›
    exact hret _ _ _ F'.keep (p_int (by simp_all [cost]))

theorem bisl_con (w : World) (l : Addr) (vs : List Value) (ns : List Int) (x : Int) (lo hi : Nat) (tx t1 t2 : Tok) (hi0 : IntsAre vs ns) (hn : ns.length ≤ 1000) (hlh : lo ≤ hi) (hhi : hi ≤ ns.length)
    (hs : ∀ i j, i ≤ j → j < ns.length → ns.getD j 0 < x → ns.getD i 0 < x) :
    Con prg w (hd.heap_1 w.params) 46 1 [.ref l, .int x tx, .int (lo : Int) t1, .int (hi : Int) t2] (fun h => h.IsList l vs.toArray)
      (fun v _ => ∃ r t, v = .int ((r : Nat) : Int) t ∧ Bis (fun i => ns.getD i 0 < x) lo hi r) := by
  show (fun (_ : OpenLaw) => Con prg w (hd.heap_1 w.params) 46 1 [.ref l, .int x tx, .int (lo : Int) t1, .int (hi : Int) t2] (fun h => h.IsList l vs.toArray)
      (fun v _ => ∃ r t, v = .int ((r : Nat) : Int) t ∧ Bis (fun i => ns.getD i 0 < x) lo hi r)) PySem.Challenge.rw_tc0007_01
  k_fill
  dsimp only
  intro pp loose mean mg mb dp un gd base outer s Q E B X T hd hu hpre hret
  k_extra "tc:enter"
  intro L' h₁ F' N'
  dsimp only
  replace F' : Fr s.heap L' h₁ (lM [(Str.ofString "key", .none), (Str.ofString "hi", .int (hi : Int) t2), (Str.ofString "lo", .int (lo : Int) t1), (Str.ofString "x", .int x tx), (Str.ofString "a", .ref l)]) := F'
  k_steps
  refine Hold.of ?_
  rename Fr _ _ _ _ => F'; rename News _ _ _ _ => N'
  obtain ⟨m, hm, F'⟩ := name_fr F'
  refine while_st (σ := BS) [] (upT2 (Str.ofString "lo") (fun st => .int (st.lo : Int) st.t1) (Str.ofString "hi") (fun st => .int (st.hi : Int) st.t2) [Str.ofString "mid"] BS.e (lM [(Str.ofString "key", .none), (Str.ofString "x", .int x tx), (Str.ofString "a", .ref l)]))
    (fun st => lo ≤ st.lo ∧ st.lo ≤ st.hi ∧ st.hi ≤ hi ∧ (∀ i, lo ≤ i → i < st.lo → ns.getD i 0 < x) ∧ (∀ i, st.hi ≤ i → i < hi → ¬ ns.getD i 0 < x))
    (fun st => Bis (fun i => ns.getD i 0 < x) lo hi st.lo) (fun st => st.hi - st.lo) ⟨lo, hi, t1, t2, m⟩ (Fr_end2 F' ((congrFun hm _).trans rfl) ((congrFun hm _).trans rfl) ?_) N' ?_ ?_ ?_
  · intro y a b d
    rw [hm]
    have e1 : (y == Str.ofString "lo") = false := by simpa using a
    have e2 : (y == Str.ofString "hi") = false := by simpa using b
    show List.lookup y _ = List.lookup y _
    simp only [List.lookup_cons, e1, e2]
  · exact ⟨Nat.le_refl _, hlh, Nat.le_refl _, fun i a b => absurd b (Nat.not_lt.mpr a), fun i a b => absurd b (Nat.not_lt.mpr a)⟩
  · clear F' N' hm
    rintro ⟨p, q, tp, tq, e⟩ h tk ⟨g1, g2, g3, g4, g5⟩ F' N'
    delta upT2 at F'
    dsimp only at g1 g2 g3 g4 g5 F' N' ⊢
    replace F' : Fr s.heap L' h _ := F'
    replace N' : News s.heap L' h _ := N'
    k_steps
    all_goals (rename Fr _ _ _ _ => F'; rename News _ _ _ _ => N')
    · obtain ⟨m, hm, F'⟩ := name_fr F'
      rename ns.getD _ 0 < x => hc
      rw [Int.toNat_natCast] at hc
      refine Re.intro ⟨(p + q) / 2 + 1, q, _, tq, m⟩ (Fr_end2 F' ((congrFun hm _).trans rfl) ((congrFun hm _).trans rfl) ?_) N' ⟨⟨by show lo ≤ (p + q) / 2 + 1; omega, by show (p + q) / 2 + 1 ≤ q; omega, g3, Bis_below (p := (· < x)) hs (by omega) hc, g5⟩, by show q - ((p + q) / 2 + 1) < q - p; omega⟩
      intro y a b d
      rw [hm]
      simp only [if_neg a, if_neg b, if_neg (tmpc d (x := Str.ofString "mid") (by decide)), if_neg d]
    · obtain ⟨m, hm, F'⟩ := name_fr F'
      rename ¬ ns.getD _ 0 < x => hc
      rw [Int.toNat_natCast] at hc
      refine Re.intro ⟨p, (p + q) / 2, tp, _, m⟩ (Fr_end2 F' ((congrFun hm _).trans rfl) ((congrFun hm _).trans rfl) ?_) N' ⟨⟨g1, by show p ≤ (p + q) / 2; omega, by show (p + q) / 2 ≤ hi; omega, g4, Bis_above (p := (· < x)) hs hhi hc⟩, by show (p + q) / 2 - p < q - p; omega⟩
      intro y a b d
      rw [hm]
      simp only [if_neg a, if_neg b, if_neg (tmpc d (x := Str.ofString "mid") (by decide)), if_neg d]
    · exact Re.intro ⟨p, q, tp, tq, e⟩ F' N' ⟨g1, by show p ≤ hi; omega, g4, fun i (a : p ≤ i) b => g5 i (by omega) b⟩
  · clear F' N' hm
    rintro ⟨p, q, tp, tq, e⟩ h tk hB F' N'
    delta upT2 at F'
    dsimp only at hB F' N' ⊢
    replace F' : Fr s.heap L' h _ := F'
    replace N' : News s.heap L' h _ := N'
    k_steps
    rename Fr _ _ _ _ => F'
    dsimp only
    exact hret _ _ _ F'.keep ⟨_, _, rfl, hB⟩

theorem bisr_con (w : World) (l : Addr) (vs : List Value) (ns : List Int) (x : Int) (lo hi : Nat) (tx t1 t2 : Tok) (hi0 : IntsAre vs ns) (hn : ns.length ≤ 1000) (hlh : lo ≤ hi) (hhi : hi ≤ ns.length)
    (hs : ∀ i j, i ≤ j → j < ns.length → ¬ x < ns.getD j 0 → ¬ x < ns.getD i 0) :
    Con prg w (hd.heap_1 w.params) 37 1 [.ref l, .int x tx, .int (lo : Int) t1, .int (hi : Int) t2] (fun h => h.IsList l vs.toArray)
      (fun v _ => ∃ r t, v = .int ((r : Nat) : Int) t ∧ Bis (fun i => ¬ x < ns.getD i 0) lo hi r) := by
  show (fun (_ : OpenLaw) => Con prg w (hd.heap_1 w.params) 37 1 [.ref l, .int x tx, .int (lo : Int) t1, .int (hi : Int) t2] (fun h => h.IsList l vs.toArray)
      (fun v _ => ∃ r t, v = .int ((r : Nat) : Int) t ∧ Bis (fun i => ¬ x < ns.getD i 0) lo hi r)) PySem.Challenge.rw_tc0007_01
  k_fill
  dsimp only
  intro pp loose mean mg mb dp un gd base outer s Q E B X T hd hu hpre hret
  k_extra "tc:enter"
  intro L' h₁ F' N'
  dsimp only
  replace F' : Fr s.heap L' h₁ (lM [(Str.ofString "key", .none), (Str.ofString "hi", .int (hi : Int) t2), (Str.ofString "lo", .int (lo : Int) t1), (Str.ofString "x", .int x tx), (Str.ofString "a", .ref l)]) := F'
  k_steps
  refine Hold.of ?_
  rename Fr _ _ _ _ => F'; rename News _ _ _ _ => N'
  obtain ⟨m, hm, F'⟩ := name_fr F'
  refine while_st (σ := BS) [] (upT2 (Str.ofString "lo") (fun st => .int (st.lo : Int) st.t1) (Str.ofString "hi") (fun st => .int (st.hi : Int) st.t2) [Str.ofString "mid"] BS.e (lM [(Str.ofString "key", .none), (Str.ofString "x", .int x tx), (Str.ofString "a", .ref l)]))
    (fun st => lo ≤ st.lo ∧ st.lo ≤ st.hi ∧ st.hi ≤ hi ∧ (∀ i, lo ≤ i → i < st.lo → ¬ x < ns.getD i 0) ∧ (∀ i, st.hi ≤ i → i < hi → ¬ ¬ x < ns.getD i 0))
    (fun st => Bis (fun i => ¬ x < ns.getD i 0) lo hi st.lo) (fun st => st.hi - st.lo) ⟨lo, hi, t1, t2, m⟩ (Fr_end2 F' ((congrFun hm _).trans rfl) ((congrFun hm _).trans rfl) ?_) N' ?_ ?_ ?_
  · intro y a b d
    rw [hm]
    have e1 : (y == Str.ofString "lo") = false := by simpa using a
    have e2 : (y == Str.ofString "hi") = false := by simpa using b
    show List.lookup y _ = List.lookup y _
    simp only [List.lookup_cons, e1, e2]
  · exact ⟨Nat.le_refl _, hlh, Nat.le_refl _, fun i a b => absurd b (Nat.not_lt.mpr a), fun i a b => absurd b (Nat.not_lt.mpr a)⟩
  · clear F' N' hm
    rintro ⟨p, q, tp, tq, e⟩ h tk ⟨g1, g2, g3, g4, g5⟩ F' N'
    delta upT2 at F'
    dsimp only at g1 g2 g3 g4 g5 F' N' ⊢
    replace F' : Fr s.heap L' h _ := F'
    replace N' : News s.heap L' h _ := N'
    k_steps
    all_goals (rename Fr _ _ _ _ => F'; rename News _ _ _ _ => N')
    · obtain ⟨m, hm, F'⟩ := name_fr F'
      rename x < ns.getD _ 0 => hc
      rw [Int.toNat_natCast] at hc
      refine Re.intro ⟨p, (p + q) / 2, tp, _, m⟩ (Fr_end2 F' ((congrFun hm _).trans rfl) ((congrFun hm _).trans rfl) ?_) N' ⟨⟨g1, by show p ≤ (p + q) / 2; omega, by show (p + q) / 2 ≤ hi; omega, g4, Bis_above (p := fun y => ¬ x < y) hs hhi (fun e => e hc)⟩, by show (p + q) / 2 - p < q - p; omega⟩
      intro y a b d
      rw [hm]
      simp only [if_neg a, if_neg b, if_neg (tmpc d (x := Str.ofString "mid") (by decide)), if_neg d]
    · obtain ⟨m, hm, F'⟩ := name_fr F'
      rename ¬ x < ns.getD _ 0 => hc
      rw [Int.toNat_natCast] at hc
      refine Re.intro ⟨(p + q) / 2 + 1, q, _, tq, m⟩ (Fr_end2 F' ((congrFun hm _).trans rfl) ((congrFun hm _).trans rfl) ?_) N' ⟨⟨by show lo ≤ (p + q) / 2 + 1; omega, by show (p + q) / 2 + 1 ≤ q; omega, g3, Bis_below (p := fun y => ¬ x < y) hs (by omega) hc, g5⟩, by show q - ((p + q) / 2 + 1) < q - p; omega⟩
      intro y a b d
      rw [hm]
      simp only [if_neg a, if_neg b, if_neg (tmpc d (x := Str.ofString "mid") (by decide)), if_neg d]
    · exact Re.intro ⟨p, q, tp, tq, e⟩ F' N' ⟨g1, by show p ≤ hi; omega, g4, fun i (a : p ≤ i) b => g5 i (by omega) b⟩
  · clear F' N' hm
    rintro ⟨p, q, tp, tq, e⟩ h tk hB F' N'
    delta upT2 at F'
    dsimp only at hB F' N' ⊢
    replace F' : Fr s.heap L' h _ := F'
    replace N' : News s.heap L' h _ := N'
    k_steps
    rename Fr _ _ _ _ => F'
    dsimp only
    exact hret _ _ _ F'.keep ⟨_, _, rfl, hB⟩

example : True := by
  k_with "call ref" => (k_here; (with_reducible show wpAny _ _ (call (Value.ref _) [Value.int _ _]) _ _ _); k_dflt (refine' key_use ?zzH ?zzhi ?zzhp ?zzB ?zzF ?zzX ?zzN ?zzT ?zzh1 ?zzh2 ?zzh3 ?zzh4 ?zzh5 ?zzh6 ?_; (case zzH => k_asm); k_extra "tc:use"; (case zzhi => omega); (case zzhp => k_asm)); intro _ _ _ _ _; (try dsimp only); (try k_sweep))
  k_with "callWith ref" => (k_here; k_dflt (refine' callWith_F ?zzk1 ?_; (case zzk1 => exact key_fn (by assumption) (by assumption) (by assumption)); k_whole))
  k_with "FnAt" => (exact key_fn (by assumption) (by assumption) (by assumption))
  trivial

theorem biskl_con (w : World) (l : Addr) (vs : List Value) (ns : List Int) (x : Int) (lo hi : Nat) (tx t1 t2 : Tok) (hi0 : IntsAre vs ns) (hn : ns.length ≤ 1000) (hlh : lo ≤ hi) (hhi : hi ≤ ns.length)
    (kf : Addr) (pre : Heap → Prop) (g : Int → Int) (hkey : KeyCon prg w (hd.heap_1 w.params) kf pre g ns)
    (hs : ∀ i j, i ≤ j → j < ns.length → g (ns.getD j 0) < x → g (ns.getD i 0) < x) :
    ConK prg w (hd.heap_1 w.params) 46 2 [.ref l, .int x tx, .int (lo : Int) t1, .int (hi : Int) t2] [(Str.ofString "key", .ref kf)] (fun h => h.IsList l vs.toArray ∧ pre h)
      (fun v _ => ∃ r t, v = .int ((r : Nat) : Int) t ∧ Bis (fun i => g (ns.getD i 0) < x) lo hi r) := by
  show (fun (_ : OpenLaw) => ConK prg w (hd.heap_1 w.params) 46 2 [.ref l, .int x tx, .int (lo : Int) t1, .int (hi : Int) t2] [(Str.ofString "key", .ref kf)] (fun h => h.IsList l vs.toArray ∧ pre h)
      (fun v _ => ∃ r t, v = .int ((r : Nat) : Int) t ∧ Bis (fun i => g (ns.getD i 0) < x) lo hi r)) PySem.Challenge.rw_tc0007_01
  k_fill
  dsimp only
  intro pp loose mean mg mb dp un gd base outer s Q E B X T hd hu ⟨hpre, hpk⟩ hret
  k_extra "tc:enter"
  intro L' h₁ F' N'
  dsimp only
  replace F' : Fr s.heap L' h₁ (lM [(Str.ofString "key", .ref kf), (Str.ofString "hi", .int (hi : Int) t2), (Str.ofString "lo", .int (lo : Int) t1), (Str.ofString "x", .int x tx), (Str.ofString "a", .ref l)]) := F'
  k_steps
  refine Hold.of ?_
  rename Fr _ _ _ _ => F'; rename News _ _ _ _ => N'
  obtain ⟨m, hm, F'⟩ := name_fr F'
  refine while_st (σ := BS) [] (upT2 (Str.ofString "lo") (fun st => .int (st.lo : Int) st.t1) (Str.ofString "hi") (fun st => .int (st.hi : Int) st.t2) [Str.ofString "mid"] BS.e (lM [(Str.ofString "key", .ref kf), (Str.ofString "x", .int x tx), (Str.ofString "a", .ref l)]))
    (fun st => lo ≤ st.lo ∧ st.lo ≤ st.hi ∧ st.hi ≤ hi ∧ (∀ i, lo ≤ i → i < st.lo → g (ns.getD i 0) < x) ∧ (∀ i, st.hi ≤ i → i < hi → ¬ g (ns.getD i 0) < x))
    (fun st => Bis (fun i => g (ns.getD i 0) < x) lo hi st.lo) (fun st => st.hi - st.lo) ⟨lo, hi, t1, t2, m⟩ (Fr_end2 F' ((congrFun hm _).trans rfl) ((congrFun hm _).trans rfl) ?_) N' ?_ ?_ ?_
  · intro y a b d
    rw [hm]
    have e1 : (y == Str.ofString "lo") = false := by simpa using a
    have e2 : (y == Str.ofString "hi") = false := by simpa using b
    show List.lookup y _ = List.lookup y _
    simp only [List.lookup_cons, e1, e2]
  · exact ⟨Nat.le_refl _, hlh, Nat.le_refl _, fun i a b => absurd b (Nat.not_lt.mpr a), fun i a b => absurd b (Nat.not_lt.mpr a)⟩
  · clear F' N' hm
    rintro ⟨p, q, tp, tq, e⟩ h tk ⟨g1, g2, g3, g4, g5⟩ F' N'
    delta upT2 at F'
    dsimp only at g1 g2 g3 g4 g5 F' N' ⊢
    replace F' : Fr s.heap L' h _ := F'
    replace N' : News s.heap L' h _ := N'
    k_steps
    all_goals (rename Fr _ _ _ _ => F'; rename News _ _ _ _ => N')
    · obtain ⟨m, hm, F'⟩ := name_fr F'
      rename g (ns.getD _ 0) < x => hc
      rw [Int.toNat_natCast] at hc
      refine Re.intro ⟨(p + q) / 2 + 1, q, _, tq, m⟩ (Fr_end2 F' ((congrFun hm _).trans rfl) ((congrFun hm _).trans rfl) ?_) N' ⟨⟨by show lo ≤ (p + q) / 2 + 1; omega, by show (p + q) / 2 + 1 ≤ q; omega, g3, Bis_below (p := fun y => g y < x) hs (by omega) hc, g5⟩, by show q - ((p + q) / 2 + 1) < q - p; omega⟩
      intro y a b d
      rw [hm]
      simp only [if_neg a, if_neg b, if_neg (tmpc d (x := Str.ofString "mid") (by decide)), if_neg d]
    · obtain ⟨m, hm, F'⟩ := name_fr F'
      rename ¬ g (ns.getD _ 0) < x => hc
      rw [Int.toNat_natCast] at hc
      refine Re.intro ⟨p, (p + q) / 2, tp, _, m⟩ (Fr_end2 F' ((congrFun hm _).trans rfl) ((congrFun hm _).trans rfl) ?_) N' ⟨⟨g1, by show p ≤ (p + q) / 2; omega, by show (p + q) / 2 ≤ hi; omega, g4, Bis_above (p := fun y => g y < x) hs hhi hc⟩, by show (p + q) / 2 - p < q - p; omega⟩
      intro y a b d
      rw [hm]
      simp only [if_neg a, if_neg b, if_neg (tmpc d (x := Str.ofString "mid") (by decide)), if_neg d]
    · exact Re.intro ⟨p, q, tp, tq, e⟩ F' N' ⟨g1, by show p ≤ hi; omega, g4, fun i (a : p ≤ i) b => g5 i (by omega) b⟩
  · clear F' N' hm
    rintro ⟨p, q, tp, tq, e⟩ h tk hB F' N'
    delta upT2 at F'
    dsimp only at hB F' N' ⊢
    replace F' : Fr s.heap L' h _ := F'
    replace N' : News s.heap L' h _ := N'
    k_steps
    rename Fr _ _ _ _ => F'
    dsimp only
    exact hret _ _ _ F'.keep ⟨_, _, rfl, hB⟩

theorem biskr_con (w : World) (l : Addr) (vs : List Value) (ns : List Int) (x : Int) (lo hi : Nat) (tx t1 t2 : Tok) (hi0 : IntsAre vs ns) (hn : ns.length ≤ 1000) (hlh : lo ≤ hi) (hhi : hi ≤ ns.length)
    (kf : Addr) (pre : Heap → Prop) (g : Int → Int) (hkey : KeyCon prg w (hd.heap_1 w.params) kf pre g ns)
    (hs : ∀ i j, i ≤ j → j < ns.length → ¬ x < g (ns.getD j 0) → ¬ x < g (ns.getD i 0)) :
    ConK prg w (hd.heap_1 w.params) 37 2 [.ref l, .int x tx, .int (lo : Int) t1, .int (hi : Int) t2] [(Str.ofString "key", .ref kf)] (fun h => h.IsList l vs.toArray ∧ pre h)
      (fun v _ => ∃ r t, v = .int ((r : Nat) : Int) t ∧ Bis (fun i => ¬ x < g (ns.getD i 0)) lo hi r) := by
  show (fun (_ : OpenLaw) => ConK prg w (hd.heap_1 w.params) 37 2 [.ref l, .int x tx, .int (lo : Int) t1, .int (hi : Int) t2] [(Str.ofString "key", .ref kf)] (fun h => h.IsList l vs.toArray ∧ pre h)
      (fun v _ => ∃ r t, v = .int ((r : Nat) : Int) t ∧ Bis (fun i => ¬ x < g (ns.getD i 0)) lo hi r)) PySem.Challenge.rw_tc0007_01
  k_fill
  dsimp only
  intro pp loose mean mg mb dp un gd base outer s Q E B X T hd hu ⟨hpre, hpk⟩ hret
  k_extra "tc:enter"
  intro L' h₁ F' N'
  dsimp only
  replace F' : Fr s.heap L' h₁ (lM [(Str.ofString "key", .ref kf), (Str.ofString "hi", .int (hi : Int) t2), (Str.ofString "lo", .int (lo : Int) t1), (Str.ofString "x", .int x tx), (Str.ofString "a", .ref l)]) := F'
  k_steps
  refine Hold.of ?_
  rename Fr _ _ _ _ => F'; rename News _ _ _ _ => N'
  obtain ⟨m, hm, F'⟩ := name_fr F'
  refine while_st (σ := BS) [] (upT2 (Str.ofString "lo") (fun st => .int (st.lo : Int) st.t1) (Str.ofString "hi") (fun st => .int (st.hi : Int) st.t2) [Str.ofString "mid"] BS.e (lM [(Str.ofString "key", .ref kf), (Str.ofString "x", .int x tx), (Str.ofString "a", .ref l)]))
    (fun st => lo ≤ st.lo ∧ st.lo ≤ st.hi ∧ st.hi ≤ hi ∧ (∀ i, lo ≤ i → i < st.lo → ¬ x < g (ns.getD i 0)) ∧ (∀ i, st.hi ≤ i → i < hi → ¬ ¬ x < g (ns.getD i 0)))
    (fun st => Bis (fun i => ¬ x < g (ns.getD i 0)) lo hi st.lo) (fun st => st.hi - st.lo) ⟨lo, hi, t1, t2, m⟩ (Fr_end2 F' ((congrFun hm _).trans rfl) ((congrFun hm _).trans rfl) ?_) N' ?_ ?_ ?_
  · intro y a b d
    rw [hm]
    have e1 : (y == Str.ofString "lo") = false := by simpa using a
    have e2 : (y == Str.ofString "hi") = false := by simpa using b
    show List.lookup y _ = List.lookup y _
    simp only [List.lookup_cons, e1, e2]
  · exact ⟨Nat.le_refl _, hlh, Nat.le_refl _, fun i a b => absurd b (Nat.not_lt.mpr a), fun i a b => absurd b (Nat.not_lt.mpr a)⟩
  · clear F' N' hm
    rintro ⟨p, q, tp, tq, e⟩ h tk ⟨g1, g2, g3, g4, g5⟩ F' N'
    delta upT2 at F'
    dsimp only at g1 g2 g3 g4 g5 F' N' ⊢
    replace F' : Fr s.heap L' h _ := F'
    replace N' : News s.heap L' h _ := N'
    k_steps
    all_goals (rename Fr _ _ _ _ => F'; rename News _ _ _ _ => N')
    · obtain ⟨m, hm, F'⟩ := name_fr F'
      rename x < g (ns.getD _ 0) => hc
      rw [Int.toNat_natCast] at hc
      refine Re.intro ⟨p, (p + q) / 2, tp, _, m⟩ (Fr_end2 F' ((congrFun hm _).trans rfl) ((congrFun hm _).trans rfl) ?_) N' ⟨⟨g1, by show p ≤ (p + q) / 2; omega, by show (p + q) / 2 ≤ hi; omega, g4, Bis_above (p := fun y => ¬ x < g y) hs hhi (fun e => e hc)⟩, by show (p + q) / 2 - p < q - p; omega⟩
      intro y a b d
      rw [hm]
      simp only [if_neg a, if_neg b, if_neg (tmpc d (x := Str.ofString "mid") (by decide)), if_neg d]
    · obtain ⟨m, hm, F'⟩ := name_fr F'
      rename ¬ x < g (ns.getD _ 0) => hc
      rw [Int.toNat_natCast] at hc
      refine Re.intro ⟨(p + q) / 2 + 1, q, _, tq, m⟩ (Fr_end2 F' ((congrFun hm _).trans rfl) ((congrFun hm _).trans rfl) ?_) N' ⟨⟨by show lo ≤ (p + q) / 2 + 1; omega, by show (p + q) / 2 + 1 ≤ q; omega, g3, Bis_below (p := fun y => ¬ x < g y) hs (by omega) hc, g5⟩, by show q - ((p + q) / 2 + 1) < q - p; omega⟩
      intro y a b d
      rw [hm]
      simp only [if_neg a, if_neg b, if_neg (tmpc d (x := Str.ofString "mid") (by decide)), if_neg d]
    · exact Re.intro ⟨p, q, tp, tq, e⟩ F' N' ⟨g1, by show p ≤ hi; omega, g4, fun i (a : p ≤ i) b => g5 i (by omega) b⟩
  · clear F' N' hm
    rintro ⟨p, q, tp, tq, e⟩ h tk hB F' N'
    delta upT2 at F'
    dsimp only at hB F' N' ⊢
    replace F' : Fr s.heap L' h _ := F'
    replace N' : News s.heap L' h _ := N'
    k_steps
    rename Fr _ _ _ _ => F'
    dsimp only
    exact hret _ _ _ F'.keep ⟨_, _, rfl, hB⟩

theorem bisdl_con (w : World) (l : Addr) (vs : List Value) (ns : List Int) (x : Int) (tx : Tok) (hi0 : IntsAre vs ns) (hn : ns.length ≤ 1000)
    (kf : Addr) (pre : Heap → Prop) (g : Int → Int) (hkey : KeyCon prg w (hd.heap_1 w.params) kf pre g ns)
    (hs : ∀ i j, i ≤ j → j < ns.length → g (ns.getD j 0) < x → g (ns.getD i 0) < x) :
    ConK prg w (hd.heap_1 w.params) 46 2 [.ref l, .int x tx] [(Str.ofString "key", .ref kf)] (fun h => h.IsList l vs.toArray ∧ pre h)
      (fun v _ => ∃ r t, v = .int ((r : Nat) : Int) t ∧ Bis (fun i => g (ns.getD i 0) < x) 0 ns.length r) := by
  show (fun (_ : OpenLaw) => ConK prg w (hd.heap_1 w.params) 46 2 [.ref l, .int x tx] [(Str.ofString "key", .ref kf)] (fun h => h.IsList l vs.toArray ∧ pre h)
      (fun v _ => ∃ r t, v = .int ((r : Nat) : Int) t ∧ Bis (fun i => g (ns.getD i 0) < x) 0 ns.length r)) PySem.Challenge.rw_tc0007_01
  k_fill
  dsimp only
  intro pp loose mean mg mb dp un gd base outer s Q E B X T hd hu ⟨hpre, hpk⟩ hret
  k_extra "tc:enter"
  intro L' h₁ F' N'
  dsimp only
  obtain ⟨t0, F'⟩ : ∃ t0, Fr s.heap L' h₁ (lM [(Str.ofString "key", .ref kf), (Str.ofString "hi", .none), (Str.ofString "lo", .int 0 t0), (Str.ofString "x", .int x tx), (Str.ofString "a", .ref l)]) := ⟨_, F'⟩
  k_steps
  refine Hold.of ?_
  rename Fr _ _ _ _ => F'; rename News _ _ _ _ => N'
  obtain ⟨m, hm, F'⟩ := name_fr F'
  refine while_st (σ := BS) [] (upT2 (Str.ofString "lo") (fun st => .int (st.lo : Int) st.t1) (Str.ofString "hi") (fun st => .int (st.hi : Int) st.t2) [Str.ofString "mid"] BS.e (lM [(Str.ofString "key", .ref kf), (Str.ofString "x", .int x tx), (Str.ofString "a", .ref l)]))
    (fun st =>  st.lo ≤ st.hi ∧ st.hi ≤ ns.length ∧ (∀ i, 0 ≤ i → i < st.lo → g (ns.getD i 0) < x) ∧ (∀ i, st.hi ≤ i → i < ns.length → ¬ g (ns.getD i 0) < x))
    (fun st => Bis (fun i => g (ns.getD i 0) < x) 0 ns.length st.lo) (fun st => st.hi - st.lo) ⟨0, ns.length, _, _, m⟩ (Fr_end2 F' ((congrFun hm _).trans rfl) ((congrFun hm _).trans rfl) ?_) N' ?_ ?_ ?_
  · intro y a b d
    rw [hm]
    have e1 : (y == Str.ofString "lo") = false := by simpa using a
    have e2 : (y == Str.ofString "hi") = false := by simpa using b
    show (if y = Str.ofString "hi" then _ else List.lookup y _) = List.lookup y _
    rw [if_neg b]
    simp only [List.lookup_cons, e1, e2]
  · exact ⟨Nat.zero_le _, Nat.le_refl _, fun i a b => absurd b (Nat.not_lt.mpr a), fun i a b => absurd b (Nat.not_lt.mpr a)⟩
  · clear F' N' hm
    rintro ⟨p, q, tp, tq, e⟩ h tk ⟨g2, g3, g4, g5⟩ F' N'
    delta upT2 at F'
    dsimp only at g2 g3 g4 g5 F' N' ⊢
    replace F' : Fr s.heap L' h _ := F'
    replace N' : News s.heap L' h _ := N'
    k_steps
    all_goals (rename Fr _ _ _ _ => F'; rename News _ _ _ _ => N')
    · obtain ⟨m, hm, F'⟩ := name_fr F'
      rename g (ns.getD _ 0) < x => hc
      rw [Int.toNat_natCast] at hc
      refine Re.intro ⟨(p + q) / 2 + 1, q, _, tq, m⟩ (Fr_end2 F' ((congrFun hm _).trans rfl) ((congrFun hm _).trans rfl) ?_) N' ⟨⟨by show (p + q) / 2 + 1 ≤ q; omega, g3, Bis_below (p := fun y => g y < x) hs (by omega) hc, g5⟩, by show q - ((p + q) / 2 + 1) < q - p; omega⟩
      intro y a b d
      rw [hm]
      simp only [if_neg a, if_neg b, if_neg (tmpc d (x := Str.ofString "mid") (by decide)), if_neg d]
    · obtain ⟨m, hm, F'⟩ := name_fr F'
      rename ¬ g (ns.getD _ 0) < x => hc
      rw [Int.toNat_natCast] at hc
      refine Re.intro ⟨p, (p + q) / 2, tp, _, m⟩ (Fr_end2 F' ((congrFun hm _).trans rfl) ((congrFun hm _).trans rfl) ?_) N' ⟨⟨by show p ≤ (p + q) / 2; omega, by show (p + q) / 2 ≤ ns.length; omega, g4, Bis_above (p := fun y => g y < x) hs (Nat.le_refl _) hc⟩, by show (p + q) / 2 - p < q - p; omega⟩
      intro y a b d
      rw [hm]
      simp only [if_neg a, if_neg b, if_neg (tmpc d (x := Str.ofString "mid") (by decide)), if_neg d]
    · exact Re.intro ⟨p, q, tp, tq, e⟩ F' N' ⟨Nat.zero_le _, by show p ≤ ns.length; omega, g4, fun i (a : p ≤ i) b => g5 i (by omega) b⟩
  · clear F' N' hm
    rintro ⟨p, q, tp, tq, e⟩ h tk hB F' N'
    delta upT2 at F'
    dsimp only at hB F' N' ⊢
    replace F' : Fr s.heap L' h _ := F'
    replace N' : News s.heap L' h _ := N'
    k_steps
    rename Fr _ _ _ _ => F'
    dsimp only
    exact hret _ _ _ F'.keep ⟨_, _, rfl, hB⟩

theorem bisdr_con (w : World) (l : Addr) (vs : List Value) (ns : List Int) (x : Int) (tx : Tok) (hi0 : IntsAre vs ns) (hn : ns.length ≤ 1000)
    (kf : Addr) (pre : Heap → Prop) (g : Int → Int) (hkey : KeyCon prg w (hd.heap_1 w.params) kf pre g ns)
    (hs : ∀ i j, i ≤ j → j < ns.length → ¬ x < g (ns.getD j 0) → ¬ x < g (ns.getD i 0)) :
    ConK prg w (hd.heap_1 w.params) 37 2 [.ref l, .int x tx] [(Str.ofString "key", .ref kf)] (fun h => h.IsList l vs.toArray ∧ pre h)
      (fun v _ => ∃ r t, v = .int ((r : Nat) : Int) t ∧ Bis (fun i => ¬ x < g (ns.getD i 0)) 0 ns.length r) := by
  show (fun (_ : OpenLaw) => ConK prg w (hd.heap_1 w.params) 37 2 [.ref l, .int x tx] [(Str.ofString "key", .ref kf)] (fun h => h.IsList l vs.toArray ∧ pre h)
      (fun v _ => ∃ r t, v = .int ((r : Nat) : Int) t ∧ Bis (fun i => ¬ x < g (ns.getD i 0)) 0 ns.length r)) PySem.Challenge.rw_tc0007_01
  k_fill
  dsimp only
  intro pp loose mean mg mb dp un gd base outer s Q E B X T hd hu ⟨hpre, hpk⟩ hret
  k_extra "tc:enter"
  intro L' h₁ F' N'
  dsimp only
  obtain ⟨t0, F'⟩ : ∃ t0, Fr s.heap L' h₁ (lM [(Str.ofString "key", .ref kf), (Str.ofString "hi", .none), (Str.ofString "lo", .int 0 t0), (Str.ofString "x", .int x tx), (Str.ofString "a", .ref l)]) := ⟨_, F'⟩
  k_steps
  refine Hold.of ?_
  rename Fr _ _ _ _ => F'; rename News _ _ _ _ => N'
  obtain ⟨m, hm, F'⟩ := name_fr F'
  refine while_st (σ := BS) [] (upT2 (Str.ofString "lo") (fun st => .int (st.lo : Int) st.t1) (Str.ofString "hi") (fun st => .int (st.hi : Int) st.t2) [Str.ofString "mid"] BS.e (lM [(Str.ofString "key", .ref kf), (Str.ofString "x", .int x tx), (Str.ofString "a", .ref l)]))
    (fun st =>  st.lo ≤ st.hi ∧ st.hi ≤ ns.length ∧ (∀ i, 0 ≤ i → i < st.lo → ¬ x < g (ns.getD i 0)) ∧ (∀ i, st.hi ≤ i → i < ns.length → ¬ ¬ x < g (ns.getD i 0)))
    (fun st => Bis (fun i => ¬ x < g (ns.getD i 0)) 0 ns.length st.lo) (fun st => st.hi - st.lo) ⟨0, ns.length, _, _, m⟩ (Fr_end2 F' ((congrFun hm _).trans rfl) ((congrFun hm _).trans rfl) ?_) N' ?_ ?_ ?_
  · intro y a b d
    rw [hm]
    have e1 : (y == Str.ofString "lo") = false := by simpa using a
    have e2 : (y == Str.ofString "hi") = false := by simpa using b
    show (if y = Str.ofString "hi" then _ else List.lookup y _) = List.lookup y _
    rw [if_neg b]
    simp only [List.lookup_cons, e1, e2]
  · exact ⟨Nat.zero_le _, Nat.le_refl _, fun i a b => absurd b (Nat.not_lt.mpr a), fun i a b => absurd b (Nat.not_lt.mpr a)⟩
  · clear F' N' hm
    rintro ⟨p, q, tp, tq, e⟩ h tk ⟨g2, g3, g4, g5⟩ F' N'
    delta upT2 at F'
    dsimp only at g2 g3 g4 g5 F' N' ⊢
    replace F' : Fr s.heap L' h _ := F'
    replace N' : News s.heap L' h _ := N'
    k_steps
    all_goals (rename Fr _ _ _ _ => F'; rename News _ _ _ _ => N')
    · obtain ⟨m, hm, F'⟩ := name_fr F'
      rename x < g (ns.getD _ 0) => hc
      rw [Int.toNat_natCast] at hc
      refine Re.intro ⟨p, (p + q) / 2, tp, _, m⟩ (Fr_end2 F' ((congrFun hm _).trans rfl) ((congrFun hm _).trans rfl) ?_) N' ⟨⟨by show p ≤ (p + q) / 2; omega, by show (p + q) / 2 ≤ ns.length; omega, g4, Bis_above (p := fun y => ¬ x < g y) hs (Nat.le_refl _) (fun e => e hc)⟩, by show (p + q) / 2 - p < q - p; omega⟩
      intro y a b d
      rw [hm]
      simp only [if_neg a, if_neg b, if_neg (tmpc d (x := Str.ofString "mid") (by decide)), if_neg d]
    · obtain ⟨m, hm, F'⟩ := name_fr F'
      rename ¬ x < g (ns.getD _ 0) => hc
      rw [Int.toNat_natCast] at hc
      refine Re.intro ⟨(p + q) / 2 + 1, q, _, tq, m⟩ (Fr_end2 F' ((congrFun hm _).trans rfl) ((congrFun hm _).trans rfl) ?_) N' ⟨⟨by show (p + q) / 2 + 1 ≤ q; omega, g3, Bis_below (p := fun y => ¬ x < g y) hs (by omega) hc, g5⟩, by show q - ((p + q) / 2 + 1) < q - p; omega⟩
      intro y a b d
      rw [hm]
      simp only [if_neg a, if_neg b, if_neg (tmpc d (x := Str.ofString "mid") (by decide)), if_neg d]
    · exact Re.intro ⟨p, q, tp, tq, e⟩ F' N' ⟨Nat.zero_le _, by show p ≤ ns.length; omega, g4, fun i (a : p ≤ i) b => g5 i (by omega) b⟩
  · clear F' N' hm
    rintro ⟨p, q, tp, tq, e⟩ h tk hB F' N'
    delta upT2 at F'
    dsimp only at hB F' N' ⊢
    replace F' : Fr s.heap L' h _ := F'
    replace N' : News s.heap L' h _ := N'
    k_steps
    rename Fr _ _ _ _ => F'
    dsimp only
    exact hret _ _ _ F'.keep ⟨_, _, rfl, hB⟩

example : True := by
  k_with_none
  k_with "tc:enter" => (
    refine wpAny_call ?_
    k_dflt (refine' con_enter (by assumption) (by assumption) (by assumption) ?zzk1 ?zzk2 ?zzk3 ?zzk4 ?zzk5 ?_ ?zzc1 ?zzc2 ?zzc3 ?zzc4; (case zzk1 => k_is); (case zzk2 => k_is); (case zzk3 => omega); (case zzk4 => first | exact BindsTo.of_eq rfl | exact kp_binds (by assumption) (fun _ => rfl)); (case zzc4 => decide); (case zzk5 => exact locs rfl); (case zzc1 => exact rfl); (case zzc2 => exact rfl); (case zzc3 => exact rfl); k_whole))
  k_with "tc:len" => (first | omega | ((try simp only [List.length_drop, List.length_take, List.length_append, List.length_cons, List.length_nil, List.length_reverse]); omega))
  k_with "tc:cl" => (first
    | exact cl_nat (by k_extra "tc:len")
    | exact cl_neg (by k_extra "tc:len")
    | exact cl_succ (by k_extra "tc:len")
    | exact cl_min _ _)
  k_with "subscriptTail Name Slice str ref" => (k_here; (with_reducible rename Fr _ _ _ _ => zzkF); (with_reducible rename News _ _ _ _ => zzkN); (with_reducible (first
    | (refine' sl_sn (s := ⟨_, _, _, _, _⟩) zzkF zzkN ?zzz ?zze ?_; (case zzz => k_extra "tc:len"); (case zze => k_extra "tc:cl"); k_whole; intro _ _ _ _ _ _)
    | (refine' sl_ns (s := ⟨_, _, _, _, _⟩) zzkF zzkN ?zzz ?zze ?_; (case zzz => k_extra "tc:len"); (case zze => k_extra "tc:cl"); k_whole; intro _ _ _ _ _ _)
    | (refine' sl_nn (s := ⟨_, _, _, _, _⟩) zzkF zzkN ?zzz ?_; (case zzz => k_extra "tc:len"); k_whole; intro _ _ _ _ _)
    | (refine' sl_ss (s := ⟨_, _, _, _, _⟩) zzkF zzkN ?zzz ?zze ?zzf ?_; (case zzz => k_extra "tc:len"); (case zze => k_extra "tc:cl"); (case zzf => k_extra "tc:cl"); k_whole; intro _ _ _ _ _ _))); (try k_sweep))
  k_with "tc:item" => (k_here; (with_reducible show wpAny _ _ (subscriptTail _ _ (Value.str (Str.mk (List.toArray _)) _) (Value.int _ _)) _ _ _); (with_reducible refine it_str ?zzz ?zza ?zzb ?_); (case zzz => k_extra "tc:len"); (case zza => k_extra "tc:len"); (case zzb => k_extra "tc:len"); k_whole; intro _)
  k_with "subscriptTail Name Name str int" => (k_extra "tc:item")
  k_with "subscriptTail Name BinOp str int" => (k_extra "tc:item")
  k_with "subscriptTail Name Constant str int" => (k_extra "tc:item")
  k_with "subscriptTail Constant Call str int" => (k_extra "tc:item")
  k_with "truthy str" => (k_here; (with_reducible show wpAny _ _ (PySem.truthy (Value.str (Str.mk (List.toArray _)) _)) _ _ _); (refine tr_str ?zzz ?_ ?_; (case zzz => k_extra "tc:len"); (all_goals intro _ _); (all_goals (try (exfalso; omega)))))
  k_with "call builtin:len" => (k_here; (with_reducible show wpAny _ _ (call (Value.builtin "len") [Value.str (Str.mk (List.toArray _)) _]) _ _ _); k_dflt (refine' len_strL ?zzz ?_; (case zzz => k_extra "tc:len"); intro _))
  k_with "eval Name local" => (fail "none")
  k_with "exec While BoolOp cons nil" => (refine Hold.mk ?_)
  k_with "exec If Compare cons nil" => ((with_reducible show wpAny _ _ (exec (Stmt.If _ [Stmt.Assign [Expr.Tuple _ _ _] _ _] [] _) _) _ _ _); refine Hold.mk ?_)
  k_with "pyIter ref" => (k_here; (with_reducible show wpAny _ _ (pyIter (Value.ref _)) (fun it s₂ => LoopAtV _ _ _ _ _ _ _ _ _ it s₂) _ _); refine Hold.mk ?_)
  k_with "exec For Name Call cons nil" => (k_here; (rename Fr _ _ _ _ => zzlF'); (with_unfolding_all refine' For_invVF zzlF' ?zzk1 ?zzk2 ?_; (case zzk1 => exact rfl); (case zzk2 => exact rfl); k_whole))
  k_with "call type:list" => ((with_reducible show wpAny _ _ (call (Value.type "list") [Value.ref _]) _ _ _); refine Hold.mk ?_)
  k_with "tc:dep" => (first | omega | ((simp only [Around.deeper, Around.in1, aroundOf] at *); omega) | (dsimp only [Around.deeper, Around.in1, aroundOf]; omega))
  k_with "tc:own" => (first
    | exact OwnOff.ne (by assumption) (by simp)
    | (intro zzq zzhq; rcases List.mem_append.mp zzhq with zzhq | zzhq <;> exact OwnOff.ne (by assumption) (by simp) zzq zzhq))
  k_with "setItem ref int" => (k_here; (with_reducible show wpAny _ _ (setItem (Value.ref _) (Value.int _ _) (Value.int _ _)) _ _ _); k_dflt (refine' ksa_set ?zzk1 ?zzk2 (Upd.head ?zzk3) ?zzk4 ?zzk5 ?zzk6 ?zzk7 ?_; (case zzk1 => k_asm); (case zzk2 => k_asm); (case zzk3 => k_extra "tc:own"); (case zzk4 => with_reducible assumption); (case zzk5 => omega); (case zzk6 => omega); (case zzk7 => omega); k_whole); intro _ _ _ _ _ zzhs'; clear zzhs'; (try k_sweep))
  k_with "exec While BoolOp cons cons nil" => (refine Hold.mk ?_)
  k_with "exec While Compare cons nil" => (refine Hold.mk ?_)
  k_with "binaryOp FloorDiv int int" => (k_here; (with_reducible refine half_nat ?_))
  k_with "tc:use" => (
    (case zzB => k_asm); (case zzF => k_asm); (case zzX => k_asm); (case zzN => k_asm); (case zzT => k_asm); (case zzh1 => exact rfl); (case zzh2 => exact rfl); (case zzh3 => exact rfl); (case zzh4 => exact rfl); (case zzh5 => (dsimp only [Around.deeper, Around.in1, aroundOf]; omega)); (case zzh6 => (dsimp only [Around.deeper, Around.in1, aroundOf]; omega)))
  k_with "tc:omega" => (first
    | ((repeat (with_reducible rename @Ne Nat _ _ => zzhh; clear zzhh)); (repeat (with_reducible rename (@Ne Nat _ _) ∧ _ => zzhh; clear zzhh)); (repeat (with_reducible rename ((@Ne Nat _ _) ∧ _) ∧ _ => zzhh; clear zzhh)); omega (splitDisjunctions := true))
    | omega (splitDisjunctions := true))
  k_with "tc:pr" => ((with_reducible rename _ ∧ _ => zzhh); first
    | exact zzhh.1 | exact zzhh.1.symm | exact Nat.ne_of_lt zzhh.1 | exact Nat.ne_of_gt zzhh.1
    | exact zzhh.2 | exact zzhh.2.symm | exact Nat.ne_of_lt zzhh.2 | exact Nat.ne_of_gt zzhh.2
    | (have zzh1 := zzhh.1; have zzh2 := zzhh.2; clear zzhh; k_extra "tc:pr"))
  k_with "tc:ne" => (refine neN ?_; (try dsimp only); with_reducible (first | assumption | exact Ne.symm (by assumption) | exact Nat.ne_of_gt (by k_extra "tc:up") | exact Nat.ne_of_lt (by k_extra "tc:up") | k_extra "tc:pr"))
  k_with "tc:up" => (with_reducible (first | exact up_s _ | assumption | k_extra "tc:prl" | (refine up_t ?_; k_extra "tc:up")))
  k_with "tc:prl" => ((with_reducible rename _ ∧ _ => zzhh); first
    | exact zzhh.1 | exact zzhh.2
    | (have zzh2 := zzhh.2; clear zzhh; k_extra "tc:prl"))
  trivial

/-- blanks, a body, blanks -/
noncomputable def padded (p q : Nat) (l : List Nat) : List Nat := List.replicate p 32 ++ l ++ List.replicate q 32
theorem padded_len (p q : Nat) (l : List Nat) : (padded p q l).length = p + l.length + q := by simp [padded]; omega
theorem padded_lo {p q : Nat} {l : List Nat} {i : Nat} (h : i < p) : (padded p q l).getD i 0 = 32 := by
  unfold padded
  rw [List.getD_eq_getElem?_getD, List.append_assoc, List.getElem?_append_left (by simpa using h)]
  simp [h]
theorem padded_mid {p q : Nat} {l : List Nat} {i : Nat} (h : p ≤ i) (h2 : i < p + l.length) : (padded p q l).getD i 0 = l.getD (i - p) 0 := by
  unfold padded
  rw [List.getD_eq_getElem?_getD, List.append_assoc, List.getElem?_append_right (by simpa using h), List.getD_eq_getElem?_getD]
  rw [List.getElem?_append_left (by simp; omega)]
  simp
theorem padded_hi {p q : Nat} {l : List Nat} {i : Nat} (h : p + l.length ≤ i) (h2 : i < p + l.length + q) : (padded p q l).getD i 0 = 32 := by
  unfold padded
  rw [List.getD_eq_getElem?_getD, List.getElem?_append_right (by simp; omega)]
  rw [List.getElem?_replicate]
  have : i - (List.replicate p 32 ++ l).length < q := by simp; omega
  rw [if_pos this]; rfl
theorem padded_cut {p q : Nat} {l : List Nat} {i j : Nat} (hi : i ≤ p) (hj : j ≤ q) : ((padded p q l).drop i).take (p + l.length + q - j - i) = padded (p - i) (q - j) l := by
  obtain ⟨p, rfl⟩ := Nat.exists_eq_add_of_le hi
  obtain ⟨q, rfl⟩ := Nat.exists_eq_add_of_le hj
  rw [show i + p + l.length + (j + q) - j - i = p + l.length + q from by omega, Nat.add_sub_cancel_left, Nat.add_sub_cancel_left]
  have e : padded (i + p) (j + q) l = List.replicate i 32 ++ (padded p q l ++ List.replicate j 32) := by
    unfold padded
    rw [← List.replicate_append_replicate, Nat.add_comm j q, ← List.replicate_append_replicate]
    simp only [List.append_assoc]
  rw [e, List.drop_left' (List.length_replicate), List.take_left' (padded_len p q l)]
theorem g_all {a : Int} {p : Nat} (h : 0 ≤ a → (p : Int) ≤ a) : p = (if a < 0 then p else min a.toNat p) := by
  split
  · rfl
  · rename_i h0
    have h0 := Int.not_lt.mp h0
    exact (Nat.min_eq_right ((Int.le_toNat h0).mpr (h h0))).symm
theorem g_end {a am : Int} {i p : Nat} (h1 : i ≤ p) (h2 : am = a - i) (e : am = 0) : i = (if a < 0 then p else min a.toNat p) := by
  obtain rfl : a = i := by omega
  rw [if_neg (Int.not_lt.mpr (Int.natCast_nonneg i)), Int.toNat_natCast, Nat.min_eq_left h1]
theorem g_le {a : Int} {i p : Nat} (h : i = if a < 0 then p else min a.toNat p) : i ≤ p := by
  rw [h]
  split
  · exact Nat.le_refl _
  · exact Nat.min_le_right _ _
theorem g_le2 {a : Int} {i p q : Nat} (h : i = if a < 0 then q else min (a.toNat - p) q) : i ≤ q := by
  rw [h]
  split
  · exact Nat.le_refl _
  · exact Nat.min_le_right _ _
theorem g_ge {a : Int} {i p : Nat} (h : i = if a < 0 then p else min a.toNat p) (h0 : 0 ≤ a) : (i : Int) + ((0 : Nat) : Int) ≤ a := by
  rw [if_neg (Int.not_lt.mpr h0)] at h
  have h1 := Nat.min_le_left a.toNat p
  rw [← h] at h1
  rw [Int.natCast_zero, Int.add_zero]
  exact (Int.le_toNat h0).mp h1
theorem g2_all {a : Int} {i p q : Nat} (hi : i = if a < 0 then p else min a.toNat p) (h4 : 0 ≤ a → (i : Int) + q ≤ a) : q = if a < 0 then q else min (a.toNat - p) q := by
  split
  · rfl
  · rename_i h0
    rw [if_neg h0] at hi
    have h0 := Int.not_lt.mp h0
    have h5 : i + q ≤ a.toNat := (Int.le_toNat h0).mpr (by rw [Int.natCast_add]; exact h4 h0)
    clear h4 h0
    rw [Nat.min_eq_right]
    rcases Nat.le_total a.toNat p with h | h
    · rw [Nat.min_eq_left h] at hi; omega
    · rw [Nat.min_eq_right h] at hi; omega
theorem g2_end {a am : Int} {i j p q : Nat} (hi : i = if a < 0 then p else min a.toNat p) (hj : j ≤ q) (h : am = a - i - j) (e : am = 0) : j = if a < 0 then q else min (a.toNat - p) q := by
  obtain rfl : a = ((i + j : Nat) : Int) := by omega
  rw [if_neg (Int.not_lt.mpr (Int.natCast_nonneg _)), Int.toNat_natCast] at hi ⊢
  clear h e
  rcases Nat.le_total (i + j) p with h | h
  · rw [Nat.min_eq_left h] at hi
    obtain rfl : j = 0 := by omega
    rw [Nat.sub_eq_zero_of_le h, Nat.min_eq_left (Nat.zero_le _)]
  · rw [Nat.min_eq_right h] at hi
    rw [hi, Nat.add_sub_cancel_left, Nat.min_eq_left hj]
theorem g_dn {a am : Int} {i : Nat} (h : am = a - i) : am - 1 = a - ((i + 1 : Nat) : Int) := by omega
theorem g_up {a am : Int} {i : Nat} (h : am = a - i) (n : am ≠ 0) (h3 : 0 ≤ a → (i : Int) ≤ a) (h0 : 0 ≤ a) : ((i + 1 : Nat) : Int) ≤ a := by
  have := h3 h0; omega
theorem g2_dn {a am : Int} {i j : Nat} (h : am = a - i - j) : am - 1 = a - i - ((j + 1 : Nat) : Int) := by omega
theorem g2_up {a am : Int} {i j : Nat} (h : am = a - i - j) (n : am ≠ 0) (h3 : 0 ≤ a → (i : Int) + j ≤ a) (h0 : 0 ≤ a) : (i : Int) + ((j + 1 : Nat) : Int) ≤ a := by
  have := h3 h0; omega
theorem g_ms {i p : Nat} (h : i < p) : p - (i + 1) < p - i := by omega
theorem g_k {k j n : Nat} (h : k + 1 + j = n) (h1 : 0 < k) : k - 1 + 1 + (j + 1) = n := by omega
theorem g_z (a : Int) : a = a - ((0 : Nat) : Int) := by omega
theorem g_kk {k j p q n : Nat} (hn : 0 < n) (h : k + 1 + j = p + n + q) (hj : ¬ j < q) (h1 : j ≤ q) : p ≤ k ∧ k < p + n + q ∧ k - p = n - 1 := by
  obtain rfl : j = q := Nat.le_antisymm h1 (Nat.not_lt.mp hj)
  obtain ⟨n, rfl⟩ := Nat.exists_eq_add_of_le hn
  obtain rfl : k = p + n := by clear hj h1 hn; omega
  exact ⟨Nat.le_add_right _ _, by clear hj h1 hn; omega, by clear h hj h1 hn; omega⟩
theorem strip_con (w : World) (p q : Nat) (l : List Nat) (a : Int) (ts ta : Tok) (hp : p ≤ 100) (hq : q ≤ 100) (hl : l.length ≤ 100) (hl0 : 0 < l.length) (hh : l.getD 0 0 ≠ 32) (hz : l.getD (l.length - 1) 0 ≠ 32) (hc : -1000 ≤ a ∧ a ≤ 1000) :
    Con prg w (hd.heap_1 w.params) 60 1 [.str ⟨(padded p q l).toArray⟩ ts, .int a ta] (fun _ => True)
      (fun v _ => ∃ t, v = .str ⟨(padded (p - (if a < 0 then p else min a.toNat p)) (q - (if a < 0 then q else min (a.toNat - p) q)) l).toArray⟩ t) := by
  show (fun (_ : OpenLaw) => Con prg w (hd.heap_1 w.params) 60 1 [.str ⟨(padded p q l).toArray⟩ ts, .int a ta] (fun _ => True)
      (fun v _ => ∃ t, v = .str ⟨(padded (p - (if a < 0 then p else min a.toNat p)) (q - (if a < 0 then q else min (a.toNat - p) q)) l).toArray⟩ t)) PySem.Challenge.rw_tc0007_01
  k_fill
  dsimp only
  intro pp loose mean mg mb dp un gd base outer s Q E B X T hd hu hpre hret
  k_extra "tc:enter"
  intro L' h₁ F' N'
  dsimp only
  have hlen := padded_len p q l
  replace F' : Fr s.heap L' h₁ (lM [(Str.ofString "amount", .int a ta), (Str.ofString "s", .str ⟨(padded p q l).toArray⟩ ts)]) := F'
  k_steps
  refine Hold.of ?_
  rename Fr _ _ _ _ => F'; rename News _ _ _ _ => N'
  refine while_st (σ := Nat × Int × Tok × Tok) [] (up2 (Str.ofString "amount") (fun st => .int st.2.1 st.2.2.1) (Str.ofString "lpos") (fun st => .int (st.1 : Int) st.2.2.2) (lM [(Str.ofString "amount", .int a ta), (Str.ofString "s", .str ⟨(padded p q l).toArray⟩ ts)]))
    (fun st => st.1 ≤ p ∧ st.2.1 = a - st.1 ∧ (0 ≤ a → (st.1 : Int) ≤ a))
    (fun st => st.2.1 = a - st.1 ∧ st.1 = (if a < 0 then p else min a.toNat p)) (fun st => p - st.1) (0, a, _, _) (Fr_top (x := Str.ofString "amount") F' rfl) N' ⟨Nat.zero_le _, (show a = a - ((0 : Nat) : Int) from g_z a), fun h => h⟩ ?_ ?_ ?_
  · clear F' N'
    rintro ⟨i, am, t1, t2⟩ h tk ⟨h1, h2, h3⟩ F' N'
    delta up2 at F'
    dsimp only at h1 h2 h3 F' N' ⊢
    have hi : i < (padded p q l).length := by omega
    k_steps
    all_goals (rename Fr _ _ _ _ => F'; rename News _ _ _ _ => N')
    · have hq1 := one_blank ‹_›
      rw [at'_nat] at hq1
      have hip : i < p := by
        by_cases hip : i < p
        · exact hip
        · rw [padded_mid (by omega) (by omega), show i - p = 0 from by omega] at hq1
          exact absurd (by simpa using hq1) hh
      exact Re.intro (i + 1, am - 1, _, _) (Fr_ext F' (up22 (by decide))) N' ⟨⟨hip, (show am - 1 = a - ((i + 1 : Nat) : Int) from g_dn h2), (show 0 ≤ a → ((i + 1 : Nat) : Int) ≤ a from g_up h2 ‹_› h3)⟩, (show p - (i + 1) < p - i from g_ms hip)⟩
    · have hq1 := one_blank ‹_›
      rw [at'_nat] at hq1
      have hip : i = p := by
        by_cases hip : i < p
        · rw [padded_lo hip] at hq1
          exact absurd hq1 (by decide)
        · omega
      exact Re.intro (i, am, _, _) F' N' ⟨h2, (show i = if a < 0 then p else min a.toNat p from by rw [hip] at h3 ⊢; exact g_all h3)⟩
    · exact Re.intro (i, am, _, _) F' N' ⟨h2, (show i = if a < 0 then p else min a.toNat p from g_end h1 h2 ‹_›)⟩
  · clear F' N'
    rintro ⟨i, am, t1, t2⟩ h tk ⟨h2, h3⟩ F' N'
    delta up2 at F'
    dsimp only at h2 h3 F' N' ⊢
    have hip : i ≤ p := g_le h3
    k_steps
    refine Hold.of ?_
    rename Fr _ _ _ _ => F'; rename News _ _ _ _ => N'
    rw [show ((padded p q l).length : Int) - 1 = ((p + l.length + q - 1 : Nat) : Int) from by clear h2 h3 hip hc; omega] at F'
    refine while_st (σ := Nat × Nat × Int × Tok × Tok) [] (up2 (Str.ofString "amount") (fun st => .int st.2.2.1 st.2.2.2.1) (Str.ofString "rpos") (fun st => .int (st.2.1 : Int) st.2.2.2.2) _)
      (fun st => st.1 ≤ q ∧ st.2.1 + 1 + st.1 = p + l.length + q ∧ st.2.2.1 = a - i - st.1 ∧ (0 ≤ a → (i : Int) + st.1 ≤ a))
      (fun st => st.2.1 + 1 + st.1 = p + l.length + q ∧ st.1 = (if a < 0 then q else min (a.toNat - p) q)) (fun st => q - st.1) (0, p + l.length + q - 1, am, _, _) (Fr_top (x := Str.ofString "amount") F' rfl) N' ?_ ?_ ?_ ?_
    · exact ⟨Nat.zero_le _, (show p + l.length + q - 1 + 1 + 0 = p + l.length + q from by clear h2 h3 hip hlen hc; omega), (show am = a - i - ((0 : Nat) : Int) from by rw [h2]; exact g_z _), g_ge h3⟩
    · clear F' N'
      rintro ⟨j, k, am2, t3, t4⟩ h tk ⟨g1, g2, g3, g4⟩ F' N'
      delta up2 at F'
      dsimp only at g1 g2 g3 g4 F' N' ⊢
      have hk : k < (padded p q l).length := by omega
      k_steps
      all_goals (rename Fr _ _ _ _ => F'; rename News _ _ _ _ => N')
      · have hq1 := one_blank ‹_›
        rw [at'_nat] at hq1
        have hjq : j < q := by
          by_cases hjq : j < q
          · exact hjq
          · have hkk := g_kk hl0 g2 hjq g1
            rw [padded_mid hkk.1 (by clear h2 h3 g3 g4 hc; omega), hkk.2.2] at hq1
            exact absurd (by simpa using hq1) hz
        have hk0 : 0 < k := by clear h2 h3 g3 g4 hc hk hlen; omega
        rw [show (k : Int) - 1 = ((k - 1 : Nat) : Int) from (Int.ofNat_sub (m := 1) hk0).symm] at F'
        exact Re.intro (j + 1, k - 1, am2 - 1, _, _) (Fr_ext F' (up22 (by decide))) N' ⟨⟨hjq, (show k - 1 + 1 + (j + 1) = p + l.length + q from g_k g2 hk0), (show am2 - 1 = a - i - ((j + 1 : Nat) : Int) from g2_dn g3), (show 0 ≤ a → (i : Int) + ((j + 1 : Nat) : Int) ≤ a from g2_up g3 ‹_› g4)⟩, (show q - (j + 1) < q - j from g_ms hjq)⟩
      · have hq1 := one_blank ‹_›
        rw [at'_nat] at hq1
        have hjq : j = q := by
          by_cases hjq : j < q
          · rw [padded_hi (by clear h2 h3 g3 g4 hc hk hlen; omega) (by clear h2 h3 g3 g4 hc; omega)] at hq1
            exact absurd hq1 (by decide)
          · omega
        exact Re.intro (j, k, am2, _, _) F' N' ⟨g2, (show j = if a < 0 then q else min (a.toNat - p) q from by rw [hjq] at g4 ⊢; exact g2_all h3 g4)⟩
      · exact Re.intro (j, k, am2, _, _) F' N' ⟨g2, (show j = if a < 0 then q else min (a.toNat - p) q from g2_end h3 g1 g3 ‹_›)⟩
    · clear F' N'
      rintro ⟨j, k, am2, t3, t4⟩ h tk ⟨g2, g3⟩ F' N'
      delta up2 at F'
      dsimp only at g2 g3 F' N' ⊢
      have hjq : j ≤ q := g_le2 g3
      k_steps
      rename Fr _ _ _ _ => F'
      dsimp only
      rw [← h3, ← g3] at hret
      exact hret _ _ _ F'.keep (p_str (by rw [show k + 1 = p + l.length + q - j from by omega]; exact padded_cut hip hjq))
    · passes_own
  · passes_own

theorem ConK.mono {p : Program} {w : World} {K : Frag} {f : Addr} {lv : Nat} {vs : List Value} {kw : List (Str × Value)} {pre : Heap → Prop} {post post' : Value → Heap → Prop} (C : ConK p w K f lv vs kw pre post) (h : ∀ v x, post v x → post' v x) : ConK p w K f lv vs kw pre post' :=
  fun pp loose mean mg mb dp un gd base outer s Q E B X T hd hu hp hr => C pp loose mean mg mb dp un gd base outer s Q E B X T hd hu hp fun v h' t' a b => hr v h' t' a (h _ _ b)
noncomputable def clampI (lo hi x : Int) : Int := if x < lo then lo else if hi < x then hi else x
theorem bis_clamp {p : Nat → Prop} {lo hi r : Nat} {c : Int} (hp : ∀ i, i < hi → (p i ↔ (i : Int) < c)) (_hlh : lo ≤ hi) (B : Bis p lo hi r) : (r : Int) = clampI lo hi c := by
  obtain ⟨b1, b2, b3, b4⟩ := B
  have k1 : lo < r → (r : Int) - 1 < c := fun h => by
    have := (hp (r - 1) (by omega)).mp (b3 (r - 1) (by omega) (by omega))
    omega
  have k2 : r < hi → ¬ (r : Int) < c := fun h e => b4 r (Nat.le_refl _) h ((hp r h).mpr e)
  unfold clampI
  by_cases h1 : lo < r
  · have := k1 h1
    by_cases h2 : r < hi
    · have := k2 h2
      rw [if_neg (by omega), if_neg (by omega)]; omega
    · rw [if_neg (by omega)]
      by_cases h3 : (hi : Int) < c
      · rw [if_pos h3]; omega
      · rw [if_neg h3]; omega
  · by_cases h2 : r < hi
    · have := k2 h2
      by_cases h3 : c < (lo : Int)
      · rw [if_pos h3]; omega
      · rw [if_neg h3, if_neg (by omega)]; omega
    · by_cases h3 : c < (lo : Int)
      · rw [if_pos h3]; omega
      · rw [if_neg h3]
        by_cases h4 : (hi : Int) < c
        · rw [if_pos h4]; omega
        · rw [if_neg h4]; omega
theorem ups_at : ∀ (i : Nat), i < 25 → (ups (-12) 25).getD i 0 = -12 + (i : Int) := by decide +kernel
theorem downs_at : ∀ (i : Nat), i < 25 → (ups (-12) 25).reverse.getD i 0 = 12 - (i : Int) := by decide +kernel
section
variable (w : World) (l : Addr) (vs : List Value) (x lo hi : Int) (tx t1 t2 : Tok)
theorem line_l (h : IntsAre vs (ups (-12) 25)) (h0 : 0 ≤ lo) (h1 : lo ≤ hi) (h2 : hi ≤ 25) :
    Con prg w (hd.heap_1 w.params) 46 1 [.ref l, .int x tx, .int lo t1, .int hi t2] (fun h => h.IsList l vs.toArray) (fun v _ => ∃ t, v = .int (clampI lo hi (x + 12)) t) := by
  have hl : (ups (-12) 25).length = 25 := ups_len _ _
  have C := bisl_con (prg := prg) w l vs _ x lo.toNat hi.toNat tx t1 t2 h (by omega) (by omega) (by omega) (fun i j hij hj h => by rw [ups_at i (by omega)]; rw [ups_at j (by omega)] at h; omega)
  rw [Int.toNat_of_nonneg h0, Int.toNat_of_nonneg (Int.le_trans h0 h1)] at C
  refine C.mono fun v _ ⟨r, t, e, b⟩ => ⟨t, ?_⟩
  rw [e, bis_clamp (c := x + 12) (fun i hi => by (try dsimp only); rw [ups_at i (by omega)]; omega) (by omega) b, Int.toNat_of_nonneg h0, Int.toNat_of_nonneg (Int.le_trans h0 h1)]
theorem line_r (h : IntsAre vs (ups (-12) 25)) (h0 : 0 ≤ lo) (h1 : lo ≤ hi) (h2 : hi ≤ 25) :
    Con prg w (hd.heap_1 w.params) 37 1 [.ref l, .int x tx, .int lo t1, .int hi t2] (fun h => h.IsList l vs.toArray) (fun v _ => ∃ t, v = .int (clampI lo hi (x + 13)) t) := by
  have hl : (ups (-12) 25).length = 25 := ups_len _ _
  have C := bisr_con (prg := prg) w l vs _ x lo.toNat hi.toNat tx t1 t2 h (by omega) (by omega) (by omega) (fun i j hij hj h => by rw [ups_at i (by omega)]; rw [ups_at j (by omega)] at h; omega)
  rw [Int.toNat_of_nonneg h0, Int.toNat_of_nonneg (Int.le_trans h0 h1)] at C
  refine C.mono fun v _ ⟨r, t, e, b⟩ => ⟨t, ?_⟩
  rw [e, bis_clamp (c := x + 13) (fun i hi => by (try dsimp only); rw [ups_at i (by omega)]; omega) (by omega) b, Int.toNat_of_nonneg h0, Int.toNat_of_nonneg (Int.le_trans h0 h1)]
variable (kf : Addr) (pre : Heap → Prop)
theorem turned_l (h : IntsAre vs (ups (-12) 25).reverse) (hk : KeyCon prg w (hd.heap_1 w.params) kf pre (fun n => -n) (ups (-12) 25).reverse) (h0 : 0 ≤ lo) (h1 : lo ≤ hi) (h2 : hi ≤ 25) :
    ConK prg w (hd.heap_1 w.params) 46 2 [.ref l, .int x tx, .int lo t1, .int hi t2] [(Str.ofString "key", .ref kf)] (fun h => h.IsList l vs.toArray ∧ pre h) (fun v _ => ∃ t, v = .int (clampI lo hi (x + 12)) t) := by
  have hl : (ups (-12) 25).reverse.length = 25 := by rw [List.length_reverse]; exact ups_len _ _
  have C := biskl_con w l vs _ x lo.toNat hi.toNat tx t1 t2 h (by omega) (by omega) (by omega) kf pre _ hk (fun i j hij hj h => by (try dsimp only at *); rw [downs_at i (by omega)]; rw [downs_at j (by omega)] at h; omega)
  rw [Int.toNat_of_nonneg h0, Int.toNat_of_nonneg (Int.le_trans h0 h1)] at C
  refine C.mono fun v _ ⟨r, t, e, b⟩ => ⟨t, ?_⟩
  rw [e, bis_clamp (c := x + 12) (fun i hi => by (try dsimp only); rw [downs_at i (by omega)]; omega) (by omega) b, Int.toNat_of_nonneg h0, Int.toNat_of_nonneg (Int.le_trans h0 h1)]
theorem turned_r (h : IntsAre vs (ups (-12) 25).reverse) (hk : KeyCon prg w (hd.heap_1 w.params) kf pre (fun n => -n) (ups (-12) 25).reverse) (h0 : 0 ≤ lo) (h1 : lo ≤ hi) (h2 : hi ≤ 25) :
    ConK prg w (hd.heap_1 w.params) 37 2 [.ref l, .int x tx, .int lo t1, .int hi t2] [(Str.ofString "key", .ref kf)] (fun h => h.IsList l vs.toArray ∧ pre h) (fun v _ => ∃ t, v = .int (clampI lo hi (x + 13)) t) := by
  have hl : (ups (-12) 25).reverse.length = 25 := by rw [List.length_reverse]; exact ups_len _ _
  have C := biskr_con w l vs _ x lo.toNat hi.toNat tx t1 t2 h (by omega) (by omega) (by omega) kf pre _ hk (fun i j hij hj h => by (try dsimp only at *); rw [downs_at i (by omega)]; rw [downs_at j (by omega)] at h; omega)
  rw [Int.toNat_of_nonneg h0, Int.toNat_of_nonneg (Int.le_trans h0 h1)] at C
  refine C.mono fun v _ ⟨r, t, e, b⟩ => ⟨t, ?_⟩
  rw [e, bis_clamp (c := x + 13) (fun i hi => by (try dsimp only); rw [downs_at i (by omega)]; omega) (by omega) b, Int.toNat_of_nonneg h0, Int.toNat_of_nonneg (Int.le_trans h0 h1)]
end
theorem clampI_shift (a b x : Int) : clampI (a + 12) (b + 12) (x - 0 + 12) - 12 = clampI a b x := by
  unfold clampI
  by_cases h1 : x < a
  · rw [if_pos (show x - 0 + 12 < a + 12 by omega), if_pos h1]; omega
  · rw [if_neg (show ¬ x - 0 + 12 < a + 12 by omega), if_neg h1]
    by_cases h2 : b < x
    · rw [if_pos (show b + 12 < x - 0 + 12 by omega), if_pos h2]; omega
    · rw [if_neg (show ¬ b + 12 < x - 0 + 12 by omega), if_neg h2]; omega

theorem quiet2 : True := by
  w_top off
  trivial
example : True := by
  k_with "exec For Name Call cons nil" => (refine Hold.mk ?_)
  k_with "call ref" => (k_here; (with_reducible show wpAny _ _ (call (Value.ref _) [Value.ref _]) _ _ _); refine Hold.mk ?_)
  k_with "pyIter ref" => (k_here; (with_reducible show wpAny _ _ (pyIter (Value.ref _)) _ _ _); refine Hold.mk ?_)
  k_with "call builtin:list.append" => (k_here; refine Hold.mk ?_)
  trivial

theorem told_con (w : World) (l : Addr) (vs : List Value) (ns : List Int) (val : Nat → Int) (N : Nat) (fin : Bool) (hi0 : IntsAre vs ns) (hok : okAt fin val N ns none) (hf : fin = true → N ≤ 5) (hf' : fin = false → N = 6) :
    ConG prg w (hd.heap_1 w.params) 67 4 [.ref l] (fun h => h.IsList l vs.toArray) ((List.range (min N 5)).map fun j => val (N - 1 - j)) := by
  show (fun (_ : OpenLaw) => ConG prg w (hd.heap_1 w.params) 67 4 [.ref l] (fun h => h.IsList l vs.toArray) ((List.range (min N 5)).map fun j => val (N - 1 - j))) PySem.Challenge.rw_tc0007_01
  k_fill
  dsimp only
  intro pp loose mean mg mb dp un gd base outer s Q E B X T hd hu hpre hret
  k_extra "tc:enter"
  intro L' h₁ F' N'
  k_steps
  refine Hold.of ?_
  rename Fr _ _ _ _ => F'; rename News _ _ _ _ => N'
  refine wpAny_For ?_
  k_steps
  refine Hold.of ?_
  rename Fr _ _ _ _ => F'; rename News _ _ _ _ => N'
  refine gen_call F' X N' T rfl (by k_is) ?hroom rfl (locs rfl) ?_ rfl rfl rfl (by decide)
  case hroom => dsimp only [Around.deeper, Around.in1, aroundOf]; omega
  rename_i tk0 D hx l1 hy
  intro Lg G h₂ oL og tk₂ FG FL hg hLg hG hk hGn hGl hne
  refine wpAny_pyIter_gen hg ?_
  dsimp only
  have hD := N' _ (.head _)
  have hLL : L' ≠ Lg ∧ L' ≠ G := by
    obtain ⟨o, es, ep, e, _⟩ := F'.ns
    exact (hk _ _ e).2
  have hLn : s.heap.get? Lg = none := Heap.get?_none_of_le FG.above
  have NL0 : News s.heap L' h₂ ((D, listOf #[] 0) :: (G, og) :: [(Lg, oL)]) := by
    intro q hq
    rcases List.mem_cons.mp hq with rfl | hq
    · exact ⟨(hk _ _ hD.1).1, hD.2⟩
    · rcases List.mem_cons.mp hq with rfl | hq
      · exact ⟨hG, hLL.2.symm, hGn⟩
      · rw [List.mem_singleton.mp hq]
        exact ⟨hLg, hLL.1.symm, hLn⟩
  have hks : ∀ b ∈ [L', D, G], b ≠ Lg ∧ s.heap.get? b = none := by
    intro b hb
    rcases List.mem_cons.mp hb with rfl | hb
    · exact ⟨hLL.1, Heap.get?_none_of_le F'.above⟩
    · rcases List.mem_cons.mp hb with rfl | hb
      · exact ⟨(hk _ _ hD.1).2.1, hD.2.2⟩
      · rw [List.mem_singleton.mp hb]
        exact ⟨hne.symm, hGn⟩
  have hGD : G ≠ D := (hk _ _ hD.1).2.2.symm
  refine loopG (D := D) (val := val) (N := N) (fin := fin) (vl₀ := none) (mp := fun vl y => if y = Str.ofString "size" then vl else if y = Str.ofString "told" then some (.ref D) else if y = Str.ofString "sizes" then some (.ref l) else none) rfl ?hroom T.nolimit hf hf' (Fr_ext FL ?hmp) NL0 hg hGl hLL.1 (hk _ _ hD.1).2.1 rfl ?go ?turn ?done
  case hroom => dsimp only [Around.deeper, Around.in1, aroundOf]; omega
  case hmp =>
    intro y
    by_cases h1 : y = Str.ofString "size"
    · subst h1; rfl
    · rw [if_neg h1]
      by_cases h2 : y = Str.ofString "told"
      · rw [if_pos h2, if_pos h2]
      · rw [if_neg h2, if_neg h2]
        show List.lookup y [(Str.ofString "sizes", Value.ref l)] = _
        by_cases h3 : y = Str.ofString "sizes"
        · subst h3; rfl
        · rw [if_neg h3]
          have h4 : (y == Str.ofString "sizes") = false := by simpa using h3
          simp only [List.lookup, h4]
  case go =>
    intro s₁ k1 k2
    have FL : Fr s.heap Lg s₁.heap (lM [(Str.ofString "grouping", .ref l)]) := by
      obtain ⟨o, es, ep, e, r⟩ := FG.ns
      rw [hLg] at e
      cases e
      exact ⟨⟨oL, es, ep, k2 _ (.head _), r⟩, k1, FG.above⟩
    obtain ⟨kept, hkp⟩ := kept_ex s₁.heap [L', D, G]
    have NL : News s.heap Lg s₁.heap kept := fun q hq => ⟨(hkp.1 q hq).2.1, hks _ (hkp.1 q hq).1⟩
    clear F' N' hg hk FG hD hLg hG NL0
    refine ⟨rfl, seg_func (seg_execs_cons (seg_stmt ?_))⟩
    k_steps
    rename Fr _ _ _ _ => F'; rename News _ _ _ _ => N'
    dsimp only
    refine seg_execs_cons (seg_For ?_)
    k_steps
    refine Hold.of ?_
    rename Fr _ _ _ _ => F'; rename News _ _ _ _ => N'
    refine wpAny_pyIter_list (isList_keeps F'.keep hpre) ?_
    dsimp only
    intro pz
    rename Heap => hF
    have hIL : hF.objs.size ≠ Lg := Nat.ne_of_gt F'.ns.lt
    have hIn : s.heap.get? hF.objs.size = none := Heap.get?_none_of_le (Nat.le_trans F'.above (Nat.le_of_lt F'.ns.lt))
    refine seg_ind (fun sfx n s₀ s₂ => ∃ i last lv vl, okAt fin val n sfx last ∧ ns.drop i = sfx ∧ LastIs last lv ∧ Fr s.heap Lg s₂.heap (mG l vl lv) ∧ s₂.heap.IsListIter hF.objs.size l i ∧ MovedG s.heap [L', D, G] s₀ s₂) ?nil ?cons ns N s₁ _ ⟨0, none, .none, none, hok, rfl, rfl, Fr_ext (F'.push _) ?e, ⟨_, Heap.get?_push_size _ rfl, rfl, rfl⟩, (MovedG.refl s₁ k1).step hkp (F'.push _).keep (fun q hq => Heap.get?_push_of_some _ (N' q hq).1)⟩
    case e =>
      intro y
      by_cases h1 : y = Str.ofString "interval"
      · subst h1; rfl
      · rw [mG, if_neg h1]
        by_cases h2 : y = Str.ofString "last_interval"
        · rw [if_pos h2, if_pos h2]
        · rw [if_neg h2, if_neg h2]
          by_cases h3 : y = Str.ofString "grouping"
          · subst h3; rfl
          · rw [if_neg h3]
            have h4 : (y == Str.ofString "grouping") = false := by simpa using h3
            simp only [List.lookup, h4]
    case nil =>
      clear F' N' hkp kept
      rintro n s₀ s₂ ⟨i, last, lv, vl, hok2, hdr, -, F', hit, mv⟩
      refine seg_forLoop ?_
      refine wpAny_pyNext_list_end rfl hit (isList_keeps F'.keep hpre) (ints_end hi0 hdr) ?_
      intro h5 hx5
      dsimp only
      refine seg_block (seg_execs_nil ?_)
      refine seg_leaf (.ok .next) ?_
      refine seg_end (.ok (.ret .none)) ⟨rfl, hok2, ?_⟩
      obtain ⟨kept, hkp⟩ := kept_ex s₂.heap [L', D, G]
      obtain ⟨oI, hoI, hI1, hI2⟩ := hit
      refine mv.step hkp (fun b o e => hx5 _ _ (fun e' => ?_) (F'.keep b o e)) fun q hq => hx5 _ _ (fun e' => ?_) (hkp.1 q hq).2.1
      · rw [e', hIn] at e; cases e
      · obtain ⟨a1, a2, a3⟩ := hkp.1 q hq
        rw [e', hoI] at a2
        cases a2
        exact a3 ⟨l, i, hI2⟩
    case cons =>
      clear F' N' hkp kept
      rintro x r ih n s₀ s₂ ⟨i, last, lv, vl, hok2, hdr, hlast, F', hit, mv⟩
      obtain ⟨⟨t, hit2⟩, hdr2⟩ := ints_drop hi0 hdr
      obtain ⟨kept, hkp⟩ := kept_ex s₂.heap [L', D, G]
      refine seg_forLoop ?_
      refine wpAny_pyNext_list_item hit (isList_keeps F'.keep hpre) hit2 ?_
      intro h5 hit5 hx5
      dsimp only
      have F5 := F'.change hx5 hIL hIn
      obtain ⟨oI, hoI, hI1, hI2⟩ := hit
      obtain ⟨o5, ho5, hI3, hI4⟩ := hit5
      have N' : News s.heap Lg h5 ((hF.objs.size, o5) :: kept) := by
        intro q hq
        rcases List.mem_cons.mp hq with rfl | hq
        · exact ⟨ho5, hIL, hIn⟩
        · obtain ⟨a1, a2, a3⟩ := hkp.1 q hq
          refine ⟨(hx5.2 _ fun e => a3 ?_).trans a2, hks _ a1⟩
          rw [e, hoI] at a2
          cases a2
          exact ⟨l, i, hI2⟩
      have mv2 : ∀ (h' : Heap) tk', s.heap.StaysIn h' → (∀ q ∈ kept, h'.get? q.1 = some q.2) → MovedG s.heap [L', D, G] s₀ { s₂ with heap := h', toks := tk' } := fun h' tk' a b => mv.step hkp a b
      clear F' hoI hx5 ho5 mv hkp hit2
      rw [okAt] at hok2
      k_steps
      rename Fr _ _ _ _ => F'; rename News _ _ _ _ => N'
      refine seg_execs_cons (seg_If ?_)
      k_steps
      · rename x = 127 => h127
        rename Fr _ _ _ _ => F'; rename News _ _ _ _ => N'
        rw [if_pos h127] at hok2
        refine seg_execs_cons (seg_stmt ?_)
        k_steps
        dsimp only
        refine seg_leaf (.ok (.ret .none)) ?_
        refine seg_end (.ok (.ret .none)) ⟨rfl, hok2, ?_⟩
        exact mv2 _ _ F'.keep fun q hq => (N' q (.tail _ hq)).1
      · rename x ≠ 127 => h127
        rename Fr _ _ _ _ => F'; rename News _ _ _ _ => N'
        rw [if_neg h127] at hok2
        refine seg_execs_nil ?_
        dsimp only
        refine seg_execs_cons (seg_If ?_)
        k_steps
        · rename x = 0 => h0
          rename Fr _ _ _ _ => F'; rename News _ _ _ _ => N'
          rw [if_pos h0] at hok2
          obtain ⟨hfin, hn0, y, rfl, hval⟩ := hok2
          obtain ⟨ty, rfl⟩ := hlast
          refine seg_execs_cons (seg_If ?_)
          k_steps
          refine seg_execs_nil ?_
          dsimp only
          refine seg_execs_cons (seg_While ?_)
          intro pw
          refine seg_indN (fun n s₀ s₂ => ∃ vl, (∀ j, j < n → val j = y) ∧ Fr s.heap Lg s₂.heap (mG l vl (.int y ty)) ∧ s₂.heap.get? hF.objs.size = some o5 ∧ MovedG s.heap [L', D, G] s₀ s₂) ?_ n s₀ _ ⟨some (.int x t), hval, Fr_ext F' ?e2, (N' _ (.head _)).1, mv2 _ _ F'.keep fun q hq => (N' q (.tail _ hq)).1⟩ hn0
          case e2 =>
            intro z
            by_cases h1 : z = Str.ofString "interval"
            · subst h1; rfl
            · simp only [mG, if_neg h1]
          clear F' N' mv2 kept hval
          rintro n ih2 s₀ s₃ ⟨vl, hval, F', hI5, mv⟩
          obtain ⟨kept, hkp⟩ := kept_ex s₃.heap [L', D, G]
          have N' : News s.heap Lg s₃.heap ((hF.objs.size, o5) :: kept) := by
            intro q hq
            rcases List.mem_cons.mp hq with rfl | hq
            · exact ⟨hI5, hIL, hIn⟩
            · exact ⟨(hkp.1 q hq).2.1, hks _ (hkp.1 q hq).1⟩
          have mv2 : ∀ (h' : Heap) tk', s.heap.StaysIn h' → (∀ q ∈ kept, h'.get? q.1 = some q.2) → MovedG s.heap [L', D, G] s₀ { s₃ with heap := h', toks := tk' } := fun h' tk' a b => mv.step hkp a b
          clear hkp hI5 mv
          refine seg_whileLoop ?_
          k_steps
          refine seg_execs_cons (seg_Expr_Yield rfl rfl rfl ?_)
          k_steps
          rename_i kap hkap
          obtain ⟨oL2, es, ep, eL, rL⟩ := F'.ns
          refine ⟨ty, [(Lg, oL2), (hF.objs.size, o5)], by rw [hval _ (Nat.lt_succ_self _)], mv2 _ _ F'.keep (fun q hq => (N' q (.tail _ hq)).1), ?rest, fun hfn s₄ k1 k2 => hkap .none s₄ ?_⟩
          case rest =>
            intro q hq
            rcases List.mem_cons.mp hq with rfl | hq
            · exact ⟨eL, hLn, .inl rfl⟩
            · rw [List.mem_singleton.mp hq]
              exact ⟨(N' _ (.head _)).1, hIn, .inr ⟨l, i + 1, hI4⟩⟩
          dsimp only
          refine seg_execs_nil ?_
          refine seg_again rfl (ih2 s₄ s₄ ⟨vl, fun j hj => hval j (Nat.lt_succ_of_lt hj), ⟨⟨oL2, es, ep, k2 _ (.head _), rL⟩, k1, F'.above⟩, k2 _ (.tail _ (.head _)), MovedG.refl s₄ k1⟩ ?_)
          rcases Nat.eq_zero_or_pos n with e | e
          · have := hfn e; rw [hfin] at this; cases this
          · exact e
        · rename x ≠ 0 => h0
          rename Fr _ _ _ _ => F'; rename News _ _ _ _ => N'
          rw [if_neg h0] at hok2
          obtain ⟨m, rfl, hval, hok2⟩ := hok2
          refine seg_execs_nil ?_
          dsimp only
          refine seg_execs_cons (seg_Expr_Yield rfl rfl rfl ?_)
          k_steps
          rename_i kap hkap
          obtain ⟨oL2, es, ep, eL, rL⟩ := F'.ns
          refine ⟨t, [(Lg, oL2), (hF.objs.size, o5)], by rw [hval], mv2 _ _ F'.keep (fun q hq => (N' q (.tail _ hq)).1), ?rest, fun hfin s₃ k1 k2 => hkap .none s₃ ?_⟩
          case rest =>
            intro q hq
            rcases List.mem_cons.mp hq with rfl | hq
            · exact ⟨eL, hLn, .inl rfl⟩
            · rw [List.mem_singleton.mp hq]
              exact ⟨(N' _ (.head _)).1, hIn, .inr ⟨l, i + 1, hI4⟩⟩
          have F2 : Fr s.heap Lg s₃.heap _ := ⟨⟨oL2, es, ep, k2 _ (.head _), rL⟩, k1, F'.above⟩
          clear F' N' mv2 kept
          obtain ⟨kept, hkp⟩ := kept_ex s₃.heap [L', D, G]
          have N' : News s.heap Lg s₃.heap ((hF.objs.size, o5) :: kept) := by
            intro q hq
            rcases List.mem_cons.mp hq with rfl | hq
            · exact ⟨k2 _ (.tail _ (.head _)), hIL, hIn⟩
            · exact ⟨(hkp.1 q hq).2.1, hks _ (hkp.1 q hq).1⟩
          dsimp only
          refine seg_execs_cons (seg_stmt ?_)
          k_steps
          rename Fr _ _ _ _ => F'; rename News _ _ _ _ => N'
          dsimp only
          refine seg_execs_nil ?_
          refine seg_again rfl (ih m s₃ _ ⟨i + 1, some x, .int x t, some (.int x t), hok2, hdr2, ⟨t, rfl⟩, Fr_ext F' ?e3, ⟨o5, (N' _ (.head _)).1, hI3, hI4⟩, (MovedG.refl s₃ k1).step hkp F'.keep fun q hq => (N' q (.tail _ hq)).1⟩)
          intro z
          by_cases h1 : z = Str.ofString "interval"
          · subst h1; rfl
          · by_cases h2 : z = Str.ofString "last_interval"
            · subst h2; rfl
            · simp only [mG, if_neg h1, if_neg h2]
  case turn =>
    clear F' N' hg hk FL FG NL0 hD hLg hG
    intro j h tk gs rest c ys vl t hjN hj5 F' N' hrD hys hb
    have hsz : ys.toArray.size = j := by rw [List.size_toArray, hys.length, firsts, List.length_map, List.length_range]
    k_steps
    · rename Fr _ _ _ _ => F'; rename News _ _ _ _ => N'
      refine Or.inr ⟨rfl, ?_⟩
      have hj : j = 5 := by omega
      subst hj
      k_steps
      dsimp only
      exact hret D ys c _ _ gs F'.keep (N' _ (.head _)).2.2 (N' _ (.head _)).1 (by rw [Nat.min_eq_right (by omega)]; exact hys) hb
    · rename Fr _ _ _ _ => F'; rename News _ _ _ _ => N'
      refine Hold.of ?_
      refine append_K F' N' (Upd.head ?u) ?_ ?z
      case u =>
        intro q hq
        rcases List.mem_cons.mp hq with rfl | hq
        · exact hGD
        · exact hrD q hq
      case z => rw [hsz, PySem.sizeLine_eq]; omega
      clear F' N'
      intro h5 F' N'
      dsimp only
      k_steps
      refine Or.inl ⟨rfl, by omega, _, _, _, _, some (.int (val (N - 1 - j)) t), rfl, Fr_ext F' ?e, by rw [List.push_toArray] at N'; exact N', ?i⟩
      case e =>
        intro y
        dsimp only
        by_cases h1 : y = Str.ofString "size"
        · rw [if_pos h1, if_pos h1]
        · rw [if_neg h1, if_neg h1, if_neg h1]
      case i =>
        rw [firsts, List.range_succ, List.map_append]
        exact IntsAre.append hys (.cons _ _ .nil)
  case done =>
    clear F' N' hg hk FL FG NL0 hD hLg hG
    intro h tk c ys vl x hb F' N' hys hN5
    k_steps
    dsimp only
    exact hret D ys c h _ x F'.keep (N' _ (.head _)).2.2 (N' _ (.head _)).1 (by rw [Nat.min_eq_left hN5]; exact hys) hb

example : True := by
  k_with_none
  k_with "tc:enter" => (
    refine wpAny_call ?_
    k_dflt (refine' con_enter (by assumption) (by assumption) (by assumption) ?zzk1 ?zzk2 ?zzk3 ?zzk4 ?zzk5 ?_ ?zzc1 ?zzc2 ?zzc3 ?zzc4; (case zzk1 => k_is); (case zzk2 => k_is); (case zzk3 => omega); (case zzk4 => first | exact BindsTo.of_eq rfl | exact kp_binds (by assumption) (fun _ => rfl)); (case zzc4 => decide); (case zzk5 => exact locs rfl); (case zzc1 => exact rfl); (case zzc2 => exact rfl); (case zzc3 => exact rfl); k_whole))
  k_with "tc:len" => (first | omega | ((try simp only [List.length_drop, List.length_take, List.length_append, List.length_cons, List.length_nil, List.length_reverse]); omega))
  k_with "tc:cl" => (first
    | exact cl_nat (by k_extra "tc:len")
    | exact cl_neg (by k_extra "tc:len")
    | exact cl_succ (by k_extra "tc:len")
    | exact cl_min _ _)
  k_with "subscriptTail Name Slice str ref" => (k_here; (with_reducible rename Fr _ _ _ _ => zzkF); (with_reducible rename News _ _ _ _ => zzkN); (with_reducible (first
    | (refine' sl_sn (s := ⟨_, _, _, _, _⟩) zzkF zzkN ?zzz ?zze ?_; (case zzz => k_extra "tc:len"); (case zze => k_extra "tc:cl"); k_whole; intro _ _ _ _ _ _)
    | (refine' sl_ns (s := ⟨_, _, _, _, _⟩) zzkF zzkN ?zzz ?zze ?_; (case zzz => k_extra "tc:len"); (case zze => k_extra "tc:cl"); k_whole; intro _ _ _ _ _ _)
    | (refine' sl_nn (s := ⟨_, _, _, _, _⟩) zzkF zzkN ?zzz ?_; (case zzz => k_extra "tc:len"); k_whole; intro _ _ _ _ _)
    | (refine' sl_ss (s := ⟨_, _, _, _, _⟩) zzkF zzkN ?zzz ?zze ?zzf ?_; (case zzz => k_extra "tc:len"); (case zze => k_extra "tc:cl"); (case zzf => k_extra "tc:cl"); k_whole; intro _ _ _ _ _ _))); (try k_sweep))
  k_with "tc:item" => (k_here; (with_reducible show wpAny _ _ (subscriptTail _ _ (Value.str (Str.mk (List.toArray _)) _) (Value.int _ _)) _ _ _); (with_reducible refine it_str ?zzz ?zza ?zzb ?_); (case zzz => k_extra "tc:len"); (case zza => k_extra "tc:len"); (case zzb => k_extra "tc:len"); k_whole; intro _)
  k_with "subscriptTail Name Name str int" => (k_extra "tc:item")
  k_with "subscriptTail Name BinOp str int" => (k_extra "tc:item")
  k_with "subscriptTail Name Constant str int" => (k_extra "tc:item")
  k_with "subscriptTail Constant Call str int" => (k_extra "tc:item")
  k_with "truthy str" => (k_here; (with_reducible show wpAny _ _ (PySem.truthy (Value.str (Str.mk (List.toArray _)) _)) _ _ _); (refine tr_str ?zzz ?_ ?_; (case zzz => k_extra "tc:len"); (all_goals intro _ _); (all_goals (try (exfalso; omega)))))
  k_with "call builtin:len" => (k_here; (with_reducible show wpAny _ _ (call (Value.builtin "len") [Value.str (Str.mk (List.toArray _)) _]) _ _ _); k_dflt (refine' len_strL ?zzz ?_; (case zzz => k_extra "tc:len"); intro _))
  k_with "eval Name local" => (fail "none")
  k_with "exec While BoolOp cons nil" => (refine Hold.mk ?_)
  k_with "exec If Compare cons nil" => ((with_reducible show wpAny _ _ (exec (Stmt.If _ [Stmt.Assign [Expr.Tuple _ _ _] _ _] [] _) _) _ _ _); refine Hold.mk ?_)
  k_with "pyIter ref" => (k_here; (with_reducible show wpAny _ _ (pyIter (Value.ref _)) (fun it s₂ => LoopAtV _ _ _ _ _ _ _ _ _ it s₂) _ _); refine Hold.mk ?_)
  k_with "exec For Name Call cons nil" => (k_here; (rename Fr _ _ _ _ => zzlF'); (with_unfolding_all refine' For_invVF zzlF' ?zzk1 ?zzk2 ?_; (case zzk1 => exact rfl); (case zzk2 => exact rfl); k_whole))
  k_with "call type:list" => ((with_reducible show wpAny _ _ (call (Value.type "list") [Value.ref _]) _ _ _); refine Hold.mk ?_)
  k_with "tc:dep" => (first | omega | ((simp only [Around.deeper, Around.in1, aroundOf] at *); omega) | (dsimp only [Around.deeper, Around.in1, aroundOf]; omega))
  k_with "tc:own" => (first
    | exact OwnOff.ne (by assumption) (by simp)
    | (intro zzq zzhq; rcases List.mem_append.mp zzhq with zzhq | zzhq <;> exact OwnOff.ne (by assumption) (by simp) zzq zzhq))
  k_with "setItem ref int" => (k_here; (with_reducible show wpAny _ _ (setItem (Value.ref _) (Value.int _ _) (Value.int _ _)) _ _ _); k_dflt (refine' ksa_set ?zzk1 ?zzk2 (Upd.head ?zzk3) ?zzk4 ?zzk5 ?zzk6 ?zzk7 ?_; (case zzk1 => k_asm); (case zzk2 => k_asm); (case zzk3 => k_extra "tc:own"); (case zzk4 => with_reducible assumption); (case zzk5 => omega); (case zzk6 => omega); (case zzk7 => omega); k_whole); intro _ _ _ _ _ zzhs'; clear zzhs'; (try k_sweep))
  k_with "exec While BoolOp cons cons nil" => (refine Hold.mk ?_)
  k_with "exec While Compare cons nil" => (refine Hold.mk ?_)
  k_with "binaryOp FloorDiv int int" => (k_here; (with_reducible refine half_nat ?_))
  k_with "tc:use" => (
    (case zzB => k_asm); (case zzF => k_asm); (case zzX => k_asm); (case zzN => k_asm); (case zzT => k_asm); (case zzh1 => exact rfl); (case zzh2 => exact rfl); (case zzh3 => exact rfl); (case zzh4 => exact rfl); (case zzh5 => (dsimp only [Around.deeper, Around.in1, aroundOf]; omega)); (case zzh6 => (dsimp only [Around.deeper, Around.in1, aroundOf]; omega)))
  k_with "tc:omega" => (first
    | ((repeat (with_reducible rename @Ne Nat _ _ => zzhh; clear zzhh)); (repeat (with_reducible rename (@Ne Nat _ _) ∧ _ => zzhh; clear zzhh)); (repeat (with_reducible rename ((@Ne Nat _ _) ∧ _) ∧ _ => zzhh; clear zzhh)); omega (splitDisjunctions := true))
    | omega (splitDisjunctions := true))
  k_with "tc:pr" => ((with_reducible rename _ ∧ _ => zzhh); first
    | exact zzhh.1 | exact zzhh.1.symm | exact Nat.ne_of_lt zzhh.1 | exact Nat.ne_of_gt zzhh.1
    | exact zzhh.2 | exact zzhh.2.symm | exact Nat.ne_of_lt zzhh.2 | exact Nat.ne_of_gt zzhh.2
    | (have zzh1 := zzhh.1; have zzh2 := zzhh.2; clear zzhh; k_extra "tc:pr"))
  k_with "tc:ne" => (refine neN ?_; (try dsimp only); with_reducible (first | assumption | exact Ne.symm (by assumption) | exact Nat.ne_of_gt (by k_extra "tc:up") | exact Nat.ne_of_lt (by k_extra "tc:up") | k_extra "tc:pr"))
  k_with "tc:up" => (with_reducible (first | exact up_s _ | assumption | k_extra "tc:prl" | (refine up_t ?_; k_extra "tc:up")))
  k_with "tc:prl" => ((with_reducible rename _ ∧ _ => zzhh); first
    | exact zzhh.1 | exact zzhh.2
    | (have zzh2 := zzhh.2; clear zzhh; k_extra "tc:prl"))
  trivial

example : True := by
  k_with "tc:enterC" => (
    refine wpAny_call ?_
    k_dflt (refine' con_enterC (by assumption) (by assumption) (by assumption) ?zzk1 ?zzk2 ?zzk3 ?zzk4 ?zzk5 ?zzk6 ?_ ?zzc1 ?zzc2 ?zzc3; (case zzk1 => k_is); (case zzk2 => k_is); (case zzk3 => omega); (case zzk4 => first | exact BindsTo.of_eq rfl | exact kp_binds (by assumption) (fun _ => rfl)); (case zzk5 => exact rfl); (case zzk6 => decide +kernel); (case zzc1 => exact rfl); (case zzc2 => exact rfl); (case zzc3 => exact rfl); k_whole))
  k_with "CompSrc" => (k_here; refine Hold.mk ?_)
  k_with "eval Name" => (k_here; k_dflt (refine' name_free ?zzF ?zzc ?zzC ?_ ?zza ?zzb; (case zza => rfl); (case zzb => rfl); (case zzF => k_asm); (case zzc => rfl); (case zzC => with_reducible assumption); k_whole))
  k_with "binaryOp Add str str" => (k_here; (with_reducible show wpAny _ _ (binaryOp Operator.Add (Value.str (Str.mk (List.toArray _)) _) (Value.str (Str.mk (List.toArray _)) _)) _ _ _); (refine add_strL ?zzz ?_); (case zzz => k_extra "tc:len"); intro _ _)
  k_with "tc:cl" => (exact cl_add (by k_extra "tc:len"))
  trivial

theorem grown_con (w : World) (a b : List Nat) (ta tb : Tok) (hla : a.length ≤ 40) (hlb : b.length ≤ 40) : Con prg w (hd.heap_1 w.params) 84 2 [.str ⟨a.toArray⟩ ta, .str ⟨b.toArray⟩ tb] (fun _ => True) (fun v _ => v = .bool (grownOf a b)) := by
  show (fun (_ : OpenLaw) => Con prg w (hd.heap_1 w.params) 84 2 [.str ⟨a.toArray⟩ ta, .str ⟨b.toArray⟩ tb] (fun _ => True) (fun v _ => v = .bool (grownOf a b))) PySem.Challenge.rw_tc0007_01
  k_fill
  dsimp only
  intro pp loose mean mg mb dp un gd base outer s Q E B X T hd hu hpre hret
  k_extra "tc:enterC"
  intro L' h₁ tk' cells F' N' Y
  k_cells Y
  k_steps
  · refine Hold.of ?_
    have hlt : a.length < b.length := by omega
    have hmore : (if (a.length : Int) - b.length < 0 then -((a.length : Int) - b.length) else (a.length : Int) - b.length) = ((b.length - a.length : Nat) : Int) := by
      split <;> omega
    rename IsRange _ _ _ _ _ _ _ _ => rgX
    rename Fr _ _ _ _ => F'; rename News _ _ _ _ => N'
    rename (_ : Obj).data = Data.cell (some (Value.int _ _)) => hcM
    rw [hmore] at hcM
    refine LCg.CompSrc.range (n := a.length + 1) (b := (a.length : Int) + 1) rfl F' N' rgX (small_one (by omega) (by omega) (by omega) (by omega)) ((rangeSize_nat _ _).trans (by omega)) (by rw [PySem.sizeLine_eq]; omega) ?_
    intro g2
    refine kct_range (cutOf b (b.length - a.length)) ?turn ?fin
    case turn =>
      clear F' N' rgX
      intro k tt I oI C oC D m₂ zs h tk E' k1 k2 hC hx F' N' off ne hmk
      obtain ⟨i, rfl⟩ : ∃ i : Nat, k = i := ⟨k.toNat, by omega⟩
      have off0 := off
      simp only [LCg.Off3] at off
      k_steps
      all_goals exact kct_el (by rw [cutOf, Int.toNat_natCast]) rfl rfl
    case fin =>
      k_steps
      rename Fr _ _ _ _ => F'
      exact hret _ _ _ F'.keep (by rw [grown_any, grownOf, if_pos hlt])
  · refine Hold.of ?_
    have hlt : ¬ a.length < b.length := by omega
    have hmore : (if (a.length : Int) - b.length < 0 then -((a.length : Int) - b.length) else (a.length : Int) - b.length) = ((a.length - b.length : Nat) : Int) := by
      split <;> omega
    rename IsRange _ _ _ _ _ _ _ _ => rgX
    rename Fr _ _ _ _ => F'; rename News _ _ _ _ => N'
    rename (_ : Obj).data = Data.cell (some (Value.int _ _)) => hcM
    rw [hmore] at hcM
    refine LCg.CompSrc.range (n := b.length + 1) (b := (b.length : Int) + 1) rfl F' N' rgX (small_one (by omega) (by omega) (by omega) (by omega)) ((rangeSize_nat _ _).trans (by omega)) (by rw [PySem.sizeLine_eq]; omega) ?_
    intro g2
    refine kct_range (cutOf a (a.length - b.length)) ?turn ?fin
    case turn =>
      clear F' N' rgX
      intro k tt I oI C oC D m₂ zs h tk E' k1 k2 hC hx F' N' off ne hmk
      obtain ⟨i, rfl⟩ : ∃ i : Nat, k = i := ⟨k.toNat, by omega⟩
      have off0 := off
      simp only [LCg.Off3] at off
      k_steps
      all_goals exact kct_el (by rw [cutOf, Int.toNat_natCast]) rfl rfl
    case fin =>
      k_steps
      rename Fr _ _ _ _ => F'
      exact hret _ _ _ F'.keep (by rw [grown_any, grownOf, if_neg hlt])

example : True := by
  k_with_none
  k_with "tc:enter" => (
    refine wpAny_call ?_
    k_dflt (refine' con_enter (by assumption) (by assumption) (by assumption) ?zzk1 ?zzk2 ?zzk3 ?zzk4 ?zzk5 ?_ ?zzc1 ?zzc2 ?zzc3 ?zzc4; (case zzk1 => k_is); (case zzk2 => k_is); (case zzk3 => omega); (case zzk4 => first | exact BindsTo.of_eq rfl | exact kp_binds (by assumption) (fun _ => rfl)); (case zzc4 => decide); (case zzk5 => exact locs rfl); (case zzc1 => exact rfl); (case zzc2 => exact rfl); (case zzc3 => exact rfl); k_whole))
  k_with "tc:len" => (first | omega | ((try simp only [List.length_drop, List.length_take, List.length_append, List.length_cons, List.length_nil, List.length_reverse]); omega))
  k_with "tc:cl" => (first
    | exact cl_nat (by k_extra "tc:len")
    | exact cl_neg (by k_extra "tc:len")
    | exact cl_succ (by k_extra "tc:len")
    | exact cl_min _ _)
  k_with "subscriptTail Name Slice str ref" => (k_here; (with_reducible rename Fr _ _ _ _ => zzkF); (with_reducible rename News _ _ _ _ => zzkN); (with_reducible (first
    | (refine' sl_sn (s := ⟨_, _, _, _, _⟩) zzkF zzkN ?zzz ?zze ?_; (case zzz => k_extra "tc:len"); (case zze => k_extra "tc:cl"); k_whole; intro _ _ _ _ _ _)
    | (refine' sl_ns (s := ⟨_, _, _, _, _⟩) zzkF zzkN ?zzz ?zze ?_; (case zzz => k_extra "tc:len"); (case zze => k_extra "tc:cl"); k_whole; intro _ _ _ _ _ _)
    | (refine' sl_nn (s := ⟨_, _, _, _, _⟩) zzkF zzkN ?zzz ?_; (case zzz => k_extra "tc:len"); k_whole; intro _ _ _ _ _)
    | (refine' sl_ss (s := ⟨_, _, _, _, _⟩) zzkF zzkN ?zzz ?zze ?zzf ?_; (case zzz => k_extra "tc:len"); (case zze => k_extra "tc:cl"); (case zzf => k_extra "tc:cl"); k_whole; intro _ _ _ _ _ _))); (try k_sweep))
  k_with "tc:item" => (k_here; (with_reducible show wpAny _ _ (subscriptTail _ _ (Value.str (Str.mk (List.toArray _)) _) (Value.int _ _)) _ _ _); (with_reducible refine it_str ?zzz ?zza ?zzb ?_); (case zzz => k_extra "tc:len"); (case zza => k_extra "tc:len"); (case zzb => k_extra "tc:len"); k_whole; intro _)
  k_with "subscriptTail Name Name str int" => (k_extra "tc:item")
  k_with "subscriptTail Name BinOp str int" => (k_extra "tc:item")
  k_with "subscriptTail Name Constant str int" => (k_extra "tc:item")
  k_with "subscriptTail Constant Call str int" => (k_extra "tc:item")
  k_with "truthy str" => (k_here; (with_reducible show wpAny _ _ (PySem.truthy (Value.str (Str.mk (List.toArray _)) _)) _ _ _); (refine tr_str ?zzz ?_ ?_; (case zzz => k_extra "tc:len"); (all_goals intro _ _); (all_goals (try (exfalso; omega)))))
  k_with "call builtin:len" => (k_here; (with_reducible show wpAny _ _ (call (Value.builtin "len") [Value.str (Str.mk (List.toArray _)) _]) _ _ _); k_dflt (refine' len_strL ?zzz ?_; (case zzz => k_extra "tc:len"); intro _))
  k_with "eval Name local" => (fail "none")
  k_with "exec While BoolOp cons nil" => (refine Hold.mk ?_)
  k_with "exec If Compare cons nil" => ((with_reducible show wpAny _ _ (exec (Stmt.If _ [Stmt.Assign [Expr.Tuple _ _ _] _ _] [] _) _) _ _ _); refine Hold.mk ?_)
  k_with "pyIter ref" => (k_here; (with_reducible show wpAny _ _ (pyIter (Value.ref _)) (fun it s₂ => LoopAtV _ _ _ _ _ _ _ _ _ it s₂) _ _); refine Hold.mk ?_)
  k_with "exec For Name Call cons nil" => (k_here; (rename Fr _ _ _ _ => zzlF'); (with_unfolding_all refine' For_invVF zzlF' ?zzk1 ?zzk2 ?_; (case zzk1 => exact rfl); (case zzk2 => exact rfl); k_whole))
  k_with "call type:list" => ((with_reducible show wpAny _ _ (call (Value.type "list") [Value.ref _]) _ _ _); refine Hold.mk ?_)
  k_with "tc:dep" => (first | omega | ((simp only [Around.deeper, Around.in1, aroundOf] at *); omega) | (dsimp only [Around.deeper, Around.in1, aroundOf]; omega))
  k_with "tc:own" => (first
    | exact OwnOff.ne (by assumption) (by simp)
    | (intro zzq zzhq; rcases List.mem_append.mp zzhq with zzhq | zzhq <;> exact OwnOff.ne (by assumption) (by simp) zzq zzhq))
  k_with "setItem ref int" => (k_here; (with_reducible show wpAny _ _ (setItem (Value.ref _) (Value.int _ _) (Value.int _ _)) _ _ _); k_dflt (refine' ksa_set ?zzk1 ?zzk2 (Upd.head ?zzk3) ?zzk4 ?zzk5 ?zzk6 ?zzk7 ?_; (case zzk1 => k_asm); (case zzk2 => k_asm); (case zzk3 => k_extra "tc:own"); (case zzk4 => with_reducible assumption); (case zzk5 => omega); (case zzk6 => omega); (case zzk7 => omega); k_whole); intro _ _ _ _ _ zzhs'; clear zzhs'; (try k_sweep))
  k_with "exec While BoolOp cons cons nil" => (refine Hold.mk ?_)
  k_with "exec While Compare cons nil" => (refine Hold.mk ?_)
  k_with "binaryOp FloorDiv int int" => (k_here; (with_reducible refine half_nat ?_))
  k_with "tc:use" => (
    (case zzB => k_asm); (case zzF => k_asm); (case zzX => k_asm); (case zzN => k_asm); (case zzT => k_asm); (case zzh1 => exact rfl); (case zzh2 => exact rfl); (case zzh3 => exact rfl); (case zzh4 => exact rfl); (case zzh5 => (dsimp only [Around.deeper, Around.in1, aroundOf]; omega)); (case zzh6 => (dsimp only [Around.deeper, Around.in1, aroundOf]; omega)))
  k_with "tc:omega" => (first
    | ((repeat (with_reducible rename @Ne Nat _ _ => zzhh; clear zzhh)); (repeat (with_reducible rename (@Ne Nat _ _) ∧ _ => zzhh; clear zzhh)); (repeat (with_reducible rename ((@Ne Nat _ _) ∧ _) ∧ _ => zzhh; clear zzhh)); omega (splitDisjunctions := true))
    | omega (splitDisjunctions := true))
  k_with "tc:pr" => ((with_reducible rename _ ∧ _ => zzhh); first
    | exact zzhh.1 | exact zzhh.1.symm | exact Nat.ne_of_lt zzhh.1 | exact Nat.ne_of_gt zzhh.1
    | exact zzhh.2 | exact zzhh.2.symm | exact Nat.ne_of_lt zzhh.2 | exact Nat.ne_of_gt zzhh.2
    | (have zzh1 := zzhh.1; have zzh2 := zzhh.2; clear zzhh; k_extra "tc:pr"))
  k_with "tc:ne" => (refine neN ?_; (try dsimp only); with_reducible (first | assumption | exact Ne.symm (by assumption) | exact Nat.ne_of_gt (by k_extra "tc:up") | exact Nat.ne_of_lt (by k_extra "tc:up") | k_extra "tc:pr"))
  k_with "tc:up" => (with_reducible (first | exact up_s _ | assumption | k_extra "tc:prl" | (refine up_t ?_; k_extra "tc:up")))
  k_with "tc:prl" => ((with_reducible rename _ ∧ _ => zzhh); first
    | exact zzhh.1 | exact zzhh.2
    | (have zzh2 := zzhh.2; clear zzhh; k_extra "tc:prl"))
  trivial


theorem quiet3 : True := by
  w_top off
  trivial
example : True := by
  k_with "call ref" => (k_here; (with_reducible show wpAny _ _ (call (Value.ref _) [Value.str _ _, Value.str _ _]) _ _ _); k_dflt (refine' con_use (subst_con _ _ _ _ _ ?zza ?zzb) ?zzB ?zzF ?zzX ?zzN ?zzT ?zzh1 ?zzh2 ?zzh3 ?zzh4 ?zzh5 ?zzh6 ?zzh7 ?_; k_extra "tc:use"; (case zza => exact at'_lt (by assumption) _); (case zzb => exact at'_lt (by assumption) _); (case zzh7 => exact trivial)); intro _ _ _ _ _ zzhst zzhp; clear zzhst; obtain ⟨zzt'', zzhv⟩ := zzhp; subst zzhv; (try dsimp only); (try k_sweep))
  trivial

theorem lev_con (w : World) (a b : List Nat) (c : Int) (ta tb tc : Tok) (hla : a.length ≤ 40) (hlb : b.length ≤ 40) (hac : ∀ x ∈ a, x < 128) (hbc : ∀ x ∈ b, x < 128) (hc : -1000 ≤ c ∧ c ≤ 1000) : Con prg w (hd.heap_1 w.params) 28 3 [.str ⟨a.toArray⟩ ta, .str ⟨b.toArray⟩ tb, .int c tc] (fun _ => True) (fun v _ => ∃ t, v = .int (lev a b c) t) := by
  show (fun (_ : OpenLaw) => Con prg w (hd.heap_1 w.params) 28 3 [.str ⟨a.toArray⟩ ta, .str ⟨b.toArray⟩ tb, .int c tc] (fun _ => True) (fun v _ => ∃ t, v = .int (lev a b c) t)) PySem.Challenge.rw_tc0007_01
  k_fill
  dsimp only
  intro pp loose mean mg mb dp un gd base outer s Q E B X T hd hu hpre hret
  k_extra "tc:enter"
  intro L' h₁ F' N'
  dsimp only
  replace F' : Fr s.heap L' h₁ (lM [(Str.ofString "max_cost", .int c tc), (Str.ofString "b", .str ⟨b.toArray⟩ tb), (Str.ofString "a", .str ⟨a.toArray⟩ ta)]) := F'
  k_steps
  · rename Fr _ _ _ _ => F'
    dsimp only
    have e1 : a = b := by simpa using s_eq ‹(_ == _) = true›
    exact hret _ _ _ F'.keep (p_int (by simp [lev, e1]))
  · refine Hold.of ?_
    have hne : ¬ a = b := by simpa using s_eq ‹(_ == _) = false›
    rename Fr _ _ _ _ => F'; rename News _ _ _ _ => N'
    refine while_st (σ := Nat × Tok) [] (fun st y => if y = Str.ofString "pre" then some (.int (st.1 : Int) st.2) else lM [(Str.ofString "max_cost", .int c tc), (Str.ofString "b", .str ⟨b.toArray⟩ tb), (Str.ofString "a", .str ⟨a.toArray⟩ ta)] y)
      (fun st => st.1 ≤ a.length ∧ st.1 ≤ b.length ∧ strip1 (a.drop st.1) (b.drop st.1) = strip1 a b)
      (fun st => st.1 ≤ a.length ∧ st.1 ≤ b.length ∧ strip1 a b = (a.drop st.1, b.drop st.1)) (fun st => a.length - st.1) (0, _) F' N' ?_ ?_ ?_ ?_
    · simp
    · clear F' N'
      rintro ⟨p, tp⟩ h tk ⟨h1, h2, h3⟩ F' N'
      dsimp only at h1 h2 h3 F' N' ⊢
      k_steps
      · rename Fr _ _ _ _ => F'; rename News _ _ _ _ => N'
        rename (_ == _) = true => hq
        have hpa : p < a.length := by omega
        have hpb : p < b.length := by omega
        rw [str_beq, at_nat hpa, at_nat hpb] at hq
        have hq' : a[p] = b[p] := by simpa using hq
        exact Re.intro (p + 1, _) (Fr_ext F' upd_upd) N' ⟨⟨by omega, by omega, (strip1_step hpa hpb hq').trans h3⟩, by show a.length - (p + 1) < a.length - p; omega⟩
      · rename Fr _ _ _ _ => F'; rename News _ _ _ _ => N'
        rename (_ == _) = false => hq
        have hpa : p < a.length := by omega
        have hpb : p < b.length := by omega
        rw [str_beq, at_nat hpa, at_nat hpb] at hq
        have hq' : a[p] ≠ b[p] := by simpa using hq
        exact Re.intro (p, tp) F' N' ⟨h1, h2, h3.symm.trans (strip1_stop hpa hpb hq')⟩
      · rename Fr _ _ _ _ => F'; rename News _ _ _ _ => N'
        exact Re.intro (p, tp) F' N' ⟨h1, h2, h3.symm.trans (strip1_end_r (by omega))⟩
      · rename Fr _ _ _ _ => F'; rename News _ _ _ _ => N'
        exact Re.intro (p, tp) F' N' ⟨h1, h2, h3.symm.trans (strip1_end_l (by omega))⟩
    · clear F' N'
      rintro ⟨p, tp⟩ h tk ⟨h1, h2, h3⟩ F' N'
      dsimp only at h1 h2 h3 F' N' ⊢
      k_steps
      refine Hold.of ?_
      rename Fr _ _ _ _ => F'; rename News _ _ _ _ => N'
      have hl1 : (a.drop p).length ≤ 40 := by rw [List.length_drop]; omega
      have hl2 : (b.drop p).length ≤ 40 := by rw [List.length_drop]; omega
      have hac1 : ∀ x ∈ a.drop p, x < 128 := fun x hx => hac x (List.mem_of_mem_drop hx)
      have hbc1 : ∀ x ∈ b.drop p, x < 128 := fun x hx => hbc x (List.mem_of_mem_drop hx)
      generalize a.drop p = a1 at *
      generalize b.drop p = b1 at *
      clear h1 h2
      rename Fr _ _ _ _ => F'
      refine while_st (σ := Nat × Tok) [] (up1 (Str.ofString "post") (fun st => .int (-(st.1 : Int)) st.2) _)
        (fun st => st.1 ≤ a1.length ∧ st.1 ≤ b1.length ∧ strip1 (a1.reverse.drop st.1) (b1.reverse.drop st.1) = strip1 a1.reverse b1.reverse)
        (fun st => st.1 ≤ a1.length ∧ st.1 ≤ b1.length ∧ strip1 a1.reverse b1.reverse = (a1.reverse.drop st.1, b1.reverse.drop st.1)) (fun st => a1.length - st.1) (0, _) F' N' ?_ ?_ ?_ ?_
      · simp
      · clear F' N'
        rintro ⟨q, tq⟩ h tk ⟨h1, h2, h4⟩ F' N'
        delta up1 at F'
        dsimp only at h1 h2 h4 F' N' ⊢
        k_steps
        all_goals (rename Fr _ _ _ _ => F'; rename News _ _ _ _ => N'; first
          | (rename (_ == _) = true => hq
             have hqa : q < a1.length := by omega
             have hqb : q < b1.length := by omega
             rw [str_beq, at_neg (by omega) hqa, at_neg (by omega) hqb] at hq
             have hq' := strip1_step (a := a1.reverse) (b := b1.reverse) (p := q) (by simpa using hqa) (by simpa using hqb) (by rw [rev_get a1 hqa, rev_get b1 hqb]; simpa using hq)
             rw [show (-(q : Int) - 1) = -((q + 1 : Nat) : Int) from by omega] at F'
             exact Re.intro (q + 1, _) (Fr_ext F' upd_upd) N' ⟨⟨by omega, by omega, hq'.trans h4⟩, by show a1.length - (q + 1) < a1.length - q; omega⟩)
          | exact Re.intro (q, tq) F' N' ⟨by omega, by omega, h4.symm.trans (strip1_end_r (by simp; omega))⟩
          | exact Re.intro (q, tq) F' N' ⟨by omega, by omega, h4.symm.trans (strip1_end_l (by simp; omega))⟩
          | (rename (_ == _) = false => hq
             have hqa : q < a1.length := by omega
             have hqb : q < b1.length := by omega
             rw [str_beq, at_neg (by omega) hqa, at_neg (by omega) hqb] at hq
             exact Re.intro (q, tq) F' N' ⟨by omega, by omega, h4.symm.trans (strip1_stop (a := a1.reverse) (b := b1.reverse) (p := q) (by simpa using hqa) (by simpa using hqb) (by rw [rev_get a1 hqa, rev_get b1 hqb]; simpa using hq))⟩))
      · clear F' N'
        rintro ⟨q, tq⟩ h tk ⟨h1, h2, h4⟩ F' N'
        delta up1 at F'
        dsimp only at h1 h2 h4 F' N' ⊢
        have hla1 : (a1.take (a1.length - q)).length ≤ 40 := by rw [List.length_take]; omega
        have hlb1 : (b1.take (b1.length - q)).length ≤ 40 := by rw [List.length_take]; omega
        refine cut_up (σ := Tok × Tok) 2 F' (fun _ => []) (up2 (Str.ofString "b") (fun st => .str ⟨(b1.take (b1.length - q)).toArray⟩ st.2) (Str.ofString "a") (fun st => .str ⟨(a1.take (a1.length - q)).toArray⟩ st.1)) (fun _ => True) ?h1 ?h2
        case h1 =>
          dsimp only [List.take_succ_cons, List.take_zero]
          k_steps
          all_goals (rename Fr _ _ _ _ => F'; rename News _ _ _ _ => N')
          all_goals first
            | (exfalso; omega)
            | exact Re.intro (_, _) F' N' trivial
            | (have hq0 : q = 0 := by omega
               subst hq0
               simp only [Nat.sub_zero, List.take_length]
               exact Re.intro (_, _) F' N' trivial)
        case h2 =>
          have hac2 : ∀ x ∈ a1.take (a1.length - q), x < 128 := fun x hx => hac1 x (List.mem_of_mem_take hx)
          have hbc2 : ∀ x ∈ b1.take (b1.length - q), x < 128 := fun x hx => hbc1 x (List.mem_of_mem_take hx)
          have h5 : stripEnd a1 b1 = (a1.take (a1.length - q), b1.take (b1.length - q)) := by
            unfold stripEnd
            rw [h4, ← rev_take, ← rev_take]
            simp
          generalize a1.take (a1.length - q) = a2 at *
          generalize b1.take (b1.length - q) = b2 at *
          have h6 : lev a b c = lvTwo a2 b2 c := by
            unfold lev
            rw [if_neg hne, h3]
            simp only [h5]
          rw [h6] at hret
          clear F' N' h1 h2 h3 h4 h5 h6 hac1 hbc1 hl1 hl2 hla hlb hac hbc hpre hne
          rintro ⟨ta', tb'⟩ h tk - F' N'
          delta up2 at F'
          dsimp only [List.drop_succ_cons, List.drop_zero] at F' ⊢
          k_steps
          · refine Hold.of ?_
            rename Fr _ _ _ _ => F'; rename News _ _ _ _ => N'
            refine cut_up1 (σ := List Nat × List Nat × Tok × Tok) F' (fun _ => []) (up2 (Str.ofString "b") (fun st => .str ⟨st.2.1.toArray⟩ st.2.2.2) (Str.ofString "a") (fun st => .str ⟨st.1.toArray⟩ st.2.2.1))
              (fun st => lvTwo a2 b2 c = lvDp st.1 st.2.1 c ∧ st.1.length ≤ 40 ∧ st.2.1.length ≤ 40 ∧ (∀ x ∈ st.1, x < 128) ∧ ∀ x ∈ st.2.1, x < 128) ?h1 ?h2
            case h1 =>
              refine wpAny_If ?_
              k_steps
              all_goals (rename Fr _ _ _ _ => F'; rename News _ _ _ _ => N')
              · exact Re.intro (b2, a2, _, _) (Fr_ext F' (up_swap (by decide))) (fun _ hp => nomatch hp) ⟨by unfold lvTwo; rw [if_neg (by omega), if_pos (by omega)], by omega, by omega, hbc2, hac2⟩
              · exact Re.intro (a2, b2, _, _) (Fr_ext F' up_same) N' ⟨by unfold lvTwo; rw [if_neg (by omega), if_neg (by omega)], by omega, by omega, hac2, hbc2⟩
            case h2 =>
              clear F' N'
              rintro ⟨a3, b3, ta3, tb3⟩ h tk ⟨h1, h2, h3, h4, h5⟩ F' N'
              dsimp only at h1 h2 h3 h4 h5
              rw [h1] at hret
              clear h1
              delta up2 at F'
              dsimp only at F' ⊢
              k_steps
              · rename Fr _ _ _ _ => F'
                dsimp only
                exact hret _ _ _ F'.keep (p_int (by unfold lvDp; rw [if_pos (by omega)]))
              · refine Hold.of ?_
                rename IsRange _ _ _ _ _ _ _ _ => rgX; rename Fr _ _ _ _ => F'; rename News _ _ _ _ => N'
                refine list_range2 (n := a3.length) rfl F' N' rgX ⟨by omega, by omega⟩ (by omega) (by omega) ?_
                have hdp : lvDp a3 b3 c = lvOuter a3 c b3 0 (twos 2 a3.length) 0 := by unfold lvDp; rw [if_neg (by omega)]
                rw [hdp] at hret
                clear F' N' rgX hdp
                intro D us cc h' tk' F' N' _ hI
                k_steps
                refine Hold.of ?_
                rename IsRange _ _ _ _ _ _ _ _ => rgX; rename Fr _ _ _ _ => F'; rename News _ _ _ _ => N'
                refine for_r0 (σ := OS) (n := b3.length) (fun st => [(D, listOf st.us.toArray st.cc)])
                  (upT (Str.ofString "result") (fun st => .int st.r st.t) [Str.ofString "bindex", Str.ofString "bchar", Str.ofString "distance", Str.ofString "minimum", Str.ofString "index", Str.ofString "substitute", Str.ofString "insert_delete"] OS.e _)
                  (fun j st => IntsAre st.us st.ns ∧ st.ns.length = a3.length ∧ lvOuter a3 c (b3.drop j) j st.ns st.r = lvOuter a3 c b3 0 (twos 2 a3.length) 0)
                  ⟨us, twos 2 a3.length, cc, 0, _, _⟩ [D] (fun _ => rfl) rfl rgX rfl (by omega) (Fr_ext F' tmp1) N' ?i0 ?turn ?done
                case i0 => exact ⟨hI, twos_len _ _, rfl⟩
                case turn =>
                  clear F' N' rgX hI
                  rintro j ⟨us, ns, cc, r, t, e⟩ h tk own tj hj hoff ⟨hI, hln, hj2⟩ F' N'
                  delta upT at F'
                  dsimp only [List.cons_append, List.nil_append] at hI hln hj2 F' N' ⊢
                  replace F' : Fr s.heap L' h _ := F'
                  replace N' : News s.heap L' h _ := N'
                  k_steps
                  refine Hold.of ?_
                  rename IsRange _ _ _ _ _ _ _ _ => rgX; rename Fr _ _ _ _ => F'; rename News _ _ _ _ => N'
                  refine for_r0 (σ := IS) (n := a3.length) (fun st => (D, listOf st.us.toArray st.cc) :: own)
                    (upT3 (Str.ofString "minimum") (fun st => .int st.s.mn st.t3) (Str.ofString "result") (fun st => .int st.s.res st.t2) (Str.ofString "distance") (fun st => .int st.s.dist st.t1) [Str.ofString "index", Str.ofString "substitute", Str.ofString "insert_delete"] IS.e _)
                    (fun i st => IntsAre st.us st.s.row ∧ st.s = lvInner a3 (at' b3 (j : Int)) ⟨ns, (j : Int) * 2, (j : Int) * 2, 9223372036854775807⟩ i)
                    ⟨us, ⟨ns, (j : Int) * 2, (j : Int) * 2, 9223372036854775807⟩, cc, _, _, _, _⟩ (D :: own.map (·.1)) (fun _ => rfl) rfl rgX rfl (by omega) (Fr_ext F' tmp3) N' ?j0 ?jturn ?jdone
                  case j0 => exact ⟨hI, rfl⟩
                  case jturn =>
                    clear F' N' rgX hI
                    rintro i ⟨us, s1, cc, t1, t2, t3, e1⟩ h tk own1 ti hi hoff1 ⟨hI, hs1⟩ F' N'
                    delta upT3 at F'
                    dsimp only [List.cons_append, List.nil_append] at hI hs1 F' N' ⊢
                    replace F' : Fr s.heap L' h _ := F'
                    replace N' : News s.heap L' h _ := N'
                    have hrl : s1.row.length = a3.length := by rw [hs1, lvInner_len]; exact hln
                    have hii : i < s1.row.length := by omega
                    k_steps
                    all_goals (rename Fr _ _ _ _ => F'; rename News _ _ _ _ => N'; rename IntsAre _ _ => hI'; simp only [Int.toNat_natCast, at'_nat] at *)
                    all_goals (obtain ⟨m, hm, F'⟩ := name_fr F')
                    · refine TE.intro ⟨_, lvStep a3 (b3.getD j 0) s1 i, cc, _, _, _, m⟩ (Fr_end3 F' ((congrFun hm _).trans (p_some (if_pos ‹_ < s1.mn›).symm)) ((congrFun hm _).trans rfl) ((congrFun hm _).trans rfl) ?_) N' ?_ ?_ ⟨hI', by rw [lvInner, ← hs1]⟩
                      · intro y a b c d
                        rw [hm]
                        simp only [if_neg a, if_neg b, if_neg c, if_neg (tmpc d (x := Str.ofString "index") (by decide)), if_neg (tmpc d (x := Str.ofString "substitute") (by decide)), if_neg (tmpc d (x := Str.ofString "insert_delete") (by decide)), if_neg d]
                      · exact mem_ca
                      · exact mem_cb
                    · refine TE.intro ⟨_, lvStep a3 (b3.getD j 0) s1 i, cc, _, _, _, m⟩ (Fr_end3 F' ((congrFun hm _).trans (p_some (if_neg ‹¬ _ < s1.mn›).symm)) ((congrFun hm _).trans rfl) ((congrFun hm _).trans rfl) ?_) N' ?_ ?_ ⟨hI', by rw [lvInner, ← hs1]⟩
                      · intro y a b c d
                        rw [hm]
                        simp only [if_neg a, if_neg b, if_neg c, if_neg (tmpc d (x := Str.ofString "index") (by decide)), if_neg (tmpc d (x := Str.ofString "substitute") (by decide)), if_neg (tmpc d (x := Str.ofString "insert_delete") (by decide)), if_neg d]
                      · exact mem_ca
                      · exact mem_cb
                  case jdone =>
                    clear F' N' rgX hI
                    rintro ⟨us2, s2, cc2, t1, t2, t3, e2⟩ h tk ⟨hI, hs2⟩ F' N'
                    delta upT3 at F'
                    dsimp only at hI hs2 F' N' ⊢
                    rw [at'_nat] at hs2
                    have hst := lvOuter_step (c := c) (r := r) hj hs2
                    have hrl : s2.row.length = a3.length := by rw [hs2, lvInner_len]; exact hln
                    k_steps
                    all_goals (rename Fr _ _ _ _ => F'; try rename News _ _ _ _ => N')
                    · dsimp only [TE]
                      rw [if_pos ‹c < s2.mn›] at hst
                      exact hret _ _ _ F'.keep (p_int (hst.symm.trans hj2))
                    · rw [if_neg ‹¬ c < s2.mn›] at hst
                      obtain ⟨m, hm, F'⟩ := name_fr F'
                      refine TE.intro ⟨_, s2.row, cc2, _, _, m⟩ (Fr_end1 F' ((congrFun hm _).trans rfl) ?_) N' ?_ ?_ ⟨hI, hrl, hst.symm.trans hj2⟩
                      · intro y a d
                        rw [hm]
                        simp only [if_neg a, if_neg (tmpc d (x := Str.ofString "bindex") (by decide)), if_neg (tmpc d (x := Str.ofString "bchar") (by decide)), if_neg (tmpc d (x := Str.ofString "distance") (by decide)), if_neg (tmpc d (x := Str.ofString "minimum") (by decide)), if_neg (tmps (tm' := [Str.ofString "index", Str.ofString "substitute", Str.ofString "insert_delete"]) d (by decide)), if_neg d]
                      · intro p hp
                        rw [List.mem_singleton.mp hp]
                        exact List.mem_cons_self
                      · intro p hp
                        exact List.mem_cons_of_mem _ hp
                case done =>
                  clear F' N' rgX hI
                  rintro ⟨us, ns, cc, r, t, e⟩ h tk ⟨hI, hln, hj2⟩ F' N'
                  delta upT at F'
                  dsimp only at hI hln hj2 F' N' ⊢
                  rw [lvOuter_end] at hj2
                  k_steps
                  rename Fr _ _ _ _ => F'
                  dsimp only
                  exact hret _ _ _ F'.keep (p_int hj2)
          all_goals (rename Fr _ _ _ _ => F'; rename News _ _ _ _ => N'; exact hret _ _ _ F'.keep (p_int (by unfold lvTwo; rw [if_pos (by omega)])))
      · passes_own
    · passes_own

example : True := by
  k_with_none
  k_with "tc:enter" => (
    refine wpAny_call ?_
    k_dflt (refine' con_enter (by assumption) (by assumption) (by assumption) ?zzk1 ?zzk2 ?zzk3 ?zzk4 ?zzk5 ?_ ?zzc1 ?zzc2 ?zzc3 ?zzc4; (case zzk1 => k_is); (case zzk2 => k_is); (case zzk3 => omega); (case zzk4 => first | exact BindsTo.of_eq rfl | exact kp_binds (by assumption) (fun _ => rfl)); (case zzc4 => decide); (case zzk5 => exact locs rfl); (case zzc1 => exact rfl); (case zzc2 => exact rfl); (case zzc3 => exact rfl); k_whole))
  k_with "tc:len" => (first | omega | ((try simp only [List.length_drop, List.length_take, List.length_append, List.length_cons, List.length_nil, List.length_reverse]); omega))
  k_with "tc:cl" => (first
    | exact cl_nat (by k_extra "tc:len")
    | exact cl_neg (by k_extra "tc:len")
    | exact cl_succ (by k_extra "tc:len")
    | exact cl_min _ _)
  k_with "subscriptTail Name Slice str ref" => (k_here; (with_reducible rename Fr _ _ _ _ => zzkF); (with_reducible rename News _ _ _ _ => zzkN); (with_reducible (first
    | (refine' sl_sn (s := ⟨_, _, _, _, _⟩) zzkF zzkN ?zzz ?zze ?_; (case zzz => k_extra "tc:len"); (case zze => k_extra "tc:cl"); k_whole; intro _ _ _ _ _ _)
    | (refine' sl_ns (s := ⟨_, _, _, _, _⟩) zzkF zzkN ?zzz ?zze ?_; (case zzz => k_extra "tc:len"); (case zze => k_extra "tc:cl"); k_whole; intro _ _ _ _ _ _)
    | (refine' sl_nn (s := ⟨_, _, _, _, _⟩) zzkF zzkN ?zzz ?_; (case zzz => k_extra "tc:len"); k_whole; intro _ _ _ _ _)
    | (refine' sl_ss (s := ⟨_, _, _, _, _⟩) zzkF zzkN ?zzz ?zze ?zzf ?_; (case zzz => k_extra "tc:len"); (case zze => k_extra "tc:cl"); (case zzf => k_extra "tc:cl"); k_whole; intro _ _ _ _ _ _))); (try k_sweep))
  k_with "tc:item" => (k_here; (with_reducible show wpAny _ _ (subscriptTail _ _ (Value.str (Str.mk (List.toArray _)) _) (Value.int _ _)) _ _ _); (with_reducible refine it_str ?zzz ?zza ?zzb ?_); (case zzz => k_extra "tc:len"); (case zza => k_extra "tc:len"); (case zzb => k_extra "tc:len"); k_whole; intro _)
  k_with "subscriptTail Name Name str int" => (k_extra "tc:item")
  k_with "subscriptTail Name BinOp str int" => (k_extra "tc:item")
  k_with "subscriptTail Name Constant str int" => (k_extra "tc:item")
  k_with "subscriptTail Constant Call str int" => (k_extra "tc:item")
  k_with "truthy str" => (k_here; (with_reducible show wpAny _ _ (PySem.truthy (Value.str (Str.mk (List.toArray _)) _)) _ _ _); (refine tr_str ?zzz ?_ ?_; (case zzz => k_extra "tc:len"); (all_goals intro _ _); (all_goals (try (exfalso; omega)))))
  k_with "call builtin:len" => (k_here; (with_reducible show wpAny _ _ (call (Value.builtin "len") [Value.str (Str.mk (List.toArray _)) _]) _ _ _); k_dflt (refine' len_strL ?zzz ?_; (case zzz => k_extra "tc:len"); intro _))
  k_with "eval Name local" => (fail "none")
  k_with "exec While BoolOp cons nil" => (refine Hold.mk ?_)
  k_with "exec If Compare cons nil" => ((with_reducible show wpAny _ _ (exec (Stmt.If _ [Stmt.Assign [Expr.Tuple _ _ _] _ _] [] _) _) _ _ _); refine Hold.mk ?_)
  k_with "pyIter ref" => (k_here; (with_reducible show wpAny _ _ (pyIter (Value.ref _)) (fun it s₂ => LoopAtV _ _ _ _ _ _ _ _ _ it s₂) _ _); refine Hold.mk ?_)
  k_with "exec For Name Call cons nil" => (k_here; (rename Fr _ _ _ _ => zzlF'); (with_unfolding_all refine' For_invVF zzlF' ?zzk1 ?zzk2 ?_; (case zzk1 => exact rfl); (case zzk2 => exact rfl); k_whole))
  k_with "call type:list" => ((with_reducible show wpAny _ _ (call (Value.type "list") [Value.ref _]) _ _ _); refine Hold.mk ?_)
  k_with "tc:dep" => (first | omega | ((simp only [Around.deeper, Around.in1, aroundOf] at *); omega) | (dsimp only [Around.deeper, Around.in1, aroundOf]; omega))
  k_with "tc:own" => (first
    | exact OwnOff.ne (by assumption) (by simp)
    | (intro zzq zzhq; rcases List.mem_append.mp zzhq with zzhq | zzhq <;> exact OwnOff.ne (by assumption) (by simp) zzq zzhq))
  k_with "setItem ref int" => (k_here; (with_reducible show wpAny _ _ (setItem (Value.ref _) (Value.int _ _) (Value.int _ _)) _ _ _); k_dflt (refine' ksa_set ?zzk1 ?zzk2 (Upd.head ?zzk3) ?zzk4 ?zzk5 ?zzk6 ?zzk7 ?_; (case zzk1 => k_asm); (case zzk2 => k_asm); (case zzk3 => k_extra "tc:own"); (case zzk4 => with_reducible assumption); (case zzk5 => omega); (case zzk6 => omega); (case zzk7 => omega); k_whole); intro _ _ _ _ _ zzhs'; clear zzhs'; (try k_sweep))
  k_with "exec While BoolOp cons cons nil" => (refine Hold.mk ?_)
  k_with "exec While Compare cons nil" => (refine Hold.mk ?_)
  k_with "binaryOp FloorDiv int int" => (k_here; (with_reducible refine half_nat ?_))
  k_with "tc:use" => (
    (case zzB => k_asm); (case zzF => k_asm); (case zzX => k_asm); (case zzN => k_asm); (case zzT => k_asm); (case zzh1 => exact rfl); (case zzh2 => exact rfl); (case zzh3 => exact rfl); (case zzh4 => exact rfl); (case zzh5 => (dsimp only [Around.deeper, Around.in1, aroundOf]; omega)); (case zzh6 => (dsimp only [Around.deeper, Around.in1, aroundOf]; omega)))
  k_with "tc:omega" => (first
    | ((repeat (with_reducible rename @Ne Nat _ _ => zzhh; clear zzhh)); (repeat (with_reducible rename (@Ne Nat _ _) ∧ _ => zzhh; clear zzhh)); (repeat (with_reducible rename ((@Ne Nat _ _) ∧ _) ∧ _ => zzhh; clear zzhh)); omega (splitDisjunctions := true))
    | omega (splitDisjunctions := true))
  k_with "tc:pr" => ((with_reducible rename _ ∧ _ => zzhh); first
    | exact zzhh.1 | exact zzhh.1.symm | exact Nat.ne_of_lt zzhh.1 | exact Nat.ne_of_gt zzhh.1
    | exact zzhh.2 | exact zzhh.2.symm | exact Nat.ne_of_lt zzhh.2 | exact Nat.ne_of_gt zzhh.2
    | (have zzh1 := zzhh.1; have zzh2 := zzhh.2; clear zzhh; k_extra "tc:pr"))
  k_with "tc:ne" => (refine neN ?_; (try dsimp only); with_reducible (first | assumption | exact Ne.symm (by assumption) | exact Nat.ne_of_gt (by k_extra "tc:up") | exact Nat.ne_of_lt (by k_extra "tc:up") | k_extra "tc:pr"))
  k_with "tc:up" => (with_reducible (first | exact up_s _ | assumption | k_extra "tc:prl" | (refine up_t ?_; k_extra "tc:up")))
  k_with "tc:prl" => ((with_reducible rename _ ∧ _ => zzhh); first
    | exact zzhh.1 | exact zzhh.2
    | (have zzh2 := zzhh.2; clear zzhh; k_extra "tc:prl"))
  trivial


theorem quiet4 : True := by
  w_top off
  trivial
example : True := by
  k_with "tc:enterT" => (
    refine wpAny_call ?_
    k_dflt (refine' con_enterT (by assumption) (by assumption) (by assumption) (by assumption) (by assumption) ?zzk1 ?zzk2 ?zzk3 ?zzk4 ?zzk5 ?_ ?zzc1 ?zzc2 ?zzc3 ?zzc4; (case zzk1 => k_is); (case zzk2 => k_is); (case zzk3 => omega); (case zzk4 => first | exact BindsTo.of_eq rfl | exact kp_binds (by assumption) (fun _ => rfl)); (case zzc4 => decide); (case zzk5 => exact locs rfl); (case zzc1 => exact rfl); (case zzc2 => exact rfl); (case zzc3 => exact rfl); k_whole))
  k_with "tc:enterTC" => (
    refine wpAny_call ?_
    k_dflt (refine' con_enterTC (by assumption) (by assumption) (by assumption) (by assumption) (by assumption) ?zzk1 ?zzk2 ?zzk3 ?zzk4 ?zzk5 ?zzk6 ?_ ?zzc1 ?zzc2 ?zzc3; (case zzk1 => k_is); (case zzk2 => k_is); (case zzk3 => omega); (case zzk4 => first | exact BindsTo.of_eq rfl | exact kp_binds (by assumption) (fun _ => rfl)); (case zzk5 => exact rfl); (case zzk6 => decide +kernel); (case zzc1 => exact rfl); (case zzc2 => exact rfl); (case zzc3 => exact rfl); k_whole))
  k_with "tc:all" => (first | with_reducible assumption | (refine all_off (by assumption) ?_; (try dsimp only); omega))
  trivial

example : True := by
  k_with "call ref" => (k_here; (with_reducible show wpAny _ _ (call (Value.ref _) [Value.ref _, Value.int _ _, Value.int _ _, Value.int _ _] _) _ _ _); refine Hold.mk ?_)
  k_with "eval Lambda" => (k_here; (refine kla_eval rfl ?_); refine Hold.mk ?_)
  k_with "eval Name" => (k_here; k_dflt (refine' name_free ?zzF ?zzc ?zzC ?_ ?zza ?zzb; (case zza => rfl); (case zzb => rfl); (case zzF => k_asm); (case zzc => rfl); (case zzC => with_reducible assumption); k_whole))
  k_with "call ref" => (k_here; (with_reducible show wpAny _ _ (call (Value.ref _) [Value.ref _, Value.int _ _] _) _ _ _); refine Hold.mk ?_)
  k_with "CompSrc" => (k_here; (fail_if_success (with_reducible show LCg.CompSrc _ _ _ _ _ _ _ (Expr.Subscript (Expr.Name _ _) _ _) _ _ _ _ _ _)); (with_reducible show LCg.CompSrc _ _ _ _ _ _ _ (Expr.Subscript (Expr.Constant _ _) _ _) _ _ _ _ _ _); refine Hold.mk ?_)
  k_with "callWith ref" => (k_here; k_dflt (first
    | (refine' callWith_K ?zzk1 ?zzk2 ?_; (case zzk1 => k_asm); (case zzk2 => with_reducible assumption); k_whole)
    | (refine' callWith_KW ?zzk1 ?zzk2 ?zzk3 ?_; (case zzk1 => k_asm); (case zzk2 => with_reducible assumption); (case zzk3 => exact rfl); k_whole)))
  trivial

structure WS where
  pl : Int
  wy : Int
  t1 : Tok
  t2 : Tok
  p1 : Array Value
  exs : List (Addr × Obj)
  e : Str → Option Value
/-- the walk through the gates: where it stands and how far it has gone after i gates -/
noncomputable def wayGo (ns : List Int) (st : Int) : Nat → Int × Int
  | 0 => (st, 0)
  | i + 1 =>
    let r := wayGo ns st i
    let c := clampI (min (ns.getD i 0) (ns.getD (i + 1) 0)) (max (ns.getD i 0) (ns.getD (i + 1) 0)) r.1
    (c, r.2 + (c - r.1).natAbs)
noncomputable def wayOf (ns : List Int) (st en : Int) : Int := (wayGo ns st (ns.length - 1)).2 + (en - (wayGo ns st (ns.length - 1)).1).natAbs

theorem clampI_shiftG {lz sh : Int} (h : sh = lz + 12) (a b x : Int) : clampI (a + 12) (b + 12) (x - lz + sh) - 12 = clampI a b x := by
  rw [← clampI_shift a b x, show x - lz + sh = x - 0 + 12 by omega]
theorem way_con (w : World) (SA : Addr) (lz sh : Int) (hsh : sh = lz + 12)
    (hka : keepIn (hd.heap_1 w.params) (.ref SA) = true)
    (HL : ∀ (l : Addr) (vs : List Value) (x lo hi : Int) (tx t1 t2 : Tok), IntsAre vs (ups (-12) 25) → 0 ≤ lo → lo ≤ hi → hi ≤ 25 →
      Con prg w (hd.heap_1 w.params) SA 1 [.ref l, .int x tx, .int lo t1, .int hi t2] (fun h => h.IsList l vs.toArray) (fun v _ => ∃ t, v = .int (clampI lo hi (x + sh)) t))
    (HT : ∀ (l : Addr) (vs : List Value) (x lo hi : Int) (tx t1 t2 : Tok) (kf : Addr) (pre : Heap → Prop), IntsAre vs (ups (-12) 25).reverse → KeyCon prg w (hd.heap_1 w.params) kf pre (fun n => -n) (ups (-12) 25).reverse → 0 ≤ lo → lo ≤ hi → hi ≤ 25 →
      ConK prg w (hd.heap_1 w.params) SA 2 [.ref l, .int x tx, .int lo t1, .int hi t2] [(Str.ofString "key", .ref kf)] (fun h => h.IsList l vs.toArray ∧ pre h) (fun v _ => ∃ t, v = .int (clampI lo hi (x + sh)) t))
    (P : Addr) (vs : List Value) (ns : List Int) (st en : Int) (t1 t2 t3 : Tok) (hi0 : IntsAre vs ns) (runs : Nat) (hrn : runs ≤ 3) (hn : ns.length = runs + 1) (hb : ∀ i, i ≤ runs → -12 ≤ ns.getD i 0 ∧ ns.getD i 0 ≤ 12) :
    ConT prg w (hd.heap_1 w.params) 79 5 [.ref P, .int st t1, .int en t2, .ref SA, .int lz t3] (fun h => h.IsList P vs.toArray)
      (fun v _ => ∃ t, v = .int (wayOf ns st en) t) := by
  show (fun (_ : OpenLaw) => ConT prg w (hd.heap_1 w.params) 79 5 [.ref P, .int st t1, .int en t2, .ref SA, .int lz t3] (fun h => h.IsList P vs.toArray)
      (fun v _ => ∃ t, v = .int (wayOf ns st en) t)) PySem.Challenge.rw_tc0007_01
  k_fill
  dsimp only
  intro pp loose mean mg mb dp un gd base outer g p1 p2 exs s Q E B X T C1 C2 hgs hgz hT htb hd hu hpre hret
  k_extra "tc:enterT"
  intro L' h₁ F' N'
  dsimp only
  replace F' : Fr g L' h₁ (lM [(Str.ofString "less", .int lz t3), (Str.ofString "search", .ref SA), (Str.ofString "end", .int en t2), (Str.ofString "start", .int st t1), (Str.ofString "posts", .ref P)]) := F'
  k_steps
  refine Hold.of ?_
  rename IsRange _ _ _ _ _ _ _ _ => rgX; rename Fr _ _ _ _ => F'; rename News _ _ _ _ => N'
  refine list_range1 (n := 25) rfl F' N' rgX ⟨by omega, by omega⟩ (by omega) (by omega) ?_
  clear F' N' rgX
  intro D us cc h' tk' F' N' hltD hI
  k_steps
  refine Hold.of ?_
  rename IntsAre _ _ => hI2
  rename D < _ ∧ _ => hlD
  obtain ⟨ws, hws, hI2⟩ : ∃ ws, ws = _ ∧ IntsAre ws _ := ⟨_, rfl, hI2⟩
  subst hws
  obtain ⟨D2, hD2, hlD⟩ : ∃ x, x = _ ∧ (D < x ∧ _) := ⟨_, rfl, hlD⟩
  subst hD2
  rename IsRange _ _ _ _ _ _ _ _ => rgX; rename Fr _ _ _ _ => F'; rename News _ _ _ _ => N'
  refine for_rgM (σ := WS) (n := runs) (fun st => (D2, listOf (List.toArray ws) 0) :: (D, listOf (List.toArray us) cc) :: tabs st.p1 p2 st.exs)
    (upT2 (Str.ofString "place") (fun st => .int st.pl st.t1) (Str.ofString "way") (fun st => .int st.wy st.t2) [Str.ofString "k", Str.ofString "low", Str.ofString "high", Str.ofString "stop"] WS.e _)
    (fun i st' => (TabSt st'.p1 p2 st'.exs ∧ ∀ q ∈ exs, q ∈ st'.exs) ∧ (st'.pl, st'.wy) = wayGo ns st i) ⟨st, 0, _, _, p1, exs, _⟩ ?hni rfl rgX (small_one (by omega) (by omega) (by omega) (by omega)) ?hsz (Fr_end2 F' rfl rfl (fun _ _ _ _ => rfl)) (fun q hq => N' q (List.mem_cons_of_mem _ hq)) ⟨⟨hT, fun _ h => h⟩, rfl⟩ ?turn ?done
  case hni =>
    rintro i st' ⟨⟨hT', -⟩, -⟩ q hq
    rcases List.mem_cons.mp hq with rfl | hq
    · intro a b c e; cases e
    · rcases List.mem_cons.mp hq with rfl | hq
      · intro a b c e; cases e
      · exact hT'.notIt q hq
  case hsz => rw [rangeSize_one]; omega
  case turn =>
    clear F' N' rgX
    rintro i ⟨pl, wy, u1, u2, p1', exs', e⟩ h tk own tj hj hoff ⟨⟨hT', hxs⟩, hw⟩ F' N'
    delta upT2 at F'
    dsimp only [List.cons_append, List.nil_append] at hT' hxs hw hoff F' N' ⊢
    replace F' : Fr g L' h _ := F'
    replace N' : News g L' h _ := N'
    k_steps
    refine Hold.of ?_
    rename Fr _ _ _ _ => F'; rename News _ _ _ _ => N'
    have hb1 := hb i (by omega)
    have hb2 := hb (i + 1) (by omega)
    have e1 : ((1 : Int) + (i : Int) - 1).toNat = i := by omega
    have e2 : ((1 : Int) + (i : Int)).toNat = i + 1 := by omega
    have e3 : ∀ a b : Int, (if a < b then a else b) = min b a := fun a b => by split <;> omega
    have e4 : ∀ a b : Int, (if a > b then a else b) = max b a := fun a b => by split <;> omega
    simp only [e1, e2, e3, e4] at F' ⊢
    refine con_use (HL D us _ _ _ _ _ _ hI ?la ?lb ?lc) B F' X N' T rfl rfl rfl rfl ?h5 ?h6 ?h7 ?_
    case la => omega
    case lb => omega
    case lc => omega
    case h5 => dsimp only [Around.deeper, Around.in1, aroundOf]; omega
    case h6 => dsimp only [Around.deeper, Around.in1, aroundOf]; omega
    case h7 => exact ⟨_, (N' _ (.tail _ (.tail _ (.head _)))).1, rfl, _, rfl⟩
    clear F' N'
    rintro v' h' tk' F' N' - ⟨t4, rfl⟩
    k_steps
    refine Hold.of ?_
    rename Fr _ _ _ _ => F'; rename News _ _ _ _ => N'
    refine lamA (own := (D2, listOf (List.toArray ws) 0) :: (D, listOf (List.toArray us) cc) :: own) F' N' T C1 hT' ?ht ?hown rfl rfl rfl rfl ?_
    case ht =>
      intro q hq
      simp only [List.mem_cons, List.mem_append] at hq ⊢
      rcases hq with h | h | h <;> simp [h]
    case hown =>
      intro q hq
      simp only [List.mem_cons] at hq
      rcases hq with rfl | rfl | h
      · exact ⟨.tail _ (.head _), Nat.ne_of_gt hlD.2.1⟩
      · exact ⟨.tail _ (.tail _ (.head _)), Nat.ne_of_gt (hltD _ (.head _))⟩
      · exact ⟨by simp [h], hoff q h (74, tabObj p1') (by simp)⟩
    clear F' N'
    intro f c2 ctv h' tk' p1'' exs'' hT'' hx2 _ F' N' hcr
    refine Exists.elim (key_exists (p := prg) (w := w) (K := Tc.hd.heap_1 w.params) (fun n => -n) (ups (-12) 25).reverse (Str.ofString "n") (fun _ => True) (N' _ (.head _)).1 hcr trivial (fun _ _ _ _ => trivial) ?walk (fun _ => rfl) rfl rfl rfl rfl (by decide)) ?_
    case walk =>
      clear F' N' B X T C1 C2 hret hpre hd hu hoff htb hT hT' hT'' hI hI2 hcr
      intro pp loose mean mg mb dp un gd base outer s Q i t L' h₁ tk hi B X T hd hu _ F' N' hret
      k_steps
      rename Fr _ _ _ _ => F'
      exact hret _ _ _ F'.keep
    rintro pre ⟨hpr, HK⟩
    k_steps
    refine Hold.of ?_
    rename Fr _ _ _ _ => F'; rename News _ _ _ _ => N'
    change wpAny _ _ (call _ _ [(Str.ofString "key", .ref f)]) _ _ _
    refine con_use (HT D2 ws _ _ _ _ _ _ f pre hI2 HK ?la ?lb ?lc) B F' X N' T rfl rfl rfl rfl ?h5 ?h6 ?h7 ?_
    case la => omega
    case lb => omega
    case lc => omega
    case h5 => dsimp only [Around.deeper, Around.in1, aroundOf]; omega
    case h6 => dsimp only [Around.deeper, Around.in1, aroundOf]; omega
    case h7 => exact ⟨⟨_, (N' _ (.tail _ (.head _))).1, rfl, _, rfl⟩, hpr⟩
    clear F' N'
    rintro v' h' tk' F' N' - ⟨t5, rfl⟩
    k_steps
    · exact absurd rfl ‹_ ≠ _›
    · rename Fr _ _ _ _ => F'; rename News _ _ _ _ => N'
      obtain ⟨m, hm, F'⟩ := name_fr F'
      have hw1 : (wayGo ns st (i + 1)).1 = clampI (min (ns.getD i 0) (ns.getD (i + 1) 0) + 12) (max (ns.getD i 0) (ns.getD (i + 1) 0) + 12) (pl - lz + sh) - 12 := by
        rw [wayGo, ← hw]
        exact (clampI_shiftG hsh _ _ _).symm
      have hw2 : (wayGo ns st (i + 1)).2 = wy + (((wayGo ns st (i + 1)).1 - pl).natAbs : Int) := by
        rw [wayGo, ← hw]
      refine TE.intro ⟨(wayGo ns st (i + 1)).1, (wayGo ns st (i + 1)).2, _, _, p1'', exs'', m⟩ (Fr_end2 F' ((congrFun hm _).trans (p_some hw1.symm)) ((congrFun hm _).trans (p_some (by rw [hw2, hw1]; congr 1; split <;> omega))) ?_) N' ?_ ?_ ⟨⟨hT'', fun q h => hx2 q (hxs q h)⟩, rfl⟩
      · intro y a b d
        rw [hm]
        simp only [if_neg a, if_neg b, if_neg (tmpc d (x := Str.ofString "k") (by decide)), if_neg (tmpc d (x := Str.ofString "low") (by decide)), if_neg (tmpc d (x := Str.ofString "high") (by decide)), if_neg (tmpc d (x := Str.ofString "stop") (by decide)), if_neg d]
      · intro q hq
        simp only [List.mem_cons, List.mem_append, List.cons_append] at hq ⊢
        rcases hq with h | h | h | h | h <;> simp [h]
      · intro q hq
        simp [hq]
  case done =>
    clear F' N' rgX
    rintro ⟨pl, wy, u1, u2, p1', exs', e⟩ h tk ⟨⟨hT', hxs⟩, hw⟩ F' N'
    delta upT2 at F'
    dsimp only at hT' hxs hw F' N' ⊢
    replace F' : Fr g L' h _ := F'
    replace N' : News g L' h _ := N'
    k_steps
    rename Fr _ _ _ _ => F'; rename News _ _ _ _ => N'
    dsimp only
    refine hret _ _ _ p1' p2 exs' F'.keep hT' (fun q hq => ⟨(N' q (by simp only [List.mem_cons] at hq ⊢; rcases hq with h | h | h <;> simp [h])).1, (N' q (by simp only [List.mem_cons] at hq ⊢; rcases hq with h | h | h <;> simp [h])).2.2⟩) hxs (p_int ?_)
    unfold wayOf
    rw [hn, Nat.add_sub_cancel, ← hw]
    dsimp only
    congr 1
    split <;> omega
theorem wayl_con (w : World) (P : Addr) (vs : List Value) (ns : List Int) (st en : Int) (t1 t2 t3 : Tok) (hi0 : IntsAre vs ns) (runs : Nat) (hrn : runs ≤ 3) (hn : ns.length = runs + 1) (hb : ∀ i, i ≤ runs → -12 ≤ ns.getD i 0 ∧ ns.getD i 0 ≤ 12) :
    ConT prg w (hd.heap_1 w.params) 79 5 [.ref P, .int st t1, .int en t2, .ref 46, .int 0 t3] (fun h => h.IsList P vs.toArray) (fun v _ => ∃ t, v = .int (wayOf ns st en) t) :=
  way_con w 46 0 12 rfl (by kernel_rfl) (fun l vs x lo hi a b c => line_l w l vs x lo hi a b c) (fun l vs x lo hi a b c f p => turned_l w l vs x lo hi a b c f p) P vs ns st en t1 t2 t3 hi0 runs hrn hn hb
theorem wayr_con (w : World) (P : Addr) (vs : List Value) (ns : List Int) (st en : Int) (t1 t2 t3 : Tok) (hi0 : IntsAre vs ns) (runs : Nat) (hrn : runs ≤ 3) (hn : ns.length = runs + 1) (hb : ∀ i, i ≤ runs → -12 ≤ ns.getD i 0 ∧ ns.getD i 0 ≤ 12) :
    ConT prg w (hd.heap_1 w.params) 79 5 [.ref P, .int st t1, .int en t2, .ref 37, .int 1 t3] (fun h => h.IsList P vs.toArray) (fun v _ => ∃ t, v = .int (wayOf ns st en) t) :=
  way_con w 37 1 13 rfl (by kernel_rfl) (fun l vs x lo hi a b c => line_r w l vs x lo hi a b c) (fun l vs x lo hi a b c f p => turned_r w l vs x lo hi a b c f p) P vs ns st en t1 t2 t3 hi0 runs hrn hn hb

theorem word_con (w : World) (SA : Addr) (mr : Int) (pr : Int → Int → Prop) (hpr0 : ∀ v k : Int, pr v (k + mr) ↔ v < k + 1)
    (hka : keepIn (hd.heap_1 w.params) (.ref SA) = true)
    (HB : ∀ (l : Addr) (vs : List Value) (x : Int) (tx : Tok) (kf : Addr) (pre : Heap → Prop) (g : Int → Int), IntsAre vs [0, 1, 2] → KeyCon prg w (hd.heap_1 w.params) kf pre g [0, 1, 2] →
      (∀ i j, i ≤ j → j < [(0 : Int), 1, 2].length → pr (g ([(0 : Int), 1, 2].getD j 0)) x → pr (g ([(0 : Int), 1, 2].getD i 0)) x) →
      ConK prg w (hd.heap_1 w.params) SA 2 [.ref l, .int x tx] [(Str.ofString "key", .ref kf)] (fun h => h.IsList l vs.toArray ∧ pre h) (fun v _ => ∃ r t, v = .int ((r : Nat) : Int) t ∧ Bis (fun i => pr (g ([(0 : Int), 1, 2].getD i 0)) x) 0 [(0 : Int), 1, 2].length r))
    (S : Addr) (vs : List Value) (a b c : Nat) (xs : List Int) (t3 : Tok) (hi0 : IntsAre vs ((a : Int) :: (b : Int) :: (c : Int) :: xs)) (hxs : xs.length ≤ 2) (ha : 2 ≤ a ∧ a ≤ 4) (hb : 2 ≤ b ∧ b ≤ 4) (hc : 2 ≤ c ∧ c ≤ 4) :
    ConT prg w (hd.heap_1 w.params) 72 5 [.ref S, .ref SA, .int mr t3] (fun h => h.IsList S vs.toArray)
      (fun v _ => ∃ t, v = .str ⟨(List.replicate a 97 ++ List.replicate b 98 ++ List.replicate c 99).toArray⟩ t) := by
  show (fun (_ : OpenLaw) => ConT prg w (hd.heap_1 w.params) 72 5 [.ref S, .ref SA, .int mr t3] (fun h => h.IsList S vs.toArray)
      (fun v _ => ∃ t, v = .str ⟨(List.replicate a 97 ++ List.replicate b 98 ++ List.replicate c 99).toArray⟩ t)) PySem.Challenge.rw_tc0007_01
  k_fill
  dsimp only
  intro pp loose mean mg mb dp un gd base outer g p1 p2 exs s Q E B X T C1 C2 hgs hgz hT htb hd hu hpre hret
  k_extra "tc:enterTC"
  intro L' h₁ tk' cells F' N' Y l1
  have hxl : ∀ q ∈ exs, q.1 < L' := fun q hq => l1 q (.tail _ (.tail _ hq))
  k_lt l1
  k_cells Y
  simp only [List.cons_append, List.nil_append, tabs] at N'
  k_steps
  refine Hold.of ?_
  rename (_ : Obj).data = Data.cell (some (Value.ref _)) => hcE
  rename IntsAre _ _ => hI8
  rename Fr _ _ _ _ => F'; rename News _ _ _ _ => N'
  obtain ⟨ys, hys, hI9⟩ : ∃ ys, ys = _ ∧ IntsAre ys [(a : Int), (a : Int) + b, (a : Int) + b + c] := ⟨_, rfl, by refine (congrArg (IntsAre _) ?_).mp hI8; simp [rangeKs, show List.range 3 = [0, 1, 2] from rfl]; omega⟩
  clear hI8
  subst hys
  have N2 : News g L' _ ([_, _, _, _, _, _] ++ tabs p1 p2 exs) := N'
  refine lamB' F' N2 T C2 hT ?hown rfl rfl rfl rfl ?_
  case hown =>
    intro q hq
    simp only [List.mem_cons, List.not_mem_nil, or_false] at hq
    rcases hq with rfl | rfl | rfl | rfl | rfl | rfl <;> k_ne
  clear N2
  clear F' N'
  intro f c2 ctv h' tk' p2' exs' hT' hx2 hlf F' N' hcr
  replace hlf := allLt_of hlf
  simp only [List.cons_append, List.nil_append, tabs, AllLt] at hlf
  simp only [List.cons_append, List.nil_append, tabs] at N'
  have hx4 := hT'.off_of N' (fun q hq => .tail _ (.tail _ (.tail _ (.tail _ (.tail _ (.tail _ (.tail _ (.tail _ (.tail _ hq))))))))) (.tail _ (.tail _ (.tail _ (.head _)))) (fun vs e => by have e' := e.symm.trans (show _ = Data.cell _ from by assumption); cases e')
  k_steps
  refine Hold.of ?_
  rename IsRange _ _ _ _ _ _ _ _ => rgX
  rename Fr _ _ _ _ => F'; rename News _ _ _ _ => N'
  refine LCg.CompSrc.range (n := a + b + c) (b := (a : Int) + b + c) rfl F' N' rgX (small_one (by omega) (by omega) (by omega) (by omega)) ((rangeSize_nat _ _).trans (by omega)) (by rw [PySem.sizeLine_eq]; omega) ?_
  intro g2
  refine kct_range (fun k => if k < (a : Int) then ⟨#[97]⟩ else if k < (a : Int) + b then ⟨#[98]⟩ else ⟨#[99]⟩) ?turn ?fin
  case turn =>
    clear F' N' rgX
    intro k tt I oI C oC D m₂ zs h tk E' k1 k2 hC hx F' N' off ne hmk
    have off0 := off
    simp only [LCg.Off3] at off
    k_steps
    refine Hold.of ?_
    rename Fr _ _ _ _ => F'; rename News _ _ _ _ => N'
    change wpAny _ _ (call _ _ [(Str.ofString "key", .ref f)]) _ _ _
    refine Exists.elim (key_exists (p := prg) (w := w) (K := Tc.hd.heap_1 w.params) (fun k => if k = 0 then (a : Int) else if k = 1 then (a : Int) + b else (a : Int) + b + c) [0, 1, 2] (Str.ofString "k") (fun h => h.IsCell _ (some (Value.ref _)) ∧ h.IsList _ ys.toArray)
      (N' _ (.tail _ (.tail _ (.tail _ (.tail _ (.head _)))))).1 (hcr.codeRec N' fun q hq => (.tail _ (.tail _ (.tail _ (.tail _ (.tail _ (.tail _ (.tail _ (.tail _ (.tail _ (.tail _ (.tail _ (.tail _ (.tail _ hq)))))))))))))) ⟨⟨_, (N' _ (.tail _ (.tail _ (.tail _ (.tail _ (.tail _ (.tail _ (.head _)))))))).1, hcE⟩, ⟨_, (N' _ (.tail _ (.tail _ (.tail _ (.tail _ (.tail _ (.head _))))))).1, rfl, _, rfl⟩⟩ (fun _ _ k h => ⟨isCell_keeps k h.1, isList_keeps k h.2⟩) ?walk (fun _ => rfl) rfl rfl rfl rfl (by decide)) ?_
    case walk =>
      clear F' N' B X T C1 C2 hret hpre hd hu htb hT hT' hcr
      intro pp loose mean mg mb dp un gd base outer s Q i t L' h₁ tk hi B X T hd hu ⟨hC, hLi⟩ F' N' hret
      have hi3 : i = 0 ∨ i = 1 ∨ i = 2 := by simp only [List.length_cons, List.length_nil] at hi; omega
      rcases hi3 with rfl | rfl | rfl
      all_goals (simp only [List.getD_cons_zero, List.getD_cons_succ] at F' hret; k_steps; rename Fr _ _ _ _ => F'; exact hret _ _ _ F'.keep)
    rintro pre ⟨hpr, HK⟩
    refine con_use (HB _ _ (k + mr) _ f pre _ (.cons _ _ (.cons _ _ (.cons _ _ .nil))) HK ?srt) B F' X N' T rfl rfl rfl rfl ?h5 ?h6 ⟨⟨_, (N' _ (.head _)).1, rfl, _, rfl⟩, hpr⟩ ?_
    case h5 => (dsimp only [Around.deeper, Around.in1, aroundOf]; omega)
    case h6 => (dsimp only [Around.deeper, Around.in1, aroundOf]; omega)
    case srt =>
      intro i j hij hj
      rw [hpr0, hpr0]
      simp only [List.length_cons, List.length_nil] at hj
      obtain rfl | rfl | rfl : j = 0 ∨ j = 1 ∨ j = 2 := by omega
      · obtain rfl : i = 0 := by omega
        exact id
      · obtain rfl | rfl : i = 0 ∨ i = 1 := by omega
        all_goals (intro h; simp at h ⊢; omega)
      · obtain rfl | rfl | rfl : i = 0 ∨ i = 1 ∨ i = 2 := by omega
        all_goals (intro h; simp at h ⊢; omega)
    rintro v h' t' F' N' - ⟨r, t, rfl, b1, b2, b3, b4⟩
    simp only [hpr0] at b3 b4
    simp only [List.length_cons, List.length_nil] at b2 b4
    obtain rfl | rfl | rfl | rfl : r = 0 ∨ r = 1 ∨ r = 2 ∨ r = 3 := by omega
    · have e0 := b4 0 (by omega) (by omega)
      simp at e0
      k_steps
      rename Fr _ _ _ _ => F'; rename News _ _ _ _ => N'
      exact LCg.CompEnd.intro F' N' _ (fun p hp => .tail _ hp) off0 True.intro (kct_el ((if_pos (by omega)).trans (by decide +kernel)) rfl rfl)
    · have e0 := b3 0 (by omega) (by omega)
      have e1 := b4 1 (by omega) (by omega)
      simp at e0 e1
      k_steps
      rename Fr _ _ _ _ => F'; rename News _ _ _ _ => N'
      exact LCg.CompEnd.intro F' N' _ (fun p hp => .tail _ hp) off0 True.intro (kct_el (((if_neg (by omega)).trans (if_pos (by omega))).trans (by decide +kernel)) rfl rfl)
    · have e0 := b3 1 (by omega) (by omega)
      simp at e0
      k_steps
      rename Fr _ _ _ _ => F'; rename News _ _ _ _ => N'
      exact LCg.CompEnd.intro F' N' _ (fun p hp => .tail _ hp) off0 True.intro (kct_el (((if_neg (by omega)).trans (if_neg (by omega))).trans (by decide +kernel)) rfl rfl)
    · have e0 := b3 2 (by omega) (by omega)
      simp at e0
      exfalso
      omega
  case fin =>
    k_steps
    rename Fr _ _ _ _ => F'; rename News _ _ _ _ => N'
    exact hret _ _ _ p1 p2' exs' F'.keep hT' (fun q hq => ⟨(N' q (.tail _ (.tail _ (.tail _ (.tail _ (.tail _ (.tail _ (.tail _ (.tail _ hq))))))))).1, (N' q (.tail _ (.tail _ (.tail _ (.tail _ (.tail _ (.tail _ (.tail _ (.tail _ hq))))))))).2.2⟩) hx2 ⟨_, congrArg (fun z => Value.str z _) (word_join a b c ha hb hc)⟩
theorem wordl_con (w : World) (S : Addr) (vs : List Value) (a b c : Nat) (d5 e5 : Int) (t3 : Tok) (hi0 : IntsAre vs [(a : Int), (b : Int), (c : Int), d5, e5]) (ha : 2 ≤ a ∧ a ≤ 4) (hb : 2 ≤ b ∧ b ≤ 4) (hc : 2 ≤ c ∧ c ≤ 4) :
    ConT prg w (hd.heap_1 w.params) 72 5 [.ref S, .ref 46, .int 1 t3] (fun h => h.IsList S vs.toArray) (fun v _ => ∃ t, v = .str ⟨(List.replicate a 97 ++ List.replicate b 98 ++ List.replicate c 99).toArray⟩ t) :=
  word_con w 46 1 (fun v x => v < x) (fun _ _ => Iff.rfl) (by kernel_rfl) (fun l vs x tx kf pre g h hk hs => bisdl_con w l vs [0, 1, 2] x tx h (by decide) kf pre g hk hs) S vs a b c [d5, e5] t3 hi0 (Nat.le_refl 2) ha hb hc
theorem wordr_con (w : World) (S : Addr) (vs : List Value) (a b c : Nat) (t3 : Tok) (hi0 : IntsAre vs [(a : Int), (b : Int), (c : Int)]) (ha : 2 ≤ a ∧ a ≤ 4) (hb : 2 ≤ b ∧ b ≤ 4) (hc : 2 ≤ c ∧ c ≤ 4) :
    ConT prg w (hd.heap_1 w.params) 72 5 [.ref S, .ref 37, .int 0 t3] (fun h => h.IsList S vs.toArray) (fun v _ => ∃ t, v = .str ⟨(List.replicate a 97 ++ List.replicate b 98 ++ List.replicate c 99).toArray⟩ t) :=
  word_con w 37 0 (fun v x => ¬ x < v) (fun v k => by rw [Int.add_zero, Int.not_lt, Int.lt_add_one_iff]) (by kernel_rfl) (fun l vs x tx kf pre g h hk hs => bisdr_con w l vs [0, 1, 2] x tx h (by decide) kf pre g hk hs) S vs a b c [] t3 hi0 (Nat.zero_le 2) ha hb hc

example : True := by
  k_with_none
  k_with "tc:enter" => (
    refine wpAny_call ?_
    k_dflt (refine' con_enter (by assumption) (by assumption) (by assumption) ?zzk1 ?zzk2 ?zzk3 ?zzk4 ?zzk5 ?_ ?zzc1 ?zzc2 ?zzc3 ?zzc4; (case zzk1 => k_is); (case zzk2 => k_is); (case zzk3 => omega); (case zzk4 => first | exact BindsTo.of_eq rfl | exact kp_binds (by assumption) (fun _ => rfl)); (case zzc4 => decide); (case zzk5 => exact locs rfl); (case zzc1 => exact rfl); (case zzc2 => exact rfl); (case zzc3 => exact rfl); k_whole))
  k_with "tc:len" => (first | omega | ((try simp only [List.length_drop, List.length_take, List.length_append, List.length_cons, List.length_nil, List.length_reverse]); omega))
  k_with "tc:cl" => (first
    | exact cl_nat (by k_extra "tc:len")
    | exact cl_neg (by k_extra "tc:len")
    | exact cl_succ (by k_extra "tc:len")
    | exact cl_min _ _)
  k_with "subscriptTail Name Slice str ref" => (k_here; (with_reducible rename Fr _ _ _ _ => zzkF); (with_reducible rename News _ _ _ _ => zzkN); (with_reducible (first
    | (refine' sl_sn (s := ⟨_, _, _, _, _⟩) zzkF zzkN ?zzz ?zze ?_; (case zzz => k_extra "tc:len"); (case zze => k_extra "tc:cl"); k_whole; intro _ _ _ _ _ _)
    | (refine' sl_ns (s := ⟨_, _, _, _, _⟩) zzkF zzkN ?zzz ?zze ?_; (case zzz => k_extra "tc:len"); (case zze => k_extra "tc:cl"); k_whole; intro _ _ _ _ _ _)
    | (refine' sl_nn (s := ⟨_, _, _, _, _⟩) zzkF zzkN ?zzz ?_; (case zzz => k_extra "tc:len"); k_whole; intro _ _ _ _ _)
    | (refine' sl_ss (s := ⟨_, _, _, _, _⟩) zzkF zzkN ?zzz ?zze ?zzf ?_; (case zzz => k_extra "tc:len"); (case zze => k_extra "tc:cl"); (case zzf => k_extra "tc:cl"); k_whole; intro _ _ _ _ _ _))); (try k_sweep))
  k_with "tc:item" => (k_here; (with_reducible show wpAny _ _ (subscriptTail _ _ (Value.str (Str.mk (List.toArray _)) _) (Value.int _ _)) _ _ _); (with_reducible refine it_str ?zzz ?zza ?zzb ?_); (case zzz => k_extra "tc:len"); (case zza => k_extra "tc:len"); (case zzb => k_extra "tc:len"); k_whole; intro _)
  k_with "subscriptTail Name Name str int" => (k_extra "tc:item")
  k_with "subscriptTail Name BinOp str int" => (k_extra "tc:item")
  k_with "subscriptTail Name Constant str int" => (k_extra "tc:item")
  k_with "subscriptTail Constant Call str int" => (k_extra "tc:item")
  k_with "truthy str" => (k_here; (with_reducible show wpAny _ _ (PySem.truthy (Value.str (Str.mk (List.toArray _)) _)) _ _ _); (refine tr_str ?zzz ?_ ?_; (case zzz => k_extra "tc:len"); (all_goals intro _ _); (all_goals (try (exfalso; omega)))))
  k_with "call builtin:len" => (k_here; (with_reducible show wpAny _ _ (call (Value.builtin "len") [Value.str (Str.mk (List.toArray _)) _]) _ _ _); k_dflt (refine' len_strL ?zzz ?_; (case zzz => k_extra "tc:len"); intro _))
  k_with "eval Name local" => (fail "none")
  k_with "exec While BoolOp cons nil" => (refine Hold.mk ?_)
  k_with "exec If Compare cons nil" => ((with_reducible show wpAny _ _ (exec (Stmt.If _ [Stmt.Assign [Expr.Tuple _ _ _] _ _] [] _) _) _ _ _); refine Hold.mk ?_)
  k_with "pyIter ref" => (k_here; (with_reducible show wpAny _ _ (pyIter (Value.ref _)) (fun it s₂ => LoopAtV _ _ _ _ _ _ _ _ _ it s₂) _ _); refine Hold.mk ?_)
  k_with "exec For Name Call cons nil" => (k_here; (rename Fr _ _ _ _ => zzlF'); (with_unfolding_all refine' For_invVF zzlF' ?zzk1 ?zzk2 ?_; (case zzk1 => exact rfl); (case zzk2 => exact rfl); k_whole))
  k_with "call type:list" => ((with_reducible show wpAny _ _ (call (Value.type "list") [Value.ref _]) _ _ _); refine Hold.mk ?_)
  k_with "tc:dep" => (first | omega | ((simp only [Around.deeper, Around.in1, aroundOf] at *); omega) | (dsimp only [Around.deeper, Around.in1, aroundOf]; omega))
  k_with "tc:own" => (first
    | exact OwnOff.ne (by assumption) (by simp)
    | (intro zzq zzhq; rcases List.mem_append.mp zzhq with zzhq | zzhq <;> exact OwnOff.ne (by assumption) (by simp) zzq zzhq))
  k_with "setItem ref int" => (k_here; (with_reducible show wpAny _ _ (setItem (Value.ref _) (Value.int _ _) (Value.int _ _)) _ _ _); k_dflt (refine' ksa_set ?zzk1 ?zzk2 (Upd.head ?zzk3) ?zzk4 ?zzk5 ?zzk6 ?zzk7 ?_; (case zzk1 => k_asm); (case zzk2 => k_asm); (case zzk3 => k_extra "tc:own"); (case zzk4 => with_reducible assumption); (case zzk5 => omega); (case zzk6 => omega); (case zzk7 => omega); k_whole); intro _ _ _ _ _ zzhs'; clear zzhs'; (try k_sweep))
  k_with "exec While BoolOp cons cons nil" => (refine Hold.mk ?_)
  k_with "exec While Compare cons nil" => (refine Hold.mk ?_)
  k_with "binaryOp FloorDiv int int" => (k_here; (with_reducible refine half_nat ?_))
  k_with "tc:use" => (
    (case zzB => k_asm); (case zzF => k_asm); (case zzX => k_asm); (case zzN => k_asm); (case zzT => k_asm); (case zzh1 => exact rfl); (case zzh2 => exact rfl); (case zzh3 => exact rfl); (case zzh4 => exact rfl); (case zzh5 => (dsimp only [Around.deeper, Around.in1, aroundOf]; omega)); (case zzh6 => (dsimp only [Around.deeper, Around.in1, aroundOf]; omega)))
  k_with "tc:omega" => (first
    | ((repeat (with_reducible rename @Ne Nat _ _ => zzhh; clear zzhh)); (repeat (with_reducible rename (@Ne Nat _ _) ∧ _ => zzhh; clear zzhh)); (repeat (with_reducible rename ((@Ne Nat _ _) ∧ _) ∧ _ => zzhh; clear zzhh)); omega (splitDisjunctions := true))
    | omega (splitDisjunctions := true))
  k_with "tc:pr" => ((with_reducible rename _ ∧ _ => zzhh); first
    | exact zzhh.1 | exact zzhh.1.symm | exact Nat.ne_of_lt zzhh.1 | exact Nat.ne_of_gt zzhh.1
    | exact zzhh.2 | exact zzhh.2.symm | exact Nat.ne_of_lt zzhh.2 | exact Nat.ne_of_gt zzhh.2
    | (have zzh1 := zzhh.1; have zzh2 := zzhh.2; clear zzhh; k_extra "tc:pr"))
  k_with "tc:ne" => (refine neN ?_; (try dsimp only); with_reducible (first | assumption | exact Ne.symm (by assumption) | exact Nat.ne_of_gt (by k_extra "tc:up") | exact Nat.ne_of_lt (by k_extra "tc:up") | k_extra "tc:pr"))
  k_with "tc:up" => (with_reducible (first | exact up_s _ | assumption | k_extra "tc:prl" | (refine up_t ?_; k_extra "tc:up")))
  k_with "tc:prl" => ((with_reducible rename _ ∧ _ => zzhh); first
    | exact zzhh.1 | exact zzhh.2
    | (have zzh2 := zzhh.2; clear zzhh; k_extra "tc:prl"))
  trivial


theorem cells_cons {cm : Str → Option Value} {n : Str} {c : Addr} {cs : List (Str × Addr)} {cells : List (Addr × Obj)} (x : CellsAre cm ((n, c) :: cs) cells) : ∃ o rest, cells = (c, o) :: rest ∧ o.data = .cell (cm n) ∧ CellsAre cm cs rest := by
  cases x with
  | cons h r => exact ⟨_, _, rfl, h, r⟩
theorem cells_nil {cm : Str → Option Value} {cells : List (Addr × Obj)} (x : CellsAre cm [] cells) : cells = [] := by
  cases x with
  | nil => rfl
section
variable {M : Model} {A : Around} {E : Value → Shared → Prop} {s : Shared}
noncomputable def CutI (s : Shared) (h₀ : Heap) (L : Addr) (R : Str → Option Value) (news : List (Addr × Obj)) (x : Int) (v : Value) (s' : Shared) : Prop := ∃ t h tk, v = .int x t ∧ s' = { s with heap := h, toks := tk } ∧ Fr h₀ L h R ∧ News h₀ L h news
/-- a step that tells one whole number, whichever way it goes -/
theorem cut_int {m : Sem Value} {Q : Value → Shared → Prop} {h₀ : Heap} {L : Addr} {R : Str → Option Value} {news : List (Addr × Obj)} (x : Int) (_F : Fr h₀ L s.heap R) (_N : News h₀ L s.heap news)
    (walk : wpAny M A m (CutI s h₀ L R news x) E s)
    (next : ∀ t h tk, Fr h₀ L h R → News h₀ L h news → Q (.int x t) { s with heap := h, toks := tk }) : wpAny M A m Q E s :=
  wpAny_mono walk (fun v s' ⟨t, h, tk, e, e', F, N⟩ => by subst e; subst e'; exact next t h tk F N) fun _ _ e => e
theorem store_as {Q : Unit → Shared → Prop} {env : Env} {nm : Str} {x y : Int} {t : Tok} (e : x = y) (h : wpAny M A (storeName env nm (.int y t)) Q E s) : wpAny M A (storeName env nm (.int x t)) Q E s := by subst e; exact h
end
noncomputable def SumsIn (l : List Int) (n : Nat) : Prop := ∀ k, 0 ≤ (l.take k).sum ∧ (l.take k).sum ≤ (n : Int)
theorem cl_sum {l : List Int} {n k : Nat} (h : SumsIn l n) : cl ((l.take k).sum) n = ((l.take k).sum).toNat := by
  have := h k
  unfold cl
  rw [if_neg (Int.not_lt.mpr this.1), mm_mid this.1 this.2]
noncomputable def pieceOf (w : List Nat) (l : List Int) (k : Nat) : List Nat := (w.drop ((l.take k).sum).toNat).take (((l.take (k + 1)).sum).toNat - ((l.take k).sum).toNat)
noncomputable def greatOf (r : Nat) (ah g0 be g1 : Int) : List Int := (rangeKs 0 r).foldl (fun l k => if (k = 0 ∧ ah < g0) ∨ (k = (r : Int) - 1 ∧ be < g1) then l ++ [k] else l) []
theorem join_flat : ∀ ls : List (List Nat), Txt.join (Str.ofString "") (ls.map fun l => (⟨l.toArray⟩ : Str)) = ⟨ls.flatten.toArray⟩ := by
  intro ls
  show PySem.Builtin.Str.glued ⟨#[]⟩ _ = _
  rw [StrLaws.glued_eq_join]
  induction ls with
  | nil => rfl
  | cons l ls ih =>
    rw [List.map_cons, join_nil_cons, ih, app_mk, List.flatten_cons]
noncomputable def partOf (gr : List Int) (w : List Nat) (l : List Int) (k : Int) : List Nat := if k ∈ gr then (pieceOf w l k.toNat).map PyProof.Rows.up1 else pieceOf w l k.toNat
noncomputable def bodyOf (n : Nat) (gr : List Int) (w : List Nat) (l : List Int) : List Nat := ((rangeKs 0 n).map (partOf gr w l)).flatten
theorem piece_le (w : List Nat) (l : List Int) (k : Nat) : (pieceOf w l k).length ≤ w.length := by
  unfold pieceOf
  rw [List.length_take]
  exact Nat.le_trans (Nat.min_le_right _ _) (by rw [List.length_drop]; exact Nat.sub_le _ _)
theorem part_le (gr : List Int) (w : List Nat) (l : List Int) (k : Int) : (partOf gr w l k).length ≤ w.length := by
  have := piece_le w l k.toNat
  unfold partOf
  split
  · simpa using this
  · exact this
theorem body_join (n : Nat) (gr : List Int) (w : List Nat) (l : List Int) : Txt.join (Str.ofString "") ((rangeKs 0 n).map fun k => (⟨(partOf gr w l k).toArray⟩ : Str)) = ⟨(bodyOf n gr w l).toArray⟩ := by
  rw [bodyOf, ← join_flat, List.map_map]; rfl
section
variable {prog : Program} {w : World} {A : Around} {E : Value → Shared → Prop} {s : Shared} {t u : Tok} {Q : Value → Shared → Prop}
theorem mul_blankE {x : Int} {n : Nat} (e : x = (n : Int)) (hn : n ≤ 1000) (h : ∀ t' k, Q (.str ⟨(List.replicate n 32).toArray⟩ t') { s with toks := k }) : wpAny (model prog w) A (binaryOp .Mult (.str (Str.ofString " ") t) (.int x u)) Q E s := by
  subst e
  exact mul_blank hn h
end
noncomputable def gnOf (p0 p1 : Nat) (am : Int) : Int := if am < 0 then (p0 : Int) + p1 else min am ((p0 : Int) + p1)
noncomputable def ahOf (p0 p1 : Nat) (am : Int) : Nat := ((p0 : Int) - min (gnOf p0 p1 am) p0).toNat
noncomputable def beOf (p0 p1 : Nat) (am : Int) : Nat := ((p0 : Int) + p1 - gnOf p0 p1 am - ahOf p0 p1 am).toNat
noncomputable def postsOf (so ot : List Int) : List Int := (rangeKs 0 (so.length + 1)).map fun k => (ot.take k.toNat).sum - (so.take k.toNat).sum
noncomputable def endOf (so ot : List Int) (be : Nat) : Int := (postsOf so ot).getD so.length 0 + be
theorem cast_min (a b : Nat) : ((min a b : Nat) : Int) = min (a : Int) b := by
  rcases Nat.le_total a b with h | h
  · rw [Int.min_eq_left (Int.ofNat_le.mpr h), Nat.min_eq_left h]
  · rw [Int.min_eq_right (Int.ofNat_le.mpr h), Nat.min_eq_right h]
theorem gn_neg {p0 p1 : Nat} {am : Int} (h : am < 0) : gnOf p0 p1 am = ((p0 + p1 : Nat) : Int) := if_pos h
theorem gn_pos {p0 p1 n : Nat} : gnOf p0 p1 (n : Int) = ((min n (p0 + p1) : Nat) : Int) := by
  unfold gnOf
  rw [if_neg (Int.not_lt.mpr (Int.natCast_nonneg n)), ← Int.natCast_add, cast_min]
theorem ah_of {p0 p1 g : Nat} {am : Int} (h : gnOf p0 p1 am = (g : Int)) : ahOf p0 p1 am = p0 - min g p0 := by
  unfold ahOf
  rw [h, ← cast_min, Int.toNat_sub]
theorem be_of {p0 p1 g : Nat} {am : Int} (h : gnOf p0 p1 am = (g : Int)) (hg : g ≤ p0 + p1) : beOf p0 p1 am = p0 + p1 - g - (p0 - min g p0) := by
  unfold beOf
  rw [h, ah_of h, ← Int.natCast_add, ← Int.ofNat_sub hg, Int.toNat_sub]
theorem strip_eq {p0 p1 : Nat} {am : Int} {bd : List Nat} (h : -1 ≤ am) : padded (p0 - (if am < 0 then p0 else min am.toNat p0)) (p1 - (if am < 0 then p1 else min (am.toNat - p0) p1)) bd = padded (ahOf p0 p1 am) (beOf p0 p1 am) bd := by
  clear h
  by_cases hn : am < 0
  · rw [if_pos hn, if_pos hn, ah_of (gn_neg hn), be_of (gn_neg hn) (Nat.le_refl _), Nat.min_eq_right (Nat.le_add_right _ _), Nat.sub_self, Nat.sub_self, Nat.sub_self]
  · rw [if_neg hn, if_neg hn]
    obtain ⟨n, rfl⟩ := Int.eq_ofNat_of_zero_le (Int.not_lt.mp hn)
    clear hn
    rw [Int.toNat_natCast, ah_of gn_pos]
    rcases Nat.le_total n p0 with h1 | h1
    · have h2 : n ≤ p0 + p1 := Nat.le_trans h1 (Nat.le_add_right _ _)
      rw [be_of gn_pos (by rw [Nat.min_eq_left h2]; exact h2), Nat.min_eq_left h2, Nat.min_eq_left h1, Nat.sub_eq_zero_of_le h1, Nat.min_eq_left (Nat.zero_le _)]
      congr 1
      clear h2
      omega
    · rw [Nat.min_eq_right h1]
      rcases Nat.le_total n (p0 + p1) with h2 | h2
      · rw [be_of gn_pos (by rw [Nat.min_eq_left h2]; exact h2), Nat.min_eq_left h2, Nat.min_eq_right h1, Nat.sub_self, Nat.min_eq_left (Nat.sub_le_iff_le_add'.mpr h2)]
        congr 1
        omega
      · rw [be_of gn_pos (Nat.min_le_right _ _), Nat.min_eq_right h2, Nat.min_eq_right (Nat.le_add_right _ _), Nat.min_eq_right (Nat.le_sub_of_add_le' h2), Nat.sub_self, Nat.sub_self, Nat.sub_self]
theorem body_le (n : Nat) (gr : List Int) (w : List Nat) (l : List Int) (B : Nat) (hw : w.length ≤ B) : (bodyOf n gr w l).length ≤ n * B := by
  have key : ∀ ks : List Int, ((ks.map (partOf gr w l)).flatten).length ≤ ks.length * B := by
    intro ks
    induction ks with
    | nil => simp
    | cons k ks ih =>
      have := part_le gr w l k
      rw [List.map_cons, List.flatten_cons, List.length_append, List.length_cons, Nat.succ_mul]
      omega
  have := key (rangeKs 0 n)
  rwa [rangeKs_length] at this
theorem piece_get {w : List Nat} {l : List Int} {n i : Nat} (h : i < n) : ((rangeKs 0 n).map fun k => (⟨(pieceOf w l k.toNat).toArray⟩ : Str)).getD (i : Int).toNat Str.empty = ⟨(pieceOf w l i).toArray⟩ := by
  rw [List.getD_eq_getElem?_getD]
  simp [rangeKs, h]
theorem piece_mem {w : List Nat} {l : List Int} {i c : Nat} (h : c ∈ pieceOf w l i) : c ∈ w := List.mem_of_mem_drop (List.mem_of_mem_take h)
theorem con_useT' {p pp : Program} {w : World} {K : Frag} {f : Addr} {lv : Nat} {vs : List Value} {pre : Heap → Prop} {post : Value → Heap → Prop} (C : ConT p w K f lv vs pre post)
    {A A₀ : Around} {base h₀ : Heap} {outer : List Env} {env : Env} {L : Addr} {m : Str → Option Value} {own : List (Addr × Obj)} {loose : List Str} {mean : ExcName → Option Value} {mg mb : Str → Option Value} {s : Shared} {Q E : Value → Shared → Prop} {p1 p2 : Array Value} {exs : List (Addr × Obj)}
    (B : Below A₀ base outer h₀) (F : Fr h₀ L s.heap m) (X : K.In h₀) (N : News h₀ L s.heap (own ++ tabs p1 p2 exs)) (T : Top pp loose mean mg mb h₀) (C1 : CodeHd h₀ 78 74) (C2 : CodeHd h₀ 71 69)
    (hT : TabSt p1 p2 exs) (hown : ∀ q ∈ own, q.1 ≠ 74 ∧ q.1 ≠ 69)
    (hh : A.handled = none) (hA : A.frames = some (env :: outer)) (hf : env.frame = some L) (hke : env.scope.kind = .function) (hd : A.depth + lv < recursionLimit) (hu : A.units + 10 * lv < cLine)
    (hpre : ∀ g, Fr h₀ L g m → (∀ b o, s.heap.get? b = some o → b ∉ (tabs p1 p2 exs).map (·.1) → g.get? b = some o) → pre g)
    (ret : ∀ v h' t' p1' p2' exs', TabSt p1' p2' exs' → (∀ q ∈ exs, q ∈ exs') → Fr h₀ L h' m → News h₀ L h' (own ++ tabs p1' p2' exs') → post v h' → Q v { s with heap := h', toks := t' }) :
    wpAny (model p w) A (call (.ref f) vs) Q E s := by
  obtain ⟨hd0, dp, fr, gd, un⟩ := A
  obtain rfl : hd0 = none := hh
  obtain rfl : fr = some (env :: outer) := hA
  have N0 : News h₀ L s.heap (tabs p1 p2 exs) := fun q hq => N q (List.mem_append_right _ hq)
  obtain ⟨FG, BG, st, -⟩ := groundX (A := ⟨none, dp, some (env :: outer), gd, un⟩) (R := fun _ _ => True) B F N0 rfl hf hke
  refine C pp loose mean mg mb dp un gd base (env :: outer) (hideAll s.heap ((tabs p1 p2 exs).map fun q : Addr × Obj => q.1)) p1 p2 exs s Q E ⟨rfl, BG.stays, BG.frames⟩ (X.keeps st) (T.keeps st) (C1.keeps st) (C2.keeps st) (fun b o e => of_hideAll _ e)
    (Nat.le_of_eq (hideAll_size _ _)) hT (fun q hq => ⟨(N0 q hq).1, hideAll_none _ (List.mem_map_of_mem hq)⟩) hd hu (hpre _ FG fun b o e hb => hideAll_get _ e hb) (fun v h' t' p1' p2' exs' hs hT' ht' hx hp => ?_)
  have hL := FG.ns
  refine ret v h' t' p1' p2' exs' hT' hx ?_ ?_ hp
  · obtain ⟨oL, a1, a2, hL, a3⟩ := FG.ns
    exact ⟨⟨oL, a1, a2, hs _ _ hL, a3⟩, fun b o e => hs _ _ (st b o e), F.above⟩
  · intro q hq
    have fresh : ∀ q ∈ tabs p1' p2' exs', h'.get? q.1 = some q.2 ∧ q.1 ≠ L ∧ h₀.get? q.1 = none := fun q hq => by
      refine ⟨(ht' q hq).1, fun e => ?_, ?_⟩
      · obtain ⟨oL, a1, a2, hL, a3⟩ := FG.ns
        have := (ht' q hq).2
        rw [e, hL] at this; cases this
      · cases k : h₀.get? q.1 with
        | none => rfl
        | some o => have := (ht' q hq).2; rw [st _ _ k] at this; cases this
    rcases List.mem_append.mp hq with hq | hq
    · obtain ⟨m2, m3⟩ := hown q hq
      have m1 := List.mem_append_left (tabs p1 p2 exs) hq
      by_cases hb : q.1 ∈ (tabs p1 p2 exs).map (·.1)
      · obtain ⟨r, hr, e⟩ := List.mem_map.mp hb
        rcases List.mem_cons.mp hr with rfl | hr'
        · exact absurd e.symm m2
        · rcases List.mem_cons.mp hr' with rfl | hr'
          · exact absurd e.symm m3
          · have e1 := (N0 r hr).1
            rw [e, (N q m1).1] at e1
            have e2 : q = r := Prod.ext e.symm (Option.some.inj e1)
            rw [e2]
            exact fresh r (List.mem_cons_of_mem _ (List.mem_cons_of_mem _ (hx r hr')))
      · exact ⟨hs _ _ (hideAll_get _ (N q m1).1 hb), (N q m1).2⟩
    · exact fresh q hq
noncomputable def NF (o : Obj) : Prop := ∀ vs, o.data ≠ .fields vs
noncomputable def AllNF : List (Addr × Obj) → Prop
  | [] => True
  | q :: r => NF q.2 ∧ AllNF r
theorem nf_seq {o : Obj} {a : Array Value} {n : Nat} (h : o.data = .seq a n) : NF o := fun vs e => by rw [h] at e; cases e
theorem nf_cell {o : Obj} {v : Option Value} (h : o.data = .cell v) : NF o := fun vs e => by rw [h] at e; cases e
theorem allNF : ∀ {l : List (Addr × Obj)}, AllNF l → ∀ q ∈ l, NF q.2
  | [], _, q, hq => absurd hq List.not_mem_nil
  | a :: l, h, q, hq => by
    rcases List.mem_cons.mp hq with rfl | hq
    · exact h.1
    · exact allNF h.2 q hq
theorem own_off {h₀ h : Heap} {L : Addr} {own : List (Addr × Obj)} {p1 p2 : Array Value} {exs : List (Addr × Obj)} (N : News h₀ L h (own ++ tabs p1 p2 exs)) (a : AllNF own) : ∀ q ∈ own, q.1 ≠ 74 ∧ q.1 ≠ 69 := by
  intro q hq
  have hn := allNF a q hq
  have e := (N q (List.mem_append_left _ hq)).1
  refine ⟨fun e' => ?_, fun e' => ?_⟩
  · have e2 := (N _ (List.mem_append_right own (List.Mem.head _))).1
    rw [e'] at e
    rw [e] at e2
    exact hn _ (congrArg Obj.data (Option.some.inj e2))
  · have e2 := (N _ (List.mem_append_right own (List.Mem.tail _ (List.Mem.head _)))).1
    rw [e'] at e
    rw [e] at e2
    exact hn _ (congrArg Obj.data (Option.some.inj e2))
theorem getD_in {P : Int → Prop} {l : List Int} {i : Nat} (h : ∀ x ∈ l, P x) (hi : i < l.length) : P (l.getD i 0) := by
  rw [List.getD_eq_getElem?_getD, List.getElem?_eq_getElem hi]
  exact h _ (List.getElem_mem hi)
noncomputable def absOf (so ot : List Int) (k : Int) : Int := if ot.getD k.toNat 0 - so.getD k.toNat 0 < 0 then -(ot.getD k.toNat 0 - so.getD k.toNat 0) else ot.getD k.toNat 0 - so.getD k.toNat 0
noncomputable def minOf (so ot : List Int) (k : Int) : Int := if ot.getD k.toNat 0 < so.getD k.toNat 0 then ot.getD k.toNat 0 else so.getD k.toNat 0
noncomputable def due1Of (so ot : List Int) (ah be : Nat) : Int := (ah : Int) + be + ((rangeKs 0 so.length).map (absOf so ot)).sum + wayOf (postsOf so ot) (-(ah : Int)) (endOf so ot be)
noncomputable def due2Of (so ot : List Int) (ah be : Nat) (gr : List Int) : Int := due1Of so ot ah be + (gr.map (minOf so ot)).sum
theorem great_in {n : Nat} {ah g0 be g1 k : Int} (h : k ∈ greatOf n ah g0 be g1) : 0 ≤ k ∧ k < n := by
  have key : ∀ (ks l : List Int), (∀ x ∈ l, 0 ≤ x ∧ x < (n : Int)) → (∀ x ∈ ks, 0 ≤ x ∧ x < (n : Int)) → ∀ x ∈ ks.foldl (fun l k => if (k = 0 ∧ ah < g0) ∨ (k = (n : Int) - 1 ∧ be < g1) then l ++ [k] else l) l, 0 ≤ x ∧ x < (n : Int) := by
    intro ks
    induction ks with
    | nil => exact fun l hl _ => hl
    | cons a ks ih =>
      intro l hl hk
      rw [List.foldl_cons]
      refine ih _ ?_ fun x hx => hk x (.tail _ hx)
      intro x hx
      split at hx
      · rcases List.mem_append.mp hx with hx | hx
        · exact hl x hx
        · rw [List.mem_singleton.mp hx]
          exact hk a (.head _)
      · exact hl x hx
  exact key _ [] (fun x hx => absurd hx List.not_mem_nil) (fun x hx => by have := mem_rangeKs hx; omega) k h
theorem cl_suml {l : List Int} {n : Nat} (h : SumsIn l n) : cl (l.sum) n = (l.sum).toNat := by
  have := h l.length
  rw [List.take_length] at this
  unfold cl
  rw [if_neg (Int.not_lt.mpr this.1), mm_mid this.1 this.2]
/-- an inequality, kept from the arithmetic -/
structure NEs (a b : Nat) : Prop where
  ne : a ≠ b
theorem NEs.en {a b : Nat} (h : NEs b a) : a ≠ b := fun e => h.ne e.symm
section
variable {M : Model} {A : Around} {E : Value → Shared → Prop} {s : Shared}
noncomputable def CutP (s : Shared) (h₀ : Heap) (L : Addr) (R : Str → Option Value) (news : List (Addr × Obj)) (x y : List Nat) (v : Value) (s' : Shared) : Prop :=
  ∃ D t u h tk, v = .ref D ∧ s' = { s with heap := h, toks := tk } ∧ Fr h₀ L h R ∧ News h₀ L h ((D, listOf (List.toArray [.str ⟨x.toArray⟩ t, .str ⟨y.toArray⟩ u]) 0) :: news) ∧ AllLt D news
/-- a step that tells a new list of two words, whichever way it goes -/
theorem cut_pair {m : Sem Value} {Q : Value → Shared → Prop} {h₀ : Heap} {L : Addr} {R : Str → Option Value} {news : List (Addr × Obj)} (x y : List Nat) (_F : Fr h₀ L s.heap R) (_N : News h₀ L s.heap news)
    (walk : wpAny M A m (CutP s h₀ L R news x y) E s)
    (next : ∀ D t u h tk, Fr h₀ L h R → News h₀ L h ((D, listOf (List.toArray [.str ⟨x.toArray⟩ t, .str ⟨y.toArray⟩ u]) 0) :: news) → AllLt D news → Q (.ref D) { s with heap := h, toks := tk }) : wpAny M A m Q E s :=
  wpAny_mono walk (fun v s' ⟨D, t, u, h, tk, e, e', F, N, l⟩ => by subst e; subst e'; exact next D t u h tk F N l) fun _ _ e => e
end
noncomputable def oneOf (w0 : List Nat) (so : List Int) : List Nat := w0.take so.sum.toNat
noncomputable def paOf (n : Nat) (one line : List Nat) : List Nat := if n % 2 = 1 then one else line
noncomputable def pbOf (n : Nat) (one line : List Nat) : List Nat := if n % 2 = 1 then line else one
theorem up1_lt {c : Nat} (h : c < 128) : PyProof.Rows.up1 c < 128 := by
  unfold PyProof.Rows.up1
  split <;> omega
theorem body_chars {n : Nat} {gr : List Int} {w : List Nat} {l : List Int} (hw : ∀ c ∈ w, c < 128) : ∀ c ∈ bodyOf n gr w l, c < 128 := by
  intro c hc
  obtain ⟨p, hp, hc⟩ := List.mem_flatten.mp hc
  obtain ⟨k, _, rfl⟩ := List.mem_map.mp hp
  unfold partOf at hc
  split at hc
  · obtain ⟨d, hd, rfl⟩ := List.mem_map.mp hc
    exact up1_lt (hw d (piece_mem hd))
  · exact hw c (piece_mem hc)
theorem pad_chars {p q : Nat} {l : List Nat} (h : ∀ c ∈ l, c < 128) : ∀ c ∈ padded p q l, c < 128 := by
  intro c hc
  unfold padded at hc
  rcases List.mem_append.mp hc with hc | hc
  · rcases List.mem_append.mp hc with hc | hc
    · rw [(List.mem_replicate.mp hc).2]; omega
    · exact h c hc
  · rw [(List.mem_replicate.mp hc).2]; omega
theorem pa_all {P : List Nat → Prop} {n : Nat} {x y : List Nat} (hx : P x) (hy : P y) : P (paOf n x y) ∧ P (pbOf n x y) := by
  unfold paOf pbOf
  split <;> exact ⟨by assumption, by assumption⟩
noncomputable def GoodW (l : List Nat) : Prop := l.length ≤ 40 ∧ ∀ c ∈ l, c < 128
theorem one_good {w0 : List Nat} {so : List Int} (h : w0.length ≤ 12) (hA : ∀ c ∈ w0, c < 128) : GoodW (oneOf w0 so) :=
  ⟨by simp [oneOf]; omega, fun c hc => hA c (List.mem_of_mem_take hc)⟩
theorem line_good {p q : Nat} {bd : List Nat} (hp : p ≤ 2) (hq : q ≤ 2) (h : bd.length ≤ 36) (hA : ∀ c ∈ bd, c < 128) : GoodW (padded p q bd) :=
  ⟨by rw [padded_len]; omega, pad_chars hA⟩
theorem eq_false_true : MeetsSeq.EqGives (.bool false) (.bool true) false := fun prog w A E s Q h => PySem.SeqAt.EqAt.bool_bool (A := A) (s := s) false true prog w E Q h
theorem not_in_falses {prog : Program} {w : World} {A : Around} {E : Value → Shared → Prop} {s : Shared} {l : Addr} {ys : List Value} {Q : Value → Shared → Prop} (hl : s.heap.IsList l ys.toArray) (hy : ∀ y ∈ ys, y = .bool false) (h : Q (.bool true) s) :
    wpAny (model prog w) A (compareOp .NotIn (.bool true) (.ref l)) Q E s := by
  refine SeqInW.notIn_listW (fun _ => false) (fun y hm => by rw [hy y (by simpa using hm)]; exact eq_false_true) hl ?_
  have e : ys.toArray.any (fun _ => false) = false := by simp
  rw [e]
  exact h

theorem quiet5 : True := by
  w_top off
  trivial
section
example : True := by
  k_with "tc:enterT" => (
    refine wpAny_call ?_
    k_dflt (refine' con_enterT (by assumption) (by assumption) (by assumption) (by assumption) (by assumption) ?zzk1 ?zzk2 ?zzk3 ?zzk4 ?zzk5 ?_ ?zzc1 ?zzc2 ?zzc3 ?zzc4; (case zzk1 => k_is); (case zzk2 => k_is); (case zzk3 => omega); (case zzk4 => first | exact BindsTo.of_eq rfl | exact kp_binds (by assumption) (fun _ => rfl)); (case zzc4 => decide); (case zzk5 => exact locs rfl); (case zzc1 => exact rfl); (case zzc2 => exact rfl); (case zzc3 => exact rfl); k_whole))
  k_with "tc:enterTC" => (
    refine wpAny_call ?_
    k_dflt (refine' con_enterTC (by assumption) (by assumption) (by assumption) (by assumption) (by assumption) ?zzk1 ?zzk2 ?zzk3 ?zzk4 ?zzk5 ?zzk6 ?_ ?zzc1 ?zzc2 ?zzc3; (case zzk1 => k_is); (case zzk2 => k_is); (case zzk3 => omega); (case zzk4 => first | exact BindsTo.of_eq rfl | exact kp_binds (by assumption) (fun _ => rfl)); (case zzk5 => exact rfl); (case zzk6 => decide +kernel); (case zzc1 => exact rfl); (case zzc2 => exact rfl); (case zzc3 => exact rfl); k_whole))
  k_with "tc:all" => (first | with_reducible assumption | (refine all_off (by assumption) ?_; (try dsimp only); omega))
  trivial

example : True := by
  k_with "tc:enterC" => (
    refine wpAny_call ?_
    k_dflt (refine' con_enterC (by assumption) (by assumption) (by assumption) ?zzk1 ?zzk2 ?zzk3 ?zzk4 ?zzk5 ?zzk6 ?_ ?zzc1 ?zzc2 ?zzc3; (case zzk1 => k_is); (case zzk2 => k_is); (case zzk3 => omega); (case zzk4 => first | exact BindsTo.of_eq rfl | exact kp_binds (by assumption) (fun _ => rfl)); (case zzk5 => exact rfl); (case zzk6 => decide +kernel); (case zzc1 => exact rfl); (case zzc2 => exact rfl); (case zzc3 => exact rfl); k_whole))
  k_with "CompSrc" => (k_here; refine Hold.mk ?_)
  k_with "eval Name" => (k_here; k_dflt (refine' name_free ?zzF ?zzc ?zzC ?_ ?zza ?zzb; (case zza => rfl); (case zzb => rfl); (case zzF => k_asm); (case zzc => rfl); (case zzC => with_reducible assumption); k_whole))
  k_with "binaryOp Add str str" => (k_here; (with_reducible show wpAny _ _ (binaryOp Operator.Add (Value.str (Str.mk (List.toArray _)) _) (Value.str (Str.mk (List.toArray _)) _)) _ _ _); (refine add_strL ?zzz ?_); (case zzz => k_extra "tc:len"); intro _ _)
  k_with "tc:cl" => (exact cl_add (by k_extra "tc:len"))
  trivial

example : True := by
  k_with "call ref" => (k_here; (with_reducible show wpAny _ _ (call (Value.ref _) _ _) _ _ _); refine Hold.mk ?_)
  k_with "eval Name" => (k_here; k_dflt (refine' name_free ?zzF ?zzc ?zzC ?_ ?zza ?zzb; (case zza => rfl); (case zzb => rfl); (case zzF => k_asm); (case zzc => rfl); (case zzC => with_reducible assumption); k_whole))
  k_with "exec Assign cons ListComp" => (walk_at "exec Assign")
  k_with "eval ListComp" => (k_here; k_dflt (refine LCg.ListComp_U (F₀ := by k_asm) (by with_unfolding_all rfl) (by decide) (by rfl) (by decide) (by rfl) ?_))
  k_with "eval ListComp" => (k_here; (with_reducible show wpAny _ _ (eval (Expr.ListComp _ [Comprehension.mk _ _ (_ :: _) _] _ _) _) _ _ _); k_dflt (refine LCt.ListComp_T (F₀ := by k_asm) (by with_unfolding_all rfl) (by decide) (by rfl) (by decide) (by rfl) ?_))
  k_with "CompSrcT" => (k_here; refine Hold.mk ?_)
  k_with "eval IfExp" => (k_here; refine Hold.mk ?_)
  k_with "storeName" => (k_here; (first
    | (with_reducible show wpAny _ _ (storeName _ (Str.ofString "ahead") (Value.int (HSub.hSub _ _) _)) _ _ _)
    | (with_reducible show wpAny _ _ (storeName _ (Str.ofString "behind") (Value.int (HSub.hSub _ _) _)) _ _ _)); refine Hold.mk ?_)
  k_with "subscriptTail Subscript Slice str ref" => (walk_at "subscriptTail Name Slice str ref")
  k_with "tc:cl" => (exact cl_sum (by assumption))
  k_with "subscriptTail Name Name ref int" => (k_here; (with_reducible show wpAny _ _ (subscriptTail (Expr.Name (Str.ofString "pieces") _) _ _ _) _ _ _); refine Hold.mk ?_)
  k_with "call builtin:str.join" => (k_here; refine Hold.mk ?_)
  k_with "call builtin:str.upper" => (k_here; refine Hold.mk ?_)
  k_with "binaryOp Mult str int" => (k_here; (refine mul_blankE (by rfl) (by omega) ?_); intro _ _)
  k_with "tc:len" => ((simp only [List.length_append, List.length_replicate]); omega)
  k_with "storeName" => (k_here; (with_reducible show wpAny _ _ (storeName _ (Str.ofString "end") (Value.int (HAdd.hAdd _ _) _)) _ _ _); refine Hold.mk ?_)
  k_with "storeName" => (k_here; (with_reducible show wpAny _ _ (storeName _ (Str.ofString "due") (Value.int (HAdd.hAdd _ _) _)) _ _ _); refine Hold.mk ?_)
  k_with "tc:cl" => (exact cl_suml (by assumption))
  k_with "tc:ne" => (refine neN ?_; (try dsimp only); first | exact NEs.ne (by with_reducible assumption) | exact NEs.en (by with_reducible assumption))
  k_with "tc:brk" => (repeat (first
    | (rename (@Ne Nat _ _) ∧ _ => zzhh; have zzhq := NEs.mk zzhh.1; replace zzhh := zzhh.2)
    | (rename @Ne Nat _ _ => zzhh; have zzhq := NEs.mk zzhh; clear zzhh)))
  k_with "KCfEl" => (exact kcf_el rfl rfl rfl)
  trivial

theorem front_con (w : World) (W SO OT PA GR BO : Addr) (w0 w1 : List Nat) (tw0 tw1 : Tok) (vS vO vB : List Value) (so ot bo : List Int) (p0 p1 : Nat) (g0 g1 am : Int) (tp0 tp1 tg0 tg1 tam : Tok) (r : Nat)
    (hS : IntsAre vS so) (hO : IntsAre vO ot) (hB : IntsAre vB bo) (hr : 1 ≤ r ∧ r ≤ 3) (hsl : so.length = r) (hol : ot.length = r) (hbl : 1 ≤ bo.length ∧ bo.length ≤ 2)
    (hp0 : p0 ≤ 2) (hp1 : p1 ≤ 2) (hg0 : 0 ≤ g0 ∧ g0 ≤ 1) (hg1 : 0 ≤ g1 ∧ g1 ≤ 1) (ham : -1 ≤ am ∧ am ≤ 4) (hw0 : w0.length ≤ 12) (hw1 : w1.length ≤ 12) (hsO : SumsIn ot w1.length) (hsS : SumsIn so w0.length) (hwA : ∀ c ∈ w1, c < 128)
    (hB0 : ∀ gr bd, gr = greatOf so.length (ahOf p0 p1 am) g0 (beOf p0 p1 am) g1 → bd = bodyOf so.length gr w1 ot → 0 < bd.length ∧ bd.getD 0 0 ≠ 32 ∧ bd.getD (bd.length - 1) 0 ≠ 32)
    (hpb : ∀ x ∈ postsOf so ot, -12 ≤ x ∧ x ≤ 12)
    (hway : wayOf (postsOf so ot).reverse (endOf so ot (beOf p0 p1 am)) (-(ahOf p0 p1 am : Int)) = wayOf (postsOf so ot) (-(ahOf p0 p1 am : Int)) (endOf so ot (beOf p0 p1 am)))
    (hbob : ∀ m ∈ bo, -1 ≤ m ∧ m ≤ 1) (hdb : ∀ gr, gr = greatOf so.length (ahOf p0 p1 am) g0 (beOf p0 p1 am) g1 → 0 ≤ due2Of so ot (ahOf p0 p1 am) (beOf p0 p1 am) gr ∧ due2Of so ot (ahOf p0 p1 am) (beOf p0 p1 am) gr ≤ 500) (hw0A : ∀ c ∈ w0, c < 128)
    (hlev : ∀ gr bd, gr = greatOf so.length (ahOf p0 p1 am) g0 (beOf p0 p1 am) g1 → bd = bodyOf so.length gr w1 ot →
      ((bo.map fun m => due2Of so ot (ahOf p0 p1 am) (beOf p0 p1 am) gr + m) ++ [0]).map (fun c => lev (paOf so.length (oneOf w0 so) (padded (ahOf p0 p1 am) (beOf p0 p1 am) bd)) (pbOf so.length (oneOf w0 so) (padded (ahOf p0 p1 am) (beOf p0 p1 am) bd)) c)
        = (List.replicate bo.length [due2Of so ot (ahOf p0 p1 am) (beOf p0 p1 am) gr]).flatten ++ [if grownOf (oneOf w0 so) (padded (ahOf p0 p1 am) (beOf p0 p1 am) bd) = true then due2Of so ot (ahOf p0 p1 am) (beOf p0 p1 am) gr else 1]) :
    ConT prg w (hd.heap_1 w.params) 89 8 [.ref W, .ref SO, .ref OT, .ref PA, .ref GR, .int am tam, .ref BO]
      (fun h => h.IsList W #[.str ⟨w0.toArray⟩ tw0, .str ⟨w1.toArray⟩ tw1] ∧ h.IsList SO vS.toArray ∧ h.IsList OT vO.toArray ∧ h.IsList PA #[.int (p0 : Int) tp0, .int (p1 : Int) tp1] ∧ h.IsList GR #[.int g0 tg0, .int g1 tg1] ∧ h.IsList BO vB.toArray)
      (fun v _ => v = .bool true) := by
  show (fun (_ : OpenLaw) => ConT prg w (hd.heap_1 w.params) 89 8 [.ref W, .ref SO, .ref OT, .ref PA, .ref GR, .int am tam, .ref BO]
      (fun h => h.IsList W #[.str ⟨w0.toArray⟩ tw0, .str ⟨w1.toArray⟩ tw1] ∧ h.IsList SO vS.toArray ∧ h.IsList OT vO.toArray ∧ h.IsList PA #[.int (p0 : Int) tp0, .int (p1 : Int) tp1] ∧ h.IsList GR #[.int g0 tg0, .int g1 tg1] ∧ h.IsList BO vB.toArray)
      (fun v _ => v = .bool true)) PySem.Challenge.rw_tc0007_01
  k_fill
  dsimp only
  intro pp loose mean mg mb dp un gd base outer g p1' p2' exs s Q E B X T C1 C2 hgs hgz hT htb hd hu hpre hret
  obtain ⟨hW, hSO, hOT, hPA, hGR, hBO⟩ := hpre
  k_extra "tc:enterTC"
  intro L' h₁ tk' cells F' N' Y l1
  have hxl : ∀ q ∈ exs, q.1 < L' := fun q hq => l1 q (.tail _ (.tail _ hq))
  k_lt l1
  obtain ⟨o1, rest1, rfl, d1, Y2⟩ := cells_cons Y
  clear Y; rename CellsAre _ _ _ => Y
  obtain ⟨o2, rest2, rfl, d2, Y2⟩ := cells_cons Y
  clear Y; rename CellsAre _ _ _ => Y
  obtain ⟨o3, rest3, rfl, d3, Y2⟩ := cells_cons Y
  clear Y; rename CellsAre _ _ _ => Y
  obtain ⟨o4, rest4, rfl, d4, Y2⟩ := cells_cons Y
  clear Y; rename CellsAre _ _ _ => Y
  obtain ⟨o5, rest5, rfl, d5, Y2⟩ := cells_cons Y
  clear Y; rename CellsAre _ _ _ => Y
  obtain ⟨o6, rest6, rfl, d6, Y2⟩ := cells_cons Y
  clear Y; rename CellsAre _ _ _ => Y
  obtain ⟨o7, rest7, rfl, d7, Y2⟩ := cells_cons Y
  clear Y; rename CellsAre _ _ _ => Y
  obtain ⟨o8, rest8, rfl, d8, Y2⟩ := cells_cons Y
  clear Y; rename CellsAre _ _ _ => Y
  obtain ⟨o9, rest9, rfl, d9, Y2⟩ := cells_cons Y
  clear Y; rename CellsAre _ _ _ => Y
  obtain ⟨o10, rest10, rfl, d10, Y2⟩ := cells_cons Y
  clear Y; rename CellsAre _ _ _ => Y
  obtain ⟨o11, rest11, rfl, d11, Y2⟩ := cells_cons Y
  clear Y; rename CellsAre _ _ _ => Y
  obtain rfl := cells_nil Y
  clear Y
  simp only [List.cons_append, List.nil_append, tabs] at N'
  k_steps
  refine Hold.of ?_
  k_extra "tc:brk"
  rename Fr _ _ _ _ => F'; rename News _ _ _ _ => N'
  obtain ⟨gn, hgn0⟩ : ∃ gn : Int, gn = gnOf p0 p1 am := ⟨_, rfl⟩
  have hgn : gn = if am < 0 then (p0 : Int) + p1 else min am ((p0 : Int) + p1) := hgn0
  have hgb : 0 ≤ gn ∧ gn ≤ (p0 : Int) + p1 := by rw [hgn]; split <;> omega
  refine cut_int gn F' N' ?walk ?_
  case walk =>
    refine IfExp_ ?_
    k_steps
    all_goals (rename Fr _ _ _ _ => F'; rename News _ _ _ _ => N'; exact ⟨_, _, _, congrArg (fun z => Value.int z _) (by rw [hgn]; (repeat' split) <;> omega), rfl, F', N'⟩)
  clear F' N'
  intro t2 h2 tk2 F' N'
  k_steps
  refine Hold.of ?_
  k_extra "tc:brk"
  rename Fr _ _ _ _ => F'; rename News _ _ _ _ => N'
  obtain ⟨ah, hah0⟩ : ∃ ah : Nat, ah = ahOf p0 p1 am := ⟨_, rfl⟩
  have hah : (ah : Int) = p0 - min gn p0 := by rw [hah0, ahOf, ← hgn0]; omega
  refine store_as (y := (ah : Int)) (by rw [hah]; show (p0 : Int) - (if (p0 : Int) < gn then (p0 : Int) else gn) = _; split <;> omega) ?_
  k_steps
  refine Hold.of ?_
  k_extra "tc:brk"
  rename Fr _ _ _ _ => F'; rename News _ _ _ _ => N'
  obtain ⟨be, hbe0⟩ : ∃ be : Nat, be = beOf p0 p1 am := ⟨_, rfl⟩
  have hbe : (be : Int) = p0 + p1 - gn - ah := by rw [hbe0, beOf, ← hgn0, ← hah0]; omega
  refine store_as (y := (be : Int)) (by rw [hbe]; omega) ?_
  have hal : ah ≤ 2 := by omega
  have hbl2 : be ≤ 2 := by omega
  clear hgn hah hbe hgb hgn0
  k_steps
  refine Hold.of ?_
  k_extra "tc:brk"
  rename IsRange _ _ _ _ _ _ _ _ => rgX
  rename Fr _ _ _ _ => F'; rename News _ _ _ _ => N'
  refine LCt.CompSrcT.range (n := so.length) rfl F' N' rgX (small_one (by omega) (by omega) (by omega) (by omega)) ((rangeSize_nat _ _).trans (by omega)) (by rw [PySem.sizeLine_eq]; omega) ?_
  intro g3
  refine kci_range (fun l k => if (k = 0 ∧ (ah : Int) < g0) ∨ (k = (so.length : Int) - 1 ∧ (be : Int) < g1) then l ++ [k] else l) ?turn ?fin ?grow
  case grow =>
    intro l k
    dsimp only
    split
    · simp
    · omega
  case turn =>
    clear F' N' rgX
    intro k tt I oI C oC D m₂ zs l h tk E' k1 k2 hl hC hx F' N' off0 ne hmk
    clear ne
    have hgd0 : [g0, g1].getD (Int.toNat 0) 0 = g0 := rfl
    have hgd1 : [g0, g1].getD (Int.toNat 1) 0 = g1 := rfl
    k_steps
    all_goals refine LCg.CompEnd.intro F' N' _ (fun p hp => hp) off0 True.intro ?_
    all_goals first
      | exact kci_el (if_pos (by omega)) rfl rfl
      | exact kci_no (if_neg (by omega)) rfl
  case fin =>
  clear F' N' rgX
  show ∀ ys, _
  intro gv hgv hgl
  obtain ⟨gr, hgr⟩ : ∃ gr, gr = greatOf so.length ah g0 be g1 := ⟨_, rfl⟩
  replace hgv : IntsAre gv gr := by rw [hgr]; exact hgv
  have hgL : gv.length ≤ 3 := by omega
  clear hgl
  k_steps
  refine Hold.of ?_
  k_extra "tc:brk"
  rename IsRange _ _ _ _ _ _ _ _ => rgX
  rename Fr _ _ _ _ => F'; rename News _ _ _ _ => N'
  refine LCg.CompSrc.range (n := so.length) rfl F' N' rgX (small_one (by omega) (by omega) (by omega) (by omega)) ((rangeSize_nat _ _).trans (by omega)) (by rw [PySem.sizeLine_eq]; omega) ?_
  intro g4
  refine kct_range (fun k => ⟨(pieceOf w1 ot k.toNat).toArray⟩) ?turn ?fin
  case turn =>
    clear F' N' rgX
    intro k tt I oI C oC D m₂ zs h tk E' k1 k2 hC hx F' N' off0 ne hmk
    clear ne
    obtain ⟨i, rfl⟩ : ∃ i : Nat, k = i := ⟨k.toNat, by omega⟩
    k_steps
    rename Fr _ _ _ _ => F'; rename News _ _ _ _ => N'
    refine LCg.CompEnd.intro F' N' _ (fun p hp => .tail _ (.tail _ hp)) off0 True.intro (kct_el ?e rfl rfl)
    have e1 : ((i : Int) + 1).toNat = i + 1 := by omega
    simp only [pieceOf, Int.toNat_natCast, e1]
  case fin =>
  clear F' N' rgX
  show ∀ ys, _
  intro pv hpv hpl
  replace hpv : StrsAre pv ((rangeKs 0 so.length).map fun k => (⟨(pieceOf w1 ot k.toNat).toArray⟩ : Str)) := strs_of (by rw [List.map_map]; exact hpv)
  clear hpl
  k_steps
  refine Hold.of ?_
  k_extra "tc:brk"
  rename IsRange _ _ _ _ _ _ _ _ => rgX
  rename Fr _ _ _ _ => F'; rename News _ _ _ _ => N'
  refine LCg.CompSrc.range (n := so.length) rfl F' N' rgX (small_one (by omega) (by omega) (by omega) (by omega)) ((rangeSize_nat _ _).trans (by omega)) (by rw [PySem.sizeLine_eq]; omega) ?_
  intro g5
  refine kct_range (fun k => ⟨(partOf gr w1 ot k).toArray⟩) ?turn ?fin
  case turn =>
    clear F' N' rgX
    intro k tt I oI C oC D m₂ zs h tk E' k1 k2 hC hx F' N' off0 ne hmk
    clear ne
    obtain ⟨i, rfl⟩ : ∃ i : Nat, k = i := ⟨k.toNat, by omega⟩
    k_steps
    refine Hold.of ?_
    rename Fr _ _ _ _ => F'; rename News _ _ _ _ => N'
    refine IfExp_ ?_
    k_steps
    · refine Hold.of ?_
      rename Fr _ _ _ _ => F'; rename News _ _ _ _ => N'
      rename _ = true => hin
      refine item_strsA ⟨_, (N' _ (.tail _ (.tail _ (.tail _ (.head _))))).1, rfl, _, rfl⟩ hpv (by omega) (by rw [List.length_map, rangeKs_length]; omega) (by omega) ?_
      intro t'
      rw [piece_get (by omega)]
      k_steps
      refine Hold.of ?_
      dsimp only
      refine upper_strL (Nat.le_trans (piece_le _ _ _) (by omega)) (fun c hc => hwA c (piece_mem hc)) ?_
      intro k'
      have hm : (i : Int) ∈ gr := by simpa using hin
      exact LCg.CompEnd.intro F' N' _ (fun p hp => hp) off0 True.intro (kct_el (by rw [partOf, if_pos hm, Int.toNat_natCast]) rfl rfl)
    · refine Hold.of ?_
      rename Fr _ _ _ _ => F'; rename News _ _ _ _ => N'
      rename _ = false => hin
      refine item_strsA ⟨_, (N' _ (.tail _ (.tail _ (.tail _ (.head _))))).1, rfl, _, rfl⟩ hpv (by omega) (by rw [List.length_map, rangeKs_length]; omega) (by omega) ?_
      intro t'
      rw [piece_get (by omega)]
      have hm : ¬ (i : Int) ∈ gr := fun hm => by simp at hin; exact hin _ hm rfl
      exact LCg.CompEnd.intro F' N' _ (fun p hp => hp) off0 True.intro (kct_el (by rw [partOf, if_neg hm, Int.toNat_natCast]) rfl rfl)
  case fin =>
  clear F' N' rgX
  show ∀ ys, _
  intro bv hbv hbl
  k_steps
  refine Hold.of ?_
  k_extra "tc:brk"
  rename Fr _ _ _ _ => F'; rename News _ _ _ _ => N'
  refine KT.join_B 12 (l := rangeKs 0 so.length) (g := fun k => (⟨(partOf gr w1 ot k).toArray⟩ : Str)) ⟨_, (N' _ (.head _)).1, rfl, _, rfl⟩ hbv (fun a _ => by rw [len_mk]; exact Nat.le_trans (part_le _ _ _ _) hw1) (by omega) (by decide) ?_
  intro tb kb
  rw [body_join]
  obtain ⟨bd, hbd⟩ : ∃ bd, bd = bodyOf so.length gr w1 ot := ⟨_, rfl⟩
  rw [← hbd]
  have hbdl : bd.length ≤ 36 := by
    have := body_le so.length gr w1 ot 12 hw1
    rw [← hbd] at this
    omega
  have hbdA : ∀ c ∈ bd, c < 128 := by rw [hbd]; exact body_chars hwA
  have hBB := hB0 gr bd (by rw [hgr, hah0, hbe0]) hbd
  clear hbv hbl
  k_steps
  refine Hold.of ?_
  k_extra "tc:brk"
  rename Fr _ _ _ _ => F'; rename News _ _ _ _ => N'
  obtain ⟨hB1, hB2, hB3⟩ := hBB
  refine con_use (strip_con w p0 p1 bd am _ _ (by omega) (by omega) (by omega) hB1 hB2 hB3 (by omega)) B F' X N' T rfl rfl rfl rfl ?h5 ?h6 True.intro ?_
  case h5 => dsimp only [Around.deeper, Around.in1, aroundOf]; omega
  case h6 => dsimp only [Around.deeper, Around.in1, aroundOf]; omega
  clear F' N'
  rintro v' h' tk' F' N' - ⟨t4, rfl⟩
  rw [strip_eq ham.1, ← hah0, ← hbe0]
  clear hB1 hB2 hB3 hB0
  k_steps
  refine Hold.of ?_
  k_extra "tc:brk"
  rename IsRange _ _ _ _ _ _ _ _ => rgX
  rename Fr _ _ _ _ => F'; rename News _ _ _ _ => N'
  refine LCg.CompSrc.range (n := so.length + 1) rfl F' N' rgX (small_one (by omega) (by omega) (by omega) (by omega)) ((rangeSize_nat _ _).trans (by omega)) (by rw [PySem.sizeLine_eq]; omega) ?_
  intro g6
  refine kcf_range (fun k => (ot.take k.toNat).sum - (so.take k.toNat).sum) ?turn ?fin
  case turn =>
    clear F' N' rgX
    intro k tt I oI C oC D m₂ zs h tk E' k1 k2 hC hx F' N' off0 ne hmk
    clear ne
    obtain ⟨i, rfl⟩ : ∃ i : Nat, k = i := ⟨k.toNat, by omega⟩
    k_steps
  case fin =>
  clear F' N' rgX
  show ∀ ys, _
  intro qv hqv
  replace hqv : IntsAre qv (postsOf so ot) := hqv
  obtain ⟨ps, hps⟩ : ∃ ps, ps = postsOf so ot := ⟨_, rfl⟩
  rw [← hps] at hqv
  have hpsl : ps.length = so.length + 1 := by rw [hps, postsOf, List.length_map, rangeKs_length]
  k_steps
  refine Hold.of ?_
  k_extra "tc:brk"
  rename Fr _ _ _ _ => F'; rename News _ _ _ _ => N'
  obtain ⟨en, hen⟩ : ∃ en, en = endOf so ot be := ⟨_, rfl⟩
  refine store_as (y := en) ?es ?_
  case es => rw [hen, endOf, ← hps]; simp only [Int.toNat_natCast]
  k_steps
  refine Hold.of ?_
  k_extra "tc:brk"
  rename Fr _ _ _ _ => F'; rename News _ _ _ _ => N'
  have N2 : News g L' _ ([_, _, _, _, _, _, _, _, _, _, _, _, _, _, _] ++ tabs p1' p2' exs) := N'
  refine con_useT' (wayl_con w _ qv ps (-ah) en _ _ _ hqv so.length (by omega) hpsl ?hb) B F' X N2 T C1 C2 hT ?hown rfl rfl rfl rfl ?h5 ?h6 (fun g' _ hg => hid_list N2 hT (fun q hq => List.mem_append_right _ hq) (.head _) hg) ?_
  case hb => exact fun i hi => getD_in (P := fun x => -12 ≤ x ∧ x ≤ 12) (by rw [hps]; exact hpb) (by omega)
  case hown => exact own_off N2 ⟨nf_seq rfl, nf_seq rfl, nf_seq rfl, nf_seq rfl, nf_cell (by assumption), nf_cell (by assumption), nf_cell (by assumption), nf_cell (by assumption), nf_cell (by assumption), nf_cell (by assumption), nf_cell (by assumption), nf_cell (by assumption), nf_cell (by assumption), nf_cell (by assumption), nf_cell (by assumption), trivial⟩
  case h5 => dsimp only [Around.deeper, Around.in1, aroundOf]; omega
  case h6 => dsimp only [Around.deeper, Around.in1, aroundOf]; omega
  clear F' N' N2
  rintro v' h' tk' p1q p2q exq hTq hxq F' N' ⟨t5, rfl⟩
  simp only [List.cons_append, List.nil_append, tabs] at N'
  k_steps
  · rename _ = true => hbad
    exfalso
    revert hbad
    simp [padded]
  refine Hold.of ?_
  k_extra "tc:brk"
  rename Fr _ _ _ _ => F'; rename News _ _ _ _ => N'
  rename IntsAre _ (List.reverse _) => hrv
  have N2 : News g L' _ ([_, _, _, _, _, _, _, _, _, _, _, _, _, _, _, _] ++ tabs p1q p2q exq) := N'
  refine con_useT' (wayr_con w _ _ ps.reverse en (-ah) _ _ _ hrv so.length (by omega) (by rw [List.length_reverse]; exact hpsl) ?hb) B F' X N2 T C1 C2 hTq ?hown rfl rfl rfl rfl ?h5 ?h6 (fun g' _ hg => hid_list N2 hTq (fun q hq => List.mem_append_right _ hq) (.head _) hg) ?_
  case hb => exact fun i hi => getD_in (P := fun x => -12 ≤ x ∧ x ≤ 12) (fun x hx => hpb x (by rw [← hps]; exact List.mem_reverse.mp hx)) (by rw [List.length_reverse]; omega)
  case hown => exact own_off N2 ⟨nf_seq rfl, nf_seq rfl, nf_seq rfl, nf_seq rfl, nf_seq rfl, nf_cell (by assumption), nf_cell (by assumption), nf_cell (by assumption), nf_cell (by assumption), nf_cell (by assumption), nf_cell (by assumption), nf_cell (by assumption), nf_cell (by assumption), nf_cell (by assumption), nf_cell (by assumption), nf_cell (by assumption), trivial⟩
  case h5 => dsimp only [Around.deeper, Around.in1, aroundOf]; omega
  case h6 => dsimp only [Around.deeper, Around.in1, aroundOf]; omega
  clear F' N' N2 hrv
  rintro v' h' tk' p1r p2r exr hTr hxr F' N' ⟨t6, rfl⟩
  simp only [List.cons_append, List.nil_append, tabs] at N'
  have hxd := hTr.off_of N' (fun q hq => (.tail _ (.tail _ (.tail _ (.tail _ (.tail _ (.tail _ (.tail _ (.tail _ (.tail _ (.tail _ (.tail _ (.tail _ (.tail _ (.tail _ (.tail _ (.tail _ (.tail _ (.tail _ hq))))))))))))))))))) (.tail _ (.tail _ (.tail _ (.tail _ (.tail _ (.tail _ (.head _))))))) (fun vs e => by rw [d2] at e; cases e)
  have hxp := hTr.off_of N' (fun q hq => (.tail _ (.tail _ (.tail _ (.tail _ (.tail _ (.tail _ (.tail _ (.tail _ (.tail _ (.tail _ (.tail _ (.tail _ (.tail _ (.tail _ (.tail _ (.tail _ (.tail _ (.tail _ hq))))))))))))))))))) (.tail _ (.tail _ (.tail _ (.tail _ (.tail _ (.head _)))))) (fun vs e => by rw [d1] at e; cases e)
  have hw3 : wayOf ps.reverse en (-(ah : Int)) = wayOf ps (-(ah : Int)) en := by rw [hps, hen, hah0, hbe0]; exact hway
  rw [hw3]
  obtain ⟨wy, hwy⟩ : ∃ wy, wy = wayOf ps (-(ah : Int)) en := ⟨_, rfl⟩
  rw [← hwy] at F' ⊢
  k_steps
  · rename wy ≠ wy => hbad
    exact absurd rfl hbad
  refine Hold.of ?_
  k_extra "tc:brk"
  rename IsRange _ _ _ _ _ _ _ _ => rgX
  rename Fr _ _ _ _ => F'; rename News _ _ _ _ => N'
  refine LCg.CompSrc.range (n := so.length) rfl F' N' rgX (small_one (by omega) (by omega) (by omega) (by omega)) ((rangeSize_nat _ _).trans (by omega)) (by rw [PySem.sizeLine_eq]; omega) ?_
  intro g7
  refine kcf_range (absOf so ot) ?turn ?fin
  case turn =>
    clear F' N' rgX
    intro k tt I oI C oC D m₂ zs h tk E' k1 k2 hC hx F' N' off0 ne hmk
    clear ne
    k_steps
  case fin =>
  clear F' N' rgX
  show ∀ ys, _
  intro av hav
  k_steps
  refine Hold.of ?_
  k_extra "tc:brk"
  rename Fr _ _ _ _ => F'; rename News _ _ _ _ => N'
  obtain ⟨du1, hd1⟩ : ∃ du1, du1 = due1Of so ot ah be := ⟨_, rfl⟩
  refine store_as (y := du1) ?es ?_
  case es => rw [hd1, due1Of, hwy, hps, hen]
  clear hav
  k_steps
  refine Hold.of ?_
  k_extra "tc:brk"
  rename Fr _ _ _ _ => F'; rename News _ _ _ _ => N'
  refine LCg.CompSrc.ledger rfl F' N' (.tail _ (.tail _ (.tail _ (.tail _ (.tail _ (.head _)))))) (by rw [List.size_toArray, PySem.sizeLine_eq]; omega) ?_
  intro g8
  refine kcf_list (minOf so ot) hgv ?turn ?fin
  case turn =>
    clear F' N'
    intro k tt I oI C oC D m₂ zs h tk E' hkm hC hx F' N' off0 ne hmk
    clear ne
    obtain ⟨k1, k2⟩ := great_in (by rw [← hgr]; exact hkm)
    k_steps
  case fin =>
  clear F' N'
  show ∀ ys, _
  intro mv hmv
  k_steps
  refine Hold.of ?_
  k_extra "tc:brk"
  rename Fr _ _ _ _ => F'; rename News _ _ _ _ => N'
  obtain ⟨du2, hd2⟩ : ∃ du2, du2 = due2Of so ot ah be gr := ⟨_, rfl⟩
  refine store_as (y := du2) ?es ?_
  case es => rw [hd2, due2Of, hd1]
  clear hmv
  k_steps
  refine Hold.of ?_
  k_extra "tc:brk"
  rename Fr _ _ _ _ => F'; rename News _ _ _ _ => N'
  refine cut_pair (paOf so.length (oneOf w0 so) (padded ah be bd)) (pbOf so.length (oneOf w0 so) (padded ah be bd)) F' N' ?walk ?_
  case walk =>
    refine IfExp_ ?_
    k_steps
    · rename Int.fmod _ _ = 1 => hodd
      rename Fr _ _ _ _ => F'; rename News _ _ _ _ => N'
      have ho : so.length % 2 = 1 := by rw [Int.fmod_eq_emod_of_nonneg _ (by omega)] at hodd; omega
      rw [show paOf so.length (oneOf w0 so) (padded ah be bd) = w0.take so.sum.toNat from by rw [paOf, if_pos ho, oneOf], show pbOf so.length (oneOf w0 so) (padded ah be bd) = padded ah be bd from by rw [pbOf, if_pos ho]]
      exact ⟨_, _, _, _, _, rfl, rfl, F', N', by simp only [AllLt, and_true]; assumption⟩
    · rename Int.fmod _ _ ≠ 1 => hodd
      rename Fr _ _ _ _ => F'; rename News _ _ _ _ => N'
      have ho : ¬ so.length % 2 = 1 := by rw [Int.fmod_eq_emod_of_nonneg _ (by omega)] at hodd; omega
      rw [show pbOf so.length (oneOf w0 so) (padded ah be bd) = w0.take so.sum.toNat from by rw [pbOf, if_neg ho, oneOf], show paOf so.length (oneOf w0 so) (padded ah be bd) = padded ah be bd from by rw [paOf, if_neg ho]]
      exact ⟨_, _, _, _, _, rfl, rfl, F', N', by simp only [AllLt, and_true]; assumption⟩
  clear F' N'
  intro DP tp tq h9 tk9 F' N' l9
  simp only [AllLt] at l9
  have hgo := one_good (so := so) hw0 hw0A
  have hgl := line_good hal hbl2 hbdl hbdA
  have hpaG := pa_all (P := GoodW) (n := so.length) hgo hgl
  have hdu : 0 ≤ du2 ∧ du2 ≤ 500 := by rw [hd2, hah0, hbe0]; exact hdb gr (by rw [hgr, hah0, hbe0])
  obtain ⟨pa, hpa⟩ : ∃ pa, pa = paOf so.length (oneOf w0 so) (padded ah be bd) := ⟨_, rfl⟩
  obtain ⟨pb, hpb2⟩ : ∃ pb, pb = pbOf so.length (oneOf w0 so) (padded ah be bd) := ⟨_, rfl⟩
  rw [← hpa, ← hpb2] at N' hpaG
  k_steps
  refine Hold.of ?_
  k_extra "tc:brk"
  rename Fr _ _ _ _ => F'; rename News _ _ _ _ => N'
  refine LCg.CompSrc.base rfl F' N' hBO (by rw [List.size_toArray, PySem.sizeLine_eq, hB.length]; omega) ?_
  intro g10
  refine kcf_list (fun m => du2 + m) hB ?turn ?fin
  case turn =>
    clear F' N'
    intro k tt I oI C oC D m₂ zs h tk E' hkm hC hx F' N' off0 ne hmk
    clear ne
    k_steps
  case fin =>
  clear F' N'
  show ∀ ys, _
  intro uv huv
  k_steps
  refine Hold.of ?_
  k_extra "tc:brk"
  rename Fr _ _ _ _ => F'; rename News _ _ _ _ => N'
  rename IntsAre _ (List.map _ _ ++ _) => hbd9
  refine LCg.CompSrc.ledger rfl F' N' (.head _) (by rw [List.size_toArray, PySem.sizeLine_eq, hbd9.length, List.length_append, List.length_map, List.length_singleton]; omega) ?_
  intro g11
  refine kcf_list (fun c => lev pa pb c) hbd9 ?turn ?fin
  case turn =>
    clear F' N'
    intro k tt I oI C oC D m₂ zs h tk E' hkm hC hx F' N' off0 ne hmk
    clear ne
    k_steps
    refine Hold.of ?_
    rename Fr _ _ _ _ => F'; rename News _ _ _ _ => N'
    refine con_use (lev_con w pa pb k _ _ _ ?la ?lb ?lc ?ld ?le) B F' X N' T rfl rfl rfl rfl ?h5 ?h6 True.intro ?_
    case h5 => dsimp only [Around.deeper, Around.in1, aroundOf]; omega
    case h6 => dsimp only [Around.deeper, Around.in1, aroundOf]; omega
    case la => exact hpaG.1.1
    case lb => exact hpaG.2.1
    case lc => exact hpaG.1.2
    case ld => exact hpaG.2.2
    case le =>
      rcases List.mem_append.mp hkm with hk | hk
      · obtain ⟨m, hm, rfl⟩ := List.mem_map.mp hk
        have := hbob m hm
        omega
      · rw [List.mem_singleton.mp hk]; omega
    clear F' N'
    rintro v' h' tk' F' N' - ⟨t8, rfl⟩
    exact LCg.CompEnd.intro F' N' _ (fun p hp => hp) off0 (.inr ⟨_, .head _, rfl, _, rfl⟩) (kcf_el rfl rfl rfl)
  case fin =>
  clear F' N'
  show ∀ ys, _
  intro fv hfv
  k_steps
  refine Hold.of ?_
  k_extra "tc:brk"
  rename Fr _ _ _ _ => F'; rename News _ _ _ _ => N'
  obtain ⟨ls, hls⟩ : ∃ ls, ls = if grownOf (oneOf w0 so) (padded ah be bd) = true then du2 else 1 := ⟨_, rfl⟩
  refine cut_int ls F' N' ?walk ?_
  case walk =>
    refine IfExp_ ?_
    k_steps
    refine Hold.of ?_
    rename Fr _ _ _ _ => F'; rename News _ _ _ _ => N'
    refine con_use (grown_con w (oneOf w0 so) (padded ah be bd) _ _ hgo.1 hgl.1) B F' X N' T rfl rfl rfl rfl ?h5 ?h6 True.intro ?_
    case h5 => dsimp only [Around.deeper, Around.in1, aroundOf]; omega
    case h6 => dsimp only [Around.deeper, Around.in1, aroundOf]; omega
    clear F' N'
    rintro v' h' tk' F' N' - rfl
    k_steps
    · rename _ = true => hg9
      rename Fr _ _ _ _ => F'; rename News _ _ _ _ => N'
      exact ⟨_, _, _, congrArg (fun z => Value.int z _) (by rw [hls, if_pos hg9]), rfl, F', N'⟩
    · rename _ = false => hg9
      rename Fr _ _ _ _ => F'; rename News _ _ _ _ => N'
      exact ⟨_, _, _, congrArg (fun z => Value.int z _) (by rw [hls, if_neg (by rw [hg9]; decide)]), rfl, F', N'⟩
  clear F' N'
  intro t9 h12 tk12 F' N'
  have hl9 := hlev gr bd (by rw [hgr, hah0, hbe0]) hbd
  rw [← hah0, ← hbe0, ← hd2, ← hpa, ← hpb2, ← hls] at hl9
  k_steps
  · refine Hold.of ?_
    k_extra "tc:brk"
    rename Fr _ _ _ _ => F'; rename News _ _ _ _ => N'
    have hfl : fv.length = bo.length + 1 := by rw [hfv.length, List.length_map, List.length_append, List.length_map, List.length_singleton]
    refine LCg.CompSrc.ledger rfl F' N' (.tail _ (.tail _ (.tail _ (.tail _ (.head _))))) (by rw [List.size_toArray, PySem.sizeLine_eq]; omega) ?_
    intro g13
    refine rest_inv (fun i ys => ys = List.replicate i (.bool false)) (.inr ⟨_, (.tail _ (.tail _ (.tail _ (.tail _ (.head _))))), rfl, _, rfl⟩) ?turn ?fin _ 0 [] rfl rfl
    case turn =>
      clear F' N'
      intro i ys v I oI C oC D m₂ h tk E' hi hv hC hx F' N' off0 ne hJ
      clear ne
      obtain ⟨k, tt, rfl, hk⟩ := IntsAre.at hfv i v (by simpa using hv)
      k_steps
      rename Fr _ _ _ _ => F'; rename News _ _ _ _ => N'
      exact CT.intro F' N' (fun p hp => hp) (by rw [hJ, List.replicate_succ'])
    case fin =>
    clear F' N'
    intro ys hJ
    rw [List.size_toArray, hfl] at hJ
    obtain hb1 | hb1 : bo.length = 1 ∨ bo.length = 2 := by omega
    · rw [hb1] at hJ
      replace hJ : ys = [.bool false, .bool false] := hJ
      subst hJ
      k_steps
      rename Fr _ _ _ _ => F'; rename News _ _ _ _ => N'
      refine not_in_falses ⟨_, (N' _ (.head _)).1, rfl, _, rfl⟩ (by simp) ?_
      exact hret _ _ _ p1r p2r exr F'.keep hTr (fun q hq => ⟨(N' q (.tail _ (.tail _ (.tail _ (.tail _ (.tail _ (.tail _ (.tail _ (.tail _ (.tail _ (.tail _ (.tail _ (.tail _ (.tail _ (.tail _ (.tail _ (.tail _ (.tail _ (.tail _ (.tail _ (.tail _ (.tail _ (.tail _ (.tail _ (.tail _ (.tail _ (.tail _ (.tail _ (.tail _ hq))))))))))))))))))))))))))))).1, (N' q (.tail _ (.tail _ (.tail _ (.tail _ (.tail _ (.tail _ (.tail _ (.tail _ (.tail _ (.tail _ (.tail _ (.tail _ (.tail _ (.tail _ (.tail _ (.tail _ (.tail _ (.tail _ (.tail _ (.tail _ (.tail _ (.tail _ (.tail _ (.tail _ (.tail _ (.tail _ (.tail _ (.tail _ hq))))))))))))))))))))))))))))).2.2⟩) (fun q hq => hxr q (hxq q hq)) rfl
    · rw [hb1] at hJ
      replace hJ : ys = [.bool false, .bool false, .bool false] := hJ
      subst hJ
      k_steps
      rename Fr _ _ _ _ => F'; rename News _ _ _ _ => N'
      refine not_in_falses ⟨_, (N' _ (.head _)).1, rfl, _, rfl⟩ (by simp) ?_
      exact hret _ _ _ p1r p2r exr F'.keep hTr (fun q hq => ⟨(N' q (.tail _ (.tail _ (.tail _ (.tail _ (.tail _ (.tail _ (.tail _ (.tail _ (.tail _ (.tail _ (.tail _ (.tail _ (.tail _ (.tail _ (.tail _ (.tail _ (.tail _ (.tail _ (.tail _ (.tail _ (.tail _ (.tail _ (.tail _ (.tail _ (.tail _ (.tail _ (.tail _ (.tail _ hq))))))))))))))))))))))))))))).1, (N' q (.tail _ (.tail _ (.tail _ (.tail _ (.tail _ (.tail _ (.tail _ (.tail _ (.tail _ (.tail _ (.tail _ (.tail _ (.tail _ (.tail _ (.tail _ (.tail _ (.tail _ (.tail _ (.tail _ (.tail _ (.tail _ (.tail _ (.tail _ (.tail _ (.tail _ (.tail _ (.tail _ (.tail _ hq))))))))))))))))))))))))))))).2.2⟩) (fun q hq => hxr q (hxq q hq)) rfl
  · rename ¬ _ = _ => hbad
    refine absurd ?_ hbad
    rw [Int.toNat_natCast]
    exact hl9

theorem con_useG {p pp : Program} {w : World} {K : Frag} {f : Addr} {lv : Nat} {vs : List Value} {pre : Heap → Prop} {out : List Int} (C : ConG p w K f lv vs pre out)
    {A A₀ : Around} {base h₀ : Heap} {outer : List Env} {env : Env} {L : Addr} {m : Str → Option Value} {news : List (Addr × Obj)} {loose : List Str} {mean : ExcName → Option Value} {mg mb : Str → Option Value} {s : Shared} {Q E : Value → Shared → Prop}
    (B : Below A₀ base outer h₀) (F : Fr h₀ L s.heap m) (X : K.In h₀) (N : News h₀ L s.heap news) (T : Top pp loose mean mg mb h₀)
    (hh : A.handled = none) (hA : A.frames = some (env :: outer)) (hf : env.frame = some L) (hke : env.scope.kind = .function) (hd : A.depth + lv < recursionLimit) (hu : A.units + 10 * lv < cLine) (hpre : pre s.heap)
    (ret : ∀ D ys c h' t' x, Fr h₀ L h' m → News h₀ L h' ((D, listOf (List.toArray ys) c) :: news) → (∀ q ∈ news, NEs q.1 D) → s.heap.StaysIn h' → IntsAre ys out → x.bare = true → Q (.ref D) { s with heap := h', toks := t', gens := s.gens.push x }) :
    wpAny (model p w) A (call (.ref f) vs) Q E s := by
  obtain ⟨hd0, dp, fr, gd, un⟩ := A
  obtain rfl : hd0 = none := hh
  obtain rfl : fr = some (env :: outer) := hA
  have B₁ := pushX B F hf hke
  refine C pp loose mean mg mb dp un gd base (env :: outer) s Q E ⟨rfl, B₁.stays, B₁.frames⟩ (X.keeps F.keep) (T.keeps F.keep) hd hu hpre (fun D ys c h' t' x hs hn hD hi hb => ?_)
  have hlt : ∀ {b : Addr} {o : Obj}, s.heap.get? b = some o → b ≠ D := fun e q => by rw [q, hn] at e; cases e
  refine ret D ys c h' t' x ?_ ?_ ?_ hs hi hb
  · obtain ⟨oL, a1, a2, hL, a3⟩ := F.ns
    exact ⟨⟨oL, a1, a2, hs _ _ hL, a3⟩, fun b o e => hs _ _ (F.keep b o e), F.above⟩
  · intro q hq
    rcases List.mem_cons.mp hq with rfl | hq
    · refine ⟨hD, ?_, ?_⟩
      · obtain ⟨oL, a1, a2, hL, a3⟩ := F.ns
        exact (hlt hL).symm
      · cases k : h₀.get? D with
        | none => rfl
        | some o => rw [F.keep _ _ k] at hn; cases hn
    · exact ⟨hs _ _ (N q hq).1, (N q hq).2⟩
  · exact fun q hq => ⟨hlt (N q hq).1⟩
theorem news_one {h₀ h : Heap} {L : Addr} {news news' : List (Addr × Obj)} {a : Addr × Obj} (N : News h₀ L h news) (ha : a ∈ news) (N' : News h₀ L h news') : News h₀ L h (a :: news') := fun q hq => by
  rcases List.mem_cons.mp hq with rfl | hq
  · exact N _ ha
  · exact N' _ hq
section
variable {M : Model} {A : Around} {E : Value → Shared → Prop} {s : Shared}
noncomputable def CutL (s : Shared) (h₀ : Heap) (L : Addr) (R : Str → Option Value) (news : List (Addr × Obj)) (ns : List Int) (v : Value) (s' : Shared) : Prop :=
  ∃ D us h tk, v = .ref D ∧ s' = { s with heap := h, toks := tk } ∧ Fr h₀ L h R ∧ News h₀ L h ((D, listOf (List.toArray us) 0) :: news) ∧ IntsAre us ns ∧ AllLt D news
/-- a step that tells a new list of numbers, whichever way it goes -/
theorem cut_list {m : Sem Value} {Q : Value → Shared → Prop} {h₀ : Heap} {L : Addr} {R : Str → Option Value} {news : List (Addr × Obj)} (ns : List Int) (_F : Fr h₀ L s.heap R) (_N : News h₀ L s.heap news)
    (walk : wpAny M A m (CutL s h₀ L R news ns) E s)
    (next : ∀ D us h tk, Fr h₀ L h R → News h₀ L h ((D, listOf (List.toArray us) 0) :: news) → IntsAre us ns → AllLt D news → Q (.ref D) { s with heap := h, toks := tk }) : wpAny M A m Q E s :=
  wpAny_mono walk (fun v s' ⟨D, us, h, tk, e, e', F, N, i, l⟩ => by subst e; subst e'; exact next D us h tk F N i l) fun _ _ e => e
end
theorem fm3 (x : Int) : ∃ n : Nat, Int.fmod x 3 = (n : Int) ∧ n ≤ 2 := by
  rw [Int.fmod_eq_emod_of_nonneg _ (by omega)]
  exact ⟨(x % 3).toNat, by omega, by omega⟩
theorem fm3' (x : Int) : ∃ n : Nat, Int.fmod x 3 + 2 = (n : Int) ∧ 2 ≤ n ∧ n ≤ 4 := by
  obtain ⟨n, e, h⟩ := fm3 x
  exact ⟨n + 2, by rw [e]; rfl, by omega, by omega⟩
theorem fm2 (x : Int) : ∃ n : Nat, Int.fmod x 2 = (n : Int) ∧ n ≤ 1 := by
  rw [Int.fmod_eq_emod_of_nonneg _ (by omega)]
  exact ⟨(x % 2).toNat, by omega, by omega⟩
noncomputable def tail1 (n : Nat) : List Int := if n % 2 = 0 then [127, 3] else []
theorem told1_con {prg : Program} (w : World) (l : Addr) (vs : List Value) (a b c n : Nat) (ha : 2 ≤ a ∧ a ≤ 4) (hb : 2 ≤ b ∧ b ≤ 4) (hc : 2 ≤ c ∧ c ≤ 4) (hi : IntsAre vs ([(a : Int), (b : Int), (c : Int)] ++ tail1 n)) :
    ConG prg w (hd.heap_1 w.params) 67 4 [.ref l] (fun h => h.IsList l vs.toArray) [(a : Int), (b : Int), (c : Int)] := by
  refine told_con w l vs _ (fun m => if m = 2 then (a : Int) else if m = 1 then (b : Int) else (c : Int)) 3 true hi ?_ (fun _ => by omega) (fun h => by cases h)
  have na : ∀ x : Nat, 2 ≤ x ∧ x ≤ 4 → ¬ (x : Int) = 127 ∧ ¬ (x : Int) = 0 := fun x h => by omega
  show okAt _ _ _ ((a : Int) :: (b : Int) :: (c : Int) :: tail1 n) _
  refine (if_neg (na a ha).1).mpr ((if_neg (na a ha).2).mpr ⟨2, rfl, rfl, ?_⟩)
  refine (if_neg (na b hb).1).mpr ((if_neg (na b hb).2).mpr ⟨1, rfl, rfl, ?_⟩)
  refine (if_neg (na c hc).1).mpr ((if_neg (na c hc).2).mpr ⟨0, rfl, rfl, ?_⟩)
  unfold tail1
  split
  · exact (if_pos rfl).mpr rfl
  · rfl
theorem told2_con {prg : Program} (w : World) (l : Addr) (vs : List Value) (d e : Nat) (hd' : 2 ≤ d ∧ d ≤ 4) (he : 2 ≤ e ∧ e ≤ 4) (hi : IntsAre vs [(d : Int), (e : Int), 0, 9]) :
    ConG prg w (hd.heap_1 w.params) 67 4 [.ref l] (fun h => h.IsList l vs.toArray) [(d : Int), (e : Int), (e : Int), (e : Int), (e : Int)] := by
  refine told_con w l vs _ (fun m => if m = 5 then (d : Int) else (e : Int)) 6 false hi ?_ (fun h => by cases h) (fun _ => rfl)
  have na : ∀ x : Nat, 2 ≤ x ∧ x ≤ 4 → ¬ (x : Int) = 127 ∧ ¬ (x : Int) = 0 := fun x h => by omega
  refine (if_neg (na d hd').1).mpr ((if_neg (na d hd').2).mpr ⟨5, rfl, rfl, ?_⟩)
  refine (if_neg (na e he).1).mpr ((if_neg (na e he).2).mpr ⟨4, rfl, rfl, ?_⟩)
  refine (if_neg (by decide)).mpr ((if_pos rfl).mpr ⟨rfl, by omega, _, rfl, fun j hj => if_neg (by omega)⟩)
theorem dep_ok {env : Env} {lv : Nat} (h : lv ≤ 8) : (callerA.deeper env).depth + lv < recursionLimit := by
  have : callerA.depth + 1 + 8 < recursionLimit := by decide
  show callerA.depth + 1 + lv < recursionLimit
  omega
theorem unit_ok {env : Env} {lv : Nat} (h : lv ≤ 8) : (callerA.deeper env).units + 10 * lv < cLine := by
  have : callerA.units + 3 + 80 < cLine := by decide
  show callerA.units + 3 + 10 * lv < cLine
  omega
theorem datAll_ints {news : List (Addr × Obj)} : ∀ {vs : List Value} {ns : List Int}, IntsAre vs ns → DatAll news vs (ns.map Dat.int)
  | _, _, .nil => .nil
  | _, _, .cons _ _ r => .cons (.int _ _) (datAll_ints r)
theorem oks_ints (ns : List Int) (n : Nat) : (ns.map Dat.int).all (kqdOk n) = true := by
  rw [List.all_eq_true]
  intro d hd
  obtain ⟨i, _, rfl⟩ := List.mem_map.mp hd
  cases n <;> rfl
section
variable {prog : Program} {w : World} {A : Around} {E : Value → Shared → Prop} {s : Shared} {Q : Value → Shared → Prop} {h₀ : Heap} {L : Addr} {news : List (Addr × Obj)}
/-- two lists of two lists of numbers, alike -/
theorem ne_two {a b x1 x2 y1 y2 : Addr} {ns ms : List Int} {v1 v2 u1 u2 : List Value} {k1 k2 j1 j2 ka kb : Nat} (N : News h₀ L s.heap news)
    (ma : (a, listOf #[.ref x1, .ref x2] ka) ∈ news) (mb : (b, listOf #[.ref y1, .ref y2] kb) ∈ news)
    (m1 : (x1, listOf v1.toArray k1) ∈ news) (m2 : (x2, listOf v2.toArray k2) ∈ news) (l1 : (y1, listOf u1.toArray j1) ∈ news) (l2 : (y2, listOf u2.toArray j2) ∈ news)
    (i1 : IntsAre v1 ns) (i2 : IntsAre v2 ms) (o1 : IntsAre u1 ns) (o2 : IntsAre u2 ms) (hu : A.units + 64 < cLine) (h : Q (.bool false) s) : wpAny (model prog w) A (compareOp .NotEq (.ref a) (.ref b)) Q E s := by
  have D1 : DatAll news [.ref x1, .ref x2] [.list (ns.map Dat.int), .list (ms.map Dat.int)] := .cons (.list m1 (datAll_ints i1)) (.cons (.list m2 (datAll_ints i2)) .nil)
  have D2 : DatAll news [.ref y1, .ref y2] [.list (ns.map Dat.int), .list (ms.map Dat.int)] := .cons (.list l1 (datAll_ints o1)) (.cons (.list l2 (datAll_ints o2)) .nil)
  have ok : ∀ d ∈ [Dat.list (ns.map Dat.int), Dat.list (ms.map Dat.int)], kqdOk 8 d = true := by
    intro d hd
    simp only [List.mem_cons, List.not_mem_nil, or_false] at hd
    rcases hd with rfl | rfl <;> exact oks_ints _ 7
  refine kqd_ne N ma rfl rfl D1 (fun _ h => h) mb rfl rfl D2 (fun _ h => h) ok ok hu ?_
  simp only [eq_self, decide_true, Bool.not_true]
  exact h
end
theorem unit64 {env : Env} : (callerA.deeper env).units + 64 < cLine := by
  show callerA.units + 3 + 64 < cLine
  decide
/-- a mark: the walk has stopped here -/
structure Seen (n : Nat) : Prop where
noncomputable def wordOf (a b c : Nat) : List Nat := List.replicate a 97 ++ List.replicate b 98 ++ List.replicate c 99
section
variable {prog : Program} {w : World} {A : Around} {E : Value → Shared → Prop} {s : Shared} {Q : Value → Shared → Prop} {h₀ : Heap} {L : Addr} {news : List (Addr × Obj)} {t u : Tok}
theorem mul_charE {x : Int} {n ch : Nat} {z : Str} (hz : z = ⟨#[ch]⟩) (e : x = (n : Int)) (hn : n ≤ 1000) (h : ∀ t' k, Q (.str ⟨(List.replicate n ch).toArray⟩ t') { s with toks := k }) : wpAny (model prog w) A (binaryOp .Mult (.str z t) (.int x u)) Q E s := by
  subst e
  subst hz
  refine KXi.mul (n := 1) rfl (by decide) (by omega) (by omega) fun t' k _ _ => ?_
  have e : Txt.mul ⟨#[ch]⟩ (n : Int) = ⟨(List.replicate n ch).toArray⟩ := by
    have h1 := mul_one_list ch (n : Int)
    rw [Int.toNat_natCast] at h1
    rw [← h1]
  rw [e]
  exact h t' k
end
theorem datAll_strs {news : List (Addr × Obj)} : ∀ {vs : List Value} {xs : List Str}, StrsAre vs xs → DatAll news vs (xs.map Dat.str)
  | _, _, .nil => .nil
  | _, _, .cons _ _ r => .cons (.str _ _) (datAll_strs r)
section
variable {prog : Program} {w : World} {A : Around} {E : Value → Shared → Prop} {s : Shared} {Q : Value → Shared → Prop} {h₀ : Heap} {L : Addr} {news : List (Addr × Obj)}
theorem ne_words {a b : Addr} {x1 x2 : List Nat} {t1 t2 : Tok} {ys : List Value} {ka kb : Nat} (N : News h₀ L s.heap news)
    (ma : (a, listOf #[.str ⟨x1.toArray⟩ t1, .str ⟨x2.toArray⟩ t2] ka) ∈ news) (mb : (b, listOf ys.toArray kb) ∈ news) (hy : StrsAre ys [⟨x1.toArray⟩, ⟨x2.toArray⟩])
    (h1 : ∀ c ∈ x1, c < 128) (h2 : ∀ c ∈ x2, c < 128) (hu : A.units + 64 < cLine) (h : Q (.bool false) s) : wpAny (model prog w) A (compareOp .NotEq (.ref a) (.ref b)) Q E s := by
  have D1 : DatAll news [.str ⟨x1.toArray⟩ t1, .str ⟨x2.toArray⟩ t2] [.str ⟨x1.toArray⟩, .str ⟨x2.toArray⟩] := .cons (.str _ _) (.cons (.str _ _) .nil)
  have sok : ∀ x : List Nat, (∀ c ∈ x, c < 128) → kqdOk 8 (.str ⟨x.toArray⟩) = true := fun x hx => by
    show (Array.all _ _) = true
    rw [List.all_toArray, List.all_eq_true]
    intro c hc
    exact decide_eq_true (Nat.lt_trans (hx c hc) (by decide))
  have ok : ∀ d ∈ [Dat.str ⟨x1.toArray⟩, Dat.str ⟨x2.toArray⟩], kqdOk 8 d = true := by
    intro d hd
    simp only [List.mem_cons, List.not_mem_nil, or_false] at hd
    rcases hd with rfl | rfl
    · exact sok _ h1
    · exact sok _ h2
  refine kqd_ne N ma rfl rfl D1 (fun _ h => h) mb rfl rfl (datAll_strs hy) (fun _ h => h) ok ok hu ?_
  simp only [List.map_cons, List.map_nil, eq_self, decide_true, Bool.not_true]
  exact h
end
theorem wordOf_lt (a b c : Nat) : ∀ x ∈ wordOf a b c, x < 128 := by
  intro x hx
  simp only [wordOf, List.mem_append, List.mem_replicate] at hx
  omega
theorem wordOf_len (a b c : Nat) : (wordOf a b c).length = a + b + c := by
  simp [wordOf]; omega
structure LwS where
  p1 : Array Value
  p2 : Array Value
  exs : List (Addr × Obj)
  e : Str → Option Value
noncomputable def amOf (n i : Nat) : Int := (((n + 3 - i) % 6 : Nat) : Int) - 1
noncomputable def boOf (n i : Nat) : List Int := [(((1 + i + n) % 2 : Nat) : Int)] ++ (if i = n % 3 then [-1] else [])
/-- what is asked of one front -/
structure FrontOk (w0 w1 : List Nat) (so ot bo : List Int) (p0 p1 : Nat) (g0 g1 am : Int) : Prop where
  hsO : SumsIn ot w1.length
  hsS : SumsIn so w0.length
  hB0 : ∀ gr bd, gr = greatOf so.length (ahOf p0 p1 am) g0 (beOf p0 p1 am) g1 → bd = bodyOf so.length gr w1 ot → 0 < bd.length ∧ bd.getD 0 0 ≠ 32 ∧ bd.getD (bd.length - 1) 0 ≠ 32
  hpb : ∀ x ∈ postsOf so ot, -12 ≤ x ∧ x ≤ 12
  hway : wayOf (postsOf so ot).reverse (endOf so ot (beOf p0 p1 am)) (-(ahOf p0 p1 am : Int)) = wayOf (postsOf so ot) (-(ahOf p0 p1 am : Int)) (endOf so ot (beOf p0 p1 am))
  hdb : ∀ gr, gr = greatOf so.length (ahOf p0 p1 am) g0 (beOf p0 p1 am) g1 → 0 ≤ due2Of so ot (ahOf p0 p1 am) (beOf p0 p1 am) gr ∧ due2Of so ot (ahOf p0 p1 am) (beOf p0 p1 am) gr ≤ 500
  hlev : ∀ gr bd, gr = greatOf so.length (ahOf p0 p1 am) g0 (beOf p0 p1 am) g1 → bd = bodyOf so.length gr w1 ot →
      ((bo.map fun m => due2Of so ot (ahOf p0 p1 am) (beOf p0 p1 am) gr + m) ++ [0]).map (fun c => lev (paOf so.length (oneOf w0 so) (padded (ahOf p0 p1 am) (beOf p0 p1 am) bd)) (pbOf so.length (oneOf w0 so) (padded (ahOf p0 p1 am) (beOf p0 p1 am) bd)) c)
        = (List.replicate bo.length [due2Of so ot (ahOf p0 p1 am) (beOf p0 p1 am) gr]).flatten ++ [if grownOf (oneOf w0 so) (padded (ahOf p0 p1 am) (beOf p0 p1 am) bd) = true then due2Of so ot (ahOf p0 p1 am) (beOf p0 p1 am) gr else 1]
theorem amOf_in {n i : Nat} : -1 ≤ amOf n i ∧ amOf n i ≤ 4 := by
  unfold amOf
  omega
theorem boOf_len {n i : Nat} : 1 ≤ (boOf n i).length ∧ (boOf n i).length ≤ 2 := by
  unfold boOf
  split <;> simp
theorem boOf_in {n i : Nat} : ∀ m ∈ boOf n i, -1 ≤ m ∧ m ≤ 1 := by
  intro m hm
  unfold boOf at hm
  split at hm
  · simp only [List.cons_append, List.nil_append, List.mem_cons, List.not_mem_nil, or_false] at hm
    omega
  · simp only [List.append_nil, List.mem_cons, List.not_mem_nil, or_false] at hm
    omega
theorem Fr_end2s {h₀ h : Heap} {L : Addr} {x1 x2 : Str} {v1 v2 : Value} {tm : List Str} {m : Str → Option Value} (F : Fr h₀ L h m) (h1 : m x1 = some v1) (h2 : m x2 = some v2) :
    Fr h₀ L h (fun y => if y = x1 then some v1 else if y = x2 then some v2 else if tm.contains y = true then m y else m y) := Fr_end2 F h1 h2 fun _ _ _ _ => rfl
theorem amOf_eq {n i : Nat} (h : i < 3) : Int.fmod (4 + (n : Int) - (1 + (i : Int))) 6 - 1 = amOf n i := by
  rw [Int.fmod_eq_emod_of_nonneg _ (by omega)]
  unfold amOf
  omega
theorem boOf_eq {n i : Nat} : Int.fmod (1 + (i : Int) + (n : Int)) 2 = (((1 + i + n) % 2 : Nat) : Int) := by
  rw [Int.fmod_eq_emod_of_nonneg _ (by omega)]
  omega
theorem ints2 {v : List Value} {x y : Int} (h : IntsAre v [x, y]) : ∃ t u, v = [.int x t, .int y u] := by
  cases h with
  | cons _ t r =>
    cases r with
    | cons _ u r =>
      cases r with
      | nil => exact ⟨t, u, rfl⟩
theorem mem_mid {l own ex : List (Addr × Obj)} {p1 p2 : Array Value} {q : Addr × Obj} (h : q ∈ (l ++ own) ++ tabs p1 p2 ex) : q ∈ l ++ tabs p1 p2 (ex ++ own) := by
  rcases List.mem_append.mp h with h | h
  · rcases List.mem_append.mp h with h | h
    · exact List.mem_append_left _ h
    · exact List.mem_append_right _ (.tail _ (.tail _ (List.mem_append_right _ h)))
  · refine List.mem_append_right _ ?_
    rcases List.mem_cons.mp h with h | h
    · exact h ▸ .head _
    · rcases List.mem_cons.mp h with h | h
      · exact h ▸ .tail _ (.head _)
      · exact .tail _ (.tail _ (List.mem_append_left _ h))

/-! the distance again, in natural numbers and by one pass -/
noncomputable def costN (a b : Nat) : Nat := bif Nat.beq a b then 0 else bif Nat.beq (bif Nat.ble 65 a then (bif Nat.ble a 90 then Nat.add a 32 else a) else a) (bif Nat.ble 65 b then (bif Nat.ble b 90 then Nat.add b 32 else b) else b) then 1 else 2
noncomputable def minN (a b : Nat) : Nat := Nat.sub a (Nat.sub a b)
/-- one row: what stands behind the letters left, and the least of it with what stood before -/
noncomputable def rowN (bc : Nat) (a : List Nat) : List Nat → Nat → Nat → List Nat :=
  List.rec (fun _ _ _ => []) (fun ch _ ih row dist res => List.rec [] (fun d rs _ => (fun r => r :: ih rs d r) (minN (Nat.add (minN d res) 2) (Nat.add dist (costN bc ch)))) row) a
theorem rowN_cons (bc ch d dist res : Nat) (a row : List Nat) : rowN bc (ch :: a) (d :: row) dist res = minN (minN d res + 2) (dist + costN bc ch) :: rowN bc a row d (minN (minN d res + 2) (dist + costN bc ch)) := rfl
noncomputable def leastN : List Nat → Nat → Nat
  | [], m => m
  | x :: l, m => leastN l (minN x m)
noncomputable def lastN : List Nat → Nat → Nat
  | [], x => x
  | y :: l, _ => lastN l y
noncomputable def rowsN (a : List Nat) (c : Nat) : List Nat → Nat → List Nat → Nat → Nat
  | [], _, _, res => res
  | bc :: bs, j, row, _ =>
    let l := rowN bc a row j j
    bif Nat.ble (leastN l 9223372036854775807) c then rowsN a c bs (j + 2) l (lastN l j) else c + 1
noncomputable def twosN (a : Nat) : Nat → List Nat
  | 0 => []
  | n + 1 => a :: twosN (a + 2) n
noncomputable def dpN (a b : List Nat) (c : Nat) : Nat := bif Nat.ble ((b.length - a.length) * 2) c then rowsN a c b 0 (twosN 2 a.length) 0 else c + 1
noncomputable def twoN (a b : List Nat) (c : Nat) : Nat :=
  match a, b with
  | [], b => 2 * b.length
  | a, [] => 2 * a.length
  | a, b => bif Nat.ble a.length b.length then dpN a b c else dpN b a c
noncomputable def eqL : List Nat → List Nat → Bool
  | [], [] => true
  | x :: l, y :: m => bif Nat.beq x y then eqL l m else false
  | _, _ => false
noncomputable def levN (a b : List Nat) (c : Nat) : Nat :=
  bif eqL a b then 0 else match strip1 a b with
  | (x, y) => match stripEnd x y with
    | (u, v) => twoN u v c
theorem eqL_iff : ∀ {a b : List Nat}, eqL a b = true ↔ a = b
  | [], [] => by simp [eqL]
  | [], _ :: _ => by simp [eqL]
  | _ :: _, [] => by simp [eqL]
  | x :: l, y :: m => by
    unfold eqL
    cases h : Nat.beq x y with
    | true => simp [Nat.eq_of_beq_eq_true h, eqL_iff]
    | false =>
      have : x ≠ y := Nat.ne_of_beq_eq_false h
      simp [this]
theorem minN_eq (a b : Nat) : minN a b = min a b := by
  show a - (a - b) = min a b
  omega
theorem costN_eq (a b : Nat) : cost a b = (costN a b : Int) := by
  have e : ∀ c, (bif Nat.ble 65 c then (bif Nat.ble c 90 then Nat.add c 32 else c) else c) = lo c := by
    intro c
    unfold lo
    by_cases h1 : 65 ≤ c
    · by_cases h2 : c ≤ 90
      · rw [Nat.ble_eq_true_of_le h1, Nat.ble_eq_true_of_le h2]; simp [h1, h2]
      · rw [Nat.ble_eq_true_of_le h1, show Nat.ble c 90 = false from by cases h : Nat.ble c 90 with | true => exact absurd (Nat.le_of_ble_eq_true h) h2 | false => rfl]; simp [h2]
    · rw [show Nat.ble 65 c = false from by cases h : Nat.ble 65 c with | true => exact absurd (Nat.le_of_ble_eq_true h) h1 | false => rfl]; simp [h1]
  unfold cost costN
  rw [e, e]
  by_cases h : a = b
  · subst h; simp [Nat.beq_refl]
  · rw [if_neg h, show Nat.beq a b = false from by cases h' : Nat.beq a b with | true => exact absurd (Nat.eq_of_beq_eq_true h') h | false => rfl]
    by_cases h2 : lo a = lo b
    · rw [if_pos h2, h2, Nat.beq_refl]; rfl
    · rw [if_neg h2, show Nat.beq (lo a) (lo b) = false from by cases h' : Nat.beq (lo a) (lo b) with | true => exact absurd (Nat.eq_of_beq_eq_true h') h2 | false => rfl]; rfl
abbrev up (l : List Nat) : List Int := l.map Int.ofNat
theorem rowN_len (bc : Nat) : ∀ (a row : List Nat) (d r : Nat), a.length = row.length → (rowN bc a row d r).length = a.length
  | [], _, _, _, _ => rfl
  | _ :: _, [], _, _, h => by simp at h
  | ch :: a, d :: row, dist, res, h => by
    simp only [rowN_cons, List.length_cons]
    rw [rowN_len bc a row _ _ (by simpa using h)]
theorem inner_eq (a : List Nat) (bc : Nat) (s₀ : Lv) : ∀ (suf pre rpre rsuf : List Nat) (dist res mn : Nat), a = pre ++ suf → rpre.length = pre.length → rsuf.length = suf.length →
    lvInner a bc s₀ pre.length = ⟨up (rpre ++ rsuf), (dist : Int), (res : Int), (mn : Int)⟩ →
    ∃ d : Int, lvInner a bc s₀ a.length = ⟨up (rpre ++ rowN bc suf rsuf dist res), d, ((lastN (rowN bc suf rsuf dist res) res : Nat) : Int), ((leastN (rowN bc suf rsuf dist res) mn : Nat) : Int)⟩
  | [], pre, rpre, rsuf, dist, res, mn, ha, h1, h2, h => by
    obtain rfl : rsuf = [] := List.length_eq_zero_iff.mp h2
    rw [List.append_nil] at ha
    subst ha
    exact ⟨_, h⟩
  | ch :: suf, pre, rpre, [], dist, res, mn, ha, h1, h2, h => by simp at h2
  | ch :: suf, pre, rpre, d :: rsuf, dist, res, mn, ha, h1, h2, h => by
    have g1 : (up (rpre ++ d :: rsuf)).getD pre.length 0 = (d : Int) := by
      rw [← h1, List.getD_eq_getElem?_getD]; simp
    have g2 : a.getD pre.length 0 = ch := by
      rw [ha, List.getD_eq_getElem?_getD]; simp
    have key : lvInner a bc s₀ (pre ++ [ch]).length = ⟨up ((rpre ++ [minN (minN d res + 2) (dist + costN bc ch)]) ++ rsuf), (d : Int), ((minN (minN d res + 2) (dist + costN bc ch) : Nat) : Int), ((minN (minN (minN d res + 2) (dist + costN bc ch)) mn : Nat) : Int)⟩ := by
      rw [List.length_append, List.length_singleton, lvInner, h]
      unfold lvStep
      dsimp only
      rw [g1, g2, costN_eq]
      have er : (if (dist : Int) + (costN bc ch : Int) < (if (d : Int) < (res : Int) then (d : Int) else (res : Int)) + 2 then (dist : Int) + (costN bc ch : Int) else (if (d : Int) < (res : Int) then (d : Int) else (res : Int)) + 2)
          = ((minN (minN d res + 2) (dist + costN bc ch) : Nat) : Int) := by
        rw [minN_eq, minN_eq]
        (repeat' split) <;> omega
      rw [er]
      obtain ⟨r, hr⟩ : ∃ r, r = minN (minN d res + 2) (dist + costN bc ch) := ⟨_, rfl⟩
      rw [← hr]
      congr 1
      · rw [← h1]
        simp
      · rw [minN_eq]
        split <;> omega
    obtain ⟨d', e⟩ := inner_eq a bc s₀ suf (pre ++ [ch]) (rpre ++ [minN (minN d res + 2) (dist + costN bc ch)]) rsuf d (minN (minN d res + 2) (dist + costN bc ch)) (minN (minN (minN d res + 2) (dist + costN bc ch)) mn)
      (by rw [ha]; simp) (by simp [h1]) (by simpa using h2) key
    refine ⟨d', ?_⟩
    rw [e, List.append_assoc]
    rfl
theorem outer_eq (a : List Nat) (c : Nat) : ∀ (bs : List Nat) (j : Nat) (row : List Nat) (res : Nat), row.length = a.length → lvOuter a (c : Int) bs j (up row) (res : Int) = ((rowsN a c bs (j * 2) row res : Nat) : Int)
  | [], _, _, _, _ => rfl
  | bc :: bs, j, row, res, h => by
    obtain ⟨d, e⟩ := inner_eq a bc ⟨up row, (j : Int) * 2, (j : Int) * 2, 9223372036854775807⟩ a [] [] row (j * 2) (j * 2) 9223372036854775807 rfl rfl h (by
      show (⟨up row, _, _, _⟩ : Lv) = _
      congr 1 <;> omega)
    rw [lvOuter, rowsN]
    rw [e, List.nil_append]
    obtain ⟨l, hl⟩ : ∃ l, l = rowN bc a row (j * 2) (j * 2) := ⟨_, rfl⟩
    have hll : l.length = a.length := by rw [hl]; exact rowN_len _ _ _ _ _ h.symm
    rw [← hl]
    simp only
    cases hb : Nat.ble (leastN l 9223372036854775807) c with
    | true =>
      have := Nat.le_of_ble_eq_true hb
      rw [if_neg (by omega), outer_eq a c bs (j + 1) l _ hll, Nat.succ_mul]
      rfl
    | false =>
      have : ¬ leastN l 9223372036854775807 ≤ c := fun h' => by rw [Nat.ble_eq_true_of_le h'] at hb; cases hb
      rw [if_pos (by omega)]
      rfl
theorem twosN_eq : ∀ (n a : Nat), twos (a : Int) n = up (twosN a n)
  | 0, _ => rfl
  | n + 1, a => by
    show (a : Int) :: twos ((a : Int) + 2) n = (a : Int) :: up (twosN (a + 2) n)
    rw [← twosN_eq n (a + 2)]; rfl
theorem twosN_len : ∀ (n a : Nat), (twosN a n).length = n
  | 0, _ => rfl
  | n + 1, a => by simp [twosN, twosN_len n]
theorem dpN_eq (a b : List Nat) (c : Nat) : lvDp a b (c : Int) = ((dpN a b c : Nat) : Int) := by
  unfold lvDp dpN
  cases hb : Nat.ble ((b.length - a.length) * 2) c with
  | true =>
    have := Nat.le_of_ble_eq_true hb
    rw [if_neg (by omega)]
    have e := outer_eq a c b 0 (twosN 2 a.length) 0 (twosN_len _ _)
    rw [← twosN_eq] at e
    exact e
  | false =>
    have : ¬ (b.length - a.length) * 2 ≤ c := fun h' => by rw [Nat.ble_eq_true_of_le h'] at hb; cases hb
    rw [if_pos (by omega)]
    rfl
theorem twoN_eq (a b : List Nat) (c : Nat) : lvTwo a b (c : Int) = ((twoN a b c : Nat) : Int) := by
  unfold lvTwo
  match a, b with
  | [], b => simp [twoN]
  | x :: a, [] => simp [twoN]
  | x :: a, y :: b =>
    rw [if_neg (by simp), dpN_eq, dpN_eq]
    show _ = (((bif Nat.ble (x :: a).length (y :: b).length then dpN (x :: a) (y :: b) c else dpN (y :: b) (x :: a) c) : Nat) : Int)
    cases hb : Nat.ble (x :: a).length (y :: b).length with
    | true => have := Nat.le_of_ble_eq_true hb; rw [if_neg (by omega)]; rfl
    | false =>
      have : ¬ (x :: a).length ≤ (y :: b).length := fun h' => by rw [Nat.ble_eq_true_of_le h'] at hb; cases hb
      rw [if_pos (by omega)]; rfl
theorem levN_eq (a b : List Nat) (c : Nat) : lev a b (c : Int) = ((levN a b c : Nat) : Int) := by
  unfold lev levN
  by_cases h : a = b
  · rw [if_pos h, eqL_iff.mpr h]; rfl
  · rw [if_neg h, show eqL a b = false from by cases h' : eqL a b with | true => exact absurd (eqL_iff.mp h') h | false => rfl]
    dsimp only
    rw [twoN_eq]
    rfl
theorem rows_low (a : List Nat) (c : Nat) : ∀ (bs : List Nat) (j : Nat) (row : List Nat) (res : Nat), rowsN a c bs j row res ≤ c → ∀ c', rowsN a c' bs j row res = rowsN a c bs j row res ∨ (c' < c ∧ rowsN a c' bs j row res = c' + 1)
  | [], _, _, _, _, _ => .inl rfl
  | bc :: bs, j, row, res, h, c' => by
    unfold rowsN at h ⊢
    dsimp only at h ⊢
    cases hb : Nat.ble (leastN (rowN bc a row j j) 9223372036854775807) c with
    | false =>
      rw [hb] at h
      exact absurd h (by show ¬ c + 1 ≤ c; omega)
    | true =>
      rw [hb] at h
      have h1 := Nat.le_of_ble_eq_true hb
      cases hb' : Nat.ble (leastN (rowN bc a row j j) 9223372036854775807) c' with
      | true => exact rows_low a c bs _ _ _ h c'
      | false =>
        have h2 : ¬ leastN (rowN bc a row j j) 9223372036854775807 ≤ c' := fun h' => by rw [Nat.ble_eq_true_of_le h'] at hb'; cases hb'
        exact .inr ⟨by omega, rfl⟩
theorem dp_low {a b : List Nat} {c : Nat} (h : dpN a b c ≤ c) (c' : Nat) : dpN a b c' = dpN a b c ∨ (c' < c ∧ dpN a b c' = c' + 1) := by
  unfold dpN at h ⊢
  cases hb : Nat.ble ((b.length - a.length) * 2) c with
  | false =>
    rw [hb] at h
    exact absurd h (by show ¬ c + 1 ≤ c; omega)
  | true =>
    rw [hb] at h
    have h1 := Nat.le_of_ble_eq_true hb
    cases hb' : Nat.ble ((b.length - a.length) * 2) c' with
    | true => exact rows_low a c b _ _ _ h c'
    | false =>
      have h2 : ¬ (b.length - a.length) * 2 ≤ c' := fun h' => by rw [Nat.ble_eq_true_of_le h'] at hb'; cases hb'
      exact .inr ⟨by omega, rfl⟩
theorem two_low {a b : List Nat} {c : Nat} (h : twoN a b c ≤ c) (c' : Nat) : twoN a b c' = twoN a b c ∨ (c' < c ∧ twoN a b c' = c' + 1) := by
  match a, b, h with
  | [], _, _ => exact .inl rfl
  | _ :: _, [], _ => exact .inl rfl
  | x :: a, y :: b, h =>
    unfold twoN at h ⊢
    dsimp only at h ⊢
    cases hb : Nat.ble (x :: a).length (y :: b).length with
    | true => rw [hb] at h; exact dp_low h c'
    | false => rw [hb] at h; exact dp_low h c'
theorem lev_low {a b : List Nat} {c : Nat} (h : levN a b c ≤ c) (c' : Nat) : levN a b c' = levN a b c ∨ (c' < c ∧ levN a b c' = c' + 1) := by
  unfold levN at h ⊢
  cases hb : eqL a b with
  | true => exact .inl rfl
  | false => rw [hb] at h; exact two_low h c'

noncomputable def chkLev (pa pb : List Nat) (due : Nat) (gr : Bool) : Bool :=
  Nat.beq (levN pa pb due) due && ((bif eqL pa pb then Nat.beq due 0 else Nat.ble 1 due) && Nat.beq (levN pa pb 0) (bif gr then due else 1))
theorem chkLev_ok {pa pb : List Nat} {due : Nat} {gr : Bool} (h : chkLev pa pb due gr = true) :
    (∀ m : Int, -1 ≤ m ∧ m ≤ 1 → lev pa pb ((due : Int) + m) = (due : Int)) ∧ lev pa pb 0 = if gr = true then (due : Int) else 1 := by
  unfold chkLev at h
  simp only [Bool.and_eq_true] at h
  obtain ⟨h1, h2, h3⟩ := h
  replace h1 := Nat.eq_of_beq_eq_true h1
  replace h3 := Nat.eq_of_beq_eq_true h3
  refine ⟨fun m hm => ?_, ?_⟩
  · by_cases h0 : (due : Int) + m < 0
    · have hd : due = 0 := by omega
      have he : eqL pa pb = true := by
        cases e : eqL pa pb with
        | true => rfl
        | false =>
          rw [e] at h2
          have := Nat.le_of_ble_eq_true (show Nat.ble 1 due = true from h2)
          omega
      unfold lev
      rw [if_pos (eqL_iff.mp he), hd]; rfl
    · have e : (due : Int) + m = (((due : Int) + m).toNat : Int) := by omega
      rw [e, levN_eq]
      rcases lev_low (a := pa) (b := pb) (c := due) (by omega) ((due : Int) + m).toNat with hl | ⟨hl, hl2⟩
      · rw [hl, h1]
      · rw [hl2]; omega
  · have := levN_eq pa pb 0
    rw [show ((0 : Nat) : Int) = 0 from rfl] at this
    rw [this, h3]
    cases gr <;> rfl
noncomputable def chkBody (bd : List Nat) : Bool := Nat.ble 1 bd.length && (!Nat.beq (bd.getD 0 0) 32 && !Nat.beq (bd.getD (bd.length - 1) 0) 32)
noncomputable def chkWay (ps : List Int) (ah en : Int) : Bool := ps.all (fun x => decide (-12 ≤ x ∧ x ≤ 12)) && decide (wayOf ps.reverse en (-ah) = wayOf ps (-ah) en)
noncomputable def forceL : List Nat → (List Nat → Bool) → Bool
  | [], k => k []
  | x :: l, k => forceL l fun r => k (x :: r)
theorem forceL_eq : ∀ (l : List Nat) (k : List Nat → Bool), forceL l k = k l
  | [], _ => rfl
  | x :: l, k => forceL_eq l fun r => k (x :: r)
/-- the one word is the other with a stretch put in: place by place -/
noncomputable def eqS (k : Nat) : List Nat → List Nat → Bool
  | [], sh => eqL (List.drop k []) sh
  | x :: lo, [] => eqL ((x :: lo).drop k) []
  | x :: lo, y :: sh => bif eqL ((x :: lo).drop k) (y :: sh) then true else bif Nat.beq x y then eqS k lo sh else false
noncomputable def grownS (a b : List Nat) : Bool := bif Nat.blt a.length b.length then eqS (Nat.sub b.length a.length) b a else eqS (Nat.sub a.length b.length) a b
theorem eqS_iff (k : Nat) : ∀ (lo sh : List Nat), lo.length = sh.length + k → (eqS k lo sh = true ↔ ∃ i, i ≤ sh.length ∧ lo.take i ++ lo.drop (i + k) = sh)
  | [], sh, h => by
    obtain rfl : sh = [] := List.length_eq_zero_iff.mp (by simp at h; omega)
    simp [eqS, eqL]
  | x :: lo, [], h => by
    simp only [eqS, eqL_iff, List.length_nil, Nat.le_zero_eq]
    constructor
    · intro e
      exact ⟨0, rfl, by simpa using e⟩
    · rintro ⟨i, rfl, e⟩
      simpa using e
  | x :: lo, y :: sh, h => by
    have ih := eqS_iff k lo sh (by simp at h; omega)
    simp only [eqS]
    constructor
    · intro e
      cases h1 : eqL ((x :: lo).drop k) (y :: sh) with
      | true => exact ⟨0, Nat.zero_le _, by simpa using eqL_iff.mp h1⟩
      | false =>
        rw [h1] at e
        cases h2 : Nat.beq x y with
        | false => rw [h2] at e; cases e
        | true =>
          rw [h2] at e
          obtain ⟨i, hi, e⟩ := ih.mp e
          refine ⟨i + 1, by simpa using hi, ?_⟩
          rw [Nat.eq_of_beq_eq_true h2, List.take_succ_cons, Nat.add_right_comm, List.drop_succ_cons, List.cons_append, e]
    · rintro ⟨i, hi, e⟩
      cases h1 : eqL ((x :: lo).drop k) (y :: sh) with
      | true => rfl
      | false =>
        match i with
        | 0 =>
          have e2 : eqL ((x :: lo).drop k) (y :: sh) = true := eqL_iff.mpr (by simpa using e)
          rw [h1] at e2; cases e2
        | i + 1 =>
          rw [List.take_succ_cons, Nat.add_right_comm, List.drop_succ_cons, List.cons_append] at e
          injection e with e1 e2
          subst e1
          rw [Nat.beq_refl]
          exact ih.mpr ⟨i, by simpa using hi, e2⟩
theorem grownIn_iff (sh lo : List Nat) : grownIn sh lo = true ↔ ∃ i, i ≤ sh.length ∧ lo.take i ++ lo.drop (i + (lo.length - sh.length)) = sh := by
  unfold grownIn
  simp only [List.any_eq_true, List.mem_range, beq_iff_eq, Nat.lt_succ_iff]
theorem grownS_eq (a b : List Nat) : grownS a b = grownOf a b := by
  have key : ∀ sh lo : List Nat, sh.length ≤ lo.length → eqS (lo.length - sh.length) lo sh = grownIn sh lo := fun sh lo h => by
    rw [Bool.eq_iff_iff, eqS_iff _ _ _ (by omega), grownIn_iff]
  unfold grownS grownOf
  by_cases h : a.length < b.length
  · rw [if_pos h, show Nat.blt a.length b.length = true from Nat.ble_eq_true_of_le h]
    exact key a b (Nat.le_of_lt h)
  · rw [if_neg h, show Nat.blt a.length b.length = false from by cases e : Nat.blt a.length b.length with | false => rfl | true => exact absurd (Nat.le_of_ble_eq_true e) h]
    exact key b a (Nat.not_lt.mp h)
noncomputable def chk (w0 w1 : List Nat) (so ot : List Int) (ah be : Nat) (g0 g1 : Int) : Bool :=
  forceL (bodyOf so.length (greatOf so.length ah g0 be g1) w1 ot) fun bd => forceL (oneOf w0 so) fun one => forceL (padded ah be bd) fun li =>
  chkBody bd && (chkWay (postsOf so ot) ah (endOf so ot be) && (decide (0 ≤ due2Of so ot ah be (greatOf so.length ah g0 be g1) ∧ due2Of so ot ah be (greatOf so.length ah g0 be g1) ≤ 500) &&
    chkLev (paOf so.length one li) (pbOf so.length one li) (due2Of so ot ah be (greatOf so.length ah g0 be g1)).toNat (grownS one li)))
noncomputable def ends : List (Nat × Int) := [(0, 0), (0, 1), (1, 0), (2, 0)]
noncomputable def sizes : List Nat := [2, 3, 4]
noncomputable def chkAll (a b c n : Nat) (d e : Nat) : Bool :=
  ends.all fun x => ends.all fun y => chk (wordOf a b c) (wordOf d e e) ([(a : Int), (b : Int), (c : Int)].take n) ([(d : Int), (e : Int), (e : Int)].take n) x.1 y.1 x.2 y.2

theorem great_congr {n : Nat} {ah be g0 g0' g1 g1' : Int} (h0 : ah < g0 ↔ ah < g0') (h1 : be < g1 ↔ be < g1') : greatOf n ah g0 be g1 = greatOf n ah g0' be g1' := by
  unfold greatOf
  simp only [h0, h1]
theorem flat_same {x : Int} : ∀ {bo : List Int} {f : Int → Int}, (∀ m ∈ bo, f m = x) → bo.map f = (List.replicate bo.length [x]).flatten
  | [], _, _ => rfl
  | m :: bo, f, h => by
    rw [List.map_cons, List.length_cons, List.replicate_succ, List.flatten_cons, ← flat_same (fun m hm => h m (.tail _ hm)), h m (.head _)]
    rfl
theorem front_of_chk {w0 w1 w0' w1' : List Nat} {so ot bo : List Int} {p0 p1 : Nat} {g0 g1 g0' g1' am : Int} (hc : chk w0' w1' so ot (ahOf p0 p1 am) (beOf p0 p1 am) g0' g1' = true)
    (hg0 : ((ahOf p0 p1 am : Nat) : Int) < g0 ↔ ((ahOf p0 p1 am : Nat) : Int) < g0') (hg1 : ((beOf p0 p1 am : Nat) : Int) < g1 ↔ ((beOf p0 p1 am : Nat) : Int) < g1')
    (h0 : oneOf w0 so = oneOf w0' so) (h1 : ∀ gr, bodyOf so.length gr w1 ot = bodyOf so.length gr w1' ot) (hsO : SumsIn ot w1.length) (hsS : SumsIn so w0.length) (hbo : ∀ m ∈ bo, -1 ≤ m ∧ m ≤ 1) :
    FrontOk w0 w1 so ot bo p0 p1 g0 g1 am := by
  have hg := great_congr (n := so.length) hg0 hg1
  obtain ⟨ah, hah⟩ : ∃ ah, ah = ahOf p0 p1 am := ⟨_, rfl⟩
  obtain ⟨be, hbe⟩ : ∃ be, be = beOf p0 p1 am := ⟨_, rfl⟩
  rw [← hah, ← hbe] at hc hg
  unfold chk at hc
  simp only [forceL_eq, grownS_eq] at hc
  simp only [Bool.and_eq_true, decide_eq_true_eq] at hc
  rw [← hg] at hc
  obtain ⟨gr, hgr⟩ : ∃ gr, gr = greatOf so.length (ah : Int) g0 (be : Int) g1 := ⟨_, rfl⟩
  rw [← hgr, ← h1, ← h0] at hc
  obtain ⟨cb, cw, cd, cl⟩ := hc
  obtain ⟨l1, l2⟩ := chkLev_ok cl
  rw [Int.toNat_of_nonneg cd.1] at l1 l2
  refine ⟨hsO, hsS, ?_, ?_, ?_, ?_, ?_⟩
  · rw [← hah, ← hbe]
    intro gr' bd e1 e2
    rw [← hgr] at e1
    subst e1
    subst e2
    unfold chkBody at cb
    simp only [Bool.and_eq_true, Bool.not_eq_true'] at cb
    exact ⟨Nat.le_of_ble_eq_true cb.1, Nat.ne_of_beq_eq_false cb.2.1, Nat.ne_of_beq_eq_false cb.2.2⟩
  · intro x hx
    unfold chkWay at cw
    simp only [Bool.and_eq_true, List.all_eq_true, decide_eq_true_eq] at cw
    exact cw.1 x hx
  · rw [← hah, ← hbe]
    unfold chkWay at cw
    simp only [Bool.and_eq_true, decide_eq_true_eq] at cw
    exact cw.2
  · rw [← hah, ← hbe]
    intro gr' e1
    rw [← hgr] at e1
    subst e1
    exact cd
  · rw [← hah, ← hbe]
    intro gr' bd e1 e2
    rw [← hgr] at e1
    subst e1
    subst e2
    rw [List.map_append, List.map_map, List.map_cons, List.map_nil, l2]
    congr 1
    exact flat_same fun m hm => l1 m (hbo m hm)
theorem sums3 (x y z m : Nat) : SumsIn ([(x : Int), (y : Int), (z : Int)].take m) (x + y + z) := by
  intro k
  rw [List.take_take]
  obtain ⟨j, hj⟩ : ∃ j, j = min k m := ⟨_, rfl⟩
  rw [← hj]
  match j with
  | 0 => simp only [List.take_zero, List.sum_nil]; omega
  | 1 => simp only [List.take_succ_cons, List.take_zero, List.sum_cons, List.sum_nil]; omega
  | 2 => simp only [List.take_succ_cons, List.take_zero, List.sum_cons, List.sum_nil]; omega
  | j + 3 => simp only [List.take_succ_cons, List.take_nil, List.sum_cons, List.sum_nil]; omega
theorem mem_sizes {a : Nat} (h : 2 ≤ a ∧ a ≤ 4) : a ∈ sizes := by
  obtain rfl | rfl | rfl : a = 2 ∨ a = 3 ∨ a = 4 := by omega
  all_goals decide
theorem end_pick {ah : Nat} {g : Int} (h : ah ≤ 2) (hg : 0 ≤ g ∧ g ≤ 1) : ∃ x ∈ ends, x.1 = ah ∧ ((ah : Int) < g ↔ (ah : Int) < x.2) := by
  obtain rfl | rfl | rfl : ah = 0 ∨ ah = 1 ∨ ah = 2 := by omega
  · obtain rfl | rfl : g = 0 ∨ g = 1 := by omega
    · exact ⟨(0, 0), by decide, rfl, by decide⟩
    · exact ⟨(0, 1), by decide, rfl, by decide⟩
  · exact ⟨(1, 0), by decide, rfl, by dsimp only; omega⟩
  · exact ⟨(2, 0), by decide, rfl, by dsimp only; omega⟩
theorem ah_le {p0 p1 : Nat} {am : Int} (h0 : p0 ≤ 2) : ahOf p0 p1 am ≤ 2 := by
  unfold ahOf gnOf
  split <;> omega
theorem be_le {p0 p1 : Nat} {am : Int} (h0 : p1 ≤ 2) : beOf p0 p1 am ≤ 2 := by
  unfold beOf ahOf gnOf
  split <;> omega
theorem front_of_all {a b c n d e : Nat} (hn : chkAll a b c n d e = true) {w0 w1 : List Nat} {so ot bo : List Int} {p0 p1 : Nat} {g0 g1 am : Int} (hso : so = [(a : Int), (b : Int), (c : Int)].take n) (hot : ot = [(d : Int), (e : Int), (e : Int)].take n)
    (hp0 : p0 ≤ 2) (hp1 : p1 ≤ 2) (hg0 : 0 ≤ g0 ∧ g0 ≤ 1) (hg1 : 0 ≤ g1 ∧ g1 ≤ 1)
    (h0 : oneOf w0 so = oneOf (wordOf a b c) so) (h1 : ∀ gr, bodyOf so.length gr w1 ot = bodyOf so.length gr (wordOf d e e) ot) (hsO : SumsIn ot w1.length) (hsS : SumsIn so w0.length) (hbo : ∀ m ∈ bo, -1 ≤ m ∧ m ≤ 1) :
    FrontOk w0 w1 so ot bo p0 p1 g0 g1 am := by
  obtain ⟨x, hx, hx1, hx2⟩ := end_pick (ah_le (p1 := p1) (am := am) hp0) hg0
  obtain ⟨y, hy, hy1, hy2⟩ := end_pick (be_le (p0 := p0) (am := am) hp1) hg1
  unfold chkAll at hn
  have h2 := List.all_eq_true.mp (List.all_eq_true.mp hn x hx) y hy
  rw [hx1, hy1, ← hso, ← hot] at h2
  exact front_of_chk h2 hx2 hy2 h0 h1 hsO hsS hbo
theorem one1 {a b c : Nat} (ha : 2 ≤ a ∧ a ≤ 4) (hb : 2 ≤ b ∧ b ≤ 4) (hc : 2 ≤ c ∧ c ≤ 4) : oneOf (wordOf a b c) [(a : Int)] = oneOf (wordOf a 2 2) [(a : Int)] := by
  obtain rfl | rfl | rfl : a = 2 ∨ a = 3 ∨ a = 4 := by omega
  all_goals obtain rfl | rfl | rfl : b = 2 ∨ b = 3 ∨ b = 4 := by omega
  all_goals obtain rfl | rfl | rfl : c = 2 ∨ c = 3 ∨ c = 4 := by omega
  all_goals decide +kernel
theorem one2 {a b c : Nat} (ha : 2 ≤ a ∧ a ≤ 4) (hb : 2 ≤ b ∧ b ≤ 4) (hc : 2 ≤ c ∧ c ≤ 4) : oneOf (wordOf a b c) [(a : Int), (b : Int)] = oneOf (wordOf a b 2) [(a : Int), (b : Int)] := by
  obtain rfl | rfl | rfl : a = 2 ∨ a = 3 ∨ a = 4 := by omega
  all_goals obtain rfl | rfl | rfl : b = 2 ∨ b = 3 ∨ b = 4 := by omega
  all_goals obtain rfl | rfl | rfl : c = 2 ∨ c = 3 ∨ c = 4 := by omega
  all_goals decide +kernel
theorem piece1 {d e : Nat} (hd : 2 ≤ d ∧ d ≤ 4) (he : 2 ≤ e ∧ e ≤ 4) : pieceOf (wordOf d e e) [(d : Int)] 0 = pieceOf (wordOf d 2 2) [(d : Int)] 0 := by
  obtain rfl | rfl | rfl : d = 2 ∨ d = 3 ∨ d = 4 := by omega
  all_goals obtain rfl | rfl | rfl : e = 2 ∨ e = 3 ∨ e = 4 := by omega
  all_goals decide +kernel
theorem body1 {d e : Nat} (hd : 2 ≤ d ∧ d ≤ 4) (he : 2 ≤ e ∧ e ≤ 4) (gr : List Int) : bodyOf 1 gr (wordOf d e e) [(d : Int)] = bodyOf 1 gr (wordOf d 2 2) [(d : Int)] := by
  unfold bodyOf
  congr 1
  refine List.map_congr_left fun k hk => ?_
  have hk2 := mem_rangeKs hk
  obtain rfl : k = 0 := by omega
  unfold partOf
  rw [show Int.toNat 0 = 0 from rfl, piece1 hd he]
noncomputable def all3 (a b c : Nat) : Bool := sizes.all fun d => sizes.all fun e => chkAll a b c 3 d e
noncomputable def all2 (a : Nat) : Bool := sizes.all fun b => sizes.all fun d => sizes.all fun e => chkAll a b 2 2 d e
noncomputable def all1 : Bool := sizes.all fun a => sizes.all fun d => chkAll a 2 2 1 d 2
theorem ck3_222 : all3 2 2 2 = true := by decide +kernel
theorem ck3_223 : all3 2 2 3 = true := by decide +kernel
theorem ck3_224 : all3 2 2 4 = true := by decide +kernel
theorem ck3_232 : all3 2 3 2 = true := by decide +kernel
theorem ck3_233 : all3 2 3 3 = true := by decide +kernel
theorem ck3_234 : all3 2 3 4 = true := by decide +kernel
theorem ck3_242 : all3 2 4 2 = true := by decide +kernel
theorem ck3_243 : all3 2 4 3 = true := by decide +kernel
theorem ck3_244 : all3 2 4 4 = true := by decide +kernel
theorem ck2_2 : all2 2 = true := by decide +kernel
theorem ck3_322 : all3 3 2 2 = true := by decide +kernel
theorem ck3_323 : all3 3 2 3 = true := by decide +kernel
theorem ck3_324 : all3 3 2 4 = true := by decide +kernel
theorem ck3_332 : all3 3 3 2 = true := by decide +kernel
theorem ck3_333 : all3 3 3 3 = true := by decide +kernel
theorem ck3_334 : all3 3 3 4 = true := by decide +kernel
theorem ck3_342 : all3 3 4 2 = true := by decide +kernel
theorem ck3_343 : all3 3 4 3 = true := by decide +kernel
theorem ck3_344 : all3 3 4 4 = true := by decide +kernel
theorem ck2_3 : all2 3 = true := by decide +kernel
theorem ck3_422 : all3 4 2 2 = true := by decide +kernel
theorem ck3_423 : all3 4 2 3 = true := by decide +kernel
theorem ck3_424 : all3 4 2 4 = true := by decide +kernel
theorem ck3_432 : all3 4 3 2 = true := by decide +kernel
theorem ck3_433 : all3 4 3 3 = true := by decide +kernel
theorem ck3_434 : all3 4 3 4 = true := by decide +kernel
theorem ck3_442 : all3 4 4 2 = true := by decide +kernel
theorem ck3_443 : all3 4 4 3 = true := by decide +kernel
theorem ck3_444 : all3 4 4 4 = true := by decide +kernel
theorem ck2_4 : all2 4 = true := by decide +kernel
theorem ck1 : all1 = true := by decide +kernel
theorem ck3 {a b c : Nat} (ha : 2 ≤ a ∧ a ≤ 4) (hb : 2 ≤ b ∧ b ≤ 4) (hc : 2 ≤ c ∧ c ≤ 4) : all3 a b c = true := by
  obtain rfl | rfl | rfl : a = 2 ∨ a = 3 ∨ a = 4 := by omega
  all_goals obtain rfl | rfl | rfl : b = 2 ∨ b = 3 ∨ b = 4 := by omega
  all_goals obtain rfl | rfl | rfl : c = 2 ∨ c = 3 ∨ c = 4 := by omega
  all_goals (first | with_reducible exact ck3_222 | with_reducible exact ck3_223 | with_reducible exact ck3_224 | with_reducible exact ck3_232 | with_reducible exact ck3_233 | with_reducible exact ck3_234 | with_reducible exact ck3_242 | with_reducible exact ck3_243 | with_reducible exact ck3_244 | with_reducible exact ck3_322 | with_reducible exact ck3_323 | with_reducible exact ck3_324 | with_reducible exact ck3_332 | with_reducible exact ck3_333 | with_reducible exact ck3_334 | with_reducible exact ck3_342 | with_reducible exact ck3_343 | with_reducible exact ck3_344 | with_reducible exact ck3_422 | with_reducible exact ck3_423 | with_reducible exact ck3_424 | with_reducible exact ck3_432 | with_reducible exact ck3_433 | with_reducible exact ck3_434 | with_reducible exact ck3_442 | with_reducible exact ck3_443 | with_reducible exact ck3_444)
theorem ck2 {a : Nat} (ha : 2 ≤ a ∧ a ≤ 4) : all2 a = true := by
  obtain rfl | rfl | rfl : a = 2 ∨ a = 3 ∨ a = 4 := by omega
  · exact ck2_2
  · exact ck2_3
  · exact ck2_4
theorem plain_ok (n i a b c d e p0 p1 q0 q1 : Nat) (hi : i < 3) (ha : 2 ≤ a ∧ a ≤ 4) (hb : 2 ≤ b ∧ b ≤ 4) (hc : 2 ≤ c ∧ c ≤ 4) (hd : 2 ≤ d ∧ d ≤ 4) (he : 2 ≤ e ∧ e ≤ 4) (hp0 : p0 ≤ 2) (hp1 : p1 ≤ 2) (hq0 : q0 ≤ 1) (hq1 : q1 ≤ 1) :
    FrontOk (wordOf a b c) (wordOf d e e) ([(a : Int), (b : Int), (c : Int)].take (i + 1)) ([(d : Int), (e : Int), (e : Int)].take (i + 1)) (boOf n i) p0 p1 (q0 : Int) (q1 : Int) (amOf n i) := by
  have sO : ∀ m, SumsIn ([(d : Int), (e : Int), (e : Int)].take m) (wordOf d e e).length := fun m => by rw [wordOf_len]; exact sums3 d e e m
  have sS : ∀ m, SumsIn ([(a : Int), (b : Int), (c : Int)].take m) (wordOf a b c).length := fun m => by rw [wordOf_len]; exact sums3 a b c m
  have hg0 : 0 ≤ (q0 : Int) ∧ (q0 : Int) ≤ 1 := by omega
  have hg1 : 0 ≤ (q1 : Int) ∧ (q1 : Int) ≤ 1 := by omega
  obtain rfl | rfl | rfl : i = 0 ∨ i = 1 ∨ i = 2 := by omega
  · have h := List.all_eq_true.mp (List.all_eq_true.mp (show (sizes.all fun a => sizes.all fun d => chkAll a 2 2 1 d 2) = true from ck1) a (mem_sizes ha)) d (mem_sizes hd)
    exact front_of_all h rfl rfl hp0 hp1 hg0 hg1 (one1 ha hb hc) (body1 hd he) (sO _) (sS _) boOf_in
  · have h := List.all_eq_true.mp (List.all_eq_true.mp (List.all_eq_true.mp (show (sizes.all fun b => sizes.all fun d => sizes.all fun e => chkAll a b 2 2 d e) = true from ck2 ha) b (mem_sizes hb)) d (mem_sizes hd)) e (mem_sizes he)
    exact front_of_all h rfl rfl hp0 hp1 hg0 hg1 (one2 ha hb hc) (fun _ => rfl) (sO _) (sS _) boOf_in
  · have h := List.all_eq_true.mp (List.all_eq_true.mp (show (sizes.all fun d => sizes.all fun e => chkAll a b c 3 d e) = true from ck3 ha hb hc) d (mem_sizes hd)) e (mem_sizes he)
    exact front_of_all h rfl rfl hp0 hp1 hg0 hg1 rfl (fun _ => rfl) (sO _) (sS _) boOf_in

theorem quiet6 : True := by
  w_top off
  trivial

example : True := by
  k_with "call ref" => (k_here; refine Hold.mk ?_)
  k_with "exec Assign cons ListComp" => (k_here; k_dflt (refine LCg.Assign_ListComp_U (F₀ := by k_asm) (by rfl) (by with_unfolding_all rfl) (by with_unfolding_all rfl) (by decide) (by rfl) (by decide) (by rfl) (by rfl) (by rfl) ?_))
  k_with "eval ListComp" => (k_here; k_dflt (refine LCg.ListComp_U (F₀ := by k_asm) (by with_unfolding_all rfl) (by decide) (by rfl) (by decide) (by rfl) ?_))
  k_with "CompSrc" => (k_here; refine Hold.mk ?_)
  k_with "compareOp NotEq ref ref" => (k_here; refine Hold.mk ?_)
  k_with "binaryOp Add ref ref" => (k_here; refine Hold.mk ?_)
  k_with "subscriptTail List cons Slice ref ref" => (k_here; (fail_if_success (with_reducible rename Seen 4 => zzzz)); k_dflt (refine kba_turn (value' := PySem.Expr.Name (PySem.Str.ofString "_") ⟨0, 0, 0, 0⟩) (fun _ => rfl) ?_); k_dflt (refine' kmk_slice_ints ?zzF ?zzN ?zzl ?zzp ?zzq ?zzi ?zzm ?zzc ?_ ?zzs ?zzt ?zzz; (case zzF => k_asm); (case zzN => k_asm); (case zzl => kmk_list); (case zzp => kmk_part); (case zzq => kmk_part); (case zzi => exact .cons _ _ (.cons _ _ (.cons _ _ (.cons _ _ (.cons _ _ (.cons _ _ (.cons _ _ .nil))))))); (case zzm => exact kmk_from (.cons _ _ (.cons _ _ (.cons _ _ (.cons _ _ (.cons _ _ (.cons _ _ (.cons _ _ .nil))))))) (by omega)); (case zzc => exact rfl); (case zzs => with_unfolding_all rfl); (case zzt => kmk_pure); (case zzz => size_fits)); intro _ _ _ _ _ zzl1 _ _ _; (try k_lt zzl1))
  k_with "eval BinOp" => (k_here; (with_reducible show wpAny _ _ (eval (Expr.BinOp (Expr.Name (Str.ofString "some") _) _ _ _) _) _ _ _); (fail_if_success (with_reducible show wpAny _ _ _ (CutL _ _ _ _ _ _) _ _)); refine Hold.mk ?_)
  k_with "binaryOp Mult ref int" => (k_here; refine Hold.mk ?_)
  k_with "storeName" => (k_here; (first
    | ((with_reducible show wpAny _ _ (storeName _ (Str.ofString "told") _) _ _ _); (fail_if_success (with_reducible rename Seen 1 => zzzz)))
    | ((with_reducible show wpAny _ _ (storeName _ (Str.ofString "words") _) _ _ _); (fail_if_success (with_reducible rename Seen 2 => zzzz)))
    | (with_reducible show wpAny _ _ (storeName _ (Str.ofString "amount") (Value.int (HSub.hSub (Int.fmod _ _) _) _)) _ _ _)); refine Hold.mk ?_)
  k_with "binaryOp Add str str" => (k_here; (with_reducible show wpAny _ _ (binaryOp Operator.Add (Value.str (Str.mk (List.toArray _)) _) (Value.str (Str.mk (List.toArray _)) _)) _ _ _); (refine add_strL ?zzz ?_); (case zzz => (simp only [List.length_append, List.length_replicate]; omega)); intro _ _)
  k_with "exec Assign" => (k_here; (with_reducible show wpAny _ _ (exec (Stmt.Assign [Expr.Name (Str.ofString "bounds") _] _ _) _) _ _ _); (fail_if_success (with_reducible rename Seen 4 => zzzz)); refine Hold.mk ?_)
  k_with "binaryOp Mult str int" => (k_here; (with_reducible show wpAny _ _ (binaryOp _ (Value.str (Str.ofString "a") _) _) _ _ _); k_dflt (refine mul_charE (ch := 97) (by decide) (by rfl) (by omega) ?_); intro _ _)
  k_with "binaryOp Mult str int" => (k_here; (with_reducible show wpAny _ _ (binaryOp _ (Value.str (Str.ofString "b") _) _) _ _ _); k_dflt (refine mul_charE (ch := 98) (by decide) (by rfl) (by omega) ?_); intro _ _)
  k_with "binaryOp Mult str int" => (k_here; (with_reducible show wpAny _ _ (binaryOp _ (Value.str (Str.ofString "c") _) _) _ _ _); k_dflt (refine mul_charE (ch := 99) (by decide) (by rfl) (by omega) ?_); intro _ _)
  k_with "subscriptTail List cons Slice ref ref" => (k_here; (with_reducible rename Seen 4 => zzzz); refine Hold.mk ?_)
  trivial
section
theorem tc_post {M : Model} {A : Around} {cd : Code} {s s₁ : Shared} {cw : ClaimW} {cl : Str → Option Addr} {mean : ExcName → Option Value} {args : List WData} {tabs : List (Addr × Addr)} (hT : TabsAt tabs s₁.heap) (hr : ∀ a x, cw.raises a x = false)
    (h : codeAny M A cd (fun r s' => W.GoodW cw cl mean args { s₁ with heap := ghostOf s₁.heap tabs } r { s' with gens := #[] } ∧ AllBare s'.gens ∧ GrownAll tabs s'.heap) s) : codeAny M A cd (GoodWG cw cl mean args s₁) s :=
  codeAny_mono h fun r s' ⟨⟨hc, hk, hos, _⟩, hg, hgr⟩ => by
    have keep : ∀ b o, b ∉ tabs.map (·.2) → s₁.heap.get? b = some o → s'.heap.get? b = some o := fun b o hb e => hk b o (ghost_ne e hb)
    have grown : ∀ b o, b ∈ tabs.map (·.2) → s₁.heap.get? b = some o → isCodeTable s₁.heap b ∧ o = tabObj #[] ∧ ∃ ps, s'.heap.get? b = some (tabObj ps) := fun b o hb e => by
      obtain ⟨q, hq, rfl⟩ := List.mem_map.mp hb
      have e2 := (hT q hq).2
      rw [e] at e2
      exact ⟨((hT q hq).1.tab (hT q hq).2).isCodeTable, Option.some.inj e2, hgr.get q hq⟩
    refine ⟨?_, ⟨fun b o e => ?_, fun b o e => ?_⟩, hos, hg⟩
    · rcases hc with ⟨v, d, as, r1, r2, r3, r4, r5⟩ | ⟨e, ob, x, _, _, _, r4, _⟩
      · refine .inl ⟨v, d, as, r1, r2, r3, r4, fun q => ⟨(r5 q).1, fun a ha => ?_⟩⟩
        cases q1 : s₁.heap.get? a with
        | none => rfl
        | some o =>
          by_cases hb : a ∈ tabs.map (·.2)
          · obtain ⟨_, _, ps, hP⟩ := grown a o hb q1
            exact absurd ha (readsW_apart hP rfl r3)
          · have e3 := (r5 q).2 a ha
            rw [show (ghostOf s₁.heap tabs).get? a = some o from ghost_ne q1 hb] at e3
            cases e3
      · rw [hr] at r4; cases r4
    · by_cases hb : b ∈ tabs.map (·.2)
      · obtain ⟨ht, rfl, ps, hP⟩ := grown b o hb e
        exact .inr (.inl ⟨ht, rfl, #[], ps, rfl, by rw [Array.empty_append]; exact hP⟩)
      · exact .inl (keep b o hb e)
    · by_cases hb : b ∈ tabs.map (·.2)
      · obtain ⟨_, _, ps, hP⟩ := grown b o hb e
        exact ⟨_, hP⟩
      · exact ⟨o, keep b o hb e⟩
end
theorem open_post {α : Type} {M : Model} {A : Around} {c : Sem α} {P : α → Shared → Prop} {E : Value → Shared → Prop} {s : Shared} (H : (α → Shared → Prop) → Prop) (h : ∀ Q, H Q → wpAny M A c Q (fun _ _ => False) s) (hP : H P) : wpAny M A c P E s := wpAny_mono (h _ hP) (fun _ _ h => h) fun _ _ e => e.elim
abbrev LawEnd (g : Heap) (L : Addr) (s : Shared) (Q : Flow → Shared → Prop) : Prop :=
  ∀ h tk gn m p1 p2 exs, Fr g L h m → News g L h (tabs p1 p2 exs) → AllBare gn → Q (.ret (.bool true)) { s with heap := h, gens := gn, toks := tk }
theorem law_top : PySem.Challenge.rw_tc0007_01.Holds := Tc.hd (by
  k_fill
  intro w s₀ s₁ mg mb G Y fa o pm cd doc dV kV ho hd hcd hD hmg hg args vals as hpre hlay hrd hwl hlo
  have KX := km_in_of Y
  km_tabs Y
  have X := (Ground.X G).1
  have V := (Ground.X G).2
  refine Ground.open G ?_
  intro T B D TE TW
  km_lay T hmg ho hd cd
  clear hmg
  wrow_args hpre hlay hrd hwl hlo
  refine enter_call ?_
  w_top on
  refine tc_post hT9 (fun _ _ => rfl) ?_
  w_call any ho hd hcd hD T F
  clear hd
  kn_ghosts F T
  k_drop
  rename (ghostOf s₁.heap _).IsList _ _ => hL0
  rename IntsAre _ _ => hI0
  rename ¬ (_ : Int) < _ => hlen
  rename CodeHd _ (78, 74).1 _ => C1
  rename CodeHd _ (71, 69).1 _ => C2
  rename Below _ _ _ _ => K0
  rename Frag.In _ (ghostOf _ _) => X0
  rename Top _ _ _ _ _ (ghostOf _ _) => T0
  rename Fr _ _ _ _ => F'
  rename News _ _ _ _ => N'
  rename 74 < _ ∧ _ => l0
  rename List Int => sc
  clear hT9
  clear hT8 T B D TE TW
  clear ho hcd Y G
  refine open_post (LawEnd (ghostOf s₁.heap [(78, 74), (71, 69)]) s₁.heap.objs.size s₁) ?walk ?post
  case post =>
    intro h tk gn m p1 p2 exs F N hb
    refine ⟨?_, hb, ⟨_, (N _ (.head _)).1⟩, ⟨_, (N _ (.tail _ (.head _))).1⟩, trivial⟩
    show W.GoodW _ _ _ _ _ (.ok (.ret (.bool _))) _
    refine goodW_bool F rfl (raisesW_false (by wrow_none_raised)) (by wrow_post)
  case walk =>
  intro Q hret
  rename_i hs hlay0 hLb hr1 hl2 as1 as2 lp vs as3 hLs ra w1 r0 hr2 hct h1
  clear hs hLb hr1 hl2 hlay0 hr2 hct hD X V
  clear r0 w1 ra
  clear hLs
  have hsz : sc.length ≤ 63 := by omega
  clear hlen
  obtain ⟨g, hgg⟩ : ∃ g, g = ghostOf s₁.heap [(78, 74), (71, 69)] := ⟨_, rfl⟩
  obtain ⟨L, hLL⟩ : ∃ L, L = s₁.heap.objs.size := ⟨_, rfl⟩
  simp only [← hgg] at *
  simp only [← hLL] at *
  clear hgg hLL
  have hg0 : AllBare s₁.gens := AllBare.of_eq hg
  clear hg l0
  k_steps
  refine Hold.of ?_
  rename Fr _ _ _ _ => F'; rename News _ _ _ _ => N'
  obtain ⟨fs, hfs⟩ : ∃ fs, fs = sc.take 7 ++ [0, 2, 1, 2, 0, 5, 3].drop sc.length := ⟨_, rfl⟩
  have hfl : fs.length = 7 := by rw [hfs]; simp; omega
  rename IntsAre _ (List.take _ _) => hIa
  rename IntsAre _ (List.drop _ _) => hIb
  refine kmk_add_ints F' N' (News.isList N' (.tail _ (.tail _ (.head _)))) (News.isList N' (.head _)) hIa hIb ?_ ?zzz
  case zzz => rw [PySem.sizeLine_eq]; simp; omega
  clear F' N'
  intro D fv h2 F' N' l2 hfv
  replace hfv : IntsAre fv fs := by rw [hfs]; exact hfv
  replace N' : News g L h2 [(D, listOf (List.toArray fv) 0), (74, tabObj #[]), (69, tabObj #[])] := by repeat' (first | exact News.nil | refine news_one N' (by k_mem) ?_)
  have l2' : 74 < D ∧ 69 < D := ⟨l2 (74, tabObj #[]) (by k_mem), l2 (69, tabObj #[]) (by k_mem)⟩
  clear l2 hIa hIb hfs
  refine (match fs, hfl, hfv with
  | [f0, f1, f2, f3, f4, f5, f6], _, hfv => ?_)
  k_steps
  refine Hold.of ?_
  rename Fr _ _ _ _ => F'; rename News _ _ _ _ => N'
  rename IntsAre _ (List.take 3 _) => hI1
  replace hI1 : IntsAre _ [f0, f1, f2] := hI1
  refine LCg.CompSrc.ledger rfl F' N' (.head _) (by rw [List.size_toArray, PySem.sizeLine_eq, hI1.length]; simp) ?_
  intro gx
  refine kcf_list (fun x => Int.fmod x 3 + 2) hI1 ?turn ?fin
  case turn =>
    clear F' N'
    intro k tt I oI C oC D m₂ zs h tk E' hkm hC hx F' N' off0 ne hmk
    clear ne
    k_steps
  case fin =>
  clear F' N'
  show ∀ ys, _
  intro sv hsv
  replace hsv : IntsAre sv [Int.fmod f0 3 + 2, Int.fmod f1 3 + 2, Int.fmod f2 3 + 2] := hsv
  clear hI1
  unfold LCg.FinA
  intro S hS tkS F' N' oS
  simp only [LCg.Off1, and_true] at oS
  dsimp only
  replace N' : News g L hS [(S, LCg.lst sv), (D, listOf (List.toArray fv) 0), (74, tabObj #[]), (69, tabObj #[])] := by repeat' (first | exact News.nil | refine news_one N' (by k_mem) ?_)
  have n1 : NEs D S := ⟨oS.2.1⟩
  have n2 : NEs 74 S := ⟨oS.2.2.1⟩
  have n3 : NEs 69 S := ⟨oS.2.2.2⟩
  clear oS
  k_steps
  refine Hold.of ?_
  rename Fr _ _ _ _ => F'; rename News _ _ _ _ => N'
  with_reducible rename IntsAre _ (List.take _ (List.drop 4 _)) => hIb
  with_reducible rename IntsAre _ (List.take _ (List.drop 3 _)) => hIa
  replace hIa : IntsAre _ [f3, f4] := hIa
  replace hIb : IntsAre _ [f4] := hIb
  refine kmk_add_ints F' N' (News.isList N' (.tail _ (.head _))) (News.isList N' (.head _)) hIa hIb ?_ ?zzz
  case zzz => rw [PySem.sizeLine_eq]; simp
  clear F' N'
  intro D2 cv h2 F' N' l2 hcv
  replace hcv : IntsAre _ [f3, f4, f4] := hcv
  k_lt l2
  refine LCg.CompSrc.ledger rfl F' N' (.head _) (by rw [List.size_toArray, PySem.sizeLine_eq, hcv.length]; simp) ?_
  intro gx
  refine kcf_list (fun x => Int.fmod x 3 + 2) hcv ?turn ?fin
  case turn =>
    clear F' N'
    intro k tt I oI C oC D m₂ zs h tk E' hkm hC hx F' N' off0 ne hmk
    clear ne
    k_steps
  case fin =>
  clear F' N'
  show ∀ ys, _
  intro ov hov
  replace hov : IntsAre ov [Int.fmod f3 3 + 2, Int.fmod f4 3 + 2, Int.fmod f4 3 + 2] := hov
  clear hcv
  unfold LCg.FinA
  intro O hO tkO F' N' oO
  simp only [LCg.Off1, and_true] at oO
  dsimp only
  replace N' : News g L hO [(O, LCg.lst ov), (S, LCg.lst sv), (D, listOf (List.toArray fv) 0), (74, tabObj #[]), (69, tabObj #[])] := by repeat' (first | exact News.nil | refine news_one N' (by k_mem) ?_)
  have n4 : NEs S O := ⟨oO.2.2.2.1⟩
  have n5 : NEs D O := ⟨oO.2.2.2.2.1⟩
  have n6 : NEs 74 O := ⟨oO.2.2.2.2.2.1⟩
  have n7 : NEs 69 O := ⟨oO.2.2.2.2.2.2⟩
  clear oO hIa hIb
  k_steps
  refine Hold.of ?_
  rename Fr _ _ _ _ => F'; rename News _ _ _ _ => N'
  rename IntsAre _ (List.drop 5 _) => hIa
  replace hIa : IntsAre _ [f5, f6] := hIa
  refine LCg.CompSrc.ledger rfl F' N' (.head _) (by rw [List.size_toArray, PySem.sizeLine_eq, hIa.length]; simp) ?_
  intro gx
  refine kcf_list (fun x => Int.fmod x 3) hIa ?turn ?fin
  case turn =>
    clear F' N'
    intro k tt I oI C oC D m₂ zs h tk E' hkm hC hx F' N' off0 ne hmk
    clear ne
    k_steps
  case fin =>
  clear F' N'
  show ∀ ys, _
  intro pv hpv
  replace hpv : IntsAre pv [Int.fmod f5 3, Int.fmod f6 3] := hpv
  clear hIa
  unfold LCg.FinA
  intro P hP tkP F' N' oP
  simp only [LCg.Off1, and_true] at oP
  dsimp only
  replace N' : News g L hP [(P, LCg.lst pv), (O, LCg.lst ov), (S, LCg.lst sv), (D, listOf (List.toArray fv) 0), (74, tabObj #[]), (69, tabObj #[])] := by repeat' (first | exact News.nil | refine news_one N' (by k_mem) ?_)
  have n8 : NEs O P := ⟨oP.2.1⟩
  have n9 : NEs S P := ⟨oP.2.2.1⟩
  have n10 : NEs D P := ⟨oP.2.2.2.1⟩
  have n11 : NEs 74 P := ⟨oP.2.2.2.2.1⟩
  have n12 : NEs 69 P := ⟨oP.2.2.2.2.2⟩
  clear oP
  k_steps
  refine Hold.of ?_
  rename Fr _ _ _ _ => F'; rename News _ _ _ _ => N'
  rename IntsAre _ (List.drop 5 _) => hIa
  replace hIa : IntsAre _ [f5, f6] := hIa
  refine LCg.CompSrc.ledger rfl F' N' (.head _) (by rw [List.size_toArray, PySem.sizeLine_eq, hIa.length]; simp) ?_
  intro gx
  refine kcf_list (fun x => Int.fmod (Int.fdiv x 3) 2) hIa ?turn ?fin
  case turn =>
    clear F' N'
    intro k tt I oI C oC D m₂ zs h tk E' hkm hC hx F' N' off0 ne hmk
    clear ne
    k_steps
  case fin =>
  clear F' N'
  show ∀ ys, _
  intro gv hgv
  replace hgv : IntsAre gv [Int.fmod (Int.fdiv f5 3) 2, Int.fmod (Int.fdiv f6 3) 2] := hgv
  clear hIa
  unfold LCg.FinA
  intro G hG tkG F' N' oG
  simp only [LCg.Off1, and_true] at oG
  dsimp only
  replace N' : News g L hG [(G, LCg.lst gv), (P, LCg.lst pv), (O, LCg.lst ov), (S, LCg.lst sv), (74, tabObj #[]), (69, tabObj #[])] := by repeat' (first | exact News.nil | refine news_one N' (by k_mem) ?_)
  have n13 : NEs P G := ⟨oG.2.1⟩
  have n14 : NEs O G := ⟨oG.2.2.1⟩
  have n15 : NEs S G := ⟨oG.2.2.2.1⟩
  have n16 : NEs 74 G := ⟨oG.2.2.2.2.2.1⟩
  have n17 : NEs 69 G := ⟨oG.2.2.2.2.2.2⟩
  clear oG
  k_steps
  refine Hold.of ?_
  rename Fr _ _ _ _ => F'; rename News _ _ _ _ => N'

  repeat (with_reducible rename _ ∧ _ => hh; clear hh)
  repeat (with_reducible rename List.length _ = _ => hh; clear hh)
  repeat (with_reducible rename List.length _ ≤ List.length _ => hh; clear hh)
  obtain ⟨a, ha, ha2⟩ := fm3' f0
  obtain ⟨b, hb, hb2⟩ := fm3' f1
  obtain ⟨c, hc, hc2⟩ := fm3' f2
  obtain ⟨d, hd, hd2⟩ := fm3' f3
  obtain ⟨e, he, he2⟩ := fm3' f4
  obtain ⟨p0, hp0, hp02⟩ := fm3 f5
  obtain ⟨p1, hp1, hp12⟩ := fm3 f6
  obtain ⟨q0, hq0, hq02⟩ := fm2 (Int.fdiv f5 3)
  obtain ⟨q1, hq1, hq12⟩ := fm2 (Int.fdiv f6 3)
  rw [ha, hb, hc] at hsv
  rw [hd, he] at hov
  rw [hp0, hp1] at hpv
  rw [hq0, hq1] at hgv
  clear ha hb hc hd he hp0 hp1 hq0 hq1 hfv
  refine cut_list ([(a : Int), (b : Int), (c : Int)] ++ tail1 sc.length) F' N' ?walk ?_
  case walk =>
    k_steps
    all_goals (try refine Hold.of ?_)
    all_goals (rename Fr _ _ _ _ => F'; rename News _ _ _ _ => N')
    all_goals (rename Int.fmod _ 2 = _ => hk; rw [Int.fmod_eq_emod_of_nonneg _ (by omega)] at hk)
    · refine kmk_add_ints F' N' (News.isList N' (.tail _ (.tail _ (.tail _ (.tail _ (.tail _ (.tail _ (.head _)))))))) (News.isList N' (.tail _ (.tail _ (.head _)))) hsv (.cons _ _ (.cons _ _ .nil)) ?_ ?zzz
      case zzz => rw [PySem.sizeLine_eq]; simp
      intro D us h F2 N2 l hi
      refine ⟨D, us, _, _, rfl, rfl, F2, ?_, ?_, ?_⟩
      · repeat' (first | exact News.nil | refine news_one N2 (by k_mem) ?_)
      · rw [show tail1 sc.length = [127, 3] from if_pos (by omega)]; exact hi
      · exact ⟨l _ (by k_mem), l _ (by k_mem), l _ (by k_mem), l _ (by k_mem), l _ (by k_mem), l _ (by k_mem), trivial⟩
    · refine kmk_add_ints F' N' (News.isList N' (.tail _ (.tail _ (.tail _ (.tail _ (.tail _ (.tail _ (.head _)))))))) (News.isList N' (.tail _ (.head _))) hsv .nil ?_ ?zzz
      case zzz => rw [PySem.sizeLine_eq]; simp
      intro D us h F2 N2 l hi
      refine ⟨D, us, _, _, rfl, rfl, F2, ?_, ?_, ?_⟩
      · repeat' (first | exact News.nil | refine news_one N2 (by k_mem) ?_)
      · rw [show tail1 sc.length = [] from if_neg (by omega)]; exact hi
      · exact ⟨l _ (by k_mem), l _ (by k_mem), l _ (by k_mem), l _ (by k_mem), l _ (by k_mem), l _ (by k_mem), trivial⟩
  clear F' N'
  intro D3 us h3 tk3 F' N' hus l3
  simp only [AllLt, and_true] at l3
  k_steps
  refine Hold.of ?_
  rename Fr _ _ _ _ => F'; rename News _ _ _ _ => N'

  refine con_useG (told1_con w D3 us a b c sc.length ha2 hb2 hc2 hus) K0 F' X0 N' T0 rfl rfl rfl rfl ?h5 ?h6 ?h7 ?_
  case h7 => exact ⟨_, (N' _ (.head _)).1, rfl, _, rfl⟩
  case h5 => exact dep_ok (by omega)
  case h6 => exact unit_ok (by omega)
  clear F' N'
  rintro T1 us1 c1 h4 tk4 x1 F' N' hne - hus1 hx1
  have m1 := hne _ (.tail _ (.head _))
  have m2 := hne _ (.tail _ (.tail _ (.head _)))
  have m3 := hne _ (.tail _ (.tail _ (.tail _ (.head _))))
  have m4 := hne _ (.tail _ (.tail _ (.tail _ (.tail _ (.head _)))))
  have m5 := hne _ (.tail _ (.tail _ (.tail _ (.tail _ (.tail _ (.head _))))))
  have m6 := hne _ (.tail _ (.tail _ (.tail _ (.tail _ (.tail _ (.tail _ (.head _)))))))
  clear hne l3 hus
  replace N' : News g L h4 [(T1, listOf (List.toArray us1) c1), (G, LCg.lst gv), (P, LCg.lst pv), (O, LCg.lst ov), (S, LCg.lst sv), (74, tabObj #[]), (69, tabObj #[])] := by repeat' (first | exact News.nil | refine news_one N' (by k_mem) ?_)

  k_steps
  refine Hold.of ?_
  rename Fr _ _ _ _ => F'; rename News _ _ _ _ => N'
  with_reducible rename IntsAre _ (List.take 2 _) => hIa
  replace hIa : IntsAre _ [(d : Int), (e : Int)] := hIa
  refine kmk_add_ints F' N' (News.isList N' (.tail _ (.head _))) (News.isList N' (.head _)) hIa (.cons _ _ (.cons _ _ .nil)) ?_ ?zzz
  case zzz => rw [PySem.sizeLine_eq]; simp
  clear F' N'
  intro D4 cv4 h4b F' N' l4 hcv
  replace hcv : IntsAre _ [(d : Int), (e : Int), 0, 9] := hcv
  clear l4 hIa
  repeat (with_reducible rename _ < _ ∧ _ => hh; clear hh)
  k_steps
  refine Hold.of ?_
  rename Fr _ _ _ _ => F'; rename News _ _ _ _ => N'
  refine con_useG (told2_con w D4 _ d e hd2 he2 hcv) K0 F' X0 N' T0 rfl rfl rfl rfl ?h5 ?h6 ?h7 ?_
  case h7 => exact ⟨_, (N' _ (.head _)).1, rfl, _, rfl⟩
  case h5 => exact dep_ok (by omega)
  case h6 => exact unit_ok (by omega)
  clear F' N'
  rintro T2 us2 c2 h5 tk5 x2 F' N' hne - hus2 hx2
  have m7 := hne _ (.tail _ (.tail _ (.tail _ (.head _))))
  have m8 := hne _ (.tail _ (.tail _ (.tail _ (.tail _ (.head _)))))
  have m9 := hne _ (.tail _ (.tail _ (.tail _ (.tail _ (.tail _ (.head _))))))
  have m10 := hne _ (.tail _ (.tail _ (.tail _ (.tail _ (.tail _ (.tail _ (.head _)))))))
  have m11 := hne _ (.tail _ (.tail _ (.tail _ (.tail _ (.tail _ (.tail _ (.tail _ (.head _))))))))
  have m12 := hne _ (.tail _ (.tail _ (.tail _ (.tail _ (.tail _ (.tail _ (.tail _ (.tail _ (.head _)))))))))
  have m13 := hne _ (.tail _ (.tail _ (.tail _ (.tail _ (.tail _ (.tail _ (.tail _ (.tail _ (.tail _ (.head _))))))))))
  clear hne hcv
  replace N' : News g L h5 [(T2, listOf (List.toArray us2) c2), (T1, listOf (List.toArray us1) c1), (G, LCg.lst gv), (P, LCg.lst pv), (O, LCg.lst ov), (S, LCg.lst sv), (74, tabObj #[]), (69, tabObj #[])] := by repeat' (first | exact News.nil | refine news_one N' (by k_mem) ?_)

  k_steps
  refine Hold.of ?_
  rename_i TD h6 F' N' l1
  have sn1 : Seen 1 := ⟨⟩
  k_steps
  refine Hold.of ?_
  rename Fr _ _ _ _ => F'; rename News _ _ _ _ => N'
  with_reducible rename IntsAre _ (List.drop 2 _) => hIa
  replace hIa : IntsAre _ [(e : Int)] := hIa
  refine KMa.mul F' N' (News.isList N' (.head _)) (by decide) (by decide) (by rw [hIa.length]; exact (by decide : 1 * 2 ≤ 256)) rfl ?_
  clear F' N'
  intro D5 h6 F' N' l5
  have hI5 := IntsAre.append hIa (IntsAre.append hIa .nil)
  k_lt l5
  k_steps
  refine Hold.of ?_
  rename Fr _ _ _ _ => F'; rename News _ _ _ _ => N'
  refine kmk_add_ints F' N' (News.isList N' (.tail _ (.tail _ (.tail _ (.tail _ (.tail _ (.tail _ (.tail _ (.head _))))))))) (News.isList N' (.head _)) hov hI5 ?_ ?zzz
  case zzz => rw [PySem.sizeLine_eq]; simp
  clear F' N'
  intro D6 cv6 h6 F' N' l6 hcv6
  replace hcv6 : IntsAre _ [(d : Int), (e : Int), (e : Int), (e : Int), (e : Int)] := hcv6
  clear hIa hI5
  k_lt l6
  k_steps
  refine Hold.of ?_
  rename Fr _ _ _ _ => F'; rename News _ _ _ _ => N'
  refine ne_two N' (.tail _ (.tail _ (.tail _ (.tail _ (.head _))))) (.head _) (.tail _ (.tail _ (.tail _ (.tail _ (.tail _ (.tail _ (.head _))))))) (.tail _ (.tail _ (.tail _ (.tail _ (.tail _ (.head _)))))) (.tail _ (.tail _ (.tail _ (.tail _ (.tail _ (.tail _ (.tail _ (.tail _ (.tail _ (.tail _ (.head _))))))))))) (.tail _ (.head _)) hus1 hus2 hsv hcv6 unit64 ?_
  clear hcv6
  rename_i lq hq l1q
  replace N' : News g L hq [(TD, listOf #[.ref T1, .ref T2] 0), (T2, listOf (List.toArray us2) c2), (T1, listOf (List.toArray us1) c1), (G, LCg.lst gv), (P, LCg.lst pv), (O, LCg.lst ov), (S, LCg.lst sv), (74, tabObj #[]), (69, tabObj #[])] := by repeat' (first | exact News.nil | refine news_one N' (by k_mem) ?_)
  k_steps
  refine Hold.of ?_
  rename Fr _ _ _ _ => F'; rename News _ _ _ _ => N'
  have N2 : News g L _ ([_, _, _, _, _, _, _] ++ tabs #[] #[] []) := N'
  refine con_useT' (wordr_con w T1 us1 a b c _ hus1 ha2 hb2 hc2) K0 F' X0 N2 T0 C1 C2 TabSt.start ?hown rfl rfl rfl rfl ?h5 ?h6 (fun g' _ hg => hid_list N2 TabSt.start (fun q hq => List.mem_append_right _ hq) (.tail _ (.tail _ (.head _))) hg) ?_
  case hown => exact own_off N2 ⟨nf_seq rfl, nf_seq rfl, nf_seq rfl, nf_seq rfl, nf_seq rfl, nf_seq rfl, nf_seq rfl, trivial⟩
  case h5 => exact dep_ok (by omega)
  case h6 => exact unit_ok (by omega)
  clear F' N' N2
  rintro v' h' tk' p1a p2a exa hTa hxa F' N' ⟨tw0, rfl⟩
  simp only [List.cons_append, List.nil_append, tabs] at N'
  k_steps
  refine Hold.of ?_
  rename Fr _ _ _ _ => F'; rename News _ _ _ _ => N'
  have N2 : News g L _ ([_, _, _, _, _, _, _] ++ tabs p1a p2a exa) := N'
  refine con_useT' (wordl_con w T2 us2 d e e _ _ _ hus2 hd2 he2 he2) K0 F' X0 N2 T0 C1 C2 hTa ?hown rfl rfl rfl rfl ?h5 ?h6 (fun g' _ hg => hid_list N2 hTa (fun q hq => List.mem_append_right _ hq) (.tail _ (.head _)) hg) ?_
  case hown => exact own_off N2 ⟨nf_seq rfl, nf_seq rfl, nf_seq rfl, nf_seq rfl, nf_seq rfl, nf_seq rfl, nf_seq rfl, trivial⟩
  case h5 => exact dep_ok (by omega)
  case h6 => exact unit_ok (by omega)
  clear F' N' N2
  rintro v' h' tk' p1b p2b exb hTb hxb F' N' ⟨tw1, rfl⟩
  simp only [List.cons_append, List.nil_append, tabs] at N'
  k_steps
  refine Hold.of ?_
  rename_i WD h7 F' N' l1
  have sn2 : Seen 2 := ⟨⟩
  obtain ⟨w0, hw0⟩ : ∃ w0, w0 = wordOf a b c := ⟨_, rfl⟩
  obtain ⟨w1, hw1⟩ : ∃ w1, w1 = wordOf d e e := ⟨_, rfl⟩
  replace N' : News g L h7 ((WD, listOf #[.str ⟨(wordOf a b c).toArray⟩ tw0, .str ⟨(wordOf d e e).toArray⟩ tw1] 0) :: (G, LCg.lst gv) :: (P, LCg.lst pv) :: (O, LCg.lst ov) :: (S, LCg.lst sv) :: tabs p1b p2b exb) := by repeat' (first | exact fun q hq => N' q (.tail _ (.tail _ (.tail _ (.tail _ (.tail _ (.tail _ (.tail _ (.tail _ hq)))))))) | refine news_one N' (by k_mem) ?_)
  rw [← hw0, ← hw1] at N'
  simp only [tabs] at N'
  have l2 : G < WD ∧ P < WD ∧ O < WD ∧ S < WD ∧ 74 < WD ∧ 69 < WD ∧ AllLt WD exb := l1.2.2.2
  clear l1
  k_steps
  refine Hold.of ?_
  rename Fr _ _ _ _ => F'; rename News _ _ _ _ => N'
  refine LCg.CompSrc.ledger rfl F' N' (.head _) (by rw [PySem.sizeLine_eq]; exact (by decide : 2 ≤ 16777216)) ?_
  intro gx
  refine rest_inv (fun i ys => StrsAre ys (([⟨w0.toArray⟩, ⟨w1.toArray⟩] : List Str).take i)) (.inr ⟨_, (.head _), rfl, _, rfl⟩) ?turn ?fin _ 0 [] rfl .nil
  case turn =>
    clear F' N'
    intro i ys v I oI C oC D m₂ h tk E' hi hv hC hx F' N' off0 ne hJ
    clear ne
    obtain rfl | rfl : i = 0 ∨ i = 1 := by have : i < 2 := hi; omega
    · obtain rfl : Value.ref S = v := by simpa using hv
      k_steps
      rename Fr _ _ _ _ => F'; rename News _ _ _ _ => N'
      exact CT.intro F' N' (fun p hp => hp) (by rw [hw0]; exact kct_snoc hJ)
    · obtain rfl : Value.ref O = v := by simpa using hv
      k_steps
      rename Fr _ _ _ _ => F'; rename News _ _ _ _ => N'
      refine CT.intro F' N' (fun p hp => hp) ?_
      rw [hw1]
      exact kct_snoc hJ
  case fin =>
  clear F' N'
  intro ys hJ
  k_steps
  refine Hold.of ?_
  rename Fr _ _ _ _ => F'; rename News _ _ _ _ => N'
  replace hJ : StrsAre ys [⟨w0.toArray⟩, ⟨w1.toArray⟩] := hJ
  refine ne_words N' (.tail _ (.tail _ (.head _))) (.head _) hJ (by rw [hw0]; exact wordOf_lt _ _ _) (by rw [hw1]; exact wordOf_lt _ _ _) unit64 ?_
  clear hJ
  rename_i dq hq tq oq
  replace N' : News g L hq ((WD, listOf #[.str ⟨w0.toArray⟩ tw0, .str ⟨w1.toArray⟩ tw1] 0) :: (G, LCg.lst gv) :: (P, LCg.lst pv) :: (O, LCg.lst ov) :: (S, LCg.lst sv) :: (74, tabObj p1b) :: (69, tabObj p2b) :: exb) := fun q hq => N' q (.tail _ (.tail _ hq))
  clear oq
  k_steps
  refine Hold.of ?_
  rename IsRange _ _ _ _ _ _ _ _ => rgX
  rename Fr _ _ _ _ => F'; rename News _ _ _ _ => N'
  obtain ⟨tp0, tp1, rfl⟩ := ints2 hpv
  obtain ⟨tg0, tg1, rfl⟩ := ints2 hgv
  refine for_rgM (σ := LwS) (n := 3) (fun st => (WD, listOf #[.str ⟨w0.toArray⟩ tw0, .str ⟨w1.toArray⟩ tw1] 0) :: (G, LCg.lst [.int (q0 : Int) tg0, .int (q1 : Int) tg1]) :: (P, LCg.lst [.int (p0 : Int) tp0, .int (p1 : Int) tp1]) :: (O, LCg.lst ov) :: (S, LCg.lst sv) :: tabs st.p1 st.p2 st.exs)
    (upT2 (Str.ofString "words") (fun _ => .ref WD) (Str.ofString "greats") (fun _ => .ref G) [Str.ofString "runs", Str.ofString "amount", Str.ofString "bounds"] LwS.e _)
    (fun _ st => TabSt st.p1 st.p2 st.exs) ⟨p1b, p2b, exb, _⟩ ?hni rfl rgX (small_one (by omega) (by omega) (by omega) (by omega)) (by decide) (Fr_end2s F' rfl rfl) (fun q hq => N' q (by first | exact hq | exact .tail _ hq)) hTb ?turn ?done
  case hni =>
    intro i st hT q hq
    rcases List.mem_cons.mp hq with rfl | hq
    · intro a b c e; cases e
    rcases List.mem_cons.mp hq with rfl | hq
    · intro a b c e; cases e
    rcases List.mem_cons.mp hq with rfl | hq
    · intro a b c e; cases e
    rcases List.mem_cons.mp hq with rfl | hq
    · intro a b c e; cases e
    rcases List.mem_cons.mp hq with rfl | hq
    · intro a b c e; cases e
    exact hT.notIt q hq
  case turn =>
    clear F' N' rgX
    rintro i ⟨p1c, p2c, exc, ec⟩ h tk own tj hi hoff hTc F' N'
    delta upT2 at F'
    dsimp only [List.cons_append, List.nil_append, tabs] at hTc hoff F' N' ⊢
    replace F' : Fr g L h _ := F'
    replace N' : News g L h _ := N'
    k_steps
    refine Hold.of ?_
    refine store_as (amOf_eq hi) ?_
    dsimp only
    k_steps
    refine Hold.of ?_
    rename Fr _ _ _ _ => F'; rename News _ _ _ _ => N'
    refine wpAny_Assign_Name ?_
    dsimp only
    have sn4 : Seen 4 := ⟨⟩
    refine cut_list (boOf sc.length i) F' N' ?walkb ?_
    case walkb =>
      k_steps
      refine Hold.of ?_
      refine IfExp_ ?_
      k_steps
      all_goals (try refine Hold.of ?_)
      all_goals (rename Fr _ _ _ _ => F'; rename News _ _ _ _ => N')
      all_goals dsimp only at N' ⊢
      · rename 1 + _ = _ => hk
        rw [Int.fmod_eq_emod_of_nonneg _ (by omega)] at hk
        refine kba_turn (value' := PySem.Expr.Name (PySem.Str.ofString "_") ⟨0, 0, 0, 0⟩) (fun _ => rfl) ?_
        refine' kmk_slice_ints (s := ⟨_, _, _, _, _⟩) F' N' ?sl ?sp ?sq ?si ?sm ?sc ?_ ?ss ?st ?sz
        case sl => exact News.isList N' (.head _)
        case sp => exact IsPart.none
        case sq => exact IsPart.int _ _
        case si => exact IntsAre.cons _ _ .nil
        case sm => exact kmk_upto (y := 1) (IntsAre.cons _ _ .nil) (by decide)
        case sc => exact rfl
        case ss => with_unfolding_all rfl
        case st => kmk_pure
        case sz => rw [PySem.sizeLine_eq]; exact (by decide : 1 ≤ 16777216)
        clear F' N'
        rintro D7 ws7 h7' F' N' l7 hi7 - -
        dsimp only
        k_steps
        refine Hold.of ?_
        rename Fr _ _ _ _ => F'; rename News _ _ _ _ => N'
        refine kmk_add_ints F' N' (News.isList N' (.tail _ (.tail _ (.head _)))) (News.isList N' (.head _)) (.cons _ _ .nil) hi7 ?_ ?sy
        case sy => rw [PySem.sizeLine_eq]; exact (by decide : 1 + 1 ≤ 16777216)
        intro D8 us8 h8' F2 N2 l hi8
        refine ⟨D8, us8, _, _, rfl, rfl, F2, news_one N2 (.head _) (fun q hq => N2 q (.tail _ (.tail _ (.tail _ (.tail _ hq))))), ?_, allLt_of (fun q hq => l q (.tail _ (.tail _ (.tail _ hq))))⟩
        rw [boOf, if_pos (by omega), ← boOf_eq]
        exact hi8
      · rename 1 + _ ≠ _ => hk
        rw [Int.fmod_eq_emod_of_nonneg _ (by omega)] at hk
        refine kba_turn (value' := PySem.Expr.Name (PySem.Str.ofString "_") ⟨0, 0, 0, 0⟩) (fun _ => rfl) ?_
        refine' kmk_slice_ints (s := ⟨_, _, _, _, _⟩) F' N' ?sl2 ?sp2 ?sq2 ?si2 ?sm2 ?sc2 ?_ ?ss2 ?st2 ?sz2
        case sl2 => exact News.isList N' (.head _)
        case sp2 => exact IsPart.none
        case sq2 => exact IsPart.int _ _
        case si2 => exact IntsAre.cons _ _ .nil
        case sm2 => exact kmk_upto (y := 0) (IntsAre.cons _ _ .nil) (by decide)
        case sc2 => exact rfl
        case ss2 => with_unfolding_all rfl
        case st2 => kmk_pure
        case sz2 => rw [PySem.sizeLine_eq]; exact (by decide : 1 ≤ 16777216)
        clear F' N'
        rintro D7 ws7 h7' F' N' l7 hi7 - -
        dsimp only
        k_steps
        refine Hold.of ?_
        rename Fr _ _ _ _ => F'; rename News _ _ _ _ => N'
        refine kmk_add_ints F' N' (News.isList N' (.tail _ (.tail _ (.head _)))) (News.isList N' (.head _)) (.cons _ _ .nil) hi7 ?_ ?sy2
        case sy2 => rw [PySem.sizeLine_eq]; exact (by decide : 1 + 0 ≤ 16777216)
        intro D8 us8 h8' F2 N2 l hi8
        refine ⟨D8, us8, _, _, rfl, rfl, F2, news_one N2 (.head _) (fun q hq => N2 q (.tail _ (.tail _ (.tail _ (.tail _ hq))))), ?_, allLt_of (fun q hq => l q (.tail _ (.tail _ (.tail _ hq))))⟩
        rw [boOf, if_neg (by omega), ← boOf_eq]
        exact hi8
    clear F' N'
    intro BD bv h8 tk8 F' N' hbv l8
    simp only [AllLt] at l8
    dsimp only
    k_steps
    refine Hold.of ?_
    rename Fr _ _ _ _ => F'; rename News _ _ _ _ => N'
    have e1 : ((1 : Int) + (i : Int)).toNat = i + 1 := by omega
    with_reducible rename IntsAre _ (List.take _ [(d : Int), _, _]) => hOT
    with_reducible rename IntsAre _ (List.take _ [(a : Int), _, _]) => hSO
    rw [e1] at hOT hSO
    rename_i SD vS hSh hc1 hl1 l1a OD vO hOh hc2 hl2 l1b
    clear hc1 hl1 l1a hc2 hl2 l1b
    have N8 : News g L _ ([_, _, _, _, _, _, _, _] ++ tabs p1c p2c (exc ++ own)) := N'
    have N2 : News g L _ (([(OD, listOf (List.toArray vO) 0), (SD, listOf (List.toArray vS) 0), (BD, listOf (List.toArray bv) 0), (WD, listOf #[.str ⟨w0.toArray⟩ tw0, .str ⟨w1.toArray⟩ tw1] 0), (G, LCg.lst [.int (q0 : Int) tg0, .int (q1 : Int) tg1]), (P, LCg.lst [.int (p0 : Int) tp0, .int (p1 : Int) tp1]), (O, LCg.lst ov), (S, LCg.lst sv)] ++ own) ++ tabs p1c p2c exc) := fun q hq => N8 q (mem_mid hq)
    have K := plain_ok sc.length i a b c d e p0 p1 q0 q1 hi ha2 hb2 hc2 hd2 he2 hp02 hp12 hq02 hq12
    rw [← hw0, ← hw1] at K
    have hwl : w0.length ≤ 12 ∧ w1.length ≤ 12 := by rw [hw0, hw1, wordOf_len, wordOf_len]; omega
    have hln : ∀ x y z : Int, (List.take (i + 1) [x, y, z]).length = i + 1 := fun x y z => by rw [List.length_take]; simp; omega
    refine con_useT' (front_con w WD SD OD P G BD w0 w1 tw0 tw1 vS vO bv _ _ _ p0 p1 (q0 : Int) (q1 : Int) _ tp0 tp1 tg0 tg1 _ (i + 1) hSO hOT hbv ⟨by omega, by omega⟩ (hln _ _ _) (hln _ _ _) boOf_len hp02 hp12 ⟨by omega, by omega⟩ ⟨by omega, by omega⟩ amOf_in hwl.1 hwl.2 K.hsO K.hsS (by rw [hw1]; exact wordOf_lt _ _ _) K.hB0 K.hpb K.hway boOf_in K.hdb (by rw [hw0]; exact wordOf_lt _ _ _) K.hlev)
      K0 F' X0 N2 T0 C1 C2 hTc ?hown rfl rfl rfl rfl ?h5 ?h6 (fun g' _ hg => ⟨hid_list N2 hTc (fun q hq => List.mem_append_right _ hq) (List.mem_append_left _ (List.mem_append_left _ (.tail _ (.tail _ (.tail _ (.head _)))))) hg, hid_list N2 hTc (fun q hq => List.mem_append_right _ hq) (List.mem_append_left _ (List.mem_append_left _ (.tail _ (.head _)))) hg, hid_list N2 hTc (fun q hq => List.mem_append_right _ hq) (List.mem_append_left _ (List.mem_append_left _ (.head _))) hg, hid_list N2 hTc (fun q hq => List.mem_append_right _ hq) (List.mem_append_left _ (List.mem_append_left _ (.tail _ (.tail _ (.tail _ (.tail _ (.tail _ (.head _)))))))) hg, hid_list N2 hTc (fun q hq => List.mem_append_right _ hq) (List.mem_append_left _ (List.mem_append_left _ (.tail _ (.tail _ (.tail _ (.tail _ (.head _))))))) hg, hid_list N2 hTc (fun q hq => List.mem_append_right _ hq) (List.mem_append_left _ (List.mem_append_left _ (.tail _ (.tail _ (.head _))))) hg⟩) ?_
    case hown =>
      intro q hq
      rcases List.mem_append.mp hq with h | h
      · exact own_off N8 ⟨nf_seq rfl, nf_seq rfl, nf_seq rfl, nf_seq rfl, nf_seq rfl, nf_seq rfl, nf_seq rfl, nf_seq rfl, trivial⟩ q h
      · exact ⟨hoff q h (74, tabObj p1c) (.tail _ (.tail _ (.tail _ (.tail _ (.tail _ (.head _)))))), hoff q h (69, tabObj p2c) (.tail _ (.tail _ (.tail _ (.tail _ (.tail _ (.tail _ (.head _)))))))⟩
    case h5 => exact dep_ok (by omega)
    case h6 => exact unit_ok (by omega)
    clear F' N' N2 N8
    rintro v' h' tk' p1d p2d exd hTd hxd F' N' rfl
    simp only [List.cons_append, List.nil_append, tabs] at N'
    k_steps
    rename Fr _ _ _ _ => F'; rename News _ _ _ _ => N'
    obtain ⟨mm, hmm, F'⟩ := name_fr F'
    refine TE.intro ⟨p1d, p2d, exd, mm⟩ (Fr_end2 F' (congrFun hmm _) (congrFun hmm _) ?_) N' ?_ ?_ hTd
    · intro y ya yb yd
      rw [hmm]
      simp only [if_neg ya, if_neg yb, if_neg (tmpc yd (x := Str.ofString "runs") (by decide)), if_neg (tmpc yd (x := Str.ofString "amount") (by decide)), if_neg (tmpc yd (x := Str.ofString "bounds") (by decide)), if_neg yd]
    · intro q hq
      simp only [List.mem_cons, List.mem_append, tabs] at hq ⊢
      rcases hq with h | h | h | h | h | h | h | h <;> simp [h]
    · intro q hq
      simp [hq]
  case done =>
    clear F' N' rgX
    rintro ⟨p1c, p2c, exc, ec⟩ h tk hTc F' N'
    delta upT2 at F'
    dsimp only [tabs] at hTc F' N' ⊢
    replace F' : Fr g L h _ := F'
    replace N' : News g L h _ := N'
    k_steps
    rename Fr _ _ _ _ => F'; rename News _ _ _ _ => N'
    exact hret _ _ _ _ _ _ _ F' (fun q hq => N' q (.tail _ (.tail _ (.tail _ (.tail _ (.tail _ hq)))))) ((hg0.push hx1).push hx2))

end

end Tc
end

end

theorem PySem.Challenge.cw_tc0007_01_holds : PySem.Challenge.rw_tc0007_01.Holds := by
  exact Tc.law_top
