import PyProof.Rows.All
import Wide.All
import OpenK.AllK
import Wide.FinOn
import Lean
import PySem.Challenge.RW_xb0022_02
set_option Elab.async false
set_option maxRecDepth 100000
set_option linter.all false
set_option compiler.extract_closed false
section
open PySem PySem.W PyProof.Rows
set_option maxHeartbeats 8000000
#guard_msgs (drop all) in
lay_quick_some 2 Mine.noName
#guard_msgs (drop all) in
lay_quick PySem.W.namesOk
namespace Mine
open_top hd2 for PySem.Challenge.rw_xb0022_02
end Mine
#guard_msgs (drop all) in
lay_quick_some 1000000 PySem.W.namesOk
namespace Mine
theorem walk_off : True := by
  w_top off
  trivial
end Mine
end
section
open PySem PySem.W PyProof.Rows
namespace Mine
/-- marks: a step of ours; a step not of ours -/
inductive Own (P : Prop) : Prop | mk : P → Own P
theorem Own.of {P : Prop} (h : Own P) : P := let ⟨q⟩ := h; q
inductive NoOwn : Prop | mk
theorem len_cons {α : Type} {l : List α} {n : Nat} (h : l.length = n + 1) : ∃ a r, l = a :: r ∧ r.length = n := by
  cases l with
  | nil => cases h
  | cons a r => exact ⟨a, r, rfl, Nat.succ.inj h⟩
theorem len_two {α : Type} {l : List α} (h : l.length = 2) : ∃ a b, l = [a, b] := by
  obtain ⟨a, r, e, h1⟩ := len_cons h
  obtain ⟨b, r2, e2, h2⟩ := len_cons h1
  exact ⟨a, b, by rw [e, e2, List.eq_nil_of_length_eq_zero h2]⟩
theorem len_four {α : Type} {l : List α} (h : l.length = 4) : ∃ a b c d, l = [a, b, c, d] := by
  obtain ⟨a, r, e, h1⟩ := len_cons h
  obtain ⟨b, r2, e2, h2⟩ := len_cons h1
  obtain ⟨c, d, e3⟩ := len_two h2
  exact ⟨a, b, c, d, by rw [e, e2, e3]⟩
def S (l : List Nat) : PySem.Str := ⟨l.toArray⟩
theorem S_list (l : List Nat) : (S l).cps.toList = l := by simp [S]
theorem S_of (x : PySem.Str) : S x.cps.toList = x := by simp [S]
theorem S_app (a b : List Nat) : S a ++ S b = S (a ++ b) := by
  refine PySem.Str.ext' ?_
  rw [PySem.Str.cps_append]
  simp [S]
theorem S_len (l : List Nat) : (S l).length = l.length := by simp [S, PySem.Str.length]
theorem S_inj {a b : List Nat} (h : S a = S b) : a = b := by
  have := congrArg (fun x => x.cps.toList) h
  simpa [S] using this
theorem len_list (x : PySem.Str) : x.cps.toList.length = x.length := by simp [PySem.Str.length]
theorem slice_to {x : PySem.Str} {j : Nat} (h : j ≤ x.length) : Txt.slice x none (some (j : Int)) = S (x.cps.toList.take j) := by
  have := slice_closes_toL (x := x) (j := (j : Int)) (by (first | lia | omega)) (by (first | lia | omega))
  have e := eq_of_beq this
  rw [e]
  simp [S]
theorem slice_mid {x : PySem.Str} {i j : Nat} (h1 : i ≤ j) (h : j ≤ x.length) : Txt.slice x (some (i : Int)) (some (j : Int)) = S ((x.cps.toList.drop i).take (j - i)) := by
  have := slice_closesL (x := x) (i := (i : Int)) (j := (j : Int)) (by (first | lia | omega)) (by (first | lia | omega)) (by (first | lia | omega))
  have e := eq_of_beq this
  rw [e]
  simp only [S, Int.toNat_natCast]
  rw [show ((j : Int) - (i : Int)).toNat = j - i by (first | lia | omega)]
theorem slice_from {x : PySem.Str} {i : Nat} (h : i ≤ x.length) : Txt.slice x (some (i : Int)) none = S (x.cps.toList.drop i) := by
  have := slice_closes_fromL (x := x) (i := (i : Int)) (b := (x.length : Int)) (by (first | lia | omega)) (by (first | lia | omega)) rfl
  have e := eq_of_beq this
  rw [e]
  simp only [S, Int.toNat_natCast]
  rw [List.take_of_length_le (by rw [List.length_drop, len_list]; (first | lia | omega))]
theorem lit257 : PySem.Str.ofString "257" = S [50, 53, 55] := by decide +kernel
theorem litSQ : PySem.Str.ofString " \"" = S [32, 34] := by decide +kernel
theorem litQ : PySem.Str.ofString "\"" = S [34] := by decide +kernel
theorem lit0 : PySem.Str.ofString "" = S [] := by decide +kernel
theorem bne_true {a b : PySem.Str} : (a != b) = true ↔ a ≠ b := bne_iff_ne
theorem bne_false {a b : PySem.Str} : (a != b) = false ↔ a = b := by simp [bne]
theorem item_at {x : PySem.Str} {i : Int} (h0 : 0 ≤ i) (h1 : i < x.length) : Txt.item x i = S [x.cps.toList.getD i.toNat 0] := by
  have h2 : i.toNat < x.cps.size := by have : x.length = x.cps.size := rfl; (first | lia | omega)
  have : seqIndex? i x.length = some i.toNat := by
    unfold seqIndex?
    have : ¬ i < 0 := by (first | lia | omega)
    simp [this, h0, h1]
  unfold Txt.item Txt.charAt
  rw [this]
  simp [S, h2]

def pgo : List Nat → List Nat
  | [] => []
  | [c] => if c = 34 then [] else [c]
  | c :: c' :: r => if c = 34 then (if c' = 34 then 34 :: pgo r else []) else c :: pgo (c' :: r)
def parseF (x : PySem.Str) : PySem.Str := if (x.cps.toList.drop 3).take 2 = [32, 34] then S (pgo (x.cps.toList.drop 5)) else S []
def PI (x : PySem.Str) (i : Int) (d : PySem.Str) : Prop := d.cps.toList ++ pgo (x.cps.toList.drop i.toNat) = pgo (x.cps.toList.drop 5)
theorem PI_init {x : PySem.Str} : PI x 5 (PySem.Str.ofString "") := by
  unfold PI; rw [lit0, S_list]; rfl
theorem PI_item {x : PySem.Str} {i : Int} (h0 : 0 ≤ i) (h1 : i < x.length) : ∃ c, Txt.item x i = S [c] ∧ x.cps.toList.drop i.toNat = c :: x.cps.toList.drop (i + 1).toNat := by
  have h2 : i.toNat < x.cps.toList.length := by rw [len_list]; (first | lia | omega)
  refine ⟨x.cps.toList[i.toNat], ?_, ?_⟩
  · rw [item_at h0 h1, List.getD_eq_getElem?_getD, List.getElem?_eq_getElem h2]; rfl
  · rw [List.drop_eq_getElem_cons h2, show (i + 1).toNat = i.toNat + 1 by (first | lia | omega)]
theorem S1_quote {c : Nat} (h : (S [c] == PySem.Str.ofString "\"") = true) : c = 34 := by
  have h := eq_of_beq h
  rw [litQ] at h
  have := S_inj h
  simpa using this
theorem S1_plain {c : Nat} (h : (S [c] == PySem.Str.ofString "\"") = false) : c ≠ 34 := by
  intro e
  subst e
  rw [litQ] at h
  simp at h
theorem pgo_plain {c : Nat} (h : c ≠ 34) (r : List Nat) : pgo (c :: r) = c :: pgo r := by
  cases r with
  | nil => simp [pgo, h]
  | cons c' r => simp [pgo, h]
theorem app_S (d : PySem.Str) (c : Nat) : (d ++ S [c]).cps.toList = d.cps.toList ++ [c] := by
  rw [PySem.Str.cps_append]; simp [S]
theorem PI_plain {x d : PySem.Str} {i : Int} (h : PI x i d) (h0 : 5 ≤ i) (h1 : i < x.length) (hq : (Txt.item x i == PySem.Str.ofString "\"") = false) : PI x (i + 1) (d ++ Txt.item x i) := by
  obtain ⟨c, e1, e2⟩ := PI_item (x := x) (i := i) (by (first | lia | omega)) h1
  unfold PI at h ⊢
  rw [e1] at hq ⊢
  rw [e2, pgo_plain (S1_plain hq)] at h
  rw [app_S, List.append_assoc]
  exact h
theorem PI_quote {x d : PySem.Str} {i : Int} (h : PI x i d) (h0 : 5 ≤ i) (h2 : i + 1 < x.length) (hq : (Txt.item x i == PySem.Str.ofString "\"") = true) (hq' : (Txt.item x (i + 1) != PySem.Str.ofString "\"") = false) : PI x (i + 1 + 1) (d ++ Txt.item x i) := by
  obtain ⟨c, e1, e2⟩ := PI_item (x := x) (i := i) (by (first | lia | omega)) (by (first | lia | omega))
  obtain ⟨c', e1', e2'⟩ := PI_item (x := x) (i := i + 1) (by (first | lia | omega)) (by (first | lia | omega))
  unfold PI at h ⊢
  rw [e1] at hq ⊢
  rw [e1', bne, Bool.not_eq_false'] at hq'
  rw [e2, e2', S1_quote hq, S1_quote hq'] at h
  rw [app_S, List.append_assoc, S1_quote hq]
  simpa [pgo] using h
theorem PI_end0 {x d : PySem.Str} {i : Int} (h : PI x i d) (h1 : ¬ i < x.length) : d = S (pgo (x.cps.toList.drop 5)) := by
  unfold PI at h
  rw [List.drop_eq_nil_of_le (by rw [len_list]; (first | lia | omega))] at h
  rw [← h]
  simp [pgo, S_of]
theorem PI_end1 {x d : PySem.Str} {i : Int} (h : PI x i d) (h0 : 5 ≤ i) (h1 : i < x.length) (hq : (Txt.item x i == PySem.Str.ofString "\"") = true) (h2 : (x.length : Int) ≤ i + 1) : d = S (pgo (x.cps.toList.drop 5)) := by
  obtain ⟨c, e1, e2⟩ := PI_item (x := x) (i := i) (by (first | lia | omega)) (by (first | lia | omega))
  unfold PI at h
  rw [e1] at hq
  rw [e2, List.drop_eq_nil_of_le (by rw [len_list]; (first | lia | omega)), S1_quote hq] at h
  rw [← h]
  simp [pgo, S_of]
theorem PI_end2 {x d : PySem.Str} {i : Int} (h : PI x i d) (h0 : 5 ≤ i) (hq : (Txt.item x i == PySem.Str.ofString "\"") = true) (h2 : i + 1 < x.length) (hq' : (Txt.item x (i + 1) != PySem.Str.ofString "\"") = true) : d = S (pgo (x.cps.toList.drop 5)) := by
  obtain ⟨c, e1, e2⟩ := PI_item (x := x) (i := i) (by (first | lia | omega)) (by (first | lia | omega))
  obtain ⟨c', e1', e2'⟩ := PI_item (x := x) (i := i + 1) (by (first | lia | omega)) (by (first | lia | omega))
  unfold PI at h
  rw [e1] at hq
  rw [e1', bne, Bool.not_eq_true'] at hq'
  rw [e2, e2', S1_quote hq] at h
  have := S1_plain hq'
  rw [← h]
  simp [pgo, S_of, this]
theorem parse_head {x : PySem.Str} (h5 : 5 ≤ x.length) (h3 : x.cps.toList.take 3 = [50, 53, 55]) (h : (Txt.slice x none (some 3) != PySem.Str.ofString "257") = true) : False := by
  have e : Txt.slice x none (some 3) = S (x.cps.toList.take 3) := slice_to (j := 3) (by (first | lia | omega))
  rw [e, h3, ← lit257] at h
  simp at h
theorem parse_nil {x : PySem.Str} (h5 : 5 ≤ x.length) (h : (Txt.slice x (some 3) (some 5) != PySem.Str.ofString " \"") = true) : PySem.Str.ofString "" = parseF x := by
  have e : Txt.slice x (some 3) (some 5) = S ((x.cps.toList.drop 3).take 2) := slice_mid (i := 3) (j := 5) (by (first | lia | omega)) (by (first | lia | omega))
  unfold parseF
  rw [e, bne_true, litSQ] at h
  rw [if_neg (fun q => h (by rw [q])), lit0]
theorem parse_go {x d : PySem.Str} (h5 : 5 ≤ x.length) (h : (Txt.slice x (some 3) (some 5) != PySem.Str.ofString " \"") = false) (hd : d = S (pgo (x.cps.toList.drop 5))) : d = parseF x := by
  have e : Txt.slice x (some 3) (some 5) = S ((x.cps.toList.drop 3).take 2) := slice_mid (i := 3) (j := 5) (by (first | lia | omega)) (by (first | lia | omega))
  unfold parseF
  rw [e, bne_false, litSQ] at h
  rw [if_pos (S_inj h)]
  exact hd
end Mine
namespace Mine
def hexs (n : Nat) : List Nat := if _h : n = 0 then [] else hexs (n / 16) ++ [n % 16]
termination_by n
decreasing_by (first | lia | omega)
def apF (n : Nat) : Array UInt8 := ((hexs n).map fun d => UInt8.ofNat (65 + d)).toArray
def AI (n : Nat) (i : Int) (d : Array UInt8) : Prop := (apF i.toNat) ++ d = apF n ∧ i.toNat * 16 ^ d.size ≤ n
end Mine
namespace Mine
def apTab : Array UInt8 := #[65, 66, 67, 68, 69, 70, 71, 72, 73, 74, 75, 76, 77, 78, 79, 80]
theorem ap_tab : ∀ k : Fin 16, KBy.picked apTab (some ((k.val : Nat) : Int)) (some (((k.val : Nat) : Int) + 1)) = #[UInt8.ofNat (65 + k.val)] := by decide +kernel
theorem ap_pick {i : Int} (h0 : 0 ≤ i) : KBy.picked apTab (some (i.fmod 16)) (some (i.fmod 16 + 1)) = #[UInt8.ofNat (65 + i.toNat % 16)] := by
  have e : i.fmod 16 = ((i.toNat % 16 : Nat) : Int) := by
    rw [Int.fmod_eq_emod_of_nonneg _ (by decide)]; (first | lia | omega)
  rw [e]
  exact ap_tab ⟨i.toNat % 16, by (first | lia | omega)⟩
section
variable {prog : Program} {w : World} {A : Around} {E : Value → Shared → Prop} {s : Shared} {value slice : PySem.Expr} {t t1 t2 : Tok} {h₀ : Heap} {L : Addr} {m : PySem.Str → Option Value} {news : List (Addr × Obj)} {Q : Value → Shared → Prop} {i : Int}
theorem ap_slice (hF : Fr h₀ L s.heap m) (hN : News h₀ L s.heap news) (h0 : 0 ≤ i)
    (h : ∀ h' t' k, Fr h₀ L h' m → News h₀ L h' news → Q (.bytes #[UInt8.ofNat (65 + i.toNat % 16)] t') { s with heap := h', toks := k })
    (hs : subscripted slice false (.bytes apTab t) (.ref s.heap.objs.size) = operate [.ref s.heap.objs.size, .bytes apTab t] (getItem (.bytes apTab t) (.ref s.heap.objs.size)) := by with_unfolding_all rfl)
    (ht : ∀ r, letTemporaryGo value (.bytes apTab t) r = pure () := by intro _; with_unfolding_all rfl) :
    wpAny (model prog w) A (subscriptTail value slice (.bytes #[65, 66, 67, 68, 69, 70, 71, 72, 73, 74, 75, 76, 77, 78, 79, 80] t) (.ref s.heap.objs.size)) Q E { s with heap := s.heap.push { cls := .type "slice", data := .fields #[.int (i.fmod 16) t1, .int (i.fmod 16 + 1) t2, .none] } } :=
  KBc.slice_K (b := apTab) (lo := some (i.fmod 16)) (hi := some (i.fmod 16 + 1)) hF hN rfl (.int _ _) (.int _ _) (by decide) (fun h' t' k F N _ => by rw [ap_pick h0]; exact h h' t' k F N) hs ht
end
theorem hexs_pos {n : Nat} (h : n ≠ 0) : hexs n = hexs (n / 16) ++ [n % 16] := by rw [hexs, dif_neg h]
theorem AI_init {n : Int} : 0 ≤ (if n < 0 then -n else n) ∧ ((#[] : Array UInt8).size : Int) ≤ 16 ∧ AI n.natAbs (if n < 0 then -n else n) #[] := by
  have e : (if n < 0 then -n else n) = (n.natAbs : Int) := by split <;> (first | lia | omega)
  rw [e]
  simp [AI]
theorem AI_size {n : Nat} {i : Int} {d : Array UInt8} (h : AI n i d) (h0 : 0 ≤ i) (h1 : i ≠ 0) (hn : n < 2 ^ 60) : d.size ≤ 14 := by
  have h2 := h.2
  have h3 : 1 ≤ i.toNat := by (first | lia | omega)
  have h4 : 16 ^ d.size ≤ i.toNat * 16 ^ d.size := Nat.le_mul_of_pos_left _ h3
  by_cases h5 : d.size ≤ 14
  · exact h5
  · have h6 : 16 ^ 15 ≤ 16 ^ d.size := Nat.pow_le_pow_right (by decide) (by (first | lia | omega))
    have : (16 : Nat) ^ 15 = 2 ^ 60 := by decide
    (first | lia | omega)
theorem AI_step {n : Nat} {i : Int} {d : Array UInt8} (h : AI n i d) (h0 : 0 ≤ i) (h1 : i ≠ 0) : AI n (i.fdiv 16) (#[UInt8.ofNat (65 + i.toNat % 16)] ++ d) := by
  have e : (i.fdiv 16).toNat = i.toNat / 16 := by rw [Int.fdiv_eq_ediv_of_nonneg _ (by decide)]; (first | lia | omega)
  refine ⟨?_, ?_⟩
  · rw [e, ← h.1]
    have h2 : i.toNat ≠ 0 := by (first | lia | omega)
    conv => rhs; unfold apF; rw [hexs_pos h2]
    simp [apF]
  · rw [e, Array.size_append]
    have h2 := h.2
    have : (#[UInt8.ofNat (65 + i.toNat % 16)] : Array UInt8).size = 1 := rfl
    rw [this, Nat.add_comm, Nat.pow_succ, Nat.mul_comm (16 ^ d.size) 16, ← Nat.mul_assoc]
    exact Nat.le_trans (Nat.mul_le_mul_right _ (Nat.div_mul_le_self _ _)) h2
theorem AI_done {n : Nat} {i : Int} {d : Array UInt8} (h : AI n i d) (h1 : i = 0) : d = apF n := by
  subst h1
  have h := h.1
  rw [← h]
  have : hexs 0 = [] := by rw [hexs]; simp
  simp [apF, this]
theorem cb_retBy {h₀ h' : Heap} {L : Addr} {m : PySem.Str → Option Value} {news : List (Addr × Obj)} {s : Shared} {Q : Value → Shared → Prop} {t : Tok} {tk' : Nat} {x y : Array UInt8} (hret : ∀ (t : Tok) (h' : Heap) (tk' : Nat), Fr h₀ L h' m → News h₀ L h' news → Q (.bytes x t) { s with heap := h', toks := tk' }) (e : y = x) (F : Fr h₀ L h' m) (N : News h₀ L h' news) : Q (.bytes y t) { s with heap := h', toks := tk' } := by
  subst e
  exact hret t h' tk' F N
theorem fdiv_lt {i : Int} (h0 : 0 ≤ i) (h1 : i ≠ 0) : 0 ≤ i.fdiv 16 ∧ i.fdiv 16 < i := by
  rw [Int.fdiv_eq_ediv_of_nonneg _ (by decide)]; (first | lia | omega)
end Mine
end
section
open PySem PySem.W PyProof.Rows
namespace Mine
section
variable {prog : Program} {w : World} {A : Around} {E : Value → Shared → Prop} {s : Shared} {env : Env} {h₀ : Heap} {xi xc x : Str} {body : List Stmt} {Q : Flow → Shared → Prop}
/-- what a turn of a loop over pairs must leave -/
def PairPost {σ : Type} (h₀ : Heap) (L : Addr) (xi xc : Str) (m : Str → Option Value) (Led : σ → List (Addr × Obj)) (P : σ → Prop) (own : List (Addr × Obj)) (s₁ : Shared) (Q : Flow → Shared → Prop) (f : Flow) (s₂ : Shared) : Prop :=
  match f with
  | .ret v => Q (.ret v) s₂
  | .brk => Q .next s₂
  | _ => ∃ c h' tk m' news', s₂ = { s₁ with heap := h', toks := tk } ∧ Fr h₀ L h' m' ∧ (∀ z, z ≠ xc → z ≠ xi → m' z = m z) ∧ News h₀ L h' news' ∧ (∀ p ∈ own, p ∈ news') ∧ (∀ p ∈ Led c, p ∈ news') ∧ P c
theorem pair_inv {α σ : Type} {K : ItemKind α} {as : List α} {xv : Value} {m : Str → Option Value} (Led : σ → List (Addr × Obj)) (P : Nat → σ → Prop) (c₀ : σ) (S : PairSrcL prog w A E h₀ env.locals K as xv s m (Led c₀))
    (hadr : ∀ c, (Led c).map (·.1) = (Led c₀).map (·.1)) (hP : P 0 c₀)
    (turn : ∀ i a t v c h tk own, as[i]? = some a → K.is a v → P i c → OwnOff own ((Led c₀).map (·.1)) → Fr h₀ env.locals h (fun y => if y = xc then some v else if y = xi then some (.int (i : Int) t) else m y) → News h₀ env.locals h (Led c ++ own) →
      wpAny (model prog w) A (execs body env) (PairPost h₀ env.locals xi xc m Led (P (i + 1)) own { s with heap := h, toks := tk } Q) E { s with heap := h, toks := tk })
    (done : ∀ c h tk (u : Str → Option Value), P as.length c → Fr h₀ env.locals h (fun y => if y = xc then u y else if y = xi then u y else m y) → News h₀ env.locals h (Led c) → Q .next { s with heap := h, toks := tk }) :
    wpAny (model prog w) A (pyIter xv) (fun it s₂ => PairAt3 prog w A h₀ env xi xc body Q E it s₂) E s := by
  refine (S.at env rfl) xi xc body Q (fun i m₁ nx => (∀ z, z ≠ xc → z ≠ xi → m₁ z = m z) ∧ ∃ c, nx = Led c ∧ P i c) ⟨fun _ _ _ => rfl, c₀, rfl, hP⟩ ?_ ?_
  · rintro i a t v m₁ nx s₁ own ⟨h, tk, rfl⟩ ha hk ⟨hm, c, rfl, hc⟩ hn hoff F N
    have e : (fun y => if y = xc then some v else if y = xi then some (.int (i : Int) t) else m₁ y) = fun y => if y = xc then some v else if y = xi then some (.int (i : Int) t) else m y := by
      funext y
      by_cases h1 : y = xc
      · rw [if_pos h1, if_pos h1]
      · rw [if_neg h1, if_neg h1]
        by_cases h2 : y = xi
        · rw [if_pos h2, if_pos h2]
        · rw [if_neg h2, if_neg h2]; exact hm y h1 h2
    rw [e] at F
    have N' : News h₀ env.locals h (Led c ++ own) := fun p hp => N p ((List.mem_append.mp hp).elim (fun q => List.mem_append.mpr (.inr q)) fun q => List.mem_append.mpr (.inl q))
    have ho : OwnOff own ((Led c₀).map (·.1)) := by
      intro p hp b hb
      obtain ⟨q, hq, rfl⟩ := List.mem_map.mp hb
      exact hoff p hp q hq
    refine wpAny_mono (turn i a t v c h tk own ha hk hc ho F N') (fun f s₂ p => ?_) fun _ _ e => e
    have fin : (∃ c h' tk' m' news', s₂ = { s with heap := h', toks := tk' } ∧ Fr h₀ env.locals h' m' ∧ (∀ z, z ≠ xc → z ≠ xi → m' z = m z) ∧ News h₀ env.locals h' news' ∧ (∀ p ∈ own, p ∈ news') ∧ (∀ p ∈ Led c, p ∈ news') ∧ P (i + 1) c) → LoopStep2 h₀ env.locals own (Led c) (fun m₁ nx => (∀ z, z ≠ xc → z ≠ xi → m₁ z = m z) ∧ ∃ c, nx = Led c ∧ P (i + 1) c) { s with heap := h, toks := tk } .next s₂ := by
      rintro ⟨c', h', tk', m', news', rfl, F', hm', N', ho', hl', hp'⟩
      exact ⟨rfl, h', tk', m', Led c', rfl, F', fun p hp => N' p ((List.mem_append.mp hp).elim (ho' p) (hl' p)), (hadr c').trans (hadr c).symm, hm', c', rfl, hp'⟩
    cases f with
    | ret v => exact p
    | brk => exact p
    | next => exact fin p
    | cont => exact fin p
  · rintro h' tk m' news' F N hn ⟨hm, c, rfl, hc⟩
    have e : m' = fun y => if y = xc then m' y else if y = xi then m' y else m y := by
      funext y
      by_cases h1 : y = xc
      · rw [if_pos h1]
      · rw [if_neg h1]
        by_cases h2 : y = xi
        · rw [if_pos h2]
        · rw [if_neg h2]; exact hm y h1 h2
    rw [e] at F
    exact done c h' tk m' hc F N
theorem PairPost.intro {σ : Type} {h₀ : Heap} {L : Addr} {m m' : Str → Option Value} {Led : σ → List (Addr × Obj)} {P : σ → Prop} {own news' : List (Addr × Obj)} {s₁ : Shared} {Q : Flow → Shared → Prop} (c : σ) {h' : Heap} {tk : Nat}
    (F : Fr h₀ L h' m') (N : News h₀ L h' news') (hm : ∀ z, z ≠ xc → z ≠ xi → m' z = m z) (ho : ∀ p ∈ own, p ∈ news') (hl : ∀ p ∈ Led c, p ∈ news') (hp : P c) : PairPost h₀ L xi xc m Led P own s₁ Q .next { s₁ with heap := h', toks := tk } :=
  ⟨c, h', tk, m', news', rfl, F, hm, N, ho, hl, hp⟩
end
theorem mem_set_of {ns : List Int} {k : Nat} {x y : Int} (h : y ∈ ns.set k x) : y = x ∨ y ∈ ns := by
  rcases List.mem_or_eq_of_mem_set h with h | h
  · exact .inr h
  · exact .inl h
theorem getD_mem {ns : List Int} {k : Nat} (h : k < ns.length) : ns.getD k 0 ∈ ns := by
  rw [List.getD_eq_getElem?_getD, List.getElem?_eq_getElem h]
  exact List.getElem_mem h
theorem draws_turn {ns : List Int} {i : Nat} {d n : Int} (hd : 0 < d) (hl : (ns.length : Int) = d) (hb : ∀ x ∈ ns, 0 ≤ x ∧ x ≤ 3000 + 1000000 * (i : Int)) :
    ∀ x ∈ ns.set ((i : Int).fmod d).toNat (ns.getD ((i : Int).fmod d).toNat 0 + n.fmod (10 ^ Int.toNat 6)), 0 ≤ x ∧ x ≤ 3000 + 1000000 * ((i + 1 : Nat) : Int) := by
  intro x hx
  have hk : ((i : Int).fmod d).toNat < ns.length := by
    have h1 := Int.fmod_lt_of_pos (i : Int) hd
    have h2 := Int.fmod_nonneg_of_pos (i : Int) hd
    (first | lia | omega)
  have h3 := hb _ (getD_mem hk)
  have h4 : 0 ≤ n.fmod (10 ^ Int.toNat 6) := Int.fmod_nonneg_of_pos n (by decide)
  have h5 : n.fmod (10 ^ Int.toNat 6) < 10 ^ Int.toNat 6 := Int.fmod_lt_of_pos n (by decide)
  have h6 : (10 : Int) ^ Int.toNat 6 = 1000000 := by decide
  rw [h6] at h4 h5 hx
  rcases mem_set_of hx with rfl | h
  · (first | lia | omega)
  · have := hb x h
    (first | lia | omega)
end Mine
end
section
open PySem PySem.W PyProof.Rows
namespace Mine
/-- what a turn of a loop leaves, whose objects may change their addresses -/
def FEnd {σ : Type} (h₀ : Heap) (L : Addr) (x : Str) (Led : σ → List (Addr × Obj)) (ps : σ → List (Str × Value)) (stored : List Str) (m₀ : Str → Option Value) (P : σ → Prop) (own : List (Addr × Obj)) (s₁ s₂ : Shared) : Prop :=
  ∃ c h' tk m' news', s₂ = { s₁ with heap := h', toks := tk } ∧ Fr h₀ L h' m' ∧ News h₀ L h' news' ∧ (∀ p ∈ Led c, p ∈ news') ∧ (∀ p ∈ own, p ∈ news') ∧ TbOff own (Led c) ∧ (∀ p ∈ ps c, m' p.1 = some p.2) ∧
    (∀ z, z ≠ x → (∀ p ∈ ps c, z ≠ p.1) → stored.contains z = false → m' z = m₀ z) ∧ P c
def FPost {σ : Type} (h₀ : Heap) (L : Addr) (x : Str) (Led : σ → List (Addr × Obj)) (ps : σ → List (Str × Value)) (stored : List Str) (m₀ : Str → Option Value) (Pn Pd : σ → Prop) (own : List (Addr × Obj)) (s₁ : Shared) (Q : Flow → Shared → Prop) (f : Flow) (s₂ : Shared) : Prop :=
  match f with
  | .ret v => Q (.ret v) s₂
  | .brk => FEnd h₀ L x Led ps stored m₀ Pd own s₁ s₂
  | _ => FEnd h₀ L x Led ps stored m₀ Pn own s₁ s₂
section
variable {prog : Program} {w : World} {A : Around} {E : Value → Shared → Prop} {s : Shared} {env : Env} {h₀ : Heap} {x : Str} {body : List Stmt} {Q : Flow → Shared → Prop}
theorem free_core {σ : Type} {I : Addr} {n : Nat} {P : Nat → Value → Prop} {St : Nat → Heap → Prop} {m₀ : Str → Option Value} (Led : σ → List (Addr × Obj)) (ps : σ → List (Str × Value)) (stored : List Str) (Pi : Nat → σ → Prop) (Pd : σ → Prop) (c₀ : σ)
    (W : Walks prog w A I [I] [I] n P St) (hob : ∀ i h, St i h → ∃ o, h.get? I = some o) (hLf : env.locals ≠ I) (hwr : h₀.get? I = none) (hnw : ∀ p ∈ Led c₀, p.1 ≠ I) (hst : St 0 s.heap)
    (F : Fr h₀ env.locals s.heap m₀) (N : News h₀ env.locals s.heap (Led c₀)) (hk : ∀ p ∈ ps c₀, m₀ p.1 = some p.2) (hp : Pi 0 c₀)
    (turn : ∀ (c : σ) i v (u : Str → Option Value) h tk own, i < n → P i v → OwnOff own ((Led c).map (·.1)) → Pi i c →
      Fr h₀ env.locals h (fun y => if y = x then some v else kstB (fun z => if stored.contains z then u z else m₀ z) (ps c) y) → News h₀ env.locals h (Led c ++ own) →
      wpAny (model prog w) A (execs body env) (FPost h₀ env.locals x Led ps stored m₀ (Pi (i + 1)) Pd own { s with heap := h, toks := tk } Q) E { s with heap := h, toks := tk })
    (hPd : ∀ c, Pi n c → Pd c)
    (done : ∀ (c : σ) (u : Str → Option Value) h tk, Pd c → Fr h₀ env.locals h (fun y => if y = x then u y else kstB (fun z => if stored.contains z then u z else m₀ z) (ps c) y) → News h₀ env.locals h (Led c) → Q .next { s with heap := h, toks := tk }) :
    LoopAtV prog w A h₀ env x body Q E (.ref I) s := by
  refine tbr_loop (fun i m nx => ∃ c, nx = Led c ∧ (∀ p ∈ ps c, m p.1 = some p.2) ∧ (∀ z, z ≠ x → (∀ p ∈ ps c, z ≠ p.1) → stored.contains z = false → m z = m₀ z) ∧ Pi i c) W (fun _ h => h) (fun _ h => h) ?_ ?_ ?_ ?_ hst F N ⟨c₀, rfl, hk, fun _ _ _ _ => rfl, hp⟩ ?_ ?_
  · intro i h hi b hb
    rw [List.mem_singleton.mp hb]
    exact hob i h hi
  · intro hm
    exact hLf (List.mem_singleton.mp hm)
  · intro b hb
    rw [List.mem_singleton.mp hb]
    exact hwr
  · intro p hp hI
    exact hnw p hp (List.mem_singleton.mp hI)
  · rintro i v m₁ nx h tk own hi hP hoff ⟨c, rfl, h1, h2, hc⟩ F₁ N₁
    have ho : OwnOff own ((Led c).map (·.1)) := by
      intro p hp b hb
      obtain ⟨q, hq, rfl⟩ := List.mem_map.mp hb
      exact hoff p hp q hq
    refine wpAny_mono (turn c i v m₁ h tk own hi hP ho hc (kst_fr h1 h2 F₁) N₁) (fun f s₂ p => ?_) fun _ _ e => e
    cases f with
    | ret v => exact p
    | brk =>
      obtain ⟨c', h', tk', m', news', rfl, F', N', hl, ho', _, hk', hm', hp'⟩ := p
      exact done c' m' h' tk' hp' (kst_frOut hk' hm' F') (fun p hp => N' p (hl p hp))
    | next =>
      obtain ⟨c', h', tk', m', news', rfl, F', N', hl, ho', hoff', hk', hm', hp'⟩ := p
      exact ⟨h', tk', m', news', Led c', rfl, F', N', hl, ho', hoff', c', rfl, hk', hm', hp'⟩
    | cont =>
      obtain ⟨c', h', tk', m', news', rfl, F', N', hl, ho', hoff', hk', hm', hp'⟩ := p
      exact ⟨h', tk', m', news', Led c', rfl, F', N', hl, ho', hoff', c', rfl, hk', hm', hp'⟩
  · rintro m₁ nx h tk ⟨c, rfl, h1, h2, hc⟩ F₁ N₁
    exact done c m₁ h tk (hPd c hc) (kst_frOut h1 h2 F₁) N₁
theorem free_str {σ : Type} {xt : Str} {tx : Tok} {m₀ : Str → Option Value} (Led : σ → List (Addr × Obj)) (ps : σ → List (Str × Value)) (stored : List Str) (Pi : Nat → σ → Prop) (Pd : σ → Prop) (c₀ : σ)
    (hh : A.handled = none) (F : Fr h₀ env.locals s.heap m₀) (N : News h₀ env.locals s.heap (Led c₀)) (hk : ∀ p ∈ ps c₀, m₀ p.1 = some p.2) (hp : Pi 0 c₀)
    (turn : ∀ (c : σ) i k t (u : Str → Option Value) h tk own, xt.cps.toList[i]? = some k → OwnOff own ((Led c).map (·.1)) → Pi i c →
      Fr h₀ env.locals h (fun y => if y = x then some (.str ⟨#[k]⟩ t) else kstB (fun z => if stored.contains z then u z else m₀ z) (ps c) y) → News h₀ env.locals h (Led c ++ own) →
      wpAny (model prog w) A (execs body env) (FPost h₀ env.locals x Led ps stored m₀ (Pi (i + 1)) Pd own { s with heap := h, toks := tk } Q) E { s with heap := h, toks := tk })
    (hPd : ∀ c, Pi xt.cps.toList.length c → Pd c)
    (done : ∀ (c : σ) (u : Str → Option Value) h tk, Pd c → Fr h₀ env.locals h (fun y => if y = x then u y else kstB (fun z => if stored.contains z then u z else m₀ z) (ps c) y) → News h₀ env.locals h (Led c) → Q .next { s with heap := h, toks := tk }) :
    wpAny (model prog w) A (pyIter (.str xt tx)) (fun it s₂ => LoopAtV prog w A h₀ env x body Q E it s₂) E s := by
  have main : ∀ (o : Obj) (St : Nat → Heap → Prop), (∀ i h, St i h → ∃ o, h.get? s.heap.objs.size = some o) → Walks prog w A s.heap.objs.size [s.heap.objs.size] [s.heap.objs.size] xt.cps.size (SignAt xt) St → St 0 (s.heap.push o) →
      LoopAtV prog w A h₀ env x body Q E (.ref s.heap.objs.size) { s with heap := s.heap.push o } := by
    intro o St hob W hst
    refine free_core Led ps stored Pi Pd c₀ W hob ?_ (next_is_new F) ?_ hst (F.push _) (fun p hp => ⟨Heap.get?_push_of_some _ (N p hp).1, (N p hp).2⟩) hk hp ?_ (by simpa using hPd) done
    · exact Nat.ne_of_lt F.ns.lt
    · intro p hp hI
      exact absurd (Heap.lt_size (N p hp).1) (hI ▸ Nat.lt_irrefl _)
    · rintro c i v u h tk own hi ⟨k, t, hk', rfl⟩ ho hc F₁ N₁
      exact turn c i k t u h tk own (by simpa using hk') ho hc F₁ N₁
  cases ha : xt.cps.all (· < 128)
  · exact wpAny_pyIter_wide ha (main _ _ (fun i h hi => let ⟨o, ho, _⟩ := hi; ⟨o, ho⟩) (Walks.strWide hh _ xt tx) ⟨_, Heap.get?_push_size _ rfl, rfl, rfl⟩)
  · exact wpAny_pyIter_ascii ha (main _ _ (fun i h hi => let ⟨o, ho, _⟩ := hi; ⟨o, ho⟩) (Walks.strAscii hh _ xt tx) ⟨_, Heap.get?_push_size _ rfl, rfl, rfl⟩)
theorem free_range {σ : Type} {r : Addr} {a₀ b₀ : Int} {t₀ u₀ v₀ : Tok} {n : Nat} {m₀ : Str → Option Value} (Led : σ → List (Addr × Obj)) (ps : σ → List (Str × Value)) (stored : List Str) (Pi : Nat → σ → Prop) (Pd : σ → Prop) (c₀ : σ)
    (hh : A.handled = none) (hr : IsRange s.heap r a₀ b₀ 1 t₀ u₀ v₀) (hsmall : Builtin.Range.small a₀ b₀ 1 = true) (hn : Builtin.Range.rangeSize a₀ b₀ 1 = (n : Int)) (F : Fr h₀ env.locals s.heap m₀) (N : News h₀ env.locals s.heap (Led c₀)) (hk : ∀ p ∈ ps c₀, m₀ p.1 = some p.2) (hp : Pi 0 c₀)
    (turn : ∀ (c : σ) i t (u : Str → Option Value) h tk own, i < n → OwnOff own ((Led c).map (·.1)) → Pi i c →
      Fr h₀ env.locals h (fun y => if y = x then some (.int (a₀ + (i : Int)) t) else kstB (fun z => if stored.contains z then u z else m₀ z) (ps c) y) → News h₀ env.locals h (Led c ++ own) →
      wpAny (model prog w) A (execs body env) (FPost h₀ env.locals x Led ps stored m₀ (Pi (i + 1)) Pd own { s with heap := h, toks := tk } Q) E { s with heap := h, toks := tk })
    (hPd : ∀ c, Pi n c → Pd c)
    (done : ∀ (c : σ) (u : Str → Option Value) h tk, Pd c → Fr h₀ env.locals h (fun y => if y = x then u y else kstB (fun z => if stored.contains z then u z else m₀ z) (ps c) y) → News h₀ env.locals h (Led c) → Q .next { s with heap := h, toks := tk }) :
    wpAny (model prog w) A (pyIter (.ref r)) (fun it s₂ => LoopAtV prog w A h₀ env x body Q E it s₂) E s := by
  refine wpAny_pyIter_range hr hsmall ?_
  have W : Walks prog w A s.heap.objs.size [s.heap.objs.size] [s.heap.objs.size] n (fun i v => i < n ∧ ∃ t, v = .int (a₀ + i * 1) t)
      (fun i h => IsRangeIter h s.heap.objs.size (a₀ + (i : Nat) * 1) ((n : Int) - (i : Nat)) 1) := (Walks.range hh _ a₀ 1 n).bound
  refine free_core Led ps stored Pi Pd c₀ W (fun i h hi => ⟨_, hi⟩) (Nat.ne_of_lt F.ns.lt) (next_is_new F) (fun p hp hI => absurd (Heap.lt_size (N p hp).1) (hI ▸ Nat.lt_irrefl _))
    (by show IsRangeIter _ _ _ _ _; rw [hn]; simpa using Heap.get?_push_size _ rfl) (F.push _) (fun p hp => ⟨Heap.get?_push_of_some _ (N p hp).1, (N p hp).2⟩) hk hp ?_ hPd done
  rintro c i v u h tk own hi ⟨_, t, rfl⟩ ho hc F₁ N₁
  rw [show a₀ + (i : Int) * 1 = a₀ + (i : Int) by (first | lia | omega)] at F₁
  exact turn c i t u h tk own hi ho hc F₁ N₁
theorem free_str1 {σ : Type} {xt : Str} {tx : Tok} {m₀ : Str → Option Value} {rest : List (Addr × Obj)} (adr : σ → Addr) (ob : σ → Obj) (ps : σ → List (Str × Value)) (stored : List Str) (Pi : Nat → σ → Prop) (Pd : σ → Prop) (c₀ : σ)
    (hh : A.handled = none) (F : Fr h₀ env.locals s.heap m₀) (N : News h₀ env.locals s.heap ((adr c₀, ob c₀) :: rest)) (hlt : AllLt (adr c₀) rest) (hk : ∀ p ∈ ps c₀, m₀ p.1 = some p.2) (hp : Pi 0 c₀)
    (turn : ∀ (c : σ) i k t (u : Str → Option Value) h tk own, xt.cps.toList[i]? = some k → OwnOff own (adr c :: rest.map (·.1)) → AllLt (adr c) rest → Pi i c →
      Fr h₀ env.locals h (fun y => if y = x then some (.str ⟨#[k]⟩ t) else kstB (fun z => if stored.contains z then u z else m₀ z) (ps c) y) → News h₀ env.locals h ((adr c, ob c) :: (rest ++ own)) →
      wpAny (model prog w) A (execs body env) (FPost h₀ env.locals x (fun c => (adr c, ob c) :: rest) ps stored m₀ (fun c => AllLt (adr c) rest ∧ Pi (i + 1) c) (fun c => AllLt (adr c) rest ∧ Pd c) own { s with heap := h, toks := tk } Q) E { s with heap := h, toks := tk })
    (hPd : ∀ c, Pi xt.cps.toList.length c → Pd c)
    (done : ∀ (c : σ) (u : Str → Option Value) h tk, AllLt (adr c) rest → Pd c → Fr h₀ env.locals h (fun y => if y = x then u y else kstB (fun z => if stored.contains z then u z else m₀ z) (ps c) y) → News h₀ env.locals h ((adr c, ob c) :: rest) → Q .next { s with heap := h, toks := tk }) :
    wpAny (model prog w) A (pyIter (.str xt tx)) (fun it s₂ => LoopAtV prog w A h₀ env x body Q E it s₂) E s :=
  free_str (fun c => (adr c, ob c) :: rest) ps stored (fun i c => AllLt (adr c) rest ∧ Pi i c) (fun c => AllLt (adr c) rest ∧ Pd c) c₀ hh F N hk ⟨hlt, hp⟩
    (fun c i k t u h tk own hx ho hc F₁ N₁ => turn c i k t u h tk own hx (by simpa using ho) hc.1 hc.2 F₁ N₁) (fun c hc => ⟨hc.1, hPd c hc.2⟩) (fun c u h tk hc F₁ N₁ => done c u h tk hc.1 hc.2 F₁ N₁)
theorem FPost.next {σ : Type} {L : Addr} {Led : σ → List (Addr × Obj)} {ps : σ → List (Str × Value)} {stored : List Str} {m₀ m' : Str → Option Value} {Pn Pd : σ → Prop} {own news' : List (Addr × Obj)} {s₁ : Shared} (c : σ) {h' : Heap} {tk : Nat}
    (F : Fr h₀ L h' m') (N : News h₀ L h' news') (hl : ∀ p ∈ Led c, p ∈ news') (ho : ∀ p ∈ own, p ∈ news') (hoff : TbOff own (Led c)) (hk : ∀ p ∈ ps c, m' p.1 = some p.2)
    (hm : ∀ z, z ≠ x → (∀ p ∈ ps c, z ≠ p.1) → stored.contains z = false → m' z = m₀ z) (hp : Pn c) : FPost h₀ L x Led ps stored m₀ Pn Pd own s₁ Q .next { s₁ with heap := h', toks := tk } :=
  ⟨c, h', tk, m', news', rfl, F, N, hl, ho, hoff, hk, hm, hp⟩
theorem FEnd.intro {σ : Type} {L : Addr} {Led : σ → List (Addr × Obj)} {ps : σ → List (Str × Value)} {stored : List Str} {m₀ m' : Str → Option Value} {P : σ → Prop} {own news' : List (Addr × Obj)} {s₁ : Shared} (c : σ) {h' : Heap} {tk : Nat}
    (F : Fr h₀ L h' m') (N : News h₀ L h' news') (hl : ∀ p ∈ Led c, p ∈ news') (ho : ∀ p ∈ own, p ∈ news') (hoff : TbOff own (Led c)) (hk : ∀ p ∈ ps c, m' p.1 = some p.2)
    (hm : ∀ z, z ≠ x → (∀ p ∈ ps c, z ≠ p.1) → stored.contains z = false → m' z = m₀ z) (hp : P c) : FEnd h₀ L x Led ps stored m₀ P own s₁ { s₁ with heap := h', toks := tk } :=
  ⟨c, h', tk, m', news', rfl, F, N, hl, ho, hoff, hk, hm, hp⟩
theorem FPost.brk {σ : Type} {L : Addr} {Led : σ → List (Addr × Obj)} {ps : σ → List (Str × Value)} {stored : List Str} {m₀ m' : Str → Option Value} {Pn Pd : σ → Prop} {own news' : List (Addr × Obj)} {s₁ : Shared} (c : σ) {h' : Heap} {tk : Nat}
    (F : Fr h₀ L h' m') (N : News h₀ L h' news') (hl : ∀ p ∈ Led c, p ∈ news') (ho : ∀ p ∈ own, p ∈ news') (hoff : TbOff own (Led c)) (hk : ∀ p ∈ ps c, m' p.1 = some p.2)
    (hm : ∀ z, z ≠ x → (∀ p ∈ ps c, z ≠ p.1) → stored.contains z = false → m' z = m₀ z) (hp : Pd c) : FPost h₀ L x Led ps stored m₀ Pn Pd own s₁ Q .brk { s₁ with heap := h', toks := tk } :=
  ⟨c, h', tk, m', news', rfl, F, N, hl, ho, hoff, hk, hm, hp⟩
end
theorem off_nil {own : List (Addr × Obj)} : TbOff own [] := fun _ _ _ hq => nomatch hq
theorem off_cons {own l : List (Addr × Obj)} {q : Addr × Obj} (h : ∀ p ∈ own, p.1 ≠ q.1) (h2 : TbOff own l) : TbOff own (q :: l) := by
  intro p hp r hr
  rcases List.mem_cons.mp hr with rfl | hr
  · exact h p hp
  · exact h2 p hp r hr
theorem off_tail {own l : List (Addr × Obj)} {q : Addr × Obj} (h : TbOff own (q :: l)) : TbOff own l := fun p hp r hr => h p hp r (.tail _ hr)
theorem off_of {own l : List (Addr × Obj)} (h : OwnOff own (l.map (·.1))) : TbOff own l := fun p hp q hq => h p hp q.1 (List.mem_map.mpr ⟨q, hq, rfl⟩)
/-- what Whitespace.__init__ counts -/
structure WSt where
  l : Addr
  vs : List Value
  k : Nat
  b : Int
  n : Int
  nt : Int
  tb : Tok
  tn : Tok
  tnt : Tok
def wsBump (c : List Int) (b : Int) : List Int :=
  let c' := if b ≥ c.length then c ++ List.replicate (b - c.length + 1).toNat 0 else c
  c'.set b.toNat (c'.getD b.toNat 0 + 1)
structure WS where
  ns : List Int
  b : Int
  n : Int
  nt : Int
def wsGo : List Nat → List Int → Int → Int → Int → WS
  | [], c, b, n, nt => ⟨c, b, n, nt⟩
  | k :: r, c, b, n, nt => if k = 32 then wsGo r c (b + 1) (n + 1) nt else if k = 9 then wsGo r (wsBump c b) 0 (n + 1) (nt + 1) else ⟨c, b, n, nt⟩
def wsOf (x : Str) : WS := wsGo x.cps.toList [] 0 0 0
def WSI (x : Str) (i : Nat) (c : WSt) : Prop :=
  ∃ ns, IntsAre c.vs ns ∧ wsGo (x.cps.toList.drop i) ns c.b c.n c.nt = wsOf x ∧ (0 ≤ c.b ∧ c.b ≤ (i : Int)) ∧ (0 ≤ c.n ∧ c.n ≤ (i : Int)) ∧ (0 ≤ c.nt ∧ c.nt ≤ (i : Int)) ∧ (ns.length : Int) ≤ (i : Int) ∧ (∀ y ∈ ns, 0 ≤ y ∧ y ≤ (i : Int))
def WSD (x : Str) (c : WSt) : Prop :=
  IntsAre c.vs (wsOf x).ns ∧ c.b = (wsOf x).b ∧ c.n = (wsOf x).n ∧ c.nt = (wsOf x).nt ∧ (0 ≤ (wsOf x).b ∧ (wsOf x).b ≤ 100) ∧ (0 ≤ (wsOf x).n ∧ (wsOf x).n ≤ 100) ∧ (0 ≤ (wsOf x).nt ∧ (wsOf x).nt ≤ 100) ∧ ((wsOf x).ns.length : Int) ≤ 100 ∧ (∀ y ∈ (wsOf x).ns, 0 ≤ y ∧ y ≤ 100)
theorem allLt_left {d : Addr} : ∀ {a b : List (Addr × Obj)}, AllLt d (a ++ b) → AllLt d a
  | [], _, _ => trivial
  | _ :: _, _, h => ⟨h.1, allLt_left h.2⟩
theorem ints_unique : ∀ {vs : List Value} {a b : List Int}, IntsAre vs a → IntsAre vs b → a = b
  | _, _, _, .nil, .nil => rfl
  | _, _, _, .cons i t h, h' => by
    cases h' with
    | cons j u h' => rw [ints_unique h h']
theorem litSp : Str.ofString " " = S [32] := by decide +kernel
theorem litTab : Str.ofString "\t" = S [9] := by decide +kernel
theorem sp_true {k : Nat} (h : ((⟨#[k]⟩ : Str) == Str.ofString " ") = true) : k = 32 := by
  have h := eq_of_beq h
  rw [litSp] at h
  have := S_inj (a := [k]) h
  simpa using this
theorem sp_false {k : Nat} (h : ((⟨#[k]⟩ : Str) == Str.ofString " ") = false) : k ≠ 32 := by
  rintro rfl
  rw [litSp, show (⟨#[32]⟩ : Str) = S [32] from rfl] at h
  simp at h
theorem tab_true {k : Nat} (h : ((⟨#[k]⟩ : Str) == Str.ofString "\t") = true) : k = 9 := by
  have h := eq_of_beq h
  rw [litTab] at h
  have := S_inj (a := [k]) h
  simpa using this
theorem tab_false {k : Nat} (h : ((⟨#[k]⟩ : Str) == Str.ofString "\t") = false) : k ≠ 9 := by
  rintro rfl
  rw [litTab, show (⟨#[9]⟩ : Str) = S [9] from rfl] at h
  simp at h
theorem off_of2 {own rest : List (Addr × Obj)} {a : Addr} (h : OwnOff own (a :: rest.map (·.1))) : TbOff own rest := fun p hp q hq => h p hp q.1 (.tail _ (List.mem_map.mpr ⟨q, hq, rfl⟩))
theorem drop_at {l : List Nat} {i k : Nat} (h : l[i]? = some k) : l.drop i = k :: l.drop (i + 1) := by
  obtain ⟨hi, rfl⟩ := List.getElem?_eq_some_iff.mp h
  exact List.drop_eq_getElem_cons hi
theorem flat_zero (k : Nat) : (List.replicate k [(0 : Int)]).flatten = List.replicate k 0 := by
  induction k with
  | zero => rfl
  | succ k ih => rw [List.replicate_succ, List.replicate_succ, List.flatten_cons, ih]; rfl
theorem WSI.blank {x : Str} {i k : Nat} {l vs kk b n nt t1 t2 t3} {t4 t5 t6 : Tok} (hk : x.cps.toList[i]? = some k) (e : ((⟨#[k]⟩ : Str) == Str.ofString " ") = true) (h : WSI x i ⟨l, vs, kk, b, n, nt, t1, t2, t3⟩) :
    WSI x (i + 1) ⟨l, vs, kk, b + 1, n + 1, nt, t4, t5, t6⟩ := by
  obtain ⟨ns, h1, h2, h3, h4, h5, h6, h7⟩ := h
  dsimp only at h1 h2 h3 h4 h5 h6 h7
  rw [drop_at hk, sp_true e] at h2
  exact ⟨ns, h1, h2, by dsimp only; (first | lia | omega), by dsimp only; (first | lia | omega), by dsimp only; (first | lia | omega), by (first | lia | omega), fun y hy => by have := h7 y hy; (first | lia | omega)⟩
theorem set_bound {ns : List Int} {j : Nat} {i : Int} (h : ∀ y ∈ ns, 0 ≤ y ∧ y ≤ i) (hj : j < ns.length) : ∀ y ∈ ns.set j (ns.getD j 0 + 1), 0 ≤ y ∧ y ≤ i + 1 := by
  intro y hy
  have h3 := h _ (getD_mem hj)
  rcases mem_set_of hy with rfl | h'
  · (first | lia | omega)
  · have := h y h'
    (first | lia | omega)
theorem WSI.tab {x : Str} {i k : Nat} {l vs kk b n nt t1 t2 t3} {ns : List Int} {vs' : List Value} {ns' : List Int} {l' kk'} {t4 t5 t6 : Tok} (hk : x.cps.toList[i]? = some k) (e : ((⟨#[k]⟩ : Str) == Str.ofString "\t") = true)
    (h1 : IntsAre vs ns) (h : WSI x i ⟨l, vs, kk, b, n, nt, t1, t2, t3⟩) (hi : IntsAre vs' ns') (hn : ns' = wsBump ns b) :
    WSI x (i + 1) ⟨l', vs', kk', 0, n + 1, nt + 1, t4, t5, t6⟩ := by
  obtain ⟨ns0, h0, h2, h3, h4, h5, h6, h7⟩ := h
  dsimp only at h0 h2 h3 h4 h5 h6 h7
  have e0 := ints_unique h0 h1
  subst e0
  rw [drop_at hk, tab_true e] at h2
  subst hn
  refine ⟨_, hi, ?_, ?_, ?_, ?_, ?_, ?_⟩
  · exact h2
  · dsimp only; (first | lia | omega)
  · dsimp only; (first | lia | omega)
  · dsimp only; (first | lia | omega)
  · dsimp only [wsBump]
    rw [List.length_set]
    split
    · rw [List.length_append, List.length_replicate]; (first | lia | omega)
    · (first | lia | omega)
  · dsimp only [wsBump]
    intro y hy
    split at hy
    · rename_i hb
      refine set_bound (i := i) ?_ ?_ y hy
      · intro z hz
        rcases List.mem_append.mp hz with hz | hz
        · exact h7 z hz
        · have := List.eq_of_mem_replicate hz
          (first | lia | omega)
      · rw [List.length_append, List.length_replicate]; (first | lia | omega)
    · exact set_bound (i := i) h7 (by (first | lia | omega)) y hy
theorem wsBump_in {ns : List Int} {b : Int} (h : ¬ (ns.length : Int) ≤ b) : ns.set b.toNat (ns.getD b.toNat 0 + 1) = wsBump ns b := by
  unfold wsBump
  rw [if_neg (by (first | lia | omega))]
theorem wsBump_out {ns : List Int} {b : Int} (h : (ns.length : Int) ≤ b) : (ns ++ (List.replicate (b - ns.length + 1).toNat [(0 : Int)]).flatten).set b.toNat ((ns ++ (List.replicate (b - ns.length + 1).toNat [(0 : Int)]).flatten).getD b.toNat 0 + 1) = wsBump ns b := by
  unfold wsBump
  rw [if_pos (by (first | lia | omega)), flat_zero]
theorem WSI.end_ {x : Str} {ns : List Int} {c : WSt} (h1 : IntsAre c.vs ns) (h2 : (⟨ns, c.b, c.n, c.nt⟩ : WS) = wsOf x) (h3 : 0 ≤ c.b ∧ c.b ≤ 100) (h4 : 0 ≤ c.n ∧ c.n ≤ 100) (h5 : 0 ≤ c.nt ∧ c.nt ≤ 100) (h6 : (ns.length : Int) ≤ 100) (h7 : ∀ y ∈ ns, 0 ≤ y ∧ y ≤ 100) : WSD x c := by
  unfold WSD
  rw [← h2]
  exact ⟨h1, rfl, rfl, rfl, h3, h4, h5, h6, h7⟩
theorem WSI.stop {x : Str} {i k : Nat} {l vs kk b n nt t1 t2 t3} (hi : (i : Int) < 100) (hk : x.cps.toList[i]? = some k) (e0 : ((⟨#[k]⟩ : Str) == Str.ofString " ") = false) (e : ((⟨#[k]⟩ : Str) == Str.ofString "\t") = false) (h : WSI x i ⟨l, vs, kk, b, n, nt, t1, t2, t3⟩) :
    WSD x ⟨l, vs, kk, b, n, nt, t1, t2, t3⟩ := by
  obtain ⟨ns, h1, h2, h3, h4, h5, h6, h7⟩ := h
  dsimp only at h1 h2 h3 h4 h5 h6 h7
  rw [drop_at hk] at h2
  simp only [wsGo, if_neg (sp_false e0), if_neg (tab_false e)] at h2
  exact WSI.end_ h1 h2 (by dsimp only; (first | lia | omega)) (by dsimp only; (first | lia | omega)) (by dsimp only; (first | lia | omega)) (by (first | lia | omega)) fun y hy => by have := h7 y hy; (first | lia | omega)
theorem len_tupI {prog : Program} {w : World} {A : Around} {E : Value → Shared → Prop} {s : Shared} {t : Addr} {vs : List Value} {ns : List Int} {Q : Value → Shared → Prop} (ht : IsTup s.heap t vs.toArray) (hi : IntsAre vs ns) (hfit : (ns.length : Int) < 2 ^ 63)
    (h : Q (.int ns.length (s.toks + 1)) { s with toks := s.toks + 1 + 1 }) : wpAny (model prog w) A (call (.builtin "len") [.ref t]) Q E s :=
  len_tuple ht (by rw [List.size_toArray, hi.length]; exact hfit) (by rw [List.size_toArray, hi.length]; exact h)
structure WTok where
  k1 : Tok
  k2 : Tok
  k3 : Tok
  k4 : Tok
  k5 : Tok
  v1 : Tok
  v2 : Tok
  v3 : Tok
  v4 : Tok
/-- the fields of a Whitespace -/
def wsDict (w : World) (x : Str) (tn : Addr) (t : WTok) : List DictEntry :=
  [⟨PyData.keyHash w.params (Str.ofString "raw"), .str (Str.ofString "raw") t.k1, .str x t.v1⟩,
   ⟨PyData.keyHash w.params (Str.ofString "n"), .str (Str.ofString "n") t.k2, .int (wsOf x).n t.v2⟩,
   ⟨PyData.keyHash w.params (Str.ofString "nt"), .str (Str.ofString "nt") t.k3, .int (wsOf x).nt t.v3⟩,
   ⟨PyData.keyHash w.params (Str.ofString "norm"), .str (Str.ofString "norm") t.k4, .ref tn⟩,
   ⟨PyData.keyHash w.params (Str.ofString "is_simple"), .str (Str.ofString "is_simple") t.k5, .bool (decide (((wsOf x).ns.length : Int) ≤ 1))⟩]
abbrev tupOf (vs : List Value) : Obj := { cls := .type "tuple", data := .seq vs.toArray }
/-- the four objects of a Whitespace -/
abbrev wsLed (w : World) (C : Addr) (x : Str) (a d tn tc : Addr) (vs : List Value) (t : WTok) : List (Addr × Obj) :=
  [(a, instObj C d), (d, dictOf (wsDict w x tn t) 5), (tn, tupOf [.ref tc, .int (wsOf x).b t.v4]), (tc, tupOf vs)]
def WSB (x : Str) : Prop := (0 ≤ (wsOf x).b ∧ (wsOf x).b ≤ 100) ∧ (0 ≤ (wsOf x).n ∧ (wsOf x).n ≤ 100) ∧ (0 ≤ (wsOf x).nt ∧ (wsOf x).nt ≤ 100) ∧ ((wsOf x).ns.length : Int) ≤ 100 ∧ (∀ y ∈ (wsOf x).ns, 0 ≤ y ∧ y ≤ 100)
theorem WSI.init (x : Str) {l k t1 t2 t3} : WSI x 0 ⟨l, [], k, 0, 0, 0, t1, t2, t3⟩ :=
  ⟨[], .nil, rfl, by simp, by simp, by simp, by simp, by simp⟩
theorem WSI.done {x : Str} (hx : x.length ≤ 100) {c : WSt} (h : WSI x x.cps.toList.length c) : WSD x c := by
  obtain ⟨ns, h1, h2, h3, h4, h5, h6, h7⟩ := h
  rw [List.drop_eq_nil_of_le (Nat.le_refl _)] at h2
  have e : x.cps.toList.length = x.length := by simp [PySem.Str.length]
  exact WSI.end_ h1 h2 (by (first | lia | omega)) (by (first | lia | omega)) (by (first | lia | omega)) (by (first | lia | omega)) fun y hy => by have := h7 y hy; (first | lia | omega)
def ilG (ns : List Int) (k : Int) (l : List Int) : Int := (l.map fun i => i.fdiv k * ns.getD i.toNat 0).sum
def ilF (x : Str) (k : Int) : Int := (wsOf x).b + k * (ilG (wsOf x).ns k (rangeKs k ((wsOf x).ns.length - k).toNat) + (wsOf x).nt)
theorem getD_bound {ns : List Int} {i : Int} (hi : 0 ≤ i) (h : ∀ y ∈ ns, 0 ≤ y ∧ y ≤ i) (j : Nat) : 0 ≤ ns.getD j 0 ∧ ns.getD j 0 ≤ i := by
  by_cases hj : j < ns.length
  · exact h _ (getD_mem hj)
  · rw [List.getD_eq_getElem?_getD, List.getElem?_eq_none (by (first | lia | omega))]
    exact ⟨Int.le_refl _, hi⟩
theorem il_start {ns : List Int} {k : Int} : (0 : Int) = ilG ns k [] ∧ (0 : Int) ≤ 0 ∧ (0 : Int) ≤ 10000 * (([] : List Int).length : Int) := ⟨rfl, by decide, by decide⟩
theorem il_turn {ns pre : List Int} {k n s : Int} (h : s = ilG ns k pre) (h0 : 0 ≤ s) (h1 : s ≤ 10000 * (pre.length : Int)) (hk : 1 ≤ k) (hg : 0 ≤ ns.getD n.toNat 0 ∧ ns.getD n.toNat 0 ≤ 100) (hn : 0 ≤ n ∧ n ≤ 100) :
    s + n.fdiv k * ns.getD n.toNat 0 = ilG ns k (pre ++ [n]) ∧ 0 ≤ s + n.fdiv k * ns.getD n.toNat 0 ∧ s + n.fdiv k * ns.getD n.toNat 0 ≤ 10000 * ((pre ++ [n]).length : Int) := by
  have hd0 : 0 ≤ n.fdiv k := Int.fdiv_nonneg hn.1 (by (first | lia | omega))
  have hd1 : n.fdiv k ≤ 100 := by
    rw [Int.fdiv_eq_ediv_of_nonneg _ (by (first | lia | omega))]
    exact Int.le_trans (Int.ediv_le_self _ hn.1) hn.2
  have m0 : 0 ≤ n.fdiv k * ns.getD n.toNat 0 := Int.mul_nonneg hd0 hg.1
  have m1 : n.fdiv k * ns.getD n.toNat 0 ≤ 100 * 100 := Int.mul_le_mul hd1 hg.2 hg.1 (by decide)
  refine ⟨?_, by (first | lia | omega), ?_⟩
  · rw [h]; simp [ilG]
  · rw [List.length_append, List.length_singleton]; (first | lia | omega)
end Mine
end
section
open PySem PySem.W PyProof.Rows
namespace Mine
/-- what a comprehension picks of the items: R v none: left out, R v (some y): y taken for it -/
inductive Picked (R : Value → Option Value → Prop) : List Value → List Value → Prop where
  | nil : Picked R [] []
  | skip {v : Value} {l ys : List Value} : R v none → Picked R l ys → Picked R (v :: l) ys
  | keep {v y : Value} {l ys : List Value} : R v (some y) → Picked R l ys → Picked R (v :: l) (y :: ys)
theorem Picked.snoc_skip {R : Value → Option Value → Prop} {v : Value} : ∀ {l ys : List Value}, Picked R l ys → R v none → Picked R (l ++ [v]) ys
  | _, _, .nil, h => .skip h .nil
  | _, _, .skip h1 h2, h => .skip h1 (h2.snoc_skip h)
  | _, _, .keep h1 h2, h => .keep h1 (h2.snoc_skip h)
theorem Picked.snoc_keep {R : Value → Option Value → Prop} {v y : Value} : ∀ {l ys : List Value}, Picked R l ys → R v (some y) → Picked R (l ++ [v]) (ys ++ [y])
  | _, _, .nil, h => .keep h .nil
  | _, _, .skip h1 h2, h => .skip h1 (h2.snoc_keep h)
  | _, _, .keep h1 h2, h => .keep h1 (h2.snoc_keep h)
section
variable {prog : Program} {w : World} {A : Around} {E : Value → Shared → Prop} {s : Shared} {h₀ : Heap} {L : Addr} {m : Str → Option Value} {env : Env}
/-- the state behind a pure piece of a comprehension's turn -/
def PureEnd (h₀ : Heap) (L : Addr) (m : Str → Option Value) (all : List (Addr × Obj)) (s₁ s₂ : Shared) (P : Prop) : Prop := ∃ h' tk', s₂ = { s₁ with heap := h', toks := tk' } ∧ Fr h₀ L h' m ∧ News h₀ L h' all ∧ P
theorem PureEnd.intro {all news' : List (Addr × Obj)} {s₁ : Shared} {P : Prop} {h' : Heap} {tk' : Nat} (F : Fr h₀ L h' m) (N : News h₀ L h' news') (hs : ∀ p ∈ all, p ∈ news') (p : P) : PureEnd h₀ L m all s₁ { s₁ with heap := h', toks := tk' } P := ⟨h', tk', rfl, F, fun p hp => N p (hs p hp), p⟩
theorem restT_pure {ct elt : Expr} {x : Str} {scope : Scope} {cl : List (Str × Addr)} {S : List (Addr × Obj) → Prop} {its : List Value} {news : List (Addr × Obj)} {Fin : List Value → List (Addr × Obj) → Prop} (R : Value → Option Value → Prop) (hS : S news)
    (turn : ∀ v I oI C oC D ys m₂ h tk (E' : Value → Shared → Prop), v ∈ its → LCg.NsObj oC m₂ → m₂ x = some v → Fr h₀ L h m → News h₀ L h ((I, oI) :: (C, oC) :: (D, LCg.lst ys) :: news) → LCg.Off3 I C D news → ((@Ne Nat I C) ∧ (@Ne Nat I D) ∧ (@Ne Nat C D)) →
      wpAny (model prog w) A (isTrue ct (compEnvC scope cl C env) (eval ct (compEnvC scope cl C env))) (fun ok s' => if ok = true then
        wpAny (model prog w) A (eval elt (compEnvC scope cl C env)) (fun y s'' => PureEnd h₀ L m ((I, oI) :: (C, oC) :: (D, LCg.lst ys) :: news) { s with heap := h, toks := tk } s'' (R v (some y))) E' s'
        else PureEnd h₀ L m ((I, oI) :: (C, oC) :: (D, LCg.lst ys) :: news) { s with heap := h, toks := tk } s' (R v none)) E' { s with heap := h, toks := tk })
    (fin : ∀ ys, Picked R its ys → Fin ys news) : LCt.CompRestT prog w A h₀ L m env ct elt x scope cl s S (fun i v => its.toArray[i]? = some v) Fin its.toArray.size 0 [] news := by
  have main : ∀ k i ys, i + k = its.length → Picked R (its.take i) ys → LCt.CompRestT prog w A h₀ L m env ct elt x scope cl s S (fun i v => its.toArray[i]? = some v) Fin k i ys news := by
    intro k
    induction k with
    | zero =>
      intro i ys hi hp
      refine LCt.CompRestT.zero (fin ys ?_)
      rw [List.take_of_length_le (by (first | lia | omega))] at hp
      exact hp
    | succ k ih =>
      intro i ys hi hp
      refine LCt.CompRestT.succ ?_
      intro v I oI C oC D m₂ h tk E' hv hC hx F N off ne
      have hv' : its[i]? = some v := by simpa using hv
      have ht : its.take (i + 1) = its.take i ++ [v] := by rw [List.take_add_one, hv']; rfl
      refine wpAny_mono (turn v I oI C oC D ys m₂ h tk E' (List.mem_of_getElem? hv') hC hx F N off ne) (fun ok s' q => ?_) fun _ _ e => e
      cases ok with
      | true =>
        simp only [if_true] at q ⊢
        refine wpAny_mono q (fun y s'' q => ?_) fun _ _ e => e
        obtain ⟨h', tk', rfl, F', N', hr⟩ := q
        exact ⟨h', tk', news, rfl, F', N', off, hS, ih (i + 1) _ (by (first | lia | omega)) (by rw [ht]; exact hp.snoc_keep hr)⟩
      | false =>
        simp only [Bool.false_eq_true, if_false] at q ⊢
        obtain ⟨h', tk', rfl, F', N', hr⟩ := q
        exact ⟨h', tk', news, rfl, F', N', off, hS, ih (i + 1) _ (by (first | lia | omega)) (by rw [ht]; exact hp.snoc_skip hr)⟩
  rw [List.size_toArray]
  exact main _ 0 [] (by (first | lia | omega)) (by simpa using Picked.nil)
theorem rest_pure {elt : Expr} {x : Str} {scope : Scope} {cl : List (Str × Addr)} {S : List (Addr × Obj) → Prop} {P : Nat → Value → Prop} {n : Nat} {news : List (Addr × Obj)} {Fin : List Value → List (Addr × Obj) → Prop} (R : Nat → Value → Value → Prop) (hS : S news)
    (turn : ∀ i v I oI C oC D ys m₂ h tk (E' : Value → Shared → Prop), i < n → P i v → LCg.NsObj oC m₂ → m₂ x = some v → Fr h₀ L h m → News h₀ L h ((I, oI) :: (C, oC) :: (D, LCg.lst ys) :: news) → LCg.Off3 I C D news → ((@Ne Nat I C) ∧ (@Ne Nat I D) ∧ (@Ne Nat C D)) →
      wpAny (model prog w) A (eval elt (compEnvC scope cl C env)) (fun y s'' => PureEnd h₀ L m ((I, oI) :: (C, oC) :: (D, LCg.lst ys) :: news) { s with heap := h, toks := tk } s'' (R i v y)) E' { s with heap := h, toks := tk })
    (fin : ∀ ys : List Value, ys.length = n → (∀ i y, ys[i]? = some y → ∃ v, P i v ∧ R i v y) → Fin ys news) : LCg.CompRest prog w A h₀ L m env elt x scope cl s S P Fin n 0 [] news := by
  have main : ∀ k i (ys : List Value), i + k = n → ys.length = i → (∀ j y, ys[j]? = some y → ∃ v, P j v ∧ R j v y) → LCg.CompRest prog w A h₀ L m env elt x scope cl s S P Fin k i ys news := by
    intro k
    induction k with
    | zero =>
      intro i ys hi hl hp
      exact LCg.CompRest.zero (fin ys (by (first | lia | omega)) hp)
    | succ k ih =>
      intro i ys hi hl hp
      refine LCg.CompRest.succ ?_
      intro v I oI C oC D m₂ h tk E' hv hC hx F N off ne
      refine wpAny_mono (turn i v I oI C oC D ys m₂ h tk E' (by (first | lia | omega)) hv hC hx F N off ne) (fun y s'' q => ?_) fun _ _ e => e
      obtain ⟨h', tk', rfl, F', N', hr⟩ := q
      refine ⟨h', tk', news, rfl, F', N', off, hS, ih (i + 1) _ (by (first | lia | omega)) (by simp [hl]) ?_⟩
      intro j z hz
      by_cases hj : j < ys.length
      · rw [List.getElem?_append_left hj] at hz
        exact hp j z hz
      · rw [List.getElem?_append_right (by (first | lia | omega))] at hz
        have h1 := (List.getElem?_eq_some_iff.mp hz).1
        simp at h1
        have e : j = i := by (first | lia | omega)
        subst e
        rw [show j - ys.length = 0 by (first | lia | omega)] at hz
        simp at hz
        subst hz
        exact ⟨v, hv, hr⟩
  exact main n 0 [] (by (first | lia | omega)) rfl (fun j y h => by simp at h)
end
/-- a piece of _law_deal's comprehension -/
def dealOne (a : Str) : Str := Txt.slice a (some 1) none ++ Str.ofString "\t"
def DealR (v : Value) (o : Option Value) : Prop := ∃ a t, v = .str a t ∧ match o with | some y => 1 < a.length ∧ ∃ t', y = .str (dealOne a) t' | none => ¬ 1 < a.length
theorem deal_picked : ∀ {vs ys : List Value} {as : List Str}, StrsAre vs as → Picked DealR vs ys → StrsAre ys ((as.filter fun a => decide (1 < a.length)).map dealOne)
  | _, _, _, .nil, h => by cases h; exact .nil
  | _, _, _, .cons a t hr, h => by
    cases h with
    | skip h1 h2 =>
      obtain ⟨b, u, e, hb⟩ := h1
      cases e
      rw [List.filter_cons_of_neg (by simpa using hb)]
      exact deal_picked hr h2
    | keep h1 h2 =>
      obtain ⟨b, u, e, hb, t', rfl⟩ := h1
      cases e
      rw [List.filter_cons_of_pos (by simpa using hb), List.map_cons]
      exact .cons _ _ (deal_picked hr h2)
theorem strs_mem : ∀ {vs : List Value} {as : List Str} {v : Value}, StrsAre vs as → v ∈ vs → ∃ a t, a ∈ as ∧ v = .str a t
  | _, _, _, .nil, h => nomatch h
  | _, _, _, .cons a t hr, h => by
    rcases List.mem_cons.mp h with rfl | h
    · exact ⟨a, t, .head _, rfl⟩
    · obtain ⟨b, u, hb, e⟩ := strs_mem hr h
      exact ⟨b, u, .tail _ hb, e⟩
/-- what _law_deal makes of a lead -/
def dealS (x : Str) (k : Int) : Str := Txt.join (Str.ofString "") (((Txt.split x (Str.ofString "\t")).filter fun a => decide (1 < a.length)).map dealOne) ++ Txt.mul (Str.ofString " ") k ++ Str.ofString "\t"
theorem dealOne_len (a : Str) (h : 1 < a.length) : (dealOne a).length = a.length := by
  have e : Txt.slice a (some 1) none = S (a.cps.toList.drop 1) := slice_from (i := 1) (by (first | lia | omega))
  unfold dealOne
  rw [e, litTab, S_app, S_len, List.length_append, List.length_drop, len_list]
  simp
  (first | lia | omega)
theorem deal_sum : ∀ (l : List Str), (((l.filter fun a => decide (1 < a.length)).map dealOne).map (·.length)).sum + ((l.filter fun a => decide (1 < a.length)).map dealOne).length ≤ (l.map (·.length)).sum + l.length
  | [] => by simp
  | a :: l => by
    have ih := deal_sum l
    by_cases h : 1 < a.length
    · rw [List.filter_cons_of_pos (by simpa using h)]
      have := dealOne_len a h
      simp only [List.map_cons, List.sum_cons, List.length_cons]
      (first | lia | omega)
    · rw [List.filter_cons_of_neg (by simpa using h)]
      simp only [List.map_cons, List.sum_cons, List.length_cons]
      (first | lia | omega)
theorem deal_weight (x : Str) : ((((Txt.split x (Str.ofString "\t")).filter fun a => decide (1 < a.length)).map dealOne).map (·.length)).sum + (((Txt.split x (Str.ofString "\t")).filter fun a => decide (1 < a.length)).map dealOne).length ≤ x.length + 1 := by
  refine Nat.le_trans (deal_sum _) (split_weight x _ ?_)
  rw [litTab, S_len]
  decide
theorem deal_join_len (x : Str) : (Txt.join (Str.ofString "") (((Txt.split x (Str.ofString "\t")).filter fun a => decide (1 < a.length)).map dealOne)).length ≤ x.length + 1 := by
  have h := StrLaws.join_length_le (Str.ofString "") (((Txt.split x (Str.ofString "\t")).filter fun a => decide (1 < a.length)).map dealOne)
  have e : (Str.ofString "").length = 0 := by rw [lit0, S_len]; rfl
  have w := deal_weight x
  rw [e, Nat.mul_zero] at h
  unfold Txt.join
  rw [StrLaws.glued_eq_join]
  (first | lia | omega)
end Mine
namespace Mine
theorem eq_int_hid {prog : Program} {w : World} {A : Around} {E : Value → Shared → Prop} {s : Shared} {a b : Int} {t u : Tok} {Q : Value → Shared → Prop} (h : ∀ c : Bool, PySem.Flt.Hid (c = (a == b)) → Q (.bool c) s) : wpAny (model prog w) A (compareOp .Eq (.int a t) (.int b u)) Q E s :=
  PyProof.Rows.eq_int (h _ (.mk rfl))
end Mine
namespace Mine
/-- does a heap end behind card c? -/
def firstT (d c : Int) : Bool := decide (c = 5 + d.fmod 5) || (((d.fdiv 5).fdiv (2 ^ c.toNat)).fmod 2 == 1)
def firstL (d : Int) (l : List Int) : List Nat := l.flatMap fun c => if firstT d c then [32, 9] else [32]
def FirstI (d : Int) (pre : List Int) (x : Str) : Prop := x = S (firstL d pre) ∧ (x.length : Int) ≤ 2 * (pre.length : Int)
theorem FirstI.start {d : Int} : FirstI d [] (Str.ofString "") := by
  refine ⟨lit0, ?_⟩
  rw [lit0, S_len]; decide
theorem FirstI.tab {d n : Int} {pre : List Int} {x : Str} (h : FirstI d pre x) (ht : firstT d n = true) : FirstI d (pre ++ [n]) (x ++ Str.ofString " " ++ Str.ofString "\t") := by
  obtain ⟨e, hl⟩ := h
  rw [litSp, litTab]
  refine ⟨?_, ?_⟩
  · rw [e, S_app, S_app]
    congr 1
    unfold firstL
    rw [List.flatMap_append, List.append_assoc]
    simp [ht]
  · rw [Str.length_append, Str.length_append, S_len, S_len, List.length_append]
    simp
    (first | lia | omega)
theorem FirstI.no {d n : Int} {pre : List Int} {x : Str} (h : FirstI d pre x) (ht : firstT d n = false) : FirstI d (pre ++ [n]) (x ++ Str.ofString " ") := by
  obtain ⟨e, hl⟩ := h
  rw [litSp]
  refine ⟨?_, ?_⟩
  · rw [e, S_app]
    congr 1
    unfold firstL
    rw [List.flatMap_append]
    simp [ht]
  · rw [Str.length_append, S_len, List.length_append]
    simp
    (first | lia | omega)
theorem firstT_last {d n : Int} (h : n = 5 + d.fmod 5) : firstT d n = true := by unfold firstT; simp [h]
theorem firstT_bit {d n : Int} {c : Bool} (h : n ≠ 5 + d.fmod 5) (hc : PySem.Flt.Hid (c = (((d.fdiv 5).fdiv (2 ^ n.toNat)).fmod 2 == 1))) (b : Bool) (e : c = b) : firstT d n = b := by
  unfold firstT
  rw [← hc.out, e, decide_eq_false h, Bool.false_or]
def firstS (d : Int) : Str := S (firstL d (rangeKs 0 (6 + d.fmod 5).toNat))
end Mine
namespace Mine
def colGo (k : Int) : List Nat → Int → Int
  | [], c => c
  | a :: r, c => colGo k r (c + if a = 32 then 1 else k - c.fmod k)
def colF (x : Str) (k : Int) : Int := colGo k x.cps.toList 0
def ColI (x : Str) (k : Int) (i : Nat) (c : Int) : Prop := colGo k (x.cps.toList.drop i) c = colF x k ∧ 0 ≤ c ∧ c ≤ 1000 * (i : Int)
theorem ColI.step {x : Str} {k c : Int} {i a : Nat} (h : ColI x k i c) (hk0 : 1 ≤ k) (hk1 : k ≤ 1000) (ha : x.cps.toList[i]? = some a) (d : Int) (hd : d = if a = 32 then 1 else k - c.fmod k) : ColI x k (i + 1) (c + d) := by
  obtain ⟨h1, h2, h3⟩ := h
  rw [drop_at ha] at h1
  have f1 := Int.fmod_lt_of_pos c (b := k) (by (first | lia | omega))
  have f2 := Int.fmod_nonneg_of_pos c (b := k) (by (first | lia | omega))
  refine ⟨?_, ?_, ?_⟩
  · rw [hd]; exact h1
  · split at hd <;> (first | lia | omega)
  · split at hd <;> (first | lia | omega)
end Mine
namespace Mine
open PySem.Spec PySem.SeqAt
def normD (ns : List Int) (b : Int) : PyData := .tuple [.tuple (ns.map PyData.int), .int b]
theorem reads_norm {h : Heap} {tn tc : Addr} {vs : List Value} {ns : List Int} {b : Int} {t : Tok} (h1 : IsTup h tn [.ref tc, .int b t].toArray) (h2 : IsTup h tc vs.toArray) (hi : IntsAre vs ns) : Reads h (.ref tn) (normD ns b) [] := by
  obtain ⟨o, ho, hc, n, hd⟩ := h1
  obtain ⟨o', ho', hc', n', hd'⟩ := h2
  have r1 : Reads h (.ref tc) (.tuple (ns.map PyData.int)) [] := Reads.tuple ho' hc' hd' (by simpa using readsAll_of_ints hi)
  have r2 : ReadsAll h [.ref tc, .int b t] [.tuple (ns.map PyData.int), .int b] [] := by
    have := ReadsAll.cons r1 (ReadsAll.cons (Reads.int b t) (ReadsAll.nil (h := h)))
    simpa using this
  exact Reads.tuple ho hc hd (by simpa using r2)
theorem shaped_norm (ns : List Int) (b : Int) : shaped (normD ns b) = true := by
  have h1 := W.depthAll_ints ns
  have h2 : PyData.depth (normD ns b) ≤ 64 := by simp only [normD, PyData.depth, PyData.depthAll]; (first | lia | omega)
  show (PyData.canLay0 (normD ns b) && decide (PyData.depth (normD ns b) ≤ 64)) = true
  rw [Bool.and_eq_true]
  refine ⟨?_, decide_eq_true h2⟩
  simp only [normD, PyData.canLay0, PyData.canLayAll0, canLayAll0_ints, Bool.and_self]
theorem noMix_norm (ns ms : List Int) (b c : Int) : noMix (normD ns b) (normD ms c) = true := by
  simp only [normD, noMix, noMixAll, noMix_ints, Bool.and_self]
theorem same_norm (ns ms : List Int) (b c : Int) : PySem.Spec.same (normD ns b) (normD ms c) = decide (ns = ms ∧ b = c) := by
  simp only [normD, PySem.Spec.same, PySem.Spec.sameAll, same_ints, Bool.and_true]
  by_cases h1 : ns = ms <;> by_cases h2 : b = c <;> simp [h1, h2]
section
variable {prog : Program} {w : World} {A : Around} {E : Value → Shared → Prop} {s : Shared} {Q : Value → Shared → Prop} {tn tc tn' tc' : Addr} {vs vs' : List Value} {ns ns' : List Int} {b b' : Int} {t t' : Tok}
theorem norm_eq (h1 : IsTup s.heap tn [.ref tc, .int b t].toArray) (h2 : IsTup s.heap tc vs.toArray) (hi : IntsAre vs ns) (h1' : IsTup s.heap tn' [.ref tc', .int b' t'].toArray) (h2' : IsTup s.heap tc' vs'.toArray) (hi' : IntsAre vs' ns') (hu : A.units + 64 < cLine)
    (h : Q (.bool (decide (ns = ns' ∧ b = b'))) s) : wpAny (model prog w) A (compareOp .Eq (.ref tn) (.ref tn')) Q E s :=
  eq_dataH_same (reads_norm h1 h2 hi) (reads_norm h1' h2' hi') (shaped_norm ns b) (shaped_norm ns' b') hu (noMix_norm ns ns' b b') (by rw [same_norm]; exact h)
theorem norm_ne (h1 : IsTup s.heap tn [.ref tc, .int b t].toArray) (h2 : IsTup s.heap tc vs.toArray) (hi : IntsAre vs ns) (h1' : IsTup s.heap tn' [.ref tc', .int b' t'].toArray) (h2' : IsTup s.heap tc' vs'.toArray) (hi' : IntsAre vs' ns') (hu : A.units + 64 < cLine)
    (h : Q (.bool (!decide (ns = ns' ∧ b = b'))) s) : wpAny (model prog w) A (compareOp .NotEq (.ref tn) (.ref tn')) Q E s :=
  ne_dataH_same (reads_norm h1 h2 hi) (reads_norm h1' h2' hi') (shaped_norm ns b) (shaped_norm ns' b') hu (noMix_norm ns ns' b b') (by rw [same_norm]; exact h)
end
end Mine
namespace Mine
def moreM (x : Str) (r k : Int) : Int := (ilF x k - r).fdiv k
def moreLast (x : Str) (c r : Int) : Int := moreM x r 1 - c - 3
def moreFirst (x : Str) (c r : Int) : Int := moreM x r 4 - 3 - moreLast x c r
def moreSecond (x : Str) (c r : Int) : Int := moreM x r 3 - 4 - moreLast x c r
def moreThird (x : Str) (c r : Int) : Int := moreM x r 2 - 5 - moreLast x c r - moreFirst x c r
theorem four_of {ys : List Value} {f : Int → Int} (hl : ys.length = 4) (hy : ∀ (i : Nat) (y : Value), ys[i]? = some y → ∃ t', y = Value.int (f ((i : Int) + 1)) t') : ∃ a b c d, ys = [Value.int (f 1) a, Value.int (f 2) b, Value.int (f 3) c, Value.int (f 4) d] := by
  obtain ⟨y1, y2, y3, y4, rfl⟩ := len_four hl
  obtain ⟨a, rfl⟩ := hy 0 y1 rfl
  obtain ⟨b, rfl⟩ := hy 1 y2 rfl
  obtain ⟨c, rfl⟩ := hy 2 y3 rfl
  obtain ⟨d, rfl⟩ := hy 3 y4 rfl
  exact ⟨a, b, c, d, rfl⟩
theorem four_at {i : Nat} {v : Value} {a b c d : Tok} (h : (#[Value.int 1 a, Value.int 2 b, Value.int 3 c, Value.int 4 d] : Array Value)[i]? = some v) : ∃ t, (i : Int) + 1 ≤ 4 ∧ v = Value.int ((i : Int) + 1) t := by
  rcases i with _ | _ | _ | _ | i <;> simp at h <;> subst h <;> exact ⟨_, by decide, rfl⟩
end Mine
namespace Mine
theorem slice3_off {x : Str} (h : 3 ≤ x.length) (h3 : x.cps.toList.take 3 ≠ [50, 53, 55]) (e : (Txt.slice x none (some 3) != Str.ofString "257") = false) : False := by
  have e' : Txt.slice x none (some 3) = S (x.cps.toList.take 3) := slice_to (j := 3) (by (first | lia | omega))
  rw [e', lit257, bne_false] at e
  exact h3 (S_inj e)
end Mine
namespace Mine
open PySem.Spec PySem.SeqAt
theorem shaped_one (x : Str) (hx : PyData.strOk x = true) : shaped (.list [.str x]) = true := by
  have h2 : PyData.depth (.list [.str x]) ≤ 64 := by simp only [PyData.depth, PyData.depthAll]; (first | lia | omega)
  show (PyData.canLay0 (.list [.str x]) && decide (PyData.depth (.list [.str x]) ≤ 64)) = true
  rw [Bool.and_eq_true]
  refine ⟨?_, decide_eq_true h2⟩
  simp [PyData.canLay0, PyData.canLayAll0, hx]
theorem ne_one {prog : Program} {w : World} {A : Around} {E : Value → Shared → Prop} {s : Shared} {Q : Value → Shared → Prop} {a b : Addr} {x y : Str} {t u : Tok} (h1 : s.heap.IsList a #[.str x t]) (h2 : s.heap.IsList b #[.str y u]) (hx : PyData.strOk x = true) (hy : PyData.strOk y = true) (hu : A.units + 64 < cLine)
    (h : Q (.bool (x != y)) s) : wpAny (model prog w) A (compareOp .NotEq (.ref a) (.ref b)) Q E s := by
  obtain ⟨o, ho, hc, n, hd⟩ := h1
  obtain ⟨o', ho', hc', n', hd'⟩ := h2
  have r1 : Reads s.heap (.ref a) (.list [.str x]) [a] := by
    have := Reads.list ho hc hd (ReadsAll.cons (Reads.str x t) (ReadsAll.nil (h := s.heap)))
    simpa using this
  have r2 : Reads s.heap (.ref b) (.list [.str y]) [b] := by
    have := Reads.list ho' hc' hd' (ReadsAll.cons (Reads.str y u) (ReadsAll.nil (h := s.heap)))
    simpa using this
  refine ne_dataH_same r1 r2 (shaped_one x hx) (shaped_one y hy) hu (by simp [noMix, noMixAll]) ?_
  have e : PySem.Spec.same (.list [.str x]) (.list [.str y]) = (x == y) := by simp [PySem.Spec.same, PySem.Spec.sameAll]
  rw [e]
  exact h
end Mine
namespace Mine
theorem three_ints {vs : List Value} {ns : List Int} (hi : IntsAre vs ns) (hl : ns.length = 3) : ∃ d1 d2 d3 t1 t2 t3, vs = [.int d1 t1, .int d2 t2, .int d3 t3] ∧ ns = [d1, d2, d3] := by
  cases hi with
  | nil => simp at hl
  | cons a ta h =>
    cases h with
    | nil => simp at hl
    | cons b tb h =>
      cases h with
      | nil => simp at hl
      | cons c tc h =>
        cases h with
        | nil => exact ⟨a, b, c, ta, tb, tc, rfl, rfl⟩
        | cons d td h => simp at hl
theorem four_ints {vs : List Value} {ns : List Int} (hi : IntsAre vs ns) (hl : ns.length = 4) : ∃ d1 d2 d3 d4 t1 t2 t3 t4, vs = [.int d1 t1, .int d2 t2, .int d3 t3, .int d4 t4] ∧ ns = [d1, d2, d3, d4] := by
  cases hi with
  | nil => simp at hl
  | cons a ta h =>
    obtain ⟨b, c, d, tb, tc, td, rfl, rfl⟩ := three_ints h (by simpa using hl)
    exact ⟨a, b, c, d, ta, tb, tc, td, rfl, rfl⟩
/-- what law 2 (and law 1) takes for a tail -/
def TailIs (c : Nat) (x : Str) : Prop := ∃ t, x = S t ∧ (t = [] ∨ t = [34] ∨ t = [34, 32, c] ∨ t = [34, c, 34])
theorem tail_item {prog : Program} {w : World} {A : Around} {E : Value → Shared → Prop} {s : Shared} {l : Addr} {value slice : PySem.Expr} {e1 e2 e3 e4 : Str} {t1 t2 t3 t4 u : Tok} {k : Int} {c : Nat} {Q : Value → Shared → Prop} (hl : s.heap.IsList l #[.str e1 t1, .str e2 t2, .str e3 t3, .str e4 t4]) (h0 : 0 ≤ k) (h1 : k < 4)
    (h2 : TailIs c e1 ∧ TailIs c e2 ∧ TailIs c e3 ∧ TailIs c e4) (h : ∀ x t, x.length ≤ 3 → TailIs c x → Q (.str x t) s)
    (hs : subscripted slice false (.ref l) (.int k u) = operate [.ref l, .int k u] (getItem (.ref l) (.int k u)) := by with_unfolding_all rfl) :
    wpAny (model prog w) A (subscriptTail value slice (.ref l) (.int k u)) Q E s := by
  have hlen : ∀ x, TailIs c x → x.length ≤ 3 := by
    rintro x ⟨t, rfl, h⟩
    rw [S_len]
    rcases h with rfl | rfl | rfl | rfl <;> simp
  obtain ⟨x, t, hx, hT⟩ : ∃ x t, (#[.str e1 t1, .str e2 t2, .str e3 t3, .str e4 t4] : Array Value)[k.toNat]? = some (.str x t) ∧ TailIs c x := by
    have : k = 0 ∨ k = 1 ∨ k = 2 ∨ k = 3 := by (first | lia | omega)
    rcases this with rfl | rfl | rfl | rfl
    · exact ⟨e1, t1, rfl, h2.1⟩
    · exact ⟨e2, t2, rfl, h2.2.1⟩
    · exact ⟨e3, t3, rfl, h2.2.2.1⟩
    · exact ⟨e4, t4, rfl, h2.2.2.2⟩
  exact tail_any hl.typeIs slot_list_getitem.lookup (wpAny_getItem_list hl h0 (by (first | lia | omega)) hx (h x t (hlen x hT) hT)) hs
theorem tail_four (c : Nat) : TailIs c (Str.ofString "") ∧ TailIs c (Str.ofString "\"") ∧ TailIs c (Str.ofString "\" " ++ ⟨#[c]⟩) ∧ TailIs c (Str.ofString "\"" ++ ⟨#[c]⟩ ++ Str.ofString "\"") := by
  refine ⟨⟨[], lit0, .inl rfl⟩, ⟨[34], litQ, .inr (.inl rfl)⟩, ⟨[34, 32, c], ?_, .inr (.inr (.inl rfl))⟩, ⟨[34, c, 34], ?_, .inr (.inr (.inr rfl))⟩⟩
  · rw [show Str.ofString "\" " = S [34, 32] from by decide +kernel, show (⟨#[c]⟩ : Str) = S [c] from rfl, S_app]; rfl
  · rw [litQ, show (⟨#[c]⟩ : Str) = S [c] from rfl, S_app, S_app]; rfl
end Mine
end
section
open PySem PySem.W PyProof.Rows PySem.Calls PySem.Spec
open PySem.Builtin PySem.Builtin.Str PySem.Builtin.BaseException
namespace Mine
section
variable {prog : Program} {w : World} {A : Around} {E : Value → Shared → Prop} {s : Shared} {K : Frag} {e t C : Addr} {oe : Obj} {ws : Array Value} {x : PySem.Str} {tk : Tok}
theorem excArgs_at {M : Model} {items : List Value} {Q : Value × List Value → Shared → Prop} (ho : s.heap.get? e = some oe) (hd : oe.data = .fields ws) (h0 : ws[0]? = some (.ref t)) (ht : s.heap.TupAt t items) (hq : Q (.ref t, items) s) :
    wpAny M A (bexcArgs (.ref e)) Q E s := by
  obtain ⟨ot, k, hto, _, htd⟩ := ht
  unfold bexcArgs
  refine wpAny_bind (wpAny_field ho hd h0 (wpAny_bind (wpAny_seqItems hto htd ?_)))
  exact wpAny_pure (by simpa using hq)
theorem excStr_body {Q : Fin → Shared → Prop} (ho : s.heap.get? e = some oe) (hd : oe.data = .fields ws) (h0 : ws[0]? = some (.ref t)) (ht : s.heap.TupAt t [.str x tk]) (hq : Q (.done (.ret (.str x tk))) s) :
    wpAny (model prog w) A (Builtin.«BaseException.__str__» ⟨[.ref e], []⟩) Q E s := by
  unfold Builtin.«BaseException.__str__»
  repeat (first | with_reducible refine excArgs_at ho hd h0 ht ?_ | wp_step)
  exact hq
theorem excStr_plain : plainId "BaseException.__str__" = true := by decide +kernel
theorem excStr_kind : builtinKind "BaseException.__str__" = some .slot := by decide +kernel
theorem excStr_split : splitId "BaseException.__str__" = some ("BaseException", "__str__") := by decide +kernel
theorem exc_type (ho : s.heap.get? e = some oe) (hc : oe.cls = .ref C) : Looks (model prog w) s.heap (typeOf (.ref e)) (.ref C) := by
  have L : Looks (model prog w) s.heap (typeOf (.ref e)) oe.cls := (Looks.ld ho).andThen .now
  rw [hc] at L
  exact L
theorem excStr_call {Q : Value → Shared → Prop} (X : K.In s.heap) (hm : mroIn K C (.type "BaseException") = some true) (ho : s.heap.get? e = some oe) (hc : oe.cls = .ref C) (hd : oe.data = .fields ws) (h0 : ws[0]? = some (.ref t)) (ht : s.heap.TupAt t [.str x tk]) (hq : Q (.str x tk) s) :
    wpAny (model prog w) A (call (.builtin "BaseException.__str__") [.ref e]) Q E s := by
  have L : Looks (model prog w) s.heap (isInstance (.ref e) (.type "BaseException")) true := (exc_type ho hc).andThen (looks_mroIn X hm)
  refine wpAny_call (codeAny_call_builtin excStr_plain F.entry_bexc_str (@check_slot (model prog w) _ _ _ "BaseException.__str__" "BaseException" "__str__" (.ref e) [] [] _ excStr_kind excStr_split L (F.args_bexc_str (.ref e)) ?_))
  exact excStr_body ho hd h0 ht hq
theorem excStr_of {Q : Value → Shared → Prop} (hu : A.units < cLine) (X : K.In s.heap) (hs : findIn K (.ref C) "__str__" = some (some (.builtin "BaseException.__str__"))) (hm : mroIn K C (.type "BaseException") = some true) (ho : s.heap.get? e = some oe) (hc : oe.cls = .ref C) (hd : oe.data = .fields ws) (h0 : ws[0]? = some (.ref t)) (ht : s.heap.TupAt t [.str x tk]) (hq : Q (.str x tk) s) :
    wpAny (model prog w) A (PySem.Builtin.Str.strOf (.ref e)) Q E s := by
  unfold PySem.Builtin.Str.strOf
  rw [show isExactStr (.ref e) = false from rfl]
  refine wpAny_bind (m := cRoomFor _ _) (wpAny_cRoomFor hu ?_)
  refine wpAny_bind (m := callSpecial? (.ref e) (PySem.Str.ofString "__str__")) ?_
  unfold callSpecial?
  refine wpAny_bind ?_
  unfold specialOf
  refine wpAny_bind ((exc_type ho hc).here ((looks_findIn X hs).here ?_))
  refine wpAny_holding (wpAny_bind ((Looks.of_pure (F.excStr_Exception.str.bind (.ref e))).here (wpAny_bind ?_)))
  exact excStr_call X hm ho hc hd h0 ht (wpAny_pure (wpAny_pure hq))
theorem str_own_exc {Q : Value → Shared → Prop} {h₀ : Heap} {L : Addr} {news : List (Addr × Obj)} (hu : A.units + 2 < cLine) (X : K.In s.heap) (N : News h₀ L s.heap news) (G : Got news e t (.ref C) [.str x tk]) (hs : findIn K (.ref C) "__str__" = some (some (.builtin "BaseException.__str__"))) (hm : mroIn K C (.type "BaseException") = some true)
    (hq : Q (.str x tk) s) : wpAny (model prog w) A (call (.type "str") [.ref e]) Q E s := by
  obtain ⟨oe, ot, ws, nt, h1, h2, hc, hd, h0, htc, htd⟩ := G
  have he := N.get h1
  have ht : s.heap.TupAt t [.str x tk] := ⟨ot, nt, N.get h2, htc, htd⟩
  exact callType_new F.called_str (by decide) (F.typeCall_str_1 _) (F.newCall_str_1 _) (fun obj => F.args_object_init_2 obj _) F.entry_str_new
    (meets_str_new (S := fun A' R s' => A'.units + 1 < cLine ∧ s'.heap = s.heap ∧ R (.ok (.ret (.str x tk))) s')
      fun _ _ A' R s' hq => excStr_of (A := A'.in1) (K := K) hq.1 (by rw [hq.2.1]; exact X) hs hm (by rw [hq.2.1]; exact he) hc hd h0 (by rw [hq.2.1]; exact ht) hq.2.2)
    ⟨(show A.units + 1 + 1 < cLine from hu), rfl, typeIs_str _ _ _, hq⟩
end
/-- a def entered from any frame of the stack's bottom: as code_defS0, for a frame with cells too -/
theorem ground_turn {h₀ g g' : Heap} {L : Addr} {m : PySem.Str → Option Value} (F : Fr h₀ L g m) (T : KtsTurn [L] g g') : Fr h₀ L g' m := by
  obtain ⟨oL, es, ep, hL, hLd, hLk, hLf⟩ := F.ns
  obtain ⟨sl, hs⟩ := T.up hL
  refine ⟨⟨_, es, ep, hs, hLd, hLk, hLf⟩, fun b o e => T.other b o (F.keep b o e) fun hm => ?_, F.above⟩
  rw [List.mem_singleton.mp hm, kts_self F] at e
  cases e
section
variable {prog : Program} {w : World} {A₀ A : Around} {s : Shared} {base h₀ : Heap} {L : Addr} {env : Env} {m : PySem.Str → Option Value} {news : List (Addr × Obj)} {K : Frag} {p : Program} {loose : List PySem.Str} {mean : ExcName → Option Value} {mg mb : PySem.Str → Option Value}
    {R : Result → Shared → Prop} {name qual : PySem.Str} {params : Arguments} {body : List Stmt} {scope : Scope} {dV kV doc pm cdv ct oc : Value} {an od : Option Addr} {osl : Array (Option Value)} {f : Addr} {args : Args} {binds : List (PySem.Str × Value)}
theorem enter_try (B : Below A₀ base [] h₀) (F : Fr h₀ L s.heap m) (X₀ : K.In h₀) (N : News h₀ L s.heap news) (T : Top p loose mean mg mb h₀) (hA : A.frames = some [env]) (hf : env.frame = some L) (hke : env.scope.kind = .function)
    (ho : K.lookup f = some ⟨oc, od, .func (fnOf name qual params body scope dV kV doc pm an cdv ct), osl⟩) (hcd : codeIn K cdv qual = true) (hroom : A.depth < recursionLimit)
    (hbind : BindsTo s (fnOf name qual params body scope dV kV doc pm an cdv ct) args binds) (hloc : ∀ y ∈ binds, scope.names.lookup y.1 = some .local)
    (h : ∀ g L' h₁, Fr h₀ L g m → Fr g L' h₁ (fun y => binds.reverse.lookup y) → News g L' h₁ news → Below A base [env] g → K.In g → Top p loose mean mg mb g → KtsDicts ([env].filterMap (·.frame)) g → (∀ p ∈ news, p.1 < L') →
      wpAny (model prog w) (A.deeper (envOf qual scope L' f cdv)) (execs body (envOf qual scope L' f cdv))
        (fun fl s' => LeaveS0 ([env].filterMap (·.frame)) h₀ L m g R (match fl with | .ret v => v | _ => .none) s')
        (fun e s' => wpAny (model prog w) (A.deeper (envOf qual scope L' f cdv)) (leaving (envOf qual scope L' f cdv) e) (fun _ s'' => R (.error e) s'') (fun e' s'' => R (.error e') s'') s')
        { s with heap := h₁, toks := s.toks + binds.length })
    (hco : scope.isCoroutine = false) (hgen : scope.isGenerator = false) (hk : scope.kind = .function)
    (hcell : ∀ x ∈ scope.names, x.2 ≠ .cell) : codeAny (model prog w) A (.call (.ref f) args) R s := by
  obtain ⟨FG, BG, st, _⟩ := groundX (R := R) B F N hA hf hke
  have X := X₀.keeps F.keep
  have hfr : [env].filterMap (·.frame) = [L] := by simp [hf]
  refine codeAny_call_def (fd := fnOf name qual params body scope dV kV doc pm an cdv ct) (body := body) (binds := binds) hroom (X _ _ ho) rfl (T.nolimit.keeps F.keep) (codeRec_of X hcd) rfl hbind hcell hloc (fun h₁ hns hk₁ => ?_) hco hgen hk
  have D : KtsDicts ([env].filterMap (·.frame)) (hideAll s.heap (news.map (·.1))) := by
    rw [hfr]
    intro b hb
    obtain ⟨oL, es, ep, hL, hLd, _⟩ := FG.ns
    rw [List.mem_singleton.mp hb]
    exact ⟨oL, es, ep, hL, hLd⟩
  refine wpAny_mono (h _ s.heap.objs.size h₁ FG ⟨hns, fun b o e => hk₁ b o (of_hideAll _ e), Nat.le_of_eq (hideAll_size _ _)⟩
    (fun p hp => ⟨hk₁ _ _ (N p hp).1, Nat.ne_of_lt (Heap.lt_size (N p hp).1), hideAll_none _ (List.mem_map_of_mem hp)⟩) BG (X₀.keeps st) (T.keeps st) D (fun p hp => Heap.lt_size (N p hp).1)) (fun fl s' hl => ?_) fun _ _ y => y
  obtain ⟨g', L', m', news', T', F', N', k⟩ := hl
  rw [hfr] at T'
  have FG' : Fr h₀ L g' m := ground_turn FG T'
  obtain ⟨oL, es, ep, hL, _⟩ := FG'.ns
  refine k (FG'.keeps F'.keep) fun p hp => ⟨(N' p hp).1, fun q => ?_, ?_⟩
  · have z := (N' p hp).2.2
    rw [q, hL] at z
    cases z
  · cases q : h₀.get? p.1 with
    | none => rfl
    | some o =>
      have z := (N' p hp).2.2
      rw [FG'.keep _ _ q] at z
      cases z
end
end Mine
end
section
open PySem PySem.W PyProof.Rows
namespace Mine
theorem S_cps (l : List Nat) : (S l).cps = l.toArray := rfl
theorem S_ext {x : PySem.Str} {l : List Nat} (h : x.cps.toList = l) : x = S l := by
  rw [← h, S_of]
theorem fold_app (c : Nat) : ∀ (k : Nat) (acc : Array Nat), (List.replicate k #[c]).foldl (· ++ ·) acc = acc ++ (List.replicate k c).toArray := by
  intro k
  induction k with
  | zero => intro acc; simp
  | succ k ih =>
    intro acc
    rw [List.replicate_succ, List.foldl_cons, ih, List.replicate_succ]
    apply Array.toList_inj.mp
    simp
theorem txt_mul_one (c : Nat) (n : Int) : Txt.mul (S [c]) n = S (List.replicate n.toNat c) := by
  unfold Txt.mul
  split
  · rw [show n.toNat = 0 by (first | lia | omega)]; rfl
  · split
    · rename_i h1 h2
      have : n = 1 := by simpa [S_len] using h2
      subst this; rfl
    · refine S_ext ?_
      show ((List.replicate n.toNat (S [c]).cps).foldl (· ++ ·) #[]).toList = _
      rw [S_cps, fold_app]
      simp
theorem cnt_is (c : Nat) : ∀ l : List Nat, cnt c l = (l.count c : Int)
  | [] => by simp [cnt_nil]
  | a :: r => by
    rw [cnt_cons, cnt_is c r, List.count_cons]
    by_cases h : a = c
    · simp [h]; (first | lia | omega)
    · simp [h]
theorem count_S (l : List Nat) (c : Nat) : Txt.count (S l) (S [c]) = (l.count c : Int) := by
  rw [show S [c] = ⟨#[c]⟩ from rfl, count_cnt, S_list, cnt_is]
theorem found_S (l : List Nat) (c : Nat) : (Builtin.Str.occurrences (S l) (S [c]) 0 (S l).length 1).isEmpty = !decide (c ∈ l) := by
  have h := StrLaws.found_one (S l) c
  rw [S_list] at h
  rw [← h, show (⟨#[c]⟩ : PySem.Str) = S [c] from rfl, Bool.not_not]
theorem slice_S {l : List Nat} {i : Nat} (h : i ≤ l.length) : Txt.slice (S l) (some (i : Int)) none = S (l.drop i) := by
  have := slice_from (x := S l) (i := i) (by rw [S_len]; exact h)
  rw [this, S_list]
/-- pairs of marks, then something else -/
theorem pgo_marks : ∀ (k : Nat) (r : List Nat), (∀ a q, r = a :: q → a ≠ 34) → pgo (List.replicate k 34 ++ r) = List.replicate (k / 2) 34 ++ (if k % 2 = 0 then pgo r else [])
  | 0, r, _ => by simp
  | 1, r, h => by
    cases r with
    | nil => simp [pgo]
    | cons a q => simp [pgo, h a q rfl]
  | k + 2, r, h => by
    have ih := pgo_marks k r h
    rw [show (k + 2) / 2 = k / 2 + 1 by (first | lia | omega), show (k + 2) % 2 = k % 2 by (first | lia | omega)]
    rw [List.replicate_succ, List.replicate_succ, List.cons_append, List.cons_append]
    show pgo (34 :: 34 :: (List.replicate k 34 ++ r)) = _
    rw [show pgo (34 :: 34 :: (List.replicate k 34 ++ r)) = 34 :: pgo (List.replicate k 34 ++ r) by simp [pgo], ih]
    rfl
theorem pgo_free : ∀ (l r : List Nat), (∀ a ∈ l, a ≠ 34) → pgo (l ++ r) = l ++ pgo r
  | [], _, _ => rfl
  | a :: l, r, h => by
    rw [List.cons_append, pgo_plain (h a (.head _)), pgo_free l r fun b hb => h b (.tail _ hb)]
    rfl
theorem parseF_at (l : List Nat) : parseF (S ([50, 53, 55, 32, 34] ++ l)) = S (pgo l) := by
  unfold parseF
  rw [S_list, if_pos (by rfl)]
  rfl
def repL (k c : Nat) (ds t : List Nat) : List Nat := [50, 53, 55, 32, 34] ++ (List.replicate k 34 ++ (c :: (ds ++ t)))
def toldL (k c : Nat) (ds : List Nat) : List Nat := List.replicate (k / 2) 34 ++ (if k % 2 = 0 then c :: ds else [])
theorem parse_rep {k c : Nat} {ds t : List Nat} (hc : c ≠ 34) (hd : ∀ d ∈ ds, d ≠ 34) (ht : pgo t = []) : parseF (S (repL k c ds t)) = S (toldL k c ds) := by
  unfold repL
  rw [parseF_at, pgo_marks k _ (fun a q e => by cases e; exact hc)]
  unfold toldL
  congr 2
  split
  · rw [show c :: (ds ++ t) = (c :: ds) ++ t from rfl, pgo_free _ _ (fun a ha => by
      rcases List.mem_cons.mp ha with rfl | ha
      · exact hc
      · exact hd a ha), ht, List.append_nil]
  · rfl
theorem count_rep (k : Nat) : (List.replicate k 34).count 34 = k := by simp
theorem count_free (l : List Nat) (h : ∀ a ∈ l, a ≠ 34) : l.count 34 = 0 := List.count_eq_zero.mpr fun hm => h 34 hm rfl
theorem told_count {k c : Nat} {ds : List Nat} (hc : c ≠ 34) (hd : ∀ d ∈ ds, d ≠ 34) : (toldL k c ds).count 34 = k / 2 := by
  unfold toldL
  rw [List.count_append, count_rep]
  split
  · rw [count_free (c :: ds) (fun a ha => by
      rcases List.mem_cons.mp ha with rfl | ha
      · exact hc
      · exact hd a ha)]
    (first | lia | omega)
  · simp
theorem told_mem {k c : Nat} {ds : List Nat} (hc : c ≠ 34) : (c ∈ toldL k c ds) ↔ k % 2 = 0 := by
  unfold toldL
  rw [List.mem_append]
  constructor
  · rintro (h | h)
    · exact absurd (List.eq_of_mem_replicate h) hc
    · split at h
      · assumption
      · cases h
  · intro h
    rw [if_pos h]
    exact .inr (.head _)
/-- what _law_next tells of a letter -/
def nextF (n : Int) : Int := if (n - 65).toNat % 2 = 0 then (((n - 65).toNat / 2 : Nat) : Int) else (((n - 65).toNat / 2 : Nat) : Int) + 8
/-- what the next law's reply is made of -/
structure Parts (ne tl co : PySem.Str) (c : Nat) (ds t : List Nat) : Prop where
  ne : ne = S [c]
  co : co = S ds
  tl : tl = S t
  c34 : c ≠ 34
  len : ds.length = 3
  d34 : ∀ d ∈ ds, d ≠ 34
  pt : pgo t = []
  ok : (∀ d ∈ ds, d < 0x110000) ∧ c < 0x110000 ∧ (∀ d ∈ t, d < 0x110000)
section
variable {ne tl co R : PySem.Str} {c : Nat} {ds t : List Nat} {n : Int}
theorem Parts.reply (P : Parts ne tl co c ds t) (hR : Str.ofString "257 \"" ++ Txt.mul (Str.ofString "\"") (n - 65) ++ ne ++ co ++ tl = R) : R = S (repL (n - 65).toNat c ds t) := by
  rw [← hR, P.ne, P.co, P.tl, litQ, txt_mul_one, show Str.ofString "257 \"" = S [50, 53, 55, 32, 34] from by decide +kernel, S_app, S_app, S_app, S_app]
  congr 1
  simp [repL]
theorem Parts.take (P : Parts ne tl co c ds t) (h : R = S (repL (n - 65).toNat c ds t)) : R.cps.toList.take 3 = [50, 53, 55] := by
  rw [h, S_list]; rfl
theorem Parts.told (P : Parts ne tl co c ds t) (h : R = S (repL (n - 65).toNat c ds t)) : parseF R = S (toldL (n - 65).toNat c ds) := by
  rw [h, parse_rep P.c34 P.d34 P.pt]
theorem Parts.toldLen (P : Parts ne tl co c ds t) (hn : 65 ≤ n ∧ n ≤ 80) (h : R = S (repL (n - 65).toNat c ds t)) : (parseF R).length ≤ 40 := by
  rw [P.told h, S_len]
  unfold toldL
  rw [List.length_append, List.length_replicate]
  have := P.len
  split
  · rw [List.length_cons]; (first | lia | omega)
  · simp; (first | lia | omega)
theorem Parts.count (P : Parts ne tl co c ds t) (h : R = S (repL (n - 65).toNat c ds t)) : Txt.count (parseF R) (Str.ofString "\"") = (((n - 65).toNat / 2 : Nat) : Int) := by
  rw [P.told h, litQ, count_S, told_count P.c34 P.d34]
theorem Parts.refuse (P : Parts ne tl co c ds t) (h : (co != Str.ofString "257") = true) (y : PySem.Str) : (co ++ y).cps.toList.take 3 ≠ [50, 53, 55] := by
  intro e
  rw [P.co, ← S_of y, S_app, S_list, List.take_append_of_le_length (by rw [P.len]; exact Nat.le_refl _), List.take_of_length_le (by rw [P.len]; exact Nat.le_refl _)] at e
  rw [P.co, e, lit257] at h
  simp at h
theorem Parts.slice3 (P : Parts ne tl co c ds t) (h : R = S (repL (n - 65).toNat c ds t)) : Txt.slice R (some 3) none = S (32 :: 34 :: (List.replicate (n - 65).toNat 34 ++ (c :: (ds ++ t)))) := by
  rw [h]
  exact slice_S (i := 3) (by simp [repL])
theorem Parts.slice4 (P : Parts ne tl co c ds t) (h : R = S (repL (n - 65).toNat c ds t)) : Txt.slice R (some 4) none = S (34 :: (List.replicate (n - 65).toNat 34 ++ (c :: (ds ++ t)))) := by
  rw [h]
  exact slice_S (i := 4) (by simp [repL])
theorem Parts.slice5 (P : Parts ne tl co c ds t) (h : R = S (repL (n - 65).toNat c ds t)) : Txt.slice R (some 5) none = S (List.replicate (n - 65).toNat 34 ++ (c :: (ds ++ t))) := by
  rw [h]
  exact slice_S (i := 5) (by simp [repL])
theorem Parts.len4 (P : Parts ne tl co c ds t) (h : R = S (repL (n - 65).toNat c ds t)) : 2 ≤ (Txt.slice R (some 4) none).length := by
  rw [P.slice4 h, S_len]; simp; (first | lia | omega)
theorem Parts.len5 (P : Parts ne tl co c ds t) (h : R = S (repL (n - 65).toNat c ds t)) : 1 ≤ (Txt.slice R (some 5) none).length := by
  rw [P.slice5 h, S_len]; simp; (first | lia | omega)
theorem Parts.ok4 (P : Parts ne tl co c ds t) (h : R = S (repL (n - 65).toNat c ds t)) : PyData.strOk (co ++ Txt.slice R (some 3) none) = true := by
  obtain ⟨o1, o2, o3⟩ := P.ok
  rw [P.slice3 h, P.co, S_app]
  unfold PyData.strOk
  rw [S_cps, List.all_toArray, List.all_eq_true]
  intro a ha
  rw [decide_eq_true_eq]
  rcases List.mem_append.mp ha with ha | ha
  · exact o1 a ha
  rcases List.mem_cons.mp ha with rfl | ha
  · decide
  rcases List.mem_cons.mp ha with rfl | ha
  · decide
  rcases List.mem_append.mp ha with ha | ha
  · rw [List.eq_of_mem_replicate ha]; decide
  rcases List.mem_cons.mp ha with rfl | ha
  · exact o2
  rcases List.mem_append.mp ha with ha | ha
  · exact o1 a ha
  · exact o3 a ha
theorem Parts.take4 (P : Parts ne tl co c ds t) (h : R = S (repL (n - 65).toNat c ds t)) : (Str.ofString "257" ++ Txt.slice R (some 4) none).cps.toList.take 3 = [50, 53, 55] := by
  rw [P.slice4 h, lit257, S_app, S_list]; rfl
theorem Parts.take5 (P : Parts ne tl co c ds t) (h : R = S (repL (n - 65).toNat c ds t)) : (Str.ofString "257 " ++ ne ++ Txt.slice R (some 5) none).cps.toList.take 3 = [50, 53, 55] := by
  rw [P.slice5 h, P.ne, show Str.ofString "257 " = S [50, 53, 55, 32] from by decide +kernel, S_app, S_app, S_list]; rfl
theorem Parts.nil4 (P : Parts ne tl co c ds t) (h : R = S (repL (n - 65).toNat c ds t)) (e : (parseF (Str.ofString "257" ++ Txt.slice R (some 4) none) != Str.ofString "") = true) : False := by
  have z : parseF (Str.ofString "257" ++ Txt.slice R (some 4) none) = S [] := by
    rw [P.slice4 h, lit257, S_app]
    unfold parseF
    rw [S_list, if_neg]
    intro q
    have := congrArg (fun l => l.head?) q
    simp at this
  rw [z, lit0] at e
  simp at e
theorem Parts.nil5 (P : Parts ne tl co c ds t) (h : R = S (repL (n - 65).toNat c ds t)) (e : (parseF (Str.ofString "257 " ++ ne ++ Txt.slice R (some 5) none) != Str.ofString "") = true) : False := by
  have z : parseF (Str.ofString "257 " ++ ne ++ Txt.slice R (some 5) none) = S [] := by
    rw [P.slice5 h, P.ne, show Str.ofString "257 " = S [50, 53, 55, 32] from by decide +kernel, S_app, S_app]
    unfold parseF
    rw [S_list, if_neg]
    intro q
    simp at q
    exact P.c34 q
  rw [z, lit0] at e
  simp at e
theorem Parts.listed (P : Parts ne tl co c ds t) (h : R = S (repL (n - 65).toNat c ds t)) (e : ([Txt.mul (Str.ofString "\"") (Txt.count (parseF R) (Str.ofString "\"")) ++ ne ++ co, Txt.mul (Str.ofString "\"") (Txt.count (parseF R) (Str.ofString "\""))].any fun x => x == parseF R) = false) : False := by
  rw [P.count h, P.told h, litQ, txt_mul_one, P.ne, P.co, S_app, S_app] at e
  simp only [List.any_cons, List.any_nil, Bool.or_false, Bool.or_eq_false_iff, beq_eq_false_iff_ne, ne_eq, Int.toNat_natCast] at e
  by_cases hk : (n - 65).toNat % 2 = 0
  · refine e.1 ?_
    congr 1
    simp [toldL, hk]
  · refine e.2 ?_
    congr 1
    simp [toldL, hk]
theorem Parts.same4 (x : PySem.Str) (e : (x != x) = true) : False := by simp at e
theorem Parts.yes (P : Parts ne tl co c ds t) (h : R = S (repL (n - 65).toNat c ds t)) (e : (Builtin.Str.occurrences (parseF R) ne 0 (parseF R).length 1).isEmpty = false) : Txt.count (parseF R) (Str.ofString "\"") = nextF n := by
  rw [P.told h, P.ne, found_S] at e
  have e' : c ∈ toldL (n - 65).toNat c ds := by simpa using e
  unfold nextF
  rw [P.count h, if_pos ((told_mem P.c34).mp e')]
theorem Parts.not (P : Parts ne tl co c ds t) (h : R = S (repL (n - 65).toNat c ds t)) (e : (Builtin.Str.occurrences (parseF R) ne 0 (parseF R).length 1).isEmpty = true) : Txt.count (parseF R) (Str.ofString "\"") + 8 = nextF n := by
  rw [P.told h, P.ne, found_S] at e
  have e' : ¬ c ∈ toldL (n - 65).toNat c ds := by simpa using e
  unfold nextF
  rw [P.count h, if_neg fun q => e' ((told_mem P.c34).mpr q)]
end
end Mine
end
section
open PySem PySem.W PyProof.Rows
namespace Mine
theorem first_signs (d : Int) : ∀ c ∈ (firstS d).cps.toList, c = 32 ∨ c = 9 := by
  intro c hc
  unfold firstS at hc
  rw [S_list] at hc
  unfold firstL at hc
  obtain ⟨x, _, hx⟩ := List.mem_flatMap.mp hc
  split at hx
  · simp only [List.mem_cons, List.not_mem_nil, or_false] at hx; exact hx
  · simp only [List.mem_cons, List.not_mem_nil, or_false] at hx; exact .inl hx
/-- what indent_level sums, from place i on -/
def gs (k : Int) : Nat → List Int → Int
  | _, [] => 0
  | i, x :: l => (i : Int).fdiv k * x + gs k (i + 1) l
theorem gs_app (k : Int) : ∀ (l m : List Int) (i : Nat), gs k i (l ++ m) = gs k i l + gs k (i + l.length) m
  | [], m, i => by simp [gs]
  | x :: l, m, i => by
    rw [List.cons_append]
    simp only [gs, gs_app k l m (i + 1), List.length_cons]
    rw [show i + 1 + l.length = i + (l.length + 1) by (first | lia | omega)]
    (first | lia | omega)
theorem gs_zero (k : Int) : ∀ (n i : Nat), gs k i (List.replicate n 0) = 0
  | 0, _ => rfl
  | n + 1, i => by
    rw [List.replicate_succ]
    simp [gs, gs_zero k n (i + 1)]
theorem gs_set (k : Int) : ∀ (l : List Int) (i j : Nat), j < l.length → gs k i (l.set j (l.getD j 0 + 1)) = gs k i l + ((i + j : Nat) : Int).fdiv k
  | [], _, _, h => by simp at h
  | x :: l, i, 0, _ => by
    simp only [List.set_cons_zero, gs, List.getD_cons_zero, Nat.add_zero]
    rw [Int.mul_add]
    (first | lia | omega)
  | x :: l, i, j + 1, h => by
    have := gs_set k l (i + 1) j (by simpa using h)
    simp only [List.set_cons_succ, gs, List.getD_cons_succ]
    rw [this, show i + 1 + j = i + (j + 1) by (first | lia | omega)]
    (first | lia | omega)
theorem gs_bump {k : Int} {c : List Int} {b : Int} (hb : 0 ≤ b) : gs k 0 (wsBump c b) = gs k 0 c + b.fdiv k := by
  unfold wsBump
  simp only
  have e : (((0 + b.toNat : Nat) : Int)) = b := by (first | lia | omega)
  split
  · rw [gs_set k _ 0 b.toNat (by rw [List.length_append, List.length_replicate]; (first | lia | omega)), gs_app, gs_zero, e]
    (first | lia | omega)
  · rw [gs_set k _ 0 b.toNat (by (first | lia | omega)), e]
theorem gs_small {k : Int} : ∀ (l : List Int) (i : Nat), ((i + l.length : Nat) : Int) ≤ k → gs k i l = 0
  | [], _, _ => rfl
  | x :: l, i, h => by
    have h1 : (i : Int).fdiv k = 0 := by
      rw [Int.fdiv_eq_ediv_of_nonneg _ (by (first | lia | omega))]
      exact Int.ediv_eq_zero_of_lt (by (first | lia | omega)) (by rw [List.length_cons] at h; (first | lia | omega))
    have h2 : gs k (i + 1) l = 0 := gs_small (k := k) l (i + 1) (by rw [List.length_cons] at h; (first | lia | omega))
    simp [gs, h1, h2]
theorem ilG_gs {ns : List Int} {k : Int} : ∀ (n a : Nat), a + n = ns.length → ilG ns k (rangeKs (a : Int) n) = gs k a (ns.drop a)
  | 0, a, h => by
    rw [List.drop_eq_nil_of_le (by (first | lia | omega))]
    rfl
  | n + 1, a, h => by
    have ih := ilG_gs (ns := ns) (k := k) n (a + 1) (by (first | lia | omega))
    rw [List.drop_eq_getElem_cons (show a < ns.length by (first | lia | omega))]
    have e : rangeKs (a : Int) (n + 1) = (a : Int) :: rangeKs ((a + 1 : Nat) : Int) n := by
      unfold rangeKs
      rw [List.range_succ_eq_map, List.map_cons, List.map_map]
      congr 1
      · simp
        intros
        (first | lia | omega)
    rw [e]
    unfold ilG at ih ⊢
    rw [List.map_cons, List.sum_cons, ih]
    simp only [gs]
    congr 2
    rw [Int.toNat_natCast, List.getD_eq_getElem?_getD, List.getElem?_eq_getElem (show a < ns.length by (first | lia | omega))]
    rfl
theorem ilG_all {ns : List Int} {k : Int} (hk : 1 ≤ k) : ilG ns k (rangeKs k ((ns.length : Int) - k).toNat) = gs k 0 ns := by
  by_cases h : k ≤ (ns.length : Int)
  · have e := ilG_gs (ns := ns) (k := k) ((ns.length : Int) - k).toNat k.toNat (by (first | lia | omega))
    rw [show ((k.toNat : Nat) : Int) = k by (first | lia | omega)] at e
    rw [e]
    have s := gs_app k (ns.take k.toNat) (ns.drop k.toNat) 0
    rw [List.take_append_drop] at s
    have hl : (ns.take k.toNat).length = k.toNat := by rw [List.length_take]; (first | lia | omega)
    rw [s, gs_small (ns.take k.toNat) 0 (by rw [hl]; (first | lia | omega)), hl]
    simp
  · rw [show ((ns.length : Int) - k).toNat = 0 by (first | lia | omega), gs_small ns 0 (by (first | lia | omega))]
    rfl
/-- the scan of a lead, beside the column of its signs -/
theorem col_scan {k : Int} (hk : 1 ≤ k) (s : List Nat) : ∀ (l : List Nat) (c : List Int) (b n nt : Int), (∀ a ∈ l, a = 32 ∨ a = 9) → 0 ≤ b →
    ∃ c' b' n' nt', 0 ≤ b' ∧ wsGo (l ++ s) c b n nt = wsGo s c' b' n' nt' ∧ colGo k l (k * (gs k 0 c + nt) + b) = k * (gs k 0 c' + nt') + b'
  | [], c, b, n, nt, _, hb => ⟨c, b, n, nt, hb, rfl, rfl⟩
  | a :: l, c, b, n, nt, hl, hb => by
    rcases hl a (.head _) with rfl | rfl
    · obtain ⟨c', b', n', nt', h1, h2, h3⟩ := col_scan hk s l c (b + 1) (n + 1) nt (fun x hx => hl x (.tail _ hx)) (by (first | lia | omega))
      refine ⟨c', b', n', nt', h1, ?_, ?_⟩
      · rw [List.cons_append]; simpa only [wsGo, if_true] using h2
      · simp only [colGo, if_true]
        rw [← h3]
        congr 1
        (first | lia | omega)
    · obtain ⟨c', b', n', nt', h1, h2, h3⟩ := col_scan hk s l (wsBump c b) 0 (n + 1) (nt + 1) (fun x hx => hl x (.tail _ hx)) (by (first | lia | omega))
      refine ⟨c', b', n', nt', h1, ?_, ?_⟩
      · rw [List.cons_append]; simpa only [wsGo, if_true, if_neg (show ¬ (9 : Nat) = 32 by decide)] using h2
      · simp only [colGo, if_neg (show ¬ (9 : Nat) = 32 by decide)]
        rw [← h3, gs_bump hb]
        congr 1
        have e1 : (k * (gs k 0 c + nt) + b).fmod k = b.fmod k := by
          rw [Int.fmod_eq_emod_of_nonneg _ (by (first | lia | omega)), Int.fmod_eq_emod_of_nonneg _ (by (first | lia | omega)), Int.add_comm, Int.add_mul_emod_self_left]
        have e2 := Int.mul_fdiv_add_fmod b k
        rw [e1]
        have e3 : k * (gs k 0 c + b.fdiv k + (nt + 1)) = k * (gs k 0 c + nt) + k * b.fdiv k + k := by
          simp only [Int.mul_add, Int.mul_one]; (first | lia | omega)
        rw [e3]
        (first | lia | omega)
theorem scan_rest : ∀ (r : Nat) (s : List Nat) (c : List Int) (b n nt : Int), wsGo (List.replicate r 32 ++ s) c b n nt = wsGo s c (b + r) (n + r) nt
  | 0, s, c, b, n, nt => by simp
  | r + 1, s, c, b, n, nt => by
    rw [List.replicate_succ, List.cons_append]
    simp only [wsGo, if_true]
    rw [scan_rest r s c (b + 1) (n + 1) nt]
    congr 1 <;> (first | lia | omega)
theorem litX : Str.ofString "x \t" = S [120, 32, 9] := by decide +kernel
theorem litX1 : Str.ofString "x" = S [120] := by decide +kernel
theorem typed_list (l : List Nat) (r : Int) (s : List Nat) : (S l ++ Txt.mul (Str.ofString " ") r ++ S s).cps.toList = l ++ (List.replicate r.toNat 32 ++ s) := by
  rw [litSp, txt_mul_one, S_app, S_app, S_list, List.append_assoc]
theorem ws_stop (s : List Nat) (c : List Int) (b n nt : Int) : wsGo (120 :: s) c b n nt = ⟨c, b, n, nt⟩ := rfl
/-- Whitespace of a lead, blanks and an x -/
theorem ws_lead {k : Int} (hk : 1 ≤ k) (l s : List Nat) (r : Int) (hl : ∀ a ∈ l, a = 32 ∨ a = 9) (hr : 0 ≤ r) :
    ∃ c' b' n' nt', wsOf (S l ++ Txt.mul (Str.ofString " ") r ++ S (120 :: s)) = ⟨c', b' + r, n' + r, nt'⟩ ∧ colGo k l 0 = k * (gs k 0 c' + nt') + b' := by
  obtain ⟨c', b', n', nt', hb, e1, e2⟩ := col_scan hk (List.replicate r.toNat 32 ++ 120 :: s) l [] 0 0 0 hl (by (first | lia | omega))
  refine ⟨c', b', n', nt', ?_, ?_⟩
  · unfold wsOf
    rw [typed_list, e1, scan_rest, ws_stop]
    congr 1 <;> (first | lia | omega)
  · simpa [gs] using e2
theorem il_col {x : Str} {r k : Int} (hx : ∀ c ∈ x.cps.toList, c = 32 ∨ c = 9) (hr : 0 ≤ r) (hk : 1 ≤ k) : ilF (x ++ Txt.mul (Str.ofString " ") r ++ Str.ofString "x \t") k = colF x k + r := by
  obtain ⟨c', b', n', nt', e1, e2⟩ := ws_lead hk x.cps.toList [32, 9] r hx hr
  rw [S_of] at e1
  unfold ilF colF
  rw [litX, e1, e2]
  dsimp only
  rw [ilG_all hk]
  (first | lia | omega)
end Mine
end
section
open PySem PySem.W PyProof.Rows
namespace Mine
/-- heaps as a lead: blanks and a tab for each -/
def enc : List Nat → List Nat
  | [] => []
  | h :: hs => List.replicate h 32 ++ 9 :: enc hs
theorem enc_app : ∀ a b : List Nat, enc (a ++ b) = enc a ++ enc b
  | [], _ => rfl
  | h :: a, b => by simp [enc, enc_app a b]
theorem enc_signs : ∀ (hs : List Nat), ∀ c ∈ enc hs, c = 32 ∨ c = 9
  | [], _, h => nomatch h
  | h :: hs, c, hc => by
    simp only [enc, List.mem_append, List.mem_cons] at hc
    rcases hc with hc | rfl | hc
    · exact .inl (List.eq_of_mem_replicate hc)
    · exact .inr rfl
    · exact enc_signs hs c hc
theorem enc_len : ∀ (hs : List Nat), (enc hs).length = hs.sum + hs.length
  | [] => rfl
  | h :: hs => by
    simp only [enc, List.length_append, List.length_replicate, List.length_cons, List.sum_cons, enc_len hs]
    (first | lia | omega)
theorem enc_count : ∀ (hs : List Nat), (enc hs).count 9 = hs.length
  | [] => rfl
  | h :: hs => by
    simp only [enc, List.count_append, List.count_cons_self, List.length_cons, enc_count hs]
    rw [List.count_eq_zero.mpr (fun hm => absurd (List.eq_of_mem_replicate hm) (by decide))]
    (first | lia | omega)
/-- pieces with tabs between -/
def jn : List (List Nat) → List Nat
  | [] => []
  | [p] => p
  | p :: q :: r => p ++ 9 :: jn (q :: r)
theorem cut_eq : ∀ {p q a b : List Nat}, 9 ∉ p → 9 ∉ q → p ++ 9 :: a = q ++ 9 :: b → p = q ∧ a = b
  | [], [], a, b, _, _, h => ⟨rfl, by simpa using h⟩
  | [], y :: q, a, b, _, hq, h => by
    simp only [List.nil_append, List.cons_append, List.cons.injEq] at h
    exact absurd (h.1 ▸ List.mem_cons_self) hq
  | x :: p, [], a, b, hp, _, h => by
    simp only [List.nil_append, List.cons_append, List.cons.injEq] at h
    exact absurd (h.1 ▸ List.mem_cons_self) hp
  | x :: p, y :: q, a, b, hp, hq, h => by
    simp only [List.cons_append, List.cons.injEq] at h
    obtain ⟨rfl, h2⟩ := h
    obtain ⟨rfl, rfl⟩ := cut_eq (fun m => hp (.tail _ m)) (fun m => hq (.tail _ m)) h2
    exact ⟨rfl, rfl⟩
theorem jn_inj : ∀ {ps qs : List (List Nat)}, ps ≠ [] → qs ≠ [] → (∀ p ∈ ps, 9 ∉ p) → (∀ q ∈ qs, 9 ∉ q) → jn ps = jn qs → ps = qs
  | [], _, h, _, _, _, _ => absurd rfl h
  | _, [], _, h, _, _, _ => absurd rfl h
  | [p], [q], _, _, _, _, h => by simp only [jn] at h; rw [h]
  | [p], q :: q' :: r, _, _, hp, _, h => by
    simp only [jn] at h
    exact absurd (h ▸ List.mem_append_right _ List.mem_cons_self) (hp p (.head _))
  | p :: p' :: r, [q], _, _, _, hq, h => by
    simp only [jn] at h
    exact absurd (h ▸ List.mem_append_right _ List.mem_cons_self) (hq q (.head _))
  | p :: p' :: r, q :: q' :: s, _, _, hp, hq, h => by
    simp only [jn] at h
    obtain ⟨rfl, h2⟩ := cut_eq (hp p (.head _)) (hq q (.head _)) h
    rw [jn_inj (by simp) (by simp) (fun x hx => hp x (.tail _ hx)) (fun x hx => hq x (.tail _ hx)) h2]
theorem join_jn : ∀ (ps : List Str), (Str.join (S [9]) ps).cps.toList = jn (ps.map fun p => p.cps.toList)
  | [] => rfl
  | [p] => rfl
  | p :: q :: r => by
    show (p ++ S [9] ++ Str.join (S [9]) (q :: r)).cps.toList = _
    rw [PySem.Str.cps_append, PySem.Str.cps_append, Array.toList_append, Array.toList_append, join_jn (q :: r)]
    simp [jn, S]
theorem enc_jn : ∀ (hs : List Nat), enc hs = jn ((hs.map fun h => List.replicate h 32) ++ [[]])
  | [] => rfl
  | h :: hs => by
    have ih := enc_jn hs
    rw [List.map_cons, List.cons_append]
    cases hh : (hs.map fun h => List.replicate h 32) ++ [[]] with
    | nil => simp at hh
    | cons a b =>
      rw [hh] at ih
      show List.replicate h 32 ++ 9 :: enc hs = List.replicate h 32 ++ 9 :: jn (a :: b)
      rw [ih]
theorem split_enc (hs : List Nat) : Txt.split (S (enc hs)) (S [9]) = (hs.map fun h => S (List.replicate h 32)) ++ [S []] := by
  have h1 := StrLaws.join_split (S (enc hs)) (S [9])
  have h2 := StrLaws.split_free (S (enc hs)) 9
  have h3 := congrArg (fun x => x.cps.toList) h1
  simp only [join_jn, S_list] at h3
  have hne : Txt.split (S (enc hs)) (S [9]) ≠ [] := by
    intro e
    unfold Txt.split at e
    split at e
    · simp at e
    · split at e
      · simp at e
      · rename_i h5
        have := h2
        rw [show (⟨#[9]⟩ : Str) = S [9] from rfl] at this
        have e2 := congrArg List.length e
        revert e2
        have hp : ∀ (x : Str) (l : List Nat) (k : Nat), 0 < (Builtin.Str.partsBetween x l k).length := by
          intro x l k
          rw [StrLaws.partsBetween_eq]
          cases l <;> simp [StrLaws.partsFrom]
        have := hp (S (enc hs)) (Builtin.Str.occurrences (S (enc hs)) (S [9]) 0 (S (enc hs)).length ((S (enc hs)).length + 1)) (S [9]).length
        simp only [List.length_nil]
        (first | lia | omega)
  have h4 : (Txt.split (S (enc hs)) (S [9])).map (fun p => p.cps.toList) = (hs.map fun h => List.replicate h 32) ++ [[]] := by
    refine jn_inj (by simpa using hne) (by simp) ?_ ?_ ?_
    · intro p hp
      obtain ⟨x, hx, rfl⟩ := List.mem_map.mp hp
      exact h2 x hx
    · intro q hq
      rcases List.mem_append.mp hq with hq | hq
      · obtain ⟨h, _, rfl⟩ := List.mem_map.mp hq
        exact fun hm => absurd (List.eq_of_mem_replicate hm) (by decide)
      · rw [List.mem_singleton.mp hq]
        simp
    · rw [h3, enc_jn]
  have h5 := congrArg (List.map S) h4
  rw [List.map_map] at h5
  have h6 : (List.map (S ∘ fun p => p.cps.toList) (Txt.split (S (enc hs)) (S [9]))) = Txt.split (S (enc hs)) (S [9]) := by
    conv => rhs; rw [← List.map_id (Txt.split (S (enc hs)) (S [9]))]
    apply List.map_congr_left
    intro p _
    exact S_of p
  rw [h6] at h5
  rw [h5]
  simp
end Mine
end
section
open PySem PySem.W PyProof.Rows
namespace Mine
/-- a deal of heaps -/
def dealH (hs : List Nat) : List Nat := ((hs.filter fun h => decide (1 < h)).map fun h => h - 1) ++ [hs.length]
theorem join_none : ∀ (ls : List (List Nat)), Str.join (S []) (ls.map S) = S ls.flatten
  | [] => rfl
  | [l] => by simp [Str.join]
  | l :: m :: r => by
    have ih := join_none (m :: r)
    rw [List.map_cons] at ih
    show S l ++ S [] ++ Str.join (S []) (S m :: r.map S) = _
    rw [ih, S_app, S_app]
    simp
theorem dealOne_rep {h : Nat} (hh : 1 < h) : dealOne (S (List.replicate h 32)) = S (List.replicate (h - 1) 32 ++ [9]) := by
  unfold dealOne
  have e : Txt.slice (S (List.replicate h 32)) (some 1) none = S ((List.replicate h 32).drop 1) := slice_S (i := 1) (by simp; (first | lia | omega))
  rw [e, litTab, S_app, List.drop_replicate]
theorem pieces_enc (hs : List Nat) : (((hs.map fun h => S (List.replicate h 32)) ++ [S []]).filter fun a => decide (1 < a.length)).map dealOne = ((hs.filter fun h => decide (1 < h)).map fun h => List.replicate (h - 1) 32 ++ [9]).map S := by
  rw [List.filter_append, List.map_append]
  have e0 : ([S []].filter fun a => decide (1 < a.length)).map dealOne = [] := by
    rw [List.filter_cons_of_neg (by rw [S_len]; decide)]
    rfl
  rw [e0, List.append_nil]
  induction hs with
  | nil => rfl
  | cons h hs ih =>
    rw [List.map_cons]
    by_cases hh : 1 < h
    · rw [List.filter_cons_of_pos (by rw [S_len, List.length_replicate]; simpa using hh), List.filter_cons_of_pos (by simpa using hh)]
      rw [List.map_cons, List.map_cons, List.map_cons, ih, dealOne_rep hh]
    · rw [List.filter_cons_of_neg (by rw [S_len, List.length_replicate]; simpa using hh), List.filter_cons_of_neg (by simpa using hh), ih]
theorem flat_enc : ∀ (hs : List Nat), (hs.map fun h => List.replicate h 32 ++ [9]).flatten = enc hs
  | [] => rfl
  | h :: hs => by simp [enc, flat_enc hs]
theorem deal_enc (hs : List Nat) (k : Nat) : dealS (S (enc hs)) (k : Int) = S (enc (((hs.filter fun h => decide (1 < h)).map fun h => h - 1) ++ [k])) := by
  unfold dealS Txt.join
  rw [StrLaws.glued_eq_join, litTab, split_enc, pieces_enc, lit0, join_none, litSp, txt_mul_one, S_app, S_app, enc_app]
  congr 1
  have e := flat_enc ((hs.filter fun h => decide (1 < h)).map fun h => h - 1)
  rw [List.map_map] at e
  rw [← e]
  simp [enc, Function.comp_def]
theorem count_enc (hs : List Nat) : Txt.count (S (enc hs)) (Str.ofString "\t") = (hs.length : Int) := by
  rw [litTab, count_S, enc_count]
theorem deal_enc' (hs : List Nat) : dealS (S (enc hs)) (Txt.count (S (enc hs)) (Str.ofString "\t")) = S (enc (dealH hs)) := by
  rw [count_enc, deal_enc]
  rfl
/-- the heaps of cuts: a heap ends behind each yes -/
def hp : Nat → List Bool → List Nat
  | _, [] => []
  | n, true :: r => (n + 1) :: hp 0 r
  | n, false :: r => hp (n + 1) r
theorem hp_enc : ∀ (l : List Bool) (n : Nat), (l = [] → n = 0) → (∀ b, l.getLast? = some b → b = true) → List.replicate n 32 ++ (l.flatMap fun t => if t then [32, 9] else [32]) = enc (hp n l)
  | [], n, h, _ => by rw [h rfl]; rfl
  | true :: r, n, _, hl => by
    have ih := hp_enc r 0 (fun _ => rfl) (fun b hb => by
      cases r with
      | nil => simp at hb
      | cons x y => exact hl b (by rw [List.getLast?_cons_cons]; exact hb))
    simp only [List.flatMap_cons, if_true, hp, enc]
    rw [← ih, List.replicate_succ']
    simp
  | false :: r, n, _, hl => by
    have ih := hp_enc r (n + 1) (fun e => by subst e; have := hl false rfl; cases this) (fun b hb => by
      cases r with
      | nil => simp at hb
      | cons x y => exact hl b (by rw [List.getLast?_cons_cons]; exact hb))
    simp only [List.flatMap_cons, hp]
    rw [← ih, List.replicate_succ']
    simp
/-- the cuts of a draw, by its two small parts -/
def bitsN (e m : Nat) : List Bool := (List.range (6 + e)).map fun c => c == 5 + e || (m / 2 ^ c) % 2 == 1
theorem bit_mod {q : Int} {c : Nat} (h : c < 9) : (q.fdiv (2 ^ c)).fmod 2 = (((q.fmod 512).toNat / 2 ^ c % 2 : Nat) : Int) := by
  obtain ⟨k, hk⟩ : ∃ k, 9 = c + (k + 1) := ⟨8 - c, by (first | lia | omega)⟩
  have h0 : (0 : Int) < 2 ^ c := Int.pow_pos (by decide)
  have hp : (512 : Int) = 2 ^ c * (2 * 2 ^ k) := by
    rw [show (512 : Int) = 2 ^ 9 from rfl, hk, Int.pow_add, Int.pow_succ, Int.mul_comm (2 ^ k) 2]
  have hm : (((q % 512).toNat : Nat) : Int) = q % 512 := Int.toNat_of_nonneg (Int.emod_nonneg _ (by decide))
  have hq : q / 2 ^ c = q % 512 / 2 ^ c + 2 * (2 ^ k * (q / 512)) := by
    conv => lhs; rw [← Int.emod_add_mul_ediv q 512]
    have e : (512 : Int) * (q / 512) = 2 ^ c * (2 * (2 ^ k * (q / 512))) :=
      (congrArg (· * (q / 512)) hp).trans (by rw [Int.mul_assoc, Int.mul_assoc])
    rw [e]
    rw [Int.add_mul_ediv_left _ _ (Int.ne_of_gt h0)]
  rw [Int.fmod_eq_emod_of_nonneg _ (by decide), Int.fmod_eq_emod_of_nonneg _ (by decide), Int.fdiv_eq_ediv_of_nonneg _ (Int.le_of_lt h0), hq, Int.add_mul_emod_self_left]
  rw [Int.natCast_emod, Int.natCast_ediv, hm, Int.natCast_pow]
  rfl
theorem first_bits (d : Int) : ∃ e m : Nat, e < 5 ∧ m < 512 ∧ d.fmod 5 = (e : Int) ∧ firstS d = S (enc (hp 0 (bitsN e m))) := by
  have b5 : 0 ≤ d.fmod 5 ∧ d.fmod 5 < 5 := ⟨Int.fmod_nonneg_of_pos _ (by decide), Int.fmod_lt_of_pos _ (by decide)⟩
  have b512 : 0 ≤ (d.fdiv 5).fmod 512 ∧ (d.fdiv 5).fmod 512 < 512 := ⟨Int.fmod_nonneg_of_pos _ (by decide), Int.fmod_lt_of_pos _ (by decide)⟩
  obtain ⟨e, he⟩ : ∃ e : Nat, d.fmod 5 = (e : Int) := ⟨(d.fmod 5).toNat, by (first | lia | omega)⟩
  refine ⟨e, ((d.fdiv 5).fmod 512).toNat, by (first | lia | omega), by (first | lia | omega), he, ?_⟩
  unfold firstS
  congr 1
  rw [← hp_enc _ 0 (fun _ => rfl) ?_]
  · unfold firstL bitsN rangeKs
    rw [he, show (6 + (e : Int)).toNat = 6 + e by (first | lia | omega)]
    rw [List.replicate_zero, List.nil_append, List.flatMap_map, List.flatMap_map]
    rw [List.flatMap_def, List.flatMap_def]
    congr 1
    apply List.map_congr_left
    intro c hc
    have hc := List.mem_range.mp hc
    have e0 : firstT d (0 + (c : Int)) = (c == 5 + e || (((d.fdiv 5).fmod 512).toNat / 2 ^ c) % 2 == 1) := by
      unfold firstT
      rw [he, Int.zero_add]
      have e1 : decide ((c : Int) = 5 + (e : Int)) = (c == 5 + e) := by
        by_cases hx : c = 5 + e
        · rw [decide_eq_true (by (first | lia | omega)), hx]; simp
        · rw [decide_eq_false (by (first | lia | omega))]; symm; simpa using hx
      rw [e1]
      by_cases hx : c = 5 + e
      · rw [hx]; simp
      · congr 1
        rw [Int.toNat_natCast, bit_mod (by (first | lia | omega))]
        generalize ((d.fdiv 5).fmod 512).toNat / 2 ^ c % 2 = z
        by_cases h2 : z = 1
        · rw [h2]; rfl
        · have : ¬ ((z : Int) = 1) := by (first | lia | omega)
          rw [beq_false_of_ne this, beq_false_of_ne h2]
    rw [e0]
  · intro b hb
    unfold bitsN at hb
    rw [show 6 + e = (5 + e) + 1 by (first | lia | omega), List.range_succ, List.map_append, List.map_singleton, List.getLast?_concat] at hb
    have := Option.some.inj hb
    rw [← this]
    simp
end Mine
end
section
open PySem PySem.W PyProof.Rows
namespace Mine
/-- heaps 3, 2, 1, none, with a card more on some: in any order -/
structure Ok (hs : List Nat) (a b c d : Nat) : Prop where
  ha : a ≤ 1
  hb : b ≤ 1
  hc : c ≤ 1
  hd : d ≤ 1
  cnt : ∀ k, hs.count k = ([3 + a, 2 + b, 1 + c] ++ List.replicate d 1).count k
theorem Ok.perm {hs : List Nat} {a b c d : Nat} (h : Ok hs a b c d) : hs.Perm ([3 + a, 2 + b, 1 + c] ++ List.replicate d 1) := List.perm_iff_count.mpr h.cnt
theorem Ok.len {hs : List Nat} {a b c d : Nat} (h : Ok hs a b c d) : hs.length = 3 + d := by
  rw [h.perm.length_eq]; simp; (first | lia | omega)
theorem Ok.sum {hs : List Nat} {a b c d : Nat} (h : Ok hs a b c d) : hs.sum = 6 + a + b + c + d := by
  rw [h.perm.sum_nat]
  simp
  (first | lia | omega)
theorem dealH_perm {hs ks : List Nat} (h : hs.Perm ks) : (dealH hs).Perm (dealH ks) := by
  unfold dealH
  rw [h.length_eq]
  exact ((h.filter _).map _).append_right _
theorem Ok.deal {hs : List Nat} {a b c d : Nat} (h : Ok hs a b c d) : Ok (dealH hs) d a b c := by
  refine ⟨h.hd, h.ha, h.hb, h.hc, fun k => ?_⟩
  rw [(dealH_perm h.perm).count_eq]
  have h1 := h.ha; have h2 := h.hb; have h3 := h.hc; have h4 := h.hd
  have e1 : a = 0 ∨ a = 1 := by (first | lia | omega)
  have e2 : b = 0 ∨ b = 1 := by (first | lia | omega)
  have e3 : c = 0 ∨ c = 1 := by (first | lia | omega)
  have e4 : d = 0 ∨ d = 1 := by (first | lia | omega)
  have key : ∀ a b c d : Fin 2, (dealH ([3 + a.val, 2 + b.val, 1 + c.val] ++ List.replicate d.val 1)).Perm ([3 + d.val, 2 + a.val, 1 + b.val] ++ List.replicate c.val 1) := by decide +kernel
  have := key ⟨a, by (first | lia | omega)⟩ ⟨b, by (first | lia | omega)⟩ ⟨c, by (first | lia | omega)⟩ ⟨d, by (first | lia | omega)⟩
  exact this.count_eq k
def iterH : Nat → List Nat → List Nat
  | 0, hs => hs
  | n + 1, hs => dealH (iterH n hs)
/-- does it hold of some figure? -/
def okB (hs : List Nat) : Bool := (List.range 16).any fun f => decide (hs.Perm ([3 + f / 8, 2 + f / 4 % 2, 1 + f / 2 % 2] ++ List.replicate (f % 2) 1))
theorem okB_ok {hs : List Nat} (h : okB hs = true) : ∃ a b c d, Ok hs a b c d := by
  unfold okB at h
  obtain ⟨f, hf, hp⟩ := List.any_eq_true.mp h
  have hf := List.mem_range.mp hf
  have hp := of_decide_eq_true hp
  exact ⟨f / 8, f / 4 % 2, f / 2 % 2, f % 2, by (first | lia | omega), by (first | lia | omega), by (first | lia | omega), by (first | lia | omega), fun k => hp.count_eq k⟩
theorem iterH_perm : ∀ (n : Nat) {hs ks : List Nat}, hs.Perm ks → (iterH n hs).Perm (iterH n ks)
  | 0, _, _, h => h
  | n + 1, _, _, h => dealH_perm (iterH_perm n h)
theorem Ok.of_perm {hs ks : List Nat} {a b c d : Nat} (h : Ok hs a b c d) (p : ks.Perm hs) : Ok ks a b c d := ⟨h.ha, h.hb, h.hc, h.hd, fun k => (p.count_eq k).trans (h.cnt k)⟩
/-- f of all falling lists that add up to n, their parts m at most -/
def allParts (f : List Nat → Bool) : Nat → Nat → Nat → List Nat → Bool
  | _, 0, _, acc => f acc
  | 0, _ + 1, _, _ => true
  | u + 1, n + 1, m, acc => (List.range m).all fun i => if i ≤ n then allParts f u (n - i) (i + 1) ((i + 1) :: acc) else true
theorem allParts_at {f : List Nat → Bool} : ∀ (hs : List Nat) (u n m : Nat) (acc : List Nat), allParts f u n m acc = true → hs.Pairwise (fun x y => y ≤ x) → (∀ h ∈ hs, 1 ≤ h ∧ h ≤ m) → hs.sum = n → hs.length ≤ u → f (hs.reverse ++ acc) = true
  | [], u, n, m, acc, h, _, _, hs, _ => by
    have : n = 0 := by simpa using hs.symm
    subst this
    cases u <;> simpa [allParts] using h
  | x :: r, 0, n, m, acc, _, _, _, _, hl => by simp at hl
  | x :: r, u + 1, n, m, acc, h, hp, hm, hs, hl => by
    obtain ⟨h1, h2⟩ := hm x (.head _)
    rw [List.sum_cons] at hs
    obtain ⟨n', rfl⟩ : ∃ n', n = n' + 1 := ⟨n - 1, by (first | lia | omega)⟩
    rw [List.pairwise_cons] at hp
    simp only [allParts] at h
    have hx := List.all_eq_true.mp h (x - 1) (List.mem_range.mpr (by (first | lia | omega)))
    rw [if_pos (by (first | lia | omega))] at hx
    rw [show x - 1 + 1 = x by (first | lia | omega)] at hx
    have := allParts_at r u (n' - (x - 1)) x (x :: acc) hx hp.2 (fun y hy => ⟨(hm y (.tail _ hy)).1, hp.1 y hy⟩) (by (first | lia | omega)) (by simpa using hl)
    simpa using this
theorem sum_len : ∀ (hs : List Nat), (∀ h ∈ hs, 1 ≤ h) → hs.length ≤ hs.sum
  | [], _ => Nat.le_refl _
  | x :: r, h => by
    have h1 := h x (.head _)
    have := sum_len r (fun y hy => h y (.tail _ hy))
    rw [List.length_cons, List.sum_cons]
    (first | lia | omega)
theorem mem_sum : ∀ (hs : List Nat) (x : Nat), x ∈ hs → x ≤ hs.sum
  | y :: r, x, h => by
    rw [List.sum_cons]
    rcases List.mem_cons.mp h with rfl | h
    · (first | lia | omega)
    · have := mem_sum r x h
      (first | lia | omega)
theorem twelve_parts : ∀ e : Fin 5, allParts (fun hs => okB (iterH 12 hs)) (6 + e.val) (6 + e.val) (6 + e.val) [] = true := by decide +kernel
theorem twelve {hs : List Nat} {e : Nat} (he : e < 5) (h1 : ∀ h ∈ hs, 1 ≤ h) (hs6 : hs.sum = 6 + e) : ∃ a b c d, Ok (iterH 12 hs) a b c d := by
  have p := List.mergeSort_perm hs (fun x y => decide (y ≤ x))
  have s := List.pairwise_mergeSort (le := fun x y => decide (y ≤ x)) (by intro a b c; simp; (first | lia | omega)) (by intro a b; simp; (first | lia | omega)) hs
  have s' : (hs.mergeSort (fun x y => decide (y ≤ x))).Pairwise (fun x y => y ≤ x) := s.imp fun h => of_decide_eq_true h
  have hsum : (hs.mergeSort (fun x y => decide (y ≤ x))).sum = 6 + e := by rw [p.sum_nat, hs6]
  have hpos : ∀ h ∈ hs.mergeSort (fun x y => decide (y ≤ x)), 1 ≤ h := fun h hh => h1 h (p.mem_iff.mp hh)
  have q := allParts_at _ (6 + e) (6 + e) (6 + e) [] (twelve_parts ⟨e, he⟩) s' (fun h hh => ⟨hpos h hh, by have := mem_sum _ h hh; (first | lia | omega)⟩) hsum (by have := sum_len _ hpos; (first | lia | omega))
  rw [List.append_nil] at q
  obtain ⟨a, b, c, d, ok⟩ := okB_ok q
  exact ⟨a, b, c, d, ok.of_perm (iterH_perm 12 (p.symm.trans (List.reverse_perm _).symm))⟩
end Mine
end
section
open PySem PySem.W PyProof.Rows
namespace Mine
theorem hp_pos : ∀ (l : List Bool) (n : Nat), ∀ h ∈ hp n l, 1 ≤ h
  | [], _, h, hh => nomatch hh
  | true :: r, n, h, hh => by
    simp only [hp, List.mem_cons] at hh
    rcases hh with rfl | hh
    · (first | lia | omega)
    · exact hp_pos r 0 h hh
  | false :: r, n, h, hh => hp_pos r (n + 1) h (by simpa only [hp] using hh)
theorem hp_sum : ∀ (l : List Bool) (n : Nat), (l = [] → n = 0) → (∀ b, l.getLast? = some b → b = true) → (hp n l).sum = n + l.length
  | [], n, h, _ => by simp [hp, h rfl]
  | true :: r, n, _, hl => by
    have ih := hp_sum r 0 (fun _ => rfl) (fun b hb => by
      cases r with
      | nil => simp at hb
      | cons x y => exact hl b (by rw [List.getLast?_cons_cons]; exact hb))
    simp only [hp, List.sum_cons, List.length_cons, ih]
    (first | lia | omega)
  | false :: r, n, _, hl => by
    have ih := hp_sum r (n + 1) (fun e => by subst e; have := hl false rfl; cases this) (fun b hb => by
      cases r with
      | nil => simp at hb
      | cons x y => exact hl b (by rw [List.getLast?_cons_cons]; exact hb))
    simp only [hp, List.length_cons, ih]
    (first | lia | omega)
theorem bitsN_last (e m : Nat) : ∀ b, (bitsN e m).getLast? = some b → b = true := by
  intro b hb
  unfold bitsN at hb
  rw [show 6 + e = (5 + e) + 1 by (first | lia | omega), List.range_succ, List.map_append, List.map_singleton, List.getLast?_concat] at hb
  have := Option.some.inj hb
  rw [← this]
  simp
theorem first_sum (e m : Nat) : (hp 0 (bitsN e m)).sum = 6 + e := by
  rw [hp_sum _ 0 (fun _ => rfl) (bitsN_last e m)]
  simp [bitsN]
theorem filt_sum : ∀ (hs : List Nat), (∀ h ∈ hs, 1 ≤ h) → (((hs.filter fun h => decide (1 < h)).map fun h => h - 1)).sum + hs.length = hs.sum
  | [], _ => rfl
  | x :: r, h => by
    have h1 := h x (.head _)
    have ih := filt_sum r (fun y hy => h y (.tail _ hy))
    by_cases hx : 1 < x
    · rw [List.filter_cons_of_pos (by simpa using hx), List.map_cons, List.sum_cons, List.length_cons, List.sum_cons]
      (first | lia | omega)
    · rw [List.filter_cons_of_neg (by simpa using hx), List.length_cons, List.sum_cons]
      (first | lia | omega)
theorem dealH_sum {hs : List Nat} (h : ∀ x ∈ hs, 1 ≤ x) : (dealH hs).sum = hs.sum := by
  unfold dealH
  rw [List.sum_append, List.sum_singleton]
  exact filt_sum hs h
theorem dealH_pos {hs : List Nat} (hn : hs ≠ []) : ∀ x ∈ dealH hs, 1 ≤ x := by
  intro x hx
  unfold dealH at hx
  rcases List.mem_append.mp hx with hx | hx
  · obtain ⟨y, hy, rfl⟩ := List.mem_map.mp hx
    have := of_decide_eq_true (List.mem_filter.mp hy).2
    (first | lia | omega)
  · rw [List.mem_singleton.mp hx]
    exact Nat.one_le_iff_ne_zero.mpr (fun e => hn (List.length_eq_zero_iff.mp e))
/-- the heaps of a draw behind so many deals -/
theorem iterH_facts {hs : List Nat} {n : Nat} (h1 : ∀ x ∈ hs, 1 ≤ x) (hs6 : hs.sum = n) (hn : 0 < n) : ∀ i, (∀ x ∈ iterH i hs, 1 ≤ x) ∧ (iterH i hs).sum = n
  | 0 => ⟨h1, hs6⟩
  | i + 1 => by
    obtain ⟨a, b⟩ := iterH_facts h1 hs6 hn i
    have : iterH i hs ≠ [] := fun e => by rw [e] at b; simp at b; (first | lia | omega)
    exact ⟨dealH_pos this, by show (dealH (iterH i hs)).sum = n; rw [dealH_sum a, b]⟩
theorem iterH_ok {hs : List Nat} {a b c d : Nat} (h : Ok (iterH 12 hs) a b c d) : ∀ i, ∃ a b c d, Ok (iterH (12 + i) hs) a b c d ∧ Ok (iterH (12 + i + 1) hs) d a b c
  | 0 => ⟨a, b, c, d, h, h.deal⟩
  | i + 1 => by
    obtain ⟨a, b, c, d, _, h2⟩ := iterH_ok h i
    exact ⟨d, a, b, c, h2, h2.deal⟩
end Mine
end
section
open PySem PySem.W PyProof.Rows
set_option maxHeartbeats 8000000
namespace Mine
/-- the item at a place, one that computes -/
def nthV : List Value → Nat → Option Value
  | [], _ => none
  | a :: _, 0 => some a
  | _ :: l, n + 1 => nthV l n
theorem nthV_eq : ∀ (l : List Value) (n : Nat), nthV l n = l[n]?
  | [], n => by simp [nthV]
  | a :: l, 0 => by simp [nthV]
  | a :: l, n + 1 => by simp [nthV, nthV_eq l n]
/-- an item of a written list at a written place -/
theorem item_lit {prog : Program} {w : World} {A : Around} {E : Value → Shared → Prop} {s : Shared} {l : Addr} {value slice : PySem.Expr} {arr : Array Value} {v : Value} {u : Tok} {k : Int} {Q : Value → Shared → Prop} (hl : s.heap.IsList l arr) (h0 : decide (0 ≤ k ∧ k < 1000) = true) (hx : nthV arr.toList k.toNat = some v) (h : Q v s)
    (hs : subscripted slice false (.ref l) (.int k u) = operate [.ref l, .int k u] (getItem (.ref l) (.int k u)) := by with_unfolding_all rfl) :
    wpAny (model prog w) A (subscriptTail value slice (.ref l) (.int k u)) Q E s := by
  have h0 : 0 ≤ k ∧ k < 1000 := of_decide_eq_true h0
  have hx : arr[k.toNat]? = some v := by rw [nthV_eq] at hx; simpa using hx
  exact tail_any hl.typeIs slot_list_getitem.lookup (wpAny_getItem_list hl h0.1 (by (first | lia | omega)) hx h) hs
section
variable {prog : Program} {w : World} {A : Around} {E : Value → Shared → Prop} {s : Shared} {env : Env} {h₀ : Heap} {x : Str} {body : List Stmt} {Q : Flow → Shared → Prop}
/-- a loop over a list of the ledger that stays as it is -/
theorem free_list {σ : Type} {l : Addr} {lo : Obj} {vs : List Value} {nl : Nat} {m₀ : Str → Option Value} (Led : σ → List (Addr × Obj)) (ps : σ → List (Str × Value)) (stored : List Str) (Pi : Nat → σ → Prop) (Pd : σ → Prop) (c₀ : σ)
    (hc : lo.cls = .type "list") (hd : lo.data = .seq vs.toArray nl) (hm : ∀ c, (l, lo) ∈ Led c)
    (hh : A.handled = none) (F : Fr h₀ env.locals s.heap m₀) (N : News h₀ env.locals s.heap (Led c₀)) (hk : ∀ p ∈ ps c₀, m₀ p.1 = some p.2) (hp : Pi 0 c₀)
    (turn : ∀ (c : σ) i v (u : Str → Option Value) h tk own, vs[i]? = some v → OwnOff own ((Led c).map (·.1)) → Pi i c →
      Fr h₀ env.locals h (fun y => if y = x then some v else kstB (fun z => if stored.contains z then u z else m₀ z) (ps c) y) → News h₀ env.locals h (Led c ++ own) →
      wpAny (model prog w) A (execs body env) (FPost h₀ env.locals x Led ps stored m₀ (Pi (i + 1)) Pd own { s with heap := h, toks := tk } Q) E { s with heap := h, toks := tk })
    (hPd : ∀ c, Pi vs.length c → Pd c)
    (done : ∀ (c : σ) (u : Str → Option Value) h tk, Pd c → Fr h₀ env.locals h (fun y => if y = x then u y else kstB (fun z => if stored.contains z then u z else m₀ z) (ps c) y) → News h₀ env.locals h (Led c) → Q .next { s with heap := h, toks := tk }) :
    wpAny (model prog w) A (pyIter (.ref l)) (fun it s₂ => LoopAtV prog w A h₀ env x body Q E it s₂) E s := by
  have hax := N _ (hm c₀)
  have hl : s.heap.IsList l vs.toArray := ⟨lo, hax.1, hc, nl, hd⟩
  have hlt : l < s.heap.objs.size := Heap.lt_size hax.1
  have hne : l ≠ s.heap.objs.size := Nat.ne_of_lt hlt
  refine wpAny_pyIter_list hl ?_
  have W := Walks.list (prog := prog) (w := w) hh s.heap.objs.size l hne vs.toArray
  refine ⟨s.heap.objs.size, [s.heap.objs.size, l], [s.heap.objs.size], vs.toArray.size, _, _, m₀, Led c₀, fun i m nx => ∃ c, nx = Led c ∧ (∀ p ∈ ps c, m p.1 = some p.2) ∧ (∀ z, z ≠ x → (∀ p ∈ ps c, z ≠ p.1) → stored.contains z = false → m z = m₀ z) ∧ Pi i c, rfl, W, ?_, ?_, ?_, ?_, F.push _, (fun p hp => ⟨Heap.get?_push_of_some _ (N p hp).1, (N p hp).2⟩), ⟨c₀, rfl, hk, fun _ _ _ _ => rfl, hp⟩, ?_, ?_⟩
  · intro hI
    rcases List.mem_cons.mp hI with e | hI
    · exact absurd F.ns.lt (e ▸ Nat.lt_irrefl _)
    · exact hax.2.1 (List.mem_singleton.mp hI).symm
  · intro b hb
    rw [List.mem_singleton.mp hb]
    exact next_is_new F
  · intro p hp hI
    exact absurd (Heap.lt_size (N p hp).1) ((List.mem_singleton.mp hI) ▸ Nat.lt_irrefl _)
  · exact ⟨⟨_, Heap.get?_push_size _ rfl, rfl, rfl⟩, hl.at fun o e => Heap.get?_push_of_some _ e⟩
  · rintro i v m₁ nx s₁ own ⟨h, tk, rfl⟩ hi hP ⟨c, rfl, h1, h2, hc'⟩ hoff hown hget hmem hst' F₁ N₁
    have hlo := N₁ _ (List.mem_append_right own (hm c))
    have ho : OwnOff (own.filter (fun p => decide (p.1 = s.heap.objs.size))) ((Led c).map (·.1)) := by
      intro p hp b hb e
      obtain ⟨q, hq, rfl⟩ := List.mem_map.mp hb
      exact hoff q hq (List.mem_singleton.mpr (e ▸ of_decide_eq_true (List.mem_filter.mp hp).2))
    have N₂ : News h₀ env.locals h (Led c ++ own.filter (fun p => decide (p.1 = s.heap.objs.size))) := fun p hp => N₁ p ((List.mem_append.mp hp).elim (fun h => List.mem_append.mpr (.inr h)) fun h => List.mem_append.mpr (.inl (List.mem_filter.mp h).1))
    have fin : ∀ s₂, FEnd h₀ env.locals x Led ps stored m₀ (Pi (i + 1)) (own.filter (fun p => decide (p.1 = s.heap.objs.size))) { s with heap := h, toks := tk } s₂ → LoopStepU h₀ env.locals [s.heap.objs.size] own (fun m nx => ∃ c, nx = Led c ∧ (∀ p ∈ ps c, m p.1 = some p.2) ∧ (∀ z, z ≠ x → (∀ p ∈ ps c, z ≠ p.1) → stored.contains z = false → m z = m₀ z) ∧ Pi (i + 1) c) { s with heap := h, toks := tk } .next s₂ := by
      rintro s₂ ⟨c', h', tk', m', news', rfl, F', N', hl', ho', hoff', hk', hm', hp'⟩
      refine ⟨rfl, h', tk', m', Led c', rfl, F', fun p hp => ?_, fun p hp hq => ?_, c', rfl, hk', hm', hp'⟩
      · rcases List.mem_append.mp hp with hp | hp
        · rcases List.mem_cons.mp (hown p hp) with e | e
          · exact N' p (ho' p (List.mem_filter.mpr ⟨hp, decide_eq_true e⟩))
          · have e := List.mem_singleton.mp e
            have e2 : some p.2 = some lo := (hget p hp).symm.trans (e ▸ hlo.1)
            have e3 : p = (l, lo) := Prod.ext e (Option.some.inj e2)
            rw [e3]
            exact N' _ (hl' _ (hm c'))
        · exact N' p (hl' p hp)
      · have hq := List.mem_singleton.mp hq
        obtain ⟨o, hbo, _⟩ := hst'.1
        exact hoff' _ (List.mem_filter.mpr ⟨hmem _ (List.mem_cons_self ..) (next_is_new F) o hbo, decide_eq_true rfl⟩) p hp hq.symm
    refine wpAny_mono (turn c i v m₁ h tk _ (by simpa using hP) ho hc' (kst_fr h1 h2 F₁) N₂) (fun f s₂ p => ?_) fun _ _ e => e
    cases f with
    | ret v => exact .ret p
    | brk =>
      obtain ⟨c', h', tk', m', news', rfl, F', N', hl, ho', _, hk', hm', hp'⟩ := p
      exact .brk (done c' m' h' tk' hp' (kst_frOut hk' hm' F') (fun p hp => N' p (hl p hp)))
    | next => exact .next (fin _ p)
    | cont => exact .cont (fin _ p)
  · rintro h tk m₁ nx F₁ N₁ _ ⟨c, rfl, h1, h2, hc'⟩
    exact done c m₁ h tk (hPd c (by simpa using hc')) (kst_frOut h1 h2 F₁) N₁
/-- the same, with nothing told from turn to turn -/
theorem free_list0 {l : Addr} {lo : Obj} {vs : List Value} {nl : Nat} {m₀ : Str → Option Value} {news : List (Addr × Obj)} (stored : List Str)
    (hc : lo.cls = .type "list") (hd : lo.data = .seq vs.toArray nl) (hm : (l, lo) ∈ news)
    (hh : A.handled = none) (F : Fr h₀ env.locals s.heap m₀) (N : News h₀ env.locals s.heap news)
    (turn : ∀ (i : Nat) v (u : Str → Option Value) h tk own, vs[i]? = some v → OwnOff own (news.map (·.1)) →
      Fr h₀ env.locals h (fun y => if y = x then some v else if stored.contains y then u y else m₀ y) → News h₀ env.locals h (news ++ own) →
      wpAny (model prog w) A (execs body env) (FPost (σ := Unit) h₀ env.locals x (fun _ => news) (fun _ => []) stored m₀ (fun _ => True) (fun _ => True) own { s with heap := h, toks := tk } Q) E { s with heap := h, toks := tk })
    (done : ∀ (u : Str → Option Value) h tk, Fr h₀ env.locals h (fun y => if y = x then u y else if stored.contains y then u y else m₀ y) → News h₀ env.locals h news → Q .next { s with heap := h, toks := tk }) :
    wpAny (model prog w) A (pyIter (.ref l)) (fun it s₂ => LoopAtV prog w A h₀ env x body Q E it s₂) E s :=
  free_list (σ := Unit) (vs := vs) (fun _ => news) (fun _ => []) stored (fun _ _ => True) (fun _ => True) () hc hd (fun _ => hm) hh F N (by simp) trivial
    (fun _ i v u h tk own hv ho _ F₁ N₁ => turn i v u h tk own hv ho F₁ N₁) (fun _ _ => trivial) (fun _ u h tk _ F₁ N₁ => done u h tk F₁ N₁)
end
theorem two_at {a b v : Value} {i : Nat} (h : [a, b][i]? = some v) : v = a ∨ v = b := by
  match i, h with
  | 0, h => exact .inl (Option.some.inj h).symm
  | 1, h => exact .inr (Option.some.inj h).symm
theorem three_at {a b c v : Value} {i : Nat} (h : [a, b, c][i]? = some v) : v = a ∨ v = b ∨ v = c := by
  match i, h with
  | 0, h => exact .inl (Option.some.inj h).symm
  | 1, h => exact .inr (.inl (Option.some.inj h).symm)
  | 2, h => exact .inr (.inr (Option.some.inj h).symm)
theorem fmod_bd (d k : Int) (h : 0 < k) : 0 ≤ d.fmod k ∧ d.fmod k < k := ⟨Int.fmod_nonneg_of_pos _ h, Int.fmod_lt_of_pos _ h⟩
/-- the leads: their list, what the list's cell holds, both leads -/
structure LdSt where
  q : Addr
  o : Obj
  x1 : Str
  x2 : Str
  t1 : Tok
  t2 : Tok
  k : Nat
abbrev ldLed (ac : Addr) (rest : List (Addr × Obj)) (c : LdSt) : List (Addr × Obj) := (c.q, W.listOf #[.str c.x1 c.t1, .str c.x2 c.t2] c.k) :: (ac, c.o) :: rest
def AllNe (q : Addr) : List (Addr × Obj) → Prop
  | [] => True
  | p :: l => @Ne Nat q p.1 ∧ AllNe q l
/-- an address apart from some others, told so that (first | lia | omega) does not see it -/
inductive OffH (D : Nat) (l : List Nat) : Prop
  | mk : (∀ x ∈ l, x ≠ D) → OffH D l
theorem offH_of {D : Addr} : ∀ {l : List (Addr × Obj)}, LCg.Off1 D l → OffH D (l.map (·.1))
  | [], _ => ⟨fun _ h => nomatch h⟩
  | _ :: _, h => ⟨fun x hx => by
    rcases List.mem_cons.mp hx with rfl | hx
    · exact h.1
    · obtain ⟨g⟩ := offH_of h.2
      exact g x hx⟩
theorem OffH.ne1 {D x : Nat} {l : List Nat} (h : OffH D l) (m : x ∈ l) : x ≠ D := by
  obtain ⟨g⟩ := h
  exact g x m
theorem OffH.ne2 {D x : Nat} {l : List Nat} (h : OffH D l) (m : x ∈ l) : D ≠ x := fun e => h.ne1 m e.symm
def LdI (rest : List (Addr × Obj)) (ac : Addr) (c : LdSt) : Prop := c.o.data = .cell (some (.ref c.q)) ∧ OffH c.q (ac :: rest.map (·.1))
theorem led_pick {h₀ h : Heap} {L : Addr} {a c tl dr hp tb ld : Addr × Obj} {r : List (Addr × Obj)} (N : News h₀ L h (a :: c :: tl :: dr :: hp :: tb :: ld :: r)) : News h₀ L h (a :: ld :: c :: dr :: hp :: tb :: r) := by
  intro p hp
  apply N p
  simp only [List.mem_cons] at hp ⊢
  rcases hp with h | h | h | h | h | h | h <;> simp only [h, true_or, or_true]
/-- a lead behind so many deals -/
def dealN (x : Str) : Nat → Str
  | 0 => x
  | n + 1 => dealS (dealN x n) (Txt.count (dealN x n) (Str.ofString "\t"))
def Lead12 (d1 d2 : Int) (i : Nat) (x1 x2 : Str) : Prop := x1 = dealN (firstS d1) i ∧ x2 = dealN (firstS d2) i
theorem lead12_start {d1 d2 : Int} : Lead12 d1 d2 0 (firstS d1) (firstS d2) := ⟨rfl, rfl⟩
section
variable {prog : Program} {w : World} {A : Around} {E : Value → Shared → Prop} {s : Shared} {env : Env} {h₀ : Heap} {x : Str} {body : List Stmt} {Q : Flow → Shared → Prop}
theorem free_leads {r : Addr} {a₀ b₀ : Int} {t₀ u₀ v₀ : Tok} {n : Nat} {m₀ : Str → Option Value} {ac : Addr} {rest : List (Addr × Obj)} (stored : List Str) (Px : Nat → Str → Str → Prop) (c₀ : LdSt)
    (hh : A.handled = none) (hr : IsRange s.heap r a₀ b₀ 1 t₀ u₀ v₀) (hsmall : Builtin.Range.small a₀ b₀ 1 = true) (hn : Builtin.Range.rangeSize a₀ b₀ 1 = (n : Int)) (F : Fr h₀ env.locals s.heap m₀) (N : News h₀ env.locals s.heap (ldLed ac rest c₀)) (hi : LdI rest ac c₀) (hp : Px 0 c₀.x1 c₀.x2)
    (turn : ∀ (q : Addr) (o : Obj) (x1 x2 : Str) (t1 t2 : Tok) (k : Nat) (i : Nat) t (u : Str → Option Value) h tk own, i < n → OwnOff own (q :: ac :: rest.map (·.1)) → o.data = .cell (some (.ref q)) → OffH q (ac :: rest.map (·.1)) → Px i x1 x2 →
      Fr h₀ env.locals h (fun y => if y = x then some (.int (a₀ + (i : Int)) t) else if stored.contains y then u y else m₀ y) → News h₀ env.locals h (((q, W.listOf #[.str x1 t1, .str x2 t2] k) :: (ac, o) :: rest) ++ own) →
      wpAny (model prog w) A (execs body env) (FPost h₀ env.locals x (ldLed ac rest) (fun _ => []) stored m₀ (fun c => LdI rest ac c ∧ Px (i + 1) c.x1 c.x2) (fun c => LdI rest ac c ∧ Px n c.x1 c.x2) own { s with heap := h, toks := tk } Q) E { s with heap := h, toks := tk })
    (done : ∀ (q : Addr) (o : Obj) (x1 x2 : Str) (t1 t2 : Tok) (k : Nat) (u : Str → Option Value) h tk, o.data = .cell (some (.ref q)) → OffH q (ac :: rest.map (·.1)) → Px n x1 x2 →
      Fr h₀ env.locals h (fun y => if y = x then u y else if stored.contains y then u y else m₀ y) → News h₀ env.locals h ((q, W.listOf #[.str x1 t1, .str x2 t2] k) :: (ac, o) :: rest) → Q .next { s with heap := h, toks := tk }) :
    wpAny (model prog w) A (pyIter (.ref r)) (fun it s₂ => LoopAtV prog w A h₀ env x body Q E it s₂) E s :=
  free_range (σ := LdSt) (ldLed ac rest) (fun _ => []) stored (fun i c => LdI rest ac c ∧ Px i c.x1 c.x2) (fun c => LdI rest ac c ∧ Px n c.x1 c.x2) c₀ hh hr hsmall hn F N (fun _ h => nomatch h) ⟨hi, hp⟩
    (fun c i t u h tk own hi ho hc F₁ N₁ => turn c.q c.o c.x1 c.x2 c.t1 c.t2 c.k i t u h tk own hi ho hc.1.1 hc.1.2 hc.2 F₁ N₁) (fun _ h => h)
    (fun c u h tk hc F₁ N₁ => done c.q c.o c.x1 c.x2 c.t1 c.t2 c.k u h tk hc.1.1 hc.1.2 hc.2 F₁ N₁)
end
theorem dealN_enc {hs : List Nat} : ∀ i, dealN (S (enc hs)) i = S (enc (iterH i hs))
  | 0 => rfl
  | i + 1 => by
    show dealS (dealN (S (enc hs)) i) _ = _
    rw [dealN_enc i, deal_enc']
    rfl
theorem lead_heaps (d : Int) : ∃ (hs : List Nat) (e : Nat), e < 5 ∧ d.fmod 5 = (e : Int) ∧ (∀ x ∈ hs, 1 ≤ x) ∧ hs.sum = 6 + e ∧ ∀ i, dealN (firstS d) i = S (enc (iterH i hs)) := by
  obtain ⟨e, m, he, _, h5, hf⟩ := first_bits d
  exact ⟨_, e, he, h5, hp_pos _ 0, first_sum e m, fun i => by rw [hf]; exact dealN_enc i⟩
theorem lead_facts (d : Int) (i : Nat) : (dealN (firstS d) i).length ≤ 20 ∧ 0 ≤ Txt.count (dealN (firstS d) i) (Str.ofString "\t") ∧ Txt.count (dealN (firstS d) i) (Str.ofString "\t") ≤ 10 := by
  obtain ⟨hs, e, he, _, h1, h2, h3⟩ := lead_heaps d
  obtain ⟨a, b⟩ := iterH_facts h1 h2 (by (first | lia | omega)) i
  have l := sum_len _ a
  rw [h3, S_len, enc_len, count_enc]
  (first | lia | omega)
theorem Lead12.facts {d1 d2 : Int} {i : Nat} {x1 x2 : Str} (h : Lead12 d1 d2 i x1 x2) : (x1.length ≤ 20 ∧ 0 ≤ Txt.count x1 (Str.ofString "\t") ∧ Txt.count x1 (Str.ofString "\t") ≤ 10) ∧ (x2.length ≤ 20 ∧ 0 ≤ Txt.count x2 (Str.ofString "\t") ∧ Txt.count x2 (Str.ofString "\t") ≤ 10) := by
  obtain ⟨rfl, rfl⟩ := h
  exact ⟨lead_facts _ _, lead_facts _ _⟩
def DealtR (v y : Value) : Prop := ∃ a t t', v = .str a t ∧ y = .str (dealS a (Txt.count a (Str.ofString "\t"))) t'
theorem two_dealt {ys : List Value} {x1 x2 : Str} {t1 t2 : Tok} (hl : ys.length = 2) (hy : ∀ (i : Nat) (y : Value), ys[i]? = some y → ∃ v, (#[.str x1 t1, .str x2 t2] : Array Value)[i]? = some v ∧ DealtR v y) :
    ∃ t t', ys = [.str (dealS x1 (Txt.count x1 (Str.ofString "\t"))) t, .str (dealS x2 (Txt.count x2 (Str.ofString "\t"))) t'] := by
  obtain ⟨y1, y2, rfl⟩ := len_two hl
  obtain ⟨v, h, a, t, t', rfl, rfl⟩ := hy 0 y1 rfl
  obtain ⟨v2, h2, a2, t2, t2', rfl, rfl⟩ := hy 1 y2 rfl
  simp at h h2
  obtain ⟨rfl, _⟩ := h
  obtain ⟨rfl, _⟩ := h2
  exact ⟨_, _, rfl⟩
theorem Lead12.next {d1 d2 : Int} {i : Nat} {x1 x2 : Str} (h : Lead12 d1 d2 i x1 x2) : Lead12 d1 d2 (i + 1) (dealS x1 (Txt.count x1 (Str.ofString "\t"))) (dealS x2 (Txt.count x2 (Str.ofString "\t"))) := by
  obtain ⟨rfl, rfl⟩ := h
  exact ⟨rfl, rfl⟩
theorem off1_all {D : Addr} : ∀ {l : List (Addr × Obj)}, LCg.Off1 D l → ∀ p ∈ l, p.1 ≠ D
  | [], _ => fun _ h => nomatch h
  | _ :: _, h => fun p hp => by
    rcases List.mem_cons.mp hp with rfl | hp
    · exact h.1
    · exact off1_all h.2 p hp
section
variable {prog : Program} {w : World} {A : Around} {E : Value → Shared → Prop} {s : Shared} {h₀ : Heap} {L : Addr} {m : Str → Option Value} {env : Env}
/-- the state behind a piece of a comprehension that makes objects -/
def GrowEnd (h₀ : Heap) (L : Addr) (m : Str → Option Value) (all : List (Addr × Obj)) (s₁ s₂ : Shared) (P : List (Addr × Obj) → Prop) : Prop := ∃ h' tk' new, s₂ = { s₁ with heap := h', toks := tk' } ∧ Fr h₀ L h' m ∧ News h₀ L h' (new ++ all) ∧ (∀ p ∈ new, ∀ q ∈ all, @LT.lt Nat _ q.1 p.1) ∧ P new
theorem GrowEnd.intro {all news' : List (Addr × Obj)} {s₁ : Shared} {P : List (Addr × Obj) → Prop} {h' : Heap} {tk' : Nat} (new : List (Addr × Obj)) (F : Fr h₀ L h' m) (N : News h₀ L h' news') (hs : ∀ p ∈ new ++ all, p ∈ news') (hlt : ∀ p ∈ new, ∀ q ∈ all, @LT.lt Nat _ q.1 p.1) (p : P new) : GrowEnd h₀ L m all s₁ { s₁ with heap := h', toks := tk' } P := ⟨h', tk', new, rfl, F, fun p hp => N p (hs p hp), hlt, p⟩
theorem off3_grow {I C D : Addr} {all new : List (Addr × Obj)} (h1 : ∀ p ∈ new, @LT.lt Nat _ I p.1 ∧ @LT.lt Nat _ C p.1 ∧ @LT.lt Nat _ D p.1) (h2 : LCg.Off3 I C D all) : LCg.Off3 I C D (all ++ new) := by
  refine LCg.Off3.of fun p hp => ?_
  rcases List.mem_append.mp hp with hp | hp
  · exact h2.mem p hp
  · have := h1 p hp
    exact ⟨Nat.ne_of_gt this.1, Nat.ne_of_gt this.2.1, Nat.ne_of_gt this.2.2⟩
theorem off3_grow2 {I C D : Addr} {all new : List (Addr × Obj)} (h : LCg.Off3 I C D (all ++ new)) : LCg.Off3 I C D (new ++ all) :=
  LCg.Off3.of fun p hp => h.mem p (List.mem_append.mpr (List.mem_append.mp hp).symm)
/-- a comprehension of two pieces that make objects, each -/
theorem rest_grow2 {elt : Expr} {x : Str} {scope : Scope} {cl : List (Str × Addr)} {S : List (Addr × Obj) → Prop} {P : Nat → Value → Prop} {news : List (Addr × Obj)} {Fin : List Value → List (Addr × Obj) → Prop} (R : Nat → Value → Value → List (Addr × Obj) → Prop) (hS : ∀ l, (∀ p ∈ news, p ∈ l) → S l)
    (turn : ∀ i v I oI C oC D ys m₂ h tk (E' : Value → Shared → Prop) ex, i < 2 → P i v → LCg.NsObj oC m₂ → m₂ x = some v → Fr h₀ L h m → News h₀ L h ((I, oI) :: (C, oC) :: (D, LCg.lst ys) :: (news ++ ex)) → LCg.Off3 I C D (news ++ ex) → ((@Ne Nat I C) ∧ (@Ne Nat I D) ∧ (@Ne Nat C D)) →
      wpAny (model prog w) A (eval elt (compEnvC scope cl C env)) (fun y s'' => GrowEnd h₀ L m ((I, oI) :: (C, oC) :: (D, LCg.lst ys) :: (news ++ ex)) { s with heap := h, toks := tk } s'' (R i v y)) E' { s with heap := h, toks := tk })
    (fin : ∀ y0 y1 n0 n1, (∃ v, P 0 v ∧ R 0 v y0 n0) → (∃ v, P 1 v ∧ R 1 v y1 n1) → (∀ p ∈ n0, ∀ q ∈ news, @LT.lt Nat _ q.1 p.1) → (∀ p ∈ n1, ∀ q ∈ news, @LT.lt Nat _ q.1 p.1) → (∀ p ∈ n1, ∀ q ∈ n0, @LT.lt Nat _ q.1 p.1) → Fin [y0, y1] (n1 ++ (n0 ++ news))) : LCg.CompRest prog w A h₀ L m env elt x scope cl s S P Fin 2 0 [] news := by
  refine LCg.CompRest.succ ?_
  intro v I oI C oC D m₂ h tk E' hv hC hx F N off ne
  refine wpAny_mono (turn 0 v I oI C oC D [] m₂ h tk E' [] (by decide) hv hC hx F (by rw [List.append_nil]; exact N) (by rw [List.append_nil]; exact off) ne) (fun y s'' q => ?_) fun _ _ e => e
  rw [List.append_nil] at q
  obtain ⟨h', tk', n0, rfl, F', N', hlt, hr⟩ := q
  have o1 : LCg.Off3 I C D (news ++ n0) := off3_grow (fun p hp => ⟨hlt p hp (I, oI) (by simp), hlt p hp (C, oC) (by simp), hlt p hp (D, LCg.lst []) (by simp)⟩) off
  refine ⟨h', tk', news ++ n0, rfl, F', fun p hp => N' p ?_, o1, hS _ fun p hp => List.mem_append_left _ hp, ?_⟩
  · simp only [List.mem_append, List.mem_cons] at hp ⊢
    rcases hp with h | h | h | h | h <;> simp only [h, true_or, or_true]
  refine LCg.CompRest.succ ?_
  intro v2 I2 oI2 C2 oC2 D2 m₃ h2 tk2 E2 hv2 hC2 hx2 F2 N2 off2 ne2
  refine wpAny_mono (turn 1 v2 I2 oI2 C2 oC2 D2 _ m₃ h2 tk2 E2 n0 (by decide) hv2 hC2 hx2 F2 N2 off2 ne2) (fun y2 s3 q => ?_) fun _ _ e => e
  obtain ⟨h3, tk3, n1, rfl, F3, N3, hlt2, hr2⟩ := q
  have o2 := off3_grow (fun p hp => ⟨hlt2 p hp (I2, oI2) (by simp), hlt2 p hp (C2, oC2) (by simp), hlt2 p hp (D2, _) (.tail _ (.tail _ (.head _)))⟩) off2
  refine ⟨h3, tk3, n1 ++ (n0 ++ news), rfl, F3, fun p hp => N3 p ?_, LCg.Off3.of fun p hp => o2.mem p ?_, hS _ fun p hp => List.mem_append_right _ (List.mem_append_right _ hp), ?_⟩
  · simp only [List.mem_append, List.mem_cons] at hp ⊢
    rcases hp with h | h | h | h | h | h <;> simp only [h, true_or, or_true]
  · simp only [List.mem_append] at hp ⊢
    rcases hp with h | h | h <;> simp only [h, true_or, or_true]
  exact LCg.CompRest.zero (fin _ _ _ _ ⟨v, hv, hr⟩ ⟨v2, hv2, hr2⟩ (fun p hp q hq => hlt p hp q (by simp [hq])) (fun p hp q hq => hlt2 p hp q (by simp [hq])) (fun p hp q hq => hlt2 p hp q (by simp [hq])))
end
/-- the text of a table -/
abbrev typedS (x : Str) (r : Int) : Str := x ++ Txt.mul (Str.ofString " ") r ++ Str.ofString "x \t"
def TypedR (w : World) (cls : Addr) (r : Int) (v y : Value) (new : List (Addr × Obj)) : Prop :=
  ∃ x t a d tn tc vs kt, v = .str x t ∧ y = .ref a ∧ new = wsLed w cls (typedS x r) a d tn tc vs kt ∧ IntsAre vs (wsOf (typedS x r)).ns ∧ WSB (typedS x r) ∧ @LT.lt Nat _ d a ∧ @LT.lt Nat _ a tc ∧ @LT.lt Nat _ tc tn
theorem rest_typed {prog : Program} {w : World} {A : Around} {s : Shared} {h₀ : Heap} {L : Addr} {m : Str → Option Value} {env : Env} {elt : Expr} {x : Str} {scope : Scope} {cl : List (Str × Addr)} {S : List (Addr × Obj) → Prop} {P : Nat → Value → Prop} {news : List (Addr × Obj)} {Fin : List Value → List (Addr × Obj) → Prop} (cls : Addr) {r : Int} (_ : 0 ≤ r ∧ r < 4) (hS : ∀ l, (∀ p ∈ news, p ∈ l) → S l)
    (turn : ∀ i v I oI C oC D ys m₂ h tk (E' : Value → Shared → Prop) ex, i < 2 → P i v → LCg.NsObj oC m₂ → m₂ x = some v → Fr h₀ L h m → News h₀ L h ((I, oI) :: (C, oC) :: (D, LCg.lst ys) :: (news ++ ex)) → LCg.Off3 I C D (news ++ ex) → ((@Ne Nat I C) ∧ (@Ne Nat I D) ∧ (@Ne Nat C D)) →
      wpAny (model prog w) A (eval elt (compEnvC scope cl C env)) (fun y s'' => GrowEnd h₀ L m ((I, oI) :: (C, oC) :: (D, LCg.lst ys) :: (news ++ ex)) { s with heap := h, toks := tk } s'' (TypedR w cls r v y)) E' { s with heap := h, toks := tk })
    (fin : ∀ y0 y1 n0 n1, (∃ v, P 0 v ∧ TypedR w cls r v y0 n0) → (∃ v, P 1 v ∧ TypedR w cls r v y1 n1) → (∀ p ∈ n0, ∀ q ∈ news, @LT.lt Nat _ q.1 p.1) → (∀ p ∈ n1, ∀ q ∈ news, @LT.lt Nat _ q.1 p.1) → (∀ p ∈ n1, ∀ q ∈ n0, @LT.lt Nat _ q.1 p.1) → Fin [y0, y1] (n1 ++ (n0 ++ news))) : LCg.CompRest prog w A h₀ L m env elt x scope cl s S P Fin 2 0 [] news :=
  rest_grow2 (fun _ => TypedR w cls r) hS turn fin
theorem allLt_mem {d : Addr} : ∀ {l : List (Addr × Obj)}, AllLt d l → ∀ q ∈ l, @LT.lt Nat _ q.1 d
  | [], _ => fun _ h => nomatch h
  | _ :: _, h => fun q hq => by
    rcases List.mem_cons.mp hq with rfl | hq
    · exact h.1
    · exact allLt_mem h.2 q hq
/-- behind a Whitespace made in a comprehension -/
theorem typed_end {w : World} {h₀ : Heap} {L : Addr} {m : Str → Option Value} {s₁ : Shared} {h' : Heap} {tk' : Nat} {cls : Addr} {r : Int} {x : Str} {t : Tok} {a d tn tc : Addr} {vs : List Value} {kt : WTok} {all : List (Addr × Obj)}
    (F : Fr h₀ L h' m) (N : News h₀ L h' (wsLed w cls (typedS x r) a d tn tc vs kt ++ all)) (hi : IntsAre vs (wsOf (typedS x r)).ns) (hb : WSB (typedS x r)) (h1 : @LT.lt Nat _ d a) (h2 : @LT.lt Nat _ a tc) (h3 : @LT.lt Nat _ tc tn) (hlt : AllLt d all) :
    GrowEnd h₀ L m all s₁ { s₁ with heap := h', toks := tk' } (TypedR w cls r (.str x t) (.ref a)) := by
  refine GrowEnd.intro _ F N (fun p hp => hp) (fun p hp q hq => ?_) ⟨x, t, a, d, tn, tc, vs, kt, rfl, rfl, rfl, hi, hb, h1, h2, h3⟩
  have h0 : @LT.lt Nat _ q.1 d := allLt_mem hlt q hq
  simp only [wsLed, List.mem_cons, List.not_mem_nil, or_false] at hp
  rcases hp with rfl | rfl | rfl | rfl
  · exact Nat.lt_trans h0 h1
  · exact h0
  · exact Nat.lt_trans h0 (Nat.lt_trans h1 (Nat.lt_trans h2 h3))
  · exact Nat.lt_trans h0 (Nat.lt_trans h1 h2)
end Mine
end
section
open PySem PySem.W PyProof.Rows
namespace Mine
theorem bump_len (c : List Int) (h : Nat) : (wsBump c (h : Int)).length = max c.length (h + 1) := by
  unfold wsBump
  simp only [List.length_set]
  split
  · rw [List.length_append, List.length_replicate]; (first | lia | omega)
  · (first | lia | omega)
theorem bump_get (c : List Int) (h i : Nat) : (wsBump c (h : Int)).getD i 0 = c.getD i 0 + if i = h then 1 else 0 := by
  have app : ∀ (n i : Nat), (c ++ List.replicate n (0 : Int)).getD i 0 = c.getD i 0 := by
    intro n i
    by_cases hi : i < c.length
    · rw [List.getD_eq_getElem?_getD, List.getElem?_append_left hi, List.getD_eq_getElem?_getD]
    · rw [List.getD_eq_getElem?_getD, List.getElem?_append_right (by (first | lia | omega)), List.getD_eq_getElem?_getD, List.getElem?_eq_none (l := c) (by (first | lia | omega))]
      rw [List.getElem?_replicate]
      split <;> rfl
  have key : ∀ c' : List Int, h < c'.length → (c'.set h (c'.getD h 0 + 1)).getD i 0 = c'.getD i 0 + if i = h then 1 else 0 := by
    intro c' hl
    by_cases e : i = h
    · subst e
      rw [if_pos rfl, List.getD_eq_getElem?_getD, List.getElem?_set_self (by (first | lia | omega))]
      rfl
    · rw [if_neg e, List.getD_eq_getElem?_getD, List.getElem?_set_ne (fun q => e q.symm), ← List.getD_eq_getElem?_getD]
      (first | lia | omega)
  unfold wsBump
  simp only [Int.toNat_natCast]
  split
  · rw [key _ (by rw [List.length_append, List.length_replicate]; (first | lia | omega)), app]
  · rw [key _ (by (first | lia | omega))]
def bumps (c : List Int) (hs : List Nat) : List Int := hs.foldl (fun (c : List Int) (h : Nat) => wsBump c (h : Int)) c
theorem bumps_get : ∀ (hs : List Nat) (c : List Int) (i : Nat), (bumps c hs).getD i 0 = c.getD i 0 + (hs.count i : Int)
  | [], c, i => by simp [bumps]
  | h :: hs, c, i => by
    show (bumps (wsBump c (h : Int)) hs).getD i 0 = _
    rw [bumps_get hs, bump_get, List.count_cons]
    by_cases e : i = h
    · subst e; simp; (first | lia | omega)
    · rw [if_neg e, if_neg (by simpa using fun q : h = i => e q.symm)]; simp
theorem bumps_len : ∀ (hs : List Nat) (c : List Int) (M : Nat), c.length ≤ M → (∀ h ∈ hs, h + 1 ≤ M) → (c.length = M ∨ ∃ h ∈ hs, h + 1 = M) → (bumps c hs).length = M
  | [], c, M, _, _, h => by rcases h with h | ⟨_, h, _⟩; exact h; exact nomatch h
  | x :: hs, c, M, h1, h2, h3 => by
    show (bumps (wsBump c (x : Int)) hs).length = M
    have hx := h2 x (.head _)
    refine bumps_len hs _ M (by rw [bump_len]; (first | lia | omega)) (fun h hh => h2 h (.tail _ hh)) ?_
    rw [bump_len]
    rcases h3 with h3 | ⟨h, hh, e⟩
    · left; (first | lia | omega)
    · rcases List.mem_cons.mp hh with rfl | hh
      · left; (first | lia | omega)
      · right; exact ⟨h, hh, e⟩
theorem go_enc : ∀ (hs : List Nat) (s : List Nat) (c : List Int) (n nt : Int), ∃ n', wsGo (enc hs ++ s) c 0 n nt = wsGo s (bumps c hs) 0 n' (nt + hs.length)
  | [], s, c, n, nt => ⟨n, by simp [enc, bumps]⟩
  | h :: hs, s, c, n, nt => by
    obtain ⟨n', e⟩ := go_enc hs s (wsBump c (h : Int)) (n + h + 1) (nt + 1)
    refine ⟨n', ?_⟩
    simp only [enc, List.append_assoc, List.cons_append]
    rw [scan_rest]
    simp only [wsGo, if_true, if_neg (show ¬ (9 : Nat) = 32 by decide), Int.zero_add]
    rw [e]
    show wsGo s (bumps c (h :: hs)) 0 n' _ = wsGo s (bumps c (h :: hs)) 0 n' _
    congr 1
    simp only [List.length_cons]
    (first | lia | omega)
/-- Whitespace of heaps, blanks and an x -/
theorem ws_heaps (hs : List Nat) (s : List Nat) (r : Int) (hr : 0 ≤ r) : ∃ n', wsOf (S (enc hs) ++ Txt.mul (Str.ofString " ") r ++ S (120 :: s)) = ⟨bumps [] hs, r, n', hs.length⟩ := by
  obtain ⟨n', e⟩ := go_enc hs (List.replicate r.toNat 32 ++ 120 :: s) [] 0 0
  refine ⟨n' + r, ?_⟩
  unfold wsOf
  rw [typed_list, e, scan_rest, ws_stop]
  congr 1 <;> (first | lia | omega)
end Mine
end
section
open PySem PySem.W PyProof.Rows
namespace Mine
/-- how often each size stands -/
def dueN (a b c d : Nat) : List Int := (List.range (4 + a)).map fun (k : Nat) => ((([3 + a, 2 + b, 1 + c] ++ List.replicate d 1).count k : Nat) : Int)
theorem due_table : ∀ a b c d : Fin 2, gs 1 0 (dueN a.val b.val c.val d.val) = 6 + (a.val : Int) + b.val + c.val + d.val ∧ gs 2 0 (dueN a.val b.val c.val d.val) = 2 + (a.val : Int) + c.val ∧ gs 3 0 (dueN a.val b.val c.val d.val) = 1 + (b.val : Int) ∧ gs 4 0 (dueN a.val b.val c.val d.val) = (a.val : Int) := by decide +kernel
theorem bumps_due {hs : List Nat} {a b c d : Nat} (h : Ok hs a b c d) : bumps [] hs = dueN a b c d := by
  have h1 := h.ha; have h2 := h.hb; have h3 := h.hc; have h4 := h.hd
  have hl : (bumps [] hs).length = 4 + a := by
    refine bumps_len hs [] (4 + a) (by simp) (fun x hx => ?_) (.inr ⟨3 + a, h.perm.mem_iff.mpr (by simp), by (first | lia | omega)⟩)
    have := h.perm.mem_iff.mp hx
    simp only [List.cons_append, List.nil_append, List.mem_cons, List.mem_replicate] at this
    rcases this with rfl | rfl | rfl | ⟨_, rfl⟩ <;> (first | lia | omega)
  refine List.ext_getElem (by rw [hl]; simp [dueN]) fun i hi hi2 => ?_
  have e := bumps_get hs [] i
  rw [List.getD_eq_getElem?_getD, List.getElem?_eq_getElem hi] at e
  have e2 : (bumps [] hs)[i] = (hs.count i : Int) := by simpa using e
  rw [e2, h.cnt i]
  simp [dueN]
theorem typed_ok {hs : List Nat} {a b c d : Nat} (h : Ok hs a b c d) {r : Int} (hr : 0 ≤ r) : ∃ n', wsOf (typedS (S (enc hs)) r) = ⟨dueN a b c d, r, n', 3 + (d : Int)⟩ := by
  obtain ⟨n', e⟩ := ws_heaps hs [32, 9] r hr
  refine ⟨n', ?_⟩
  show wsOf (S (enc hs) ++ Txt.mul (Str.ofString " ") r ++ Str.ofString "x \t") = _
  rw [litX, e, bumps_due h, h.len]
  simp
theorem more_table {hs : List Nat} {a b c d : Nat} (h : Ok hs a b c d) {r n : Int} (hr : 0 ≤ r) (hn : n = (hs.sum : Int)) :
    moreFirst (typedS (S (enc hs)) r) n r = a ∧ moreSecond (typedS (S (enc hs)) r) n r = b ∧ moreThird (typedS (S (enc hs)) r) n r = c ∧ moreLast (typedS (S (enc hs)) r) n r = d := by
  obtain ⟨n', e⟩ := typed_ok h hr
  have h1 := h.ha; have h2 := h.hb; have h3 := h.hc; have h4 := h.hd
  obtain ⟨t1, t2, t3, t4⟩ := due_table ⟨a, by (first | lia | omega)⟩ ⟨b, by (first | lia | omega)⟩ ⟨c, by (first | lia | omega)⟩ ⟨d, by (first | lia | omega)⟩
  dsimp only at t1 t2 t3 t4
  have key : ∀ k : Int, 1 ≤ k → moreM (typedS (S (enc hs)) r) r k = gs k 0 (dueN a b c d) + (3 + d) := by
    intro k hk
    unfold moreM ilF
    rw [e]
    dsimp only
    rw [ilG_all hk, Int.add_comm r, Int.add_sub_cancel, Int.mul_comm, Int.mul_fdiv_cancel _ (by (first | lia | omega))]
  have hs6 := h.sum
  have k1 := key 1 (by decide)
  have k2 := key 2 (by decide)
  have k3 := key 3 (by decide)
  have k4 := key 4 (by decide)
  have l : moreLast (typedS (S (enc hs)) r) n r = d := by unfold moreLast; (first | lia | omega)
  have f : moreFirst (typedS (S (enc hs)) r) n r = a := by unfold moreFirst; (first | lia | omega)
  refine ⟨f, ?_, ?_, l⟩
  · unfold moreSecond; (first | lia | omega)
  · unfold moreThird; (first | lia | omega)
end Mine
end
section
open PySem PySem.W PyProof.Rows
set_option maxHeartbeats 8000000
namespace Mine
/-- the figure of a table: its text, cards, rest -/
def figF (x : Str) (c r : Int) : Int := 8 * moreFirst (typedS x r) c r + 4 * moreSecond (typedS x r) c r + 2 * moreThird (typedS x r) c r + moreLast (typedS x r) c r
/-- the two figures as letters -/
def wordF (f g : Int) : Array UInt8 := #[UInt8.ofNat (65 + f.toNat), UInt8.ofNat (65 + g.toNat)]
/-- the state of the five turns -/
structure TSt where
  q : Addr
  o : Obj
  x1 : Str
  x2 : Str
  t1 : Tok
  t2 : Tok
  k : Nat
  oh : Obj
  vh : Option Value
  ot : Obj
  vt : Option Value
  wd : Array UInt8
  tw : Tok
structure BSt where
  kb : Nat
  p0 : Addr
  p1 : Addr
  u0 : Tok
  u1 : Tok
  a0 : Addr
  d0 : Addr
  n0 : Addr
  c0 : Addr
  vs0 : List Value
  kt0 : WTok
  a1 : Addr
  d1 : Addr
  n1 : Addr
  c1 : Addr
  vs1 : List Value
  kt1 : WTok
abbrev turnLed (ac ah at_ : Addr) (rest : List (Addr × Obj)) (c : TSt) : List (Addr × Obj) :=
  (c.q, W.listOf #[.str c.x1 c.t1, .str c.x2 c.t2] c.k) :: (ac, c.o) :: (ah, c.oh) :: (at_, c.ot) :: rest
abbrev begunLed (w : World) (cls b : Addr) (X0 X1 : Str) (f0 f1 : Int) (g : BSt) : List (Addr × Obj) :=
  (b, W.listOf #[.ref g.p0, .ref g.p1] g.kb) :: (g.p0, tupOf [.ref g.a0, .int f0 g.u0]) :: (g.p1, tupOf [.ref g.a1, .int f1 g.u1]) ::
    (g.a0, instObj cls g.d0) :: (g.d0, dictOf (wsDict w X0 g.n0 g.kt0) 5) :: (g.n0, tupOf [.ref g.c0, .int (wsOf X0).b g.kt0.v4]) :: (g.c0, tupOf g.vs0) ::
    (g.a1, instObj cls g.d1) :: (g.d1, dictOf (wsDict w X1 g.n1 g.kt1) 5) :: (g.n1, tupOf [.ref g.c1, .int (wsOf X1).b g.kt1.v4]) :: (g.c1, tupOf g.vs1) :: []
def begunOrd (b : Addr) (X0 X1 : Str) (g : BSt) : Prop :=
  (@LT.lt Nat _ b g.p0 ∧ @LT.lt Nat _ b g.p1 ∧ @LT.lt Nat _ b g.a0 ∧ @LT.lt Nat _ b g.d0 ∧ @LT.lt Nat _ b g.n0 ∧ @LT.lt Nat _ b g.c0 ∧ @LT.lt Nat _ b g.a1 ∧ @LT.lt Nat _ b g.d1 ∧ @LT.lt Nat _ b g.n1 ∧ @LT.lt Nat _ b g.c1) ∧
  IntsAre g.vs0 (wsOf X0).ns ∧ IntsAre g.vs1 (wsOf X1).ns
def turnsLed (w : World) (cls b ac ah at_ : Addr) (X0 X1 : Str) (f0 f1 : Int) (rest : List (Addr × Obj)) : TSt ⊕ (TSt × BSt) → List (Addr × Obj)
  | .inl c => (b, W.listOf #[] 0) :: turnLed ac ah at_ rest c
  | .inr (c, g) => begunLed w cls b X0 X1 f0 f1 g ++ turnLed ac ah at_ rest c
def turnsPs : TSt ⊕ (TSt × BSt) → List (Str × Value)
  | .inl c => [(Str.ofString "word", .bytes c.wd c.tw)]
  | .inr (c, _) => [(Str.ofString "word", .bytes c.wd c.tw)]
def turnOk (c : TSt) : Prop :=
  c.o.data = .cell (some (.ref c.q)) ∧ c.oh.data = .cell c.vh ∧ c.ot.data = .cell c.vt
def turnsI (b ac ah at_ : Addr) (X0 X1 : Str) (rest : List (Addr × Obj)) (Px : Nat → Str → Str → Array UInt8 → Prop) (i : Nat) : TSt ⊕ (TSt × BSt) → Prop
  | .inl c => i = 0 ∧ turnOk c ∧ OffH c.q (ac :: ah :: at_ :: rest.map (·.1)) ∧ @LT.lt Nat _ c.q b ∧ Px i c.x1 c.x2 c.wd
  | .inr (c, g) => 1 ≤ i ∧ turnOk c ∧ OffH c.q (ac :: ah :: at_ :: rest.map (·.1)) ∧ begunOrd b X0 X1 g ∧ Px i c.x1 c.x2 c.wd
section
variable {prog : Program} {w : World} {A : Around} {E : Value → Shared → Prop} {s : Shared} {env : Env} {h₀ : Heap} {x : Str} {body : List Stmt} {Q : Flow → Shared → Prop}
/-- as free_core; the iterator is told: one object at I -/
theorem free_core1 {σ : Type} {I : Addr} {n : Nat} {P : Nat → Value → Prop} {St : Nat → Heap → Prop} {m₀ : Str → Option Value} (Led : σ → List (Addr × Obj)) (ps : σ → List (Str × Value)) (stored : List Str) (Pi : Nat → σ → Prop) (Pd : σ → Prop) (c₀ : σ)
    (W : Walks prog w A I [I] [I] n P St) (hob : ∀ i h, St i h → ∃ o, h.get? I = some o) (hLf : env.locals ≠ I) (hwr : h₀.get? I = none) (hnw : ∀ p ∈ Led c₀, p.1 ≠ I) (hst : St 0 s.heap)
    (F : Fr h₀ env.locals s.heap m₀) (N : News h₀ env.locals s.heap (Led c₀)) (hk : ∀ p ∈ ps c₀, m₀ p.1 = some p.2) (hp : Pi 0 c₀)
    (turn : ∀ (c : σ) i v (u : Str → Option Value) h tk oI, i < n → P i v → (∀ p ∈ Led c, @Ne Nat I p.1) → Pi i c →
      Fr h₀ env.locals h (fun y => if y = x then some v else kstB (fun z => if stored.contains z then u z else m₀ z) (ps c) y) → News h₀ env.locals h ((I, oI) :: Led c) →
      wpAny (model prog w) A (execs body env) (FPost h₀ env.locals x Led ps stored m₀ (Pi (i + 1)) Pd [(I, oI)] { s with heap := h, toks := tk } Q) E { s with heap := h, toks := tk })
    (hPd : ∀ c, Pi n c → Pd c)
    (done : ∀ (c : σ) (u : Str → Option Value) h tk, Pd c → Fr h₀ env.locals h (fun y => if y = x then u y else kstB (fun z => if stored.contains z then u z else m₀ z) (ps c) y) → News h₀ env.locals h (Led c) → Q .next { s with heap := h, toks := tk }) :
    LoopAtV prog w A h₀ env x body Q E (.ref I) s := by
  refine ⟨I, [I], [I], n, P, St, m₀, Led c₀, fun i m nx => ∃ c, nx = Led c ∧ (∀ p ∈ ps c, m p.1 = some p.2) ∧ (∀ z, z ≠ x → (∀ p ∈ ps c, z ≠ p.1) → stored.contains z = false → m z = m₀ z) ∧ Pi i c, rfl, W, ?_, ?_, ?_, hst, F, N, ⟨c₀, rfl, hk, fun _ _ _ _ => rfl, hp⟩, ?_, ?_⟩
  · exact fun h => hLf (List.mem_singleton.mp h)
  · intro b hb
    rw [List.mem_singleton.mp hb]
    exact hwr
  · exact fun p hp hI => hnw p hp (List.mem_singleton.mp hI)
  · rintro i v m₁ nx s₁ own ⟨h, tk, rfl⟩ hi hP ⟨c, rfl, h1, h2, hc'⟩ hoff hown hget hmem hst' F₁ N₁
    obtain ⟨oI, hoI⟩ := hob _ _ hst'
    have hI : (I, oI) ∈ own := hmem I (.head _) hwr oI hoI
    have hall : ∀ p ∈ own, p = (I, oI) := by
      intro p hp
      have e1 : p.1 = I := List.mem_singleton.mp (hown p hp)
      have e2 := hget p hp
      rw [e1, hoI] at e2
      exact Prod.ext e1 (Option.some.inj e2).symm
    have N₂ : News h₀ env.locals h ((I, oI) :: Led c) := fun p hp => N₁ p ((List.mem_cons.mp hp).elim (fun h => List.mem_append.mpr (.inl (h ▸ hI))) fun h => List.mem_append.mpr (.inr h))
    have ho : ∀ p ∈ Led c, @Ne Nat I p.1 := fun p hp e => hoff p hp (List.mem_singleton.mpr e.symm)
    have fin : ∀ s₂, FEnd h₀ env.locals x Led ps stored m₀ (Pi (i + 1)) [(I, oI)] { s with heap := h, toks := tk } s₂ → LoopStepU h₀ env.locals [I] own (fun m nx => ∃ c, nx = Led c ∧ (∀ p ∈ ps c, m p.1 = some p.2) ∧ (∀ z, z ≠ x → (∀ p ∈ ps c, z ≠ p.1) → stored.contains z = false → m z = m₀ z) ∧ Pi (i + 1) c) { s with heap := h, toks := tk } .next s₂ := by
      rintro s₂ ⟨c', h', tk', m', news', rfl, F', N', hl', ho', hoff', hk', hm', hp'⟩
      refine ⟨rfl, h', tk', m', Led c', rfl, F', fun p hp => ?_, fun p hp hq => ?_, c', rfl, hk', hm', hp'⟩
      · rcases List.mem_append.mp hp with hp | hp
        · rw [hall p hp]; exact N' _ (ho' _ (.head _))
        · exact N' p (hl' p hp)
      · exact hoff' (I, oI) (.head _) p hp (List.mem_singleton.mp hq).symm
    refine wpAny_mono (turn c i v m₁ h tk oI hi hP ho hc' (kst_fr h1 h2 F₁) N₂) (fun f s₂ p => ?_) fun _ _ e => e
    cases f with
    | ret v => exact .ret p
    | brk =>
      obtain ⟨c', h', tk', m', news', rfl, F', N', hl, ho', _, hk', hm', hp'⟩ := p
      exact .brk (done c' m' h' tk' hp' (kst_frOut hk' hm' F') (fun p hp => N' p (hl p hp)))
    | next => exact .next (fin _ p)
    | cont => exact .cont (fin _ p)
  · rintro h tk m₁ nx F₁ N₁ _ ⟨c, rfl, h1, h2, hc'⟩
    exact done c m₁ h tk (hPd c hc') (kst_frOut h1 h2 F₁) N₁
theorem free_range1 {σ : Type} {r : Addr} {a₀ b₀ : Int} {t₀ u₀ v₀ : Tok} {n : Nat} {m₀ : Str → Option Value} (Led : σ → List (Addr × Obj)) (ps : σ → List (Str × Value)) (stored : List Str) (Pi : Nat → σ → Prop) (Pd : σ → Prop) (c₀ : σ)
    (hh : A.handled = none) (hr : IsRange s.heap r a₀ b₀ 1 t₀ u₀ v₀) (hsmall : Builtin.Range.small a₀ b₀ 1 = true) (hn : Builtin.Range.rangeSize a₀ b₀ 1 = (n : Int)) (F : Fr h₀ env.locals s.heap m₀) (N : News h₀ env.locals s.heap (Led c₀)) (hk : ∀ p ∈ ps c₀, m₀ p.1 = some p.2) (hp : Pi 0 c₀)
    (turn : ∀ (c : σ) i t (u : Str → Option Value) h tk I oI, (∀ p ∈ Led c₀, @LT.lt Nat _ p.1 I) → i < n → (∀ p ∈ Led c, @Ne Nat I p.1) → Pi i c →
      Fr h₀ env.locals h (fun y => if y = x then some (.int (a₀ + (i : Int)) t) else kstB (fun z => if stored.contains z then u z else m₀ z) (ps c) y) → News h₀ env.locals h ((I, oI) :: Led c) →
      wpAny (model prog w) A (execs body env) (FPost h₀ env.locals x Led ps stored m₀ (Pi (i + 1)) Pd [(I, oI)] { s with heap := h, toks := tk } Q) E { s with heap := h, toks := tk })
    (hPd : ∀ c, Pi n c → Pd c)
    (done : ∀ (c : σ) (u : Str → Option Value) h tk, Pd c → Fr h₀ env.locals h (fun y => if y = x then u y else kstB (fun z => if stored.contains z then u z else m₀ z) (ps c) y) → News h₀ env.locals h (Led c) → Q .next { s with heap := h, toks := tk }) :
    wpAny (model prog w) A (pyIter (.ref r)) (fun it s₂ => LoopAtV prog w A h₀ env x body Q E it s₂) E s := by
  refine wpAny_pyIter_range hr hsmall ?_
  have W : Walks prog w A s.heap.objs.size [s.heap.objs.size] [s.heap.objs.size] n (fun i v => i < n ∧ ∃ t, v = .int (a₀ + i * 1) t)
      (fun i h => IsRangeIter h s.heap.objs.size (a₀ + (i : Nat) * 1) ((n : Int) - (i : Nat)) 1) := (Walks.range hh _ a₀ 1 n).bound
  refine free_core1 Led ps stored Pi Pd c₀ W (fun i h hi => ⟨_, hi⟩) (Nat.ne_of_lt F.ns.lt) (next_is_new F) (fun p hp hI => absurd (Heap.lt_size (N p hp).1) (hI ▸ Nat.lt_irrefl _))
    (by show IsRangeIter _ _ _ _ _; rw [hn]; simpa using Heap.get?_push_size _ rfl) (F.push _) (fun p hp => ⟨Heap.get?_push_of_some _ (N p hp).1, (N p hp).2⟩) hk hp ?_ hPd done
  rintro c i v u h tk oI hi ⟨_, t, rfl⟩ ho hc F₁ N₁
  have := turn c i t u h tk _ oI (fun p hp => Heap.lt_size (N p hp).1) hi ho hc (by simpa using F₁) N₁
  simpa using this
end
section
variable {prog : Program} {w : World} {A : Around} {E : Value → Shared → Prop} {s : Shared} {env : Env} {h₀ : Heap} {x : Str} {body : List Stmt} {Q : Flow → Shared → Prop}
abbrev turnsPost (h₀ : Heap) (L : Addr) (x : Str) (stored : List Str) (m₀ : Str → Option Value) (w : World) (cls b ac ah at_ : Addr) (X0 X1 : Str) (f0 f1 : Int) (rest : List (Addr × Obj)) (Px : Nat → Str → Str → Array UInt8 → Prop) (i : Nat) (own : List (Addr × Obj)) (s₁ : Shared) (Q : Flow → Shared → Prop) : Flow → Shared → Prop :=
  FPost h₀ L x (turnsLed w cls b ac ah at_ X0 X1 f0 f1 rest) turnsPs stored m₀ (turnsI b ac ah at_ X0 X1 rest Px (i + 1)) (fun _ => True) own s₁ Q
theorem free_turns {r : Addr} {a₀ b₀ : Int} {t₀ u₀ v₀ : Tok} {n : Nat} {m₀ : Str → Option Value} (cls b ac ah at_ : Addr) (X0 X1 : Str) (f0 f1 : Int) {rest : List (Addr × Obj)} (stored : List Str) (Px : Nat → Str → Str → Array UInt8 → Prop) (c₀ : TSt)
    (hh : A.handled = none) (hr : IsRange s.heap r a₀ b₀ 1 t₀ u₀ v₀) (hsmall : Builtin.Range.small a₀ b₀ 1 = true) (hn : Builtin.Range.rangeSize a₀ b₀ 1 = (n : Int)) (F : Fr h₀ env.locals s.heap m₀) (N : News h₀ env.locals s.heap ((b, W.listOf #[] 0) :: turnLed ac ah at_ rest c₀)) (hk : m₀ (Str.ofString "word") = some (.bytes c₀.wd c₀.tw))
    (hi : turnOk c₀) (hne : OffH c₀.q (ac :: ah :: at_ :: rest.map (·.1))) (hlt : @LT.lt Nat _ c₀.q b) (hp : Px 0 c₀.x1 c₀.x2 c₀.wd)
    (turn0 : ∀ (q : Addr) (o oh ot : Obj) (vh vt : Option Value) (x1 x2 : Str) (t1 t2 : Tok) (k : Nat) (wd : Array UInt8) (tw : Tok) t (u : Str → Option Value) h tk I oI, @LT.lt Nat _ b I → 0 < n → (∀ p ∈ (b, W.listOf #[] 0) :: (q, W.listOf #[.str x1 t1, .str x2 t2] k) :: (ac, o) :: (ah, oh) :: (at_, ot) :: rest, @Ne Nat I p.1) → o.data = .cell (some (.ref q)) → oh.data = .cell vh → ot.data = .cell vt → OffH q (ac :: ah :: at_ :: rest.map (·.1)) → @LT.lt Nat _ q b → Px 0 x1 x2 wd →
      Fr h₀ env.locals h (fun y => if y = x then some (.int (a₀ + ((0 : Nat) : Int)) t) else if y = Str.ofString "word" then some (.bytes wd tw) else if stored.contains y then u y else m₀ y) → News h₀ env.locals h ((I, oI) :: (b, W.listOf #[] 0) :: (q, W.listOf #[.str x1 t1, .str x2 t2] k) :: (ac, o) :: (ah, oh) :: (at_, ot) :: rest) →
      wpAny (model prog w) A (execs body env) (turnsPost h₀ env.locals x stored m₀ w cls b ac ah at_ X0 X1 f0 f1 rest Px 0 [(I, oI)] { s with heap := h, toks := tk } Q) E { s with heap := h, toks := tk })
    (turn1 : ∀ (q : Addr) (o oh ot : Obj) (vh vt : Option Value) (x1 x2 : Str) (t1 t2 : Tok) (k : Nat) (wd : Array UInt8) (tw : Tok) (g : BSt) (i : Nat) t (u : Str → Option Value) h tk I oI, @LT.lt Nat _ b I → i < n → (∀ p ∈ begunLed w cls b X0 X1 f0 f1 g ++ (q, W.listOf #[.str x1 t1, .str x2 t2] k) :: (ac, o) :: (ah, oh) :: (at_, ot) :: rest, @Ne Nat I p.1) → 1 ≤ i → o.data = .cell (some (.ref q)) → oh.data = .cell vh → ot.data = .cell vt → OffH q (ac :: ah :: at_ :: rest.map (·.1)) → begunOrd b X0 X1 g → Px i x1 x2 wd →
      Fr h₀ env.locals h (fun y => if y = x then some (.int (a₀ + (i : Int)) t) else if y = Str.ofString "word" then some (.bytes wd tw) else if stored.contains y then u y else m₀ y) → News h₀ env.locals h ((I, oI) :: (begunLed w cls b X0 X1 f0 f1 g ++ (q, W.listOf #[.str x1 t1, .str x2 t2] k) :: (ac, o) :: (ah, oh) :: (at_, ot) :: rest)) →
      wpAny (model prog w) A (execs body env) (turnsPost h₀ env.locals x stored m₀ w cls b ac ah at_ X0 X1 f0 f1 rest Px i [(I, oI)] { s with heap := h, toks := tk } Q) E { s with heap := h, toks := tk })
    (done : ∀ (led : List (Addr × Obj)) (u : Str → Option Value) (m : Str → Option Value) h tk, Fr h₀ env.locals h m → News h₀ env.locals h led → Q .next { s with heap := h, toks := tk }) :
    wpAny (model prog w) A (pyIter (.ref r)) (fun it s₂ => LoopAtV prog w A h₀ env x body Q E it s₂) E s := by
  refine free_range1 (σ := TSt ⊕ (TSt × BSt)) (turnsLed w cls b ac ah at_ X0 X1 f0 f1 rest) turnsPs stored (turnsI b ac ah at_ X0 X1 rest Px) (fun _ => True) (.inl c₀) hh hr hsmall hn F N ?_ ⟨rfl, hi, hne, hlt, hp⟩ ?_ (fun _ _ => trivial) ?_
  · intro p hp
    rw [List.mem_singleton.mp hp]
    exact hk
  · rintro (c | ⟨c, g⟩) i t u h tk I oI hI0 hi ho hc F₁ N₁
    · obtain ⟨rfl, ⟨h1, h2, h3⟩, h4, h5, h6⟩ := hc
      exact turn0 c.q c.o c.oh c.ot c.vh c.vt c.x1 c.x2 c.t1 c.t2 c.k c.wd c.tw t u h tk I oI (hI0 _ (.head _)) hi ho h1 h2 h3 h4 h5 h6 F₁ N₁
    · obtain ⟨h0, ⟨h1, h2, h3⟩, h4, h6, h7⟩ := hc
      exact turn1 c.q c.o c.oh c.ot c.vh c.vt c.x1 c.x2 c.t1 c.t2 c.k c.wd c.tw g i t u h tk I oI (hI0 _ (.head _)) hi ho h0 h1 h2 h3 h4 h6 h7 F₁ N₁
  · intro c u h tk _ F₁ N₁
    exact done _ u _ h tk F₁ N₁
end
/-- the leads, and the letters behind a turn -/
def TurnP (d1 d2 r : Int) (i : Nat) (x1 x2 : Str) (wd : Array UInt8) : Prop :=
  x1 = dealN (firstS d1) (12 + i) ∧ x2 = dealN (firstS d2) (12 + i) ∧ ∀ j, i = j + 1 → wd = wordF (figF (dealN (firstS d1) (12 + j)) (6 + d1.fmod 5) r) (figF (dealN (firstS d2) (12 + j)) (6 + d2.fmod 5) r)
theorem turnP_start {d1 d2 r : Int} {wd : Array UInt8} : TurnP d1 d2 r 0 (dealN (firstS d1) 12) (dealN (firstS d2) 12) wd := ⟨rfl, rfl, fun j h => by cases h⟩
theorem turns_pick {h₀ h : Heap} {L : Addr} {b q c cd dr hp tb r1 r2 r3 r4 : Addr × Obj} (N : News h₀ L h (b :: q :: c :: cd :: dr :: hp :: tb :: r1 :: r2 :: r3 :: r4 :: [])) : News h₀ L h (b :: q :: c :: hp :: tb :: cd :: dr :: r1 :: r2 :: r3 :: r4 :: []) := by
  intro p hp
  apply N p
  simp only [List.mem_cons] at hp ⊢
  rcases hp with h | h | h | h | h | h | h | h | h | h | h | h <;> simp only [h, true_or, or_true]
section
variable {prog : Program} {w : World} {A : Around} {E : Value → Shared → Prop} {s : Shared} {env : Env} {h₀ : Heap} {x : Str} {body : List Stmt} {Q : Flow → Shared → Prop}
abbrev XT (d r : Int) : Str := typedS (dealN (firstS d) 12) r
abbrev FT (d r : Int) : Int := figF (dealN (firstS d) 12) (6 + d.fmod 5) r
theorem law_turns {rg : Addr} {a₀ b₀ : Int} {t₀ u₀ v₀ : Tok} {n : Nat} {m₀ : Str → Option Value} {d1 d2 r : Int} (cls : Addr) {b ac ah at_ : Addr} {rest : List (Addr × Obj)} (stored : List Str)
    {q : Addr} {o oh ot : Obj} {vh vt : Option Value} {t1 t2 : Tok} {k : Nat} {wd : Array UInt8} {tw : Tok} (_ : 0 ≤ r ∧ r < 4)
    (hh : A.handled = none) (hr : IsRange s.heap rg a₀ b₀ 1 t₀ u₀ v₀) (hsmall : Builtin.Range.small a₀ b₀ 1 = true) (hn : Builtin.Range.rangeSize a₀ b₀ 1 = (n : Int)) (F : Fr h₀ env.locals s.heap m₀)
    (N : News h₀ env.locals s.heap ((b, W.listOf #[] 0) :: (q, W.listOf #[.str (dealN (firstS d1) 12) t1, .str (dealN (firstS d2) 12) t2] k) :: (ac, o) :: (ah, oh) :: (at_, ot) :: rest)) (hk : m₀ (Str.ofString "word") = some (.bytes wd tw))
    (ho : o.data = .cell (some (.ref q))) (hoh : oh.data = .cell vh) (hot : ot.data = .cell vt) (hne : OffH q (ac :: ah :: at_ :: rest.map (·.1))) (hlt : @LT.lt Nat _ q b)
    (turn0 : ∀ (q : Addr) (o oh ot : Obj) (vh vt : Option Value) (x1 x2 : Str) (t1 t2 : Tok) (k : Nat) (wd : Array UInt8) (tw : Tok) t (u : Str → Option Value) h tk I oI, @LT.lt Nat _ b I → 0 < n → (∀ p ∈ (b, W.listOf #[] 0) :: (q, W.listOf #[.str x1 t1, .str x2 t2] k) :: (ac, o) :: (ah, oh) :: (at_, ot) :: rest, @Ne Nat I p.1) → o.data = .cell (some (.ref q)) → oh.data = .cell vh → ot.data = .cell vt → OffH q (ac :: ah :: at_ :: rest.map (·.1)) → @LT.lt Nat _ q b → TurnP d1 d2 r 0 x1 x2 wd →
      Fr h₀ env.locals h (fun y => if y = x then some (.int (a₀ + ((0 : Nat) : Int)) t) else if y = Str.ofString "word" then some (.bytes wd tw) else if stored.contains y then u y else m₀ y) → News h₀ env.locals h ((I, oI) :: (b, W.listOf #[] 0) :: (q, W.listOf #[.str x1 t1, .str x2 t2] k) :: (ac, o) :: (ah, oh) :: (at_, ot) :: rest) →
      wpAny (model prog w) A (execs body env) (turnsPost h₀ env.locals x stored m₀ w cls b ac ah at_ (XT d1 r) (XT d2 r) (FT d1 r) (FT d2 r) rest (TurnP d1 d2 r) 0 [(I, oI)] { s with heap := h, toks := tk } Q) E { s with heap := h, toks := tk })
    (turn1 : ∀ (q : Addr) (o oh ot : Obj) (vh vt : Option Value) (x1 x2 : Str) (t1 t2 : Tok) (k : Nat) (wd : Array UInt8) (tw : Tok) (g : BSt) (i : Nat) t (u : Str → Option Value) h tk I oI, @LT.lt Nat _ b I → i < n → (∀ p ∈ begunLed w cls b (XT d1 r) (XT d2 r) (FT d1 r) (FT d2 r) g ++ (q, W.listOf #[.str x1 t1, .str x2 t2] k) :: (ac, o) :: (ah, oh) :: (at_, ot) :: rest, @Ne Nat I p.1) → 1 ≤ i → o.data = .cell (some (.ref q)) → oh.data = .cell vh → ot.data = .cell vt → OffH q (ac :: ah :: at_ :: rest.map (·.1)) → begunOrd b (XT d1 r) (XT d2 r) g → TurnP d1 d2 r i x1 x2 wd →
      Fr h₀ env.locals h (fun y => if y = x then some (.int (a₀ + (i : Int)) t) else if y = Str.ofString "word" then some (.bytes wd tw) else if stored.contains y then u y else m₀ y) → News h₀ env.locals h ((I, oI) :: (begunLed w cls b (XT d1 r) (XT d2 r) (FT d1 r) (FT d2 r) g ++ (q, W.listOf #[.str x1 t1, .str x2 t2] k) :: (ac, o) :: (ah, oh) :: (at_, ot) :: rest)) →
      wpAny (model prog w) A (execs body env) (turnsPost h₀ env.locals x stored m₀ w cls b ac ah at_ (XT d1 r) (XT d2 r) (FT d1 r) (FT d2 r) rest (TurnP d1 d2 r) i [(I, oI)] { s with heap := h, toks := tk } Q) E { s with heap := h, toks := tk })
    (done : ∀ (led : List (Addr × Obj)) (u : Str → Option Value) (m : Str → Option Value) h tk, Fr h₀ env.locals h m → News h₀ env.locals h led → Q .next { s with heap := h, toks := tk }) :
    wpAny (model prog w) A (pyIter (.ref rg)) (fun it s₂ => LoopAtV prog w A h₀ env x body Q E it s₂) E s :=
  free_turns cls b ac ah at_ (XT d1 r) (XT d2 r) (FT d1 r) (FT d2 r) stored (TurnP d1 d2 r) ⟨q, o, _, _, t1, t2, k, oh, vh, ot, vt, wd, tw⟩ hh hr hsmall hn F N hk ⟨ho, hoh, hot⟩ hne hlt turnP_start turn0 turn1 done
end
theorem str_at0 {x1 x2 x : Str} {t1 t2 t : Tok} (h : (#[Value.str x1 t1, Value.str x2 t2] : Array Value)[0]? = some (.str x t)) : x = x1 := by
  simp at h
  exact h.1.symm
theorem str_at1 {x1 x2 x : Str} {t1 t2 t : Tok} (h : (#[Value.str x1 t1, Value.str x2 t2] : Array Value)[1]? = some (.str x t)) : x = x2 := by
  simp at h
  exact h.1.symm
/-- a mark: where it stands, a new object's order is kept for the newest objects alone -/
inductive LtMark : Prop | mk
def LtK (d : Nat) : List Unit → List (Addr × Obj) → Prop
  | [], _ => True
  | _ :: _, [] => True
  | _ :: u, p :: r => @LT.lt Nat _ p.1 d ∧ LtK d u r
theorem lt_keep {d : Addr} : ∀ (u : List Unit) {l : List (Addr × Obj)}, (∀ p ∈ l, p.1 < d) → LtK d u l
  | [], _, _ => trivial
  | _ :: _, [], _ => trivial
  | _ :: u, p :: _, h => ⟨h p (.head _), lt_keep u fun q hq => h q (.tail _ hq)⟩
theorem rest_typed2 {prog : Program} {w : World} {A : Around} {s : Shared} {h₀ : Heap} {L : Addr} {m : Str → Option Value} {env : Env} {elt : Expr} {x : Str} {scope : Scope} {cl : List (Str × Addr)} {S : List (Addr × Obj) → Prop} {news : List (Addr × Obj)} {Fin : List Value → List (Addr × Obj) → Prop} {x1 x2 : Str} {t1 t2 : Tok} (cls : Addr) {r : Int} (hr : 0 ≤ r ∧ r < 4) (hS : ∀ l, (∀ p ∈ news, p ∈ l) → S l)
    (turn : ∀ i v I oI C oC D ys m₂ h tk (E' : Value → Shared → Prop) ex, i < 2 → (#[Value.str x1 t1, Value.str x2 t2] : Array Value)[i]? = some v → LCg.NsObj oC m₂ → m₂ x = some v → Fr h₀ L h m → News h₀ L h ((I, oI) :: (C, oC) :: (D, LCg.lst ys) :: (news ++ ex)) → LCg.Off3 I C D (news ++ ex) → ((@Ne Nat I C) ∧ (@Ne Nat I D) ∧ (@Ne Nat C D)) →
      wpAny (model prog w) A (eval elt (compEnvC scope cl C env)) (fun y s'' => GrowEnd h₀ L m ((I, oI) :: (C, oC) :: (D, LCg.lst ys) :: (news ++ ex)) { s with heap := h, toks := tk } s'' (TypedR w cls r v y)) E' { s with heap := h, toks := tk })
    (fin : ∀ (a0 d0 n0 c0 : Addr) (vs0 : List Value) (kt0 : WTok) (a1 d1 n1 c1 : Addr) (vs1 : List Value) (kt1 : WTok), IntsAre vs0 (wsOf (typedS x1 r)).ns → IntsAre vs1 (wsOf (typedS x2 r)).ns → WSB (typedS x1 r) → WSB (typedS x2 r) →
      (∀ p ∈ news, p.1 < d0) → (@LT.lt Nat _ d0 a0 ∧ @LT.lt Nat _ a0 c0 ∧ @LT.lt Nat _ c0 n0 ∧ @LT.lt Nat _ n0 d1 ∧ @LT.lt Nat _ d1 a1 ∧ @LT.lt Nat _ a1 c1 ∧ @LT.lt Nat _ c1 n1) →
      Fin [.ref a0, .ref a1] (wsLed w cls (typedS x2 r) a1 d1 n1 c1 vs1 kt1 ++ (wsLed w cls (typedS x1 r) a0 d0 n0 c0 vs0 kt0 ++ news))) :
    LCg.CompRest prog w A h₀ L m env elt x scope cl s S (fun i v => (#[Value.str x1 t1, Value.str x2 t2] : Array Value)[i]? = some v) Fin 2 0 [] news := by
  refine rest_typed cls hr hS turn ?_
  intro y0 y1 n0 n1 hy0 hy1 lt0 lt1 lt2
  obtain ⟨v, hv, x, t, a0, e0, tn0, tc0, vs0, kt0, rfl, rfl, rfl, hi0, hb0, u1, u2, u3⟩ := hy0
  obtain ⟨v, hv2, x', t, a1, e1, tn1, tc1, vs1, kt1, rfl, rfl, rfl, hi1, hb1, u4, u5, u6⟩ := hy1
  have hx1 := str_at0 hv
  have hx2 := str_at1 hv2
  subst hx1 hx2
  exact fin a0 e0 tn0 tc0 vs0 kt0 a1 e1 tn1 tc1 vs1 kt1 hi0 hi1 hb0 hb1 (fun q hq => lt0 (e0, _) (.tail _ (.head _)) q hq)
    ⟨u1, u2, u3, lt2 (e1, _) (.tail _ (.head _)) (tn0, _) (.tail _ (.tail _ (.head _))), u4, u5, u6⟩
/-- what _law_more tells of a table behind twelve deals -/
structure MoreF (X : Str) (c r : Int) : Prop where
  m0 : 0 ≤ moreFirst X c r ∧ moreFirst X c r ≤ 1
  m1 : 0 ≤ moreSecond X c r ∧ moreSecond X c r ≤ 1
  m2 : 0 ≤ moreThird X c r ∧ moreThird X c r ≤ 1
  m3 : 0 ≤ moreLast X c r ∧ moreLast X c r ≤ 1
def heapsL (a b c d : Int) : List Int := [3 + a, 2 + b, 1 + c] ++ (List.replicate d.toNat [(1 : Int)]).flatten
def dueL (a b c d : Int) : List Int := (List.range (4 + a).toNat).map fun (k : Nat) => (((heapsL a b c d).count (k : Int) : Nat) : Int)
theorem due_max {M a b c d : Int} (h : M ∈ [3 + a, 2 + b, 1 + c] ++ (List.replicate d.toNat [(1 : Int)]).flatten) (hx : ∀ z : Int, z ∈ [3 + a, 2 + b, 1 + c] ++ (List.replicate d.toNat [(1 : Int)]).flatten → z ≤ M)
    (ha : 0 ≤ a ∧ a ≤ 1) (hb : 0 ≤ b ∧ b ≤ 1) (hc : 0 ≤ c ∧ c ≤ 1) (hd : 0 ≤ d ∧ d ≤ 1) : M = 3 + a := by
  have h1 := hx (3 + a) (by simp)
  have e : (List.replicate d.toNat [(1 : Int)]).flatten = List.replicate d.toNat 1 := by
    generalize d.toNat = k
    induction k with
    | zero => rfl
    | succ k ih => rw [List.replicate_succ, List.replicate_succ, List.flatten_cons, ih]; rfl
  rw [e] at h
  simp only [List.cons_append, List.nil_append, List.mem_cons, List.mem_replicate] at h
  rcases h with rfl | rfl | rfl | ⟨_, rfl⟩ <;> (first | lia | omega)
theorem due_small {a : Int} (ha : 0 ≤ a ∧ a ≤ 1) : Builtin.Range.small 0 (3 + a + 1) 1 = true := small_one (by decide) (by decide) (by (first | lia | omega)) (by (first | lia | omega))
theorem due_size {a : Int} (ha : 0 ≤ a ∧ a ≤ 1) : Builtin.Range.rangeSize 0 (3 + a + 1) 1 = ((4 + a).toNat : Int) := by
  rw [rangeSize_nat]
  (first | lia | omega)
theorem due_line {a : Int} (ha : 0 ≤ a ∧ a ≤ 1) : (4 + a).toNat ≤ sizeLine := by
  rw [sizeLine_eq]; (first | lia | omega)
theorem ints_of_get : ∀ {ys : List Value} {ns : List Int}, ys.length = ns.length → (∀ (i : Nat) (y : Value), ys[i]? = some y → ∃ t, y = .int (ns.getD i 0) t) → IntsAre ys ns
  | [], [], _, _ => .nil
  | [], _ :: _, h, _ => by simp at h
  | _ :: _, [], h, _ => by simp at h
  | y :: ys, n :: ns, h, hy => by
    obtain ⟨t, rfl⟩ := hy 0 y rfl
    refine .cons _ _ (ints_of_get (by simpa using h) fun i y hi => ?_)
    exact hy (i + 1) y (by simpa using hi)
theorem due_ints {ys : List Value} {a b c d : Int} (hl : ys.length = (4 + a).toNat) (hy : ∀ (i : Nat) (y : Value), ys[i]? = some y → ∃ t, y = .int (((heapsL a b c d).count (i : Int) : Nat) : Int) t) : IntsAre ys (dueL a b c d) := by
  refine ints_of_get (by simp [dueL, hl]) fun i y hi => ?_
  obtain ⟨t, rfl⟩ := hy i y hi
  have h1 := (List.getElem?_eq_some_iff.mp hi).1
  refine ⟨t, ?_⟩
  congr 1
  rw [List.getD_eq_getElem?_getD, List.getElem?_eq_getElem (by simp [dueL]; (first | lia | omega))]
  simp [dueL]
/-- what is told of a lead behind twelve deals and more -/
structure LeadF (x : Str) (c r : Int) : Prop where
  len : x.length ≤ 20
  cnt : 0 ≤ Txt.count x (Str.ofString "\t") ∧ Txt.count x (Str.ofString "\t") ≤ 10
  more : MoreF (typedS x r) c r
  due : (wsOf (typedS x r)).ns = dueL (moreFirst (typedS x r) c r) (moreSecond (typedS x r) c r) (moreThird (typedS x r) c r) (moreLast (typedS x r) c r)
  b : (wsOf (typedS x r)).b = r
  nt : (wsOf (typedS x r)).nt = Txt.count x (Str.ofString "\t")
  b2 : (wsOf (x ++ Txt.mul (Str.ofString " ") (r + 1) ++ Str.ofString "x")).b = r + 1
theorem dueL_N : ∀ a b c d : Fin 2, dueL (a.val : Int) (b.val : Int) (c.val : Int) (d.val : Int) = dueN a.val b.val c.val d.val := by decide +kernel
theorem lead_of {hs : List Nat} {a b c d : Nat} (h : Ok hs a b c d) {r n : Int} (hr : 0 ≤ r) (hn : n = (hs.sum : Int)) : LeadF (S (enc hs)) n r := by
  obtain ⟨f, s, t, l⟩ := more_table h hr hn
  obtain ⟨n', e⟩ := typed_ok h hr
  obtain ⟨n2, e2⟩ := ws_heaps hs [] (r + 1) (by (first | lia | omega))
  have h1 := h.ha; have h2 := h.hb; have h3 := h.hc; have h4 := h.hd; have hl := h.len; have hsm := h.sum
  refine ⟨by rw [S_len, enc_len]; (first | lia | omega), by rw [count_enc]; (first | lia | omega), ⟨by rw [f]; (first | lia | omega), by rw [s]; (first | lia | omega), by rw [t]; (first | lia | omega), by rw [l]; (first | lia | omega)⟩, ?_, by rw [e], by rw [e, count_enc, hl]; simp, by rw [litX1, e2]⟩
  rw [f, s, t, l, e]
  exact (dueL_N ⟨a, by (first | lia | omega)⟩ ⟨b, by (first | lia | omega)⟩ ⟨c, by (first | lia | omega)⟩ ⟨d, by (first | lia | omega)⟩).symm
theorem lead_state (d : Int) (i : Nat) : ∃ (hs ks : List Nat) (a b c e : Nat), dealN (firstS d) (12 + i) = S (enc hs) ∧ dealN (firstS d) (12 + i + 1) = S (enc ks) ∧ Ok hs a b c e ∧ Ok ks e a b c ∧ 6 + d.fmod 5 = (hs.sum : Int) ∧ 6 + d.fmod 5 = (ks.sum : Int) := by
  obtain ⟨hs, e, he, h5, h1, h2, h3⟩ := lead_heaps d
  obtain ⟨a, b, c, f, ok⟩ := twelve he h1 h2
  obtain ⟨a, b, c, f, ok1, ok2⟩ := iterH_ok ok i
  have s1 := (iterH_facts h1 h2 (by (first | lia | omega)) (12 + i)).2
  have s2 := (iterH_facts h1 h2 (by (first | lia | omega)) (12 + i + 1)).2
  exact ⟨_, _, a, b, c, f, h3 _, h3 _, ok1, ok2, by rw [s1, h5]; simp, by rw [s2, h5]; simp⟩
theorem turn_facts {d1 d2 r : Int} {i : Nat} {x1 x2 : Str} {wd : Array UInt8} (h : TurnP d1 d2 r i x1 x2 wd) (hr : 0 ≤ r ∧ r < 4) : LeadF x1 (6 + d1.fmod 5) r ∧ LeadF x2 (6 + d2.fmod 5) r := by
  obtain ⟨rfl, rfl, _⟩ := h
  obtain ⟨hs, _, a, b, c, e, e1, _, ok, _, s1, _⟩ := lead_state d1 i
  obtain ⟨hs', _, a', b', c', e', e1', _, ok', _, s1', _⟩ := lead_state d2 i
  rw [e1, e1']
  exact ⟨lead_of ok hr.1 s1, lead_of ok' hr.1 s1'⟩
theorem alt_keep {d : Addr} : ∀ (u : List Unit) {l : List (Addr × Obj)}, AllLt d l → LtK d u l
  | [], _, _ => trivial
  | _ :: _, [], _ => trivial
  | _ :: u, _ :: _, h => ⟨h.1, alt_keep u h.2⟩
theorem rest_due {prog : Program} {w : World} {A : Around} {s : Shared} {h₀ : Heap} {L : Addr} {m : Str → Option Value} {env : Env} {elt : Expr} {x : Str} {scope : Scope} {cl : List (Str × Addr)} {news : List (Addr × Obj)} {Fin : List Value → List (Addr × Obj) → Prop} {a b c d : Int}
    (ha : 0 ≤ a ∧ a ≤ 1) (_ : 0 ≤ b ∧ b ≤ 1) (_ : 0 ≤ c ∧ c ≤ 1) (_ : 0 ≤ d ∧ d ≤ 1)
    (turn : ∀ (i : Nat) t I oI C oC D ys m₂ h tk (E' : Value → Shared → Prop), i < (4 + a).toNat → LCg.NsObj oC m₂ → m₂ x = some (.int (0 + (i : Int)) t) → Fr h₀ L h m → News h₀ L h ((I, oI) :: (C, oC) :: (D, LCg.lst ys) :: news) → LCg.Off3 I C D news → ((@Ne Nat I C) ∧ (@Ne Nat I D) ∧ (@Ne Nat C D)) →
      wpAny (model prog w) A (eval elt (compEnvC scope cl C env)) (fun y s'' => PureEnd h₀ L m ((I, oI) :: (C, oC) :: (D, LCg.lst ys) :: news) { s with heap := h, toks := tk } s'' (∃ t, y = .int (((heapsL a b c d).count (0 + (i : Int)) : Nat) : Int) t)) E' { s with heap := h, toks := tk })
    (fin : ∀ ys : List Value, IntsAre ys (dueL a b c d) → ys.length ≤ 5 → Fin ys news) : LCg.CompRest prog w A h₀ L m env elt x scope cl s (fun _ => True) (fun i v => ∃ t, v = .int (0 + (i : Int)) t) Fin (4 + a).toNat 0 [] news := by
  refine rest_pure (fun i v y => ∃ t, y = .int (((heapsL a b c d).count (0 + (i : Int)) : Nat) : Int) t) trivial ?_ ?_
  · rintro i v I oI C oC D ys m₂ h tk E' hi ⟨t, rfl⟩ hC hx F N off ne
    exact turn i t I oI C oC D ys m₂ h tk E' hi hC hx F N off ne
  · intro ys hl hy
    exact fin ys (due_ints hl fun i y h => by
      obtain ⟨_, _, t, q⟩ := hy i y h
      rw [Int.zero_add] at q
      exact ⟨t, q⟩) (by (first | lia | omega))
theorem norm_ne_no {prog : Program} {w : World} {A : Around} {E : Value → Shared → Prop} {s : Shared} {Q : Value → Shared → Prop} {tn tc tn' tc' : Addr} {vs vs' : List Value} {ns ns' : List Int} {b b' : Int} {t t' : Tok} (h1 : IsTup s.heap tn [.ref tc, .int b t].toArray) (h2 : IsTup s.heap tc vs.toArray) (hi : IntsAre vs ns) (h1' : IsTup s.heap tn' [.ref tc', .int b' t'].toArray) (h2' : IsTup s.heap tc' vs'.toArray) (hi' : IntsAre vs' ns') (e1 : ns = ns') (e2 : b = b') (hu : A.units + 64 < cLine)
    (h : Q (.bool false) s) : wpAny (model prog w) A (compareOp .NotEq (.ref tn) (.ref tn')) Q E s :=
  norm_ne h1 h2 hi h1' h2' hi' hu (by subst e1 e2; simpa using h)
theorem isnot_same {prog : Program} {w : World} {A : Around} {E : Value → Shared → Prop} {s : Shared} {Q : Value → Shared → Prop} {c d : Bool} (e : c = d) (h : Q (.bool false) s) : wpAny (model prog w) A (compareOp .IsNot (.bool c) (.bool d)) Q E s :=
  isnot_bool (by subst e; simpa using h)
theorem eq_no {X Y : Str} {r : Int} (h1 : (wsOf X).b = r) (h2 : (wsOf Y).b = r + 1) : decide ((wsOf X).ns = (wsOf Y).ns ∧ (wsOf X).b = (wsOf Y).b) = false := by
  rw [h1, h2]
  apply decide_eq_false
  (first | lia | omega)
theorem eq_yes {X : Str} {f : Int} : decide ((wsOf X).ns = (wsOf X).ns ∧ (wsOf X).b = (wsOf X).b) = (f == f) := by simp
def keepL {α : Type} : List Bool → List α → List α
  | [], l => l
  | _, [] => []
  | true :: b, x :: l => x :: keepL b l
  | false :: b, _ :: l => keepL b l
theorem keepL_mem {α : Type} : ∀ (b : List Bool) (l : List α) (x : α), x ∈ keepL b l → x ∈ l
  | [], _, _, h => h
  | true :: _, [], _, h => nomatch h
  | false :: _, [], _, h => nomatch h
  | true :: b, y :: l, x, h => by
    rcases List.mem_cons.mp h with rfl | h
    · exact .head _
    · exact .tail _ (keepL_mem b l x h)
  | false :: b, y :: l, x, h => .tail _ (keepL_mem b l x h)
theorem news_keep {h₀ h : Heap} {L : Addr} {l : List (Addr × Obj)} (b : List Bool) (N : News h₀ L h l) : News h₀ L h (keepL b l) := fun p hp => N p (keepL_mem b l p hp)
theorem tup_lit {prog : Program} {w : World} {A : Around} {E : Value → Shared → Prop} {s : Shared} {t : Addr} {value slice : PySem.Expr} {l : List Value} {v : Value} {u : Tok} {k : Int} {Q : Value → Shared → Prop} (ht : IsTup s.heap t l.toArray) (h0 : decide (0 ≤ k ∧ k < 1000) = true) (hx : nthV l k.toNat = some v) (h : Q v s)
    (hs : subscripted slice false (.ref t) (.int k u) = operate [.ref t, .int k u] (getItem (.ref t) (.int k u)) := by with_unfolding_all rfl) :
    wpAny (model prog w) A (subscriptTail value slice (.ref t) (.int k u)) Q E s := by
  have h0 : 0 ≤ k ∧ k < 1000 := of_decide_eq_true h0
  have hx : l[k.toNat]? = some v := by rw [nthV_eq] at hx; exact hx
  have hl := (List.getElem?_eq_some_iff.mp hx).1
  exact item_tupleT ht (by (first | lia | omega)) (by (first | lia | omega)) (StrLaws.seqIndex_nonneg h0.1 (by (first | lia | omega))) hx h hs
theorem unr_end1 {h₀ : Heap} {L : Addr} {i : Addr} {o : Obj} {rest : (Str → Option Value) → List (Addr × Obj) → Prop} {s₁ : Shared} {h' : Heap} {tk : Nat} {m' : Str → Option Value} {all : List (Addr × Obj)} (bs : List Bool) (F : Fr h₀ L h' m') (N : News h₀ L h' all)
    (hI : (i, o) ∈ all) (off : ∀ p ∈ keepL bs all, p.1 ≠ i) (r : rest m' (keepL bs all)) : UnrEndW h₀ L s₁ [(i, o)] rest { s₁ with heap := h', toks := tk } :=
  ⟨h', tk, m', keepL bs all, rfl, F, fun p hp => by
    rcases List.mem_append.mp hp with hp | hp
    · rw [List.mem_singleton.mp hp]; exact N _ hI
    · exact news_keep bs N p hp, fun p hp q hq => by rw [List.mem_singleton.mp hq]; exact off p hp, r⟩
/-- marks: which objects the end of a table leaves -/
inductive EndA : Prop | mk
inductive EndB : Prop | mk
theorem ap_abs {a x : Int} (h : 0 ≤ a) : (a * (1 - 2 * x.fmod 2)).natAbs = a.toNat := by
  have h2 := fmod_bd x 2 (by decide)
  have h3 : x.fmod 2 = 0 ∨ x.fmod 2 = 1 := by (first | lia | omega)
  rcases h3 with e | e <;> rw [e] <;> (first | lia | omega)
/-- the letters told, and the word made of them -/
structure ToldF (f g : Int) (tb : Array UInt8) : Prop where
  size : tb.size ≤ 2
  word : (List.replicate (2 - (tb.size : Int)).toNat [(65 : UInt8)]).flatten.toArray ++ tb = wordF f g
  head : KBy.picked tb none (some 1) ≠ #[(65 : UInt8)]
theorem hexs_small : ∀ n : Fin 256, hexs n.val = if n.val = 0 then [] else if n.val < 16 then [n.val] else [n.val / 16, n.val % 16] := by
  intro n
  have hn := n.isLt
  have h0 : hexs 0 = [] := by rw [hexs]; simp
  by_cases h1 : n.val = 0
  · rw [if_pos h1, h1, h0]
  · rw [if_neg h1, hexs_pos h1]
    by_cases h2 : n.val < 16
    · rw [if_pos h2, show n.val / 16 = 0 by (first | lia | omega), h0, show n.val % 16 = n.val by (first | lia | omega)]; rfl
    · rw [if_neg h2, hexs_pos (show n.val / 16 ≠ 0 by (first | lia | omega)), show n.val / 16 / 16 = 0 by (first | lia | omega), h0, show n.val / 16 % 16 = n.val / 16 by (first | lia | omega)]; rfl
def apS (n : Nat) : Array UInt8 := ((if n = 0 then [] else if n < 16 then [n] else [n / 16, n % 16]).map fun d => UInt8.ofNat (65 + d)).toArray
theorem told_small : ∀ f g : Fin 16, (apS (16 * f.val + g.val)).size ≤ 2 ∧ (List.replicate (2 - ((apS (16 * f.val + g.val)).size : Int)).toNat [(65 : UInt8)]).flatten.toArray ++ (apS (16 * f.val + g.val)) = wordF (f.val : Int) (g.val : Int) ∧ KBy.picked (apS (16 * f.val + g.val)) none (some 1) ≠ #[(65 : UInt8)] := by decide +kernel
theorem told_of : ∀ f g : Fin 16, ToldF (f.val : Int) (g.val : Int) (apF (16 * f.val + g.val)) := by
  intro f g
  have e : apF (16 * f.val + g.val) = apS (16 * f.val + g.val) := by
    unfold apF apS
    rw [hexs_small ⟨16 * f.val + g.val, by (first | lia | omega)⟩]
  rw [e]
  obtain ⟨h1, h2, h3⟩ := told_small f g
  exact ⟨h1, h2, h3⟩
theorem word_add {prog : Program} {w : World} {A : Around} {E : Value → Shared → Prop} {s : Shared} {Q : Value → Shared → Prop} {tb : Array UInt8} {f g : Int} {t u : Tok} (hT : ToldF f g tb)
    (h : ∀ t' k, Q (.bytes (wordF f g) t') { s with toks := k }) : wpAny (model prog w) A (binaryOp .Add (.bytes (List.replicate (2 - (tb.size : Int)).toNat [(65 : UInt8)]).flatten.toArray t) (.bytes tb u)) Q E s := by
  have e := hT.word
  have e2 : (List.replicate (2 - (tb.size : Int)).toNat [(65 : UInt8)]).flatten.toArray.size + tb.size = 2 := by
    rw [← Array.size_append, e]; rfl
  refine KBy.add_bytes (by (first | lia | omega)) fun t' k => ?_
  rw [e]
  exact h t' k
def LetR (v y : Value) : Prop := ∃ n t t', v = .int n t ∧ y = .int (65 + n) t'
theorem two_ints_at {f g : Int} {ta tb : Tok} {v : Value} {i : Nat} (h : (#[Value.int f ta, Value.int g tb] : Array Value)[i]? = some v) : ∃ n t, v = .int n t ∧ (n = f ∨ n = g) := by
  rcases i with _ | _ | i <;> simp at h <;> subst h <;> exact ⟨_, _, rfl, by simp⟩
theorem two_lets {ys : List Value} {f g : Int} {ta tb : Tok} (hl : ys.length = 2) (hy : ∀ (i : Nat) (y : Value), ys[i]? = some y → ∃ v, (#[Value.int f ta, Value.int g tb] : Array Value)[i]? = some v ∧ LetR v y) : ∃ t t', ys = [.int (65 + f) t, .int (65 + g) t'] := by
  obtain ⟨y1, y2, rfl⟩ := len_two hl
  obtain ⟨v, h, n, t, t', rfl, rfl⟩ := hy 0 y1 rfl
  obtain ⟨v2, h2, n2, t2, t2', rfl, rfl⟩ := hy 1 y2 rfl
  simp at h h2
  obtain ⟨rfl, _⟩ := h
  obtain ⟨rfl, _⟩ := h2
  exact ⟨_, _, rfl⟩
theorem word_eq {f g : Int} (hf : 0 ≤ f) (hg : 0 ≤ g) : wordF f g = #[(65 + f).toNat.toUInt8, (65 + g).toNat.toUInt8] := by
  unfold wordF
  rw [show (65 + f).toNat = 65 + f.toNat by (first | lia | omega), show (65 + g).toNat = 65 + g.toNat by (first | lia | omega)]
theorem ne_bytes_no {prog : Program} {w : World} {A : Around} {E : Value → Shared → Prop} {s : Shared} {Q : Value → Shared → Prop} {b c : Array UInt8} {t u : Tok} (e : b = c) (h : Q (.bool false) s) : wpAny (model prog w) A (compareOp .NotEq (.bytes b t) (.bytes c u)) Q E s :=
  ne_bytes (by subst e; simpa using h)
theorem told_slice {prog : Program} {w : World} {A : Around} {E : Value → Shared → Prop} {s : Shared} {value slice : PySem.Expr} {tb : Array UInt8} {f g : Int} {t t1 : Tok} {h₀ : Heap} {L : Addr} {m : Str → Option Value} {news : List (Addr × Obj)} {Q : Value → Shared → Prop} (hT : ToldF f g tb) (hF : Fr h₀ L s.heap m) (hN : News h₀ L s.heap news)
    (h : ∀ h' t' k, Fr h₀ L h' m → News h₀ L h' news → KBy.picked tb none (some 1) ≠ #[(65 : UInt8)] → Q (.bytes (KBy.picked tb none (some 1)) t') { s with heap := h', toks := k })
    (hs : subscripted slice false (.bytes tb t) (.ref s.heap.objs.size) = operate [.ref s.heap.objs.size, .bytes tb t] (getItem (.bytes tb t) (.ref s.heap.objs.size)) := by with_unfolding_all rfl)
    (ht : ∀ r, letTemporaryGo value (.bytes tb t) r = pure () := by intro _; with_unfolding_all rfl) :
    wpAny (model prog w) A (subscriptTail value slice (.bytes tb t) (.ref s.heap.objs.size)) Q E { s with heap := s.heap.push { cls := .type "slice", data := .fields #[.none, .int 1 t1, .none] } } :=
  KBc.slice_K (b := tb) (lo := none) (hi := some 1) hF hN rfl .none (.int _ _) (by rw [KBw.ints_length]; have := hT.size; (first | lia | omega)) (fun h' t' k F N _ => h h' t' k F N hT.head) hs ht
theorem eq_bytes_no {prog : Program} {w : World} {A : Around} {E : Value → Shared → Prop} {s : Shared} {Q : Value → Shared → Prop} {b c : Array UInt8} {t u : Tok} (e : b ≠ c) (h : Q (.bool false) s) : wpAny (model prog w) A (compareOp .Eq (.bytes b t) (.bytes c u)) Q E s :=
  eq_bytes (by
    have : (b.toList == c.toList) = false := by
      apply beq_false_of_ne
      intro q
      exact e (Array.toList_inj.mp q)
    rw [this]; exact h)
theorem zero_one {ta tb : Tok} {v : Value} {i : Nat} (h : (#[Value.int 0 ta, Value.int 1 tb] : Array Value)[i]? = some v) : (i = 0 ∧ v = .int 0 ta) ∨ (i = 1 ∧ v = .int 1 tb) := by
  rcases i with _ | _ | i <;> simp at h <;> subst h <;> simp
def TwoS (A B : Str) (i : Nat) (y : Value) : Prop := ∃ t, y = .str (if i = 0 then A else B) t
theorem two_strs {ys : List Value} {A B : Str} {P : Nat → Value → Prop} (hl : ys.length = 2) (hy : ∀ (i : Nat) (y : Value), ys[i]? = some y → ∃ v, P i v ∧ TwoS A B i y) : ∃ t t', ys = [.str A t, .str B t'] := by
  obtain ⟨y1, y2, rfl⟩ := len_two hl
  obtain ⟨v, h, t, rfl⟩ := hy 0 y1 rfl
  obtain ⟨v2, h2, t2, rfl⟩ := hy 1 y2 rfl
  exact ⟨_, _, rfl⟩
theorem rest_deals {prog : Program} {w : World} {A : Around} {s : Shared} {h₀ : Heap} {L : Addr} {m : Str → Option Value} {env : Env} {elt : Expr} {x : Str} {scope : Scope} {cl : List (Str × Addr)} {S : List (Addr × Obj) → Prop} {news : List (Addr × Obj)} {Fin : List Value → List (Addr × Obj) → Prop} {ta tb : Tok} (x1 x2 : Str) (hS : S news)
    (turn0 : ∀ I oI C oC D ys m₂ h tk (E' : Value → Shared → Prop), LCg.NsObj oC m₂ → m₂ x = some (.int 0 ta) → Fr h₀ L h m → News h₀ L h ((I, oI) :: (C, oC) :: (D, LCg.lst ys) :: news) → LCg.Off3 I C D news → ((@Ne Nat I C) ∧ (@Ne Nat I D) ∧ (@Ne Nat C D)) →
      wpAny (model prog w) A (eval elt (compEnvC scope cl C env)) (fun y s'' => PureEnd h₀ L m ((I, oI) :: (C, oC) :: (D, LCg.lst ys) :: news) { s with heap := h, toks := tk } s'' (∃ t, y = .str (dealS x1 (Txt.count x1 (Str.ofString "\t"))) t)) E' { s with heap := h, toks := tk })
    (turn1 : ∀ I oI C oC D ys m₂ h tk (E' : Value → Shared → Prop), LCg.NsObj oC m₂ → m₂ x = some (.int 1 tb) → Fr h₀ L h m → News h₀ L h ((I, oI) :: (C, oC) :: (D, LCg.lst ys) :: news) → LCg.Off3 I C D news → ((@Ne Nat I C) ∧ (@Ne Nat I D) ∧ (@Ne Nat C D)) →
      wpAny (model prog w) A (eval elt (compEnvC scope cl C env)) (fun y s'' => PureEnd h₀ L m ((I, oI) :: (C, oC) :: (D, LCg.lst ys) :: news) { s with heap := h, toks := tk } s'' (∃ t, y = .str (dealS x2 (Txt.count x2 (Str.ofString "\t"))) t)) E' { s with heap := h, toks := tk })
    (fin : ∀ t t', Fin [.str (dealS x1 (Txt.count x1 (Str.ofString "\t"))) t, .str (dealS x2 (Txt.count x2 (Str.ofString "\t"))) t'] news) :
    LCg.CompRest prog w A h₀ L m env elt x scope cl s S (fun i v => (#[Value.int 0 ta, Value.int 1 tb] : Array Value)[i]? = some v) Fin 2 0 [] news := by
  refine rest_pure (fun i _ y => TwoS (dealS x1 (Txt.count x1 (Str.ofString "\t"))) (dealS x2 (Txt.count x2 (Str.ofString "\t"))) i y) hS ?_ ?_
  · intro i v I oI C oC D ys m₂ h tk E' hi hv hC hx F N off ne
    rcases zero_one hv with ⟨rfl, rfl⟩ | ⟨rfl, rfl⟩
    · exact turn0 I oI C oC D ys m₂ h tk E' hC hx F N off ne
    · exact turn1 I oI C oC D ys m₂ h tk E' hC hx F N off ne
  · intro ys hl hy
    obtain ⟨t, t', rfl⟩ := two_strs hl hy
    exact fin t t'
theorem TurnP.next {d1 d2 r : Int} {i : Nat} {x1 x2 : Str} {wd : Array UInt8} (h : TurnP d1 d2 r i x1 x2 wd) :
    TurnP d1 d2 r (i + 1) (dealS x1 (Txt.count x1 (Str.ofString "\t"))) (dealS x2 (Txt.count x2 (Str.ofString "\t"))) (wordF (figF x1 (6 + d1.fmod 5) r) (figF x2 (6 + d2.fmod 5) r)) := by
  obtain ⟨rfl, rfl, _⟩ := h
  refine ⟨rfl, rfl, ?_⟩
  intro j hj
  obtain rfl : j = i := by (first | lia | omega)
  rfl
abbrev figE (x : Str) (d r : Int) : Int := 8 * moreFirst (typedS x r) (6 + d.fmod 5) r + 4 * moreSecond (typedS x r) (6 + d.fmod 5) r + 2 * moreThird (typedS x r) (6 + d.fmod 5) r + moreLast (typedS x r) (6 + d.fmod 5) r
theorem figE_is {x : Str} {d r : Int} : figE x d r = figF x (6 + d.fmod 5) r := rfl
theorem figE_FT {x : Str} {d r : Int} (h : x = dealN (firstS d) (12 + 0)) : figE x d r = FT d r := by subst h; rfl
end Mine
end
section
open PySem PySem.W PyProof.Rows
set_option maxHeartbeats 8000000
namespace Mine
section
variable {prog : Program} {w : World} {A : Around} {E : Value → Shared → Prop} {s : Shared} {h₀ : Heap} {L : Addr} {m : Str → Option Value} {env : Env}
/-- a comprehension over bytes -/
def SrcB (prog : Program) (w : World) (A : Around) (h₀ : Heap) (L : Addr) (m : Str → Option Value) (env : Env) (elt : Expr) (x : Str) (scope : Scope) (cl : List (Str × Addr)) (Fin : Shared → List Value → List (Addr × Obj) → Prop) (xv : Value) (s₁ : Shared) : Prop :=
  ∃ b t news, xv = .bytes b t ∧ A.handled = none ∧ Fr h₀ L s₁.heap m ∧ News h₀ L s₁.heap news ∧ b.size ≤ sizeLine ∧
    ∀ s₂ : Shared, (∃ h, s₂ = { s₁ with heap := h }) → LCg.CompRest prog w A h₀ L m env elt x scope cl s₂ (fun _ => True) (fun i v => ∃ c u, b[i]? = some c ∧ v = .int (c.toNat : Int) u) (Fin s₂) b.size 0 [] news
theorem SrcB.intro {elt : Expr} {x : Str} {scope : Scope} {cl : List (Str × Addr)} {Fin : Shared → List Value → List (Addr × Obj) → Prop} {b : Array UInt8} {t : Tok} {news : List (Addr × Obj)} {s₁ : Shared}
    (hh : A.handled = none) (F : Fr h₀ L s₁.heap m) (N : News h₀ L s₁.heap news) (hsz : b.size ≤ sizeLine)
    (h : ∀ g, LCg.CompRest prog w A h₀ L m env elt x scope cl { s₁ with heap := g } (fun _ => True) (fun i v => ∃ c u, b[i]? = some c ∧ v = .int (c.toNat : Int) u) (Fin { s₁ with heap := g }) b.size 0 [] news) :
    SrcB prog w A h₀ L m env elt x scope cl Fin (.bytes b t) s₁ := ⟨b, t, news, rfl, hh, F, N, hsz, fun _ ⟨g, e⟩ => e ▸ h g⟩
theorem ListComp_B {elt iter : Expr} {x : Str} {px : Pos} {scope : Scope} {cl : List (Str × Addr)} {pos : Pos} {Q : Value → Shared → Prop} (F₀ : Fr h₀ L s.heap m)
    (hclos : closureFor scope env = pure cl) (hcell : ∀ y ∈ scope.names, y.2 ≠ .cell) (hkind : scope.kind = .function)
    (hnames : ∀ y ∈ scope.names, y.2 = .local → scope.names.lookup y.1 = some .local) (hx : scope.names.lookup x = some .local)
    (h : wpAny (model prog w) A (eval iter env) (SrcB prog w A h₀ L m env elt x scope cl (fun s₂ => LCg.FinE h₀ L m s₂ Q)) E s)
    (hs : ∀ x, foldedSetIterable iter env x = pure x := by intro _; rfl) :
    wpAny (model prog w) A (eval (.ListComp elt [⟨.Name x px, iter, [], 0⟩] scope pos) env) Q E s := by
  rw [eval_ListComp]
  refine wpAny_comprehension_free (use := none) rfl hs hclos hkind hnames (wpAny_mono h (fun xv s₁ h₁ => ?_) fun _ _ e => e)
  obtain ⟨b, t, news, rfl, hh, F, N, hsz, R⟩ := h₁
  have up : ∀ (o : Obj) a ob, s₁.heap.get? a = some ob → (s₁.heap.push o).get? a = some ob := fun o a ob e => Heap.get?_push_of_some _ e
  refine KBw.pyIter_bytes ?_
  refine LCg.block_U (KBw.walks hh s₁.heap.objs.size b t) hsz (fun i h st => let ⟨o, e, _⟩ := st; ⟨o, e⟩) (fun i h h' o nw st e e' _ _ _ => ?_) hcell hkind hx ⟨_, Heap.get?_push_size _ rfl, rfl, rfl⟩ (fun a ha => ?_)
    (F.keeps (up _)) (N.grown (up _)) (Nat.ne_of_lt F.ns.lt) (next_is_new F) (fun p hp => Nat.ne_of_lt (Heap.lt_size (N p hp).1)) trivial (R _ ⟨_, rfl⟩) ?_
  · obtain ⟨o', q, r⟩ := st
    rw [e] at q
    cases q
    exact ⟨o, e', r⟩
  · rw [List.mem_singleton.mp ha]
    show s₁.heap.objs.size < (s₁.heap.push _).objs.size
    rw [Heap.size_push]
    exact Nat.lt_succ_self _
  · intro D C h tk m' ys news' F' N' o1 hn hC₀ hD₀ hCL hDL hCD offC fin
    refine ⟨m', hn, fun h'' hs'' => fin D h'' tk (F'.change hs'' hCL hC₀) (fun p hp => ?_) o1⟩
    refine ⟨hs''.extBut _ _ ?_ (N' p hp).1, (N' p hp).2⟩
    rcases List.mem_cons.mp hp with rfl | hp
    · exact Ne.symm hCD
    · exact offC p hp
end
section
open PySem.Spec PySem.SeqAt
theorem ne_pair_no {prog : Program} {w : World} {A : Around} {E : Value → Shared → Prop} {s : Shared} {Q : Value → Shared → Prop} {a b : Addr} {x y x' y' : Int} {t u t' u' : Tok} (h1 : s.heap.IsList a #[.int x t, .int y u]) (h2 : s.heap.IsList b #[.int x' t', .int y' u']) (e1 : x = x') (e2 : y = y') (hu : A.units + 64 < cLine)
    (h : Q (.bool false) s) : wpAny (model prog w) A (compareOp .NotEq (.ref a) (.ref b)) Q E s := by
  subst e1 e2
  obtain ⟨o, ho, hc, n, hd⟩ := h1
  obtain ⟨o', ho', hc', n', hd'⟩ := h2
  have r1 : Reads s.heap (.ref a) (.list [.int x, .int y]) [a] := by
    have := Reads.list ho hc hd (readsAll_of_ints (IntsAre.cons x t (IntsAre.cons y u .nil)))
    simpa using this
  have r2 : Reads s.heap (.ref b) (.list [.int x, .int y]) [b] := by
    have := Reads.list ho' hc' hd' (readsAll_of_ints (IntsAre.cons x t' (IntsAre.cons y u' .nil)))
    simpa using this
  have sh : shaped (.list [.int x, .int y]) = true := by
    show (PyData.canLay0 (.list [.int x, .int y]) && decide (PyData.depth (.list [.int x, .int y]) ≤ 64)) = true
    rw [Bool.and_eq_true]
    exact ⟨by simp [PyData.canLay0, PyData.canLayAll0], by simp [PyData.depth, PyData.depthAll]⟩
  refine ne_dataH_same r1 r2 sh sh hu (by simp [noMix, noMixAll]) ?_
  have e : PySem.Spec.same (.list [.int x, .int y]) (.list [.int x, .int y]) = true := by simp [PySem.Spec.same, PySem.Spec.sameAll]
  rw [e]
  exact h
end
/-- the letters of a turn and the next figures -/
theorem figF_of {hs : List Nat} {a b c d : Nat} (h : Ok hs a b c d) {r n : Int} (hr : 0 ≤ r) (hn : n = (hs.sum : Int)) : figF (S (enc hs)) n r = 8 * (a : Int) + 4 * b + 2 * c + d := by
  obtain ⟨f, s, t, l⟩ := more_table h hr hn
  unfold figF
  rw [f, s, t, l]
theorem next_of {a b c e : Nat} (h1 : a ≤ 1) (h2 : b ≤ 1) (h3 : c ≤ 1) (h4 : e ≤ 1) : 8 * (e : Int) + 4 * a + 2 * b + c = nextF (65 + (8 * (a : Int) + 4 * b + 2 * c + e)) := by
  unfold nextF
  split <;> (first | lia | omega)
theorem turn_word {d1 d2 r : Int} {i : Nat} {x1 x2 : Str} {wd : Array UInt8} (h : TurnP d1 d2 r i x1 x2 wd) (hi : 1 ≤ i) (hr : 0 ≤ r ∧ r < 4) :
    ∃ f g : Int, (0 ≤ f ∧ f ≤ 15) ∧ (0 ≤ g ∧ g ≤ 15) ∧ wd = wordF f g ∧ figE x1 d1 r = nextF (65 + f) ∧ figE x2 d2 r = nextF (65 + g) := by
  obtain ⟨j, rfl⟩ : ∃ j, i = j + 1 := ⟨i - 1, by (first | lia | omega)⟩
  obtain ⟨rfl, rfl, hw⟩ := h
  obtain ⟨hs, ks, a, b, c, e, e1, e2, ok, ok2, s1, s2⟩ := lead_state d1 j
  obtain ⟨hs', ks', a', b', c', e', e1', e2', ok', ok2', s1', s2'⟩ := lead_state d2 j
  have o1 := ok.ha; have o2 := ok.hb; have o3 := ok.hc; have o4 := ok.hd
  have p1 := ok'.ha; have p2 := ok'.hb; have p3 := ok'.hc; have p4 := ok'.hd
  refine ⟨8 * (a : Int) + 4 * b + 2 * c + e, 8 * (a' : Int) + 4 * b' + 2 * c' + e', by (first | lia | omega), by (first | lia | omega), ?_, ?_, ?_⟩
  · rw [hw j rfl, e1, e1', figF_of ok hr.1 s1, figF_of ok' hr.1 s1']
  · rw [figE_is, show 12 + (j + 1) = 12 + j + 1 by (first | lia | omega), e2, figF_of ok2 hr.1 s2]
    exact next_of o1 o2 o3 o4
  · rw [figE_is, show 12 + (j + 1) = 12 + j + 1 by (first | lia | omega), e2', figF_of ok2' hr.1 s2']
    exact next_of p1 p2 p3 p4
theorem due_inj (a b c d a' b' c' d' : Fin 2) : decide (dueN a.val b.val c.val d.val = dueN a'.val b'.val c'.val d'.val) = ((8 * (a.val : Int) + 4 * b.val + 2 * c.val + d.val) == (8 * (a'.val : Int) + 4 * b'.val + 2 * c'.val + d'.val)) := by
  obtain ⟨t1, t2, t3, t4⟩ := due_table a b c d
  obtain ⟨u1, u2, u3, u4⟩ := due_table a' b' c' d'
  have l1 := a.isLt; have l2 := b.isLt; have l3 := c.isLt; have l4 := d.isLt
  have l5 := a'.isLt; have l6 := b'.isLt; have l7 := c'.isLt; have l8 := d'.isLt
  by_cases h : dueN a.val b.val c.val d.val = dueN a'.val b'.val c'.val d'.val
  · rw [decide_eq_true h]
    rw [h] at t1 t2 t3 t4
    symm
    rw [beq_iff_eq]
    (first | lia | omega)
  · rw [decide_eq_false h]
    symm
    apply beq_false_of_ne
    intro e
    apply h
    have e1 : a.val = a'.val := by (first | lia | omega)
    have e2 : b.val = b'.val := by (first | lia | omega)
    have e3 : c.val = c'.val := by (first | lia | omega)
    have e4 : d.val = d'.val := by (first | lia | omega)
    rw [e1, e2, e3, e4]
theorem equal_of {hs ks : List Nat} {a b c d a' b' c' d' : Nat} (h : Ok hs a b c d) (h' : Ok ks a' b' c' d') {r n : Int} (hr : 0 ≤ r) (hn : n = (hs.sum : Int)) (hn' : n = (ks.sum : Int)) :
    decide ((wsOf (typedS (S (enc hs)) r)).ns = (wsOf (typedS (S (enc ks)) r)).ns ∧ (wsOf (typedS (S (enc hs)) r)).b = (wsOf (typedS (S (enc ks)) r)).b) = (figF (S (enc hs)) n r == figF (S (enc ks)) n r) := by
  obtain ⟨n1, e1⟩ := typed_ok h hr
  obtain ⟨n2, e2⟩ := typed_ok h' hr
  have o1 := h.ha; have o2 := h.hb; have o3 := h.hc; have o4 := h.hd
  have p1 := h'.ha; have p2 := h'.hb; have p3 := h'.hc; have p4 := h'.hd
  rw [figF_of h hr hn, figF_of h' hr hn', e1, e2]
  have := due_inj ⟨a, by (first | lia | omega)⟩ ⟨b, by (first | lia | omega)⟩ ⟨c, by (first | lia | omega)⟩ ⟨d, by (first | lia | omega)⟩ ⟨a', by (first | lia | omega)⟩ ⟨b', by (first | lia | omega)⟩ ⟨c', by (first | lia | omega)⟩ ⟨d', by (first | lia | omega)⟩
  dsimp only at this ⊢
  rw [← this]
  simp
theorem turn_equal {d1 d2 r : Int} {i : Nat} {x1 x2 : Str} {wd : Array UInt8} (h : TurnP d1 d2 r i x1 x2 wd) (hr : 0 ≤ r ∧ r < 4) :
    decide ((wsOf (XT d1 r)).ns = (wsOf (typedS x1 r)).ns ∧ (wsOf (XT d1 r)).b = (wsOf (typedS x1 r)).b) = (FT d1 r == figE x1 d1 r) ∧ decide ((wsOf (XT d2 r)).ns = (wsOf (typedS x2 r)).ns ∧ (wsOf (XT d2 r)).b = (wsOf (typedS x2 r)).b) = (FT d2 r == figE x2 d2 r) := by
  obtain ⟨rfl, rfl, _⟩ := h
  have one : ∀ d : Int, decide ((wsOf (XT d r)).ns = (wsOf (typedS (dealN (firstS d) (12 + i)) r)).ns ∧ (wsOf (XT d r)).b = (wsOf (typedS (dealN (firstS d) (12 + i)) r)).b) = (FT d r == figE (dealN (firstS d) (12 + i)) d r) := by
    intro d
    obtain ⟨hs, _, a, b, c, e, e1, _, ok, _, s1, _⟩ := lead_state d 0
    obtain ⟨ks, _, a', b', c', e', e1', _, ok', _, s1', _⟩ := lead_state d i
    rw [figE_is]
    rw [Nat.add_zero] at e1
    unfold XT FT
    rw [e1, e1']
    exact equal_of ok ok' hr.1 s1 s1'
  exact ⟨one d1, one d2⟩
theorem code_text : ∀ k : Fin 900, (Str.ofString (toString (100 + (k.val : Int)))).cps.toList = [48 + (100 + k.val) / 100, 48 + (100 + k.val) / 10 % 10, 48 + (100 + k.val) % 10] := by decide +kernel
theorem parts_of {d : Int} {tl : Str} (hT : TailIs (35 + (d.fdiv 16).fmod 50000).toNat tl) : ∃ ds t, Parts ⟨#[(35 + (d.fdiv 16).fmod 50000).toNat]⟩ tl (Str.ofString (toString (100 + (d.fdiv 7).fmod 900))) (35 + (d.fdiv 16).fmod 50000).toNat ds t ∧
    (⟨#[(35 + (d.fdiv 16).fmod 50000).toNat]⟩ : Str).length = 1 ∧ tl.length ≤ 3 ∧ (Str.ofString (toString (100 + (d.fdiv 7).fmod 900))).length = 3 := by
  have b1 := fmod_bd (d.fdiv 16) 50000 (by decide)
  have b2 := fmod_bd (d.fdiv 7) 900 (by decide)
  obtain ⟨k, hk⟩ : ∃ k : Nat, (d.fdiv 7).fmod 900 = (k : Int) := ⟨((d.fdiv 7).fmod 900).toNat, by (first | lia | omega)⟩
  have ct := code_text ⟨k, by (first | lia | omega)⟩
  dsimp only at ct
  rw [hk]
  generalize hc : (35 + (d.fdiv 16).fmod 50000).toNat = c at hT
  have hc35 : 35 ≤ c ∧ c ≤ 60000 := by (first | lia | omega)
  obtain ⟨t, rfl, ht⟩ := hT
  have co := S_ext ct
  refine ⟨_, t, ⟨rfl, co, rfl, by (first | lia | omega), rfl, ?_, ?_, ?_, by (first | lia | omega), ?_⟩, rfl, ?_, by rw [co, S_len]; rfl⟩
  · intro x hx
    simp only [List.mem_cons, List.not_mem_nil, or_false] at hx
    rcases hx with rfl | rfl | rfl <;> (first | lia | omega)
  · rcases ht with rfl | rfl | rfl | rfl
    · rfl
    · simp [pgo]
    · simp [pgo]
    · have : c ≠ 34 := by (first | lia | omega)
      simp [pgo, this]
  · intro x hx
    simp only [List.mem_cons, List.not_mem_nil, or_false] at hx
    rcases hx with rfl | rfl | rfl <;> (first | lia | omega)
  · intro x hx
    rcases ht with rfl | rfl | rfl | rfl
    · exact nomatch hx
    all_goals
      simp only [List.mem_cons, List.not_mem_nil, or_false] at hx
    · (first | lia | omega)
    · rcases hx with rfl | rfl | rfl <;> (first | lia | omega)
    · rcases hx with rfl | rfl | rfl <;> (first | lia | omega)
  · rw [S_len]
    rcases ht with rfl | rfl | rfl | rfl <;> simp
/-- the items of the word -/
theorem word_at {f g : Int} {i : Nat} {c : UInt8} (hf : 0 ≤ f ∧ f ≤ 15) (hg : 0 ≤ g ∧ g ≤ 15) (h : (wordF f g)[i]? = some c) : (i = 0 ∧ (c.toNat : Int) = 65 + f) ∨ (i = 1 ∧ (c.toNat : Int) = 65 + g) := by
  have key : ∀ f : Int, 0 ≤ f ∧ f ≤ 15 → ((UInt8.ofNat (65 + f.toNat)).toNat : Int) = 65 + f := by
    intro f hf
    have : (UInt8.ofNat (65 + f.toNat)).toNat = 65 + f.toNat := by
      rw [UInt8.toNat_ofNat']
      (first | lia | omega)
    (first | lia | omega)
  match i, h with
  | 0, h =>
    have e : UInt8.ofNat (65 + f.toNat) = c := Option.some.inj h
    subst e
    exact .inl ⟨rfl, key f hf⟩
  | 1, h =>
    have e : UInt8.ofNat (65 + g.toNat) = c := Option.some.inj h
    subst e
    exact .inr ⟨rfl, key g hg⟩
  | i + 2, h =>
    have e : (wordF f g)[i + 2]? = none := Array.getElem?_eq_none (by show 2 ≤ i + 2; (first | lia | omega))
    rw [e] at h
    cases h
def TwoI (A B : Int) (i : Nat) (y : Value) : Prop := ∃ t, y = .int (if i = 0 then A else B) t
theorem two_nexts {ys : List Value} {A B : Int} {P : Nat → Value → Prop} (hl : ys.length = 2) (hy : ∀ (i : Nat) (y : Value), ys[i]? = some y → ∃ v, P i v ∧ TwoI A B i y) : ∃ t t', ys = [.int A t, .int B t'] := by
  obtain ⟨y1, y2, rfl⟩ := len_two hl
  obtain ⟨v, h, t, rfl⟩ := hy 0 y1 rfl
  obtain ⟨v2, h2, t2, rfl⟩ := hy 1 y2 rfl
  exact ⟨_, _, rfl⟩
theorem rest_nexts {prog : Program} {w : World} {A : Around} {s : Shared} {h₀ : Heap} {L : Addr} {m : Str → Option Value} {env : Env} {elt : Expr} {x : Str} {scope : Scope} {cl : List (Str × Addr)} {news : List (Addr × Obj)} {Fin : List Value → List (Addr × Obj) → Prop} {f g : Int} (hf : 0 ≤ f ∧ f ≤ 15) (hg : 0 ≤ g ∧ g ≤ 15)
    (turn : ∀ (n : Int) u I oI C oC D ys m₂ h tk (E' : Value → Shared → Prop), 65 ≤ n ∧ n ≤ 80 → LCg.NsObj oC m₂ → m₂ x = some (.int n u) → Fr h₀ L h m → News h₀ L h ((I, oI) :: (C, oC) :: (D, LCg.lst ys) :: news) → LCg.Off3 I C D news → ((@Ne Nat I C) ∧ (@Ne Nat I D) ∧ (@Ne Nat C D)) →
      wpAny (model prog w) A (eval elt (compEnvC scope cl C env)) (fun y s'' => PureEnd h₀ L m ((I, oI) :: (C, oC) :: (D, LCg.lst ys) :: news) { s with heap := h, toks := tk } s'' (∃ t, y = .int (nextF n) t)) E' { s with heap := h, toks := tk })
    (fin : ∀ t t', Fin [.int (nextF (65 + f)) t, .int (nextF (65 + g)) t'] news) :
    LCg.CompRest prog w A h₀ L m env elt x scope cl s (fun _ => True) (fun i v => ∃ c u, (wordF f g)[i]? = some c ∧ v = .int (c.toNat : Int) u) Fin (wordF f g).size 0 [] news := by
  show LCg.CompRest prog w A h₀ L m env elt x scope cl s (fun _ => True) (fun i v => ∃ c u, (wordF f g)[i]? = some c ∧ v = .int (c.toNat : Int) u) Fin 2 0 [] news
  refine rest_pure (fun i _ y => TwoI (nextF (65 + f)) (nextF (65 + g)) i y) trivial ?_ ?_
  · rintro i v I oI C oC D ys m₂ h tk E' hi ⟨c, u, hc, rfl⟩ hC hx F N off ne
    rcases word_at hf hg hc with ⟨rfl, e⟩ | ⟨rfl, e⟩
    · rw [e] at hx
      exact turn _ u I oI C oC D ys m₂ h tk E' (by (first | lia | omega)) hC hx F N off ne
    · rw [e] at hx
      exact turn _ u I oI C oC D ys m₂ h tk E' (by (first | lia | omega)) hC hx F N off ne
  · intro ys hl hy
    obtain ⟨t, t', rfl⟩ := two_nexts hl hy
    exact fin t t'
inductive NextMark : Prop | mk
theorem eq_int_no {prog : Program} {w : World} {A : Around} {E : Value → Shared → Prop} {s : Shared} {Q : Value → Shared → Prop} {a b : Int} {t u : Tok} (e : a ≠ b) (h : Q (.bool false) s) : wpAny (model prog w) A (compareOp .Eq (.int a t) (.int b u)) Q E s :=
  PyProof.Rows.eq_int (by
    have : (a == b) = false := beq_false_of_ne e
    rw [this]; exact h)
theorem gt_int_yes {prog : Program} {w : World} {A : Around} {E : Value → Shared → Prop} {s : Shared} {Q : Value → Shared → Prop} {a b : Int} {t u : Tok} (e : b < a) (h : Q (.bool true) s) : wpAny (model prog w) A (compareOp .Gt (.int a t) (.int b u)) Q E s :=
  PyProof.Rows.gt_int (by
    have : decide (a > b) = true := decide_eq_true e
    first | (rw [this]; exact h) | simpa [this] using h)
end Mine
end
section
open PySem PySem.W PyProof.Rows
set_option maxHeartbeats 8000000
namespace Mine
def nthS : List Stmt → Nat → Stmt
  | [], _ => .Pass default
  | a :: _, 0 => a
  | _ :: l, n + 1 => nthS l n
def forB : Stmt → List Stmt
  | .For _ _ b _ _ => b
  | _ => []
/-- the frame, some names written on top -/
def pickF : List (Str × Value) → (Str → Option Value) → Str → Option Value
  | [], m => m
  | p :: r, m => fun z => if z = p.1 then some p.2 else pickF r m z
theorem pickF_eq {m : Str → Option Value} : ∀ {ps : List (Str × Value)}, (∀ p ∈ ps, m p.1 = some p.2) → pickF ps m = m
  | [], _ => rfl
  | p :: r, h => by
    funext z
    show (if z = p.1 then some p.2 else pickF r m z) = m z
    rw [pickF_eq (ps := r) fun q hq => h q (.tail _ hq)]
    by_cases e : z = p.1
    · rw [if_pos e, e]; exact (h p (.head _)).symm
    · rw [if_neg e]
theorem fr_pickL {h₀ h : Heap} {L : Addr} {m : Str → Option Value} (ps : List (Str × Value)) (hp : ∀ p ∈ ps, m p.1 = some p.2) (F : Fr h₀ L h m) : Fr h₀ L h (pickF ps m) := by rw [pickF_eq hp]; exact F
theorem fr_unpickL {h₀ h : Heap} {L : Addr} {m : Str → Option Value} (ps : List (Str × Value)) (hp : ∀ p ∈ ps, m p.1 = some p.2) (F : Fr h₀ L h (pickF ps m)) : Fr h₀ L h m := by rw [pickF_eq hp] at F; exact F
theorem fr_pickS {h₀ h : Heap} {L : Addr} {m : Str → Option Value} (ps : List (Str × Value)) (hp : ∀ p ∈ ps, m p.1 = some p.2) (F : Fr h₀ L h m) : Fr h₀ L h (pickF ps m) ∧ pickF ps m = m := ⟨fr_pickL ps hp F, pickF_eq hp⟩
theorem ne_of_S {S : List Str} {z x : Str} (hz : S.contains z = false) (hx : x ∈ S) : z ≠ x := by
  intro e
  subst e
  have : S.contains z = true := List.contains_iff_mem.mpr hx
  rw [hz] at this
  cases this
/-- two stores above -/
theorem fr_unpick2 {h₀ h : Heap} {L : Addr} {m : Str → Option Value} {d e : Str} {vd ve : Option Value} (ps : List (Str × Value)) (hp : ∀ p ∈ ps, m p.1 = some p.2) (F : Fr h₀ L h (fun z => if z = d then vd else if z = e then ve else pickF ps m z)) : Fr h₀ L h (fun z => if z = d then vd else if z = e then ve else m z) := by
  rw [pickF_eq hp] at F; exact F
/-- the order of a new object, hidden -/
inductive LtAll (d : Nat) (l : List Nat) : Prop
  | mk : (∀ x ∈ l, x < d) → LtAll d l
theorem LtAll.of {d : Addr} {l : List (Addr × Obj)} (h : ∀ p ∈ l, p.1 < d) : LtAll d (l.map (·.1)) := .mk fun x hx => by
  obtain ⟨p, hp, rfl⟩ := List.mem_map.mp hx
  exact h p hp
theorem LtAll.ofL {d : Addr} : ∀ {l : List (Addr × Obj)}, AllLt d l → LtAll d (l.map (·.1))
  | [], _ => .mk fun _ h => nomatch h
  | p :: l, h => .mk fun x hx => by
    rcases List.mem_cons.mp hx with e | e
    · rw [e]; exact h.1
    · let ⟨q⟩ := LtAll.ofL h.2
      exact q x e
theorem LtAll.get {d : Nat} {l : List Nat} (h : LtAll d l) {x : Nat} (q : x ∈ l) : x < d := let ⟨z⟩ := h; z x q
theorem LtAll.sub {d : Nat} {l l' : List Nat} (h : LtAll d l) (q : ∀ p ∈ l', p ∈ l) : LtAll d l' := .mk fun p hp => h.get (q p hp)
theorem LtAll.up {d d' : Nat} {l : List Nat} (h : LtAll d l) (q : d < d') : LtAll d' l := .mk fun _ hp => Nat.lt_trans (h.get hp) q
theorem OffH.sub {d : Nat} {l l' : List Nat} (h : OffH d l) (q : ∀ x ∈ l', x ∈ l) : OffH d l' := .mk fun x hx => h.ne1 (q x hx)
theorem LtAll.ne1 {d x : Nat} {l : List Nat} (h : LtAll d l) (q : x ∈ l) : x ≠ d := Nat.ne_of_lt (h.get q)
theorem LtAll.ne2 {d x : Nat} {l : List Nat} (h : LtAll d l) (q : x ∈ l) : d ≠ x := fun e => h.ne1 q e.symm
theorem LtAll.nes {d : Nat} {l : List Nat} {nt : List (Addr × Obj)} (h : LtAll d l) (q : ∀ x ∈ nt.map (·.1), x ∈ l) : ∀ p ∈ nt, (p : Addr × Obj).1 ≠ d := fun _ hp => h.ne1 (q _ (List.mem_map_of_mem hp))
theorem nth_push {arr : Array Value} {v : Value} {i : Int} (h : (arr.size : Int) = i) : nthV (arr.push v).toList i.toNat = some v := by
  rw [nthV_eq, ← h]; simp
def nthP : List (Addr × Obj) → Nat → Option (Addr × Obj)
  | [], _ => none
  | a :: _, 0 => some a
  | _ :: l, n + 1 => nthP l n
theorem nthP_mem (l : List (Addr × Obj)) : ∀ (n : Nat) (p : Addr × Obj), nthP l n = some p → p ∈ l := by
  induction l with
  | nil => intro n p h; cases n <;> (unfold nthP at h; cases h)
  | cons a l ih =>
    intro n p h
    cases n with
    | zero => exact (Option.some.inj (h : some a = some p)) ▸ List.Mem.head _
    | succ n => exact List.Mem.tail _ (ih n p h)
theorem news_2 {h₀ h : Heap} {L : Addr} {l : List (Addr × Obj)} (b : List Bool) (i j : Nat) (N : News h₀ L h l) {x y : Addr × Obj} (hx : nthP l i = some x) (hy : nthP l j = some y) : News h₀ L h (x :: y :: keepL b l) :=
  List.forall_mem_cons.mpr ⟨N _ (nthP_mem _ _ _ hx), List.forall_mem_cons.mpr ⟨N _ (nthP_mem _ _ _ hy), news_keep b N⟩⟩
theorem news_3 {h₀ h : Heap} {L : Addr} {l : List (Addr × Obj)} (b : List Bool) (i j k : Nat) (N : News h₀ L h l) {x y z : Addr × Obj} (hx : nthP l i = some x) (hy : nthP l j = some y) (hz : nthP l k = some z) : News h₀ L h (x :: y :: z :: keepL b l) :=
  List.forall_mem_cons.mpr ⟨N _ (nthP_mem _ _ _ hx), news_2 b j k N hy hz⟩
inductive EndT : Prop | mk
inductive EndU : Prop | mk
end Mine
end
section
open PySem PySem.W PyProof.Rows
set_option maxHeartbeats 8000000
namespace Mine
theorem news_1 {h₀ h : Heap} {L : Addr} {l : List (Addr × Obj)} (b : List Bool) (i : Nat) (N : News h₀ L h l) {x : Addr × Obj} (hx : nthP l i = some x) : News h₀ L h (x :: keepL b l) :=
  List.forall_mem_cons.mpr ⟨N _ (nthP_mem _ _ _ hx), news_keep b N⟩
theorem news_4 {h₀ h : Heap} {L : Addr} {l : List (Addr × Obj)} (b : List Bool) (i j k n : Nat) (N : News h₀ L h l) {x y z v : Addr × Obj} (hx : nthP l i = some x) (hy : nthP l j = some y) (hz : nthP l k = some z) (hv : nthP l n = some v) : News h₀ L h (x :: y :: z :: v :: keepL b l) :=
  List.forall_mem_cons.mpr ⟨N _ (nthP_mem _ _ _ hx), news_3 b j k n N hy hz hv⟩
section
variable {w : World} {h₀ h' : Heap} {L : Addr} {x : Str} {stored : List Str} {m₀ m' : Str → Option Value} {cls b ac ah at_ I q1 : Addr} {oI zo zb z1 z2 z3 : Obj} {X0 X1 Y0 Y1 : Str} {f0 f1 g0 g1 : Int} {rest : List (Addr × Obj)} {Px : Nat → Str → Str → Array UInt8 → Prop} {i : Nat} {s₁ : Shared} {Q : Flow → Shared → Prop} {tk : Nat}
theorem turnA_end (c : TSt) (g : BSt) (eY0 : Y0 = X0) (eY1 : Y1 = X1) (e0 : g0 = f0) (e1 : g1 = f1)
    (hI : ∀ p ∈ (b, zb) :: (q1, zo) :: (ac, z1) :: (ah, z2) :: (at_, z3) :: rest, @Ne Nat I p.1) (F : Fr h₀ L h' m')
    (N : News h₀ L h' (begunLed w cls b Y0 Y1 g0 g1 g ++ ((c.q, PySem.W.listOf #[.str c.x1 c.t1, .str c.x2 c.t2] c.k) :: (ac, c.o) :: (ah, c.oh) :: (at_, c.ot) :: (I, oI) :: (q1, zo) :: rest)))
    (hk : m' (Str.ofString "word") = some (.bytes c.wd c.tw)) (hm : ∀ z, z ≠ x → z ≠ Str.ofString "word" → stored.contains z = false → m' z = m₀ z)
    (hok : turnOk c) (hq : OffH c.q (ac :: ah :: at_ :: b :: ((I, oI) :: (q1, zo) :: rest).map (·.1)))
    (hz : ∀ z ∈ [g.p0, g.p1, g.a0, g.d0, g.n0, g.c0, g.a1, g.d1, g.n1, g.c1], LtAll z (ac :: ah :: at_ :: b :: ((I, oI) :: (q1, zo) :: rest).map (·.1)))
    (hi0 : IntsAre g.vs0 (wsOf Y0).ns) (hi1 : IntsAre g.vs1 (wsOf Y1).ns) (hP : Px (i + 1) c.x1 c.x2 c.wd) :
    turnsPost h₀ L x stored m₀ w cls b ac ah at_ X0 X1 f0 f1 rest Px i [(I, oI)] s₁ Q .next { s₁ with heap := h', toks := tk } := by
  subst eY0 eY1 e0 e1
  have lt : ∀ z ∈ [g.p0, g.p1, g.a0, g.d0, g.n0, g.c0, g.a1, g.d1, g.n1, g.c1], @LT.lt Nat _ b z := fun z h => (hz z h).get (.tail _ (.tail _ (.tail _ (.head _))))
  have nI : ∀ z ∈ [g.p0, g.p1, g.a0, g.d0, g.n0, g.c0, g.a1, g.d1, g.n1, g.c1], @Ne Nat I z := fun z h => (hz z h).ne1 (.tail _ (.tail _ (.tail _ (.tail _ (.head _)))))
  simp only [List.forall_mem_cons] at lt nI
  refine FPost.next (σ := TSt ⊕ (TSt × BSt)) (Sum.inr (c, g)) F N ?_ ?_ ?_ (List.forall_mem_cons.mpr ⟨hk, List.forall_mem_nil _⟩) (fun z h1 h2 h3 => hm z h1 (h2 _ (.head _)) h3) ⟨Nat.succ_le_succ (Nat.zero_le _), hok, OffH.sub hq ?_, ⟨⟨lt.1, lt.2.1, lt.2.2.1, lt.2.2.2.1, lt.2.2.2.2.1, lt.2.2.2.2.2.1, lt.2.2.2.2.2.2.1, lt.2.2.2.2.2.2.2.1, lt.2.2.2.2.2.2.2.2.1, lt.2.2.2.2.2.2.2.2.2.1⟩, hi0, hi1⟩, hP⟩
  · intro p hp
    rcases List.mem_append.mp (show p ∈ begunLed w cls b Y0 Y1 g0 g1 g ++ ((c.q, PySem.W.listOf #[.str c.x1 c.t1, .str c.x2 c.t2] c.k) :: (ac, c.o) :: (ah, c.oh) :: (at_, c.ot) :: rest) from hp) with h | h
    · exact List.mem_append_left _ h
    · refine List.mem_append_right _ ?_
      rcases List.mem_append.mp (show p ∈ [(c.q, PySem.W.listOf #[.str c.x1 c.t1, .str c.x2 c.t2] c.k), (ac, c.o), (ah, c.oh), (at_, c.ot)] ++ rest from h) with h | h
      · exact List.mem_append_left ((I, oI) :: (q1, zo) :: rest) h
      · exact .tail _ (.tail _ (.tail _ (.tail _ (.tail _ (.tail _ h)))))
  · exact List.forall_mem_cons.mpr ⟨List.mem_append_right _ (.tail _ (.tail _ (.tail _ (.tail _ (.head _))))), List.forall_mem_nil _⟩
  · intro p hp z hz'
    rw [List.mem_singleton.mp hp]
    revert z
    exact List.forall_mem_cons.mpr ⟨hI (b, zb) (.head _), List.forall_mem_cons.mpr ⟨nI.1, List.forall_mem_cons.mpr ⟨nI.2.1, List.forall_mem_cons.mpr ⟨nI.2.2.1, List.forall_mem_cons.mpr ⟨nI.2.2.2.1, List.forall_mem_cons.mpr ⟨nI.2.2.2.2.1, List.forall_mem_cons.mpr ⟨nI.2.2.2.2.2.1, List.forall_mem_cons.mpr ⟨nI.2.2.2.2.2.2.1, List.forall_mem_cons.mpr ⟨nI.2.2.2.2.2.2.2.1, List.forall_mem_cons.mpr ⟨nI.2.2.2.2.2.2.2.2.1, List.forall_mem_cons.mpr ⟨nI.2.2.2.2.2.2.2.2.2.1, List.forall_mem_cons.mpr ⟨hq.ne1 (.tail _ (.tail _ (.tail _ (.tail _ (.head _))))), List.forall_mem_cons.mpr ⟨hI (ac, z1) (.tail _ (.tail _ (.head _))), List.forall_mem_cons.mpr ⟨hI (ah, z2) (.tail _ (.tail _ (.tail _ (.head _)))), List.forall_mem_cons.mpr ⟨hI (at_, z3) (.tail _ (.tail _ (.tail _ (.tail _ (.head _))))), fun z h => hI z (.tail _ (.tail _ (.tail _ (.tail _ (.tail _ h)))))⟩⟩⟩⟩⟩⟩⟩⟩⟩⟩⟩⟩⟩⟩⟩
  · exact List.forall_mem_cons.mpr ⟨.head _, List.forall_mem_cons.mpr ⟨.tail _ (.head _), List.forall_mem_cons.mpr ⟨.tail _ (.tail _ (.head _)), fun z h => .tail _ (.tail _ (.tail _ (.tail _ (.tail _ (.tail _ h)))))⟩⟩⟩
theorem turnB_end (c : TSt) (g : BSt)
    (hI : ∀ p ∈ begunLed w cls b X0 X1 f0 f1 g ++ (q1, zo) :: (ac, z1) :: (ah, z2) :: (at_, z3) :: rest, @Ne Nat I p.1) (F : Fr h₀ L h' m')
    (N : News h₀ L h' ((c.q, PySem.W.listOf #[.str c.x1 c.t1, .str c.x2 c.t2] c.k) :: (ac, c.o) :: (ah, c.oh) :: (at_, c.ot) :: (I, oI) :: (begunLed w cls b X0 X1 f0 f1 g ++ (q1, zo) :: rest)))
    (hk : m' (Str.ofString "word") = some (.bytes c.wd c.tw)) (hm : ∀ z, z ≠ x → z ≠ Str.ofString "word" → stored.contains z = false → m' z = m₀ z)
    (hok : turnOk c) (hq : OffH c.q (ac :: ah :: at_ :: ((I, oI) :: (begunLed w cls b X0 X1 f0 f1 g ++ (q1, zo) :: rest)).map (·.1)))
    (hg : begunOrd b X0 X1 g) (hP : Px (i + 1) c.x1 c.x2 c.wd) :
    turnsPost h₀ L x stored m₀ w cls b ac ah at_ X0 X1 f0 f1 rest Px i [(I, oI)] s₁ Q .next { s₁ with heap := h', toks := tk } := by
  refine FPost.next (σ := TSt ⊕ (TSt × BSt)) (Sum.inr (c, g)) F N ?_ ?_ ?_ (List.forall_mem_cons.mpr ⟨hk, List.forall_mem_nil _⟩) (fun z h1 h2 h3 => hm z h1 (h2 _ (.head _)) h3) ⟨Nat.succ_le_succ (Nat.zero_le _), hok, OffH.sub hq ?_, hg, hP⟩
  · intro p hp
    rcases List.mem_append.mp (show p ∈ begunLed w cls b X0 X1 f0 f1 g ++ ((c.q, PySem.W.listOf #[.str c.x1 c.t1, .str c.x2 c.t2] c.k) :: (ac, c.o) :: (ah, c.oh) :: (at_, c.ot) :: rest) from hp) with h | h
    · exact .tail _ (.tail _ (.tail _ (.tail _ (.tail _ (List.mem_append_left _ h)))))
    · rcases List.mem_append.mp (show p ∈ [(c.q, PySem.W.listOf #[.str c.x1 c.t1, .str c.x2 c.t2] c.k), (ac, c.o), (ah, c.oh), (at_, c.ot)] ++ rest from h) with h | h
      · exact List.mem_append_left ((I, oI) :: (begunLed w cls b X0 X1 f0 f1 g ++ (q1, zo) :: rest)) h
      · exact .tail _ (.tail _ (.tail _ (.tail _ (.tail _ (List.mem_append_right _ (.tail _ h))))))
  · exact List.forall_mem_cons.mpr ⟨.tail _ (.tail _ (.tail _ (.tail _ (.head _)))), List.forall_mem_nil _⟩
  · intro p hp z hz'
    rw [List.mem_singleton.mp hp]
    rcases List.mem_append.mp (show z ∈ begunLed w cls b X0 X1 f0 f1 g ++ ((c.q, PySem.W.listOf #[.str c.x1 c.t1, .str c.x2 c.t2] c.k) :: (ac, c.o) :: (ah, c.oh) :: (at_, c.ot) :: rest) from hz') with h | h
    · exact hI z (List.mem_append_left _ h)
    · have hI' := fun z h => hI z (List.mem_append_right _ h)
      have al : ∀ z ∈ ((c.q, PySem.W.listOf #[.str c.x1 c.t1, .str c.x2 c.t2] c.k) :: (ac, c.o) :: (ah, c.oh) :: (at_, c.ot) :: rest), @Ne Nat I z.1 :=
        List.forall_mem_cons.mpr ⟨hq.ne1 (.tail _ (.tail _ (.tail _ (.head _)))), List.forall_mem_cons.mpr ⟨hI' (ac, z1) (.tail _ (.head _)), List.forall_mem_cons.mpr ⟨hI' (ah, z2) (.tail _ (.tail _ (.head _))), List.forall_mem_cons.mpr ⟨hI' (at_, z3) (.tail _ (.tail _ (.tail _ (.head _)))), fun z h => hI' z (.tail _ (.tail _ (.tail _ (.tail _ h))))⟩⟩⟩⟩
      exact al z h
  · exact List.forall_mem_cons.mpr ⟨.head _, List.forall_mem_cons.mpr ⟨.tail _ (.head _), List.forall_mem_cons.mpr ⟨.tail _ (.tail _ (.head _)), fun z h => .tail _ (.tail _ (.tail _ (.tail _ (by
      rw [List.map_append]
      exact List.mem_append_right _ (.tail _ h)))))⟩⟩⟩
end
/-- what stands ahead of the five turns lies off the changing cells -/
theorem law_off {x L cd dr : Nat} {o1 o2 o3 o4 o5 o6 : Obj} (h4 : L + 1 + 1 + 1 + 1 < x) (h5 : x < dr) (h6 : x < cd) : ∀ p ∈ [((cd, o1) : Addr × Obj), (dr, o2), (L + 1 + 1 + 1 + 1, o3), (L + 1 + 1 + 1, o4), (L + 1 + 1, o5), (L + 1, o6)], p.1 ≠ x :=
  List.forall_mem_cons.mpr ⟨Nat.ne_of_gt h6, List.forall_mem_cons.mpr ⟨Nat.ne_of_gt h5, List.forall_mem_cons.mpr ⟨Nat.ne_of_lt h4, List.forall_mem_cons.mpr ⟨Nat.ne_of_lt (Nat.lt_trans (Nat.lt_succ_self _) h4), List.forall_mem_cons.mpr ⟨Nat.ne_of_lt (Nat.lt_trans (Nat.lt_succ_self _) (Nat.lt_trans (Nat.lt_succ_self _) h4)), List.forall_mem_cons.mpr ⟨Nat.ne_of_lt (Nat.lt_trans (Nat.lt_succ_self _) (Nat.lt_trans (Nat.lt_succ_self _) (Nat.lt_trans (Nat.lt_succ_self _) h4))), List.forall_mem_nil _⟩⟩⟩⟩⟩⟩
theorem law_offB {b L cd dr : Nat} {o1 o2 o3 o4 o5 o6 : Obj} (h4 : L + 1 + 1 + 1 + 1 < b) (h5 : dr < b) (h6 : cd < b) : ∀ p ∈ [((cd, o1) : Addr × Obj), (dr, o2), (L + 1 + 1 + 1 + 1, o3), (L + 1 + 1 + 1, o4), (L + 1 + 1, o5), (L + 1, o6)], p.1 ≠ b :=
  List.forall_mem_cons.mpr ⟨Nat.ne_of_lt h6, List.forall_mem_cons.mpr ⟨Nat.ne_of_lt h5, List.forall_mem_cons.mpr ⟨Nat.ne_of_lt h4, List.forall_mem_cons.mpr ⟨Nat.ne_of_lt (Nat.lt_trans (Nat.lt_succ_self _) h4), List.forall_mem_cons.mpr ⟨Nat.ne_of_lt (Nat.lt_trans (Nat.lt_succ_self _) (Nat.lt_trans (Nat.lt_succ_self _) h4)), List.forall_mem_cons.mpr ⟨Nat.ne_of_lt (Nat.lt_trans (Nat.lt_succ_self _) (Nat.lt_trans (Nat.lt_succ_self _) (Nat.lt_trans (Nat.lt_succ_self _) h4))), List.forall_mem_nil _⟩⟩⟩⟩⟩⟩
theorem begun_off {w : World} {cls b x : Addr} {X0 X1 : Str} {f0 f1 : Int} {g : BSt} (hb : @LT.lt Nat _ x b) (h : begunOrd b X0 X1 g) : ∀ p ∈ begunLed w cls b X0 X1 f0 f1 g, (p : Addr × Obj).1 ≠ x := by
  obtain ⟨⟨h1, h2, h3, h4, h5, h6, h7, h8, h9, h10⟩, _, _⟩ := h
  have f : ∀ {z : Addr}, @LT.lt Nat _ b z → z ≠ x := fun hz => Nat.ne_of_gt (Nat.lt_trans hb hz)
  exact List.forall_mem_cons.mpr ⟨Nat.ne_of_gt hb, List.forall_mem_cons.mpr ⟨f h1, List.forall_mem_cons.mpr ⟨f h2, List.forall_mem_cons.mpr ⟨f h3, List.forall_mem_cons.mpr ⟨f h4, List.forall_mem_cons.mpr ⟨f h5, List.forall_mem_cons.mpr ⟨f h6, List.forall_mem_cons.mpr ⟨f h7, List.forall_mem_cons.mpr ⟨f h8, List.forall_mem_cons.mpr ⟨f h9, List.forall_mem_cons.mpr ⟨f h10, List.forall_mem_nil _⟩⟩⟩⟩⟩⟩⟩⟩⟩⟩⟩
theorem news_turnB {h₀ h : Heap} {L : Addr} {B rest : List (Addr × Obj)} {I q ac ah at_ : Addr × Obj} (N : News h₀ L h (I :: (B ++ q :: ac :: ah :: at_ :: rest))) : News h₀ L h (ac :: ah :: at_ :: I :: (B ++ q :: rest)) := by
  refine List.forall_mem_cons.mpr ⟨N _ (.tail _ (List.mem_append_right _ (.tail _ (.head _)))), List.forall_mem_cons.mpr ⟨N _ (.tail _ (List.mem_append_right _ (.tail _ (.tail _ (.head _))))), List.forall_mem_cons.mpr ⟨N _ (.tail _ (List.mem_append_right _ (.tail _ (.tail _ (.tail _ (.head _)))))), List.forall_mem_cons.mpr ⟨N _ (.head _), fun p hp => ?_⟩⟩⟩⟩
  rcases List.mem_append.mp hp with h | h
  · exact N p (.tail _ (List.mem_append_left _ h))
  · rcases List.mem_cons.mp h with h | h
    · exact h ▸ N _ (.tail _ (List.mem_append_right _ (.head _)))
    · exact N p (.tail _ (List.mem_append_right _ (.tail _ (.tail _ (.tail _ (.tail _ h))))))
theorem six_fmod (d : Int) : 0 ≤ 6 + d.fmod 5 ∧ 6 + d.fmod 5 ≤ 1000 := by
  have := fmod_bd d 5 (by decide)
  (first | lia | omega)
theorem one_le_cast {i : Nat} (h : 1 ≤ i) : (1 : Int) ≤ 0 + (i : Int) := by (first | lia | omega)
theorem sl_of {z a : Str} {S : List Str} (h : z ≠ a) (h3 : S.contains z = false) : (S ++ [a]).contains z = false := by
  rw [Bool.eq_false_iff]
  intro e
  rcases List.mem_append.mp (List.contains_iff_mem.mp e) with q | q
  · rw [List.contains_iff_mem.mpr q] at h3; cases h3
  · exact h (List.mem_singleton.mp q)
theorem ord_pick3 {h₀ h : Heap} {L : Addr} {b q ac ah at_ cd dr c4 c3 c2 c1 : Addr × Obj} (N : News h₀ L h (b :: q :: ac :: ah :: at_ :: cd :: dr :: c4 :: c3 :: c2 :: c1 :: []))
    (o : @LT.lt Nat _ ah.1 dr.1 ∧ @LT.lt Nat _ dr.1 cd.1 ∧ @LT.lt Nat _ cd.1 b.1) : @LT.lt Nat _ ah.1 dr.1 ∧ @LT.lt Nat _ dr.1 cd.1 ∧ @LT.lt Nat _ cd.1 b.1 := o
theorem fig_bd {a b c d : Int} (ha : 0 ≤ a ∧ a ≤ 1) (hb : 0 ≤ b ∧ b ≤ 1) (hc : 0 ≤ c ∧ c ≤ 1) (hd : 0 ≤ d ∧ d ≤ 1) : 0 ≤ 8 * a + 4 * b + 2 * c + d ∧ 8 * a + 4 * b + 2 * c + d ≤ 15 := by (first | lia | omega)
theorem news_swap {h₀ h : Heap} {L : Addr} {x y : Addr × Obj} {l : List (Addr × Obj)} (N : News h₀ L h (x :: y :: l)) : News h₀ L h (y :: x :: l) :=
  List.forall_mem_cons.mpr ⟨N _ (.tail _ (.head _)), List.forall_mem_cons.mpr ⟨N _ (.head _), fun p hp => N p (.tail _ (.tail _ hp))⟩⟩
/-- what a turn of the deals leaves -/
theorem deal_post {h₀ h' : Heap} {L : Addr} {x : Str} {stored : List Str} {m₀ m' : Str → Option Value} {ac q : Addr} {zq : Obj} {rest own : List (Addr × Obj)} {Pn Pd : LdSt → Prop} {s₁ : Shared} {Q : Flow → Shared → Prop} {tk : Nat} (c : LdSt)
    (hoff : OwnOff own (q :: ac :: rest.map (·.1))) (F : Fr h₀ L h' m') (hL : c.o.data = .cell (some (.ref c.q))) (hq : OffH c.q (ac :: ((q, zq) :: (rest ++ own)).map (·.1)))
    (N : News h₀ L h' ((c.q, PySem.W.listOf #[.str c.x1 c.t1, .str c.x2 c.t2] c.k) :: (ac, c.o) :: (q, zq) :: (rest ++ own)))
    (hm : ∀ z, z ≠ x → stored.contains z = false → m' z = m₀ z) (hP : LdI rest ac c → Pn c) : FPost h₀ L x (ldLed ac rest) (fun _ => []) stored m₀ Pn Pd own s₁ Q .next { s₁ with heap := h', toks := tk } := by
  refine FPost.next c F N ?_ (fun p hp => .tail _ (.tail _ (.tail _ (List.mem_append_right _ hp)))) (off_cons ?_ (off_of2 (a := q) (rest := (ac, c.o) :: rest) hoff)) (fun _ h => nomatch h) (fun z h1 _ h3 => hm z h1 h3) (hP ⟨hL, OffH.sub hq ?_⟩)
  · exact List.forall_mem_cons.mpr ⟨.head _, List.forall_mem_cons.mpr ⟨.tail _ (.head _), fun p hp => .tail _ (.tail _ (.tail _ (List.mem_append_left _ hp)))⟩⟩
  · exact fun p hp => hq.ne1 (.tail _ (.tail _ (List.mem_map_of_mem (f := (·.1)) (List.mem_append_right _ hp))))
  · exact List.forall_mem_cons.mpr ⟨.head _, fun x hx => .tail _ (.tail _ (by rw [List.map_append]; exact List.mem_append_left _ hx))⟩
end Mine
end
section
open PySem PySem.W PyProof.Rows
set_option maxHeartbeats 80000000
namespace Mine
local macro_rules | `(tactic| walk_at "own") => `(tactic| (k_here; (fail_if_success (with_reducible rename NoOwn => hN9)); (with_reducible refine Own.of ?_)))
local macro_rules | `(tactic| walk_at "call type:tuple") => `(tactic| walk_at "own")
local macro_rules | `(tactic| walk_at "call builtin:len") => `(tactic| walk_at "own")
local macro_rules | `(tactic| walk_at "subscriptTail") => `(tactic| walk_at "own")
local macro_rules | `(tactic| walk_at "execs cons") => `(tactic| (k_here; dsimp only; k_gentoks))
local macro_rules | `(tactic| walk_at "execs nil") => `(tactic| (k_here; dsimp only; k_gentoks))
theorem parse_ok {w : World} {p : Program} {loose : List Str} {mean : ExcName → Option Value} {mg mb : Str → Option Value} {dp un : Nat} {gd : Option (List Code)} {cn : Str} {cs : Scope} {a : Addr} {ccd : Value} {cl : List (Str × Addr)} {outer : List Env} {A₀ : Around} {base h₀ : Heap} {L : Addr} {m : Str → Option Value} {news : List (Addr × Obj)} {s : Shared} {Q E : Value → Shared → Prop}
    (B : Below A₀ base outer h₀) (F : Fr h₀ L s.heap m) (X : (hd2.heap_39 w.params).In h₀) (N : News h₀ L s.heap news) (T : Top p loose mean mg mb h₀) (hk : cs.kind = .function) (hd : dp + 20 < recursionLimit) (hu : un + 200 < cLine)
    {x : Str} {tx : Tok} (h5 : 5 ≤ x.length) (hx : x.length ≤ 1000) (h3 : x.cps.toList.take 3 = [50, 53, 55])
    (hret : ∀ (t : Tok) (h' : Heap) (tk' : Nat), Fr h₀ L h' m → News h₀ L h' news → Q (.str (parseF x) t) { s with heap := h', toks := tk' }) :
    wpAny (model PySem.Challenge.rw_xb0022_02.row.prog w) (ktrTop dp un gd cn cs L a ccd cl outer) (call (.ref 119) [.str x tx]) Q E s := by
  revert X; k_fill; intro X
  refine wpAny_call ?_
  k_dflt cell_enter
  (repeat' (first | ((with_reducible rename NoOwn => hNo9); clear hNo9) | (k_unfold; (try dsimp only)) | ((with_reducible refine Own.mk ?_); (first | ((k_here; (with_reducible show wpAny _ _ (subscriptTail _ _ (Value.ref _) (Value.int _ _)) _ _ _); k_dflt (refine' item_anyT ?k1 ?k2 ?k3 ?k4 ?k5 ?_ ?k6; (case k1 => exact News.isTup (by k_asm) (by k_mem)); (case k2 => with_reducible assumption); (case k3 => omega); (case k4 => omega); (case k5 => omega); (case k6 => with_unfolding_all rfl); k_whole); intro _)) | ((k_here; (with_reducible show wpAny _ _ (call (Value.builtin "len") [Value.ref _]) _ _ _); k_dflt (refine' len_tupI ?k1 ?k2 ?k3 ?_; (case k1 => exact News.isTup (by k_asm) (by k_mem)); (case k2 => with_reducible assumption); (case k3 => omega); k_whole))) | ((k_here; (with_reducible show wpAny _ _ (call (Value.type _) [Value.ref _]) _ _ _); k_dflt (refine' kde_tupleOf ?k1 ?k2 ?k3 ?k4 ?k5 ?_; (case k1 => k_asm); (case k2 => k_asm); (case k3 => exact News.isList (by k_asm) (by k_mem)); (case k5 => exact rfl); (case k4 => (simp only [List.size_toArray]; (have hq9 := IntsAre.length (by assumption)); omega)); k_whole); intro D' h' F' N' l1; (try k_lt l1); (try k_sweep))) | (have hNo9 := NoOwn.mk; walk1))) | ((fail_if_success (first | (first | (with_reducible show wpAny _ _ (exec (Stmt.While _ _ _ _) _) _ _ _) | (with_reducible show wpAny _ _ (pyIter _) (fun it s₂ => LoopAtV _ _ _ _ _ _ _ _ _ it s₂) _ _) | (with_reducible show wpAny _ _ (pyIter _) (fun it s₂ => PairAt3 _ _ _ _ _ _ _ _ _ _ it s₂) _ _)))); (first | walk1 | (dsimp only; walk1) | (leave1; try dsimp only)))))
  · exact (parse_head h5 h3 (by assumption)).elim
  · exact cb_retS hret (parse_nil h5 (by assumption)) (by assumption) (by assumption)
  · (k_with "state" => exact ⟨by omega, by omega, by (first | omega | (simp only [lit0, S_len] at *; simp)), by first | exact PI_init | exact PI_quote (by assumption) (by omega) (by omega) (by assumption) (by assumption) | exact PI_plain (by assumption) (by omega) (by omega) (by assumption)⟩)
    k_while (fun _ i d => 5 ≤ i ∧ i ≤ (x.length : Int) ∧ (d.length : Int) ≤ i ∧ PI x i d) (fun _ i _ => (x.length - i.toNat)) "i" "dirname"
    (repeat' (first | ((with_reducible rename NoOwn => hNo9); clear hNo9) | (k_unfold; (try dsimp only)) | ((with_reducible refine Own.mk ?_); (first | ((k_here; (with_reducible show wpAny _ _ (subscriptTail _ _ (Value.ref _) (Value.int _ _)) _ _ _); k_dflt (refine' item_anyT ?k1 ?k2 ?k3 ?k4 ?k5 ?_ ?k6; (case k1 => exact News.isTup (by k_asm) (by k_mem)); (case k2 => with_reducible assumption); (case k3 => omega); (case k4 => omega); (case k5 => omega); (case k6 => with_unfolding_all rfl); k_whole); intro _)) | ((k_here; (with_reducible show wpAny _ _ (call (Value.builtin "len") [Value.ref _]) _ _ _); k_dflt (refine' len_tupI ?k1 ?k2 ?k3 ?_; (case k1 => exact News.isTup (by k_asm) (by k_mem)); (case k2 => with_reducible assumption); (case k3 => omega); k_whole))) | ((k_here; (with_reducible show wpAny _ _ (call (Value.type _) [Value.ref _]) _ _ _); k_dflt (refine' kde_tupleOf ?k1 ?k2 ?k3 ?k4 ?k5 ?_; (case k1 => k_asm); (case k2 => k_asm); (case k3 => exact News.isList (by k_asm) (by k_mem)); (case k5 => exact rfl); (case k4 => (simp only [List.size_toArray]; (have hq9 := IntsAre.length (by assumption)); omega)); k_whole); intro D' h' F' N' l1; (try k_lt l1); (try k_sweep))) | (have hNo9 := NoOwn.mk; walk1))) | ((fail_if_success (first | (first | (with_reducible show wpAny _ _ (exec (Stmt.While _ _ _ _) _) _ _ _) | (with_reducible show wpAny _ _ (pyIter _) (fun it s₂ => LoopAtV _ _ _ _ _ _ _ _ _ it s₂) _ _) | (with_reducible show wpAny _ _ (pyIter _) (fun it s₂ => PairAt3 _ _ _ _ _ _ _ _ _ _ it s₂) _ _)))); (first | walk1 | (dsimp only; walk1) | (leave1; try dsimp only)))))
    all_goals first
      | exact cb_retS hret (parse_go h5 (by assumption) (PI_end0 (by assumption) (by assumption))) (by assumption) (by assumption)
      | exact cb_retS hret (parse_go h5 (by assumption) (PI_end1 (by assumption) (by omega) (by omega) (by assumption) (by omega))) (by assumption) (by assumption)
      | exact cb_retS hret (parse_go h5 (by assumption) (PI_end2 (by assumption) (by omega) (by assumption) (by omega) (by assumption))) (by assumption) (by assumption)
    k_with_none
section
local macro_rules | `(tactic| walk_at "binaryOp Add bytes bytes") => `(tactic| walk_at "own")
theorem int2ap_ok {w : World} {p : Program} {loose : List Str} {mean : ExcName → Option Value} {mg mb : Str → Option Value} {dp un : Nat} {gd : Option (List Code)} {cn : Str} {cs : Scope} {a : Addr} {ccd : Value} {cl : List (Str × Addr)} {outer : List Env} {A₀ : Around} {base h₀ : Heap} {L : Addr} {m : Str → Option Value} {news : List (Addr × Obj)} {s : Shared} {Q E : Value → Shared → Prop}
    (B : Below A₀ base outer h₀) (F : Fr h₀ L s.heap m) (X : (hd2.heap_39 w.params).In h₀) (N : News h₀ L s.heap news) (T : Top p loose mean mg mb h₀) (hk : cs.kind = .function) (hd : dp + 20 < recursionLimit) (hu : un + 200 < cLine)
    {n : Int} {tn : Tok} (hn : n.natAbs < 2 ^ 60)
    (hret : ∀ (t : Tok) (h' : Heap) (tk' : Nat), Fr h₀ L h' m → News h₀ L h' news → Q (.bytes (apF n.natAbs) t) { s with heap := h', toks := tk' }) :
    wpAny (model PySem.Challenge.rw_xb0022_02.row.prog w) (ktrTop dp un gd cn cs L a ccd cl outer) (call (.ref 126) [.int n tn]) Q E s := by
  revert X; k_fill; intro X
  refine wpAny_call ?_
  k_dflt cell_enter
  (repeat' (first | ((with_reducible rename NoOwn => hNo9); clear hNo9) | (k_unfold; (try dsimp only)) | ((with_reducible refine Own.mk ?_); (first | (((with_reducible show wpAny _ _ (binaryOp _ (Value.bytes #[_] _) (Value.bytes _ _)) _ _ _); (refine KBy.add_bytes (by simp only [List.size_toArray, List.length_cons, List.length_nil]; omega) ?_); intro _ _)) | ((k_here; (with_reducible show wpAny _ _ (subscriptTail _ (Expr.Slice _ _ none _) (Value.bytes _ _) (Value.ref _)) _ _ _); (with_reducible rename Fr _ _ _ _ => F'); (with_reducible rename News _ _ _ _ => N'); (refine ap_slice (s := ⟨_, _, _, _, _⟩) F' N' (by assumption) ?_); intro _ _ _ _ _)) | ((k_here; (with_reducible show wpAny _ _ (subscriptTail _ _ (Value.ref _) (Value.int _ _)) _ _ _); k_dflt (refine' item_anyT ?k1 ?k2 ?k3 ?k4 ?k5 ?_ ?k6; (case k1 => exact News.isTup (by k_asm) (by k_mem)); (case k2 => with_reducible assumption); (case k3 => omega); (case k4 => omega); (case k5 => omega); (case k6 => with_unfolding_all rfl); k_whole); intro _)) | ((k_here; (with_reducible show wpAny _ _ (call (Value.builtin "len") [Value.ref _]) _ _ _); k_dflt (refine' len_tupI ?k1 ?k2 ?k3 ?_; (case k1 => exact News.isTup (by k_asm) (by k_mem)); (case k2 => with_reducible assumption); (case k3 => omega); k_whole))) | ((k_here; (with_reducible show wpAny _ _ (call (Value.type _) [Value.ref _]) _ _ _); k_dflt (refine' kde_tupleOf ?k1 ?k2 ?k3 ?k4 ?k5 ?_; (case k1 => k_asm); (case k2 => k_asm); (case k3 => exact News.isList (by k_asm) (by k_mem)); (case k5 => exact rfl); (case k4 => (simp only [List.size_toArray]; (have hq9 := IntsAre.length (by assumption)); omega)); k_whole); intro D' h' F' N' l1; (try k_lt l1); (try k_sweep))) | (have hNo9 := NoOwn.mk; walk1))) | ((fail_if_success (first | (first | (with_reducible show wpAny _ _ (exec (Stmt.While _ _ _ _) _) _ _ _) | (with_reducible show wpAny _ _ (pyIter _) (fun it s₂ => LoopAtV _ _ _ _ _ _ _ _ _ it s₂) _ _) | (with_reducible show wpAny _ _ (pyIter _) (fun it s₂ => PairAt3 _ _ _ _ _ _ _ _ _ _ it s₂) _ _)))); (first | walk1 | (dsimp only; walk1) | (leave1; try dsimp only)))))
  (k_with "state" => first | exact AI_init | exact ⟨(fdiv_lt (by assumption) (by assumption)).1, by (have := AI_size (by assumption) (by assumption) (by assumption) hn); (simp only [Array.size_append, List.size_toArray, List.length_cons, List.length_nil]; omega), AI_step (by assumption) (by assumption) (by assumption)⟩)
  (k_with "measure" => (have q := fdiv_lt (by assumption) (by assumption); omega))
  k_while (fun _ i d => 0 ≤ i ∧ (d.size : Int) ≤ 16 ∧ AI n.natAbs i d) (fun _ i _ => i.toNat) "num" "val"
  (repeat' (first | ((with_reducible rename NoOwn => hNo9); clear hNo9) | (k_unfold; (try dsimp only)) | ((with_reducible refine Own.mk ?_); (first | (((with_reducible show wpAny _ _ (binaryOp _ (Value.bytes #[_] _) (Value.bytes _ _)) _ _ _); (refine KBy.add_bytes (by simp only [List.size_toArray, List.length_cons, List.length_nil]; omega) ?_); intro _ _)) | ((k_here; (with_reducible show wpAny _ _ (subscriptTail _ (Expr.Slice _ _ none _) (Value.bytes _ _) (Value.ref _)) _ _ _); (with_reducible rename Fr _ _ _ _ => F'); (with_reducible rename News _ _ _ _ => N'); (refine ap_slice (s := ⟨_, _, _, _, _⟩) F' N' (by assumption) ?_); intro _ _ _ _ _)) | ((k_here; (with_reducible show wpAny _ _ (subscriptTail _ _ (Value.ref _) (Value.int _ _)) _ _ _); k_dflt (refine' item_anyT ?k1 ?k2 ?k3 ?k4 ?k5 ?_ ?k6; (case k1 => exact News.isTup (by k_asm) (by k_mem)); (case k2 => with_reducible assumption); (case k3 => omega); (case k4 => omega); (case k5 => omega); (case k6 => with_unfolding_all rfl); k_whole); intro _)) | ((k_here; (with_reducible show wpAny _ _ (call (Value.builtin "len") [Value.ref _]) _ _ _); k_dflt (refine' len_tupI ?k1 ?k2 ?k3 ?_; (case k1 => exact News.isTup (by k_asm) (by k_mem)); (case k2 => with_reducible assumption); (case k3 => omega); k_whole))) | ((k_here; (with_reducible show wpAny _ _ (call (Value.type _) [Value.ref _]) _ _ _); k_dflt (refine' kde_tupleOf ?k1 ?k2 ?k3 ?k4 ?k5 ?_; (case k1 => k_asm); (case k2 => k_asm); (case k3 => exact News.isList (by k_asm) (by k_mem)); (case k5 => exact rfl); (case k4 => (simp only [List.size_toArray]; (have hq9 := IntsAre.length (by assumption)); omega)); k_whole); intro D' h' F' N' l1; (try k_lt l1); (try k_sweep))) | (have hNo9 := NoOwn.mk; walk1))) | ((fail_if_success (first | (first | (with_reducible show wpAny _ _ (exec (Stmt.While _ _ _ _) _) _ _ _) | (with_reducible show wpAny _ _ (pyIter _) (fun it s₂ => LoopAtV _ _ _ _ _ _ _ _ _ it s₂) _ _) | (with_reducible show wpAny _ _ (pyIter _) (fun it s₂ => PairAt3 _ _ _ _ _ _ _ _ _ _ it s₂) _ _)))); (first | walk1 | (dsimp only; walk1) | (leave1; try dsimp only)))))
  · exact cb_retBy hret (AI_done (by assumption) (by first | assumption | omega)) (by assumption) (by assumption)
  k_with_none
end
theorem draws_ok {w : World} {p : Program} {loose : List Str} {mean : ExcName → Option Value} {mg mb : Str → Option Value} {dp un : Nat} {gd : Option (List Code)} {cn : Str} {cs : Scope} {a : Addr} {ccd : Value} {cl : List (Str × Addr)} {outer : List Env} {A₀ : Around} {base h₀ : Heap} {L : Addr} {m : Str → Option Value} {news : List (Addr × Obj)} {s : Shared} {Q E : Value → Shared → Prop}
    (B : Below A₀ base outer h₀) (F : Fr h₀ L s.heap m) (X : (hd2.heap_39 w.params).In h₀) (N : News h₀ L s.heap news) (T : Top p loose mean mg mb h₀) (hk : cs.kind = .function) (hd : dp + 20 < recursionLimit) (hu : un + 200 < cLine)
    {l : Addr} {vs : List Value} {ns : List Int} (hl : base.IsList l vs.toArray) (hi : IntsAre vs ns) (hlen : ns.length ≤ 63)
    (hret : ∀ (r : Addr) (d1 d2 d3 : Int) (td1 td2 td3 : Tok) (h' : Heap) (tk' : Nat), (0 ≤ d1 ∧ d1 ≤ 64000000) → (0 ≤ d2 ∧ d2 ≤ 64000000) → (0 ≤ d3 ∧ d3 ≤ 64000000) → (∀ p ∈ news, p.1 < r) → Fr h₀ L h' m → News h₀ L h' ((r, W.listOf #[.int d1 td1, .int d2 td2, .int d3 td3] 0) :: news) → Q (.ref r) { s with heap := h', toks := tk' }) :
    wpAny (model PySem.Challenge.rw_xb0022_02.row.prog w) (ktrTop dp un gd cn cs L a ccd cl outer) (call (.ref 133) [.ref l]) Q E s := by
  revert X; k_fill; intro X
  refine wpAny_call ?_
  k_dflt cell_enter
  (repeat' (first | ((with_reducible rename NoOwn => hNo9); clear hNo9) | (k_unfold; (try dsimp only)) | ((with_reducible refine Own.mk ?_); (first | ((k_here; (with_reducible show wpAny _ _ (subscriptTail _ _ (Value.ref _) (Value.int _ _)) _ _ _); k_dflt (refine' item_anyT ?k1 ?k2 ?k3 ?k4 ?k5 ?_ ?k6; (case k1 => exact News.isTup (by k_asm) (by k_mem)); (case k2 => with_reducible assumption); (case k3 => omega); (case k4 => omega); (case k5 => omega); (case k6 => with_unfolding_all rfl); k_whole); intro _)) | ((k_here; (with_reducible show wpAny _ _ (call (Value.builtin "len") [Value.ref _]) _ _ _); k_dflt (refine' len_tupI ?k1 ?k2 ?k3 ?_; (case k1 => exact News.isTup (by k_asm) (by k_mem)); (case k2 => with_reducible assumption); (case k3 => omega); k_whole))) | ((k_here; (with_reducible show wpAny _ _ (call (Value.type _) [Value.ref _]) _ _ _); k_dflt (refine' kde_tupleOf ?k1 ?k2 ?k3 ?k4 ?k5 ?_; (case k1 => k_asm); (case k2 => k_asm); (case k3 => exact News.isList (by k_asm) (by k_mem)); (case k5 => exact rfl); (case k4 => (simp only [List.size_toArray]; (have hq9 := IntsAre.length (by assumption)); omega)); k_whole); intro D' h' F' N' l1; (try k_lt l1); (try k_sweep))) | (have hNo9 := NoOwn.mk; walk1))) | ((fail_if_success (first | (first | (with_reducible show wpAny _ _ (exec (Stmt.While _ _ _ _) _) _ _ _) | (with_reducible show wpAny _ _ (pyIter _) (fun it s₂ => LoopAtV _ _ _ _ _ _ _ _ _ it s₂) _ _) | (with_reducible show wpAny _ _ (pyIter _) (fun it s₂ => PairAt3 _ _ _ _ _ _ _ _ _ _ it s₂) _ _)))); (first | walk1 | (dsimp only; walk1) | (leave1; try dsimp only)))))
  with_reducible rename PairSrcL _ _ _ _ _ _ _ _ _ _ _ _ => S2
  refine pair_inv (σ := List Value × List Int) (fun c => (_, W.listOf c.1.toArray 0) :: _) (fun i c => IntsAre c.1 c.2 ∧ c.2.length = 3 ∧ ∀ x ∈ c.2, 0 ≤ x ∧ x ≤ 3000 + 1000000 * (i : Int)) ⟨_, [2104, 1063, 1366]⟩ S2 (fun _ => rfl) ⟨by (repeat (first | exact IntsAre.nil | refine IntsAre.cons _ _ ?_)), rfl, by simp⟩ ?_ ?_
  · clear S2
    have hMk := kstMark
    rintro i n t v ⟨vs', ns'⟩ h tk own ha ⟨tn, rfl⟩ ⟨hi', hl', hb'⟩ hoff F' N'
    simp only [List.cons_append] at hi' hl' hb' N'
    k_sweep
    (repeat' (first | ((with_reducible rename NoOwn => hNo9); clear hNo9) | (k_unfold; (try dsimp only)) | ((with_reducible refine Own.mk ?_); (first | ((k_here; (with_reducible show wpAny _ _ (subscriptTail _ _ (Value.ref _) (Value.int _ _)) _ _ _); k_dflt (refine' item_anyT ?k1 ?k2 ?k3 ?k4 ?k5 ?_ ?k6; (case k1 => exact News.isTup (by k_asm) (by k_mem)); (case k2 => with_reducible assumption); (case k3 => omega); (case k4 => omega); (case k5 => omega); (case k6 => with_unfolding_all rfl); k_whole); intro _)) | ((k_here; (with_reducible show wpAny _ _ (call (Value.builtin "len") [Value.ref _]) _ _ _); k_dflt (refine' len_tupI ?k1 ?k2 ?k3 ?_; (case k1 => exact News.isTup (by k_asm) (by k_mem)); (case k2 => with_reducible assumption); (case k3 => omega); k_whole))) | ((k_here; (with_reducible show wpAny _ _ (call (Value.type _) [Value.ref _]) _ _ _); k_dflt (refine' kde_tupleOf ?k1 ?k2 ?k3 ?k4 ?k5 ?_; (case k1 => k_asm); (case k2 => k_asm); (case k3 => exact News.isList (by k_asm) (by k_mem)); (case k5 => exact rfl); (case k4 => (simp only [List.size_toArray]; (have hq9 := IntsAre.length (by assumption)); omega)); k_whole); intro D' h' F' N' l1; (try k_lt l1); (try k_sweep))) | (have hNo9 := NoOwn.mk; walk1))) | ((fail_if_success (first | (first | (with_reducible show wpAny _ _ (exec (Stmt.While _ _ _ _) _) _ _ _) | (with_reducible show wpAny _ _ (pyIter _) (fun it s₂ => LoopAtV _ _ _ _ _ _ _ _ _ it s₂) _ _) | (with_reducible show wpAny _ _ (pyIter _) (fun it s₂ => PairAt3 _ _ _ _ _ _ _ _ _ _ it s₂) _ _)))); (first | walk1 | (dsimp only; walk1) | (leave1; try dsimp only)))))
    exact PairPost.intro ⟨_, _⟩ (by assumption) (by assumption) (by intro z h1 h2; simp only [if_neg h1, if_neg h2]) (by intro p hp; kst_mem) (by intro p hp; kst_mem) ⟨by assumption, by simp only [List.length_set]; exact hl', draws_turn (by decide) (by omega) hb'⟩
  · clear S2
    have hMk := kstMark
    rintro ⟨vs', ns'⟩ h tk u ⟨hi', hl', hb'⟩ F' N'
    dsimp only at hi' hl' hb' N'
    k_sweep
    (repeat' (first | ((with_reducible rename NoOwn => hNo9); clear hNo9) | (k_unfold; (try dsimp only)) | ((with_reducible refine Own.mk ?_); (first | ((k_here; (with_reducible show wpAny _ _ (subscriptTail _ _ (Value.ref _) (Value.int _ _)) _ _ _); k_dflt (refine' item_anyT ?k1 ?k2 ?k3 ?k4 ?k5 ?_ ?k6; (case k1 => exact News.isTup (by k_asm) (by k_mem)); (case k2 => with_reducible assumption); (case k3 => omega); (case k4 => omega); (case k5 => omega); (case k6 => with_unfolding_all rfl); k_whole); intro _)) | ((k_here; (with_reducible show wpAny _ _ (call (Value.builtin "len") [Value.ref _]) _ _ _); k_dflt (refine' len_tupI ?k1 ?k2 ?k3 ?_; (case k1 => exact News.isTup (by k_asm) (by k_mem)); (case k2 => with_reducible assumption); (case k3 => omega); k_whole))) | ((k_here; (with_reducible show wpAny _ _ (call (Value.type _) [Value.ref _]) _ _ _); k_dflt (refine' kde_tupleOf ?k1 ?k2 ?k3 ?k4 ?k5 ?_; (case k1 => k_asm); (case k2 => k_asm); (case k3 => exact News.isList (by k_asm) (by k_mem)); (case k5 => exact rfl); (case k4 => (simp only [List.size_toArray]; (have hq9 := IntsAre.length (by assumption)); omega)); k_whole); intro D' h' F' N' l1; (try k_lt l1); (try k_sweep))) | (have hNo9 := NoOwn.mk; walk1))) | ((fail_if_success (first | (first | (with_reducible show wpAny _ _ (exec (Stmt.While _ _ _ _) _) _ _ _) | (with_reducible show wpAny _ _ (pyIter _) (fun it s₂ => LoopAtV _ _ _ _ _ _ _ _ _ it s₂) _ _) | (with_reducible show wpAny _ _ (pyIter _) (fun it s₂ => PairAt3 _ _ _ _ _ _ _ _ _ _ it s₂) _ _)))); (first | walk1 | (dsimp only; walk1) | (leave1; try dsimp only)))))
    obtain ⟨d1, d2, d3, td1, td2, td3, rfl, rfl⟩ := three_ints hi' hl'
    exact hret _ _ _ _ _ _ _ _ _ ⟨(hb' d1 (by simp)).1, by have := (hb' d1 (by simp)).2; omega⟩ ⟨(hb' d2 (by simp)).1, by have := (hb' d2 (by simp)).2; omega⟩ ⟨(hb' d3 (by simp)).1, by have := (hb' d3 (by simp)).2; omega⟩ (by assumption) (by assumption) (by assumption)
section
set_option pp.deepTerms false
set_option pp.deepTerms.threshold 6
set_option pp.maxSteps 3000
theorem ws_ok {w : World} {p : Program} {loose : List Str} {mean : ExcName → Option Value} {mg mb : Str → Option Value} {dp un : Nat} {gd : Option (List Code)} {cn : Str} {cs : Scope} {a : Addr} {ccd : Value} {cl : List (Str × Addr)} {outer : List Env} {A₀ : Around} {base h₀ : Heap} {L : Addr} {m : Str → Option Value} {news : List (Addr × Obj)} {s : Shared} {Q E : Value → Shared → Prop}
    (B : Below A₀ base outer h₀) (F : Fr h₀ L s.heap m) (X : (hd2.heap_39 w.params).In h₀) (N : News h₀ L s.heap news) (T : Top p loose mean mg mb h₀) (hk : cs.kind = .function) (hd : dp + 20 < recursionLimit) (hu : un + 200 < cLine)
    {x : Str} {tx : Tok} (hx : x.length ≤ 100)
    (hret : ∀ (a d tn tc : Addr) (vs : List Value) (t : WTok) (h' : Heap) (tk' : Nat), IntsAre vs (wsOf x).ns → WSB x → (∀ p ∈ news, p.1 < d) → @LT.lt Nat _ d a → @LT.lt Nat _ a tc → @LT.lt Nat _ tc tn → Fr h₀ L h' m → News h₀ L h' (wsLed w 83 x a d tn tc vs t ++ news) → Q (.ref a) { s with heap := h', toks := tk' }) :
    wpAny (model PySem.Challenge.rw_xb0022_02.row.prog w) (ktrTop dp un gd cn cs L a ccd cl outer) (call (.ref 83) [.str x tx]) Q E s := by
  revert X; k_fill; intro X
  have hMk := kstMark
  ((k_dflt (refine' call_cls ?k1 ?k2 ?k3 ?k4 ?k5 ?k6 ?_; (case k1 => k_asm); (case k2 => k_asm); (case k3 => k_asm); (case k4 => k_is); (case k5 => k_is); (case k6 => k_is); k_whole; intro x' d' h' F' N' l1 l2; (try k_lt l1); (try k_lt2 l2); (try k_sweep); cell_enter)))
  (repeat' (first | ((with_reducible rename NoOwn => hNo9); clear hNo9) | (k_unfold; (try dsimp only)) | ((with_reducible refine Own.mk ?_); (first | ((k_here; (with_reducible show wpAny _ _ (subscriptTail _ _ (Value.ref _) (Value.int _ _)) _ _ _); k_dflt (refine' item_anyT ?k1 ?k2 ?k3 ?k4 ?k5 ?_ ?k6; (case k1 => exact News.isTup (by k_asm) (by k_mem)); (case k2 => with_reducible assumption); (case k3 => omega); (case k4 => omega); (case k5 => omega); (case k6 => with_unfolding_all rfl); k_whole); intro _)) | ((k_here; (with_reducible show wpAny _ _ (call (Value.builtin "len") [Value.ref _]) _ _ _); k_dflt (refine' len_tupI ?k1 ?k2 ?k3 ?_; (case k1 => exact News.isTup (by k_asm) (by k_mem)); (case k2 => with_reducible assumption); (case k3 => omega); k_whole))) | ((k_here; (with_reducible show wpAny _ _ (call (Value.type _) [Value.ref _]) _ _ _); k_dflt (refine' kde_tupleOf ?k1 ?k2 ?k3 ?k4 ?k5 ?_; (case k1 => k_asm); (case k2 => k_asm); (case k3 => exact News.isList (by k_asm) (by k_mem)); (case k5 => exact rfl); (case k4 => (simp only [List.size_toArray]; (have hq9 := IntsAre.length (by assumption)); omega)); k_whole); intro D' h' F' N' l1; (try k_lt l1); (try k_sweep))) | (have hNo9 := NoOwn.mk; walk1))) | ((fail_if_success (first | (first | (with_reducible show wpAny _ _ (exec (Stmt.While _ _ _ _) _) _ _ _) | (with_reducible show wpAny _ _ (pyIter _) (fun it s₂ => LoopAtV _ _ _ _ _ _ _ _ _ it s₂) _ _) | (with_reducible show wpAny _ _ (pyIter _) (fun it s₂ => PairAt3 _ _ _ _ _ _ _ _ _ _ it s₂) _ _)))); (first | walk1 | (dsimp only; walk1) | (leave1; try dsimp only)))))
  with_reducible rename Fr _ _ _ _ => lF'
  with_reducible rename News _ _ _ _ => lN'
  with_unfolding_all refine' free_str1 (σ := WSt) (fun c => c.l) (fun c => W.listOf c.vs.toArray c.k) (fun c => [(Str.ofString "b", .int c.b c.tb), (Str.ofString "n", .int c.n c.tn), (Str.ofString "nt", .int c.nt c.tnt), (Str.ofString "count", .ref c.l)]) [] (WSI x) (WSD x) ⟨_, [], 0, 0, 0, 0, _, _, _⟩ (by rfl) lF' lN' ?kl ?kk (WSI.init x) ?turn (fun c h => WSI.done hx h) ?done
  case kl => simp only [AllLt, and_true]; omega
  case kk => kst_all
  case turn =>
    clear lF' lN'
    rintro ⟨l, vs, kk, b, n, nt, tb, tn, tnt⟩ i k t u h tk own hk' hoff hlt hI F' N'
    have hI' := hI
    obtain ⟨ns, h1, h2, h3, h4, h5, h6, h7⟩ := hI'
    simp only [kstB, AllLt, and_true, List.cons_append, List.nil_append, List.map_cons, List.map_nil] at h1 h2 h3 h4 h5 h6 h7 F' N' hlt hoff
    k_sweep
    have hi100 : (i : Int) < 100 := by
      have q := (List.getElem?_eq_some_iff.mp hk').1
      simp at q
      simp only [PySem.Str.length] at hx
      omega
    (repeat' (first | ((with_reducible rename NoOwn => hNo9); clear hNo9) | (k_unfold; (try dsimp only)) | ((with_reducible refine Own.mk ?_); (first | ((k_here; (with_reducible show wpAny _ _ (subscriptTail _ _ (Value.ref _) (Value.int _ _)) _ _ _); k_dflt (refine' item_anyT ?k1 ?k2 ?k3 ?k4 ?k5 ?_ ?k6; (case k1 => exact News.isTup (by k_asm) (by k_mem)); (case k2 => with_reducible assumption); (case k3 => omega); (case k4 => omega); (case k5 => omega); (case k6 => with_unfolding_all rfl); k_whole); intro _)) | ((k_here; (with_reducible show wpAny _ _ (call (Value.builtin "len") [Value.ref _]) _ _ _); k_dflt (refine' len_tupI ?k1 ?k2 ?k3 ?_; (case k1 => exact News.isTup (by k_asm) (by k_mem)); (case k2 => with_reducible assumption); (case k3 => omega); k_whole))) | ((k_here; (with_reducible show wpAny _ _ (call (Value.type _) [Value.ref _]) _ _ _); k_dflt (refine' kde_tupleOf ?k1 ?k2 ?k3 ?k4 ?k5 ?_; (case k1 => k_asm); (case k2 => k_asm); (case k3 => exact News.isList (by k_asm) (by k_mem)); (case k5 => exact rfl); (case k4 => (simp only [List.size_toArray]; (have hq9 := IntsAre.length (by assumption)); omega)); k_whole); intro D' h' F' N' l1; (try k_lt l1); (try k_sweep))) | (have hNo9 := NoOwn.mk; walk1))) | ((fail_if_success (first | (first | (with_reducible show wpAny _ _ (exec (Stmt.While _ _ _ _) _) _ _ _) | (with_reducible show wpAny _ _ (pyIter _) (fun it s₂ => LoopAtV _ _ _ _ _ _ _ _ _ it s₂) _ _) | (with_reducible show wpAny _ _ (pyIter _) (fun it s₂ => PairAt3 _ _ _ _ _ _ _ _ _ _ it s₂) _ _)))); (first | walk1 | (dsimp only; walk1) | (leave1; try dsimp only)))))
    all_goals (((try dsimp only); (refine' FEnd.intro (⟨_, _, _, _, _, _, _, _, _⟩ : WSt) ?kF ?kN ?kl ?ko ?kf ?kk ?km ?_); (case kF => assumption); (case kk => kst_all); (case km => kst_same); (case kN => assumption); (case kl => kst_in); (case ko => (intro p hp; kst_mem)); (case kf => ((rename OwnOff _ _ => hoff9); exact off_cons (by k_all) (off_of2 hoff9)))))
    all_goals (refine ⟨by (simp only [AllLt]; refine ⟨by omega, by omega, by omega, ?_⟩; first | exact hlt.2.2.2 | (rename (_ < _ ∧ _ < _ ∧ _ < _ ∧ _ < _ ∧ _ < _ ∧ _ < _ ∧ AllLt _ _) => q; exact allLt_left q.2.2.2.2.2.2)), ?_⟩)
    all_goals (first | exact WSI.blank hk' (by assumption) hI | exact WSI.tab hk' (by assumption) h1 hI (by assumption) (wsBump_in (by assumption)) | exact WSI.tab hk' (by assumption) h1 hI (by assumption) (wsBump_out (by assumption)) | exact WSI.stop hi100 hk' (by assumption) (by assumption) hI)
  case done =>
    clear lF' lN'
    rintro ⟨l, vs, kk, b, n, nt, tb, tn, tnt⟩ u h tk hlt ⟨h1, h2, h3, h4, h5, h6, h7, h8, h9⟩ F' N'
    dsimp only at h2 h3 h4
    subst h2 h3 h4
    simp only [kstB, AllLt, and_true, List.cons_append, List.nil_append, List.map_cons, List.map_nil] at h1 h5 h6 h7 h8 h9 F' N' hlt
    k_sweep
    (repeat' (first | ((with_reducible rename NoOwn => hNo9); clear hNo9) | (k_unfold; (try dsimp only)) | ((with_reducible refine Own.mk ?_); (first | ((k_here; (with_reducible show wpAny _ _ (subscriptTail _ _ (Value.ref _) (Value.int _ _)) _ _ _); k_dflt (refine' item_anyT ?k1 ?k2 ?k3 ?k4 ?k5 ?_ ?k6; (case k1 => exact News.isTup (by k_asm) (by k_mem)); (case k2 => with_reducible assumption); (case k3 => omega); (case k4 => omega); (case k5 => omega); (case k6 => with_unfolding_all rfl); k_whole); intro _)) | ((k_here; (with_reducible show wpAny _ _ (call (Value.builtin "len") [Value.ref _]) _ _ _); k_dflt (refine' len_tupI ?k1 ?k2 ?k3 ?_; (case k1 => exact News.isTup (by k_asm) (by k_mem)); (case k2 => with_reducible assumption); (case k3 => omega); k_whole))) | ((k_here; (with_reducible show wpAny _ _ (call (Value.type _) [Value.ref _]) _ _ _); k_dflt (refine' kde_tupleOf ?k1 ?k2 ?k3 ?k4 ?k5 ?_; (case k1 => k_asm); (case k2 => k_asm); (case k3 => exact News.isList (by k_asm) (by k_mem)); (case k5 => exact rfl); (case k4 => (simp only [List.size_toArray]; (have hq9 := IntsAre.length (by assumption)); omega)); k_whole); intro D' h' F' N' l1; (try k_lt l1); (try k_sweep))) | (have hNo9 := NoOwn.mk; walk1))) | ((fail_if_success (first | (first | (with_reducible show wpAny _ _ (exec (Stmt.While _ _ _ _) _) _ _ _) | (with_reducible show wpAny _ _ (pyIter _) (fun it s₂ => LoopAtV _ _ _ _ _ _ _ _ _ it s₂) _ _) | (with_reducible show wpAny _ _ (pyIter _) (fun it s₂ => PairAt3 _ _ _ _ _ _ _ _ _ _ it s₂) _ _)))); (first | walk1 | (dsimp only; walk1) | (leave1; try dsimp only)))))
    have hb : WSB x := ⟨h5, h6, h7, h8, h9⟩
    (with_reducible rename News h₀ _ _ _ => nE)
    refine' hret _ _ _ _ _ ⟨_, _, _, _, _, _, _, _, _⟩ _ _ h1 hb ?kl ?ka ?kb ?kc ?kF ?kN
    case kN => exact kst_newsOf nE (by kst_in)
    case kF => assumption
    case kl => assumption
    case ka => omega
    case kb => omega
    case kc => omega
end
theorem il_ok {w : World} {p : Program} {loose : List Str} {mean : ExcName → Option Value} {mg mb : Str → Option Value} {dp un : Nat} {gd : Option (List Code)} {cn : Str} {cs : Scope} {a : Addr} {ccd : Value} {cl : List (Str × Addr)} {outer : List Env} {A₀ : Around} {base h₀ : Heap} {L : Addr} {m : Str → Option Value} {news : List (Addr × Obj)} {s : Shared} {Q E : Value → Shared → Prop}
    (B : Below A₀ base outer h₀) (F : Fr h₀ L s.heap m) (X : (hd2.heap_39 w.params).In h₀) (N : News h₀ L s.heap news) (T : Top p loose mean mg mb h₀) (hk : cs.kind = .function) (hd : dp + 20 < recursionLimit) (hu : un + 200 < cLine)
    {x : Str} {o d tn tc : Addr} {vs : List Value} {t : WTok} (W : News h₀ L s.heap (wsLed w 83 x o d tn tc vs t)) (hv : IntsAre vs (wsOf x).ns) (hb : WSB x) {k : Int} {tk : Tok} (hk0 : 1 ≤ k) (hk1 : k ≤ 1000)
    (hret : ∀ (t' : Tok) (h' : Heap) (tk' : Nat), Fr h₀ L h' m → News h₀ L h' news → Q (.int (ilF x k) t') { s with heap := h', toks := tk' }) :
    wpAny (model PySem.Challenge.rw_xb0022_02.row.prog w) (ktrTop dp un gd cn cs L a ccd cl outer) (call (.ref 52) [.ref o, .int k tk]) Q E s := by
  revert X; k_fill; intro X
  have hMk := kstMark
  obtain ⟨hb1, hb2, hb3, hb4, hb5⟩ := hb
  have N0 : News h₀ L s.heap ((o, instObj 83 d) :: (d, dictOf (wsDict w x tn t) 5) :: (tn, tupOf [.ref tc, .int (wsOf x).b t.v4]) :: (tc, tupOf vs) :: news) := by
    intro p hp
    rcases List.mem_append.mp (show p ∈ wsLed w 83 x o d tn tc vs t ++ news from hp) with h | h
    · exact W p h
    · exact N p h
  clear N
  refine wpAny_call ?_
  k_dflt cell_enter
  (repeat' (first | ((with_reducible rename NoOwn => hNo9); clear hNo9) | (k_unfold; (try dsimp only)) | ((with_reducible refine Own.mk ?_); (first | ((k_here; (with_reducible show wpAny _ _ (subscriptTail _ _ (Value.ref _) (Value.int _ _)) _ _ _); k_dflt (refine' item_anyT ?k1 ?k2 ?k3 ?k4 ?k5 ?_ ?k6; (case k1 => exact News.isTup (by k_asm) (by k_mem)); (case k2 => with_reducible assumption); (case k3 => omega); (case k4 => omega); (case k5 => omega); (case k6 => with_unfolding_all rfl); k_whole); intro _)) | ((k_here; (with_reducible show wpAny _ _ (call (Value.builtin "len") [Value.ref _]) _ _ _); k_dflt (refine' len_tupI ?k1 ?k2 ?k3 ?_; (case k1 => exact News.isTup (by k_asm) (by k_mem)); (case k2 => with_reducible assumption); (case k3 => omega); k_whole))) | ((k_here; (with_reducible show wpAny _ _ (call (Value.type _) [Value.ref _]) _ _ _); k_dflt (refine' kde_tupleOf ?k1 ?k2 ?k3 ?k4 ?k5 ?_; (case k1 => k_asm); (case k2 => k_asm); (case k3 => exact News.isList (by k_asm) (by k_mem)); (case k5 => exact rfl); (case k4 => (simp only [List.size_toArray]; (have hq9 := IntsAre.length (by assumption)); omega)); k_whole); intro D' h' F' N' l1; (try k_lt l1); (try k_sweep))) | (have hNo9 := NoOwn.mk; walk1))) | ((fail_if_success (first | (first | (with_reducible show wpAny _ _ (exec (Stmt.While _ _ _ _) _) _ _ _) | (with_reducible show wpAny _ _ (pyIter _) (fun it s₂ => LoopAtV _ _ _ _ _ _ _ _ _ it s₂) _ _) | (with_reducible show wpAny _ _ (pyIter _) (fun it s₂ => PairAt3 _ _ _ _ _ _ _ _ _ _ it s₂) _ _)))); (first | walk1 | (dsimp only; walk1) | (leave1; try dsimp only)))))
  (k_with "state" => first | exact il_start | exact il_turn (by assumption) (by assumption) (by assumption) (by assumption) (by assumption) (by omega))
  k_state (fun pre il => il = ilG (wsOf x).ns k pre ∧ 0 ≤ il ∧ il ≤ 10000 * (pre.length : Int)) "il"
  · have hg := getD_bound (by decide) hb5 kN.toNat
    (repeat' (first | ((with_reducible rename NoOwn => hNo9); clear hNo9) | (k_unfold; (try dsimp only)) | ((with_reducible refine Own.mk ?_); (first | ((k_here; (with_reducible show wpAny _ _ (subscriptTail _ _ (Value.ref _) (Value.int _ _)) _ _ _); k_dflt (refine' item_anyT ?k1 ?k2 ?k3 ?k4 ?k5 ?_ ?k6; (case k1 => exact News.isTup (by k_asm) (by k_mem)); (case k2 => with_reducible assumption); (case k3 => omega); (case k4 => omega); (case k5 => omega); (case k6 => with_unfolding_all rfl); k_whole); intro _)) | ((k_here; (with_reducible show wpAny _ _ (call (Value.builtin "len") [Value.ref _]) _ _ _); k_dflt (refine' len_tupI ?k1 ?k2 ?k3 ?_; (case k1 => exact News.isTup (by k_asm) (by k_mem)); (case k2 => with_reducible assumption); (case k3 => omega); k_whole))) | ((k_here; (with_reducible show wpAny _ _ (call (Value.type _) [Value.ref _]) _ _ _); k_dflt (refine' kde_tupleOf ?k1 ?k2 ?k3 ?k4 ?k5 ?_; (case k1 => k_asm); (case k2 => k_asm); (case k3 => exact News.isList (by k_asm) (by k_mem)); (case k5 => exact rfl); (case k4 => (simp only [List.size_toArray]; (have hq9 := IntsAre.length (by assumption)); omega)); k_whole); intro D' h' F' N' l1; (try k_lt l1); (try k_sweep))) | (have hNo9 := NoOwn.mk; walk1))) | ((fail_if_success (first | (first | (with_reducible show wpAny _ _ (exec (Stmt.While _ _ _ _) _) _ _ _) | (with_reducible show wpAny _ _ (pyIter _) (fun it s₂ => LoopAtV _ _ _ _ _ _ _ _ _ it s₂) _ _) | (with_reducible show wpAny _ _ (pyIter _) (fun it s₂ => PairAt3 _ _ _ _ _ _ _ _ _ _ it s₂) _ _)))); (first | walk1 | (dsimp only; walk1) | (leave1; try dsimp only)))))
    k_with_none
  · have hl := rangeKs_length k ((wsOf x).ns.length - k).toNat
    (repeat' (first | ((with_reducible rename NoOwn => hNo9); clear hNo9) | (k_unfold; (try dsimp only)) | ((with_reducible refine Own.mk ?_); (first | ((k_here; (with_reducible show wpAny _ _ (subscriptTail _ _ (Value.ref _) (Value.int _ _)) _ _ _); k_dflt (refine' item_anyT ?k1 ?k2 ?k3 ?k4 ?k5 ?_ ?k6; (case k1 => exact News.isTup (by k_asm) (by k_mem)); (case k2 => with_reducible assumption); (case k3 => omega); (case k4 => omega); (case k5 => omega); (case k6 => with_unfolding_all rfl); k_whole); intro _)) | ((k_here; (with_reducible show wpAny _ _ (call (Value.builtin "len") [Value.ref _]) _ _ _); k_dflt (refine' len_tupI ?k1 ?k2 ?k3 ?_; (case k1 => exact News.isTup (by k_asm) (by k_mem)); (case k2 => with_reducible assumption); (case k3 => omega); k_whole))) | ((k_here; (with_reducible show wpAny _ _ (call (Value.type _) [Value.ref _]) _ _ _); k_dflt (refine' kde_tupleOf ?k1 ?k2 ?k3 ?k4 ?k5 ?_; (case k1 => k_asm); (case k2 => k_asm); (case k3 => exact News.isList (by k_asm) (by k_mem)); (case k5 => exact rfl); (case k4 => (simp only [List.size_toArray]; (have hq9 := IntsAre.length (by assumption)); omega)); k_whole); intro D' h' F' N' l1; (try k_lt l1); (try k_sweep))) | (have hNo9 := NoOwn.mk; walk1))) | ((fail_if_success (first | (first | (with_reducible show wpAny _ _ (exec (Stmt.While _ _ _ _) _) _ _ _) | (with_reducible show wpAny _ _ (pyIter _) (fun it s₂ => LoopAtV _ _ _ _ _ _ _ _ _ it s₂) _ _) | (with_reducible show wpAny _ _ (pyIter _) (fun it s₂ => PairAt3 _ _ _ _ _ _ _ _ _ _ it s₂) _ _)))); (first | walk1 | (dsimp only; walk1) | (leave1; try dsimp only)))))
    (rename _ = ilG _ _ (rangeKs _ _) => hs)
    rw [hs]
    exact hret _ _ _ (by assumption) (by (first | assumption | ((with_reducible rename News _ _ _ _ => nE9); first | exact kst_newsOf nE9 (fun p hp => by kst_mem) | exact kst_newsOf nE9 (by kst_in))))
section
local macro_rules | `(tactic| walk_at "compareOp Eq int int") => `(tactic| walk_at "own")
theorem first_ok {w : World} {p : Program} {loose : List Str} {mean : ExcName → Option Value} {mg mb : Str → Option Value} {dp un : Nat} {gd : Option (List Code)} {cn : Str} {cs : Scope} {a : Addr} {ccd : Value} {cl : List (Str × Addr)} {outer : List Env} {A₀ : Around} {base h₀ : Heap} {L : Addr} {m : Str → Option Value} {news : List (Addr × Obj)} {s : Shared} {Q E : Value → Shared → Prop}
    (B : Below A₀ base outer h₀) (F : Fr h₀ L s.heap m) (X : (hd2.heap_39 w.params).In h₀) (N : News h₀ L s.heap news) (T : Top p loose mean mg mb h₀) (hk : cs.kind = .function) (hd : dp + 20 < recursionLimit) (hu : un + 200 < cLine)
    {d : Int} {td : Tok} (hd0 : 0 ≤ d) (hd1 : d ≤ 64000000)
    (hret : ∀ (t' : Tok) (h' : Heap) (tk' : Nat), (firstS d).length ≤ 20 → Fr h₀ L h' m → News h₀ L h' news → Q (.str (firstS d) t') { s with heap := h', toks := tk' }) :
    wpAny (model PySem.Challenge.rw_xb0022_02.row.prog w) (ktrTop dp un gd cn cs L a ccd cl outer) (call (.ref 140) [.int d td]) Q E s := by
  revert X; k_fill; intro X
  have hMk := kstMark
  refine wpAny_call ?_
  k_dflt cell_enter
  (repeat' (first | ((with_reducible rename NoOwn => hNo9); clear hNo9) | (k_unfold; (try dsimp only)) | ((with_reducible refine Own.mk ?_); (first | (((with_reducible show wpAny _ _ (compareOp _ (Value.int (Int.fmod (Int.fdiv _ (HPow.hPow _ _)) _) _) _) _ _ _); (refine eq_int_hid ?_); intro _ _)) | ((k_here; (with_reducible show wpAny _ _ (subscriptTail _ _ (Value.ref _) (Value.int _ _)) _ _ _); k_dflt (refine' item_anyT ?k1 ?k2 ?k3 ?k4 ?k5 ?_ ?k6; (case k1 => exact News.isTup (by k_asm) (by k_mem)); (case k2 => with_reducible assumption); (case k3 => omega); (case k4 => omega); (case k5 => omega); (case k6 => with_unfolding_all rfl); k_whole); intro _)) | ((k_here; (with_reducible show wpAny _ _ (call (Value.builtin "len") [Value.ref _]) _ _ _); k_dflt (refine' len_tupI ?k1 ?k2 ?k3 ?_; (case k1 => exact News.isTup (by k_asm) (by k_mem)); (case k2 => with_reducible assumption); (case k3 => omega); k_whole))) | ((k_here; (with_reducible show wpAny _ _ (call (Value.type _) [Value.ref _]) _ _ _); k_dflt (refine' kde_tupleOf ?k1 ?k2 ?k3 ?k4 ?k5 ?_; (case k1 => k_asm); (case k2 => k_asm); (case k3 => exact News.isList (by k_asm) (by k_mem)); (case k5 => exact rfl); (case k4 => (simp only [List.size_toArray]; (have hq9 := IntsAre.length (by assumption)); omega)); k_whole); intro D' h' F' N' l1; (try k_lt l1); (try k_sweep))) | (have hNo9 := NoOwn.mk; walk1))) | ((fail_if_success (first | (first | (with_reducible show wpAny _ _ (exec (Stmt.While _ _ _ _) _) _ _ _) | (with_reducible show wpAny _ _ (pyIter _) (fun it s₂ => LoopAtV _ _ _ _ _ _ _ _ _ it s₂) _ _) | (with_reducible show wpAny _ _ (pyIter _) (fun it s₂ => PairAt3 _ _ _ _ _ _ _ _ _ _ it s₂) _ _)))); (first | walk1 | (dsimp only; walk1) | (leave1; try dsimp only)))))
  (k_with "state" => first | exact FirstI.start | exact FirstI.tab (by assumption) (firstT_last (by assumption)) | exact FirstI.tab (by assumption) (firstT_bit (by assumption) (by assumption) true (by assumption)) | exact FirstI.no (by assumption) (firstT_bit (by assumption) (by assumption) false (by assumption)))
  have h5 := Int.fmod_lt_of_pos d (b := 5) (by decide)
  have h6 := Int.fmod_nonneg_of_pos d (b := 5) (by decide)
  k_state (fun pre lead => FirstI d pre lead) "lead"
  · have hbl : (Str.ofString " ").length = 1 := by rw [litSp, S_len]; rfl
    have htl : (Str.ofString "\t").length = 1 := by rw [litTab, S_len]; rfl
    have hq := (show FirstI d _ _ by assumption).2
    (repeat' (first | ((with_reducible rename NoOwn => hNo9); clear hNo9) | (k_unfold; (try dsimp only)) | ((with_reducible refine Own.mk ?_); (first | (((with_reducible show wpAny _ _ (compareOp _ (Value.int (Int.fmod (Int.fdiv _ (HPow.hPow _ _)) _) _) _) _ _ _); (refine eq_int_hid ?_); intro _ _)) | ((k_here; (with_reducible show wpAny _ _ (subscriptTail _ _ (Value.ref _) (Value.int _ _)) _ _ _); k_dflt (refine' item_anyT ?k1 ?k2 ?k3 ?k4 ?k5 ?_ ?k6; (case k1 => exact News.isTup (by k_asm) (by k_mem)); (case k2 => with_reducible assumption); (case k3 => omega); (case k4 => omega); (case k5 => omega); (case k6 => with_unfolding_all rfl); k_whole); intro _)) | ((k_here; (with_reducible show wpAny _ _ (call (Value.builtin "len") [Value.ref _]) _ _ _); k_dflt (refine' len_tupI ?k1 ?k2 ?k3 ?_; (case k1 => exact News.isTup (by k_asm) (by k_mem)); (case k2 => with_reducible assumption); (case k3 => omega); k_whole))) | ((k_here; (with_reducible show wpAny _ _ (call (Value.type _) [Value.ref _]) _ _ _); k_dflt (refine' kde_tupleOf ?k1 ?k2 ?k3 ?k4 ?k5 ?_; (case k1 => k_asm); (case k2 => k_asm); (case k3 => exact News.isList (by k_asm) (by k_mem)); (case k5 => exact rfl); (case k4 => (simp only [List.size_toArray]; (have hq9 := IntsAre.length (by assumption)); omega)); k_whole); intro D' h' F' N' l1; (try k_lt l1); (try k_sweep))) | (have hNo9 := NoOwn.mk; walk1))) | ((fail_if_success (first | (first | (with_reducible show wpAny _ _ (exec (Stmt.While _ _ _ _) _) _ _ _) | (with_reducible show wpAny _ _ (pyIter _) (fun it s₂ => LoopAtV _ _ _ _ _ _ _ _ _ it s₂) _ _) | (with_reducible show wpAny _ _ (pyIter _) (fun it s₂ => PairAt3 _ _ _ _ _ _ _ _ _ _ it s₂) _ _)))); (first | walk1 | (dsimp only; walk1) | (leave1; try dsimp only)))))
    k_with_none
  · have hq := (show FirstI d _ _ by assumption)
    (repeat' (first | ((with_reducible rename NoOwn => hNo9); clear hNo9) | (k_unfold; (try dsimp only)) | ((with_reducible refine Own.mk ?_); (first | (((with_reducible show wpAny _ _ (compareOp _ (Value.int (Int.fmod (Int.fdiv _ (HPow.hPow _ _)) _) _) _) _ _ _); (refine eq_int_hid ?_); intro _ _)) | ((k_here; (with_reducible show wpAny _ _ (subscriptTail _ _ (Value.ref _) (Value.int _ _)) _ _ _); k_dflt (refine' item_anyT ?k1 ?k2 ?k3 ?k4 ?k5 ?_ ?k6; (case k1 => exact News.isTup (by k_asm) (by k_mem)); (case k2 => with_reducible assumption); (case k3 => omega); (case k4 => omega); (case k5 => omega); (case k6 => with_unfolding_all rfl); k_whole); intro _)) | ((k_here; (with_reducible show wpAny _ _ (call (Value.builtin "len") [Value.ref _]) _ _ _); k_dflt (refine' len_tupI ?k1 ?k2 ?k3 ?_; (case k1 => exact News.isTup (by k_asm) (by k_mem)); (case k2 => with_reducible assumption); (case k3 => omega); k_whole))) | ((k_here; (with_reducible show wpAny _ _ (call (Value.type _) [Value.ref _]) _ _ _); k_dflt (refine' kde_tupleOf ?k1 ?k2 ?k3 ?k4 ?k5 ?_; (case k1 => k_asm); (case k2 => k_asm); (case k3 => exact News.isList (by k_asm) (by k_mem)); (case k5 => exact rfl); (case k4 => (simp only [List.size_toArray]; (have hq9 := IntsAre.length (by assumption)); omega)); k_whole); intro D' h' F' N' l1; (try k_lt l1); (try k_sweep))) | (have hNo9 := NoOwn.mk; walk1))) | ((fail_if_success (first | (first | (with_reducible show wpAny _ _ (exec (Stmt.While _ _ _ _) _) _ _ _) | (with_reducible show wpAny _ _ (pyIter _) (fun it s₂ => LoopAtV _ _ _ _ _ _ _ _ _ it s₂) _ _) | (with_reducible show wpAny _ _ (pyIter _) (fun it s₂ => PairAt3 _ _ _ _ _ _ _ _ _ _ it s₂) _ _)))); (first | walk1 | (dsimp only; walk1) | (leave1; try dsimp only)))))
    have e : (6 + d.fmod 5 - 0).toNat = (6 + d.fmod 5).toNat := by omega
    rw [e] at hq
    have hl := hq.2
    rw [rangeKs_length] at hl
    rw [hq.1] at hl ⊢
    exact hret _ _ _ (by unfold firstS; omega) (by assumption) (by (first | assumption | ((with_reducible rename News _ _ _ _ => nE9); first | exact kst_newsOf nE9 (fun p hp => by kst_mem) | exact kst_newsOf nE9 (by kst_in))))
end
section
local macro_rules | `(tactic| walk_at "exec For Name Name cons nil") => `(tactic| (k_here; (rename Fr _ _ _ _ => lF'); (with_unfolding_all refine' For_invVF lF' ?k1 ?k2 ?_; (case k1 => exact rfl); (case k2 => exact rfl); k_whole)))
theorem column_ok {w : World} {p : Program} {loose : List Str} {mean : ExcName → Option Value} {mg mb : Str → Option Value} {dp un : Nat} {gd : Option (List Code)} {cn : Str} {cs : Scope} {a : Addr} {ccd : Value} {cl : List (Str × Addr)} {outer : List Env} {A₀ : Around} {base h₀ : Heap} {L : Addr} {m : Str → Option Value} {news : List (Addr × Obj)} {s : Shared} {Q E : Value → Shared → Prop}
    (B : Below A₀ base outer h₀) (F : Fr h₀ L s.heap m) (X : (hd2.heap_39 w.params).In h₀) (N : News h₀ L s.heap news) (T : Top p loose mean mg mb h₀) (hk : cs.kind = .function) (hd : dp + 20 < recursionLimit) (hu : un + 200 < cLine)
    {x : Str} {tx : Tok} (hx : x.length ≤ 100) {k : Int} {tk : Tok} (hk0 : 1 ≤ k) (hk1 : k ≤ 1000)
    (hret : ∀ (t' : Tok) (h' : Heap) (tk' : Nat), (0 ≤ colF x k ∧ colF x k ≤ 100000) → Fr h₀ L h' m → News h₀ L h' news → Q (.int (colF x k) t') { s with heap := h', toks := tk' }) :
    wpAny (model PySem.Challenge.rw_xb0022_02.row.prog w) (ktrTop dp un gd cn cs L a ccd cl outer) (call (.ref 147) [.str x tx, .int k tk]) Q E s := by
  revert X; k_fill; intro X
  have hMk := kstMark
  refine wpAny_call ?_
  k_dflt cell_enter
  (repeat' (first | ((with_reducible rename NoOwn => hNo9); clear hNo9) | (k_unfold; (try dsimp only)) | ((with_reducible refine Own.mk ?_); (first | ((k_here; (with_reducible show wpAny _ _ (subscriptTail _ _ (Value.ref _) (Value.int _ _)) _ _ _); k_dflt (refine' item_anyT ?k1 ?k2 ?k3 ?k4 ?k5 ?_ ?k6; (case k1 => exact News.isTup (by k_asm) (by k_mem)); (case k2 => with_reducible assumption); (case k3 => omega); (case k4 => omega); (case k5 => omega); (case k6 => with_unfolding_all rfl); k_whole); intro _)) | ((k_here; (with_reducible show wpAny _ _ (call (Value.builtin "len") [Value.ref _]) _ _ _); k_dflt (refine' len_tupI ?k1 ?k2 ?k3 ?_; (case k1 => exact News.isTup (by k_asm) (by k_mem)); (case k2 => with_reducible assumption); (case k3 => omega); k_whole))) | ((k_here; (with_reducible show wpAny _ _ (call (Value.type _) [Value.ref _]) _ _ _); k_dflt (refine' kde_tupleOf ?k1 ?k2 ?k3 ?k4 ?k5 ?_; (case k1 => k_asm); (case k2 => k_asm); (case k3 => exact News.isList (by k_asm) (by k_mem)); (case k5 => exact rfl); (case k4 => (simp only [List.size_toArray]; (have hq9 := IntsAre.length (by assumption)); omega)); k_whole); intro D' h' F' N' l1; (try k_lt l1); (try k_sweep))) | (have hNo9 := NoOwn.mk; walk1))) | ((fail_if_success (first | (first | (with_reducible show wpAny _ _ (exec (Stmt.While _ _ _ _) _) _ _ _) | (with_reducible show wpAny _ _ (pyIter _) (fun it s₂ => LoopAtV _ _ _ _ _ _ _ _ _ it s₂) _ _) | (with_reducible show wpAny _ _ (pyIter _) (fun it s₂ => PairAt3 _ _ _ _ _ _ _ _ _ _ it s₂) _ _)))); (first | walk1 | (dsimp only; walk1) | (leave1; try dsimp only)))))
  with_reducible rename Fr _ _ _ _ => lF'
  with_reducible rename News _ _ _ _ => lN'
  with_unfolding_all refine' free_str (σ := Int × Tok) (fun _ => news) (fun c => [(Str.ofString "column", .int c.1 c.2)]) [] (fun i c => ColI x k i c.1) (fun c => c.1 = colF x k ∧ 0 ≤ c.1 ∧ c.1 ≤ 100000) ⟨_, _⟩ (by rfl) lF' lN' ?kk ?kp ?turn ?kd ?done
  case kk => kst_all
  case kp => exact ⟨rfl, by simp, by simp⟩
  case kd =>
    rintro c ⟨h1, h2, h3⟩
    rw [List.drop_eq_nil_of_le (Nat.le_refl _)] at h1
    simp only [PySem.Str.length] at hx
    simp at h3
    exact ⟨h1, h2, by omega⟩
  case turn =>
    clear lF' lN'
    rintro ⟨c, tc⟩ i a t u h tk own hk' hoff hI F' N'
    have hi100 : (i : Int) < 100 := by
      have q := (List.getElem?_eq_some_iff.mp hk').1
      simp at q
      simp only [PySem.Str.length] at hx
      omega
    have hI2 := hI.2
    simp only [kstB] at hI hI2 F' N'
    k_sweep
    (repeat' (first | ((with_reducible rename NoOwn => hNo9); clear hNo9) | (k_unfold; (try dsimp only)) | ((with_reducible refine Own.mk ?_); (first | ((k_here; (with_reducible show wpAny _ _ (subscriptTail _ _ (Value.ref _) (Value.int _ _)) _ _ _); k_dflt (refine' item_anyT ?k1 ?k2 ?k3 ?k4 ?k5 ?_ ?k6; (case k1 => exact News.isTup (by k_asm) (by k_mem)); (case k2 => with_reducible assumption); (case k3 => omega); (case k4 => omega); (case k5 => omega); (case k6 => with_unfolding_all rfl); k_whole); intro _)) | ((k_here; (with_reducible show wpAny _ _ (call (Value.builtin "len") [Value.ref _]) _ _ _); k_dflt (refine' len_tupI ?k1 ?k2 ?k3 ?_; (case k1 => exact News.isTup (by k_asm) (by k_mem)); (case k2 => with_reducible assumption); (case k3 => omega); k_whole))) | ((k_here; (with_reducible show wpAny _ _ (call (Value.type _) [Value.ref _]) _ _ _); k_dflt (refine' kde_tupleOf ?k1 ?k2 ?k3 ?k4 ?k5 ?_; (case k1 => k_asm); (case k2 => k_asm); (case k3 => exact News.isList (by k_asm) (by k_mem)); (case k5 => exact rfl); (case k4 => (simp only [List.size_toArray]; (have hq9 := IntsAre.length (by assumption)); omega)); k_whole); intro D' h' F' N' l1; (try k_lt l1); (try k_sweep))) | (have hNo9 := NoOwn.mk; walk1))) | ((fail_if_success (first | (first | (with_reducible show wpAny _ _ (exec (Stmt.While _ _ _ _) _) _ _ _) | (with_reducible show wpAny _ _ (pyIter _) (fun it s₂ => LoopAtV _ _ _ _ _ _ _ _ _ it s₂) _ _) | (with_reducible show wpAny _ _ (pyIter _) (fun it s₂ => PairAt3 _ _ _ _ _ _ _ _ _ _ it s₂) _ _)))); (first | walk1 | (dsimp only; walk1) | (leave1; try dsimp only)))))
    all_goals (refine' FEnd.intro ((_, _) : Int × Tok) (by assumption) (by assumption) ?_ ?_ ?_ (by kst_all) (by kst_same) ?_)
    all_goals try (intro p hp; kst_mem)
    all_goals try exact off_of hoff
    all_goals first
      | exact hI.step hk0 hk1 hk' _ (by rw [if_pos (sp_true (by assumption))])
      | exact hI.step hk0 hk1 hk' _ (by rw [if_neg (sp_false (by assumption))])
  case done =>
    clear lF' lN'
    rintro ⟨c, tc⟩ u h tk ⟨h1, h2, h3⟩ F' N'
    dsimp only at h1 h2 h3
    subst h1
    simp only [kstB] at F' N'
    k_sweep
    (repeat' (first | ((with_reducible rename NoOwn => hNo9); clear hNo9) | (k_unfold; (try dsimp only)) | ((with_reducible refine Own.mk ?_); (first | ((k_here; (with_reducible show wpAny _ _ (subscriptTail _ _ (Value.ref _) (Value.int _ _)) _ _ _); k_dflt (refine' item_anyT ?k1 ?k2 ?k3 ?k4 ?k5 ?_ ?k6; (case k1 => exact News.isTup (by k_asm) (by k_mem)); (case k2 => with_reducible assumption); (case k3 => omega); (case k4 => omega); (case k5 => omega); (case k6 => with_unfolding_all rfl); k_whole); intro _)) | ((k_here; (with_reducible show wpAny _ _ (call (Value.builtin "len") [Value.ref _]) _ _ _); k_dflt (refine' len_tupI ?k1 ?k2 ?k3 ?_; (case k1 => exact News.isTup (by k_asm) (by k_mem)); (case k2 => with_reducible assumption); (case k3 => omega); k_whole))) | ((k_here; (with_reducible show wpAny _ _ (call (Value.type _) [Value.ref _]) _ _ _); k_dflt (refine' kde_tupleOf ?k1 ?k2 ?k3 ?k4 ?k5 ?_; (case k1 => k_asm); (case k2 => k_asm); (case k3 => exact News.isList (by k_asm) (by k_mem)); (case k5 => exact rfl); (case k4 => (simp only [List.size_toArray]; (have hq9 := IntsAre.length (by assumption)); omega)); k_whole); intro D' h' F' N' l1; (try k_lt l1); (try k_sweep))) | (have hNo9 := NoOwn.mk; walk1))) | ((fail_if_success (first | (first | (with_reducible show wpAny _ _ (exec (Stmt.While _ _ _ _) _) _ _ _) | (with_reducible show wpAny _ _ (pyIter _) (fun it s₂ => LoopAtV _ _ _ _ _ _ _ _ _ it s₂) _ _) | (with_reducible show wpAny _ _ (pyIter _) (fun it s₂ => PairAt3 _ _ _ _ _ _ _ _ _ _ it s₂) _ _)))); (first | walk1 | (dsimp only; walk1) | (leave1; try dsimp only)))))
    exact hret _ _ _ ⟨h2, h3⟩ (by assumption) (by (first | assumption | ((with_reducible rename News _ _ _ _ => nE9); first | exact kst_newsOf nE9 (fun p hp => by kst_mem) | exact kst_newsOf nE9 (by kst_in))))
end
section
local macro_rules | `(tactic| walk_at "exec Assign cons ListComp") => `(tactic| (k_here; lct_look; k_dflt (refine LCt.Assign_ListComp_T (F₀ := by k_asm) (by rfl) (by with_unfolding_all rfl) (by with_unfolding_all rfl) (by decide) (by rfl) (by decide) (by rfl) (by rfl) (by rfl) ?_)))
local macro_rules | `(tactic| walk_at "call builtin:str.join") => `(tactic| walk_at "own")
theorem deal_ok {w : World} {p : Program} {loose : List Str} {mean : ExcName → Option Value} {mg mb : Str → Option Value} {dp un : Nat} {gd : Option (List Code)} {cn : Str} {cs : Scope} {a : Addr} {ccd : Value} {cl : List (Str × Addr)} {outer : List Env} {A₀ : Around} {base h₀ : Heap} {L : Addr} {m : Str → Option Value} {news : List (Addr × Obj)} {s : Shared} {Q E : Value → Shared → Prop}
    (B : Below A₀ base outer h₀) (F : Fr h₀ L s.heap m) (X : (hd2.heap_39 w.params).In h₀) (N : News h₀ L s.heap news) (T : Top p loose mean mg mb h₀) (hk : cs.kind = .function) (hd : dp + 20 < recursionLimit) (hu : un + 200 < cLine)
    {x : Str} {tx : Tok} (hx : x.length ≤ 100) {k : Int} {tk : Tok} (hk0 : 0 ≤ k) (hk1 : k ≤ 100)
    (hret : ∀ (t' : Tok) (h' : Heap) (tk' : Nat), Fr h₀ L h' m → News h₀ L h' news → Q (.str (dealS x k) t') { s with heap := h', toks := tk' }) :
    wpAny (model PySem.Challenge.rw_xb0022_02.row.prog w) (ktrTop dp un gd cn cs L a ccd cl outer) (call (.ref 152) [.str x tx, .int k tk]) Q E s := by
  revert X; k_fill; intro X
  have hMk := kstMark
  refine wpAny_call ?_
  k_dflt cell_enter
  (repeat' (first | ((with_reducible rename NoOwn => hNo9); clear hNo9) | (k_unfold; (try dsimp only)) | ((with_reducible refine Own.mk ?_); (first | ((k_here; (with_reducible show wpAny _ _ (call (Value.builtin "str.join") [Value.str _ _, Value.ref _]) _ _ _); (with_reducible rename StrsAre _ _ => hs9); (with_reducible rename News _ _ _ _ => nN9); (refine join_listW (News.isList nN9 (.head _)) hs9 (by assumption) (by omega) ?_); intro _ _)) | ((k_here; (with_reducible show wpAny _ _ (subscriptTail _ _ (Value.ref _) (Value.int _ _)) _ _ _); k_dflt (refine' item_anyT ?k1 ?k2 ?k3 ?k4 ?k5 ?_ ?k6; (case k1 => exact News.isTup (by k_asm) (by k_mem)); (case k2 => with_reducible assumption); (case k3 => omega); (case k4 => omega); (case k5 => omega); (case k6 => with_unfolding_all rfl); k_whole); intro _)) | ((k_here; (with_reducible show wpAny _ _ (call (Value.builtin "len") [Value.ref _]) _ _ _); k_dflt (refine' len_tupI ?k1 ?k2 ?k3 ?_; (case k1 => exact News.isTup (by k_asm) (by k_mem)); (case k2 => with_reducible assumption); (case k3 => omega); k_whole))) | ((k_here; (with_reducible show wpAny _ _ (call (Value.type _) [Value.ref _]) _ _ _); k_dflt (refine' kde_tupleOf ?k1 ?k2 ?k3 ?k4 ?k5 ?_; (case k1 => k_asm); (case k2 => k_asm); (case k3 => exact News.isList (by k_asm) (by k_mem)); (case k5 => exact rfl); (case k4 => (simp only [List.size_toArray]; (have hq9 := IntsAre.length (by assumption)); omega)); k_whole); intro D' h' F' N' l1; (try k_lt l1); (try k_sweep))) | (have hNo9 := NoOwn.mk; walk1))) | ((fail_if_success (first | (first | (with_reducible show wpAny _ _ (exec (Stmt.While _ _ _ _) _) _ _ _) | (with_reducible show wpAny _ _ (pyIter _) (fun it s₂ => LoopAtV _ _ _ _ _ _ _ _ _ it s₂) _ _) | (with_reducible show wpAny _ _ (pyIter _) (fun it s₂ => PairAt3 _ _ _ _ _ _ _ _ _ _ it s₂) _ _)) | ((with_reducible show LCt.CompSrcT _ _ _ _ _ _ _ _ _ _ _ _ _ _ _)))); (first | walk1 | (dsimp only; walk1) | (leave1; try dsimp only)))))
  with_reducible rename StrsAre _ _ => hS
  with_reducible rename Fr _ _ _ _ => lF
  with_reducible rename News _ _ _ _ => lN
  rename List.map _ _ = Txt.split _ _ => hE
  rw [hE] at hS
  have hsl := split_le x (Str.ofString "\t")
  refine LCt.CompSrcT.ledger (by rfl) lF lN (.head _) (by rw [List.size_toArray, hS.length, sizeLine_eq]; omega) ?_
  intro g
  refine restT_pure DealR (.inr ⟨_, .head _, rfl, _, rfl⟩) ?_ ?_
  · intro v I oI C oC D ys m₂ h tk E' hv hC hx' F' N' off ne
    obtain ⟨a', t, ha, rfl⟩ := strs_mem hS hv
    have hlen := part_short ha
    clear lF lN
    (repeat' (first | ((with_reducible rename NoOwn => hNo9); clear hNo9) | (k_unfold; (try dsimp only)) | ((with_reducible refine Own.mk ?_); (first | ((k_here; (with_reducible show wpAny _ _ (call (Value.builtin "str.join") [Value.str _ _, Value.ref _]) _ _ _); (with_reducible rename StrsAre _ _ => hs9); (with_reducible rename News _ _ _ _ => nN9); (refine join_listW (News.isList nN9 (.head _)) hs9 (by assumption) (by omega) ?_); intro _ _)) | ((k_here; (with_reducible show wpAny _ _ (subscriptTail _ _ (Value.ref _) (Value.int _ _)) _ _ _); k_dflt (refine' item_anyT ?k1 ?k2 ?k3 ?k4 ?k5 ?_ ?k6; (case k1 => exact News.isTup (by k_asm) (by k_mem)); (case k2 => with_reducible assumption); (case k3 => omega); (case k4 => omega); (case k5 => omega); (case k6 => with_unfolding_all rfl); k_whole); intro _)) | ((k_here; (with_reducible show wpAny _ _ (call (Value.builtin "len") [Value.ref _]) _ _ _); k_dflt (refine' len_tupI ?k1 ?k2 ?k3 ?_; (case k1 => exact News.isTup (by k_asm) (by k_mem)); (case k2 => with_reducible assumption); (case k3 => omega); k_whole))) | ((k_here; (with_reducible show wpAny _ _ (call (Value.type _) [Value.ref _]) _ _ _); k_dflt (refine' kde_tupleOf ?k1 ?k2 ?k3 ?k4 ?k5 ?_; (case k1 => k_asm); (case k2 => k_asm); (case k3 => exact News.isList (by k_asm) (by k_mem)); (case k5 => exact rfl); (case k4 => (simp only [List.size_toArray]; (have hq9 := IntsAre.length (by assumption)); omega)); k_whole); intro D' h' F' N' l1; (try k_lt l1); (try k_sweep))) | (have hNo9 := NoOwn.mk; walk1))) | ((fail_if_success (first | (first | (with_reducible show wpAny _ _ (exec (Stmt.While _ _ _ _) _) _ _ _) | (with_reducible show wpAny _ _ (pyIter _) (fun it s₂ => LoopAtV _ _ _ _ _ _ _ _ _ it s₂) _ _) | (with_reducible show wpAny _ _ (pyIter _) (fun it s₂ => PairAt3 _ _ _ _ _ _ _ _ _ _ it s₂) _ _)) | ((with_reducible show LCt.CompSrcT _ _ _ _ _ _ _ _ _ _ _ _ _ _ _)))); (first | walk1 | (dsimp only; walk1) | (leave1; try dsimp only)))))
    · exact PureEnd.intro (by assumption) (by assumption) (fun p hp => hp) ⟨a', t, rfl, by omega, _, rfl⟩
    · exact PureEnd.intro (by assumption) (by assumption) (fun p hp => hp) ⟨a', t, rfl, by omega⟩
  · intro ys hp
    have hys := deal_picked hS hp
    have hw := deal_weight x
    have hjl := deal_join_len x
    clear lF lN hp hS
    have hsep : (Str.ofString "").length ≤ 16 := by rw [lit0, S_len]; decide
    have hbl : (Str.ofString " ").length = 1 := by rw [litSp, S_len]; rfl
    have htl : (Str.ofString "\t").length = 1 := by rw [litTab, S_len]; rfl
    (repeat' (first | ((with_reducible rename NoOwn => hNo9); clear hNo9) | (k_unfold; (try dsimp only)) | ((with_reducible refine Own.mk ?_); (first | ((k_here; (with_reducible show wpAny _ _ (call (Value.builtin "str.join") [Value.str _ _, Value.ref _]) _ _ _); (with_reducible rename StrsAre _ _ => hs9); (with_reducible rename News _ _ _ _ => nN9); (refine join_listW (News.isList nN9 (.head _)) hs9 (by assumption) (by omega) ?_); intro _ _)) | ((k_here; (with_reducible show wpAny _ _ (subscriptTail _ _ (Value.ref _) (Value.int _ _)) _ _ _); k_dflt (refine' item_anyT ?k1 ?k2 ?k3 ?k4 ?k5 ?_ ?k6; (case k1 => exact News.isTup (by k_asm) (by k_mem)); (case k2 => with_reducible assumption); (case k3 => omega); (case k4 => omega); (case k5 => omega); (case k6 => with_unfolding_all rfl); k_whole); intro _)) | ((k_here; (with_reducible show wpAny _ _ (call (Value.builtin "len") [Value.ref _]) _ _ _); k_dflt (refine' len_tupI ?k1 ?k2 ?k3 ?_; (case k1 => exact News.isTup (by k_asm) (by k_mem)); (case k2 => with_reducible assumption); (case k3 => omega); k_whole))) | ((k_here; (with_reducible show wpAny _ _ (call (Value.type _) [Value.ref _]) _ _ _); k_dflt (refine' kde_tupleOf ?k1 ?k2 ?k3 ?k4 ?k5 ?_; (case k1 => k_asm); (case k2 => k_asm); (case k3 => exact News.isList (by k_asm) (by k_mem)); (case k5 => exact rfl); (case k4 => (simp only [List.size_toArray]; (have hq9 := IntsAre.length (by assumption)); omega)); k_whole); intro D' h' F' N' l1; (try k_lt l1); (try k_sweep))) | (have hNo9 := NoOwn.mk; walk1))) | ((fail_if_success (first | (first | (with_reducible show wpAny _ _ (exec (Stmt.While _ _ _ _) _) _ _ _) | (with_reducible show wpAny _ _ (pyIter _) (fun it s₂ => LoopAtV _ _ _ _ _ _ _ _ _ it s₂) _ _) | (with_reducible show wpAny _ _ (pyIter _) (fun it s₂ => PairAt3 _ _ _ _ _ _ _ _ _ _ it s₂) _ _)) | ((with_reducible show LCt.CompSrcT _ _ _ _ _ _ _ _ _ _ _ _ _ _ _)))); (first | walk1 | (dsimp only; walk1) | (leave1; try dsimp only)))))
    exact hret _ _ _ (by assumption) (by (first | assumption | ((with_reducible rename News _ _ _ _ => nE9); first | exact kst_newsOf nE9 (fun p hp => by kst_mem) | exact kst_newsOf nE9 (by kst_in))))
end
section
local macro_rules | `(tactic| walk_at "compareOp Eq ref ref") => `(tactic| walk_at "own")
theorem equal_ok {w : World} {p : Program} {loose : List Str} {mean : ExcName → Option Value} {mg mb : Str → Option Value} {dp un : Nat} {gd : Option (List Code)} {cn : Str} {cs : Scope} {a : Addr} {ccd : Value} {cl : List (Str × Addr)} {outer : List Env} {A₀ : Around} {base h₀ : Heap} {L : Addr} {m : Str → Option Value} {news : List (Addr × Obj)} {s : Shared} {Q E : Value → Shared → Prop}
    (B : Below A₀ base outer h₀) (F : Fr h₀ L s.heap m) (X : (hd2.heap_39 w.params).In h₀) (N : News h₀ L s.heap news) (T : Top p loose mean mg mb h₀) (hk : cs.kind = .function) (hd : dp + 20 < recursionLimit) (hu : un + 200 < cLine)
    {x x' : Str} {o d tn tc o' d' tn' tc' : Addr} {vs vs' : List Value} {t t' : WTok} (W : News h₀ L s.heap (wsLed w 83 x o d tn tc vs t)) (hv : IntsAre vs (wsOf x).ns)
    (W' : News h₀ L s.heap (wsLed w 83 x' o' d' tn' tc' vs' t')) (hv' : IntsAre vs' (wsOf x').ns)
    (hret : ∀ (h' : Heap) (tk' : Nat), Fr h₀ L h' m → News h₀ L h' news → Q (.bool (decide ((wsOf x).ns = (wsOf x').ns ∧ (wsOf x).b = (wsOf x').b))) { s with heap := h', toks := tk' }) :
    wpAny (model PySem.Challenge.rw_xb0022_02.row.prog w) (ktrTop dp un gd cn cs L a ccd cl outer) (call (.ref 59) [.ref o, .ref o']) Q E s := by
  revert X; k_fill; intro X
  have hMk := kstMark
  have N0 : News h₀ L s.heap ((o, instObj 83 d) :: (d, dictOf (wsDict w x tn t) 5) :: (tn, tupOf [.ref tc, .int (wsOf x).b t.v4]) :: (tc, tupOf vs) :: (o', instObj 83 d') :: (d', dictOf (wsDict w x' tn' t') 5) :: (tn', tupOf [.ref tc', .int (wsOf x').b t'.v4]) :: (tc', tupOf vs') :: news) := by
    intro p hp
    rcases List.mem_append.mp (show p ∈ wsLed w 83 x o d tn tc vs t ++ (wsLed w 83 x' o' d' tn' tc' vs' t' ++ news) from hp) with h | h
    · exact W p h
    · rcases List.mem_append.mp h with h | h
      · exact W' p h
      · exact N p h
  clear N
  refine wpAny_call ?_
  k_dflt cell_enter
  (repeat' (first | ((with_reducible rename NoOwn => hNo9); clear hNo9) | (k_unfold; (try dsimp only)) | ((with_reducible refine Own.mk ?_); (first | ((k_here; (with_reducible show wpAny _ _ (compareOp CmpOp.Eq (Value.ref _) (Value.ref _)) _ _ _); k_dflt (refine' norm_eq ?k1 ?k2 ?k3 ?k4 ?k5 ?k6 ?k7 ?_; (case k1 => exact News.isTup (by k_asm) (by k_mem)); (case k4 => exact News.isTup (by k_asm) (by k_mem)); (case k2 => exact News.isTup (by k_asm) (by k_mem)); (case k5 => exact News.isTup (by k_asm) (by k_mem)); (case k3 => with_reducible assumption); (case k6 => with_reducible assumption); (case k7 => ktr_units); k_whole))) | ((k_here; (with_reducible show wpAny _ _ (subscriptTail _ _ (Value.ref _) (Value.int _ _)) _ _ _); k_dflt (refine' item_anyT ?k1 ?k2 ?k3 ?k4 ?k5 ?_ ?k6; (case k1 => exact News.isTup (by k_asm) (by k_mem)); (case k2 => with_reducible assumption); (case k3 => omega); (case k4 => omega); (case k5 => omega); (case k6 => with_unfolding_all rfl); k_whole); intro _)) | ((k_here; (with_reducible show wpAny _ _ (call (Value.builtin "len") [Value.ref _]) _ _ _); k_dflt (refine' len_tupI ?k1 ?k2 ?k3 ?_; (case k1 => exact News.isTup (by k_asm) (by k_mem)); (case k2 => with_reducible assumption); (case k3 => omega); k_whole))) | ((k_here; (with_reducible show wpAny _ _ (call (Value.type _) [Value.ref _]) _ _ _); k_dflt (refine' kde_tupleOf ?k1 ?k2 ?k3 ?k4 ?k5 ?_; (case k1 => k_asm); (case k2 => k_asm); (case k3 => exact News.isList (by k_asm) (by k_mem)); (case k5 => exact rfl); (case k4 => (simp only [List.size_toArray]; (have hq9 := IntsAre.length (by assumption)); omega)); k_whole); intro D' h' F' N' l1; (try k_lt l1); (try k_sweep))) | (have hNo9 := NoOwn.mk; walk1))) | ((fail_if_success (first | (first | (with_reducible show wpAny _ _ (exec (Stmt.While _ _ _ _) _) _ _ _) | (with_reducible show wpAny _ _ (pyIter _) (fun it s₂ => LoopAtV _ _ _ _ _ _ _ _ _ it s₂) _ _) | (with_reducible show wpAny _ _ (pyIter _) (fun it s₂ => PairAt3 _ _ _ _ _ _ _ _ _ _ it s₂) _ _)))); (first | walk1 | (dsimp only; walk1) | (leave1; try dsimp only)))))
  exact hret _ _ (by assumption) (by (first | assumption | ((with_reducible rename News _ _ _ _ => nE9); first | exact kst_newsOf nE9 (fun p hp => by kst_mem) | exact kst_newsOf nE9 (by kst_in))))
end
section
local macro_rules | `(tactic| walk_at "call ref") => `(tactic| walk_at "own")
section
/- _law_heard of a text that parse257 takes -/
theorem heard_good {w : World} {p : Program} {loose : List Str} {mean : ExcName → Option Value} {mg mb : Str → Option Value} {dp un : Nat} {gd : Option (List Code)} {cn : Str} {cs : Scope} {a : Addr} {ccd : Value} {cl : List (Str × Addr)} {outer : List Env} {A₀ : Around} {base h₀ : Heap} {L : Addr} {m : Str → Option Value} {news : List (Addr × Obj)} {s : Shared} {Q E : Value → Shared → Prop}
    (B : Below A₀ base outer h₀) (F : Fr h₀ L s.heap m) (X : (hd2.heap_39 w.params).In h₀) (N : News h₀ L s.heap news) (T : Top p loose mean mg mb h₀) (hk : cs.kind = .function) (hd : dp + 40 < recursionLimit) (hu : un + 400 < cLine)
    {x : Str} {tx : Tok} (h5 : 5 ≤ x.length) (hx : x.length ≤ 1000) (h3 : x.cps.toList.take 3 = [50, 53, 55])
    (hret : ∀ (t : Tok) (h' : Heap) (tk' : Nat), Fr h₀ L h' m → News h₀ L h' news → Q (.str (parseF x) t) { s with heap := h', toks := tk' }) :
    wpAny (model PySem.Challenge.rw_xb0022_02.row.prog w) (ktrTop dp un gd cn cs L a ccd cl outer) (call (.ref 164) [.str x tx]) Q E s := by
  revert X; k_fill; intro X
  have hMk := kstMark
  refine wpAny_call ?_
  k_dflt cell_enter
  (repeat' (first | ((with_reducible rename NoOwn => hNo9); clear hNo9) | (k_unfold; (try dsimp only)) | ((with_reducible refine Own.mk ?_); (first | ((k_here; (with_reducible show wpAny _ _ (subscriptTail _ _ (Value.ref _) (Value.int _ _)) _ _ _); k_dflt (refine' item_anyT ?k1 ?k2 ?k3 ?k4 ?k5 ?_ ?k6; (case k1 => exact News.isTup (by k_asm) (by k_mem)); (case k2 => with_reducible assumption); (case k3 => omega); (case k4 => omega); (case k5 => omega); (case k6 => with_unfolding_all rfl); k_whole); intro _)) | ((k_here; (with_reducible show wpAny _ _ (call (Value.builtin "len") [Value.ref _]) _ _ _); k_dflt (refine' len_tupI ?k1 ?k2 ?k3 ?_; (case k1 => exact News.isTup (by k_asm) (by k_mem)); (case k2 => with_reducible assumption); (case k3 => omega); k_whole))) | ((k_here; (with_reducible show wpAny _ _ (call (Value.type _) [Value.ref _]) _ _ _); k_dflt (refine' kde_tupleOf ?k1 ?k2 ?k3 ?k4 ?k5 ?_; (case k1 => k_asm); (case k2 => k_asm); (case k3 => exact News.isList (by k_asm) (by k_mem)); (case k5 => exact rfl); (case k4 => (simp only [List.size_toArray]; (have hq9 := IntsAre.length (by assumption)); omega)); k_whole); intro D' h' F' N' l1; (try k_lt l1); (try k_sweep))) | ((with_reducible show wpAny _ _ (call (Value.ref _) _) _ _ _); (first | ((k_here; (with_reducible show wpAny _ _ (call (Value.ref 119) [Value.str _ _]) _ _ _); k_dflt (refine' parse_ok ?kB ?kF ?kX ?kN ?kT rfl ?kd ?ku ?k5 ?k1 ?k3 ?_; (case kB => k_asm); (case kF => k_asm); (case kX => assumption); (case kN => k_asm); (case kT => k_asm); (case kd => ktr_room); (case ku => ktr_units); (case k5 => omega); (case k1 => omega); (case k3 => assumption)); intro t' h' tk' F' N'; (try dsimp only); (try k_sweep))))) | (have hNo9 := NoOwn.mk; walk1))) | ((fail_if_success (first | (first | (with_reducible show wpAny _ _ (exec (Stmt.While _ _ _ _) _) _ _ _) | (with_reducible show wpAny _ _ (pyIter _) (fun it s₂ => LoopAtV _ _ _ _ _ _ _ _ _ it s₂) _ _) | (with_reducible show wpAny _ _ (pyIter _) (fun it s₂ => PairAt3 _ _ _ _ _ _ _ _ _ _ it s₂) _ _)))); (first | walk1 | (dsimp only; walk1) | (leave1; try dsimp only)))))
  exact hret _ _ _ (by assumption) (by (first | assumption | ((with_reducible rename News _ _ _ _ => nE9); first | exact kst_newsOf nE9 (fun p hp => by kst_mem) | exact kst_newsOf nE9 (by kst_in))))
local macro_rules | `(tactic| walk_at "call type:str") => `(tactic| walk_at "own")
theorem heard_bad {w : World} {p : Program} {loose : List Str} {mean : ExcName → Option Value} {mg mb : Str → Option Value} {dp un : Nat} {gd : Option (List Code)} {cn : Str} {cs : Scope} {a : Addr} {ccd : Value} {outer : List Env} {A₀ : Around} {base h₀ g₀ : Heap} {L : Addr} {m : Str → Option Value} {news : List (Addr × Obj)} {s : Shared} {Q E : Value → Shared → Prop}
    (B : Below A₀ base outer h₀) (F : Fr h₀ L s.heap m) (X : (hd2.heap_39 w.params).In h₀) (N : News h₀ L s.heap news) (T : Top p loose mean mg mb h₀) (hk : cs.kind = .function) (hd : dp + 40 < recursionLimit) (hu : un + 400 < cLine)
    (XB : (hd2.heap_39 w.params).In base) (TB : Top p loose mean mg mb base) (D : KtsDicts (outer.filterMap (·.frame)) h₀) (T0 : KtsTurn (outer.filterMap (·.frame)) g₀ h₀)
    {x : Str} {tx : Tok} (h5 : 3 ≤ x.length) (hx : x.length ≤ 1000) (h3 : x.cps.toList.take 3 ≠ [50, 53, 55])
    (hret : ∀ (r : Addr) (h' : Heap) (tk' : Nat) (h₀' : Heap), KtsTurn (outer.filterMap (·.frame)) g₀ h₀' → (∀ p ∈ news, p.1 < r) → Fr h₀' L h' m → News h₀' L h' ((r, PySem.W.listOf #[.str x tx] 0) :: news) → Below A₀ base outer h₀' → (hd2.heap_39 w.params).In h₀' → Top p loose mean mg mb h₀' → KtsDicts (outer.filterMap (·.frame)) h₀' → Q (.ref r) { s with heap := h', toks := tk' }) :
    wpAny (model PySem.Challenge.rw_xb0022_02.row.prog w) (ktrTop dp un gd cn cs L a ccd [] outer) (call (.ref 164) [.str x tx]) Q E s := by
  revert X XB; k_fill; intro X XB
  have hMk := kstMark
  refine wpAny_call ?_
  ((k_dflt (refine' code_defS ?k1 ?k2 ?k3 ?k4 ?k5 ?XB ?TB ?D ?T0 ?kA ?k6 ?k7 ?k8 ?k9 ?kB ?_ ?cK ?c2 ?c3 ?c4 ?c5; (case kA => exact rfl); (case k2 => k_asm); (case k1 => k_asm); (case XB => assumption); (case TB => assumption); (case D => assumption); (case T0 => first | assumption | exact KtsTurn.refl); (case k3 => k_asm); (case k4 => k_asm); (case k5 => k_asm); (case k6 => k_is); (case k7 => k_is); (case k8 => ktr_room); (case k9 => exact BindsTo.of_eq rfl); (case kB => exact locs rfl); (case cK => first | assumption | exact rfl); (case c2 => exact rfl); (case c3 => exact rfl); (case c4 => exact rfl); (case c5 => decide); k_whole; intro g' L' h' FG' F' N' B' X' T' D'; (try dsimp only); (try k_lift B'); (try k_fold))))
  (repeat' (first | ((with_reducible rename NoOwn => hNo9); clear hNo9) | (k_unfold; (try dsimp only)) | ((with_reducible refine Own.mk ?_); (first | ((k_here; (rename Got _ _ _ _ _ => gX); (with_reducible show wpAny _ _ (call (Value.type "str") [Value.ref _]) _ _ _); k_dflt (refine' str_own_exc ?ku ?kX ?kN gX ?ks ?km ?_; (case ku => ktr_units); (case kX => k_in); (case kN => assumption); (case ks => k_is); (case km => k_is); k_whole))) | ((k_here; (with_reducible show wpAny _ _ (subscriptTail _ _ (Value.ref _) (Value.int _ _)) _ _ _); k_dflt (refine' item_anyT ?k1 ?k2 ?k3 ?k4 ?k5 ?_ ?k6; (case k1 => exact News.isTup (by k_asm) (by k_mem)); (case k2 => with_reducible assumption); (case k3 => omega); (case k4 => omega); (case k5 => omega); (case k6 => with_unfolding_all rfl); k_whole); intro _)) | ((k_here; (with_reducible show wpAny _ _ (call (Value.builtin "len") [Value.ref _]) _ _ _); k_dflt (refine' len_tupI ?k1 ?k2 ?k3 ?_; (case k1 => exact News.isTup (by k_asm) (by k_mem)); (case k2 => with_reducible assumption); (case k3 => omega); k_whole))) | ((k_here; (with_reducible show wpAny _ _ (call (Value.type _) [Value.ref _]) _ _ _); k_dflt (refine' kde_tupleOf ?k1 ?k2 ?k3 ?k4 ?k5 ?_; (case k1 => k_asm); (case k2 => k_asm); (case k3 => exact News.isList (by k_asm) (by k_mem)); (case k5 => exact rfl); (case k4 => (simp only [List.size_toArray]; (have hq9 := IntsAre.length (by assumption)); omega)); k_whole); intro D' h' F' N' l1; (try k_lt l1); (try k_sweep))) | ((with_reducible show wpAny _ _ (call (Value.ref _) _) _ _ _); (first | ((k_here; (with_reducible show wpAny _ _ (call (Value.ref 119) [Value.str _ _]) _ _ _); k_dflt (refine' parse_ok ?kB ?kF ?kX ?kN ?kT rfl ?kd ?ku ?k5 ?k1 ?k3 ?_; (case kB => k_asm); (case kF => k_asm); (case kX => assumption); (case kN => k_asm); (case kT => k_asm); (case kd => ktr_room); (case ku => ktr_units); (case k5 => omega); (case k1 => omega); (case k3 => assumption)); intro t' h' tk' F' N'; (try dsimp only); (try k_sweep))))) | (have hNo9 := NoOwn.mk; walk1))) | ((fail_if_success (first | (first | (with_reducible show wpAny _ _ (exec (Stmt.While _ _ _ _) _) _ _ _) | (with_reducible show wpAny _ _ (pyIter _) (fun it s₂ => LoopAtV _ _ _ _ _ _ _ _ _ it s₂) _ _) | (with_reducible show wpAny _ _ (pyIter _) (fun it s₂ => PairAt3 _ _ _ _ _ _ _ _ _ _ it s₂) _ _)) | ((with_reducible show wpAny _ _ (call (Value.ref 119) [Value.str _ _]) _ _ _)))); (first | walk1 | (dsimp only; walk1) | (leave1; try dsimp only)))))
  refine wpAny_call ?_
  ((k_dflt (refine' code_def ?k1 ?k2 ?k3 ?k4 ?k5 ?kA ?kF ?kK ?k6 ?k7 ?k8 ?k9 ?kB ?_ ?c2 ?c3 ?c4 ?c5; (case kA => exact rfl); (case kF => exact rfl); (case kK => first | assumption | exact rfl); (case k1 => k_asm); (case k2 => k_asm); (case k3 => k_asm); (case k4 => k_asm); (case k5 => k_asm); (case k6 => k_is); (case k7 => k_is); (case k8 => ktr_room); (case k9 => exact BindsTo.of_eq rfl); (case c5 => decide); (case kB => exact locs rfl); (case c2 => exact rfl); (case c3 => exact rfl); (case c4 => exact rfl); k_whole; intro g' L' h' FG' F' N' B' X' T'; (try dsimp only); (try k_lift B'); (try k_fold))))
  (repeat' (first | ((with_reducible rename NoOwn => hNo9); clear hNo9) | (k_unfold; (try dsimp only)) | ((with_reducible refine Own.mk ?_); (first | ((k_here; (rename Got _ _ _ _ _ => gX); (with_reducible show wpAny _ _ (call (Value.type "str") [Value.ref _]) _ _ _); k_dflt (refine' str_own_exc ?ku ?kX ?kN gX ?ks ?km ?_; (case ku => ktr_units); (case kX => k_in); (case kN => assumption); (case ks => k_is); (case km => k_is); k_whole))) | ((k_here; (with_reducible show wpAny _ _ (subscriptTail _ _ (Value.ref _) (Value.int _ _)) _ _ _); k_dflt (refine' item_anyT ?k1 ?k2 ?k3 ?k4 ?k5 ?_ ?k6; (case k1 => exact News.isTup (by k_asm) (by k_mem)); (case k2 => with_reducible assumption); (case k3 => omega); (case k4 => omega); (case k5 => omega); (case k6 => with_unfolding_all rfl); k_whole); intro _)) | ((k_here; (with_reducible show wpAny _ _ (call (Value.builtin "len") [Value.ref _]) _ _ _); k_dflt (refine' len_tupI ?k1 ?k2 ?k3 ?_; (case k1 => exact News.isTup (by k_asm) (by k_mem)); (case k2 => with_reducible assumption); (case k3 => omega); k_whole))) | ((k_here; (with_reducible show wpAny _ _ (call (Value.type _) [Value.ref _]) _ _ _); k_dflt (refine' kde_tupleOf ?k1 ?k2 ?k3 ?k4 ?k5 ?_; (case k1 => k_asm); (case k2 => k_asm); (case k3 => exact News.isList (by k_asm) (by k_mem)); (case k5 => exact rfl); (case k4 => (simp only [List.size_toArray]; (have hq9 := IntsAre.length (by assumption)); omega)); k_whole); intro D' h' F' N' l1; (try k_lt l1); (try k_sweep))) | ((with_reducible show wpAny _ _ (call (Value.ref _) _) _ _ _); (first | ((k_here; (with_reducible show wpAny _ _ (call (Value.ref 119) [Value.str _ _]) _ _ _); k_dflt (refine' parse_ok ?kB ?kF ?kX ?kN ?kT rfl ?kd ?ku ?k5 ?k1 ?k3 ?_; (case kB => k_asm); (case kF => k_asm); (case kX => assumption); (case kN => k_asm); (case kT => k_asm); (case kd => ktr_room); (case ku => ktr_units); (case k5 => omega); (case k1 => omega); (case k3 => assumption)); intro t' h' tk' F' N'; (try dsimp only); (try k_sweep))))) | (have hNo9 := NoOwn.mk; walk1))) | ((fail_if_success (first | (first | (with_reducible show wpAny _ _ (exec (Stmt.While _ _ _ _) _) _ _ _) | (with_reducible show wpAny _ _ (pyIter _) (fun it s₂ => LoopAtV _ _ _ _ _ _ _ _ _ it s₂) _ _) | (with_reducible show wpAny _ _ (pyIter _) (fun it s₂ => PairAt3 _ _ _ _ _ _ _ _ _ _ it s₂) _ _)) | ((with_reducible show wpAny _ _ (call (Value.ref 119) [Value.str _ _]) _ _ _)))); (first | walk1 | (dsimp only; walk1) | (leave1; try dsimp only)))))
  all_goals try exact (slice3_off h5 h3 (by assumption)).elim
  exact hret _ _ _ _ (by assumption) (by assumption) (by assumption) (by assumption) (by assumption) (by assumption) (by assumption) (by assumption)
end

section
local macro_rules | `(tactic| walk_at "eval ListComp") => `(tactic| (k_here; k_dflt (refine LCg.ListComp_U (F₀ := by k_asm) (by rfl) (by decide) (by rfl) (by decide) (by rfl) ?_)))
theorem more_ok {w : World} {p : Program} {loose : List Str} {mean : ExcName → Option Value} {mg mb : Str → Option Value} {dp un : Nat} {gd : Option (List Code)} {cn : Str} {cs : Scope} {a : Addr} {ccd : Value} {cl : List (Str × Addr)} {outer : List Env} {A₀ : Around} {base h₀ : Heap} {L : Addr} {m : Str → Option Value} {news : List (Addr × Obj)} {s : Shared} {Q E : Value → Shared → Prop}
    (B : Below A₀ base outer h₀) (F : Fr h₀ L s.heap m) (X : (hd2.heap_39 w.params).In h₀) (N : News h₀ L s.heap news) (T : Top p loose mean mg mb h₀) (hk : cs.kind = .function) (hd : dp + 40 < recursionLimit) (hu : un + 400 < cLine)
    {x : Str} {o d tn tc : Addr} {vs : List Value} {t : WTok} (W : News h₀ L s.heap (wsLed w 83 x o d tn tc vs t)) (hv : IntsAre vs (wsOf x).ns) (hb : WSB x) {c r : Int} {t1 t2 : Tok} (hc : 0 ≤ c ∧ c ≤ 1000) (hr : 0 ≤ r ∧ r ≤ 1000)
    (hret : ∀ (q : Addr) (t1 t2 t3 t4 : Tok) (h' : Heap) (tk' : Nat), AllLt q news → Fr h₀ L h' m → News h₀ L h' ((q, PySem.W.listOf #[.int (moreFirst x c r) t1, .int (moreSecond x c r) t2, .int (moreThird x c r) t3, .int (moreLast x c r) t4] 0) :: news) → Q (.ref q) { s with heap := h', toks := tk' }) :
    wpAny (model PySem.Challenge.rw_xb0022_02.row.prog w) (ktrTop dp un gd cn cs L a ccd cl outer) (call (.ref 157) [.ref o, .int c t1, .int r t2]) Q E s := by
  revert X; k_fill; intro X
  have hMk := kstMark
  have N0 : News h₀ L s.heap ((o, instObj 83 d) :: (d, dictOf (wsDict w x tn t) 5) :: (tn, tupOf [.ref tc, .int (wsOf x).b t.v4]) :: (tc, tupOf vs) :: news) := by
    intro p hp
    rcases List.mem_append.mp (show p ∈ wsLed w 83 x o d tn tc vs t ++ news from hp) with h | h
    · exact W p h
    · exact N p h
  clear N W
  refine wpAny_call ?_
  ((k_dflt (refine' code_defC ?k1 ?k2 ?k3 ?k4 ?k5 ?kA ?kF ?kK ?k6 ?k7 ?k8 ?k9 ?kB ?kD ?_ ?c2 ?c3 ?c4; (case kA => exact rfl); (case kF => exact rfl); (case kK => first | assumption | exact rfl); (case k1 => k_asm); (case k2 => k_asm); (case k3 => k_asm); (case k4 => k_asm); (case k5 => k_asm); (case k6 => k_is); (case k7 => k_is); (case k8 => ktr_room); (case k9 => exact BindsTo.of_eq rfl); (case kB => exact rfl); (case kD => decide +kernel); (case c2 => exact rfl); (case c3 => exact rfl); (case c4 => exact rfl); k_whole; intro g' L' h' tk' cells' FG' F' N' Y' B' X' T' l1; (try k_lt l1); k_cells Y'; (try simp only [List.cons_append, List.nil_append] at N'); (try dsimp only); (try k_lift B'); (try k_fold))))
  (repeat' (first | ((with_reducible rename NoOwn => hNo9); clear hNo9) | (k_unfold; (try dsimp only)) | ((with_reducible refine Own.mk ?_); (first | ((k_here; (with_reducible show wpAny _ _ (subscriptTail _ _ (Value.ref _) (Value.int _ _)) _ _ _); k_dflt (refine' item_anyT ?k1 ?k2 ?k3 ?k4 ?k5 ?_ ?k6; (case k1 => exact News.isTup (by k_asm) (by k_mem)); (case k2 => with_reducible assumption); (case k3 => omega); (case k4 => omega); (case k5 => omega); (case k6 => with_unfolding_all rfl); k_whole); intro _)) | ((k_here; (with_reducible show wpAny _ _ (call (Value.builtin "len") [Value.ref _]) _ _ _); k_dflt (refine' len_tupI ?k1 ?k2 ?k3 ?_; (case k1 => exact News.isTup (by k_asm) (by k_mem)); (case k2 => with_reducible assumption); (case k3 => omega); k_whole))) | ((k_here; (with_reducible show wpAny _ _ (call (Value.type _) [Value.ref _]) _ _ _); k_dflt (refine' kde_tupleOf ?k1 ?k2 ?k3 ?k4 ?k5 ?_; (case k1 => k_asm); (case k2 => k_asm); (case k3 => exact News.isList (by k_asm) (by k_mem)); (case k5 => exact rfl); (case k4 => (simp only [List.size_toArray]; (have hq9 := IntsAre.length (by assumption)); omega)); k_whole); intro D' h' F' N' l1; (try k_lt l1); (try k_sweep))) | ((with_reducible show wpAny _ _ (call (Value.ref _) _) _ _ _); (first | ((k_here; (with_reducible show wpAny _ _ (call (Value.ref 52) [Value.ref _, Value.int _ _]) _ _ _); k_dflt (refine' il_ok ?kB ?kF ?kX ?kN ?kT rfl ?kd ?ku ?kW ?kv ?kb ?k0 ?k1 ?_; (case kB => k_asm); (case kF => k_asm); (case kX => assumption); (case kN => k_asm); (case kT => k_asm); (case kd => ktr_room); (case ku => ktr_units); (case kW => ((with_reducible rename News _ _ _ _ => nW9); exact kst_newsOf nW9 (by kst_in))); (case kv => with_reducible assumption); (case kb => with_reducible assumption); (case k0 => omega); (case k1 => omega)); intro t' h' tk' F' N'; (try dsimp only); (try k_sweep))) | ((k_here; (with_reducible show wpAny _ _ (call (Value.ref 119) [Value.str _ _]) _ _ _); k_dflt (refine' parse_ok ?kB ?kF ?kX ?kN ?kT rfl ?kd ?ku ?k5 ?k1 ?k3 ?_; (case kB => k_asm); (case kF => k_asm); (case kX => assumption); (case kN => k_asm); (case kT => k_asm); (case kd => ktr_room); (case ku => ktr_units); (case k5 => omega); (case k1 => omega); (case k3 => assumption)); intro t' h' tk' F' N'; (try dsimp only); (try k_sweep))))) | (have hNo9 := NoOwn.mk; walk1))) | ((fail_if_success (first | (first | (with_reducible show wpAny _ _ (exec (Stmt.While _ _ _ _) _) _ _ _) | (with_reducible show wpAny _ _ (pyIter _) (fun it s₂ => LoopAtV _ _ _ _ _ _ _ _ _ it s₂) _ _) | (with_reducible show wpAny _ _ (pyIter _) (fun it s₂ => PairAt3 _ _ _ _ _ _ _ _ _ _ it s₂) _ _)) | ((with_reducible show LCg.CompSrc _ _ _ _ _ _ _ _ _ _ _ _ _ _)))); (first | walk1 | (dsimp only; walk1) | (leave1; try dsimp only)))))
  with_reducible rename Fr _ _ _ _ => lF
  with_reducible rename News _ _ _ _ => lN
  refine LCg.CompSrc.ledger (by rfl) lF lN (.head _) (by exact Nat.le_of_ble_eq_true rfl) ?_
  intro g
  refine rest_pure (fun i v y => ∃ t', y = .int (moreM x r ((i : Int) + 1)) t') (.inr ⟨_, .head _, rfl, _, rfl⟩) ?_ ?_
  · intro i v I oI C oC D ys m₂ h tk E' hi hvi hC hx' F' N' off ne
    obtain ⟨tt, hk1, rfl⟩ := four_at hvi
    have hk0 : (1 : Int) ≤ (i : Int) + 1 := by omega
    clear lF lN
    (repeat' (first | ((with_reducible rename NoOwn => hNo9); clear hNo9) | (k_unfold; (try dsimp only)) | ((with_reducible refine Own.mk ?_); (first | ((k_here; (with_reducible show wpAny _ _ (subscriptTail _ _ (Value.ref _) (Value.int _ _)) _ _ _); k_dflt (refine' item_anyT ?k1 ?k2 ?k3 ?k4 ?k5 ?_ ?k6; (case k1 => exact News.isTup (by k_asm) (by k_mem)); (case k2 => with_reducible assumption); (case k3 => omega); (case k4 => omega); (case k5 => omega); (case k6 => with_unfolding_all rfl); k_whole); intro _)) | ((k_here; (with_reducible show wpAny _ _ (call (Value.builtin "len") [Value.ref _]) _ _ _); k_dflt (refine' len_tupI ?k1 ?k2 ?k3 ?_; (case k1 => exact News.isTup (by k_asm) (by k_mem)); (case k2 => with_reducible assumption); (case k3 => omega); k_whole))) | ((k_here; (with_reducible show wpAny _ _ (call (Value.type _) [Value.ref _]) _ _ _); k_dflt (refine' kde_tupleOf ?k1 ?k2 ?k3 ?k4 ?k5 ?_; (case k1 => k_asm); (case k2 => k_asm); (case k3 => exact News.isList (by k_asm) (by k_mem)); (case k5 => exact rfl); (case k4 => (simp only [List.size_toArray]; (have hq9 := IntsAre.length (by assumption)); omega)); k_whole); intro D' h' F' N' l1; (try k_lt l1); (try k_sweep))) | ((with_reducible show wpAny _ _ (call (Value.ref _) _) _ _ _); (first | ((k_here; (with_reducible show wpAny _ _ (call (Value.ref 52) [Value.ref _, Value.int _ _]) _ _ _); k_dflt (refine' il_ok ?kB ?kF ?kX ?kN ?kT rfl ?kd ?ku ?kW ?kv ?kb ?k0 ?k1 ?_; (case kB => k_asm); (case kF => k_asm); (case kX => assumption); (case kN => k_asm); (case kT => k_asm); (case kd => ktr_room); (case ku => ktr_units); (case kW => ((with_reducible rename News _ _ _ _ => nW9); exact kst_newsOf nW9 (by kst_in))); (case kv => with_reducible assumption); (case kb => with_reducible assumption); (case k0 => omega); (case k1 => omega)); intro t' h' tk' F' N'; (try dsimp only); (try k_sweep))) | ((k_here; (with_reducible show wpAny _ _ (call (Value.ref 119) [Value.str _ _]) _ _ _); k_dflt (refine' parse_ok ?kB ?kF ?kX ?kN ?kT rfl ?kd ?ku ?k5 ?k1 ?k3 ?_; (case kB => k_asm); (case kF => k_asm); (case kX => assumption); (case kN => k_asm); (case kT => k_asm); (case kd => ktr_room); (case ku => ktr_units); (case k5 => omega); (case k1 => omega); (case k3 => assumption)); intro t' h' tk' F' N'; (try dsimp only); (try k_sweep))))) | (have hNo9 := NoOwn.mk; walk1))) | ((fail_if_success (first | (first | (with_reducible show wpAny _ _ (exec (Stmt.While _ _ _ _) _) _ _ _) | (with_reducible show wpAny _ _ (pyIter _) (fun it s₂ => LoopAtV _ _ _ _ _ _ _ _ _ it s₂) _ _) | (with_reducible show wpAny _ _ (pyIter _) (fun it s₂ => PairAt3 _ _ _ _ _ _ _ _ _ _ it s₂) _ _)) | ((with_reducible show LCg.CompSrc _ _ _ _ _ _ _ _ _ _ _ _ _ _)))); (first | walk1 | (dsimp only; walk1) | (leave1; try dsimp only)))))
    exact PureEnd.intro (by assumption) (by assumption) (fun p hp => hp) ⟨_, rfl⟩
  · intro ys hl hy
    obtain ⟨ta, tb, tc', td, rfl⟩ := four_of (f := fun k => moreM x r k) hl (fun i y h => let ⟨_, _, q⟩ := hy i y h; q)
    clear lF lN hy hl
    (repeat' (first | ((with_reducible rename NoOwn => hNo9); clear hNo9) | (k_unfold; (try dsimp only)) | ((with_reducible refine Own.mk ?_); (first | ((k_here; (with_reducible show wpAny _ _ (subscriptTail _ _ (Value.ref _) (Value.int _ _)) _ _ _); k_dflt (refine' item_anyT ?k1 ?k2 ?k3 ?k4 ?k5 ?_ ?k6; (case k1 => exact News.isTup (by k_asm) (by k_mem)); (case k2 => with_reducible assumption); (case k3 => omega); (case k4 => omega); (case k5 => omega); (case k6 => with_unfolding_all rfl); k_whole); intro _)) | ((k_here; (with_reducible show wpAny _ _ (call (Value.builtin "len") [Value.ref _]) _ _ _); k_dflt (refine' len_tupI ?k1 ?k2 ?k3 ?_; (case k1 => exact News.isTup (by k_asm) (by k_mem)); (case k2 => with_reducible assumption); (case k3 => omega); k_whole))) | ((k_here; (with_reducible show wpAny _ _ (call (Value.type _) [Value.ref _]) _ _ _); k_dflt (refine' kde_tupleOf ?k1 ?k2 ?k3 ?k4 ?k5 ?_; (case k1 => k_asm); (case k2 => k_asm); (case k3 => exact News.isList (by k_asm) (by k_mem)); (case k5 => exact rfl); (case k4 => (simp only [List.size_toArray]; (have hq9 := IntsAre.length (by assumption)); omega)); k_whole); intro D' h' F' N' l1; (try k_lt l1); (try k_sweep))) | ((with_reducible show wpAny _ _ (call (Value.ref _) _) _ _ _); (first | ((k_here; (with_reducible show wpAny _ _ (call (Value.ref 52) [Value.ref _, Value.int _ _]) _ _ _); k_dflt (refine' il_ok ?kB ?kF ?kX ?kN ?kT rfl ?kd ?ku ?kW ?kv ?kb ?k0 ?k1 ?_; (case kB => k_asm); (case kF => k_asm); (case kX => assumption); (case kN => k_asm); (case kT => k_asm); (case kd => ktr_room); (case ku => ktr_units); (case kW => ((with_reducible rename News _ _ _ _ => nW9); exact kst_newsOf nW9 (by kst_in))); (case kv => with_reducible assumption); (case kb => with_reducible assumption); (case k0 => omega); (case k1 => omega)); intro t' h' tk' F' N'; (try dsimp only); (try k_sweep))) | ((k_here; (with_reducible show wpAny _ _ (call (Value.ref 119) [Value.str _ _]) _ _ _); k_dflt (refine' parse_ok ?kB ?kF ?kX ?kN ?kT rfl ?kd ?ku ?k5 ?k1 ?k3 ?_; (case kB => k_asm); (case kF => k_asm); (case kX => assumption); (case kN => k_asm); (case kT => k_asm); (case kd => ktr_room); (case ku => ktr_units); (case k5 => omega); (case k1 => omega); (case k3 => assumption)); intro t' h' tk' F' N'; (try dsimp only); (try k_sweep))))) | (have hNo9 := NoOwn.mk; walk1))) | ((fail_if_success (first | (first | (with_reducible show wpAny _ _ (exec (Stmt.While _ _ _ _) _) _ _ _) | (with_reducible show wpAny _ _ (pyIter _) (fun it s₂ => LoopAtV _ _ _ _ _ _ _ _ _ it s₂) _ _) | (with_reducible show wpAny _ _ (pyIter _) (fun it s₂ => PairAt3 _ _ _ _ _ _ _ _ _ _ it s₂) _ _)) | ((with_reducible show LCg.CompSrc _ _ _ _ _ _ _ _ _ _ _ _ _ _)))); (first | walk1 | (dsimp only; walk1) | (leave1; try dsimp only)))))
    exact hret _ _ _ _ _ _ _ (by (first | assumption | ((rename (_ < _ ∧ _) => q9); (repeat (replace q9 := q9.2)); exact q9) | (exact allLt_of (by assumption)))) (by assumption) (by (first | assumption | ((with_reducible rename News _ _ _ _ => nE9); first | exact kst_newsOf nE9 (fun p hp => by kst_mem) | exact kst_newsOf nE9 (by kst_in))))
end
end
section
local macro_rules | `(tactic| walk_at "call ref") => `(tactic| walk_at "own")

section
local macro_rules | `(tactic| walk_at "compareOp NotEq ref ref") => `(tactic| walk_at "own")
theorem next_ok {w : World} {p : Program} {loose : List Str} {mean : ExcName → Option Value} {mg mb : Str → Option Value} {dp un : Nat} {gd : Option (List Code)} {cn : Str} {cs : Scope} {a : Addr} {ccd : Value} {cl : List (Str × Addr)} {A₀ : Around} {base h₀ : Heap} {L : Addr} {m : Str → Option Value} {news : List (Addr × Obj)} {s : Shared} {Q E : Value → Shared → Prop}
    (B : Below A₀ base [] h₀) (F : Fr h₀ L s.heap m) (X : (hd2.heap_39 w.params).In h₀) (N : News h₀ L s.heap news) (T : Top p loose mean mg mb h₀) (hk : cs.kind = .function) (hd : dp + 60 < recursionLimit) (hu : un + 600 < cLine)
    (XB : (hd2.heap_39 w.params).In base) (TB : Top p loose mean mg mb base)
    {n : Int} {tn : Tok} {ne tl co : Str} {t2 t3 t4 : Tok} {c : Nat} {ds tt : List Nat} (P : Parts ne tl co c ds tt) (hn : 65 ≤ n ∧ n ≤ 80) (hne : ne.length = 1) (htl : tl.length ≤ 3) (hco : co.length = 3)
    (hret : ∀ (t' : Tok) (h' : Heap) (tk' : Nat), Fr h₀ L h' m → News h₀ L h' news → Q (.int (nextF n) t') { s with heap := h', toks := tk' }) :
    wpAny (model PySem.Challenge.rw_xb0022_02.row.prog w) (ktrTop dp un gd cn cs L a ccd cl []) (call (.ref 171) [.int n tn, .str ne t2, .str tl t3, .str co t4]) Q E s := by
  revert X XB; k_fill; intro X XB
  have hMk := kstMark
  refine wpAny_call ?_
  ((k_dflt (refine' enter_try ?k1 ?k2 ?k3 ?k4 ?k5 ?kA ?kF ?kK ?k6 ?k7 ?k8 ?k9 ?kB ?_ ?c2 ?c3 ?c4 ?c5; (case kA => exact rfl); (case kF => exact rfl); (case kK => first | assumption | exact rfl); (case k2 => k_asm); (case k1 => k_asm); (case k3 => k_asm); (case k4 => k_asm); (case k5 => k_asm); (case k6 => k_is); (case k7 => k_is); (case k8 => ktr_room); (case k9 => exact BindsTo.of_eq rfl); (case kB => exact locs rfl); (case c2 => exact rfl); (case c3 => exact rfl); (case c4 => exact rfl); (case c5 => decide); k_whole; intro g' L' h' FG' F' N' B' X' T' D' l1; (try dsimp only); (try k_lift B'); (try k_fold))))
  have l0 : (Str.ofString "257 \"").length = 5 := by rw [show Str.ofString "257 \"" = S [50, 53, 55, 32, 34] from by decide +kernel, S_len]; rfl
  have l1 : (Str.ofString "\"").length = 1 := by rw [litQ, S_len]; rfl
  have l2 : (Str.ofString "257").length = 3 := by rw [lit257, S_len]; rfl
  have l3 : (Str.ofString "257 ").length = 4 := by rw [show Str.ofString "257 " = S [50, 53, 55, 32] from by decide +kernel, S_len]; rfl
  (repeat' (first | ((with_reducible rename NoOwn => hNo9); clear hNo9) | (k_unfold; (try dsimp only)) | ((with_reducible refine Own.mk ?_); (first | ((k_here; (with_reducible show wpAny _ _ (compareOp CmpOp.NotEq (Value.ref _) (Value.ref _)) _ _ _); k_dflt (refine' ne_one ?k1 ?k2 ?k3 ?k4 ?k7 ?_; (case k1 => exact News.isList (by k_asm) (by k_mem)); (case k2 => exact News.isList (by k_asm) (by k_mem)); (case k3 => with_reducible assumption); (case k4 => with_reducible assumption); (case k7 => ktr_units); k_whole))) | ((k_here; (with_reducible show wpAny _ _ (subscriptTail _ _ (Value.ref _) (Value.int _ _)) _ _ _); k_dflt (refine' item_anyT ?k1 ?k2 ?k3 ?k4 ?k5 ?_ ?k6; (case k1 => exact News.isTup (by k_asm) (by k_mem)); (case k2 => with_reducible assumption); (case k3 => omega); (case k4 => omega); (case k5 => omega); (case k6 => with_unfolding_all rfl); k_whole); intro _)) | ((k_here; (with_reducible show wpAny _ _ (call (Value.builtin "len") [Value.ref _]) _ _ _); k_dflt (refine' len_tupI ?k1 ?k2 ?k3 ?_; (case k1 => exact News.isTup (by k_asm) (by k_mem)); (case k2 => with_reducible assumption); (case k3 => omega); k_whole))) | ((k_here; (with_reducible show wpAny _ _ (call (Value.type _) [Value.ref _]) _ _ _); k_dflt (refine' kde_tupleOf ?k1 ?k2 ?k3 ?k4 ?k5 ?_; (case k1 => k_asm); (case k2 => k_asm); (case k3 => exact News.isList (by k_asm) (by k_mem)); (case k5 => exact rfl); (case k4 => (simp only [List.size_toArray]; (have hq9 := IntsAre.length (by assumption)); omega)); k_whole); intro D' h' F' N' l1; (try k_lt l1); (try k_sweep))) | ((with_reducible show wpAny _ _ (call (Value.ref _) _) _ _ _); (first | ((k_here; (with_reducible show wpAny _ _ (call (Value.ref 164) [Value.str _ _]) _ _ _); k_dflt (refine' heard_bad ?kB ?kF ?kX ?kN ?kT rfl ?kd ?ku ?XB ?TB ?D ?T0 ?k5 ?k1 ?k3 ?_; (case k3 => first | assumption | ((rename ((_ != _) = true → _ ≠ _) => q9); exact q9 (by assumption))); (case kF => k_asm); (case kB => k_asm); (case kX => assumption); (case kN => k_asm); (case kT => k_asm); (case kd => ktr_room); (case ku => ktr_units); (case XB => assumption); (case TB => assumption); (case D => assumption); (case T0 => first | assumption | exact KtsTurn.refl); (case k5 => omega); (case k1 => omega)); intro r' h' tk' g' T' l1' F' N' B' X' P' D'; (try dsimp only); (try k_lift B'); (try k_sweep))) | ((k_here; (with_reducible show wpAny _ _ (call (Value.ref 164) [Value.str _ _]) _ _ _); k_dflt (refine' heard_good ?kB ?kF ?kX ?kN ?kT rfl ?kd ?ku ?k5 ?k1 ?k3 ?_; (case kB => k_asm); (case kF => k_asm); (case kX => assumption); (case kN => k_asm); (case kT => k_asm); (case kd => ktr_room); (case ku => ktr_units); (case k5 => omega); (case k1 => omega); (case k3 => assumption)); intro t' h' tk' F' N'; (try dsimp only); (try k_sweep))) | ((k_here; (with_reducible show wpAny _ _ (call (Value.ref 119) [Value.str _ _]) _ _ _); k_dflt (refine' parse_ok ?kB ?kF ?kX ?kN ?kT rfl ?kd ?ku ?k5 ?k1 ?k3 ?_; (case kB => k_asm); (case kF => k_asm); (case kX => assumption); (case kN => k_asm); (case kT => k_asm); (case kd => ktr_room); (case ku => ktr_units); (case k5 => omega); (case k1 => omega); (case k3 => assumption)); intro t' h' tk' F' N'; (try dsimp only); (try k_sweep))))) | (have hNo9 := NoOwn.mk; walk1))) | ((fail_if_success (first | (first | (with_reducible show wpAny _ _ (exec (Stmt.While _ _ _ _) _) _ _ _) | (with_reducible show wpAny _ _ (pyIter _) (fun it s₂ => LoopAtV _ _ _ _ _ _ _ _ _ it s₂) _ _) | (with_reducible show wpAny _ _ (pyIter _) (fun it s₂ => PairAt3 _ _ _ _ _ _ _ _ _ _ it s₂) _ _)))); (first | walk1 | (dsimp only; walk1) | (leave1; try dsimp only)))))
  with_reducible rename Fr _ _ _ _ => F9
  have hl5 : 5 ≤ (Str.ofString "257 \"" ++ Txt.mul (Str.ofString "\"") (n - 65) ++ ne ++ co ++ tl).length ∧ (Str.ofString "257 \"" ++ Txt.mul (Str.ofString "\"") (n - 65) ++ ne ++ co ++ tl).length ≤ 40 := by omega
  generalize hR : Str.ofString "257 \"" ++ Txt.mul (Str.ofString "\"") (n - 65) ++ ne ++ co ++ tl = R at F9 hl5 ⊢
  have eR := P.reply hR
  have eH := PySem.Flt.Hid.mk eR
  have e3 := P.take eR
  have hTl := P.toldLen hn eR
  have hc := P.count eR
  have hc0 : 0 ≤ Txt.count (parseF R) (Str.ofString "\"") := by rw [hc]; exact Int.natCast_nonneg _
  have hc1 : Txt.count (parseF R) (Str.ofString "\"") ≤ 20 := by rw [hc]; omega
  have e4 : (co != Str.ofString "257") = true → (co ++ Txt.slice R (some 3) none).cps.toList.take 3 ≠ [50, 53, 55] := fun h => P.refuse h _
  have e5 := P.take4 eR
  have e6 := P.take5 eR
  have ok4 := P.ok4 eR
  have l4 := P.len4 eR
  have l5 := P.len5 eR
  clear hc eR hR
  obtain ⟨hl5a, hl5b⟩ := hl5
  (repeat' (first | ((with_reducible rename NoOwn => hNo9); clear hNo9) | (k_unfold; (try dsimp only)) | ((with_reducible refine Own.mk ?_); (first | ((k_here; (with_reducible show wpAny _ _ (compareOp CmpOp.NotEq (Value.ref _) (Value.ref _)) _ _ _); k_dflt (refine' ne_one ?k1 ?k2 ?k3 ?k4 ?k7 ?_; (case k1 => exact News.isList (by k_asm) (by k_mem)); (case k2 => exact News.isList (by k_asm) (by k_mem)); (case k3 => with_reducible assumption); (case k4 => with_reducible assumption); (case k7 => ktr_units); k_whole))) | ((k_here; (with_reducible show wpAny _ _ (subscriptTail _ _ (Value.ref _) (Value.int _ _)) _ _ _); k_dflt (refine' item_anyT ?k1 ?k2 ?k3 ?k4 ?k5 ?_ ?k6; (case k1 => exact News.isTup (by k_asm) (by k_mem)); (case k2 => with_reducible assumption); (case k3 => omega); (case k4 => omega); (case k5 => omega); (case k6 => with_unfolding_all rfl); k_whole); intro _)) | ((k_here; (with_reducible show wpAny _ _ (call (Value.builtin "len") [Value.ref _]) _ _ _); k_dflt (refine' len_tupI ?k1 ?k2 ?k3 ?_; (case k1 => exact News.isTup (by k_asm) (by k_mem)); (case k2 => with_reducible assumption); (case k3 => omega); k_whole))) | ((k_here; (with_reducible show wpAny _ _ (call (Value.type _) [Value.ref _]) _ _ _); k_dflt (refine' kde_tupleOf ?k1 ?k2 ?k3 ?k4 ?k5 ?_; (case k1 => k_asm); (case k2 => k_asm); (case k3 => exact News.isList (by k_asm) (by k_mem)); (case k5 => exact rfl); (case k4 => (simp only [List.size_toArray]; (have hq9 := IntsAre.length (by assumption)); omega)); k_whole); intro D' h' F' N' l1; (try k_lt l1); (try k_sweep))) | ((with_reducible show wpAny _ _ (call (Value.ref _) _) _ _ _); (first | ((k_here; (with_reducible show wpAny _ _ (call (Value.ref 164) [Value.str _ _]) _ _ _); k_dflt (refine' heard_bad ?kB ?kF ?kX ?kN ?kT rfl ?kd ?ku ?XB ?TB ?D ?T0 ?k5 ?k1 ?k3 ?_; (case k3 => first | assumption | ((rename ((_ != _) = true → _ ≠ _) => q9); exact q9 (by assumption))); (case kF => k_asm); (case kB => k_asm); (case kX => assumption); (case kN => k_asm); (case kT => k_asm); (case kd => ktr_room); (case ku => ktr_units); (case XB => assumption); (case TB => assumption); (case D => assumption); (case T0 => first | assumption | exact KtsTurn.refl); (case k5 => omega); (case k1 => omega)); intro r' h' tk' g' T' l1' F' N' B' X' P' D'; (try dsimp only); (try k_lift B'); (try k_sweep))) | ((k_here; (with_reducible show wpAny _ _ (call (Value.ref 164) [Value.str _ _]) _ _ _); k_dflt (refine' heard_good ?kB ?kF ?kX ?kN ?kT rfl ?kd ?ku ?k5 ?k1 ?k3 ?_; (case kB => k_asm); (case kF => k_asm); (case kX => assumption); (case kN => k_asm); (case kT => k_asm); (case kd => ktr_room); (case ku => ktr_units); (case k5 => omega); (case k1 => omega); (case k3 => assumption)); intro t' h' tk' F' N'; (try dsimp only); (try k_sweep))) | ((k_here; (with_reducible show wpAny _ _ (call (Value.ref 119) [Value.str _ _]) _ _ _); k_dflt (refine' parse_ok ?kB ?kF ?kX ?kN ?kT rfl ?kd ?ku ?k5 ?k1 ?k3 ?_; (case kB => k_asm); (case kF => k_asm); (case kX => assumption); (case kN => k_asm); (case kT => k_asm); (case kd => ktr_room); (case ku => ktr_units); (case k5 => omega); (case k1 => omega); (case k3 => assumption)); intro t' h' tk' F' N'; (try dsimp only); (try k_sweep))))) | (have hNo9 := NoOwn.mk; walk1))) | ((fail_if_success (first | (first | (with_reducible show wpAny _ _ (exec (Stmt.While _ _ _ _) _) _ _ _) | (with_reducible show wpAny _ _ (pyIter _) (fun it s₂ => LoopAtV _ _ _ _ _ _ _ _ _ it s₂) _ _) | (with_reducible show wpAny _ _ (pyIter _) (fun it s₂ => PairAt3 _ _ _ _ _ _ _ _ _ _ it s₂) _ _)))); (first | walk1 | (dsimp only; walk1) | (leave1; try dsimp only)))))
  all_goals first
    | exact (P.listed eH.out (by with_reducible assumption)).elim
    | exact (P.nil4 eH.out (by with_reducible assumption)).elim
    | exact (P.nil5 eH.out (by with_reducible assumption)).elim
    | exact (Parts.same4 _ (by with_reducible assumption)).elim
    | (rw [P.yes eH.out (by with_reducible assumption)]; exact hret _ _ _ (by assumption) (by (first | assumption | ((with_reducible rename News _ _ _ _ => nE9); first | exact kst_newsOf nE9 (fun p hp => by kst_mem) | exact kst_newsOf nE9 (by kst_in)))))
    | (rw [P.not eH.out (by with_reducible assumption)]; exact hret _ _ _ (by assumption) (by (first | assumption | ((with_reducible rename News _ _ _ _ => nE9); first | exact kst_newsOf nE9 (fun p hp => by kst_mem) | exact kst_newsOf nE9 (by kst_in)))))
    | skip
  all_goals trace_state
end
end
theorem int2ap_word {w : World} {p : Program} {loose : List Str} {mean : ExcName → Option Value} {mg mb : Str → Option Value} {dp un : Nat} {gd : Option (List Code)} {cn : Str} {cs : Scope} {a : Addr} {ccd : Value} {cl : List (Str × Addr)} {outer : List Env} {A₀ : Around} {base h₀ : Heap} {L : Addr} {m : Str → Option Value} {news : List (Addr × Obj)} {s : Shared} {Q E : Value → Shared → Prop}
    (B : Below A₀ base outer h₀) (F : Fr h₀ L s.heap m) (X : (hd2.heap_39 w.params).In h₀) (N : News h₀ L s.heap news) (T : Top p loose mean mg mb h₀) (hk : cs.kind = .function) (hd : dp + 20 < recursionLimit) (hu : un + 200 < cLine)
    {f g x : Int} {tn : Tok} (hf : 0 ≤ f ∧ f ≤ 15) (hg : 0 ≤ g ∧ g ≤ 15)
    (hret : ∀ (tb : Array UInt8) (t : Tok) (h' : Heap) (tk' : Nat), ToldF f g tb → tb.size ≤ 2 → Fr h₀ L h' m → News h₀ L h' news → Q (.bytes tb t) { s with heap := h', toks := tk' }) :
    wpAny (model PySem.Challenge.rw_xb0022_02.row.prog w) (ktrTop dp un gd cn cs L a ccd cl outer) (call (.ref 126) [.int ((16 * f + g) * (1 - 2 * x.fmod 2)) tn]) Q E s := by
  have e := ap_abs (a := 16 * f + g) (x := x) (by omega)
  refine int2ap_ok B F X N T hk hd hu (by rw [e]; omega) fun t h' tk' F' N' => ?_
  have q : ToldF f g (apF ((16 * f + g) * (1 - 2 * x.fmod 2)).natAbs) := by
    have := told_of ⟨f.toNat, by omega⟩ ⟨g.toNat, by omega⟩
    dsimp only at this
    rw [e]
    rw [show ((f.toNat : Nat) : Int) = f by omega, show ((g.toNat : Nat) : Int) = g by omega, show 16 * f.toNat + g.toNat = (16 * f + g).toNat by omega] at this
    exact this
  exact hret _ t h' tk' q q.size F' N'

local macro_rules | `(tactic| walk_at "call ref") => `(tactic| walk_at "own")

section




local macro_rules | `(tactic| walk_at "subscriptTail Name Constant ref int") => `(tactic| walk_at "own")
local macro_rules | `(tactic| walk_at "eval ListComp") => `(tactic| (k_here; k_dflt (refine LCg.ListComp_U (F₀ := by k_asm) (by rfl) (by decide) (by rfl) (by decide) (by rfl) ?_)))
local macro_rules | `(tactic| walk_at "subscriptTail Name Name ref int") => `(tactic| walk_at "own")
local macro_rules | `(tactic| walk_at "subscriptTail Subscript Constant ref int") => `(tactic| walk_at "own")
local macro_rules | `(tactic| walk_at "compareOp NotEq ref ref") => `(tactic| walk_at "own")
local macro_rules | `(tactic| walk_at "compareOp IsNot bool bool") => `(tactic| walk_at "own")
local macro_rules | `(tactic| walk_at "FinE") => `(tactic| ((unfold LCg.FinE); intro D' h' tk' F' N' o1'; (replace o1' := offH_of o1'); (try simp only [List.map_cons, List.map_nil] at o1'); (try simp only [List.nil_append, List.cons_append] at N'); (try dsimp only)))
local macro_rules | `(tactic| walk_at "exec If") => `(tactic| (k_here; refine wpAny_If ?_))
local macro_rules | `(tactic| walk_at "callWith") => `(tactic| (k_here; (refine callWith_method1 ?_)))
local macro_rules | `(tactic| walk_at "call builtin:list.append") => `(tactic| walk_at "own")
local macro_rules | `(tactic| walk_at "binaryOp Add bytes bytes") => `(tactic| walk_at "own")
local macro_rules | `(tactic| walk_at "compareOp NotEq bytes bytes") => `(tactic| walk_at "own")
local macro_rules | `(tactic| walk_at "compareOp Eq bytes bytes") => `(tactic| walk_at "own")
local macro_rules | `(tactic| walk_at "eval ListComp") => `(tactic| (k_here; (with_reducible show wpAny _ _ (eval (PySem.Expr.ListComp _ [Comprehension.mk _ (PySem.Expr.Name (Str.ofString "word") _) _ _] _ _) _) _ _ _); k_dflt (refine ListComp_B (F₀ := by k_asm) (by rfl) (by decide) (by rfl) (by decide) (by rfl) ?_)))
local macro_rules | `(tactic| walk_at "compareOp Eq int int") => `(tactic| walk_at "own")
local macro_rules | `(tactic| walk_at "compareOp Gt int int") => `(tactic| walk_at "own")
noncomputable def lawDef := (⟨_, hd2⟩ : Σ' d, (PySem.W.WalkO hd2.view_39 _ _ _ _ d _ _ → PySem.Challenge.rw_xb0022_02.Holds)).1
local macro_rules | `(tactic| k_all) => `(tactic| ((with_reducible rename LtMark => hLt9); ((repeat' (first | exact List.forall_mem_nil _ | (refine List.forall_mem_cons.mpr ⟨?_, ?_⟩) | (first | with_reducible assumption | exact LtAll.nes (by with_reducible assumption) (fun _ hp => (by (repeat' first | exact hp | apply List.Mem.tail)))) | k_ne)))))
local macro_rules | `(tactic| k_ne) => `(tactic| ((refine neN ?_); (try dsimp only); (first | ((with_reducible refine OffH.ne1 (by assumption) ?_); k_mem) | ((with_reducible refine OffH.ne2 (by assumption) ?_); k_mem) | ((with_reducible refine LtAll.ne1 (by assumption) ?_); k_mem) | ((with_reducible refine LtAll.ne2 (by assumption) ?_); k_mem) | omega)))
local macro_rules | `(tactic| k_lt $h:ident) => `(tactic| ((with_reducible rename LtMark => hLt9); (have lA9 := LtAll.of $h); (simp only [List.map_cons, List.map_nil] at lA9); (replace $h := lt_keep [(), (), (), (), (), (), (), ()] $h); (simp only [LtK, and_true] at $h:ident)))
section
/-- a table's figures: from `more` to the append -/
theorem tab_ok {w : World} {loose : List Str} {mean : ExcName → Option Value} {mg mb : Str → Option Value} {h₀ : Heap} {L fx rr : Addr} {sc : Scope} {code : List Stmt} {m : Str → Option Value} {s : Shared} {Q : Flow → Shared → Prop} {E : Value → Shared → Prop} {nt : List (Addr × Obj)}
    (hsc : sc = lawDef.scope) (hcode : code = forB (nthS (forB (nthS lawDef.body 11)) 2))
    (K0 : Below callerA h₀ [] h₀) (F : Fr h₀ L s.heap m) (KX : (hd2.heap_39 w.params).In h₀) (T : Top hd2.view_39 loose mean mg mb h₀)
    {i : Int} {ti : Tok} {aF lT lC a e tn tc : Addr} {oT oR oH : Obj} {vH : Option Value} {vsT vsC : List Value} {kC kF : Nat} {figs : Array Value} {vs : List Value} {kt : WTok} {y : Str} {c r : Int} {tc' tr : Tok}
    (m1 : m (Str.ofString "table") = some (.int i ti)) (m2 : m (Str.ofString "cards") = some (.ref lC)) (m3 : m (Str.ofString "figures") = some (.ref aF))
    (N : News h₀ L s.heap ((L + 1 + 1 + 1 + 1 + 1 + 1 + 1, oH) :: (aF, PySem.W.listOf figs kF) :: nt))
    (nT : (L + 1 + 1 + 1 + 1 + 1 + 1, oT) ∈ nt) (nR : (L + 1, oR) ∈ nt) (nlT : (lT, LCg.lst vsT) ∈ nt) (nlC : (lC, PySem.W.listOf vsC.toArray kC) ∈ nt)
    (n1 : (a, instObj 83 e) ∈ nt) (n2 : (e, dictOf (wsDict w y tn kt) 5) ∈ nt) (n3 : (tn, tupOf [.ref tc, .int (wsOf y).b kt.v4]) ∈ nt) (n4 : (tc, tupOf vs) ∈ nt)
    (hT : oT.data = .cell (some (.ref lT))) (hR : oR.data = .cell (some (.int r tr))) (hH : oH.data = .cell vH)
    (hi : decide (0 ≤ i ∧ i < 1000) = true) (hvT : nthV vsT.toArray.toList i.toNat = some (.ref a)) (hvC : nthV vsC.toArray.toList i.toNat = some (.int c tc'))
    (hnH : ∀ p ∈ nt, (p : Addr × Obj).1 ≠ L + 1 + 1 + 1 + 1 + 1 + 1 + 1) (hnF : ∀ p ∈ nt, (p : Addr × Obj).1 ≠ aF) (hFH : @LT.lt Nat _ (L + 1 + 1 + 1 + 1 + 1 + 1 + 1) aF)
    (hfs : figs.size ≤ 9) (hv : IntsAre vs (wsOf y).ns) (hb : WSB y) (hc : 0 ≤ c ∧ c ≤ 1000) (hr : 0 ≤ r ∧ r < 4)
    (fa : 0 ≤ moreFirst y c r ∧ moreFirst y c r ≤ 1) (fb : 0 ≤ moreSecond y c r ∧ moreSecond y c r ≤ 1) (fc : 0 ≤ moreThird y c r ∧ moreThird y c r ≤ 1) (fd : 0 ≤ moreLast y c r ∧ moreLast y c r ≤ 1)
    (fe : (wsOf y).ns = dueL (moreFirst y c r) (moreSecond y c r) (moreThird y c r) (moreLast y c r)) (ff : (wsOf y).b = r)
    (hret : ∀ (h' : Heap) (tk' : Nat) (oH' : Obj) (vH' vm vd : Option Value) (tf : Tok), oH'.data = .cell vH' → Fr h₀ L h' (fun z => if z = Str.ofString "due" then vd else if z = Str.ofString "more" then vm else m z) →
      News h₀ L h' ((L + 1 + 1 + 1 + 1 + 1 + 1 + 1, oH') :: (aF, PySem.W.listOf (figs.push (.int (8 * moreFirst y c r + 4 * moreSecond y c r + 2 * moreThird y c r + moreLast y c r) tf)) (kF + 1)) :: nt) →
      wpAny (model PySem.Challenge.rw_xb0022_02.row.prog w) (callerA.deeper (envOfC (Str.ofString "law") sc L fx (.ref rr))) (execs (code.drop 5) (envOfC (Str.ofString "law") sc L fx (.ref rr))) Q E { s with heap := h', toks := tk' }) :
    wpAny (model PySem.Challenge.rw_xb0022_02.row.prog w) (callerA.deeper (envOfC (Str.ofString "law") sc L fx (.ref rr))) (execs code (envOfC (Str.ofString "law") sc L fx (.ref rr))) Q E s := by
  simp only [lawDef, nthS, forB] at hsc hcode
  subst hsc hcode
  revert KX; k_fill; intro KX
  have hMk := kstMark
  have hLt := LtMark.mk
  have hp0 : ∀ p ∈ [(Str.ofString "table", Value.int i ti), (Str.ofString "figures", Value.ref aF), (Str.ofString "cards", Value.ref lC)], m (p : Str × Value).1 = some p.2 := List.forall_mem_cons.mpr ⟨m1, List.forall_mem_cons.mpr ⟨m3, List.forall_mem_cons.mpr ⟨m2, List.forall_mem_nil _⟩⟩⟩
  have F0 := fr_pickL [(Str.ofString "table", Value.int i ti), (Str.ofString "figures", Value.ref aF), (Str.ofString "cards", Value.ref lC)] hp0 F
  simp only [pickF] at F0
  have N0 : News h₀ L s.heap ((L + 1 + 1 + 1 + 1 + 1 + 1 + 1, oH) :: (aF, PySem.W.listOf figs kF) :: (a, instObj 83 e) :: (e, dictOf (wsDict w y tn kt) 5) :: (tn, tupOf [.ref tc, .int (wsOf y).b kt.v4]) :: (tc, tupOf vs) :: (lT, LCg.lst vsT) :: (lC, PySem.W.listOf vsC.toArray kC) :: (L + 1 + 1 + 1 + 1 + 1 + 1, oT) :: (L + 1, oR) :: nt) :=
    List.forall_mem_cons.mpr ⟨N _ (.head _), List.forall_mem_cons.mpr ⟨N _ (.tail _ (.head _)), List.forall_mem_cons.mpr ⟨N _ (.tail _ (.tail _ n1)), List.forall_mem_cons.mpr ⟨N _ (.tail _ (.tail _ n2)), List.forall_mem_cons.mpr ⟨N _ (.tail _ (.tail _ n3)), List.forall_mem_cons.mpr ⟨N _ (.tail _ (.tail _ n4)), List.forall_mem_cons.mpr ⟨N _ (.tail _ (.tail _ nlT)), List.forall_mem_cons.mpr ⟨N _ (.tail _ (.tail _ nlC)), List.forall_mem_cons.mpr ⟨N _ (.tail _ (.tail _ nT)), List.forall_mem_cons.mpr ⟨N _ (.tail _ (.tail _ nR)), fun p hp => N p (.tail _ (.tail _ hp))⟩⟩⟩⟩⟩⟩⟩⟩⟩⟩
  have oF1 : OffH aF [a, e, tn, tc, lT, lC, L + 1 + 1 + 1 + 1 + 1 + 1, L + 1] := .mk (List.forall_mem_cons.mpr ⟨hnF _ n1, List.forall_mem_cons.mpr ⟨hnF _ n2, List.forall_mem_cons.mpr ⟨hnF _ n3, List.forall_mem_cons.mpr ⟨hnF _ n4, List.forall_mem_cons.mpr ⟨hnF _ nlT, List.forall_mem_cons.mpr ⟨hnF _ nlC, List.forall_mem_cons.mpr ⟨hnF _ nT, List.forall_mem_cons.mpr ⟨hnF _ nR, List.forall_mem_nil _⟩⟩⟩⟩⟩⟩⟩⟩)
  have oH1 : OffH (L + 1 + 1 + 1 + 1 + 1 + 1 + 1) [a, e, tn, tc, lT, lC, L + 1 + 1 + 1 + 1 + 1 + 1, L + 1] := .mk (List.forall_mem_cons.mpr ⟨hnH _ n1, List.forall_mem_cons.mpr ⟨hnH _ n2, List.forall_mem_cons.mpr ⟨hnH _ n3, List.forall_mem_cons.mpr ⟨hnH _ n4, List.forall_mem_cons.mpr ⟨hnH _ nlT, List.forall_mem_cons.mpr ⟨hnH _ nlC, List.forall_mem_cons.mpr ⟨hnH _ nT, List.forall_mem_cons.mpr ⟨hnH _ nR, List.forall_mem_nil _⟩⟩⟩⟩⟩⟩⟩⟩)
  clear F N n1 n2 n3 n4 nlT nlC nT nR
  (repeat' (first | ((with_reducible rename NoOwn => hNo9); clear hNo9) | (k_unfold; (try dsimp only)) | ((with_reducible refine Own.mk ?_); (first | (((with_reducible show wpAny _ _ (subscriptTail _ _ (Value.ref _) (Value.int _ _)) _ _ _); k_dflt (refine' item_lit ?k1 ?k2 ?k3 ?_ ?k6; (case k1 => exact News.isList (by k_asm) (by k_mem)); (case k2 => with_reducible assumption); (case k3 => first | with_reducible assumption | exact nth_push (by with_reducible assumption)); (case k6 => with_unfolding_all rfl); k_whole))) | ((k_here; (with_reducible show wpAny _ _ (compareOp _ (Value.int (0 + _) _) (Value.int 0 _)) _ _ _); (refine gt_int_yes ?e ?_); (case e => omega))) | ((k_here; (with_reducible show wpAny _ _ (compareOp _ (Value.int (0 + _) _) (Value.int 0 _)) _ _ _); (refine eq_int_no ?e ?_); (case e => omega))) | ((with_reducible show wpAny _ _ (compareOp CmpOp.IsNot (Value.bool _) (Value.bool _)) _ _ _); (k_here; (with_reducible refine isnot_same ?e ?_); (case e => with_reducible assumption))) | ((k_here; (with_reducible rename NextMark => hN9); (with_reducible show wpAny _ _ (compareOp CmpOp.NotEq (Value.ref _) (Value.ref _)) _ _ _); k_dflt (refine' ne_pair_no ?k1 ?k2 ?e1 ?e2 ?k7 ?_; (case k1 => exact News.isList (by k_asm) (by k_mem)); (case k2 => exact News.isList (by k_asm) (by k_mem)); (case e1 => with_reducible assumption); (case e2 => with_reducible assumption); (case k7 => ktr_units); k_whole); clear hN9)) | ((with_reducible show wpAny _ _ (compareOp CmpOp.Eq (Value.bytes _ _) (Value.bytes _ _)) _ _ _); (k_here; (refine eq_bytes_no (by assumption) ?_))) | ((k_here; (with_reducible show wpAny _ _ (subscriptTail _ (PySem.Expr.Slice _ _ none _) (Value.bytes _ _) (Value.ref _)) _ _ _); (with_reducible rename ToldF _ _ _ => hT9); (with_reducible rename Fr _ _ _ _ => F'); (with_reducible rename News _ _ _ _ => N'); (refine told_slice (s := ⟨_, _, _, _, _⟩) hT9 F' N' ?_); intro _ _ _ _ _ hP')) | ((with_reducible show wpAny _ _ (compareOp CmpOp.NotEq (Value.bytes _ _) (Value.bytes _ _)) _ _ _); (k_here; (refine ne_bytes_no ?e ?_); (case e => exact word_eq (by omega) (by omega)))) | ((with_reducible show wpAny _ _ (binaryOp _ (Value.bytes _ _) (Value.bytes _ _)) _ _ _); (k_here; (with_reducible rename ToldF _ _ _ => hT9); (refine word_add hT9 ?_); intro t' k')) | ((k_here; (with_reducible show wpAny _ _ (call (Value.builtin _) [Value.ref _, _]) _ _ _); k_dflt (refine' append_K ?k1 ?k2 ?k3 ?_ ?z; (case k1 => k_asm); (case k2 => k_asm); (case k3 => k_upd); (case z => exact Nat.le_of_ble_eq_true rfl); k_whole); intro h' F' N'; (try k_sweep))) | ((k_here; (with_reducible show wpAny _ _ (subscriptTail (PySem.Expr.Subscript _ _ _) _ (Value.ref _) (Value.int _ _)) _ _ _); k_dflt (refine' tup_lit ?k1 ?k2 ?k3 ?_ ?k6; (case k1 => exact News.isTup (by k_asm) (by k_mem)); (case k2 => exact rfl); (case k3 => exact rfl); (case k6 => with_unfolding_all rfl); k_whole))) | (((with_reducible show wpAny _ _ (subscriptTail _ _ (Value.ref _) (Value.int _ _)) _ _ _); k_dflt (refine' tup_lit ?k1 ?k2 ?k3 ?_ ?k6; (case k1 => exact News.isTup (by k_asm) (by k_mem)); (case k2 => exact rfl); (case k3 => exact rfl); (case k6 => with_unfolding_all rfl); k_whole))) | ((with_reducible show wpAny _ _ (compareOp CmpOp.IsNot (Value.bool _) (Value.bool _)) _ _ _); (k_here; (with_reducible refine isnot_same ?e ?_); (case e => first | exact eq_yes | exact eq_no (by with_reducible assumption) (by with_reducible assumption)))) | ((k_here; (with_reducible show wpAny _ _ (compareOp CmpOp.NotEq (Value.ref _) (Value.ref _)) _ _ _); k_dflt (refine' norm_ne_no ?k1 ?k2 ?k3 ?k4 ?k5 ?k6 ?e1 ?e2 ?k7 ?_; (case k1 => exact News.isTup (by k_asm) (by k_mem)); (case k4 => exact News.isTup (by k_asm) (by k_mem)); (case k2 => exact News.isTup (by k_asm) (by k_mem)); (case k5 => exact News.isTup (by k_asm) (by k_mem)); (case k3 => with_reducible assumption); (case k6 => with_reducible assumption); (case e1 => with_reducible assumption); (case e2 => with_reducible assumption); (case k7 => ktr_units); k_whole))) | (((with_reducible show wpAny _ _ (subscriptTail _ _ (Value.ref _) (Value.int _ _)) _ _ _); k_dflt (refine' item_lit ?k1 ?k2 ?k3 ?_ ?k6; (case k1 => exact News.isList (by k_asm) (by k_mem)); (case k2 => exact rfl); (case k3 => exact rfl); (case k6 => with_unfolding_all rfl); k_whole))) | ((k_here; (with_reducible show wpAny _ _ (subscriptTail _ _ (Value.ref _) (Value.int _ _)) _ _ _); k_dflt (refine' item_lit ?k1 ?k2 ?k3 ?_ ?k6; (case k1 => exact News.isList (by k_asm) (by k_mem)); (case k2 => exact rfl); (case k3 => exact rfl); (case k6 => with_unfolding_all rfl); k_whole))) | ((k_here; (with_reducible show wpAny _ _ (subscriptTail _ _ (Value.ref _) (Value.int _ _)) _ _ _); k_dflt (refine' item_anyT ?k1 ?k2 ?k3 ?k4 ?k5 ?_ ?k6; (case k1 => exact News.isTup (by k_asm) (by k_mem)); (case k2 => with_reducible assumption); (case k3 => omega); (case k4 => omega); (case k5 => omega); (case k6 => with_unfolding_all rfl); k_whole); intro _)) | ((k_here; (with_reducible show wpAny _ _ (call (Value.builtin "len") [Value.ref _]) _ _ _); k_dflt (refine' len_tupI ?k1 ?k2 ?k3 ?_; (case k1 => exact News.isTup (by k_asm) (by k_mem)); (case k2 => with_reducible assumption); (case k3 => omega); k_whole))) | ((k_here; (with_reducible show wpAny _ _ (call (Value.type _) [Value.ref _]) _ _ _); k_dflt (refine' kde_tupleOf ?k1 ?k2 ?k3 ?k4 ?k5 ?_; (case k1 => k_asm); (case k2 => k_asm); (case k3 => exact News.isList (by k_asm) (by k_mem)); (case k5 => exact rfl); (case k4 => (simp only [List.size_toArray]; (have hq9 := IntsAre.length (by assumption)); omega)); k_whole); intro D' h' F' N' l1; (try k_lt l1); (try k_sweep))) | ((with_reducible show wpAny _ _ (call (Value.ref _) _) _ _ _); (first | ((k_here; (with_reducible show wpAny _ _ (call (Value.ref 157) [Value.ref _, Value.int _ _, Value.int _ _]) _ _ _); k_dflt (refine' more_ok ?kB ?kF ?kX ?kN ?kT rfl ?kd ?ku ?kW ?kv ?kb ?kc ?kr ?_; (case kB => k_asm); (case kF => k_asm); (case kX => assumption); (case kN => k_asm); (case kT => k_asm); (case kd => ktr_room); (case ku => ktr_units); (case kW => ((with_reducible rename News _ _ _ _ => nW9); exact kst_newsOf nW9 (by kst_in))); (case kv => with_reducible assumption); (case kb => with_reducible assumption); (case kc => omega); (case kr => omega)); intro q' u1' u2' u3' u4' h' tk' l1' F' N'; (try dsimp only); (replace l1' := alt_keep [(), (), (), (), (), (), (), ()] l1'); (simp only [LtK, and_true] at l1'); (try k_sweep))))) | (have hNo9 := NoOwn.mk; walk1))) | ((fail_if_success (first | (first | (with_reducible show wpAny _ _ (exec (Stmt.While _ _ _ _) _) _ _ _) | (with_reducible show wpAny _ _ (pyIter _) (fun it s₂ => LoopAtV _ _ _ _ _ _ _ _ _ it s₂) _ _) | (with_reducible show wpAny _ _ (pyIter _) (fun it s₂ => PairAt3 _ _ _ _ _ _ _ _ _ _ it s₂) _ _)) | ((with_reducible show LCg.CompSrc _ _ _ _ _ _ _ _ _ _ _ _ _ _)) | ((with_reducible show SrcB _ _ _ _ _ _ _ _ _ _ _ _ _ _)) | ((with_reducible show wpAny _ _ (execs (Stmt.If (PySem.Expr.Compare (PySem.Expr.Name _ _) _ _ _) _ _ _ :: _) _) _ _ _)))); (first | walk1 | (dsimp only; walk1) | (leave1; try dsimp only)))))
  with_reducible rename Fr _ _ _ _ => lF9
  with_reducible rename News _ _ _ _ => lN9
  replace lN9 := news_keep [true, false, false, false] lN9
  dsimp only [keepL] at lN9
  (with_reducible rename IsRange _ _ _ _ _ _ _ _ => lR9)
  (with_reducible rename _ ∈ _ => hMm)
  (with_reducible rename (∀ (a : Int), a ∈ _ → a ≤ _) => hMx)
  have hM := due_max hMm hMx fa fb fc fd
  clear hMm hMx
  subst hM
  refine LCg.CompSrc.range (n := _) (by rfl) lF9 lN9 lR9 (due_small fa) (due_size fa) (due_line fa) ?_
  intro g
  refine rest_due fa fb fc fd ?_ ?_
  · intro i t I oI C oC D ys m₂ h tk E' hi hC hx' F' N' off ne
    clear lF9 lN9 lR9
    (repeat' (first | ((with_reducible rename NoOwn => hNo9); clear hNo9) | (k_unfold; (try dsimp only)) | ((with_reducible refine Own.mk ?_); (first | (((with_reducible show wpAny _ _ (subscriptTail _ _ (Value.ref _) (Value.int _ _)) _ _ _); k_dflt (refine' item_lit ?k1 ?k2 ?k3 ?_ ?k6; (case k1 => exact News.isList (by k_asm) (by k_mem)); (case k2 => with_reducible assumption); (case k3 => first | with_reducible assumption | exact nth_push (by with_reducible assumption)); (case k6 => with_unfolding_all rfl); k_whole))) | ((k_here; (with_reducible show wpAny _ _ (compareOp _ (Value.int (0 + _) _) (Value.int 0 _)) _ _ _); (refine gt_int_yes ?e ?_); (case e => omega))) | ((k_here; (with_reducible show wpAny _ _ (compareOp _ (Value.int (0 + _) _) (Value.int 0 _)) _ _ _); (refine eq_int_no ?e ?_); (case e => omega))) | ((with_reducible show wpAny _ _ (compareOp CmpOp.IsNot (Value.bool _) (Value.bool _)) _ _ _); (k_here; (with_reducible refine isnot_same ?e ?_); (case e => with_reducible assumption))) | ((k_here; (with_reducible rename NextMark => hN9); (with_reducible show wpAny _ _ (compareOp CmpOp.NotEq (Value.ref _) (Value.ref _)) _ _ _); k_dflt (refine' ne_pair_no ?k1 ?k2 ?e1 ?e2 ?k7 ?_; (case k1 => exact News.isList (by k_asm) (by k_mem)); (case k2 => exact News.isList (by k_asm) (by k_mem)); (case e1 => with_reducible assumption); (case e2 => with_reducible assumption); (case k7 => ktr_units); k_whole); clear hN9)) | ((with_reducible show wpAny _ _ (compareOp CmpOp.Eq (Value.bytes _ _) (Value.bytes _ _)) _ _ _); (k_here; (refine eq_bytes_no (by assumption) ?_))) | ((k_here; (with_reducible show wpAny _ _ (subscriptTail _ (PySem.Expr.Slice _ _ none _) (Value.bytes _ _) (Value.ref _)) _ _ _); (with_reducible rename ToldF _ _ _ => hT9); (with_reducible rename Fr _ _ _ _ => F'); (with_reducible rename News _ _ _ _ => N'); (refine told_slice (s := ⟨_, _, _, _, _⟩) hT9 F' N' ?_); intro _ _ _ _ _ hP')) | ((with_reducible show wpAny _ _ (compareOp CmpOp.NotEq (Value.bytes _ _) (Value.bytes _ _)) _ _ _); (k_here; (refine ne_bytes_no ?e ?_); (case e => exact word_eq (by omega) (by omega)))) | ((with_reducible show wpAny _ _ (binaryOp _ (Value.bytes _ _) (Value.bytes _ _)) _ _ _); (k_here; (with_reducible rename ToldF _ _ _ => hT9); (refine word_add hT9 ?_); intro t' k')) | ((k_here; (with_reducible show wpAny _ _ (call (Value.builtin _) [Value.ref _, _]) _ _ _); k_dflt (refine' append_K ?k1 ?k2 ?k3 ?_ ?z; (case k1 => k_asm); (case k2 => k_asm); (case k3 => k_upd); (case z => exact Nat.le_of_ble_eq_true rfl); k_whole); intro h' F' N'; (try k_sweep))) | ((k_here; (with_reducible show wpAny _ _ (subscriptTail (PySem.Expr.Subscript _ _ _) _ (Value.ref _) (Value.int _ _)) _ _ _); k_dflt (refine' tup_lit ?k1 ?k2 ?k3 ?_ ?k6; (case k1 => exact News.isTup (by k_asm) (by k_mem)); (case k2 => exact rfl); (case k3 => exact rfl); (case k6 => with_unfolding_all rfl); k_whole))) | (((with_reducible show wpAny _ _ (subscriptTail _ _ (Value.ref _) (Value.int _ _)) _ _ _); k_dflt (refine' tup_lit ?k1 ?k2 ?k3 ?_ ?k6; (case k1 => exact News.isTup (by k_asm) (by k_mem)); (case k2 => exact rfl); (case k3 => exact rfl); (case k6 => with_unfolding_all rfl); k_whole))) | ((with_reducible show wpAny _ _ (compareOp CmpOp.IsNot (Value.bool _) (Value.bool _)) _ _ _); (k_here; (with_reducible refine isnot_same ?e ?_); (case e => first | exact eq_yes | exact eq_no (by with_reducible assumption) (by with_reducible assumption)))) | ((k_here; (with_reducible show wpAny _ _ (compareOp CmpOp.NotEq (Value.ref _) (Value.ref _)) _ _ _); k_dflt (refine' norm_ne_no ?k1 ?k2 ?k3 ?k4 ?k5 ?k6 ?e1 ?e2 ?k7 ?_; (case k1 => exact News.isTup (by k_asm) (by k_mem)); (case k4 => exact News.isTup (by k_asm) (by k_mem)); (case k2 => exact News.isTup (by k_asm) (by k_mem)); (case k5 => exact News.isTup (by k_asm) (by k_mem)); (case k3 => with_reducible assumption); (case k6 => with_reducible assumption); (case e1 => with_reducible assumption); (case e2 => with_reducible assumption); (case k7 => ktr_units); k_whole))) | (((with_reducible show wpAny _ _ (subscriptTail _ _ (Value.ref _) (Value.int _ _)) _ _ _); k_dflt (refine' item_lit ?k1 ?k2 ?k3 ?_ ?k6; (case k1 => exact News.isList (by k_asm) (by k_mem)); (case k2 => exact rfl); (case k3 => exact rfl); (case k6 => with_unfolding_all rfl); k_whole))) | ((k_here; (with_reducible show wpAny _ _ (subscriptTail _ _ (Value.ref _) (Value.int _ _)) _ _ _); k_dflt (refine' item_lit ?k1 ?k2 ?k3 ?_ ?k6; (case k1 => exact News.isList (by k_asm) (by k_mem)); (case k2 => exact rfl); (case k3 => exact rfl); (case k6 => with_unfolding_all rfl); k_whole))) | ((k_here; (with_reducible show wpAny _ _ (subscriptTail _ _ (Value.ref _) (Value.int _ _)) _ _ _); k_dflt (refine' item_anyT ?k1 ?k2 ?k3 ?k4 ?k5 ?_ ?k6; (case k1 => exact News.isTup (by k_asm) (by k_mem)); (case k2 => with_reducible assumption); (case k3 => omega); (case k4 => omega); (case k5 => omega); (case k6 => with_unfolding_all rfl); k_whole); intro _)) | ((k_here; (with_reducible show wpAny _ _ (call (Value.builtin "len") [Value.ref _]) _ _ _); k_dflt (refine' len_tupI ?k1 ?k2 ?k3 ?_; (case k1 => exact News.isTup (by k_asm) (by k_mem)); (case k2 => with_reducible assumption); (case k3 => omega); k_whole))) | ((k_here; (with_reducible show wpAny _ _ (call (Value.type _) [Value.ref _]) _ _ _); k_dflt (refine' kde_tupleOf ?k1 ?k2 ?k3 ?k4 ?k5 ?_; (case k1 => k_asm); (case k2 => k_asm); (case k3 => exact News.isList (by k_asm) (by k_mem)); (case k5 => exact rfl); (case k4 => (simp only [List.size_toArray]; (have hq9 := IntsAre.length (by assumption)); omega)); k_whole); intro D' h' F' N' l1; (try k_lt l1); (try k_sweep))) | ((with_reducible show wpAny _ _ (call (Value.ref _) _) _ _ _); (first | ((k_here; (with_reducible show wpAny _ _ (call (Value.ref 157) [Value.ref _, Value.int _ _, Value.int _ _]) _ _ _); k_dflt (refine' more_ok ?kB ?kF ?kX ?kN ?kT rfl ?kd ?ku ?kW ?kv ?kb ?kc ?kr ?_; (case kB => k_asm); (case kF => k_asm); (case kX => assumption); (case kN => k_asm); (case kT => k_asm); (case kd => ktr_room); (case ku => ktr_units); (case kW => ((with_reducible rename News _ _ _ _ => nW9); exact kst_newsOf nW9 (by kst_in))); (case kv => with_reducible assumption); (case kb => with_reducible assumption); (case kc => omega); (case kr => omega)); intro q' u1' u2' u3' u4' h' tk' l1' F' N'; (try dsimp only); (replace l1' := alt_keep [(), (), (), (), (), (), (), ()] l1'); (simp only [LtK, and_true] at l1'); (try k_sweep))))) | (have hNo9 := NoOwn.mk; walk1))) | ((fail_if_success (first | (first | (with_reducible show wpAny _ _ (exec (Stmt.While _ _ _ _) _) _ _ _) | (with_reducible show wpAny _ _ (pyIter _) (fun it s₂ => LoopAtV _ _ _ _ _ _ _ _ _ it s₂) _ _) | (with_reducible show wpAny _ _ (pyIter _) (fun it s₂ => PairAt3 _ _ _ _ _ _ _ _ _ _ it s₂) _ _)) | ((with_reducible show LCg.CompSrc _ _ _ _ _ _ _ _ _ _ _ _ _ _)) | ((with_reducible show SrcB _ _ _ _ _ _ _ _ _ _ _ _ _ _)) | ((with_reducible show wpAny _ _ (execs (Stmt.If (PySem.Expr.Compare (PySem.Expr.Name _ _) _ _ _) _ _ _ :: _) _) _ _ _)))); (first | walk1 | (dsimp only; walk1) | (leave1; try dsimp only)))))
    exact PureEnd.intro (by assumption) (by assumption) (fun p hp => hp) ⟨_, rfl⟩
  intro ys hd hd5
  clear lF9 lN9 lR9
  (repeat' (first | ((with_reducible rename NoOwn => hNo9); clear hNo9) | (k_unfold; (try dsimp only)) | ((with_reducible refine Own.mk ?_); (first | (((with_reducible show wpAny _ _ (subscriptTail _ _ (Value.ref _) (Value.int _ _)) _ _ _); k_dflt (refine' item_lit ?k1 ?k2 ?k3 ?_ ?k6; (case k1 => exact News.isList (by k_asm) (by k_mem)); (case k2 => with_reducible assumption); (case k3 => first | with_reducible assumption | exact nth_push (by with_reducible assumption)); (case k6 => with_unfolding_all rfl); k_whole))) | ((k_here; (with_reducible show wpAny _ _ (compareOp _ (Value.int (0 + _) _) (Value.int 0 _)) _ _ _); (refine gt_int_yes ?e ?_); (case e => omega))) | ((k_here; (with_reducible show wpAny _ _ (compareOp _ (Value.int (0 + _) _) (Value.int 0 _)) _ _ _); (refine eq_int_no ?e ?_); (case e => omega))) | ((with_reducible show wpAny _ _ (compareOp CmpOp.IsNot (Value.bool _) (Value.bool _)) _ _ _); (k_here; (with_reducible refine isnot_same ?e ?_); (case e => with_reducible assumption))) | ((k_here; (with_reducible rename NextMark => hN9); (with_reducible show wpAny _ _ (compareOp CmpOp.NotEq (Value.ref _) (Value.ref _)) _ _ _); k_dflt (refine' ne_pair_no ?k1 ?k2 ?e1 ?e2 ?k7 ?_; (case k1 => exact News.isList (by k_asm) (by k_mem)); (case k2 => exact News.isList (by k_asm) (by k_mem)); (case e1 => with_reducible assumption); (case e2 => with_reducible assumption); (case k7 => ktr_units); k_whole); clear hN9)) | ((with_reducible show wpAny _ _ (compareOp CmpOp.Eq (Value.bytes _ _) (Value.bytes _ _)) _ _ _); (k_here; (refine eq_bytes_no (by assumption) ?_))) | ((k_here; (with_reducible show wpAny _ _ (subscriptTail _ (PySem.Expr.Slice _ _ none _) (Value.bytes _ _) (Value.ref _)) _ _ _); (with_reducible rename ToldF _ _ _ => hT9); (with_reducible rename Fr _ _ _ _ => F'); (with_reducible rename News _ _ _ _ => N'); (refine told_slice (s := ⟨_, _, _, _, _⟩) hT9 F' N' ?_); intro _ _ _ _ _ hP')) | ((with_reducible show wpAny _ _ (compareOp CmpOp.NotEq (Value.bytes _ _) (Value.bytes _ _)) _ _ _); (k_here; (refine ne_bytes_no ?e ?_); (case e => exact word_eq (by omega) (by omega)))) | ((with_reducible show wpAny _ _ (binaryOp _ (Value.bytes _ _) (Value.bytes _ _)) _ _ _); (k_here; (with_reducible rename ToldF _ _ _ => hT9); (refine word_add hT9 ?_); intro t' k')) | ((k_here; (with_reducible show wpAny _ _ (call (Value.builtin _) [Value.ref _, _]) _ _ _); k_dflt (refine' append_K ?k1 ?k2 ?k3 ?_ ?z; (case k1 => k_asm); (case k2 => k_asm); (case k3 => k_upd); (case z => exact Nat.le_of_ble_eq_true rfl); k_whole); intro h' F' N'; (try k_sweep))) | ((k_here; (with_reducible show wpAny _ _ (subscriptTail (PySem.Expr.Subscript _ _ _) _ (Value.ref _) (Value.int _ _)) _ _ _); k_dflt (refine' tup_lit ?k1 ?k2 ?k3 ?_ ?k6; (case k1 => exact News.isTup (by k_asm) (by k_mem)); (case k2 => exact rfl); (case k3 => exact rfl); (case k6 => with_unfolding_all rfl); k_whole))) | (((with_reducible show wpAny _ _ (subscriptTail _ _ (Value.ref _) (Value.int _ _)) _ _ _); k_dflt (refine' tup_lit ?k1 ?k2 ?k3 ?_ ?k6; (case k1 => exact News.isTup (by k_asm) (by k_mem)); (case k2 => exact rfl); (case k3 => exact rfl); (case k6 => with_unfolding_all rfl); k_whole))) | ((with_reducible show wpAny _ _ (compareOp CmpOp.IsNot (Value.bool _) (Value.bool _)) _ _ _); (k_here; (with_reducible refine isnot_same ?e ?_); (case e => first | exact eq_yes | exact eq_no (by with_reducible assumption) (by with_reducible assumption)))) | ((k_here; (with_reducible show wpAny _ _ (compareOp CmpOp.NotEq (Value.ref _) (Value.ref _)) _ _ _); k_dflt (refine' norm_ne_no ?k1 ?k2 ?k3 ?k4 ?k5 ?k6 ?e1 ?e2 ?k7 ?_; (case k1 => exact News.isTup (by k_asm) (by k_mem)); (case k4 => exact News.isTup (by k_asm) (by k_mem)); (case k2 => exact News.isTup (by k_asm) (by k_mem)); (case k5 => exact News.isTup (by k_asm) (by k_mem)); (case k3 => with_reducible assumption); (case k6 => with_reducible assumption); (case e1 => with_reducible assumption); (case e2 => with_reducible assumption); (case k7 => ktr_units); k_whole))) | (((with_reducible show wpAny _ _ (subscriptTail _ _ (Value.ref _) (Value.int _ _)) _ _ _); k_dflt (refine' item_lit ?k1 ?k2 ?k3 ?_ ?k6; (case k1 => exact News.isList (by k_asm) (by k_mem)); (case k2 => exact rfl); (case k3 => exact rfl); (case k6 => with_unfolding_all rfl); k_whole))) | ((k_here; (with_reducible show wpAny _ _ (subscriptTail _ _ (Value.ref _) (Value.int _ _)) _ _ _); k_dflt (refine' item_lit ?k1 ?k2 ?k3 ?_ ?k6; (case k1 => exact News.isList (by k_asm) (by k_mem)); (case k2 => exact rfl); (case k3 => exact rfl); (case k6 => with_unfolding_all rfl); k_whole))) | ((k_here; (with_reducible show wpAny _ _ (subscriptTail _ _ (Value.ref _) (Value.int _ _)) _ _ _); k_dflt (refine' item_anyT ?k1 ?k2 ?k3 ?k4 ?k5 ?_ ?k6; (case k1 => exact News.isTup (by k_asm) (by k_mem)); (case k2 => with_reducible assumption); (case k3 => omega); (case k4 => omega); (case k5 => omega); (case k6 => with_unfolding_all rfl); k_whole); intro _)) | ((k_here; (with_reducible show wpAny _ _ (call (Value.builtin "len") [Value.ref _]) _ _ _); k_dflt (refine' len_tupI ?k1 ?k2 ?k3 ?_; (case k1 => exact News.isTup (by k_asm) (by k_mem)); (case k2 => with_reducible assumption); (case k3 => omega); k_whole))) | ((k_here; (with_reducible show wpAny _ _ (call (Value.type _) [Value.ref _]) _ _ _); k_dflt (refine' kde_tupleOf ?k1 ?k2 ?k3 ?k4 ?k5 ?_; (case k1 => k_asm); (case k2 => k_asm); (case k3 => exact News.isList (by k_asm) (by k_mem)); (case k5 => exact rfl); (case k4 => (simp only [List.size_toArray]; (have hq9 := IntsAre.length (by assumption)); omega)); k_whole); intro D' h' F' N' l1; (try k_lt l1); (try k_sweep))) | ((with_reducible show wpAny _ _ (call (Value.ref _) _) _ _ _); (first | ((k_here; (with_reducible show wpAny _ _ (call (Value.ref 157) [Value.ref _, Value.int _ _, Value.int _ _]) _ _ _); k_dflt (refine' more_ok ?kB ?kF ?kX ?kN ?kT rfl ?kd ?ku ?kW ?kv ?kb ?kc ?kr ?_; (case kB => k_asm); (case kF => k_asm); (case kX => assumption); (case kN => k_asm); (case kT => k_asm); (case kd => ktr_room); (case ku => ktr_units); (case kW => ((with_reducible rename News _ _ _ _ => nW9); exact kst_newsOf nW9 (by kst_in))); (case kv => with_reducible assumption); (case kb => with_reducible assumption); (case kc => omega); (case kr => omega)); intro q' u1' u2' u3' u4' h' tk' l1' F' N'; (try dsimp only); (replace l1' := alt_keep [(), (), (), (), (), (), (), ()] l1'); (simp only [LtK, and_true] at l1'); (try k_sweep))))) | (have hNo9 := NoOwn.mk; walk1))) | ((fail_if_success (first | (first | (with_reducible show wpAny _ _ (exec (Stmt.While _ _ _ _) _) _ _ _) | (with_reducible show wpAny _ _ (pyIter _) (fun it s₂ => LoopAtV _ _ _ _ _ _ _ _ _ it s₂) _ _) | (with_reducible show wpAny _ _ (pyIter _) (fun it s₂ => PairAt3 _ _ _ _ _ _ _ _ _ _ it s₂) _ _)) | ((with_reducible show LCg.CompSrc _ _ _ _ _ _ _ _ _ _ _ _ _ _)) | ((with_reducible show SrcB _ _ _ _ _ _ _ _ _ _ _ _ _ _)) | ((with_reducible show wpAny _ _ (execs (Stmt.If (PySem.Expr.Compare (PySem.Expr.Name _ _) _ _ _) _ _ _ :: _) _) _ _ _)))); (first | walk1 | (dsimp only; walk1) | (leave1; try dsimp only)))))
  (with_reducible rename Fr _ _ _ _ => lF9)
  (with_reducible rename News _ _ _ _ => lN9)
  exact hret _ _ _ _ _ _ _ (by with_reducible assumption) (fr_unpick2 [(Str.ofString "table", Value.int i ti), (Str.ofString "figures", Value.ref aF), (Str.ofString "cards", Value.ref lC)] hp0 lF9) (List.forall_mem_cons.mpr ⟨lN9 _ (by k_mem), List.forall_mem_cons.mpr ⟨lN9 _ (by k_mem), fun p hp => lN9 p (by (repeat' first | exact hp | apply List.Mem.tail))⟩⟩)
end
section
/-- a turn's end: the letters told, the word, the deals -/
theorem tailT_ok {w : World} {loose : List Str} {mean : ExcName → Option Value} {mg mb : Str → Option Value} {h₀ : Heap} {L fx rr : Addr} {sc : Scope} {code : List Stmt} {m : Str → Option Value} {s : Shared} {Q : Flow → Shared → Prop} {E : Value → Shared → Prop} {nt : List (Addr × Obj)}
    (hsc : sc = lawDef.scope) (hcode : code = (forB (nthS lawDef.body 11)).drop 4)
    (K0 : Below callerA h₀ [] h₀) (F : Fr h₀ L s.heap m) (KX : (hd2.heap_39 w.params).In h₀) (T : Top hd2.view_39 loose mean mg mb h₀)
    {aF lD lT q a0 e0 tn0 a1 e1 tn1 : Addr} {oL oT : Obj} {x1 x2 y1 y2 : Str} {t1 t2 td1 td2 td3 u0 u1 : Tok} {kD kq kF : Nat} {f g d1 d2 d3 : Int} {kt0 kt1 : WTok}
    (m1 : m (Str.ofString "figures") = some (.ref aF)) (m6 : m (Str.ofString "draws") = some (.ref lD))
    (nF : (aF, PySem.W.listOf #[.int f u0, .int g u1] kF) ∈ nt) (nlD : (lD, PySem.W.listOf #[.int d1 td1, .int d2 td2, .int d3 td3] kD) ∈ nt) (nT : (L + 1 + 1 + 1 + 1 + 1 + 1, oT) ∈ nt) (nlT : (lT, LCg.lst [.ref a0, .ref a1]) ∈ nt) (nq : (q, PySem.W.listOf #[.str x1 t1, .str x2 t2] kq) ∈ nt)
    (n1 : (a0, instObj 83 e0) ∈ nt) (n2 : (e0, dictOf (wsDict w y1 tn0 kt0) 5) ∈ nt) (n3 : (a1, instObj 83 e1) ∈ nt) (n4 : (e1, dictOf (wsDict w y2 tn1 kt1) 5) ∈ nt)
    (hL : oL.data = .cell (some (.ref q))) (hT : oT.data = .cell (some (.ref lT))) (hn5 : ∀ p ∈ nt, (p : Addr × Obj).1 ≠ L + 1 + 1 + 1 + 1 + 1)
    (hf : 0 ≤ f ∧ f ≤ 15) (hg : 0 ≤ g ∧ g ≤ 15) (hd3 : 0 ≤ d3 ∧ d3 ≤ 64000000) (f1 : x1.length ≤ 20) (f2 : 0 ≤ Txt.count x1 (Str.ofString "\t")) (f3 : Txt.count x1 (Str.ofString "\t") ≤ 10) (f1' : x2.length ≤ 20) (f2' : 0 ≤ Txt.count x2 (Str.ofString "\t")) (f3' : Txt.count x2 (Str.ofString "\t") ≤ 10)
    (fg : (wsOf y1).nt = Txt.count x1 (Str.ofString "\t")) (fg' : (wsOf y2).nt = Txt.count x2 (Str.ofString "\t"))
    (N : News h₀ L s.heap ((L + 1 + 1 + 1 + 1 + 1, oL) :: nt))
    (hret : ∀ (h' : Heap) (tk' : Nat) (m' : Str → Option Value) (q' : Addr) (oL' : Obj) (ta tb tw : Tok),
      m' (Str.ofString "word") = some (.bytes (wordF f g) tw) → (∀ z, z ≠ Str.ofString "told" → z ≠ Str.ofString "word" → m' z = m z) → Fr h₀ L h' m' →
      oL'.data = .cell (some (.ref q')) → OffH q' ((L + 1 + 1 + 1 + 1 + 1) :: nt.map (·.1)) →
      News h₀ L h' ((q', LCg.lst [.str (dealS x1 (Txt.count x1 (Str.ofString "\t"))) ta, .str (dealS x2 (Txt.count x2 (Str.ofString "\t"))) tb]) :: (L + 1 + 1 + 1 + 1 + 1, oL') :: nt) → Q .next { s with heap := h', toks := tk' }) :
    wpAny (model PySem.Challenge.rw_xb0022_02.row.prog w) (callerA.deeper (envOfC (Str.ofString "law") sc L fx (.ref rr))) (execs code (envOfC (Str.ofString "law") sc L fx (.ref rr))) Q E s := by
  simp only [lawDef, nthS, forB, List.drop_succ_cons, List.drop_zero] at hsc hcode
  subst hsc hcode
  revert KX; k_fill; intro KX
  have hMk := kstMark
  have hLt := LtMark.mk
  have hp0 : ∀ p ∈ [(Str.ofString "figures", Value.ref aF), (Str.ofString "draws", Value.ref lD)], m (p : Str × Value).1 = some p.2 := List.forall_mem_cons.mpr ⟨m1, List.forall_mem_cons.mpr ⟨m6, List.forall_mem_nil _⟩⟩
  have F0 := fr_pickL [(Str.ofString "figures", Value.ref aF), (Str.ofString "draws", Value.ref lD)] hp0 F
  simp only [pickF] at F0
  have eq0 := pickF_eq hp0
  have N0 : News h₀ L s.heap ((L + 1 + 1 + 1 + 1 + 1, oL) :: (aF, PySem.W.listOf #[.int f u0, .int g u1] kF) :: (lD, PySem.W.listOf #[.int d1 td1, .int d2 td2, .int d3 td3] kD) :: (lT, LCg.lst [.ref a0, .ref a1]) :: (q, PySem.W.listOf #[.str x1 t1, .str x2 t2] kq) :: (a0, instObj 83 e0) :: (e0, dictOf (wsDict w y1 tn0 kt0) 5) :: (a1, instObj 83 e1) :: (e1, dictOf (wsDict w y2 tn1 kt1) 5) :: (L + 1 + 1 + 1 + 1 + 1 + 1, oT) :: nt) :=
    List.forall_mem_cons.mpr ⟨N _ (.head _), List.forall_mem_cons.mpr ⟨N _ (.tail _ nF), List.forall_mem_cons.mpr ⟨N _ (.tail _ nlD), List.forall_mem_cons.mpr ⟨N _ (.tail _ nlT), List.forall_mem_cons.mpr ⟨N _ (.tail _ nq), List.forall_mem_cons.mpr ⟨N _ (.tail _ n1), List.forall_mem_cons.mpr ⟨N _ (.tail _ n2), List.forall_mem_cons.mpr ⟨N _ (.tail _ n3), List.forall_mem_cons.mpr ⟨N _ (.tail _ n4), List.forall_mem_cons.mpr ⟨N _ (.tail _ nT), fun p hp => N p (.tail _ hp)⟩⟩⟩⟩⟩⟩⟩⟩⟩⟩
  have o5 : OffH (L + 1 + 1 + 1 + 1 + 1) [aF, lD, lT, q, a0, e0, a1, e1, L + 1 + 1 + 1 + 1 + 1 + 1] := .mk (List.forall_mem_cons.mpr ⟨hn5 _ nF, List.forall_mem_cons.mpr ⟨hn5 _ nlD, List.forall_mem_cons.mpr ⟨hn5 _ nlT, List.forall_mem_cons.mpr ⟨hn5 _ nq, List.forall_mem_cons.mpr ⟨hn5 _ n1, List.forall_mem_cons.mpr ⟨hn5 _ n2, List.forall_mem_cons.mpr ⟨hn5 _ n3, List.forall_mem_cons.mpr ⟨hn5 _ n4, List.forall_mem_cons.mpr ⟨hn5 _ nT, List.forall_mem_nil _⟩⟩⟩⟩⟩⟩⟩⟩⟩)
  clear N F nF nlD nT nlT nq n1 n2 n3 n4
  walk1
  (repeat' (first | ((with_reducible rename NoOwn => hNo9); clear hNo9) | (k_unfold; (try dsimp only)) | ((with_reducible refine Own.mk ?_); (first | (((with_reducible show wpAny _ _ (subscriptTail _ _ (Value.ref _) (Value.int _ _)) _ _ _); k_dflt (refine' item_lit ?k1 ?k2 ?k3 ?_ ?k6; (case k1 => exact News.isList (by k_asm) (by k_mem)); (case k2 => with_reducible assumption); (case k3 => first | with_reducible assumption | exact nth_push (by with_reducible assumption)); (case k6 => with_unfolding_all rfl); k_whole))) | ((k_here; (with_reducible show wpAny _ _ (compareOp _ (Value.int (0 + _) _) (Value.int 0 _)) _ _ _); (refine gt_int_yes ?e ?_); (case e => omega))) | ((k_here; (with_reducible show wpAny _ _ (compareOp _ (Value.int (0 + _) _) (Value.int 0 _)) _ _ _); (refine eq_int_no ?e ?_); (case e => omega))) | ((with_reducible show wpAny _ _ (compareOp CmpOp.IsNot (Value.bool _) (Value.bool _)) _ _ _); (k_here; (with_reducible refine isnot_same ?e ?_); (case e => with_reducible assumption))) | ((k_here; (with_reducible rename NextMark => hN9); (with_reducible show wpAny _ _ (compareOp CmpOp.NotEq (Value.ref _) (Value.ref _)) _ _ _); k_dflt (refine' ne_pair_no ?k1 ?k2 ?e1 ?e2 ?k7 ?_; (case k1 => exact News.isList (by k_asm) (by k_mem)); (case k2 => exact News.isList (by k_asm) (by k_mem)); (case e1 => with_reducible assumption); (case e2 => with_reducible assumption); (case k7 => ktr_units); k_whole); clear hN9)) | ((with_reducible show wpAny _ _ (compareOp CmpOp.Eq (Value.bytes _ _) (Value.bytes _ _)) _ _ _); (k_here; (refine eq_bytes_no (by assumption) ?_))) | ((k_here; (with_reducible show wpAny _ _ (subscriptTail _ (PySem.Expr.Slice _ _ none _) (Value.bytes _ _) (Value.ref _)) _ _ _); (with_reducible rename ToldF _ _ _ => hT9); (with_reducible rename Fr _ _ _ _ => F'); (with_reducible rename News _ _ _ _ => N'); (refine told_slice (s := ⟨_, _, _, _, _⟩) hT9 F' N' ?_); intro _ _ _ _ _ hP')) | ((with_reducible show wpAny _ _ (compareOp CmpOp.NotEq (Value.bytes _ _) (Value.bytes _ _)) _ _ _); (k_here; (refine ne_bytes_no ?e ?_); (case e => exact word_eq (by omega) (by omega)))) | ((with_reducible show wpAny _ _ (binaryOp _ (Value.bytes _ _) (Value.bytes _ _)) _ _ _); (k_here; (with_reducible rename ToldF _ _ _ => hT9); (refine word_add hT9 ?_); intro t' k')) | ((k_here; (with_reducible show wpAny _ _ (call (Value.builtin _) [Value.ref _, _]) _ _ _); k_dflt (refine' append_K ?k1 ?k2 ?k3 ?_ ?z; (case k1 => k_asm); (case k2 => k_asm); (case k3 => k_upd); (case z => exact Nat.le_of_ble_eq_true rfl); k_whole); intro h' F' N'; (try k_sweep))) | ((k_here; (with_reducible show wpAny _ _ (subscriptTail (PySem.Expr.Subscript _ _ _) _ (Value.ref _) (Value.int _ _)) _ _ _); k_dflt (refine' tup_lit ?k1 ?k2 ?k3 ?_ ?k6; (case k1 => exact News.isTup (by k_asm) (by k_mem)); (case k2 => exact rfl); (case k3 => exact rfl); (case k6 => with_unfolding_all rfl); k_whole))) | (((with_reducible show wpAny _ _ (subscriptTail _ _ (Value.ref _) (Value.int _ _)) _ _ _); k_dflt (refine' tup_lit ?k1 ?k2 ?k3 ?_ ?k6; (case k1 => exact News.isTup (by k_asm) (by k_mem)); (case k2 => exact rfl); (case k3 => exact rfl); (case k6 => with_unfolding_all rfl); k_whole))) | ((with_reducible show wpAny _ _ (compareOp CmpOp.IsNot (Value.bool _) (Value.bool _)) _ _ _); (k_here; (with_reducible refine isnot_same ?e ?_); (case e => first | exact eq_yes | exact eq_no (by with_reducible assumption) (by with_reducible assumption)))) | ((k_here; (with_reducible show wpAny _ _ (compareOp CmpOp.NotEq (Value.ref _) (Value.ref _)) _ _ _); k_dflt (refine' norm_ne_no ?k1 ?k2 ?k3 ?k4 ?k5 ?k6 ?e1 ?e2 ?k7 ?_; (case k1 => exact News.isTup (by k_asm) (by k_mem)); (case k4 => exact News.isTup (by k_asm) (by k_mem)); (case k2 => exact News.isTup (by k_asm) (by k_mem)); (case k5 => exact News.isTup (by k_asm) (by k_mem)); (case k3 => with_reducible assumption); (case k6 => with_reducible assumption); (case e1 => with_reducible assumption); (case e2 => with_reducible assumption); (case k7 => ktr_units); k_whole))) | (((with_reducible show wpAny _ _ (subscriptTail _ _ (Value.ref _) (Value.int _ _)) _ _ _); k_dflt (refine' item_lit ?k1 ?k2 ?k3 ?_ ?k6; (case k1 => exact News.isList (by k_asm) (by k_mem)); (case k2 => exact rfl); (case k3 => exact rfl); (case k6 => with_unfolding_all rfl); k_whole))) | ((k_here; (with_reducible show wpAny _ _ (subscriptTail _ _ (Value.ref _) (Value.int _ _)) _ _ _); k_dflt (refine' item_lit ?k1 ?k2 ?k3 ?_ ?k6; (case k1 => exact News.isList (by k_asm) (by k_mem)); (case k2 => exact rfl); (case k3 => exact rfl); (case k6 => with_unfolding_all rfl); k_whole))) | ((k_here; (with_reducible show wpAny _ _ (subscriptTail _ _ (Value.ref _) (Value.int _ _)) _ _ _); k_dflt (refine' item_anyT ?k1 ?k2 ?k3 ?k4 ?k5 ?_ ?k6; (case k1 => exact News.isTup (by k_asm) (by k_mem)); (case k2 => with_reducible assumption); (case k3 => omega); (case k4 => omega); (case k5 => omega); (case k6 => with_unfolding_all rfl); k_whole); intro _)) | ((k_here; (with_reducible show wpAny _ _ (call (Value.builtin "len") [Value.ref _]) _ _ _); k_dflt (refine' len_tupI ?k1 ?k2 ?k3 ?_; (case k1 => exact News.isTup (by k_asm) (by k_mem)); (case k2 => with_reducible assumption); (case k3 => omega); k_whole))) | ((k_here; (with_reducible show wpAny _ _ (call (Value.type _) [Value.ref _]) _ _ _); k_dflt (refine' kde_tupleOf ?k1 ?k2 ?k3 ?k4 ?k5 ?_; (case k1 => k_asm); (case k2 => k_asm); (case k3 => exact News.isList (by k_asm) (by k_mem)); (case k5 => exact rfl); (case k4 => (simp only [List.size_toArray]; (have hq9 := IntsAre.length (by assumption)); omega)); k_whole); intro D' h' F' N' l1; (try k_lt l1); (try k_sweep))) | ((with_reducible show wpAny _ _ (call (Value.ref _) _) _ _ _); (first | ((k_here; (with_reducible show wpAny _ _ (call (Value.ref 126) [Value.int _ _]) _ _ _); k_dflt (refine' int2ap_word ?kB ?kF ?kX ?kN ?kT rfl ?kd ?ku ?k1 ?k2 ?_; (case kB => k_asm); (case kF => k_asm); (case kX => assumption); (case kN => k_asm); (case kT => k_asm); (case kd => ktr_room); (case ku => ktr_units); (case k1 => omega); (case k2 => omega)); intro tb' t' h' tk' hT' hs' F' N'; (try dsimp only); (try k_sweep))) | ((k_here; (with_reducible show wpAny _ _ (call (Value.ref 152) [Value.str _ _, Value.int _ _]) _ _ _); k_dflt (refine' deal_ok ?kB ?kF ?kX ?kN ?kT rfl ?kd ?ku ?k1 ?k2 ?k3 ?_; (case kB => k_asm); (case kF => k_asm); (case kX => assumption); (case kN => k_asm); (case kT => k_asm); (case kd => ktr_room); (case ku => ktr_units); (case k1 => omega); (case k2 => omega); (case k3 => omega)); intro t' h' tk' F' N'; (try dsimp only); (try k_sweep))))) | (have hNo9 := NoOwn.mk; walk1))) | ((fail_if_success (first | (first | (with_reducible show wpAny _ _ (exec (Stmt.While _ _ _ _) _) _ _ _) | (with_reducible show wpAny _ _ (pyIter _) (fun it s₂ => LoopAtV _ _ _ _ _ _ _ _ _ it s₂) _ _) | (with_reducible show wpAny _ _ (pyIter _) (fun it s₂ => PairAt3 _ _ _ _ _ _ _ _ _ _ it s₂) _ _)) | ((with_reducible show LCg.CompSrc _ _ _ _ _ _ _ _ _ _ _ _ _ _)) | ((with_reducible show SrcB _ _ _ _ _ _ _ _ _ _ _ _ _ _)) | ((with_reducible show wpAny _ _ (execs (Stmt.Assign [PySem.Expr.Name (Str.ofString "told") _] _ _ :: _) _) _ _ _)))); (first | walk1 | (dsimp only; walk1) | (leave1; try dsimp only)))))
  with_reducible rename Fr _ _ _ _ => lF9
  with_reducible rename News _ _ _ _ => lN9
  refine LCg.CompSrc.ledger (by rfl) lF9 lN9 (by k_mem) (by exact Nat.le_of_ble_eq_true rfl) ?_
  intro g
  refine rest_pure (fun _ v y => LetR v y) (.inr ⟨_, (by k_mem), rfl, _, rfl⟩) ?_ ?_
  · intro i' v I oI C oC D ys m₂ h tk E' hi' hvi hC hx' F' N' off ne
    obtain ⟨n, t, rfl, hn⟩ := two_ints_at hvi
    have hn2 : 0 ≤ n ∧ n ≤ 15 := by omega
    clear hn lF9 lN9
    (repeat' (first | ((with_reducible rename NoOwn => hNo9); clear hNo9) | (k_unfold; (try dsimp only)) | ((with_reducible refine Own.mk ?_); (first | (((with_reducible show wpAny _ _ (subscriptTail _ _ (Value.ref _) (Value.int _ _)) _ _ _); k_dflt (refine' item_lit ?k1 ?k2 ?k3 ?_ ?k6; (case k1 => exact News.isList (by k_asm) (by k_mem)); (case k2 => with_reducible assumption); (case k3 => first | with_reducible assumption | exact nth_push (by with_reducible assumption)); (case k6 => with_unfolding_all rfl); k_whole))) | ((k_here; (with_reducible show wpAny _ _ (compareOp _ (Value.int (0 + _) _) (Value.int 0 _)) _ _ _); (refine gt_int_yes ?e ?_); (case e => omega))) | ((k_here; (with_reducible show wpAny _ _ (compareOp _ (Value.int (0 + _) _) (Value.int 0 _)) _ _ _); (refine eq_int_no ?e ?_); (case e => omega))) | ((with_reducible show wpAny _ _ (compareOp CmpOp.IsNot (Value.bool _) (Value.bool _)) _ _ _); (k_here; (with_reducible refine isnot_same ?e ?_); (case e => with_reducible assumption))) | ((k_here; (with_reducible rename NextMark => hN9); (with_reducible show wpAny _ _ (compareOp CmpOp.NotEq (Value.ref _) (Value.ref _)) _ _ _); k_dflt (refine' ne_pair_no ?k1 ?k2 ?e1 ?e2 ?k7 ?_; (case k1 => exact News.isList (by k_asm) (by k_mem)); (case k2 => exact News.isList (by k_asm) (by k_mem)); (case e1 => with_reducible assumption); (case e2 => with_reducible assumption); (case k7 => ktr_units); k_whole); clear hN9)) | ((with_reducible show wpAny _ _ (compareOp CmpOp.Eq (Value.bytes _ _) (Value.bytes _ _)) _ _ _); (k_here; (refine eq_bytes_no (by assumption) ?_))) | ((k_here; (with_reducible show wpAny _ _ (subscriptTail _ (PySem.Expr.Slice _ _ none _) (Value.bytes _ _) (Value.ref _)) _ _ _); (with_reducible rename ToldF _ _ _ => hT9); (with_reducible rename Fr _ _ _ _ => F'); (with_reducible rename News _ _ _ _ => N'); (refine told_slice (s := ⟨_, _, _, _, _⟩) hT9 F' N' ?_); intro _ _ _ _ _ hP')) | ((with_reducible show wpAny _ _ (compareOp CmpOp.NotEq (Value.bytes _ _) (Value.bytes _ _)) _ _ _); (k_here; (refine ne_bytes_no ?e ?_); (case e => exact word_eq (by omega) (by omega)))) | ((with_reducible show wpAny _ _ (binaryOp _ (Value.bytes _ _) (Value.bytes _ _)) _ _ _); (k_here; (with_reducible rename ToldF _ _ _ => hT9); (refine word_add hT9 ?_); intro t' k')) | ((k_here; (with_reducible show wpAny _ _ (call (Value.builtin _) [Value.ref _, _]) _ _ _); k_dflt (refine' append_K ?k1 ?k2 ?k3 ?_ ?z; (case k1 => k_asm); (case k2 => k_asm); (case k3 => k_upd); (case z => exact Nat.le_of_ble_eq_true rfl); k_whole); intro h' F' N'; (try k_sweep))) | ((k_here; (with_reducible show wpAny _ _ (subscriptTail (PySem.Expr.Subscript _ _ _) _ (Value.ref _) (Value.int _ _)) _ _ _); k_dflt (refine' tup_lit ?k1 ?k2 ?k3 ?_ ?k6; (case k1 => exact News.isTup (by k_asm) (by k_mem)); (case k2 => exact rfl); (case k3 => exact rfl); (case k6 => with_unfolding_all rfl); k_whole))) | (((with_reducible show wpAny _ _ (subscriptTail _ _ (Value.ref _) (Value.int _ _)) _ _ _); k_dflt (refine' tup_lit ?k1 ?k2 ?k3 ?_ ?k6; (case k1 => exact News.isTup (by k_asm) (by k_mem)); (case k2 => exact rfl); (case k3 => exact rfl); (case k6 => with_unfolding_all rfl); k_whole))) | ((with_reducible show wpAny _ _ (compareOp CmpOp.IsNot (Value.bool _) (Value.bool _)) _ _ _); (k_here; (with_reducible refine isnot_same ?e ?_); (case e => first | exact eq_yes | exact eq_no (by with_reducible assumption) (by with_reducible assumption)))) | ((k_here; (with_reducible show wpAny _ _ (compareOp CmpOp.NotEq (Value.ref _) (Value.ref _)) _ _ _); k_dflt (refine' norm_ne_no ?k1 ?k2 ?k3 ?k4 ?k5 ?k6 ?e1 ?e2 ?k7 ?_; (case k1 => exact News.isTup (by k_asm) (by k_mem)); (case k4 => exact News.isTup (by k_asm) (by k_mem)); (case k2 => exact News.isTup (by k_asm) (by k_mem)); (case k5 => exact News.isTup (by k_asm) (by k_mem)); (case k3 => with_reducible assumption); (case k6 => with_reducible assumption); (case e1 => with_reducible assumption); (case e2 => with_reducible assumption); (case k7 => ktr_units); k_whole))) | (((with_reducible show wpAny _ _ (subscriptTail _ _ (Value.ref _) (Value.int _ _)) _ _ _); k_dflt (refine' item_lit ?k1 ?k2 ?k3 ?_ ?k6; (case k1 => exact News.isList (by k_asm) (by k_mem)); (case k2 => exact rfl); (case k3 => exact rfl); (case k6 => with_unfolding_all rfl); k_whole))) | ((k_here; (with_reducible show wpAny _ _ (subscriptTail _ _ (Value.ref _) (Value.int _ _)) _ _ _); k_dflt (refine' item_lit ?k1 ?k2 ?k3 ?_ ?k6; (case k1 => exact News.isList (by k_asm) (by k_mem)); (case k2 => exact rfl); (case k3 => exact rfl); (case k6 => with_unfolding_all rfl); k_whole))) | ((k_here; (with_reducible show wpAny _ _ (subscriptTail _ _ (Value.ref _) (Value.int _ _)) _ _ _); k_dflt (refine' item_anyT ?k1 ?k2 ?k3 ?k4 ?k5 ?_ ?k6; (case k1 => exact News.isTup (by k_asm) (by k_mem)); (case k2 => with_reducible assumption); (case k3 => omega); (case k4 => omega); (case k5 => omega); (case k6 => with_unfolding_all rfl); k_whole); intro _)) | ((k_here; (with_reducible show wpAny _ _ (call (Value.builtin "len") [Value.ref _]) _ _ _); k_dflt (refine' len_tupI ?k1 ?k2 ?k3 ?_; (case k1 => exact News.isTup (by k_asm) (by k_mem)); (case k2 => with_reducible assumption); (case k3 => omega); k_whole))) | ((k_here; (with_reducible show wpAny _ _ (call (Value.type _) [Value.ref _]) _ _ _); k_dflt (refine' kde_tupleOf ?k1 ?k2 ?k3 ?k4 ?k5 ?_; (case k1 => k_asm); (case k2 => k_asm); (case k3 => exact News.isList (by k_asm) (by k_mem)); (case k5 => exact rfl); (case k4 => (simp only [List.size_toArray]; (have hq9 := IntsAre.length (by assumption)); omega)); k_whole); intro D' h' F' N' l1; (try k_lt l1); (try k_sweep))) | ((with_reducible show wpAny _ _ (call (Value.ref _) _) _ _ _); (first | ((k_here; (with_reducible show wpAny _ _ (call (Value.ref 126) [Value.int _ _]) _ _ _); k_dflt (refine' int2ap_word ?kB ?kF ?kX ?kN ?kT rfl ?kd ?ku ?k1 ?k2 ?_; (case kB => k_asm); (case kF => k_asm); (case kX => assumption); (case kN => k_asm); (case kT => k_asm); (case kd => ktr_room); (case ku => ktr_units); (case k1 => omega); (case k2 => omega)); intro tb' t' h' tk' hT' hs' F' N'; (try dsimp only); (try k_sweep))) | ((k_here; (with_reducible show wpAny _ _ (call (Value.ref 152) [Value.str _ _, Value.int _ _]) _ _ _); k_dflt (refine' deal_ok ?kB ?kF ?kX ?kN ?kT rfl ?kd ?ku ?k1 ?k2 ?k3 ?_; (case kB => k_asm); (case kF => k_asm); (case kX => assumption); (case kN => k_asm); (case kT => k_asm); (case kd => ktr_room); (case ku => ktr_units); (case k1 => omega); (case k2 => omega); (case k3 => omega)); intro t' h' tk' F' N'; (try dsimp only); (try k_sweep))))) | (have hNo9 := NoOwn.mk; walk1))) | ((fail_if_success (first | (first | (with_reducible show wpAny _ _ (exec (Stmt.While _ _ _ _) _) _ _ _) | (with_reducible show wpAny _ _ (pyIter _) (fun it s₂ => LoopAtV _ _ _ _ _ _ _ _ _ it s₂) _ _) | (with_reducible show wpAny _ _ (pyIter _) (fun it s₂ => PairAt3 _ _ _ _ _ _ _ _ _ _ it s₂) _ _)) | ((with_reducible show LCg.CompSrc _ _ _ _ _ _ _ _ _ _ _ _ _ _)) | ((with_reducible show SrcB _ _ _ _ _ _ _ _ _ _ _ _ _ _)) | ((with_reducible show wpAny _ _ (execs (Stmt.Assign [PySem.Expr.Name (Str.ofString "told") _] _ _ :: _) _) _ _ _)))); (first | walk1 | (dsimp only; walk1) | (leave1; try dsimp only)))))
    exact PureEnd.intro (by assumption) (by assumption) (fun p hp => hp) ⟨_, _, _, rfl, rfl⟩
  intro ys hl hy
  obtain ⟨ta, tb, rfl⟩ := two_lets (by simpa using hl) hy
  clear lF9 lN9 hy hl
  (repeat' (first | ((with_reducible rename NoOwn => hNo9); clear hNo9) | (k_unfold; (try dsimp only)) | ((with_reducible refine Own.mk ?_); (first | (((with_reducible show wpAny _ _ (subscriptTail _ _ (Value.ref _) (Value.int _ _)) _ _ _); k_dflt (refine' item_lit ?k1 ?k2 ?k3 ?_ ?k6; (case k1 => exact News.isList (by k_asm) (by k_mem)); (case k2 => with_reducible assumption); (case k3 => first | with_reducible assumption | exact nth_push (by with_reducible assumption)); (case k6 => with_unfolding_all rfl); k_whole))) | ((k_here; (with_reducible show wpAny _ _ (compareOp _ (Value.int (0 + _) _) (Value.int 0 _)) _ _ _); (refine gt_int_yes ?e ?_); (case e => omega))) | ((k_here; (with_reducible show wpAny _ _ (compareOp _ (Value.int (0 + _) _) (Value.int 0 _)) _ _ _); (refine eq_int_no ?e ?_); (case e => omega))) | ((with_reducible show wpAny _ _ (compareOp CmpOp.IsNot (Value.bool _) (Value.bool _)) _ _ _); (k_here; (with_reducible refine isnot_same ?e ?_); (case e => with_reducible assumption))) | ((k_here; (with_reducible rename NextMark => hN9); (with_reducible show wpAny _ _ (compareOp CmpOp.NotEq (Value.ref _) (Value.ref _)) _ _ _); k_dflt (refine' ne_pair_no ?k1 ?k2 ?e1 ?e2 ?k7 ?_; (case k1 => exact News.isList (by k_asm) (by k_mem)); (case k2 => exact News.isList (by k_asm) (by k_mem)); (case e1 => with_reducible assumption); (case e2 => with_reducible assumption); (case k7 => ktr_units); k_whole); clear hN9)) | ((with_reducible show wpAny _ _ (compareOp CmpOp.Eq (Value.bytes _ _) (Value.bytes _ _)) _ _ _); (k_here; (refine eq_bytes_no (by assumption) ?_))) | ((k_here; (with_reducible show wpAny _ _ (subscriptTail _ (PySem.Expr.Slice _ _ none _) (Value.bytes _ _) (Value.ref _)) _ _ _); (with_reducible rename ToldF _ _ _ => hT9); (with_reducible rename Fr _ _ _ _ => F'); (with_reducible rename News _ _ _ _ => N'); (refine told_slice (s := ⟨_, _, _, _, _⟩) hT9 F' N' ?_); intro _ _ _ _ _ hP')) | ((with_reducible show wpAny _ _ (compareOp CmpOp.NotEq (Value.bytes _ _) (Value.bytes _ _)) _ _ _); (k_here; (refine ne_bytes_no ?e ?_); (case e => exact word_eq (by omega) (by omega)))) | ((with_reducible show wpAny _ _ (binaryOp _ (Value.bytes _ _) (Value.bytes _ _)) _ _ _); (k_here; (with_reducible rename ToldF _ _ _ => hT9); (refine word_add hT9 ?_); intro t' k')) | ((k_here; (with_reducible show wpAny _ _ (call (Value.builtin _) [Value.ref _, _]) _ _ _); k_dflt (refine' append_K ?k1 ?k2 ?k3 ?_ ?z; (case k1 => k_asm); (case k2 => k_asm); (case k3 => k_upd); (case z => exact Nat.le_of_ble_eq_true rfl); k_whole); intro h' F' N'; (try k_sweep))) | ((k_here; (with_reducible show wpAny _ _ (subscriptTail (PySem.Expr.Subscript _ _ _) _ (Value.ref _) (Value.int _ _)) _ _ _); k_dflt (refine' tup_lit ?k1 ?k2 ?k3 ?_ ?k6; (case k1 => exact News.isTup (by k_asm) (by k_mem)); (case k2 => exact rfl); (case k3 => exact rfl); (case k6 => with_unfolding_all rfl); k_whole))) | (((with_reducible show wpAny _ _ (subscriptTail _ _ (Value.ref _) (Value.int _ _)) _ _ _); k_dflt (refine' tup_lit ?k1 ?k2 ?k3 ?_ ?k6; (case k1 => exact News.isTup (by k_asm) (by k_mem)); (case k2 => exact rfl); (case k3 => exact rfl); (case k6 => with_unfolding_all rfl); k_whole))) | ((with_reducible show wpAny _ _ (compareOp CmpOp.IsNot (Value.bool _) (Value.bool _)) _ _ _); (k_here; (with_reducible refine isnot_same ?e ?_); (case e => first | exact eq_yes | exact eq_no (by with_reducible assumption) (by with_reducible assumption)))) | ((k_here; (with_reducible show wpAny _ _ (compareOp CmpOp.NotEq (Value.ref _) (Value.ref _)) _ _ _); k_dflt (refine' norm_ne_no ?k1 ?k2 ?k3 ?k4 ?k5 ?k6 ?e1 ?e2 ?k7 ?_; (case k1 => exact News.isTup (by k_asm) (by k_mem)); (case k4 => exact News.isTup (by k_asm) (by k_mem)); (case k2 => exact News.isTup (by k_asm) (by k_mem)); (case k5 => exact News.isTup (by k_asm) (by k_mem)); (case k3 => with_reducible assumption); (case k6 => with_reducible assumption); (case e1 => with_reducible assumption); (case e2 => with_reducible assumption); (case k7 => ktr_units); k_whole))) | (((with_reducible show wpAny _ _ (subscriptTail _ _ (Value.ref _) (Value.int _ _)) _ _ _); k_dflt (refine' item_lit ?k1 ?k2 ?k3 ?_ ?k6; (case k1 => exact News.isList (by k_asm) (by k_mem)); (case k2 => exact rfl); (case k3 => exact rfl); (case k6 => with_unfolding_all rfl); k_whole))) | ((k_here; (with_reducible show wpAny _ _ (subscriptTail _ _ (Value.ref _) (Value.int _ _)) _ _ _); k_dflt (refine' item_lit ?k1 ?k2 ?k3 ?_ ?k6; (case k1 => exact News.isList (by k_asm) (by k_mem)); (case k2 => exact rfl); (case k3 => exact rfl); (case k6 => with_unfolding_all rfl); k_whole))) | ((k_here; (with_reducible show wpAny _ _ (subscriptTail _ _ (Value.ref _) (Value.int _ _)) _ _ _); k_dflt (refine' item_anyT ?k1 ?k2 ?k3 ?k4 ?k5 ?_ ?k6; (case k1 => exact News.isTup (by k_asm) (by k_mem)); (case k2 => with_reducible assumption); (case k3 => omega); (case k4 => omega); (case k5 => omega); (case k6 => with_unfolding_all rfl); k_whole); intro _)) | ((k_here; (with_reducible show wpAny _ _ (call (Value.builtin "len") [Value.ref _]) _ _ _); k_dflt (refine' len_tupI ?k1 ?k2 ?k3 ?_; (case k1 => exact News.isTup (by k_asm) (by k_mem)); (case k2 => with_reducible assumption); (case k3 => omega); k_whole))) | ((k_here; (with_reducible show wpAny _ _ (call (Value.type _) [Value.ref _]) _ _ _); k_dflt (refine' kde_tupleOf ?k1 ?k2 ?k3 ?k4 ?k5 ?_; (case k1 => k_asm); (case k2 => k_asm); (case k3 => exact News.isList (by k_asm) (by k_mem)); (case k5 => exact rfl); (case k4 => (simp only [List.size_toArray]; (have hq9 := IntsAre.length (by assumption)); omega)); k_whole); intro D' h' F' N' l1; (try k_lt l1); (try k_sweep))) | ((with_reducible show wpAny _ _ (call (Value.ref _) _) _ _ _); (first | ((k_here; (with_reducible show wpAny _ _ (call (Value.ref 126) [Value.int _ _]) _ _ _); k_dflt (refine' int2ap_word ?kB ?kF ?kX ?kN ?kT rfl ?kd ?ku ?k1 ?k2 ?_; (case kB => k_asm); (case kF => k_asm); (case kX => assumption); (case kN => k_asm); (case kT => k_asm); (case kd => ktr_room); (case ku => ktr_units); (case k1 => omega); (case k2 => omega)); intro tb' t' h' tk' hT' hs' F' N'; (try dsimp only); (try k_sweep))) | ((k_here; (with_reducible show wpAny _ _ (call (Value.ref 152) [Value.str _ _, Value.int _ _]) _ _ _); k_dflt (refine' deal_ok ?kB ?kF ?kX ?kN ?kT rfl ?kd ?ku ?k1 ?k2 ?k3 ?_; (case kB => k_asm); (case kF => k_asm); (case kX => assumption); (case kN => k_asm); (case kT => k_asm); (case kd => ktr_room); (case ku => ktr_units); (case k1 => omega); (case k2 => omega); (case k3 => omega)); intro t' h' tk' F' N'; (try dsimp only); (try k_sweep))))) | (have hNo9 := NoOwn.mk; walk1))) | ((fail_if_success (first | (first | (with_reducible show wpAny _ _ (exec (Stmt.While _ _ _ _) _) _ _ _) | (with_reducible show wpAny _ _ (pyIter _) (fun it s₂ => LoopAtV _ _ _ _ _ _ _ _ _ it s₂) _ _) | (with_reducible show wpAny _ _ (pyIter _) (fun it s₂ => PairAt3 _ _ _ _ _ _ _ _ _ _ it s₂) _ _)) | ((with_reducible show LCg.CompSrc _ _ _ _ _ _ _ _ _ _ _ _ _ _)) | ((with_reducible show SrcB _ _ _ _ _ _ _ _ _ _ _ _ _ _)) | ((with_reducible show wpAny _ _ (execs (Stmt.Assign [PySem.Expr.Name (Str.ofString "told") _] _ _ :: _) _) _ _ _)))); (first | walk1 | (dsimp only; walk1) | (leave1; try dsimp only)))))
  with_reducible rename Fr _ _ _ _ => lF9
  with_reducible rename News _ _ _ _ => lN9
  refine LCg.CompSrc.ledger (by rfl) lF9 lN9 (by k_mem) (by exact Nat.le_of_ble_eq_true rfl) ?_
  intro g
  refine rest_deals x1 x2 (.inr ⟨_, (by k_mem), rfl, _, rfl⟩) ?_ ?_ ?_
  · intro I oI C oC D ys m₂ h tk E' hC hx' F' N' off ne
    clear lF9 lN9
    (repeat' (first | ((with_reducible rename NoOwn => hNo9); clear hNo9) | (k_unfold; (try dsimp only)) | ((with_reducible refine Own.mk ?_); (first | (((with_reducible show wpAny _ _ (subscriptTail _ _ (Value.ref _) (Value.int _ _)) _ _ _); k_dflt (refine' item_lit ?k1 ?k2 ?k3 ?_ ?k6; (case k1 => exact News.isList (by k_asm) (by k_mem)); (case k2 => with_reducible assumption); (case k3 => first | with_reducible assumption | exact nth_push (by with_reducible assumption)); (case k6 => with_unfolding_all rfl); k_whole))) | ((k_here; (with_reducible show wpAny _ _ (compareOp _ (Value.int (0 + _) _) (Value.int 0 _)) _ _ _); (refine gt_int_yes ?e ?_); (case e => omega))) | ((k_here; (with_reducible show wpAny _ _ (compareOp _ (Value.int (0 + _) _) (Value.int 0 _)) _ _ _); (refine eq_int_no ?e ?_); (case e => omega))) | ((with_reducible show wpAny _ _ (compareOp CmpOp.IsNot (Value.bool _) (Value.bool _)) _ _ _); (k_here; (with_reducible refine isnot_same ?e ?_); (case e => with_reducible assumption))) | ((k_here; (with_reducible rename NextMark => hN9); (with_reducible show wpAny _ _ (compareOp CmpOp.NotEq (Value.ref _) (Value.ref _)) _ _ _); k_dflt (refine' ne_pair_no ?k1 ?k2 ?e1 ?e2 ?k7 ?_; (case k1 => exact News.isList (by k_asm) (by k_mem)); (case k2 => exact News.isList (by k_asm) (by k_mem)); (case e1 => with_reducible assumption); (case e2 => with_reducible assumption); (case k7 => ktr_units); k_whole); clear hN9)) | ((with_reducible show wpAny _ _ (compareOp CmpOp.Eq (Value.bytes _ _) (Value.bytes _ _)) _ _ _); (k_here; (refine eq_bytes_no (by assumption) ?_))) | ((k_here; (with_reducible show wpAny _ _ (subscriptTail _ (PySem.Expr.Slice _ _ none _) (Value.bytes _ _) (Value.ref _)) _ _ _); (with_reducible rename ToldF _ _ _ => hT9); (with_reducible rename Fr _ _ _ _ => F'); (with_reducible rename News _ _ _ _ => N'); (refine told_slice (s := ⟨_, _, _, _, _⟩) hT9 F' N' ?_); intro _ _ _ _ _ hP')) | ((with_reducible show wpAny _ _ (compareOp CmpOp.NotEq (Value.bytes _ _) (Value.bytes _ _)) _ _ _); (k_here; (refine ne_bytes_no ?e ?_); (case e => exact word_eq (by omega) (by omega)))) | ((with_reducible show wpAny _ _ (binaryOp _ (Value.bytes _ _) (Value.bytes _ _)) _ _ _); (k_here; (with_reducible rename ToldF _ _ _ => hT9); (refine word_add hT9 ?_); intro t' k')) | ((k_here; (with_reducible show wpAny _ _ (call (Value.builtin _) [Value.ref _, _]) _ _ _); k_dflt (refine' append_K ?k1 ?k2 ?k3 ?_ ?z; (case k1 => k_asm); (case k2 => k_asm); (case k3 => k_upd); (case z => exact Nat.le_of_ble_eq_true rfl); k_whole); intro h' F' N'; (try k_sweep))) | ((k_here; (with_reducible show wpAny _ _ (subscriptTail (PySem.Expr.Subscript _ _ _) _ (Value.ref _) (Value.int _ _)) _ _ _); k_dflt (refine' tup_lit ?k1 ?k2 ?k3 ?_ ?k6; (case k1 => exact News.isTup (by k_asm) (by k_mem)); (case k2 => exact rfl); (case k3 => exact rfl); (case k6 => with_unfolding_all rfl); k_whole))) | (((with_reducible show wpAny _ _ (subscriptTail _ _ (Value.ref _) (Value.int _ _)) _ _ _); k_dflt (refine' tup_lit ?k1 ?k2 ?k3 ?_ ?k6; (case k1 => exact News.isTup (by k_asm) (by k_mem)); (case k2 => exact rfl); (case k3 => exact rfl); (case k6 => with_unfolding_all rfl); k_whole))) | ((with_reducible show wpAny _ _ (compareOp CmpOp.IsNot (Value.bool _) (Value.bool _)) _ _ _); (k_here; (with_reducible refine isnot_same ?e ?_); (case e => first | exact eq_yes | exact eq_no (by with_reducible assumption) (by with_reducible assumption)))) | ((k_here; (with_reducible show wpAny _ _ (compareOp CmpOp.NotEq (Value.ref _) (Value.ref _)) _ _ _); k_dflt (refine' norm_ne_no ?k1 ?k2 ?k3 ?k4 ?k5 ?k6 ?e1 ?e2 ?k7 ?_; (case k1 => exact News.isTup (by k_asm) (by k_mem)); (case k4 => exact News.isTup (by k_asm) (by k_mem)); (case k2 => exact News.isTup (by k_asm) (by k_mem)); (case k5 => exact News.isTup (by k_asm) (by k_mem)); (case k3 => with_reducible assumption); (case k6 => with_reducible assumption); (case e1 => with_reducible assumption); (case e2 => with_reducible assumption); (case k7 => ktr_units); k_whole))) | (((with_reducible show wpAny _ _ (subscriptTail _ _ (Value.ref _) (Value.int _ _)) _ _ _); k_dflt (refine' item_lit ?k1 ?k2 ?k3 ?_ ?k6; (case k1 => exact News.isList (by k_asm) (by k_mem)); (case k2 => exact rfl); (case k3 => exact rfl); (case k6 => with_unfolding_all rfl); k_whole))) | ((k_here; (with_reducible show wpAny _ _ (subscriptTail _ _ (Value.ref _) (Value.int _ _)) _ _ _); k_dflt (refine' item_lit ?k1 ?k2 ?k3 ?_ ?k6; (case k1 => exact News.isList (by k_asm) (by k_mem)); (case k2 => exact rfl); (case k3 => exact rfl); (case k6 => with_unfolding_all rfl); k_whole))) | ((k_here; (with_reducible show wpAny _ _ (subscriptTail _ _ (Value.ref _) (Value.int _ _)) _ _ _); k_dflt (refine' item_anyT ?k1 ?k2 ?k3 ?k4 ?k5 ?_ ?k6; (case k1 => exact News.isTup (by k_asm) (by k_mem)); (case k2 => with_reducible assumption); (case k3 => omega); (case k4 => omega); (case k5 => omega); (case k6 => with_unfolding_all rfl); k_whole); intro _)) | ((k_here; (with_reducible show wpAny _ _ (call (Value.builtin "len") [Value.ref _]) _ _ _); k_dflt (refine' len_tupI ?k1 ?k2 ?k3 ?_; (case k1 => exact News.isTup (by k_asm) (by k_mem)); (case k2 => with_reducible assumption); (case k3 => omega); k_whole))) | ((k_here; (with_reducible show wpAny _ _ (call (Value.type _) [Value.ref _]) _ _ _); k_dflt (refine' kde_tupleOf ?k1 ?k2 ?k3 ?k4 ?k5 ?_; (case k1 => k_asm); (case k2 => k_asm); (case k3 => exact News.isList (by k_asm) (by k_mem)); (case k5 => exact rfl); (case k4 => (simp only [List.size_toArray]; (have hq9 := IntsAre.length (by assumption)); omega)); k_whole); intro D' h' F' N' l1; (try k_lt l1); (try k_sweep))) | ((with_reducible show wpAny _ _ (call (Value.ref _) _) _ _ _); (first | ((k_here; (with_reducible show wpAny _ _ (call (Value.ref 126) [Value.int _ _]) _ _ _); k_dflt (refine' int2ap_word ?kB ?kF ?kX ?kN ?kT rfl ?kd ?ku ?k1 ?k2 ?_; (case kB => k_asm); (case kF => k_asm); (case kX => assumption); (case kN => k_asm); (case kT => k_asm); (case kd => ktr_room); (case ku => ktr_units); (case k1 => omega); (case k2 => omega)); intro tb' t' h' tk' hT' hs' F' N'; (try dsimp only); (try k_sweep))) | ((k_here; (with_reducible show wpAny _ _ (call (Value.ref 152) [Value.str _ _, Value.int _ _]) _ _ _); k_dflt (refine' deal_ok ?kB ?kF ?kX ?kN ?kT rfl ?kd ?ku ?k1 ?k2 ?k3 ?_; (case kB => k_asm); (case kF => k_asm); (case kX => assumption); (case kN => k_asm); (case kT => k_asm); (case kd => ktr_room); (case ku => ktr_units); (case k1 => omega); (case k2 => omega); (case k3 => omega)); intro t' h' tk' F' N'; (try dsimp only); (try k_sweep))))) | (have hNo9 := NoOwn.mk; walk1))) | ((fail_if_success (first | (first | (with_reducible show wpAny _ _ (exec (Stmt.While _ _ _ _) _) _ _ _) | (with_reducible show wpAny _ _ (pyIter _) (fun it s₂ => LoopAtV _ _ _ _ _ _ _ _ _ it s₂) _ _) | (with_reducible show wpAny _ _ (pyIter _) (fun it s₂ => PairAt3 _ _ _ _ _ _ _ _ _ _ it s₂) _ _)) | ((with_reducible show LCg.CompSrc _ _ _ _ _ _ _ _ _ _ _ _ _ _)) | ((with_reducible show SrcB _ _ _ _ _ _ _ _ _ _ _ _ _ _)) | ((with_reducible show wpAny _ _ (execs (Stmt.Assign [PySem.Expr.Name (Str.ofString "told") _] _ _ :: _) _) _ _ _)))); (first | walk1 | (dsimp only; walk1) | (leave1; try dsimp only)))))
    exact PureEnd.intro (by assumption) (by assumption) (fun p hp => hp) ⟨_, by rw [← fg]⟩
  · intro I oI C oC D ys m₂ h tk E' hC hx' F' N' off ne
    clear lF9 lN9
    (repeat' (first | ((with_reducible rename NoOwn => hNo9); clear hNo9) | (k_unfold; (try dsimp only)) | ((with_reducible refine Own.mk ?_); (first | (((with_reducible show wpAny _ _ (subscriptTail _ _ (Value.ref _) (Value.int _ _)) _ _ _); k_dflt (refine' item_lit ?k1 ?k2 ?k3 ?_ ?k6; (case k1 => exact News.isList (by k_asm) (by k_mem)); (case k2 => with_reducible assumption); (case k3 => first | with_reducible assumption | exact nth_push (by with_reducible assumption)); (case k6 => with_unfolding_all rfl); k_whole))) | ((k_here; (with_reducible show wpAny _ _ (compareOp _ (Value.int (0 + _) _) (Value.int 0 _)) _ _ _); (refine gt_int_yes ?e ?_); (case e => omega))) | ((k_here; (with_reducible show wpAny _ _ (compareOp _ (Value.int (0 + _) _) (Value.int 0 _)) _ _ _); (refine eq_int_no ?e ?_); (case e => omega))) | ((with_reducible show wpAny _ _ (compareOp CmpOp.IsNot (Value.bool _) (Value.bool _)) _ _ _); (k_here; (with_reducible refine isnot_same ?e ?_); (case e => with_reducible assumption))) | ((k_here; (with_reducible rename NextMark => hN9); (with_reducible show wpAny _ _ (compareOp CmpOp.NotEq (Value.ref _) (Value.ref _)) _ _ _); k_dflt (refine' ne_pair_no ?k1 ?k2 ?e1 ?e2 ?k7 ?_; (case k1 => exact News.isList (by k_asm) (by k_mem)); (case k2 => exact News.isList (by k_asm) (by k_mem)); (case e1 => with_reducible assumption); (case e2 => with_reducible assumption); (case k7 => ktr_units); k_whole); clear hN9)) | ((with_reducible show wpAny _ _ (compareOp CmpOp.Eq (Value.bytes _ _) (Value.bytes _ _)) _ _ _); (k_here; (refine eq_bytes_no (by assumption) ?_))) | ((k_here; (with_reducible show wpAny _ _ (subscriptTail _ (PySem.Expr.Slice _ _ none _) (Value.bytes _ _) (Value.ref _)) _ _ _); (with_reducible rename ToldF _ _ _ => hT9); (with_reducible rename Fr _ _ _ _ => F'); (with_reducible rename News _ _ _ _ => N'); (refine told_slice (s := ⟨_, _, _, _, _⟩) hT9 F' N' ?_); intro _ _ _ _ _ hP')) | ((with_reducible show wpAny _ _ (compareOp CmpOp.NotEq (Value.bytes _ _) (Value.bytes _ _)) _ _ _); (k_here; (refine ne_bytes_no ?e ?_); (case e => exact word_eq (by omega) (by omega)))) | ((with_reducible show wpAny _ _ (binaryOp _ (Value.bytes _ _) (Value.bytes _ _)) _ _ _); (k_here; (with_reducible rename ToldF _ _ _ => hT9); (refine word_add hT9 ?_); intro t' k')) | ((k_here; (with_reducible show wpAny _ _ (call (Value.builtin _) [Value.ref _, _]) _ _ _); k_dflt (refine' append_K ?k1 ?k2 ?k3 ?_ ?z; (case k1 => k_asm); (case k2 => k_asm); (case k3 => k_upd); (case z => exact Nat.le_of_ble_eq_true rfl); k_whole); intro h' F' N'; (try k_sweep))) | ((k_here; (with_reducible show wpAny _ _ (subscriptTail (PySem.Expr.Subscript _ _ _) _ (Value.ref _) (Value.int _ _)) _ _ _); k_dflt (refine' tup_lit ?k1 ?k2 ?k3 ?_ ?k6; (case k1 => exact News.isTup (by k_asm) (by k_mem)); (case k2 => exact rfl); (case k3 => exact rfl); (case k6 => with_unfolding_all rfl); k_whole))) | (((with_reducible show wpAny _ _ (subscriptTail _ _ (Value.ref _) (Value.int _ _)) _ _ _); k_dflt (refine' tup_lit ?k1 ?k2 ?k3 ?_ ?k6; (case k1 => exact News.isTup (by k_asm) (by k_mem)); (case k2 => exact rfl); (case k3 => exact rfl); (case k6 => with_unfolding_all rfl); k_whole))) | ((with_reducible show wpAny _ _ (compareOp CmpOp.IsNot (Value.bool _) (Value.bool _)) _ _ _); (k_here; (with_reducible refine isnot_same ?e ?_); (case e => first | exact eq_yes | exact eq_no (by with_reducible assumption) (by with_reducible assumption)))) | ((k_here; (with_reducible show wpAny _ _ (compareOp CmpOp.NotEq (Value.ref _) (Value.ref _)) _ _ _); k_dflt (refine' norm_ne_no ?k1 ?k2 ?k3 ?k4 ?k5 ?k6 ?e1 ?e2 ?k7 ?_; (case k1 => exact News.isTup (by k_asm) (by k_mem)); (case k4 => exact News.isTup (by k_asm) (by k_mem)); (case k2 => exact News.isTup (by k_asm) (by k_mem)); (case k5 => exact News.isTup (by k_asm) (by k_mem)); (case k3 => with_reducible assumption); (case k6 => with_reducible assumption); (case e1 => with_reducible assumption); (case e2 => with_reducible assumption); (case k7 => ktr_units); k_whole))) | (((with_reducible show wpAny _ _ (subscriptTail _ _ (Value.ref _) (Value.int _ _)) _ _ _); k_dflt (refine' item_lit ?k1 ?k2 ?k3 ?_ ?k6; (case k1 => exact News.isList (by k_asm) (by k_mem)); (case k2 => exact rfl); (case k3 => exact rfl); (case k6 => with_unfolding_all rfl); k_whole))) | ((k_here; (with_reducible show wpAny _ _ (subscriptTail _ _ (Value.ref _) (Value.int _ _)) _ _ _); k_dflt (refine' item_lit ?k1 ?k2 ?k3 ?_ ?k6; (case k1 => exact News.isList (by k_asm) (by k_mem)); (case k2 => exact rfl); (case k3 => exact rfl); (case k6 => with_unfolding_all rfl); k_whole))) | ((k_here; (with_reducible show wpAny _ _ (subscriptTail _ _ (Value.ref _) (Value.int _ _)) _ _ _); k_dflt (refine' item_anyT ?k1 ?k2 ?k3 ?k4 ?k5 ?_ ?k6; (case k1 => exact News.isTup (by k_asm) (by k_mem)); (case k2 => with_reducible assumption); (case k3 => omega); (case k4 => omega); (case k5 => omega); (case k6 => with_unfolding_all rfl); k_whole); intro _)) | ((k_here; (with_reducible show wpAny _ _ (call (Value.builtin "len") [Value.ref _]) _ _ _); k_dflt (refine' len_tupI ?k1 ?k2 ?k3 ?_; (case k1 => exact News.isTup (by k_asm) (by k_mem)); (case k2 => with_reducible assumption); (case k3 => omega); k_whole))) | ((k_here; (with_reducible show wpAny _ _ (call (Value.type _) [Value.ref _]) _ _ _); k_dflt (refine' kde_tupleOf ?k1 ?k2 ?k3 ?k4 ?k5 ?_; (case k1 => k_asm); (case k2 => k_asm); (case k3 => exact News.isList (by k_asm) (by k_mem)); (case k5 => exact rfl); (case k4 => (simp only [List.size_toArray]; (have hq9 := IntsAre.length (by assumption)); omega)); k_whole); intro D' h' F' N' l1; (try k_lt l1); (try k_sweep))) | ((with_reducible show wpAny _ _ (call (Value.ref _) _) _ _ _); (first | ((k_here; (with_reducible show wpAny _ _ (call (Value.ref 126) [Value.int _ _]) _ _ _); k_dflt (refine' int2ap_word ?kB ?kF ?kX ?kN ?kT rfl ?kd ?ku ?k1 ?k2 ?_; (case kB => k_asm); (case kF => k_asm); (case kX => assumption); (case kN => k_asm); (case kT => k_asm); (case kd => ktr_room); (case ku => ktr_units); (case k1 => omega); (case k2 => omega)); intro tb' t' h' tk' hT' hs' F' N'; (try dsimp only); (try k_sweep))) | ((k_here; (with_reducible show wpAny _ _ (call (Value.ref 152) [Value.str _ _, Value.int _ _]) _ _ _); k_dflt (refine' deal_ok ?kB ?kF ?kX ?kN ?kT rfl ?kd ?ku ?k1 ?k2 ?k3 ?_; (case kB => k_asm); (case kF => k_asm); (case kX => assumption); (case kN => k_asm); (case kT => k_asm); (case kd => ktr_room); (case ku => ktr_units); (case k1 => omega); (case k2 => omega); (case k3 => omega)); intro t' h' tk' F' N'; (try dsimp only); (try k_sweep))))) | (have hNo9 := NoOwn.mk; walk1))) | ((fail_if_success (first | (first | (with_reducible show wpAny _ _ (exec (Stmt.While _ _ _ _) _) _ _ _) | (with_reducible show wpAny _ _ (pyIter _) (fun it s₂ => LoopAtV _ _ _ _ _ _ _ _ _ it s₂) _ _) | (with_reducible show wpAny _ _ (pyIter _) (fun it s₂ => PairAt3 _ _ _ _ _ _ _ _ _ _ it s₂) _ _)) | ((with_reducible show LCg.CompSrc _ _ _ _ _ _ _ _ _ _ _ _ _ _)) | ((with_reducible show SrcB _ _ _ _ _ _ _ _ _ _ _ _ _ _)) | ((with_reducible show wpAny _ _ (execs (Stmt.Assign [PySem.Expr.Name (Str.ofString "told") _] _ _ :: _) _) _ _ _)))); (first | walk1 | (dsimp only; walk1) | (leave1; try dsimp only)))))
    exact PureEnd.intro (by assumption) (by assumption) (fun p hp => hp) ⟨_, by rw [← fg']⟩
  intro ta tb
  clear lF9 lN9
  (repeat' (first | ((with_reducible rename NoOwn => hNo9); clear hNo9) | (k_unfold; (try dsimp only)) | ((with_reducible refine Own.mk ?_); (first | (((with_reducible show wpAny _ _ (subscriptTail _ _ (Value.ref _) (Value.int _ _)) _ _ _); k_dflt (refine' item_lit ?k1 ?k2 ?k3 ?_ ?k6; (case k1 => exact News.isList (by k_asm) (by k_mem)); (case k2 => with_reducible assumption); (case k3 => first | with_reducible assumption | exact nth_push (by with_reducible assumption)); (case k6 => with_unfolding_all rfl); k_whole))) | ((k_here; (with_reducible show wpAny _ _ (compareOp _ (Value.int (0 + _) _) (Value.int 0 _)) _ _ _); (refine gt_int_yes ?e ?_); (case e => omega))) | ((k_here; (with_reducible show wpAny _ _ (compareOp _ (Value.int (0 + _) _) (Value.int 0 _)) _ _ _); (refine eq_int_no ?e ?_); (case e => omega))) | ((with_reducible show wpAny _ _ (compareOp CmpOp.IsNot (Value.bool _) (Value.bool _)) _ _ _); (k_here; (with_reducible refine isnot_same ?e ?_); (case e => with_reducible assumption))) | ((k_here; (with_reducible rename NextMark => hN9); (with_reducible show wpAny _ _ (compareOp CmpOp.NotEq (Value.ref _) (Value.ref _)) _ _ _); k_dflt (refine' ne_pair_no ?k1 ?k2 ?e1 ?e2 ?k7 ?_; (case k1 => exact News.isList (by k_asm) (by k_mem)); (case k2 => exact News.isList (by k_asm) (by k_mem)); (case e1 => with_reducible assumption); (case e2 => with_reducible assumption); (case k7 => ktr_units); k_whole); clear hN9)) | ((with_reducible show wpAny _ _ (compareOp CmpOp.Eq (Value.bytes _ _) (Value.bytes _ _)) _ _ _); (k_here; (refine eq_bytes_no (by assumption) ?_))) | ((k_here; (with_reducible show wpAny _ _ (subscriptTail _ (PySem.Expr.Slice _ _ none _) (Value.bytes _ _) (Value.ref _)) _ _ _); (with_reducible rename ToldF _ _ _ => hT9); (with_reducible rename Fr _ _ _ _ => F'); (with_reducible rename News _ _ _ _ => N'); (refine told_slice (s := ⟨_, _, _, _, _⟩) hT9 F' N' ?_); intro _ _ _ _ _ hP')) | ((with_reducible show wpAny _ _ (compareOp CmpOp.NotEq (Value.bytes _ _) (Value.bytes _ _)) _ _ _); (k_here; (refine ne_bytes_no ?e ?_); (case e => exact word_eq (by omega) (by omega)))) | ((with_reducible show wpAny _ _ (binaryOp _ (Value.bytes _ _) (Value.bytes _ _)) _ _ _); (k_here; (with_reducible rename ToldF _ _ _ => hT9); (refine word_add hT9 ?_); intro t' k')) | ((k_here; (with_reducible show wpAny _ _ (call (Value.builtin _) [Value.ref _, _]) _ _ _); k_dflt (refine' append_K ?k1 ?k2 ?k3 ?_ ?z; (case k1 => k_asm); (case k2 => k_asm); (case k3 => k_upd); (case z => exact Nat.le_of_ble_eq_true rfl); k_whole); intro h' F' N'; (try k_sweep))) | ((k_here; (with_reducible show wpAny _ _ (subscriptTail (PySem.Expr.Subscript _ _ _) _ (Value.ref _) (Value.int _ _)) _ _ _); k_dflt (refine' tup_lit ?k1 ?k2 ?k3 ?_ ?k6; (case k1 => exact News.isTup (by k_asm) (by k_mem)); (case k2 => exact rfl); (case k3 => exact rfl); (case k6 => with_unfolding_all rfl); k_whole))) | (((with_reducible show wpAny _ _ (subscriptTail _ _ (Value.ref _) (Value.int _ _)) _ _ _); k_dflt (refine' tup_lit ?k1 ?k2 ?k3 ?_ ?k6; (case k1 => exact News.isTup (by k_asm) (by k_mem)); (case k2 => exact rfl); (case k3 => exact rfl); (case k6 => with_unfolding_all rfl); k_whole))) | ((with_reducible show wpAny _ _ (compareOp CmpOp.IsNot (Value.bool _) (Value.bool _)) _ _ _); (k_here; (with_reducible refine isnot_same ?e ?_); (case e => first | exact eq_yes | exact eq_no (by with_reducible assumption) (by with_reducible assumption)))) | ((k_here; (with_reducible show wpAny _ _ (compareOp CmpOp.NotEq (Value.ref _) (Value.ref _)) _ _ _); k_dflt (refine' norm_ne_no ?k1 ?k2 ?k3 ?k4 ?k5 ?k6 ?e1 ?e2 ?k7 ?_; (case k1 => exact News.isTup (by k_asm) (by k_mem)); (case k4 => exact News.isTup (by k_asm) (by k_mem)); (case k2 => exact News.isTup (by k_asm) (by k_mem)); (case k5 => exact News.isTup (by k_asm) (by k_mem)); (case k3 => with_reducible assumption); (case k6 => with_reducible assumption); (case e1 => with_reducible assumption); (case e2 => with_reducible assumption); (case k7 => ktr_units); k_whole))) | (((with_reducible show wpAny _ _ (subscriptTail _ _ (Value.ref _) (Value.int _ _)) _ _ _); k_dflt (refine' item_lit ?k1 ?k2 ?k3 ?_ ?k6; (case k1 => exact News.isList (by k_asm) (by k_mem)); (case k2 => exact rfl); (case k3 => exact rfl); (case k6 => with_unfolding_all rfl); k_whole))) | ((k_here; (with_reducible show wpAny _ _ (subscriptTail _ _ (Value.ref _) (Value.int _ _)) _ _ _); k_dflt (refine' item_lit ?k1 ?k2 ?k3 ?_ ?k6; (case k1 => exact News.isList (by k_asm) (by k_mem)); (case k2 => exact rfl); (case k3 => exact rfl); (case k6 => with_unfolding_all rfl); k_whole))) | ((k_here; (with_reducible show wpAny _ _ (subscriptTail _ _ (Value.ref _) (Value.int _ _)) _ _ _); k_dflt (refine' item_anyT ?k1 ?k2 ?k3 ?k4 ?k5 ?_ ?k6; (case k1 => exact News.isTup (by k_asm) (by k_mem)); (case k2 => with_reducible assumption); (case k3 => omega); (case k4 => omega); (case k5 => omega); (case k6 => with_unfolding_all rfl); k_whole); intro _)) | ((k_here; (with_reducible show wpAny _ _ (call (Value.builtin "len") [Value.ref _]) _ _ _); k_dflt (refine' len_tupI ?k1 ?k2 ?k3 ?_; (case k1 => exact News.isTup (by k_asm) (by k_mem)); (case k2 => with_reducible assumption); (case k3 => omega); k_whole))) | ((k_here; (with_reducible show wpAny _ _ (call (Value.type _) [Value.ref _]) _ _ _); k_dflt (refine' kde_tupleOf ?k1 ?k2 ?k3 ?k4 ?k5 ?_; (case k1 => k_asm); (case k2 => k_asm); (case k3 => exact News.isList (by k_asm) (by k_mem)); (case k5 => exact rfl); (case k4 => (simp only [List.size_toArray]; (have hq9 := IntsAre.length (by assumption)); omega)); k_whole); intro D' h' F' N' l1; (try k_lt l1); (try k_sweep))) | ((with_reducible show wpAny _ _ (call (Value.ref _) _) _ _ _); (first | ((k_here; (with_reducible show wpAny _ _ (call (Value.ref 126) [Value.int _ _]) _ _ _); k_dflt (refine' int2ap_word ?kB ?kF ?kX ?kN ?kT rfl ?kd ?ku ?k1 ?k2 ?_; (case kB => k_asm); (case kF => k_asm); (case kX => assumption); (case kN => k_asm); (case kT => k_asm); (case kd => ktr_room); (case ku => ktr_units); (case k1 => omega); (case k2 => omega)); intro tb' t' h' tk' hT' hs' F' N'; (try dsimp only); (try k_sweep))) | ((k_here; (with_reducible show wpAny _ _ (call (Value.ref 152) [Value.str _ _, Value.int _ _]) _ _ _); k_dflt (refine' deal_ok ?kB ?kF ?kX ?kN ?kT rfl ?kd ?ku ?k1 ?k2 ?k3 ?_; (case kB => k_asm); (case kF => k_asm); (case kX => assumption); (case kN => k_asm); (case kT => k_asm); (case kd => ktr_room); (case ku => ktr_units); (case k1 => omega); (case k2 => omega); (case k3 => omega)); intro t' h' tk' F' N'; (try dsimp only); (try k_sweep))))) | (have hNo9 := NoOwn.mk; walk1))) | ((fail_if_success (first | (first | (with_reducible show wpAny _ _ (exec (Stmt.While _ _ _ _) _) _ _ _) | (with_reducible show wpAny _ _ (pyIter _) (fun it s₂ => LoopAtV _ _ _ _ _ _ _ _ _ it s₂) _ _) | (with_reducible show wpAny _ _ (pyIter _) (fun it s₂ => PairAt3 _ _ _ _ _ _ _ _ _ _ it s₂) _ _)) | ((with_reducible show LCg.CompSrc _ _ _ _ _ _ _ _ _ _ _ _ _ _)) | ((with_reducible show SrcB _ _ _ _ _ _ _ _ _ _ _ _ _ _)) | ((with_reducible show wpAny _ _ (execs (Stmt.Assign [PySem.Expr.Name (Str.ofString "told") _] _ _ :: _) _) _ _ _)))); (first | walk1 | (dsimp only; walk1) | (leave1; try dsimp only)))))
  (with_reducible rename Fr _ _ _ _ => lF9)
  (with_reducible rename News _ _ _ _ => lN9)
  refine' hret _ _ _ _ _ _ _ _ (if_pos rfl) (fun z h1 h2 => ?ke) lF9 ?kL (OffH.sub ?ko ?ko2) ?kN
  case kN => exact List.forall_mem_cons.mpr ⟨lN9 _ (by k_mem), List.forall_mem_cons.mpr ⟨lN9 _ (by k_mem), fun p hp => lN9 p (by (repeat' first | exact hp | apply List.Mem.tail))⟩⟩
  case ke => exact (if_neg h2).trans ((if_neg h1).trans (congrFun eq0 z))
  case kL => with_reducible assumption
  case ko => with_reducible assumption
  case ko2 => exact List.forall_mem_cons.mpr ⟨by k_mem, fun x hx => by (repeat' first | exact hx | apply List.Mem.tail)⟩
end
section
/-- a turn's beginning: the figures, the tables typed -/
theorem typedT_ok {w : World} {loose : List Str} {mean : ExcName → Option Value} {mg mb : Str → Option Value} {h₀ : Heap} {L fx rr : Addr} {sc : Scope} {code : List Stmt} {m : Str → Option Value} {s : Shared} {Q : Flow → Shared → Prop} {E : Value → Shared → Prop} {nt : List (Addr × Obj)}
    (hsc : sc = lawDef.scope) (hcode : code = forB (nthS lawDef.body 11))
    (K0 : Below callerA h₀ [] h₀) (F : Fr h₀ L s.heap m) (KX : (hd2.heap_39 w.params).In h₀) (T : Top hd2.view_39 loose mean mg mb h₀)
    {q : Addr} {oL oT oR : Obj} {x1 x2 : Str} {t1 t2 tr : Tok} {kq : Nat} {r : Int} {vT : Option Value}
    (nL : (L + 1 + 1 + 1 + 1 + 1, oL) ∈ nt) (nR : (L + 1, oR) ∈ nt) (nq : (q, PySem.W.listOf #[.str x1 t1, .str x2 t2] kq) ∈ nt)
    (hL : oL.data = .cell (some (.ref q))) (hT : oT.data = .cell vT) (hR : oR.data = .cell (some (.int r tr))) (hn6 : ∀ p ∈ nt, (p : Addr × Obj).1 ≠ L + 1 + 1 + 1 + 1 + 1 + 1)
    (m4 : 0 ≤ r ∧ r < 4) (f1 : x1.length ≤ 20) (f2 : 0 ≤ Txt.count x1 (Str.ofString "\t")) (f3 : Txt.count x1 (Str.ofString "\t") ≤ 10) (f1' : x2.length ≤ 20) (f2' : 0 ≤ Txt.count x2 (Str.ofString "\t")) (f3' : Txt.count x2 (Str.ofString "\t") ≤ 10)
    (N : News h₀ L s.heap ((L + 1 + 1 + 1 + 1 + 1 + 1, oT) :: nt))
    (hret : ∀ (h' : Heap) (tk' : Nat) (aF lT a0 e0 tn0 tc0 a1 e1 tn1 tc1 : Addr) (oT' : Obj) (vs0 vs1 : List Value) (kt0 kt1 : WTok),
      Fr h₀ L h' (fun z => if z = Str.ofString "figures" then some (.ref aF) else m z) → oT'.data = .cell (some (.ref lT)) → IntsAre vs0 (wsOf (typedS x1 r)).ns → IntsAre vs1 (wsOf (typedS x2 r)).ns → WSB (typedS x1 r) → WSB (typedS x2 r) →
      LtAll aF ((L + 1 + 1 + 1 + 1 + 1 + 1) :: nt.map (·.1)) → OffH lT (a1 :: e1 :: tn1 :: tc1 :: a0 :: e0 :: tn0 :: tc0 :: aF :: (L + 1 + 1 + 1 + 1 + 1 + 1) :: nt.map (·.1)) → (∀ z ∈ [e0, a0, tc0, tn0, e1, a1, tc1, tn1], LtAll z (aF :: (L + 1 + 1 + 1 + 1 + 1 + 1) :: nt.map (·.1))) →
      News h₀ L h' ((lT, LCg.lst [.ref a0, .ref a1]) :: (a1, instObj 83 e1) :: (e1, dictOf (wsDict w (typedS x2 r) tn1 kt1) 5) :: (tn1, tupOf [.ref tc1, .int (wsOf (typedS x2 r)).b kt1.v4]) :: (tc1, tupOf vs1) ::
        (a0, instObj 83 e0) :: (e0, dictOf (wsDict w (typedS x1 r) tn0 kt0) 5) :: (tn0, tupOf [.ref tc0, .int (wsOf (typedS x1 r)).b kt0.v4]) :: (tc0, tupOf vs0) :: (aF, PySem.W.listOf #[] 0) :: (L + 1 + 1 + 1 + 1 + 1 + 1, oT') :: nt) →
      wpAny (model PySem.Challenge.rw_xb0022_02.row.prog w) (callerA.deeper (envOfC (Str.ofString "law") sc L fx (.ref rr))) (execs (code.drop 2) (envOfC (Str.ofString "law") sc L fx (.ref rr))) Q E { s with heap := h', toks := tk' }) :
    wpAny (model PySem.Challenge.rw_xb0022_02.row.prog w) (callerA.deeper (envOfC (Str.ofString "law") sc L fx (.ref rr))) (execs code (envOfC (Str.ofString "law") sc L fx (.ref rr))) Q E s := by
  simp only [lawDef, nthS, forB] at hsc hcode
  subst hsc hcode
  revert KX; k_fill; intro KX
  have hMk := kstMark
  have hLt := LtMark.mk
  have N0 : News h₀ L s.heap ((L + 1 + 1 + 1 + 1 + 1 + 1, oT) :: (L + 1 + 1 + 1 + 1 + 1, oL) :: (q, PySem.W.listOf #[.str x1 t1, .str x2 t2] kq) :: (L + 1, oR) :: nt) :=
    List.forall_mem_cons.mpr ⟨N _ (.head _), List.forall_mem_cons.mpr ⟨N _ (.tail _ nL), List.forall_mem_cons.mpr ⟨N _ (.tail _ nq), List.forall_mem_cons.mpr ⟨N _ (.tail _ nR), fun p hp => N p (.tail _ hp)⟩⟩⟩⟩
  have o6 : OffH (L + 1 + 1 + 1 + 1 + 1 + 1) [L + 1 + 1 + 1 + 1 + 1, q, L + 1] := .mk (List.forall_mem_cons.mpr ⟨hn6 _ nL, List.forall_mem_cons.mpr ⟨hn6 _ nq, List.forall_mem_cons.mpr ⟨hn6 _ nR, List.forall_mem_nil _⟩⟩⟩)
  clear N nL nq nR
  have lX : (Str.ofString "x \t").length = 3 := by decide +kernel
  walk1
  (repeat' (first | ((with_reducible rename NoOwn => hNo9); clear hNo9) | (k_unfold; (try dsimp only)) | ((with_reducible refine Own.mk ?_); (first | (((with_reducible show wpAny _ _ (subscriptTail _ _ (Value.ref _) (Value.int _ _)) _ _ _); k_dflt (refine' item_lit ?k1 ?k2 ?k3 ?_ ?k6; (case k1 => exact News.isList (by k_asm) (by k_mem)); (case k2 => with_reducible assumption); (case k3 => first | with_reducible assumption | exact nth_push (by with_reducible assumption)); (case k6 => with_unfolding_all rfl); k_whole))) | ((k_here; (with_reducible show wpAny _ _ (compareOp _ (Value.int (0 + _) _) (Value.int 0 _)) _ _ _); (refine gt_int_yes ?e ?_); (case e => omega))) | ((k_here; (with_reducible show wpAny _ _ (compareOp _ (Value.int (0 + _) _) (Value.int 0 _)) _ _ _); (refine eq_int_no ?e ?_); (case e => omega))) | ((with_reducible show wpAny _ _ (compareOp CmpOp.IsNot (Value.bool _) (Value.bool _)) _ _ _); (k_here; (with_reducible refine isnot_same ?e ?_); (case e => with_reducible assumption))) | ((k_here; (with_reducible rename NextMark => hN9); (with_reducible show wpAny _ _ (compareOp CmpOp.NotEq (Value.ref _) (Value.ref _)) _ _ _); k_dflt (refine' ne_pair_no ?k1 ?k2 ?e1 ?e2 ?k7 ?_; (case k1 => exact News.isList (by k_asm) (by k_mem)); (case k2 => exact News.isList (by k_asm) (by k_mem)); (case e1 => with_reducible assumption); (case e2 => with_reducible assumption); (case k7 => ktr_units); k_whole); clear hN9)) | ((with_reducible show wpAny _ _ (compareOp CmpOp.Eq (Value.bytes _ _) (Value.bytes _ _)) _ _ _); (k_here; (refine eq_bytes_no (by assumption) ?_))) | ((k_here; (with_reducible show wpAny _ _ (subscriptTail _ (PySem.Expr.Slice _ _ none _) (Value.bytes _ _) (Value.ref _)) _ _ _); (with_reducible rename ToldF _ _ _ => hT9); (with_reducible rename Fr _ _ _ _ => F'); (with_reducible rename News _ _ _ _ => N'); (refine told_slice (s := ⟨_, _, _, _, _⟩) hT9 F' N' ?_); intro _ _ _ _ _ hP')) | ((with_reducible show wpAny _ _ (compareOp CmpOp.NotEq (Value.bytes _ _) (Value.bytes _ _)) _ _ _); (k_here; (refine ne_bytes_no ?e ?_); (case e => exact word_eq (by omega) (by omega)))) | ((with_reducible show wpAny _ _ (binaryOp _ (Value.bytes _ _) (Value.bytes _ _)) _ _ _); (k_here; (with_reducible rename ToldF _ _ _ => hT9); (refine word_add hT9 ?_); intro t' k')) | ((k_here; (with_reducible show wpAny _ _ (call (Value.builtin _) [Value.ref _, _]) _ _ _); k_dflt (refine' append_K ?k1 ?k2 ?k3 ?_ ?z; (case k1 => k_asm); (case k2 => k_asm); (case k3 => k_upd); (case z => exact Nat.le_of_ble_eq_true rfl); k_whole); intro h' F' N'; (try k_sweep))) | ((k_here; (with_reducible show wpAny _ _ (subscriptTail (PySem.Expr.Subscript _ _ _) _ (Value.ref _) (Value.int _ _)) _ _ _); k_dflt (refine' tup_lit ?k1 ?k2 ?k3 ?_ ?k6; (case k1 => exact News.isTup (by k_asm) (by k_mem)); (case k2 => exact rfl); (case k3 => exact rfl); (case k6 => with_unfolding_all rfl); k_whole))) | (((with_reducible show wpAny _ _ (subscriptTail _ _ (Value.ref _) (Value.int _ _)) _ _ _); k_dflt (refine' tup_lit ?k1 ?k2 ?k3 ?_ ?k6; (case k1 => exact News.isTup (by k_asm) (by k_mem)); (case k2 => exact rfl); (case k3 => exact rfl); (case k6 => with_unfolding_all rfl); k_whole))) | ((with_reducible show wpAny _ _ (compareOp CmpOp.IsNot (Value.bool _) (Value.bool _)) _ _ _); (k_here; (with_reducible refine isnot_same ?e ?_); (case e => first | exact eq_yes | exact eq_no (by with_reducible assumption) (by with_reducible assumption)))) | ((k_here; (with_reducible show wpAny _ _ (compareOp CmpOp.NotEq (Value.ref _) (Value.ref _)) _ _ _); k_dflt (refine' norm_ne_no ?k1 ?k2 ?k3 ?k4 ?k5 ?k6 ?e1 ?e2 ?k7 ?_; (case k1 => exact News.isTup (by k_asm) (by k_mem)); (case k4 => exact News.isTup (by k_asm) (by k_mem)); (case k2 => exact News.isTup (by k_asm) (by k_mem)); (case k5 => exact News.isTup (by k_asm) (by k_mem)); (case k3 => with_reducible assumption); (case k6 => with_reducible assumption); (case e1 => with_reducible assumption); (case e2 => with_reducible assumption); (case k7 => ktr_units); k_whole))) | (((with_reducible show wpAny _ _ (subscriptTail _ _ (Value.ref _) (Value.int _ _)) _ _ _); k_dflt (refine' item_lit ?k1 ?k2 ?k3 ?_ ?k6; (case k1 => exact News.isList (by k_asm) (by k_mem)); (case k2 => exact rfl); (case k3 => exact rfl); (case k6 => with_unfolding_all rfl); k_whole))) | ((k_here; (with_reducible show wpAny _ _ (subscriptTail _ _ (Value.ref _) (Value.int _ _)) _ _ _); k_dflt (refine' item_lit ?k1 ?k2 ?k3 ?_ ?k6; (case k1 => exact News.isList (by k_asm) (by k_mem)); (case k2 => exact rfl); (case k3 => exact rfl); (case k6 => with_unfolding_all rfl); k_whole))) | ((k_here; (with_reducible show wpAny _ _ (subscriptTail _ _ (Value.ref _) (Value.int _ _)) _ _ _); k_dflt (refine' item_anyT ?k1 ?k2 ?k3 ?k4 ?k5 ?_ ?k6; (case k1 => exact News.isTup (by k_asm) (by k_mem)); (case k2 => with_reducible assumption); (case k3 => omega); (case k4 => omega); (case k5 => omega); (case k6 => with_unfolding_all rfl); k_whole); intro _)) | ((k_here; (with_reducible show wpAny _ _ (call (Value.builtin "len") [Value.ref _]) _ _ _); k_dflt (refine' len_tupI ?k1 ?k2 ?k3 ?_; (case k1 => exact News.isTup (by k_asm) (by k_mem)); (case k2 => with_reducible assumption); (case k3 => omega); k_whole))) | ((k_here; (with_reducible show wpAny _ _ (call (Value.type _) [Value.ref _]) _ _ _); k_dflt (refine' kde_tupleOf ?k1 ?k2 ?k3 ?k4 ?k5 ?_; (case k1 => k_asm); (case k2 => k_asm); (case k3 => exact News.isList (by k_asm) (by k_mem)); (case k5 => exact rfl); (case k4 => (simp only [List.size_toArray]; (have hq9 := IntsAre.length (by assumption)); omega)); k_whole); intro D' h' F' N' l1; (try k_lt l1); (try k_sweep))) | ((with_reducible show wpAny _ _ (call (Value.ref _) _) _ _ _); (first | ((k_here; (with_reducible show wpAny _ _ (call (Value.ref 83) [Value.str _ _]) _ _ _); k_dflt (refine' ws_ok ?kB ?kF ?kX ?kN ?kT rfl ?kd ?ku ?k1 ?_; (case kB => k_asm); (case kF => k_asm); (case kX => assumption); (case kN => k_asm); (case kT => k_asm); (case kd => ktr_room); (case ku => ktr_units); (case k1 => omega)); intro a' d' tn' tc' vs' t' h' tk' hv' hb' l1' l2' l3' l4' F' N'; (try simp only [wsLed, List.cons_append, List.nil_append] at N'); (try dsimp only); (try k_lt l1'); (try k_sweep))) | ((k_here; (with_reducible show wpAny _ _ (call (Value.ref 133) [Value.ref _]) _ _ _); k_dflt (refine' draws_ok ?kB ?kF ?kX ?kN ?kT rfl ?kd ?ku ?k1 ?k2 ?k3 ?_; (case kB => k_asm); (case kF => k_asm); (case kX => assumption); (case kN => k_asm); (case kT => k_asm); (case kd => ktr_room); (case ku => ktr_units); (case k1 => assumption); (case k2 => assumption); (case k3 => omega)); intro r' d1 d2 d3 td1 td2 td3 h' tk' g0' g1' g2' l1' F' N'; (have m4' := fmod_bd d3 4 (by decide)); (have m3' := fmod_bd d3 3 (by decide)); (have m5' := fmod_bd d1 5 (by decide)); (have m6' := fmod_bd d2 5 (by decide)); (try dsimp only); (try k_lt l1'); (try k_sweep))))) | (have hNo9 := NoOwn.mk; walk1))) | ((fail_if_success (first | (first | (with_reducible show wpAny _ _ (exec (Stmt.While _ _ _ _) _) _ _ _) | (with_reducible show wpAny _ _ (pyIter _) (fun it s₂ => LoopAtV _ _ _ _ _ _ _ _ _ it s₂) _ _) | (with_reducible show wpAny _ _ (pyIter _) (fun it s₂ => PairAt3 _ _ _ _ _ _ _ _ _ _ it s₂) _ _)) | ((with_reducible show LCg.CompSrc _ _ _ _ _ _ _ _ _ _ _ _ _ _)) | ((with_reducible show SrcB _ _ _ _ _ _ _ _ _ _ _ _ _ _)) | ((with_reducible show wpAny _ _ (execs (Stmt.For _ _ _ _ _ :: _) _) _ _ _)))); (first | walk1 | (dsimp only; walk1) | (leave1; try dsimp only)))))
  with_reducible rename Fr _ _ _ _ => lF9
  with_reducible rename News _ _ _ _ => lN9
  refine LCg.CompSrc.ledger (by rfl) lF9 lN9 (by k_mem) (by exact Nat.le_of_ble_eq_true rfl) ?_
  intro g
  refine rest_typed2 83 m4 (fun l hl => .inr ⟨_, hl _ (by k_mem), rfl, _, rfl⟩) ?_ ?_
  · intro i' v I oI C oC D ys m₂ h tk E' ex hi' hvi hC hx' F' N' off ne
    (try ((with_reducible rename LtMark => hLt); clear hLt))
    obtain ⟨a, t, rfl, fa, fb, fc⟩ : ∃ (a : Str) (t : Tok), v = .str a t ∧ a.length ≤ 20 ∧ 0 ≤ Txt.count a (Str.ofString "\t") ∧ Txt.count a (Str.ofString "\t") ≤ 10 := by
      rcases two_at (by simpa using hvi) with rfl | rfl
      · exact ⟨_, _, rfl, f1, f2, f3⟩
      · exact ⟨_, _, rfl, f1', f2', f3'⟩
    clear lF9 lN9
    simp only [List.cons_append, List.nil_append] at N' off
    (repeat' (first | ((with_reducible rename NoOwn => hNo9); clear hNo9) | (k_unfold; (try dsimp only)) | ((with_reducible refine Own.mk ?_); (first | (((with_reducible show wpAny _ _ (subscriptTail _ _ (Value.ref _) (Value.int _ _)) _ _ _); k_dflt (refine' item_lit ?k1 ?k2 ?k3 ?_ ?k6; (case k1 => exact News.isList (by k_asm) (by k_mem)); (case k2 => with_reducible assumption); (case k3 => first | with_reducible assumption | exact nth_push (by with_reducible assumption)); (case k6 => with_unfolding_all rfl); k_whole))) | ((k_here; (with_reducible show wpAny _ _ (compareOp _ (Value.int (0 + _) _) (Value.int 0 _)) _ _ _); (refine gt_int_yes ?e ?_); (case e => omega))) | ((k_here; (with_reducible show wpAny _ _ (compareOp _ (Value.int (0 + _) _) (Value.int 0 _)) _ _ _); (refine eq_int_no ?e ?_); (case e => omega))) | ((with_reducible show wpAny _ _ (compareOp CmpOp.IsNot (Value.bool _) (Value.bool _)) _ _ _); (k_here; (with_reducible refine isnot_same ?e ?_); (case e => with_reducible assumption))) | ((k_here; (with_reducible rename NextMark => hN9); (with_reducible show wpAny _ _ (compareOp CmpOp.NotEq (Value.ref _) (Value.ref _)) _ _ _); k_dflt (refine' ne_pair_no ?k1 ?k2 ?e1 ?e2 ?k7 ?_; (case k1 => exact News.isList (by k_asm) (by k_mem)); (case k2 => exact News.isList (by k_asm) (by k_mem)); (case e1 => with_reducible assumption); (case e2 => with_reducible assumption); (case k7 => ktr_units); k_whole); clear hN9)) | ((with_reducible show wpAny _ _ (compareOp CmpOp.Eq (Value.bytes _ _) (Value.bytes _ _)) _ _ _); (k_here; (refine eq_bytes_no (by assumption) ?_))) | ((k_here; (with_reducible show wpAny _ _ (subscriptTail _ (PySem.Expr.Slice _ _ none _) (Value.bytes _ _) (Value.ref _)) _ _ _); (with_reducible rename ToldF _ _ _ => hT9); (with_reducible rename Fr _ _ _ _ => F'); (with_reducible rename News _ _ _ _ => N'); (refine told_slice (s := ⟨_, _, _, _, _⟩) hT9 F' N' ?_); intro _ _ _ _ _ hP')) | ((with_reducible show wpAny _ _ (compareOp CmpOp.NotEq (Value.bytes _ _) (Value.bytes _ _)) _ _ _); (k_here; (refine ne_bytes_no ?e ?_); (case e => exact word_eq (by omega) (by omega)))) | ((with_reducible show wpAny _ _ (binaryOp _ (Value.bytes _ _) (Value.bytes _ _)) _ _ _); (k_here; (with_reducible rename ToldF _ _ _ => hT9); (refine word_add hT9 ?_); intro t' k')) | ((k_here; (with_reducible show wpAny _ _ (call (Value.builtin _) [Value.ref _, _]) _ _ _); k_dflt (refine' append_K ?k1 ?k2 ?k3 ?_ ?z; (case k1 => k_asm); (case k2 => k_asm); (case k3 => k_upd); (case z => exact Nat.le_of_ble_eq_true rfl); k_whole); intro h' F' N'; (try k_sweep))) | ((k_here; (with_reducible show wpAny _ _ (subscriptTail (PySem.Expr.Subscript _ _ _) _ (Value.ref _) (Value.int _ _)) _ _ _); k_dflt (refine' tup_lit ?k1 ?k2 ?k3 ?_ ?k6; (case k1 => exact News.isTup (by k_asm) (by k_mem)); (case k2 => exact rfl); (case k3 => exact rfl); (case k6 => with_unfolding_all rfl); k_whole))) | (((with_reducible show wpAny _ _ (subscriptTail _ _ (Value.ref _) (Value.int _ _)) _ _ _); k_dflt (refine' tup_lit ?k1 ?k2 ?k3 ?_ ?k6; (case k1 => exact News.isTup (by k_asm) (by k_mem)); (case k2 => exact rfl); (case k3 => exact rfl); (case k6 => with_unfolding_all rfl); k_whole))) | ((with_reducible show wpAny _ _ (compareOp CmpOp.IsNot (Value.bool _) (Value.bool _)) _ _ _); (k_here; (with_reducible refine isnot_same ?e ?_); (case e => first | exact eq_yes | exact eq_no (by with_reducible assumption) (by with_reducible assumption)))) | ((k_here; (with_reducible show wpAny _ _ (compareOp CmpOp.NotEq (Value.ref _) (Value.ref _)) _ _ _); k_dflt (refine' norm_ne_no ?k1 ?k2 ?k3 ?k4 ?k5 ?k6 ?e1 ?e2 ?k7 ?_; (case k1 => exact News.isTup (by k_asm) (by k_mem)); (case k4 => exact News.isTup (by k_asm) (by k_mem)); (case k2 => exact News.isTup (by k_asm) (by k_mem)); (case k5 => exact News.isTup (by k_asm) (by k_mem)); (case k3 => with_reducible assumption); (case k6 => with_reducible assumption); (case e1 => with_reducible assumption); (case e2 => with_reducible assumption); (case k7 => ktr_units); k_whole))) | (((with_reducible show wpAny _ _ (subscriptTail _ _ (Value.ref _) (Value.int _ _)) _ _ _); k_dflt (refine' item_lit ?k1 ?k2 ?k3 ?_ ?k6; (case k1 => exact News.isList (by k_asm) (by k_mem)); (case k2 => exact rfl); (case k3 => exact rfl); (case k6 => with_unfolding_all rfl); k_whole))) | ((k_here; (with_reducible show wpAny _ _ (subscriptTail _ _ (Value.ref _) (Value.int _ _)) _ _ _); k_dflt (refine' item_lit ?k1 ?k2 ?k3 ?_ ?k6; (case k1 => exact News.isList (by k_asm) (by k_mem)); (case k2 => exact rfl); (case k3 => exact rfl); (case k6 => with_unfolding_all rfl); k_whole))) | ((k_here; (with_reducible show wpAny _ _ (subscriptTail _ _ (Value.ref _) (Value.int _ _)) _ _ _); k_dflt (refine' item_anyT ?k1 ?k2 ?k3 ?k4 ?k5 ?_ ?k6; (case k1 => exact News.isTup (by k_asm) (by k_mem)); (case k2 => with_reducible assumption); (case k3 => omega); (case k4 => omega); (case k5 => omega); (case k6 => with_unfolding_all rfl); k_whole); intro _)) | ((k_here; (with_reducible show wpAny _ _ (call (Value.builtin "len") [Value.ref _]) _ _ _); k_dflt (refine' len_tupI ?k1 ?k2 ?k3 ?_; (case k1 => exact News.isTup (by k_asm) (by k_mem)); (case k2 => with_reducible assumption); (case k3 => omega); k_whole))) | ((k_here; (with_reducible show wpAny _ _ (call (Value.type _) [Value.ref _]) _ _ _); k_dflt (refine' kde_tupleOf ?k1 ?k2 ?k3 ?k4 ?k5 ?_; (case k1 => k_asm); (case k2 => k_asm); (case k3 => exact News.isList (by k_asm) (by k_mem)); (case k5 => exact rfl); (case k4 => (simp only [List.size_toArray]; (have hq9 := IntsAre.length (by assumption)); omega)); k_whole); intro D' h' F' N' l1; (try k_lt l1); (try k_sweep))) | ((with_reducible show wpAny _ _ (call (Value.ref _) _) _ _ _); (first | ((k_here; (with_reducible show wpAny _ _ (call (Value.ref 83) [Value.str _ _]) _ _ _); k_dflt (refine' ws_ok ?kB ?kF ?kX ?kN ?kT rfl ?kd ?ku ?k1 ?_; (case kB => k_asm); (case kF => k_asm); (case kX => assumption); (case kN => k_asm); (case kT => k_asm); (case kd => ktr_room); (case ku => ktr_units); (case k1 => omega)); intro a' d' tn' tc' vs' t' h' tk' hv' hb' l1' l2' l3' l4' F' N'; (try simp only [wsLed, List.cons_append, List.nil_append] at N'); (try dsimp only); (try k_lt l1'); (try k_sweep))) | ((k_here; (with_reducible show wpAny _ _ (call (Value.ref 133) [Value.ref _]) _ _ _); k_dflt (refine' draws_ok ?kB ?kF ?kX ?kN ?kT rfl ?kd ?ku ?k1 ?k2 ?k3 ?_; (case kB => k_asm); (case kF => k_asm); (case kX => assumption); (case kN => k_asm); (case kT => k_asm); (case kd => ktr_room); (case ku => ktr_units); (case k1 => assumption); (case k2 => assumption); (case k3 => omega)); intro r' d1 d2 d3 td1 td2 td3 h' tk' g0' g1' g2' l1' F' N'; (have m4' := fmod_bd d3 4 (by decide)); (have m3' := fmod_bd d3 3 (by decide)); (have m5' := fmod_bd d1 5 (by decide)); (have m6' := fmod_bd d2 5 (by decide)); (try dsimp only); (try k_lt l1'); (try k_sweep))))) | (have hNo9 := NoOwn.mk; walk1))) | ((fail_if_success (first | (first | (with_reducible show wpAny _ _ (exec (Stmt.While _ _ _ _) _) _ _ _) | (with_reducible show wpAny _ _ (pyIter _) (fun it s₂ => LoopAtV _ _ _ _ _ _ _ _ _ it s₂) _ _) | (with_reducible show wpAny _ _ (pyIter _) (fun it s₂ => PairAt3 _ _ _ _ _ _ _ _ _ _ it s₂) _ _)) | ((with_reducible show LCg.CompSrc _ _ _ _ _ _ _ _ _ _ _ _ _ _)) | ((with_reducible show SrcB _ _ _ _ _ _ _ _ _ _ _ _ _ _)) | ((with_reducible show wpAny _ _ (execs (Stmt.For _ _ _ _ _ :: _) _) _ _ _)))); (first | walk1 | (dsimp only; walk1) | (leave1; try dsimp only)))))
    (with_reducible rename News _ _ _ _ => nN9)
    exact typed_end (by assumption) nN9 (by assumption) (by assumption) (by assumption) (by assumption) (by assumption) (by (first | assumption | ((rename (_ < _ ∧ _) => q9); (repeat (replace q9 := q9.2)); exact q9) | (exact allLt_of (by assumption))))
  intro a0 e0 tn0 tc0 vs0 kt0 a1 e1 tn1 tc1 vs1 kt1 hi0 hi1 hb0 hb1 lt0 lt1
  clear lF9 lN9
  have z1 := LtAll.of lt0
  simp only [List.map_cons, List.map_nil] at z1
  have z2 := z1.up lt1.1
  have z3 := z2.up lt1.2.1
  have z4 := z3.up lt1.2.2.1
  have z5 := z4.up lt1.2.2.2.1
  have z6 := z5.up lt1.2.2.2.2.1
  have z7 := z6.up lt1.2.2.2.2.2.1
  have z8 := z7.up lt1.2.2.2.2.2.2
  clear lt0
  simp only [wsLed, List.cons_append, List.nil_append]
  (repeat' (first | ((with_reducible rename NoOwn => hNo9); clear hNo9) | (k_unfold; (try dsimp only)) | ((with_reducible refine Own.mk ?_); (first | (((with_reducible show wpAny _ _ (subscriptTail _ _ (Value.ref _) (Value.int _ _)) _ _ _); k_dflt (refine' item_lit ?k1 ?k2 ?k3 ?_ ?k6; (case k1 => exact News.isList (by k_asm) (by k_mem)); (case k2 => with_reducible assumption); (case k3 => first | with_reducible assumption | exact nth_push (by with_reducible assumption)); (case k6 => with_unfolding_all rfl); k_whole))) | ((k_here; (with_reducible show wpAny _ _ (compareOp _ (Value.int (0 + _) _) (Value.int 0 _)) _ _ _); (refine gt_int_yes ?e ?_); (case e => omega))) | ((k_here; (with_reducible show wpAny _ _ (compareOp _ (Value.int (0 + _) _) (Value.int 0 _)) _ _ _); (refine eq_int_no ?e ?_); (case e => omega))) | ((with_reducible show wpAny _ _ (compareOp CmpOp.IsNot (Value.bool _) (Value.bool _)) _ _ _); (k_here; (with_reducible refine isnot_same ?e ?_); (case e => with_reducible assumption))) | ((k_here; (with_reducible rename NextMark => hN9); (with_reducible show wpAny _ _ (compareOp CmpOp.NotEq (Value.ref _) (Value.ref _)) _ _ _); k_dflt (refine' ne_pair_no ?k1 ?k2 ?e1 ?e2 ?k7 ?_; (case k1 => exact News.isList (by k_asm) (by k_mem)); (case k2 => exact News.isList (by k_asm) (by k_mem)); (case e1 => with_reducible assumption); (case e2 => with_reducible assumption); (case k7 => ktr_units); k_whole); clear hN9)) | ((with_reducible show wpAny _ _ (compareOp CmpOp.Eq (Value.bytes _ _) (Value.bytes _ _)) _ _ _); (k_here; (refine eq_bytes_no (by assumption) ?_))) | ((k_here; (with_reducible show wpAny _ _ (subscriptTail _ (PySem.Expr.Slice _ _ none _) (Value.bytes _ _) (Value.ref _)) _ _ _); (with_reducible rename ToldF _ _ _ => hT9); (with_reducible rename Fr _ _ _ _ => F'); (with_reducible rename News _ _ _ _ => N'); (refine told_slice (s := ⟨_, _, _, _, _⟩) hT9 F' N' ?_); intro _ _ _ _ _ hP')) | ((with_reducible show wpAny _ _ (compareOp CmpOp.NotEq (Value.bytes _ _) (Value.bytes _ _)) _ _ _); (k_here; (refine ne_bytes_no ?e ?_); (case e => exact word_eq (by omega) (by omega)))) | ((with_reducible show wpAny _ _ (binaryOp _ (Value.bytes _ _) (Value.bytes _ _)) _ _ _); (k_here; (with_reducible rename ToldF _ _ _ => hT9); (refine word_add hT9 ?_); intro t' k')) | ((k_here; (with_reducible show wpAny _ _ (call (Value.builtin _) [Value.ref _, _]) _ _ _); k_dflt (refine' append_K ?k1 ?k2 ?k3 ?_ ?z; (case k1 => k_asm); (case k2 => k_asm); (case k3 => k_upd); (case z => exact Nat.le_of_ble_eq_true rfl); k_whole); intro h' F' N'; (try k_sweep))) | ((k_here; (with_reducible show wpAny _ _ (subscriptTail (PySem.Expr.Subscript _ _ _) _ (Value.ref _) (Value.int _ _)) _ _ _); k_dflt (refine' tup_lit ?k1 ?k2 ?k3 ?_ ?k6; (case k1 => exact News.isTup (by k_asm) (by k_mem)); (case k2 => exact rfl); (case k3 => exact rfl); (case k6 => with_unfolding_all rfl); k_whole))) | (((with_reducible show wpAny _ _ (subscriptTail _ _ (Value.ref _) (Value.int _ _)) _ _ _); k_dflt (refine' tup_lit ?k1 ?k2 ?k3 ?_ ?k6; (case k1 => exact News.isTup (by k_asm) (by k_mem)); (case k2 => exact rfl); (case k3 => exact rfl); (case k6 => with_unfolding_all rfl); k_whole))) | ((with_reducible show wpAny _ _ (compareOp CmpOp.IsNot (Value.bool _) (Value.bool _)) _ _ _); (k_here; (with_reducible refine isnot_same ?e ?_); (case e => first | exact eq_yes | exact eq_no (by with_reducible assumption) (by with_reducible assumption)))) | ((k_here; (with_reducible show wpAny _ _ (compareOp CmpOp.NotEq (Value.ref _) (Value.ref _)) _ _ _); k_dflt (refine' norm_ne_no ?k1 ?k2 ?k3 ?k4 ?k5 ?k6 ?e1 ?e2 ?k7 ?_; (case k1 => exact News.isTup (by k_asm) (by k_mem)); (case k4 => exact News.isTup (by k_asm) (by k_mem)); (case k2 => exact News.isTup (by k_asm) (by k_mem)); (case k5 => exact News.isTup (by k_asm) (by k_mem)); (case k3 => with_reducible assumption); (case k6 => with_reducible assumption); (case e1 => with_reducible assumption); (case e2 => with_reducible assumption); (case k7 => ktr_units); k_whole))) | (((with_reducible show wpAny _ _ (subscriptTail _ _ (Value.ref _) (Value.int _ _)) _ _ _); k_dflt (refine' item_lit ?k1 ?k2 ?k3 ?_ ?k6; (case k1 => exact News.isList (by k_asm) (by k_mem)); (case k2 => exact rfl); (case k3 => exact rfl); (case k6 => with_unfolding_all rfl); k_whole))) | ((k_here; (with_reducible show wpAny _ _ (subscriptTail _ _ (Value.ref _) (Value.int _ _)) _ _ _); k_dflt (refine' item_lit ?k1 ?k2 ?k3 ?_ ?k6; (case k1 => exact News.isList (by k_asm) (by k_mem)); (case k2 => exact rfl); (case k3 => exact rfl); (case k6 => with_unfolding_all rfl); k_whole))) | ((k_here; (with_reducible show wpAny _ _ (subscriptTail _ _ (Value.ref _) (Value.int _ _)) _ _ _); k_dflt (refine' item_anyT ?k1 ?k2 ?k3 ?k4 ?k5 ?_ ?k6; (case k1 => exact News.isTup (by k_asm) (by k_mem)); (case k2 => with_reducible assumption); (case k3 => omega); (case k4 => omega); (case k5 => omega); (case k6 => with_unfolding_all rfl); k_whole); intro _)) | ((k_here; (with_reducible show wpAny _ _ (call (Value.builtin "len") [Value.ref _]) _ _ _); k_dflt (refine' len_tupI ?k1 ?k2 ?k3 ?_; (case k1 => exact News.isTup (by k_asm) (by k_mem)); (case k2 => with_reducible assumption); (case k3 => omega); k_whole))) | ((k_here; (with_reducible show wpAny _ _ (call (Value.type _) [Value.ref _]) _ _ _); k_dflt (refine' kde_tupleOf ?k1 ?k2 ?k3 ?k4 ?k5 ?_; (case k1 => k_asm); (case k2 => k_asm); (case k3 => exact News.isList (by k_asm) (by k_mem)); (case k5 => exact rfl); (case k4 => (simp only [List.size_toArray]; (have hq9 := IntsAre.length (by assumption)); omega)); k_whole); intro D' h' F' N' l1; (try k_lt l1); (try k_sweep))) | ((with_reducible show wpAny _ _ (call (Value.ref _) _) _ _ _); (first | ((k_here; (with_reducible show wpAny _ _ (call (Value.ref 83) [Value.str _ _]) _ _ _); k_dflt (refine' ws_ok ?kB ?kF ?kX ?kN ?kT rfl ?kd ?ku ?k1 ?_; (case kB => k_asm); (case kF => k_asm); (case kX => assumption); (case kN => k_asm); (case kT => k_asm); (case kd => ktr_room); (case ku => ktr_units); (case k1 => omega)); intro a' d' tn' tc' vs' t' h' tk' hv' hb' l1' l2' l3' l4' F' N'; (try simp only [wsLed, List.cons_append, List.nil_append] at N'); (try dsimp only); (try k_lt l1'); (try k_sweep))) | ((k_here; (with_reducible show wpAny _ _ (call (Value.ref 133) [Value.ref _]) _ _ _); k_dflt (refine' draws_ok ?kB ?kF ?kX ?kN ?kT rfl ?kd ?ku ?k1 ?k2 ?k3 ?_; (case kB => k_asm); (case kF => k_asm); (case kX => assumption); (case kN => k_asm); (case kT => k_asm); (case kd => ktr_room); (case ku => ktr_units); (case k1 => assumption); (case k2 => assumption); (case k3 => omega)); intro r' d1 d2 d3 td1 td2 td3 h' tk' g0' g1' g2' l1' F' N'; (have m4' := fmod_bd d3 4 (by decide)); (have m3' := fmod_bd d3 3 (by decide)); (have m5' := fmod_bd d1 5 (by decide)); (have m6' := fmod_bd d2 5 (by decide)); (try dsimp only); (try k_lt l1'); (try k_sweep))))) | (have hNo9 := NoOwn.mk; walk1))) | ((fail_if_success (first | (first | (with_reducible show wpAny _ _ (exec (Stmt.While _ _ _ _) _) _ _ _) | (with_reducible show wpAny _ _ (pyIter _) (fun it s₂ => LoopAtV _ _ _ _ _ _ _ _ _ it s₂) _ _) | (with_reducible show wpAny _ _ (pyIter _) (fun it s₂ => PairAt3 _ _ _ _ _ _ _ _ _ _ it s₂) _ _)) | ((with_reducible show LCg.CompSrc _ _ _ _ _ _ _ _ _ _ _ _ _ _)) | ((with_reducible show SrcB _ _ _ _ _ _ _ _ _ _ _ _ _ _)) | ((with_reducible show wpAny _ _ (execs (Stmt.For _ _ _ _ _ :: _) _) _ _ _)))); (first | walk1 | (dsimp only; walk1) | (leave1; try dsimp only)))))
  (with_reducible rename Fr _ _ _ _ => lF9)
  (with_reducible rename News _ _ _ _ => lN9)
  refine' hret _ _ _ _ _ _ _ _ _ _ _ _ _ _ _ _ _ lF9 ?kL hi0 hi1 hb0 hb1 (LtAll.sub ?kf ?kf2) (OffH.sub ?ko ?ko2) ?kz ?kN
  case kN => exact List.forall_mem_cons.mpr ⟨lN9 _ (by k_mem), List.forall_mem_cons.mpr ⟨lN9 _ (by k_mem), List.forall_mem_cons.mpr ⟨lN9 _ (by k_mem), List.forall_mem_cons.mpr ⟨lN9 _ (by k_mem), List.forall_mem_cons.mpr ⟨lN9 _ (by k_mem), List.forall_mem_cons.mpr ⟨lN9 _ (by k_mem), List.forall_mem_cons.mpr ⟨lN9 _ (by k_mem), List.forall_mem_cons.mpr ⟨lN9 _ (by k_mem), List.forall_mem_cons.mpr ⟨lN9 _ (by k_mem), List.forall_mem_cons.mpr ⟨lN9 _ (by k_mem), List.forall_mem_cons.mpr ⟨lN9 _ (by k_mem), fun p hp => lN9 p (by (repeat' first | exact hp | apply List.Mem.tail))⟩⟩⟩⟩⟩⟩⟩⟩⟩⟩⟩
  case kL => with_reducible assumption
  case kf => with_reducible assumption
  case kf2 => exact List.forall_mem_cons.mpr ⟨by k_mem, fun x hx => by (repeat' first | exact hx | apply List.Mem.tail)⟩
  case ko => with_reducible assumption
  case ko2 => exact List.forall_mem_cons.mpr ⟨by k_mem, List.forall_mem_cons.mpr ⟨by k_mem, List.forall_mem_cons.mpr ⟨by k_mem, List.forall_mem_cons.mpr ⟨by k_mem, List.forall_mem_cons.mpr ⟨by k_mem, List.forall_mem_cons.mpr ⟨by k_mem, List.forall_mem_cons.mpr ⟨by k_mem, List.forall_mem_cons.mpr ⟨by k_mem, List.forall_mem_cons.mpr ⟨by k_mem, List.forall_mem_cons.mpr ⟨by k_mem, fun x hx => by (repeat' first | exact hx | apply List.Mem.tail)⟩⟩⟩⟩⟩⟩⟩⟩⟩⟩
  case kz => exact List.forall_mem_cons.mpr ⟨LtAll.sub z1 (by exact List.forall_mem_cons.mpr ⟨by k_mem, List.forall_mem_cons.mpr ⟨by k_mem, fun x hx => by (repeat' first | exact hx | apply List.Mem.tail)⟩⟩), List.forall_mem_cons.mpr ⟨LtAll.sub z2 (by exact List.forall_mem_cons.mpr ⟨by k_mem, List.forall_mem_cons.mpr ⟨by k_mem, fun x hx => by (repeat' first | exact hx | apply List.Mem.tail)⟩⟩), List.forall_mem_cons.mpr ⟨LtAll.sub z3 (by exact List.forall_mem_cons.mpr ⟨by k_mem, List.forall_mem_cons.mpr ⟨by k_mem, fun x hx => by (repeat' first | exact hx | apply List.Mem.tail)⟩⟩), List.forall_mem_cons.mpr ⟨LtAll.sub z4 (by exact List.forall_mem_cons.mpr ⟨by k_mem, List.forall_mem_cons.mpr ⟨by k_mem, fun x hx => by (repeat' first | exact hx | apply List.Mem.tail)⟩⟩), List.forall_mem_cons.mpr ⟨LtAll.sub z5 (by exact List.forall_mem_cons.mpr ⟨by k_mem, List.forall_mem_cons.mpr ⟨by k_mem, fun x hx => by (repeat' first | exact hx | apply List.Mem.tail)⟩⟩), List.forall_mem_cons.mpr ⟨LtAll.sub z6 (by exact List.forall_mem_cons.mpr ⟨by k_mem, List.forall_mem_cons.mpr ⟨by k_mem, fun x hx => by (repeat' first | exact hx | apply List.Mem.tail)⟩⟩), List.forall_mem_cons.mpr ⟨LtAll.sub z7 (by exact List.forall_mem_cons.mpr ⟨by k_mem, List.forall_mem_cons.mpr ⟨by k_mem, fun x hx => by (repeat' first | exact hx | apply List.Mem.tail)⟩⟩), List.forall_mem_cons.mpr ⟨LtAll.sub z8 (by exact List.forall_mem_cons.mpr ⟨by k_mem, List.forall_mem_cons.mpr ⟨by k_mem, fun x hx => by (repeat' first | exact hx | apply List.Mem.tail)⟩⟩), List.forall_mem_nil _⟩⟩⟩⟩⟩⟩⟩⟩
end
section
/-- the body of the table loop in turn 0 -/
theorem tabA_ok {w : World} {loose : List Str} {mean : ExcName → Option Value} {mg mb : Str → Option Value} {h₀ : Heap} {L fx rr : Addr} {sc : Scope} {code : List Stmt} {m : Str → Option Value} {s : Shared} {Q : Flow → Shared → Prop} {E : Value → Shared → Prop} {nt : List (Addr × Obj)}
    (hsc : sc = lawDef.scope) (hcode : code = forB (nthS (forB (nthS lawDef.body 11)) 2))
    (K0 : Below callerA h₀ [] h₀) (F : Fr h₀ L s.heap m) (KX : (hd2.heap_39 w.params).In h₀) (T : Top hd2.view_39 loose mean mg mb h₀)
    {i : Int} {ti tt : Tok} {aF aB lT lC a e tn tc : Addr} {oT oR oH : Obj} {vH : Option Value} {vsT vsC : List Value} {kC kF kB : Nat} {figs : Array Value} {vs : List Value} {kt : WTok} {x : Str} {c r : Int} {tc' tr : Tok}
    (m1 : m (Str.ofString "table") = some (.int i ti)) (m2 : m (Str.ofString "cards") = some (.ref lC)) (m3 : m (Str.ofString "figures") = some (.ref aF)) (m5 : m (Str.ofString "begun") = some (.ref aB))
    (nT : (L + 1 + 1 + 1 + 1 + 1 + 1, oT) ∈ nt) (nR : (L + 1, oR) ∈ nt) (nlT : (lT, LCg.lst vsT) ∈ nt) (nlC : (lC, PySem.W.listOf vsC.toArray kC) ∈ nt)
    (n1 : (a, instObj 83 e) ∈ nt) (n2 : (e, dictOf (wsDict w (typedS x r) tn kt) 5) ∈ nt) (n3 : (tn, tupOf [.ref tc, .int (wsOf (typedS x r)).b kt.v4]) ∈ nt) (n4 : (tc, tupOf vs) ∈ nt)
    (hT : oT.data = .cell (some (.ref lT))) (hR : oR.data = .cell (some (.int r tr))) (hH : oH.data = .cell vH)
    (hi : decide (0 ≤ i ∧ i < 1000) = true) (hvT : nthV vsT.toArray.toList i.toNat = some (.ref a)) (hvC : nthV vsC.toArray.toList i.toNat = some (.int c tc'))
    (hnH : ∀ p ∈ nt, (p : Addr × Obj).1 ≠ L + 1 + 1 + 1 + 1 + 1 + 1 + 1) (hnF : ∀ p ∈ nt, (p : Addr × Obj).1 ≠ aF) (hFH : @LT.lt Nat _ (L + 1 + 1 + 1 + 1 + 1 + 1 + 1) aF)
    (hfs : figs.size ≤ 9) (hv : IntsAre vs (wsOf (typedS x r)).ns) (hb : WSB (typedS x r)) (hc : 0 ≤ c ∧ c ≤ 1000) (hr : 0 ≤ r ∧ r < 4) (hx : x.length ≤ 20)
    (fa : 0 ≤ moreFirst (typedS x r) c r ∧ moreFirst (typedS x r) c r ≤ 1) (fb : 0 ≤ moreSecond (typedS x r) c r ∧ moreSecond (typedS x r) c r ≤ 1) (fc : 0 ≤ moreThird (typedS x r) c r ∧ moreThird (typedS x r) c r ≤ 1) (fd : 0 ≤ moreLast (typedS x r) c r ∧ moreLast (typedS x r) c r ≤ 1)
    (fe : (wsOf (typedS x r)).ns = dueL (moreFirst (typedS x r) c r) (moreSecond (typedS x r) c r) (moreThird (typedS x r) c r) (moreLast (typedS x r) c r)) (ff : (wsOf (typedS x r)).b = r)
    {q : Addr} {oL : Obj} {begs : Array Value} {vsL : List Value} {kL : Nat} {tx : Tok}
    (m4 : m (Str.ofString "turn") = some (.int 0 tt)) (hbs : begs.size ≤ 9) (hfi : (figs.size : Int) = i) (hbi : (begs.size : Int) = i)
    (N : News h₀ L s.heap ((L + 1 + 1 + 1 + 1 + 1 + 1 + 1, oH) :: (aF, PySem.W.listOf figs kF) :: (aB, PySem.W.listOf begs kB) :: nt))
    (nL : (L + 1 + 1 + 1 + 1 + 1, oL) ∈ nt) (nq : (q, PySem.W.listOf vsL.toArray kL) ∈ nt) (hL : oL.data = .cell (some (.ref q))) (hvL : nthV vsL.toArray.toList i.toNat = some (.str x tx))
    (hnB : ∀ p ∈ nt, (p : Addr × Obj).1 ≠ aB) (hBH : @LT.lt Nat _ (L + 1 + 1 + 1 + 1 + 1 + 1 + 1) aB) (hBF : @LT.lt Nat _ aB aF) (fh : (wsOf (x ++ Txt.mul (Str.ofString " ") (r + 1) ++ Str.ofString "x")).b = r + 1)
    (hret : ∀ (h' : Heap) (tk' : Nat) (oH' : Obj) (vH' : Option Value) (m' : Str → Option Value) (tp : Addr) (tf : Tok), oH'.data = .cell vH' → (∀ z, z ≠ Str.ofString "due" → z ≠ Str.ofString "more" → m' z = m z) → Fr h₀ L h' m' →
      LtAll tp ((L + 1 + 1 + 1 + 1 + 1 + 1 + 1) :: aF :: aB :: nt.map (·.1)) →
      News h₀ L h' ((L + 1 + 1 + 1 + 1 + 1 + 1 + 1, oH') :: (aF, PySem.W.listOf (figs.push (.int (8 * moreFirst (typedS x r) c r + 4 * moreSecond (typedS x r) c r + 2 * moreThird (typedS x r) c r + moreLast (typedS x r) c r) tf)) (kF + 1)) :: (aB, PySem.W.listOf (begs.push (.ref tp)) (kB + 1)) :: (tp, tupOf [.ref a, .int (8 * moreFirst (typedS x r) c r + 4 * moreSecond (typedS x r) c r + 2 * moreThird (typedS x r) c r + moreLast (typedS x r) c r) tf]) :: nt) →
      Q .next { s with heap := h', toks := tk' }) :
    wpAny (model PySem.Challenge.rw_xb0022_02.row.prog w) (callerA.deeper (envOfC (Str.ofString "law") sc L fx (.ref rr))) (execs code (envOfC (Str.ofString "law") sc L fx (.ref rr))) Q E s := by
  simp only [lawDef, nthS, forB] at hsc hcode
  subst hsc hcode
  refine tab_ok rfl rfl K0 F KX T m1 m2 m3 N (.tail _ nT) (.tail _ nR) (.tail _ nlT) (.tail _ nlC) (.tail _ n1) (.tail _ n2) (.tail _ n3) (.tail _ n4) hT hR hH hi hvT hvC (List.forall_mem_cons.mpr ⟨Nat.ne_of_gt hBH, hnH⟩) (List.forall_mem_cons.mpr ⟨Nat.ne_of_lt hBF, hnF⟩) hFH hfs hv hb hc hr fa fb fc fd fe ff ?_
  intro h' tk' oH' vH' vm vd tf hH' F1 N1
  simp only [List.drop_succ_cons, List.drop_zero]
  clear N
  revert KX; k_fill; intro KX
  have hMk := kstMark
  have hLt := LtMark.mk
  have hp0 : ∀ p ∈ [(Str.ofString "table", Value.int i ti), (Str.ofString "turn", Value.int 0 tt), (Str.ofString "begun", Value.ref aB), (Str.ofString "figures", Value.ref aF)], (fun z => if z = Str.ofString "due" then vd else if z = Str.ofString "more" then vm else m z) (p : Str × Value).1 = some p.2 := List.forall_mem_cons.mpr ⟨m1, List.forall_mem_cons.mpr ⟨m4, List.forall_mem_cons.mpr ⟨m5, List.forall_mem_cons.mpr ⟨m3, List.forall_mem_nil _⟩⟩⟩⟩
  have F0 := fr_pickL [(Str.ofString "table", Value.int i ti), (Str.ofString "turn", Value.int 0 tt), (Str.ofString "begun", Value.ref aB), (Str.ofString "figures", Value.ref aF)] hp0 F1
  simp only [pickF] at F0
  have N0 : News h₀ L h' ((L + 1 + 1 + 1 + 1 + 1 + 1 + 1, oH') :: (aF, PySem.W.listOf (figs.push (.int (8 * moreFirst (typedS x r) c r + 4 * moreSecond (typedS x r) c r + 2 * moreThird (typedS x r) c r + moreLast (typedS x r) c r) tf)) (kF + 1)) :: (aB, PySem.W.listOf begs kB) :: (a, instObj 83 e) :: (e, dictOf (wsDict w (typedS x r) tn kt) 5) :: (tn, tupOf [.ref tc, .int (wsOf (typedS x r)).b kt.v4]) :: (tc, tupOf vs) :: (lT, LCg.lst vsT) :: (q, PySem.W.listOf vsL.toArray kL) :: (L + 1 + 1 + 1 + 1 + 1 + 1, oT) :: (L + 1 + 1 + 1 + 1 + 1, oL) :: (L + 1, oR) :: nt) :=
    List.forall_mem_cons.mpr ⟨N1 _ (.head _), List.forall_mem_cons.mpr ⟨N1 _ (.tail _ (.head _)), List.forall_mem_cons.mpr ⟨N1 _ (.tail _ (.tail _ (.head _))), List.forall_mem_cons.mpr ⟨N1 _ (.tail _ (.tail _ (.tail _ n1))), List.forall_mem_cons.mpr ⟨N1 _ (.tail _ (.tail _ (.tail _ n2))), List.forall_mem_cons.mpr ⟨N1 _ (.tail _ (.tail _ (.tail _ n3))), List.forall_mem_cons.mpr ⟨N1 _ (.tail _ (.tail _ (.tail _ n4))), List.forall_mem_cons.mpr ⟨N1 _ (.tail _ (.tail _ (.tail _ nlT))), List.forall_mem_cons.mpr ⟨N1 _ (.tail _ (.tail _ (.tail _ nq))), List.forall_mem_cons.mpr ⟨N1 _ (.tail _ (.tail _ (.tail _ nT))), List.forall_mem_cons.mpr ⟨N1 _ (.tail _ (.tail _ (.tail _ nL))), List.forall_mem_cons.mpr ⟨N1 _ (.tail _ (.tail _ (.tail _ nR))), fun p hp => N1 p (.tail _ (.tail _ (.tail _ hp)))⟩⟩⟩⟩⟩⟩⟩⟩⟩⟩⟩⟩
  have oB1 : OffH aB [a, e, tn, tc, lT, q, L + 1 + 1 + 1 + 1 + 1 + 1, L + 1 + 1 + 1 + 1 + 1, L + 1] := .mk (List.forall_mem_cons.mpr ⟨hnB _ n1, List.forall_mem_cons.mpr ⟨hnB _ n2, List.forall_mem_cons.mpr ⟨hnB _ n3, List.forall_mem_cons.mpr ⟨hnB _ n4, List.forall_mem_cons.mpr ⟨hnB _ nlT, List.forall_mem_cons.mpr ⟨hnB _ nq, List.forall_mem_cons.mpr ⟨hnB _ nT, List.forall_mem_cons.mpr ⟨hnB _ nL, List.forall_mem_cons.mpr ⟨hnB _ nR, List.forall_mem_nil _⟩⟩⟩⟩⟩⟩⟩⟩⟩)
  clear N1 n1 n2 n3 n4 nlT nlC nT nR nL nq F
  have hfg := nth_push (v := .int (8 * moreFirst (typedS x r) c r + 4 * moreSecond (typedS x r) c r + 2 * moreThird (typedS x r) c r + moreLast (typedS x r) c r) tf) hfi
  have hbg := fun v => nth_push (v := v) hbi
  have lX1 : (Str.ofString "x").length = 1 := by decide +kernel
  walk1
  (repeat' (first | ((with_reducible rename NoOwn => hNo9); clear hNo9) | (k_unfold; (try dsimp only)) | ((with_reducible refine Own.mk ?_); (first | (((with_reducible show wpAny _ _ (subscriptTail _ _ (Value.ref _) (Value.int _ _)) _ _ _); k_dflt (refine' item_lit ?k1 ?k2 ?k3 ?_ ?k6; (case k1 => exact News.isList (by k_asm) (by k_mem)); (case k2 => with_reducible assumption); (case k3 => first | with_reducible assumption | exact nth_push (by with_reducible assumption)); (case k6 => with_unfolding_all rfl); k_whole))) | ((k_here; (with_reducible show wpAny _ _ (compareOp _ (Value.int (0 + _) _) (Value.int 0 _)) _ _ _); (refine gt_int_yes ?e ?_); (case e => omega))) | ((k_here; (with_reducible show wpAny _ _ (compareOp _ (Value.int (0 + _) _) (Value.int 0 _)) _ _ _); (refine eq_int_no ?e ?_); (case e => omega))) | ((with_reducible show wpAny _ _ (compareOp CmpOp.IsNot (Value.bool _) (Value.bool _)) _ _ _); (k_here; (with_reducible refine isnot_same ?e ?_); (case e => with_reducible assumption))) | ((k_here; (with_reducible rename NextMark => hN9); (with_reducible show wpAny _ _ (compareOp CmpOp.NotEq (Value.ref _) (Value.ref _)) _ _ _); k_dflt (refine' ne_pair_no ?k1 ?k2 ?e1 ?e2 ?k7 ?_; (case k1 => exact News.isList (by k_asm) (by k_mem)); (case k2 => exact News.isList (by k_asm) (by k_mem)); (case e1 => with_reducible assumption); (case e2 => with_reducible assumption); (case k7 => ktr_units); k_whole); clear hN9)) | ((with_reducible show wpAny _ _ (compareOp CmpOp.Eq (Value.bytes _ _) (Value.bytes _ _)) _ _ _); (k_here; (refine eq_bytes_no (by assumption) ?_))) | ((k_here; (with_reducible show wpAny _ _ (subscriptTail _ (PySem.Expr.Slice _ _ none _) (Value.bytes _ _) (Value.ref _)) _ _ _); (with_reducible rename ToldF _ _ _ => hT9); (with_reducible rename Fr _ _ _ _ => F'); (with_reducible rename News _ _ _ _ => N'); (refine told_slice (s := ⟨_, _, _, _, _⟩) hT9 F' N' ?_); intro _ _ _ _ _ hP')) | ((with_reducible show wpAny _ _ (compareOp CmpOp.NotEq (Value.bytes _ _) (Value.bytes _ _)) _ _ _); (k_here; (refine ne_bytes_no ?e ?_); (case e => exact word_eq (by omega) (by omega)))) | ((with_reducible show wpAny _ _ (binaryOp _ (Value.bytes _ _) (Value.bytes _ _)) _ _ _); (k_here; (with_reducible rename ToldF _ _ _ => hT9); (refine word_add hT9 ?_); intro t' k')) | ((k_here; (with_reducible show wpAny _ _ (call (Value.builtin _) [Value.ref _, _]) _ _ _); k_dflt (refine' append_K ?k1 ?k2 ?k3 ?_ ?z; (case k1 => k_asm); (case k2 => k_asm); (case k3 => k_upd); (case z => exact Nat.le_of_ble_eq_true rfl); k_whole); intro h' F' N'; (try k_sweep))) | ((k_here; (with_reducible show wpAny _ _ (subscriptTail (PySem.Expr.Subscript _ _ _) _ (Value.ref _) (Value.int _ _)) _ _ _); k_dflt (refine' tup_lit ?k1 ?k2 ?k3 ?_ ?k6; (case k1 => exact News.isTup (by k_asm) (by k_mem)); (case k2 => exact rfl); (case k3 => exact rfl); (case k6 => with_unfolding_all rfl); k_whole))) | (((with_reducible show wpAny _ _ (subscriptTail _ _ (Value.ref _) (Value.int _ _)) _ _ _); k_dflt (refine' tup_lit ?k1 ?k2 ?k3 ?_ ?k6; (case k1 => exact News.isTup (by k_asm) (by k_mem)); (case k2 => exact rfl); (case k3 => exact rfl); (case k6 => with_unfolding_all rfl); k_whole))) | ((with_reducible show wpAny _ _ (compareOp CmpOp.IsNot (Value.bool _) (Value.bool _)) _ _ _); (k_here; (with_reducible refine isnot_same ?e ?_); (case e => first | exact eq_yes | exact eq_no (by with_reducible assumption) (by with_reducible assumption)))) | ((k_here; (with_reducible show wpAny _ _ (compareOp CmpOp.NotEq (Value.ref _) (Value.ref _)) _ _ _); k_dflt (refine' norm_ne_no ?k1 ?k2 ?k3 ?k4 ?k5 ?k6 ?e1 ?e2 ?k7 ?_; (case k1 => exact News.isTup (by k_asm) (by k_mem)); (case k4 => exact News.isTup (by k_asm) (by k_mem)); (case k2 => exact News.isTup (by k_asm) (by k_mem)); (case k5 => exact News.isTup (by k_asm) (by k_mem)); (case k3 => with_reducible assumption); (case k6 => with_reducible assumption); (case e1 => with_reducible assumption); (case e2 => with_reducible assumption); (case k7 => ktr_units); k_whole))) | (((with_reducible show wpAny _ _ (subscriptTail _ _ (Value.ref _) (Value.int _ _)) _ _ _); k_dflt (refine' item_lit ?k1 ?k2 ?k3 ?_ ?k6; (case k1 => exact News.isList (by k_asm) (by k_mem)); (case k2 => exact rfl); (case k3 => exact rfl); (case k6 => with_unfolding_all rfl); k_whole))) | ((k_here; (with_reducible show wpAny _ _ (subscriptTail _ _ (Value.ref _) (Value.int _ _)) _ _ _); k_dflt (refine' item_lit ?k1 ?k2 ?k3 ?_ ?k6; (case k1 => exact News.isList (by k_asm) (by k_mem)); (case k2 => exact rfl); (case k3 => exact rfl); (case k6 => with_unfolding_all rfl); k_whole))) | ((k_here; (with_reducible show wpAny _ _ (subscriptTail _ _ (Value.ref _) (Value.int _ _)) _ _ _); k_dflt (refine' item_anyT ?k1 ?k2 ?k3 ?k4 ?k5 ?_ ?k6; (case k1 => exact News.isTup (by k_asm) (by k_mem)); (case k2 => with_reducible assumption); (case k3 => omega); (case k4 => omega); (case k5 => omega); (case k6 => with_unfolding_all rfl); k_whole); intro _)) | ((k_here; (with_reducible show wpAny _ _ (call (Value.builtin "len") [Value.ref _]) _ _ _); k_dflt (refine' len_tupI ?k1 ?k2 ?k3 ?_; (case k1 => exact News.isTup (by k_asm) (by k_mem)); (case k2 => with_reducible assumption); (case k3 => omega); k_whole))) | ((k_here; (with_reducible show wpAny _ _ (call (Value.type _) [Value.ref _]) _ _ _); k_dflt (refine' kde_tupleOf ?k1 ?k2 ?k3 ?k4 ?k5 ?_; (case k1 => k_asm); (case k2 => k_asm); (case k3 => exact News.isList (by k_asm) (by k_mem)); (case k5 => exact rfl); (case k4 => (simp only [List.size_toArray]; (have hq9 := IntsAre.length (by assumption)); omega)); k_whole); intro D' h' F' N' l1; (try k_lt l1); (try k_sweep))) | ((with_reducible show wpAny _ _ (call (Value.ref _) _) _ _ _); (first | ((k_here; (with_reducible show wpAny _ _ (call (Value.ref 59) [Value.ref _, Value.ref _]) _ _ _); k_dflt (refine' equal_ok ?kB ?kF ?kX ?kN ?kT rfl ?kd ?ku ?kW ?kv ?kW' ?kv' ?_; (case kB => k_asm); (case kF => k_asm); (case kX => assumption); (case kN => k_asm); (case kT => k_asm); (case kd => ktr_room); (case ku => ktr_units); (case kW => ((with_reducible rename News _ _ _ _ => nW9); exact kst_newsOf nW9 (by kst_in))); (case kW' => ((with_reducible rename News _ _ _ _ => nW9); exact kst_newsOf nW9 (by kst_in))); (case kv => with_reducible assumption); (case kv' => with_reducible assumption)); intro h' tk' F' N'; (try dsimp only); (try k_sweep))) | ((k_here; (with_reducible show wpAny _ _ (call (Value.ref 83) [Value.str _ _]) _ _ _); k_dflt (refine' ws_ok ?kB ?kF ?kX ?kN ?kT rfl ?kd ?ku ?k1 ?_; (case kB => k_asm); (case kF => k_asm); (case kX => assumption); (case kN => k_asm); (case kT => k_asm); (case kd => ktr_room); (case ku => ktr_units); (case k1 => omega)); intro a' d' tn' tc' vs' t' h' tk' hv' hb' l1' l2' l3' l4' F' N'; (try simp only [wsLed, List.cons_append, List.nil_append] at N'); (try dsimp only); (try k_lt l1'); (try k_sweep))) | ((k_here; (with_reducible show wpAny _ _ (call (Value.ref 133) [Value.ref _]) _ _ _); k_dflt (refine' draws_ok ?kB ?kF ?kX ?kN ?kT rfl ?kd ?ku ?k1 ?k2 ?k3 ?_; (case kB => k_asm); (case kF => k_asm); (case kX => assumption); (case kN => k_asm); (case kT => k_asm); (case kd => ktr_room); (case ku => ktr_units); (case k1 => assumption); (case k2 => assumption); (case k3 => omega)); intro r' d1 d2 d3 td1 td2 td3 h' tk' g0' g1' g2' l1' F' N'; (have m4' := fmod_bd d3 4 (by decide)); (have m3' := fmod_bd d3 3 (by decide)); (have m5' := fmod_bd d1 5 (by decide)); (have m6' := fmod_bd d2 5 (by decide)); (try dsimp only); (try k_lt l1'); (try k_sweep))))) | (have hNo9 := NoOwn.mk; walk1))) | ((fail_if_success (first | (first | (with_reducible show wpAny _ _ (exec (Stmt.While _ _ _ _) _) _ _ _) | (with_reducible show wpAny _ _ (pyIter _) (fun it s₂ => LoopAtV _ _ _ _ _ _ _ _ _ it s₂) _ _) | (with_reducible show wpAny _ _ (pyIter _) (fun it s₂ => PairAt3 _ _ _ _ _ _ _ _ _ _ it s₂) _ _)) | ((with_reducible show LCg.CompSrc _ _ _ _ _ _ _ _ _ _ _ _ _ _)) | ((with_reducible show SrcB _ _ _ _ _ _ _ _ _ _ _ _ _ _)) | ((with_reducible show wpAny _ _ (execs (Stmt.If (PySem.Expr.Compare (PySem.Expr.Name _ _) _ _ _) _ _ _ :: _) _) _ _ _)))); (first | walk1 | (dsimp only; walk1) | (leave1; try dsimp only)))))
  (with_reducible rename Fr _ _ _ _ => lF9)
  (with_reducible rename News _ _ _ _ => lN9)
  refine' hret _ _ _ _ _ _ _ hH' (fun z h1 h2 => ?ke) (fr_unpickL [(Str.ofString "table", Value.int i ti), (Str.ofString "turn", Value.int 0 tt), (Str.ofString "begun", Value.ref aB), (Str.ofString "figures", Value.ref aF)] hp0 lF9) (LtAll.sub ?kl ?km) (List.forall_mem_cons.mpr ⟨lN9 _ ?k1, List.forall_mem_cons.mpr ⟨lN9 _ ?k2, List.forall_mem_cons.mpr ⟨lN9 _ ?k3, List.forall_mem_cons.mpr ⟨lN9 _ ?k4, fun p hp => lN9 p ?k5⟩⟩⟩⟩)
  case k1 => k_mem
  case k2 => k_mem
  case k3 => k_mem
  case k4 => k_mem
  case k5 => (repeat' first | exact hp | apply List.Mem.tail)
  case ke => exact (if_neg h1).trans (if_neg h2)
  case kl => with_reducible assumption
  case km => exact List.forall_mem_cons.mpr ⟨by k_mem, List.forall_mem_cons.mpr ⟨by k_mem, List.forall_mem_cons.mpr ⟨by k_mem, fun p hp => by (repeat' first | exact hp | apply List.Mem.tail)⟩⟩⟩
end
section
/-- the body of the table loop in a later turn -/
theorem tabB_ok {w : World} {loose : List Str} {mean : ExcName → Option Value} {mg mb : Str → Option Value} {h₀ : Heap} {L fx rr : Addr} {sc : Scope} {code : List Stmt} {m : Str → Option Value} {s : Shared} {Q : Flow → Shared → Prop} {E : Value → Shared → Prop} {nt : List (Addr × Obj)}
    (hsc : sc = lawDef.scope) (hcode : code = forB (nthS (forB (nthS lawDef.body 11)) 2))
    (K0 : Below callerA h₀ [] h₀) (F : Fr h₀ L s.heap m) (KX : (hd2.heap_39 w.params).In h₀) (T : Top hd2.view_39 loose mean mg mb h₀)
    {i : Int} {ti tt : Tok} {aF aB lT lC a e tn tc : Addr} {oT oR oH : Obj} {vH : Option Value} {vsT vsC : List Value} {kC kF kB : Nat} {figs : Array Value} {vs : List Value} {kt : WTok} {x : Str} {c r : Int} {tc' tr : Tok}
    (m1 : m (Str.ofString "table") = some (.int i ti)) (m2 : m (Str.ofString "cards") = some (.ref lC)) (m3 : m (Str.ofString "figures") = some (.ref aF)) (m5 : m (Str.ofString "begun") = some (.ref aB))
    (nT : (L + 1 + 1 + 1 + 1 + 1 + 1, oT) ∈ nt) (nR : (L + 1, oR) ∈ nt) (nlT : (lT, LCg.lst vsT) ∈ nt) (nlC : (lC, PySem.W.listOf vsC.toArray kC) ∈ nt)
    (n1 : (a, instObj 83 e) ∈ nt) (n2 : (e, dictOf (wsDict w (typedS x r) tn kt) 5) ∈ nt) (n3 : (tn, tupOf [.ref tc, .int (wsOf (typedS x r)).b kt.v4]) ∈ nt) (n4 : (tc, tupOf vs) ∈ nt)
    (hT : oT.data = .cell (some (.ref lT))) (hR : oR.data = .cell (some (.int r tr))) (hH : oH.data = .cell vH)
    (hi : decide (0 ≤ i ∧ i < 1000) = true) (hvT : nthV vsT.toArray.toList i.toNat = some (.ref a)) (hvC : nthV vsC.toArray.toList i.toNat = some (.int c tc'))
    (hnH : ∀ p ∈ nt, (p : Addr × Obj).1 ≠ L + 1 + 1 + 1 + 1 + 1 + 1 + 1) (hnF : ∀ p ∈ nt, (p : Addr × Obj).1 ≠ aF) (hFH : @LT.lt Nat _ (L + 1 + 1 + 1 + 1 + 1 + 1 + 1) aF)
    (hfs : figs.size ≤ 9) (hv : IntsAre vs (wsOf (typedS x r)).ns) (hb : WSB (typedS x r)) (hc : 0 ≤ c ∧ c ≤ 1000) (hr : 0 ≤ r ∧ r < 4) (hx : x.length ≤ 20)
    (fa : 0 ≤ moreFirst (typedS x r) c r ∧ moreFirst (typedS x r) c r ≤ 1) (fb : 0 ≤ moreSecond (typedS x r) c r ∧ moreSecond (typedS x r) c r ≤ 1) (fc : 0 ≤ moreThird (typedS x r) c r ∧ moreThird (typedS x r) c r ≤ 1) (fd : 0 ≤ moreLast (typedS x r) c r ∧ moreLast (typedS x r) c r ≤ 1)
    (fe : (wsOf (typedS x r)).ns = dueL (moreFirst (typedS x r) c r) (moreSecond (typedS x r) c r) (moreThird (typedS x r) c r) (moreLast (typedS x r) c r)) (ff : (wsOf (typedS x r)).b = r)
    {n fB : Int} {uB : Tok} {tp ab eb tnb tcb : Addr} {begs : Array Value} {X : Str} {vb : List Value} {kb : WTok}
    (m4 : m (Str.ofString "turn") = some (.int n tt)) (hn : 1 ≤ n) (hfi : (figs.size : Int) = i)
    (N : News h₀ L s.heap ((L + 1 + 1 + 1 + 1 + 1 + 1 + 1, oH) :: (aF, PySem.W.listOf figs kF) :: nt))
    (nB : (aB, PySem.W.listOf begs kB) ∈ nt) (hvB : nthV begs.toList i.toNat = some (.ref tp)) (np : (tp, tupOf [.ref ab, .int fB uB]) ∈ nt)
    (b1 : (ab, instObj 83 eb) ∈ nt) (b2 : (eb, dictOf (wsDict w X tnb kb) 5) ∈ nt) (b3 : (tnb, tupOf [.ref tcb, .int (wsOf X).b kb.v4]) ∈ nt) (b4 : (tcb, tupOf vb) ∈ nt) (hvb : IntsAre vb (wsOf X).ns)
    (heq : decide ((wsOf X).ns = (wsOf (typedS x r)).ns ∧ (wsOf X).b = (wsOf (typedS x r)).b) = (fB == (8 * moreFirst (typedS x r) c r + 4 * moreSecond (typedS x r) c r + 2 * moreThird (typedS x r) c r + moreLast (typedS x r) c r)))
    (hret : ∀ (h' : Heap) (tk' : Nat) (oH' : Obj) (vH' : Option Value) (m' : Str → Option Value) (tf : Tok), oH'.data = .cell vH' → (∀ z, z ≠ Str.ofString "due" → z ≠ Str.ofString "more" → m' z = m z) → Fr h₀ L h' m' →
      News h₀ L h' ((L + 1 + 1 + 1 + 1 + 1 + 1 + 1, oH') :: (aF, PySem.W.listOf (figs.push (.int (8 * moreFirst (typedS x r) c r + 4 * moreSecond (typedS x r) c r + 2 * moreThird (typedS x r) c r + moreLast (typedS x r) c r) tf)) (kF + 1)) :: nt) →
      Q .next { s with heap := h', toks := tk' }) :
    wpAny (model PySem.Challenge.rw_xb0022_02.row.prog w) (callerA.deeper (envOfC (Str.ofString "law") sc L fx (.ref rr))) (execs code (envOfC (Str.ofString "law") sc L fx (.ref rr))) Q E s := by
  simp only [lawDef, nthS, forB] at hsc hcode
  subst hsc hcode
  refine tab_ok rfl rfl K0 F KX T m1 m2 m3 N nT nR nlT nlC n1 n2 n3 n4 hT hR hH hi hvT hvC hnH hnF hFH hfs hv hb hc hr fa fb fc fd fe ff ?_
  intro h' tk' oH' vH' vm vd tf hH' F1 N1
  simp only [List.drop_succ_cons, List.drop_zero]
  clear N
  revert KX; k_fill; intro KX
  have hMk := kstMark
  have hLt := LtMark.mk
  have hp0 : ∀ p ∈ [(Str.ofString "table", Value.int i ti), (Str.ofString "turn", Value.int n tt), (Str.ofString "begun", Value.ref aB), (Str.ofString "figures", Value.ref aF)], (fun z => if z = Str.ofString "due" then vd else if z = Str.ofString "more" then vm else m z) (p : Str × Value).1 = some p.2 := List.forall_mem_cons.mpr ⟨m1, List.forall_mem_cons.mpr ⟨m4, List.forall_mem_cons.mpr ⟨m5, List.forall_mem_cons.mpr ⟨m3, List.forall_mem_nil _⟩⟩⟩⟩
  have F0 := fr_pickL [(Str.ofString "table", Value.int i ti), (Str.ofString "turn", Value.int n tt), (Str.ofString "begun", Value.ref aB), (Str.ofString "figures", Value.ref aF)] hp0 F1
  simp only [pickF] at F0
  have N0 : News h₀ L h' ((L + 1 + 1 + 1 + 1 + 1 + 1 + 1, oH') :: (aF, PySem.W.listOf (figs.push (.int (8 * moreFirst (typedS x r) c r + 4 * moreSecond (typedS x r) c r + 2 * moreThird (typedS x r) c r + moreLast (typedS x r) c r) tf)) (kF + 1)) :: (aB, PySem.W.listOf begs kB) :: (tp, tupOf [.ref ab, .int fB uB]) :: (ab, instObj 83 eb) :: (eb, dictOf (wsDict w X tnb kb) 5) :: (tnb, tupOf [.ref tcb, .int (wsOf X).b kb.v4]) :: (tcb, tupOf vb) :: (a, instObj 83 e) :: (e, dictOf (wsDict w (typedS x r) tn kt) 5) :: (tn, tupOf [.ref tc, .int (wsOf (typedS x r)).b kt.v4]) :: (tc, tupOf vs) :: (lT, LCg.lst vsT) :: (L + 1 + 1 + 1 + 1 + 1 + 1, oT) :: nt) :=
    List.forall_mem_cons.mpr ⟨N1 _ (.head _), List.forall_mem_cons.mpr ⟨N1 _ (.tail _ (.head _)), List.forall_mem_cons.mpr ⟨N1 _ (.tail _ (.tail _ nB)), List.forall_mem_cons.mpr ⟨N1 _ (.tail _ (.tail _ np)), List.forall_mem_cons.mpr ⟨N1 _ (.tail _ (.tail _ b1)), List.forall_mem_cons.mpr ⟨N1 _ (.tail _ (.tail _ b2)), List.forall_mem_cons.mpr ⟨N1 _ (.tail _ (.tail _ b3)), List.forall_mem_cons.mpr ⟨N1 _ (.tail _ (.tail _ b4)), List.forall_mem_cons.mpr ⟨N1 _ (.tail _ (.tail _ n1)), List.forall_mem_cons.mpr ⟨N1 _ (.tail _ (.tail _ n2)), List.forall_mem_cons.mpr ⟨N1 _ (.tail _ (.tail _ n3)), List.forall_mem_cons.mpr ⟨N1 _ (.tail _ (.tail _ n4)), List.forall_mem_cons.mpr ⟨N1 _ (.tail _ (.tail _ nlT)), List.forall_mem_cons.mpr ⟨N1 _ (.tail _ (.tail _ nT)), fun p hp => N1 p (.tail _ (.tail _ hp))⟩⟩⟩⟩⟩⟩⟩⟩⟩⟩⟩⟩⟩⟩
  clear N1 n1 n2 n3 n4 nlT nlC nT nR nB np b1 b2 b3 b4 F
  have hfg := nth_push (v := .int (8 * moreFirst (typedS x r) c r + 4 * moreSecond (typedS x r) c r + 2 * moreThird (typedS x r) c r + moreLast (typedS x r) c r) tf) hfi
  walk1
  (repeat' (first | ((with_reducible rename NoOwn => hNo9); clear hNo9) | (k_unfold; (try dsimp only)) | ((with_reducible refine Own.mk ?_); (first | ((k_here; (with_reducible show wpAny _ _ (compareOp _ (Value.int _ _) (Value.int 0 _)) _ _ _); (refine eq_int_no ?e ?_); (case e => omega))) | (((with_reducible show wpAny _ _ (subscriptTail _ _ (Value.ref _) (Value.int _ _)) _ _ _); k_dflt (refine' item_lit ?k1 ?k2 ?k3 ?_ ?k6; (case k1 => exact News.isList (by k_asm) (by k_mem)); (case k2 => with_reducible assumption); (case k3 => first | with_reducible assumption | exact nth_push (by with_reducible assumption)); (case k6 => with_unfolding_all rfl); k_whole))) | ((k_here; (with_reducible show wpAny _ _ (compareOp _ (Value.int (0 + _) _) (Value.int 0 _)) _ _ _); (refine gt_int_yes ?e ?_); (case e => omega))) | ((k_here; (with_reducible show wpAny _ _ (compareOp _ (Value.int (0 + _) _) (Value.int 0 _)) _ _ _); (refine eq_int_no ?e ?_); (case e => omega))) | ((with_reducible show wpAny _ _ (compareOp CmpOp.IsNot (Value.bool _) (Value.bool _)) _ _ _); (k_here; (with_reducible refine isnot_same ?e ?_); (case e => with_reducible assumption))) | ((k_here; (with_reducible rename NextMark => hN9); (with_reducible show wpAny _ _ (compareOp CmpOp.NotEq (Value.ref _) (Value.ref _)) _ _ _); k_dflt (refine' ne_pair_no ?k1 ?k2 ?e1 ?e2 ?k7 ?_; (case k1 => exact News.isList (by k_asm) (by k_mem)); (case k2 => exact News.isList (by k_asm) (by k_mem)); (case e1 => with_reducible assumption); (case e2 => with_reducible assumption); (case k7 => ktr_units); k_whole); clear hN9)) | ((with_reducible show wpAny _ _ (compareOp CmpOp.Eq (Value.bytes _ _) (Value.bytes _ _)) _ _ _); (k_here; (refine eq_bytes_no (by assumption) ?_))) | ((k_here; (with_reducible show wpAny _ _ (subscriptTail _ (PySem.Expr.Slice _ _ none _) (Value.bytes _ _) (Value.ref _)) _ _ _); (with_reducible rename ToldF _ _ _ => hT9); (with_reducible rename Fr _ _ _ _ => F'); (with_reducible rename News _ _ _ _ => N'); (refine told_slice (s := ⟨_, _, _, _, _⟩) hT9 F' N' ?_); intro _ _ _ _ _ hP')) | ((with_reducible show wpAny _ _ (compareOp CmpOp.NotEq (Value.bytes _ _) (Value.bytes _ _)) _ _ _); (k_here; (refine ne_bytes_no ?e ?_); (case e => exact word_eq (by omega) (by omega)))) | ((with_reducible show wpAny _ _ (binaryOp _ (Value.bytes _ _) (Value.bytes _ _)) _ _ _); (k_here; (with_reducible rename ToldF _ _ _ => hT9); (refine word_add hT9 ?_); intro t' k')) | ((k_here; (with_reducible show wpAny _ _ (call (Value.builtin _) [Value.ref _, _]) _ _ _); k_dflt (refine' append_K ?k1 ?k2 ?k3 ?_ ?z; (case k1 => k_asm); (case k2 => k_asm); (case k3 => k_upd); (case z => exact Nat.le_of_ble_eq_true rfl); k_whole); intro h' F' N'; (try k_sweep))) | ((k_here; (with_reducible show wpAny _ _ (subscriptTail (PySem.Expr.Subscript _ _ _) _ (Value.ref _) (Value.int _ _)) _ _ _); k_dflt (refine' tup_lit ?k1 ?k2 ?k3 ?_ ?k6; (case k1 => exact News.isTup (by k_asm) (by k_mem)); (case k2 => exact rfl); (case k3 => exact rfl); (case k6 => with_unfolding_all rfl); k_whole))) | (((with_reducible show wpAny _ _ (subscriptTail _ _ (Value.ref _) (Value.int _ _)) _ _ _); k_dflt (refine' tup_lit ?k1 ?k2 ?k3 ?_ ?k6; (case k1 => exact News.isTup (by k_asm) (by k_mem)); (case k2 => exact rfl); (case k3 => exact rfl); (case k6 => with_unfolding_all rfl); k_whole))) | ((with_reducible show wpAny _ _ (compareOp CmpOp.IsNot (Value.bool _) (Value.bool _)) _ _ _); (k_here; (with_reducible refine isnot_same ?e ?_); (case e => first | exact eq_yes | exact eq_no (by with_reducible assumption) (by with_reducible assumption)))) | ((k_here; (with_reducible show wpAny _ _ (compareOp CmpOp.NotEq (Value.ref _) (Value.ref _)) _ _ _); k_dflt (refine' norm_ne_no ?k1 ?k2 ?k3 ?k4 ?k5 ?k6 ?e1 ?e2 ?k7 ?_; (case k1 => exact News.isTup (by k_asm) (by k_mem)); (case k4 => exact News.isTup (by k_asm) (by k_mem)); (case k2 => exact News.isTup (by k_asm) (by k_mem)); (case k5 => exact News.isTup (by k_asm) (by k_mem)); (case k3 => with_reducible assumption); (case k6 => with_reducible assumption); (case e1 => with_reducible assumption); (case e2 => with_reducible assumption); (case k7 => ktr_units); k_whole))) | (((with_reducible show wpAny _ _ (subscriptTail _ _ (Value.ref _) (Value.int _ _)) _ _ _); k_dflt (refine' item_lit ?k1 ?k2 ?k3 ?_ ?k6; (case k1 => exact News.isList (by k_asm) (by k_mem)); (case k2 => exact rfl); (case k3 => exact rfl); (case k6 => with_unfolding_all rfl); k_whole))) | ((k_here; (with_reducible show wpAny _ _ (subscriptTail _ _ (Value.ref _) (Value.int _ _)) _ _ _); k_dflt (refine' item_lit ?k1 ?k2 ?k3 ?_ ?k6; (case k1 => exact News.isList (by k_asm) (by k_mem)); (case k2 => exact rfl); (case k3 => exact rfl); (case k6 => with_unfolding_all rfl); k_whole))) | ((k_here; (with_reducible show wpAny _ _ (subscriptTail _ _ (Value.ref _) (Value.int _ _)) _ _ _); k_dflt (refine' item_anyT ?k1 ?k2 ?k3 ?k4 ?k5 ?_ ?k6; (case k1 => exact News.isTup (by k_asm) (by k_mem)); (case k2 => with_reducible assumption); (case k3 => omega); (case k4 => omega); (case k5 => omega); (case k6 => with_unfolding_all rfl); k_whole); intro _)) | ((k_here; (with_reducible show wpAny _ _ (call (Value.builtin "len") [Value.ref _]) _ _ _); k_dflt (refine' len_tupI ?k1 ?k2 ?k3 ?_; (case k1 => exact News.isTup (by k_asm) (by k_mem)); (case k2 => with_reducible assumption); (case k3 => omega); k_whole))) | ((k_here; (with_reducible show wpAny _ _ (call (Value.type _) [Value.ref _]) _ _ _); k_dflt (refine' kde_tupleOf ?k1 ?k2 ?k3 ?k4 ?k5 ?_; (case k1 => k_asm); (case k2 => k_asm); (case k3 => exact News.isList (by k_asm) (by k_mem)); (case k5 => exact rfl); (case k4 => (simp only [List.size_toArray]; (have hq9 := IntsAre.length (by assumption)); omega)); k_whole); intro D' h' F' N' l1; (try k_lt l1); (try k_sweep))) | ((with_reducible show wpAny _ _ (call (Value.ref _) _) _ _ _); (first | ((k_here; (with_reducible show wpAny _ _ (call (Value.ref 59) [Value.ref _, Value.ref _]) _ _ _); k_dflt (refine' equal_ok ?kB ?kF ?kX ?kN ?kT rfl ?kd ?ku ?kW ?kv ?kW' ?kv' ?_; (case kB => k_asm); (case kF => k_asm); (case kX => assumption); (case kN => k_asm); (case kT => k_asm); (case kd => ktr_room); (case ku => ktr_units); (case kW => ((with_reducible rename News _ _ _ _ => nW9); exact kst_newsOf nW9 (by kst_in))); (case kW' => ((with_reducible rename News _ _ _ _ => nW9); exact kst_newsOf nW9 (by kst_in))); (case kv => with_reducible assumption); (case kv' => with_reducible assumption)); intro h' tk' F' N'; (try dsimp only); (try k_sweep))))) | (have hNo9 := NoOwn.mk; walk1))) | ((fail_if_success (first | (first | (with_reducible show wpAny _ _ (exec (Stmt.While _ _ _ _) _) _ _ _) | (with_reducible show wpAny _ _ (pyIter _) (fun it s₂ => LoopAtV _ _ _ _ _ _ _ _ _ it s₂) _ _) | (with_reducible show wpAny _ _ (pyIter _) (fun it s₂ => PairAt3 _ _ _ _ _ _ _ _ _ _ it s₂) _ _)) | ((with_reducible show LCg.CompSrc _ _ _ _ _ _ _ _ _ _ _ _ _ _)) | ((with_reducible show SrcB _ _ _ _ _ _ _ _ _ _ _ _ _ _)) | ((with_reducible show wpAny _ _ (execs (Stmt.If (PySem.Expr.Compare (PySem.Expr.Name _ _) _ _ _) _ _ _ :: _) _) _ _ _)))); (first | walk1 | (dsimp only; walk1) | (leave1; try dsimp only)))))
  (with_reducible rename Fr _ _ _ _ => lF9)
  (with_reducible rename News _ _ _ _ => lN9)
  refine' hret _ _ _ _ _ _ hH' (fun z h1 h2 => ?ke) (fr_unpickL [(Str.ofString "table", Value.int i ti), (Str.ofString "turn", Value.int n tt), (Str.ofString "begun", Value.ref aB), (Str.ofString "figures", Value.ref aF)] hp0 lF9) (List.forall_mem_cons.mpr ⟨lN9 _ ?k1, List.forall_mem_cons.mpr ⟨lN9 _ ?k2, fun p hp => lN9 p ?k5⟩⟩)
  case k1 => k_mem
  case k2 => k_mem
  case k5 => (repeat' first | exact hp | apply List.Mem.tail)
  case ke => exact (if_neg h1).trans (if_neg h2)
end
section
local macro_rules | `(tactic| walk_at "pyIter ref") => `(tactic| walk_at "own")
local macro_rules | `(tactic| passes_own) => `(tactic| with_reducible assumption)
/-- turn 0 -/
theorem turnA_ok {w : World} {loose : List Str} {mean : ExcName → Option Value} {mg mb : Str → Option Value} {h₀ : Heap} {L fx rr : Addr} {sc : Scope} {code : List Stmt} {m : Str → Option Value} {s : Shared} {Q : Flow → Shared → Prop} {E : Value → Shared → Prop} {nt : List (Addr × Obj)}
    (hsc : sc = lawDef.scope) (hcode : code = forB (nthS lawDef.body 11))
    (K0 : Below callerA h₀ [] h₀) (F : Fr h₀ L s.heap m) (KX : (hd2.heap_39 w.params).In h₀) (T : Top hd2.view_39 loose mean mg mb h₀)
    {tt : Tok} {aB lC lD q : Addr} {oL oT oR oH : Obj} {vH vT : Option Value} {x1 x2 : Str} {t1 t2 tc1q tc2 td1 td2 td3 tr : Tok} {kC kD kq : Nat} {c1 c2 d1 d2 d3 : Int}
    (m2 : m (Str.ofString "cards") = some (.ref lC)) (m5 : m (Str.ofString "begun") = some (.ref aB)) (m6 : m (Str.ofString "draws") = some (.ref lD))
    (nq : (q, PySem.W.listOf #[.str x1 t1, .str x2 t2] kq) ∈ nt) (nlC : (lC, PySem.W.listOf #[.int c1 tc1q, .int c2 tc2] kC) ∈ nt) (nlD : (lD, PySem.W.listOf #[.int d1 td1, .int d2 td2, .int d3 td3] kD) ∈ nt) (nR : (L + 1, oR) ∈ nt)
    (hL : oL.data = .cell (some (.ref q))) (hT : oT.data = .cell vT) (hH : oH.data = .cell vH) (hR : oR.data = .cell (some (.int (d3.fmod 4) tr)))
    (hn5 : ∀ p ∈ nt, (p : Addr × Obj).1 ≠ L + 1 + 1 + 1 + 1 + 1) (hn6 : ∀ p ∈ nt, (p : Addr × Obj).1 ≠ L + 1 + 1 + 1 + 1 + 1 + 1) (hn7 : ∀ p ∈ nt, (p : Addr × Obj).1 ≠ L + 1 + 1 + 1 + 1 + 1 + 1 + 1)
    (hc1 : 0 ≤ c1 ∧ c1 ≤ 1000) (hc2 : 0 ≤ c2 ∧ c2 ≤ 1000) (hd3 : 0 ≤ d3 ∧ d3 ≤ 64000000) (m4 : 0 ≤ d3.fmod 4 ∧ d3.fmod 4 < 4) (lf1 : LeadF x1 c1 (d3.fmod 4)) (lf2 : LeadF x2 c2 (d3.fmod 4))
    (hE : PassesOwn (model PySem.Challenge.rw_xb0022_02.row.prog w) (callerA.deeper (envOfC (Str.ofString "law") sc L fx (.ref rr))) (envOfC (Str.ofString "law") sc L fx (.ref rr)) E) (mt : m (Str.ofString "turn") = some (.int 0 tt)) (hnB : ∀ p ∈ nt, (p : Addr × Obj).1 ≠ aB) (hB7 : @LT.lt Nat _ (L + 1 + 1 + 1 + 1 + 1 + 1 + 1) aB)
    (N : News h₀ L s.heap ((L + 1 + 1 + 1 + 1 + 1, oL) :: (L + 1 + 1 + 1 + 1 + 1 + 1 + 1, oH) :: (L + 1 + 1 + 1 + 1 + 1 + 1, oT) :: (aB, PySem.W.listOf #[] 0) :: nt))
    (hret : ∀ (h' : Heap) (tk' : Nat) (m' : Str → Option Value) (q' p0 p1 a0 e0 n0 c0 a1 e1 n1 c1' : Addr) (oL' oH' oT' : Obj) (vH' vT' : Option Value) (kb : Nat) (u0 u1 ta tb tw : Tok) (vs0 vs1 : List Value) (kt0 kt1 : WTok),
      m' (Str.ofString "word") = some (.bytes (wordF (8 * moreFirst (typedS x1 (d3.fmod 4)) c1 (d3.fmod 4) + 4 * moreSecond (typedS x1 (d3.fmod 4)) c1 (d3.fmod 4) + 2 * moreThird (typedS x1 (d3.fmod 4)) c1 (d3.fmod 4) + moreLast (typedS x1 (d3.fmod 4)) c1 (d3.fmod 4)) (8 * moreFirst (typedS x2 (d3.fmod 4)) c2 (d3.fmod 4) + 4 * moreSecond (typedS x2 (d3.fmod 4)) c2 (d3.fmod 4) + 2 * moreThird (typedS x2 (d3.fmod 4)) c2 (d3.fmod 4) + moreLast (typedS x2 (d3.fmod 4)) c2 (d3.fmod 4))) tw) → (∀ z, [Str.ofString "figures", Str.ofString "table", Str.ofString "more", Str.ofString "due", Str.ofString "told", Str.ofString "word"].contains z = false → m' z = m z) → Fr h₀ L h' m' →
      oL'.data = .cell (some (.ref q')) → oH'.data = .cell vH' → oT'.data = .cell vT' → OffH q' ((L + 1 + 1 + 1 + 1 + 1) :: (L + 1 + 1 + 1 + 1 + 1 + 1 + 1) :: (L + 1 + 1 + 1 + 1 + 1 + 1) :: aB :: nt.map (·.1)) → (∀ z ∈ [p0, p1, a0, e0, n0, c0, a1, e1, n1, c1'], LtAll z ((L + 1 + 1 + 1 + 1 + 1) :: (L + 1 + 1 + 1 + 1 + 1 + 1 + 1) :: (L + 1 + 1 + 1 + 1 + 1 + 1) :: aB :: nt.map (·.1))) →
      IntsAre vs0 (wsOf (typedS x1 (d3.fmod 4))).ns → IntsAre vs1 (wsOf (typedS x2 (d3.fmod 4))).ns →
      News h₀ L h' ((aB, PySem.W.listOf #[.ref p0, .ref p1] kb) :: (p0, tupOf [.ref a0, .int (8 * moreFirst (typedS x1 (d3.fmod 4)) c1 (d3.fmod 4) + 4 * moreSecond (typedS x1 (d3.fmod 4)) c1 (d3.fmod 4) + 2 * moreThird (typedS x1 (d3.fmod 4)) c1 (d3.fmod 4) + moreLast (typedS x1 (d3.fmod 4)) c1 (d3.fmod 4)) u0]) :: (p1, tupOf [.ref a1, .int (8 * moreFirst (typedS x2 (d3.fmod 4)) c2 (d3.fmod 4) + 4 * moreSecond (typedS x2 (d3.fmod 4)) c2 (d3.fmod 4) + 2 * moreThird (typedS x2 (d3.fmod 4)) c2 (d3.fmod 4) + moreLast (typedS x2 (d3.fmod 4)) c2 (d3.fmod 4)) u1]) ::
        (a0, instObj 83 e0) :: (e0, dictOf (wsDict w (typedS x1 (d3.fmod 4)) n0 kt0) 5) :: (n0, tupOf [.ref c0, .int (wsOf (typedS x1 (d3.fmod 4))).b kt0.v4]) :: (c0, tupOf vs0) ::
        (a1, instObj 83 e1) :: (e1, dictOf (wsDict w (typedS x2 (d3.fmod 4)) n1 kt1) 5) :: (n1, tupOf [.ref c1', .int (wsOf (typedS x2 (d3.fmod 4))).b kt1.v4]) :: (c1', tupOf vs1) :: (q', LCg.lst [.str (dealS x1 (Txt.count x1 (Str.ofString "\t"))) ta, .str (dealS x2 (Txt.count x2 (Str.ofString "\t"))) tb]) :: (L + 1 + 1 + 1 + 1 + 1, oL') :: (L + 1 + 1 + 1 + 1 + 1 + 1 + 1, oH') :: (L + 1 + 1 + 1 + 1 + 1 + 1, oT') :: nt) →
      Q .next { s with heap := h', toks := tk' }) :
    wpAny (model PySem.Challenge.rw_xb0022_02.row.prog w) (callerA.deeper (envOfC (Str.ofString "law") sc L fx (.ref rr))) (execs code (envOfC (Str.ofString "law") sc L fx (.ref rr))) Q E s := by
  simp only [lawDef, nthS, forB] at hsc hcode
  subst hsc hcode
  obtain ⟨f1, ⟨f2, f3⟩, ⟨fa, fb, fc, fd⟩, fe, ff, fg, fh⟩ := lf1
  obtain ⟨f1', ⟨f2', f3'⟩, ⟨fa', fb', fc', fd'⟩, fe', ff', fg', fh'⟩ := lf2
  refine typedT_ok rfl rfl K0 F KX T (.head _) (.tail _ (.tail _ (.tail _ nR))) (.tail _ (.tail _ (.tail _ nq))) hL hT hR (List.forall_mem_cons.mpr ⟨Nat.ne_of_lt (Nat.lt_succ_self _), List.forall_mem_cons.mpr ⟨Nat.ne_of_gt (Nat.lt_succ_self _), List.forall_mem_cons.mpr ⟨Nat.ne_of_gt (Nat.lt_trans (Nat.lt_succ_self _) hB7), hn6⟩⟩⟩) m4 f1 f2 f3 f1' f2' f3' (news_1 [true, true, false] 2 N rfl) ?_
  intro h' tk' aF lT a0 e0 tn0 tc0 a1 e1 tn1 tc1 oT' vs0 vs1 kt0 kt1 F1 hT' hi0 hi1 hb0 hb1 lAF oLT zz N1
  clear N F hT
  simp only [keepL, List.map_cons] at lAF oLT zz
  simp only [List.drop_succ_cons, List.drop_zero]
  revert KX; k_fill; intro KX
  have hMk := kstMark
  have hLt := LtMark.mk
  have lAF2 : LtAll aF ((q) :: (lC) :: (lD) :: (L + 1) :: (L + 1 + 1 + 1 + 1 + 1 + 1) :: (L + 1 + 1 + 1 + 1 + 1) :: (L + 1 + 1 + 1 + 1 + 1 + 1 + 1) :: aB :: nt.map (·.1)) := LtAll.sub lAF (List.forall_mem_cons.mpr ⟨(.tail _ (.tail _ (.tail _ (.tail _ (List.mem_map_of_mem (f := (·.1)) nq))))), List.forall_mem_cons.mpr ⟨(.tail _ (.tail _ (.tail _ (.tail _ (List.mem_map_of_mem (f := (·.1)) nlC))))), List.forall_mem_cons.mpr ⟨(.tail _ (.tail _ (.tail _ (.tail _ (List.mem_map_of_mem (f := (·.1)) nlD))))), List.forall_mem_cons.mpr ⟨(.tail _ (.tail _ (.tail _ (.tail _ (List.mem_map_of_mem (f := (·.1)) nR))))), fun _ h => h⟩⟩⟩⟩)
  clear lAF
  have z1 := zz e0 (.head _)
  have z2 := zz a0 (.tail _ (.head _))
  have z3 := zz tc0 (.tail _ (.tail _ (.head _)))
  have z4 := zz tn0 (.tail _ (.tail _ (.tail _ (.head _))))
  have z5 := zz e1 (.tail _ (.tail _ (.tail _ (.tail _ (.head _)))))
  have z6 := zz a1 (.tail _ (.tail _ (.tail _ (.tail _ (.tail _ (.head _))))))
  have z7 := zz tc1 (.tail _ (.tail _ (.tail _ (.tail _ (.tail _ (.tail _ (.head _)))))))
  have z8 := zz tn1 (.tail _ (.tail _ (.tail _ (.tail _ (.tail _ (.tail _ (.tail _ (.head _))))))))
  clear zz
  have hp0 : ∀ p ∈ [(Str.ofString "figures", Value.ref aF), (Str.ofString "cards", Value.ref lC), (Str.ofString "begun", Value.ref aB), (Str.ofString "draws", Value.ref lD), (Str.ofString "turn", Value.int 0 tt)], (fun z => if z = Str.ofString "figures" then some (.ref aF) else m z) (p : Str × Value).1 = some p.2 := List.forall_mem_cons.mpr ⟨rfl, List.forall_mem_cons.mpr ⟨m2, List.forall_mem_cons.mpr ⟨m5, List.forall_mem_cons.mpr ⟨m6, List.forall_mem_cons.mpr ⟨mt, List.forall_mem_nil _⟩⟩⟩⟩⟩
  have F0 := fr_pickL [(Str.ofString "figures", Value.ref aF), (Str.ofString "cards", Value.ref lC), (Str.ofString "begun", Value.ref aB), (Str.ofString "draws", Value.ref lD), (Str.ofString "turn", Value.int 0 tt)] hp0 F1
  simp only [pickF] at F0
  have eq0 := pickF_eq (m := fun z => if z = Str.ofString "figures" then some (Value.ref aF) else m z) hp0
  have N0 : News h₀ L h' ((lT, LCg.lst [.ref a0, .ref a1]) :: (a1, instObj 83 e1) :: (e1, dictOf (wsDict w (typedS x2 (d3.fmod 4)) tn1 kt1) 5) :: (tn1, tupOf [.ref tc1, .int (wsOf (typedS x2 (d3.fmod 4))).b kt1.v4]) :: (tc1, tupOf vs1) ::
    (a0, instObj 83 e0) :: (e0, dictOf (wsDict w (typedS x1 (d3.fmod 4)) tn0 kt0) 5) :: (tn0, tupOf [.ref tc0, .int (wsOf (typedS x1 (d3.fmod 4))).b kt0.v4]) :: (tc0, tupOf vs0) :: (aF, PySem.W.listOf #[] 0) :: (L + 1 + 1 + 1 + 1 + 1 + 1, oT') :: (L + 1 + 1 + 1 + 1 + 1, oL) :: (L + 1 + 1 + 1 + 1 + 1 + 1 + 1, oH) :: (aB, PySem.W.listOf #[] 0) :: (q, PySem.W.listOf #[.str x1 t1, .str x2 t2] kq) :: (lC, PySem.W.listOf #[.int c1 tc1q, .int c2 tc2] kC) :: (lD, PySem.W.listOf #[.int d1 td1, .int d2 td2, .int d3 td3] kD) :: (L + 1, oR) :: nt) :=
    List.forall_mem_cons.mpr ⟨N1 _ (.head _), List.forall_mem_cons.mpr ⟨N1 _ (.tail _ (.head _)), List.forall_mem_cons.mpr ⟨N1 _ (.tail _ (.tail _ (.head _))), List.forall_mem_cons.mpr ⟨N1 _ (.tail _ (.tail _ (.tail _ (.head _)))), List.forall_mem_cons.mpr ⟨N1 _ (.tail _ (.tail _ (.tail _ (.tail _ (.head _))))), List.forall_mem_cons.mpr ⟨N1 _ (.tail _ (.tail _ (.tail _ (.tail _ (.tail _ (.head _)))))), List.forall_mem_cons.mpr ⟨N1 _ (.tail _ (.tail _ (.tail _ (.tail _ (.tail _ (.tail _ (.head _))))))), List.forall_mem_cons.mpr ⟨N1 _ (.tail _ (.tail _ (.tail _ (.tail _ (.tail _ (.tail _ (.tail _ (.head _)))))))), List.forall_mem_cons.mpr ⟨N1 _ (.tail _ (.tail _ (.tail _ (.tail _ (.tail _ (.tail _ (.tail _ (.tail _ (.head _))))))))), List.forall_mem_cons.mpr ⟨N1 _ (.tail _ (.tail _ (.tail _ (.tail _ (.tail _ (.tail _ (.tail _ (.tail _ (.tail _ (.head _)))))))))), List.forall_mem_cons.mpr ⟨N1 _ (.tail _ (.tail _ (.tail _ (.tail _ (.tail _ (.tail _ (.tail _ (.tail _ (.tail _ (.tail _ (.head _))))))))))), List.forall_mem_cons.mpr ⟨N1 _ (.tail _ (.tail _ (.tail _ (.tail _ (.tail _ (.tail _ (.tail _ (.tail _ (.tail _ (.tail _ (.tail _ (.head _)))))))))))), List.forall_mem_cons.mpr ⟨N1 _ (.tail _ (.tail _ (.tail _ (.tail _ (.tail _ (.tail _ (.tail _ (.tail _ (.tail _ (.tail _ (.tail _ (.tail _ (.head _))))))))))))), List.forall_mem_cons.mpr ⟨N1 _ (.tail _ (.tail _ (.tail _ (.tail _ (.tail _ (.tail _ (.tail _ (.tail _ (.tail _ (.tail _ (.tail _ (.tail _ (.tail _ (.head _)))))))))))))), List.forall_mem_cons.mpr ⟨N1 _ (.tail _ (.tail _ (.tail _ (.tail _ (.tail _ (.tail _ (.tail _ (.tail _ (.tail _ (.tail _ (.tail _ (.tail _ (.tail _ (.tail _ nq)))))))))))))), List.forall_mem_cons.mpr ⟨N1 _ (.tail _ (.tail _ (.tail _ (.tail _ (.tail _ (.tail _ (.tail _ (.tail _ (.tail _ (.tail _ (.tail _ (.tail _ (.tail _ (.tail _ nlC)))))))))))))), List.forall_mem_cons.mpr ⟨N1 _ (.tail _ (.tail _ (.tail _ (.tail _ (.tail _ (.tail _ (.tail _ (.tail _ (.tail _ (.tail _ (.tail _ (.tail _ (.tail _ (.tail _ nlD)))))))))))))), List.forall_mem_cons.mpr ⟨N1 _ (.tail _ (.tail _ (.tail _ (.tail _ (.tail _ (.tail _ (.tail _ (.tail _ (.tail _ (.tail _ (.tail _ (.tail _ (.tail _ (.tail _ nR)))))))))))))), fun p hp => N1 p (.tail _ (.tail _ (.tail _ (.tail _ (.tail _ (.tail _ (.tail _ (.tail _ (.tail _ (.tail _ (.tail _ (.tail _ (.tail _ (.tail _ hp))))))))))))))⟩⟩⟩⟩⟩⟩⟩⟩⟩⟩⟩⟩⟩⟩⟩⟩⟩⟩
  clear N1 F1
  have o5 : OffH (L + 1 + 1 + 1 + 1 + 1) [q, lC, lD, L + 1] := .mk (List.forall_mem_cons.mpr ⟨hn5 _ nq, List.forall_mem_cons.mpr ⟨hn5 _ nlC, List.forall_mem_cons.mpr ⟨hn5 _ nlD, List.forall_mem_cons.mpr ⟨hn5 _ nR, List.forall_mem_nil _⟩⟩⟩⟩)
  have o6 : OffH (L + 1 + 1 + 1 + 1 + 1 + 1) [q, lC, lD, L + 1] := .mk (List.forall_mem_cons.mpr ⟨hn6 _ nq, List.forall_mem_cons.mpr ⟨hn6 _ nlC, List.forall_mem_cons.mpr ⟨hn6 _ nlD, List.forall_mem_cons.mpr ⟨hn6 _ nR, List.forall_mem_nil _⟩⟩⟩⟩)
  have o7 : OffH (L + 1 + 1 + 1 + 1 + 1 + 1 + 1) [q, lC, lD, L + 1] := .mk (List.forall_mem_cons.mpr ⟨hn7 _ nq, List.forall_mem_cons.mpr ⟨hn7 _ nlC, List.forall_mem_cons.mpr ⟨hn7 _ nlD, List.forall_mem_cons.mpr ⟨hn7 _ nR, List.forall_mem_nil _⟩⟩⟩⟩)
  have oB : OffH (aB) [q, lC, lD, L + 1] := .mk (List.forall_mem_cons.mpr ⟨hnB _ nq, List.forall_mem_cons.mpr ⟨hnB _ nlC, List.forall_mem_cons.mpr ⟨hnB _ nlD, List.forall_mem_cons.mpr ⟨hnB _ nR, List.forall_mem_nil _⟩⟩⟩⟩)
  clear nq nlC nlD nR
  (repeat' (first | ((with_reducible rename NoOwn => hNo9); clear hNo9) | (k_unfold; (try dsimp only)) | ((with_reducible refine Own.mk ?_); (first | ((k_here; (with_reducible show wpAny _ _ (pyIter (Value.ref _)) (fun it s₂ => TurnsAt _ _ _ _ _ _ _ _ _ it s₂) _ _); (with_reducible rename Fr _ _ _ _ => lF'); (with_reducible rename News _ _ _ _ => lN'); (with_unfolding_all refine' iter_listTurns (by rfl) lF' lN' ?m ?c ?d ?_); (case m => k_mem); (case c => rfl); (case d => rfl); clear lF'; intro i' l1; (k_lt l1))) | (((with_reducible show wpAny _ _ (subscriptTail _ _ (Value.ref _) (Value.int _ _)) _ _ _); k_dflt (refine' item_lit ?k1 ?k2 ?k3 ?_ ?k6; (case k1 => exact News.isList (by k_asm) (by k_mem)); (case k2 => with_reducible assumption); (case k3 => first | with_reducible assumption | exact nth_push (by with_reducible assumption)); (case k6 => with_unfolding_all rfl); k_whole))) | ((k_here; (with_reducible show wpAny _ _ (compareOp _ (Value.int (0 + _) _) (Value.int 0 _)) _ _ _); (refine gt_int_yes ?e ?_); (case e => omega))) | ((k_here; (with_reducible show wpAny _ _ (compareOp _ (Value.int (0 + _) _) (Value.int 0 _)) _ _ _); (refine eq_int_no ?e ?_); (case e => omega))) | ((with_reducible show wpAny _ _ (compareOp CmpOp.IsNot (Value.bool _) (Value.bool _)) _ _ _); (k_here; (with_reducible refine isnot_same ?e ?_); (case e => with_reducible assumption))) | ((k_here; (with_reducible rename NextMark => hN9); (with_reducible show wpAny _ _ (compareOp CmpOp.NotEq (Value.ref _) (Value.ref _)) _ _ _); k_dflt (refine' ne_pair_no ?k1 ?k2 ?e1 ?e2 ?k7 ?_; (case k1 => exact News.isList (by k_asm) (by k_mem)); (case k2 => exact News.isList (by k_asm) (by k_mem)); (case e1 => with_reducible assumption); (case e2 => with_reducible assumption); (case k7 => ktr_units); k_whole); clear hN9)) | ((with_reducible show wpAny _ _ (compareOp CmpOp.Eq (Value.bytes _ _) (Value.bytes _ _)) _ _ _); (k_here; (refine eq_bytes_no (by assumption) ?_))) | ((k_here; (with_reducible show wpAny _ _ (subscriptTail _ (PySem.Expr.Slice _ _ none _) (Value.bytes _ _) (Value.ref _)) _ _ _); (with_reducible rename ToldF _ _ _ => hT9); (with_reducible rename Fr _ _ _ _ => F'); (with_reducible rename News _ _ _ _ => N'); (refine told_slice (s := ⟨_, _, _, _, _⟩) hT9 F' N' ?_); intro _ _ _ _ _ hP')) | ((with_reducible show wpAny _ _ (compareOp CmpOp.NotEq (Value.bytes _ _) (Value.bytes _ _)) _ _ _); (k_here; (refine ne_bytes_no ?e ?_); (case e => exact word_eq (by omega) (by omega)))) | ((with_reducible show wpAny _ _ (binaryOp _ (Value.bytes _ _) (Value.bytes _ _)) _ _ _); (k_here; (with_reducible rename ToldF _ _ _ => hT9); (refine word_add hT9 ?_); intro t' k')) | ((k_here; (with_reducible show wpAny _ _ (call (Value.builtin _) [Value.ref _, _]) _ _ _); k_dflt (refine' append_K ?k1 ?k2 ?k3 ?_ ?z; (case k1 => k_asm); (case k2 => k_asm); (case k3 => k_upd); (case z => exact Nat.le_of_ble_eq_true rfl); k_whole); intro h' F' N'; (try k_sweep))) | ((k_here; (with_reducible show wpAny _ _ (subscriptTail (PySem.Expr.Subscript _ _ _) _ (Value.ref _) (Value.int _ _)) _ _ _); k_dflt (refine' tup_lit ?k1 ?k2 ?k3 ?_ ?k6; (case k1 => exact News.isTup (by k_asm) (by k_mem)); (case k2 => exact rfl); (case k3 => exact rfl); (case k6 => with_unfolding_all rfl); k_whole))) | (((with_reducible show wpAny _ _ (subscriptTail _ _ (Value.ref _) (Value.int _ _)) _ _ _); k_dflt (refine' tup_lit ?k1 ?k2 ?k3 ?_ ?k6; (case k1 => exact News.isTup (by k_asm) (by k_mem)); (case k2 => exact rfl); (case k3 => exact rfl); (case k6 => with_unfolding_all rfl); k_whole))) | ((with_reducible show wpAny _ _ (compareOp CmpOp.IsNot (Value.bool _) (Value.bool _)) _ _ _); (k_here; (with_reducible refine isnot_same ?e ?_); (case e => first | exact eq_yes | exact eq_no (by with_reducible assumption) (by with_reducible assumption)))) | ((k_here; (with_reducible show wpAny _ _ (compareOp CmpOp.NotEq (Value.ref _) (Value.ref _)) _ _ _); k_dflt (refine' norm_ne_no ?k1 ?k2 ?k3 ?k4 ?k5 ?k6 ?e1 ?e2 ?k7 ?_; (case k1 => exact News.isTup (by k_asm) (by k_mem)); (case k4 => exact News.isTup (by k_asm) (by k_mem)); (case k2 => exact News.isTup (by k_asm) (by k_mem)); (case k5 => exact News.isTup (by k_asm) (by k_mem)); (case k3 => with_reducible assumption); (case k6 => with_reducible assumption); (case e1 => with_reducible assumption); (case e2 => with_reducible assumption); (case k7 => ktr_units); k_whole))) | (((with_reducible show wpAny _ _ (subscriptTail _ _ (Value.ref _) (Value.int _ _)) _ _ _); k_dflt (refine' item_lit ?k1 ?k2 ?k3 ?_ ?k6; (case k1 => exact News.isList (by k_asm) (by k_mem)); (case k2 => exact rfl); (case k3 => exact rfl); (case k6 => with_unfolding_all rfl); k_whole))) | ((k_here; (with_reducible show wpAny _ _ (subscriptTail _ _ (Value.ref _) (Value.int _ _)) _ _ _); k_dflt (refine' item_lit ?k1 ?k2 ?k3 ?_ ?k6; (case k1 => exact News.isList (by k_asm) (by k_mem)); (case k2 => exact rfl); (case k3 => exact rfl); (case k6 => with_unfolding_all rfl); k_whole))) | ((k_here; (with_reducible show wpAny _ _ (subscriptTail _ _ (Value.ref _) (Value.int _ _)) _ _ _); k_dflt (refine' item_anyT ?k1 ?k2 ?k3 ?k4 ?k5 ?_ ?k6; (case k1 => exact News.isTup (by k_asm) (by k_mem)); (case k2 => with_reducible assumption); (case k3 => omega); (case k4 => omega); (case k5 => omega); (case k6 => with_unfolding_all rfl); k_whole); intro _)) | ((k_here; (with_reducible show wpAny _ _ (call (Value.builtin "len") [Value.ref _]) _ _ _); k_dflt (refine' len_tupI ?k1 ?k2 ?k3 ?_; (case k1 => exact News.isTup (by k_asm) (by k_mem)); (case k2 => with_reducible assumption); (case k3 => omega); k_whole))) | ((k_here; (with_reducible show wpAny _ _ (call (Value.type _) [Value.ref _]) _ _ _); k_dflt (refine' kde_tupleOf ?k1 ?k2 ?k3 ?k4 ?k5 ?_; (case k1 => k_asm); (case k2 => k_asm); (case k3 => exact News.isList (by k_asm) (by k_mem)); (case k5 => exact rfl); (case k4 => (simp only [List.size_toArray]; (have hq9 := IntsAre.length (by assumption)); omega)); k_whole); intro D' h' F' N' l1; (try k_lt l1); (try k_sweep))) | (have hNo9 := NoOwn.mk; walk1))) | ((fail_if_success (first | (first | (with_reducible show wpAny _ _ (exec (Stmt.While _ _ _ _) _) _ _ _) | (with_reducible show wpAny _ _ (pyIter _) (fun it s₂ => LoopAtV _ _ _ _ _ _ _ _ _ it s₂) _ _) | (with_reducible show wpAny _ _ (pyIter _) (fun it s₂ => PairAt3 _ _ _ _ _ _ _ _ _ _ it s₂) _ _)) | ((with_reducible show LCg.CompSrc _ _ _ _ _ _ _ _ _ _ _ _ _ _)) | ((with_reducible show SrcB _ _ _ _ _ _ _ _ _ _ _ _ _ _)) | ((with_reducible show wpAny _ _ (execs (Stmt.Assign [PySem.Expr.Name (Str.ofString "told") _] _ _ :: _) _) _ _ _)) | ((with_reducible show UnrEndW _ _ _ _ _ _)) | ((with_reducible show wpAny _ _ (execs (Stmt.Assign [PySem.Expr.Name (Str.ofString "more") _] _ _ :: _) _) _ _ _)))); (first | walk1 | (dsimp only; walk1) | (leave1; try dsimp only)))))
  (with_reducible rename Fr _ _ _ _ => lF9)
  (with_reducible rename News _ _ _ _ => lN9)
  have N9 := news_3 [true, true, true, true, true, true, true, true, true, true, true, false, true, true, false, false] 14 11 15 lN9 rfl rfl rfl
  dsimp only [keepL] at N9
  clear lN9
  refine' tabA_ok rfl rfl K0 lF9 KX T ?m1 ?m2 ?m3 ?m5 ?nT ?nR ?nlT ?nlC ?n1 ?n2 ?n3 ?n4 ?hT hR ?hH ?hi ?hvT ?hvC ?hnH ?hnF ?hFH ?hfs hi0 hb0 hc1 m4 f1 fa fb fc fd fe ff ?m4 ?hbs ?hfi ?hbi N9 ?nL ?nq hL ?hvL ?hnB hB7 ?hBF fh ?_
  case m1 => exact rfl
  case m2 => exact rfl
  case m3 => exact rfl
  case m5 => exact rfl
  case m4 => exact rfl
  case hi => exact rfl
  case nT => k_mem
  case nR => k_mem
  case nlT => k_mem
  case nlC => k_mem
  case nL => k_mem
  case nq => k_mem
  case hvT => exact rfl
  case hvC => exact rfl
  case hvL => exact rfl
  case n1 => k_mem
  case n2 => k_mem
  case n3 => k_mem
  case n4 => k_mem
  case hT => with_reducible assumption
  case hH => with_reducible assumption
  case hnH => (repeat' (first | exact List.forall_mem_nil _ | (refine List.forall_mem_cons.mpr ⟨?_, ?_⟩) | (first | with_reducible assumption | exact LtAll.nes (by with_reducible assumption) (fun _ hp => (by (repeat' first | exact hp | apply List.Mem.tail)))) | k_ne))
  case hnF => (repeat' (first | exact List.forall_mem_nil _ | (refine List.forall_mem_cons.mpr ⟨?_, ?_⟩) | (first | with_reducible assumption | exact LtAll.nes (by with_reducible assumption) (fun _ hp => (by (repeat' first | exact hp | apply List.Mem.tail)))) | k_ne))
  case hnB => (repeat' (first | exact List.forall_mem_nil _ | (refine List.forall_mem_cons.mpr ⟨?_, ?_⟩) | (first | with_reducible assumption | exact LtAll.nes (by with_reducible assumption) (fun _ hp => (by (repeat' first | exact hp | apply List.Mem.tail)))) | k_ne))
  case hFH => exact LtAll.get (by with_reducible assumption) (by k_mem)
  case hBF => exact LtAll.get (by with_reducible assumption) (by k_mem)
  case hfs => exact Nat.le_of_ble_eq_true rfl
  case hbs => exact Nat.le_of_ble_eq_true rfl
  case hfi => exact rfl
  case hbi => exact rfl
  intro h' tk' oH' vH' m'0 tp0 tf0 hH' hm'0 F1 lA0 N1
  clear N9 lF9
  simp only [List.map_cons, List.map_nil] at lA0
  have q0 : ∀ z, [Str.ofString "figures", Str.ofString "table", Str.ofString "more", Str.ofString "due", Str.ofString "told", Str.ofString "word"].contains z = false → m'0 z = m z := fun z hz => (hm'0 z (ne_of_S hz (by k_mem)) (ne_of_S hz (by k_mem))).trans (by rw [if_neg (ne_of_S hz (by k_mem))]; exact (congrFun eq0 z).trans (if_neg (ne_of_S hz (by k_mem))))
  obtain ⟨F2, eq1⟩ := fr_pickS (m := m'0) [(Str.ofString "figures", _), (Str.ofString "cards", _), (Str.ofString "begun", _), (Str.ofString "draws", _), (Str.ofString "turn", _)] (List.forall_mem_cons.mpr ⟨(hm'0 _ (by dsimp only; decide +kernel) (by dsimp only; decide +kernel)).trans rfl, List.forall_mem_cons.mpr ⟨(hm'0 _ (by dsimp only; decide +kernel) (by dsimp only; decide +kernel)).trans rfl, List.forall_mem_cons.mpr ⟨(hm'0 _ (by dsimp only; decide +kernel) (by dsimp only; decide +kernel)).trans rfl, List.forall_mem_cons.mpr ⟨(hm'0 _ (by dsimp only; decide +kernel) (by dsimp only; decide +kernel)).trans rfl, List.forall_mem_cons.mpr ⟨(hm'0 _ (by dsimp only; decide +kernel) (by dsimp only; decide +kernel)).trans rfl, List.forall_mem_nil _⟩⟩⟩⟩⟩) F1
  simp only [pickF] at F2
  clear F1 hm'0
  have hEnd := EndT.mk
  (repeat' (first | ((with_reducible rename NoOwn => hNo9); clear hNo9) | (k_unfold; (try dsimp only)) | ((with_reducible refine Own.mk ?_); (first | ((k_here; (with_reducible show wpAny _ _ (pyIter (Value.ref _)) (fun it s₂ => TurnsAt _ _ _ _ _ _ _ _ _ it s₂) _ _); (with_reducible rename Fr _ _ _ _ => lF'); (with_reducible rename News _ _ _ _ => lN'); (with_unfolding_all refine' iter_listTurns (by rfl) lF' lN' ?m ?c ?d ?_); (case m => k_mem); (case c => rfl); (case d => rfl); clear lF'; intro i' l1; (k_lt l1))) | (((with_reducible show wpAny _ _ (subscriptTail _ _ (Value.ref _) (Value.int _ _)) _ _ _); k_dflt (refine' item_lit ?k1 ?k2 ?k3 ?_ ?k6; (case k1 => exact News.isList (by k_asm) (by k_mem)); (case k2 => with_reducible assumption); (case k3 => first | with_reducible assumption | exact nth_push (by with_reducible assumption)); (case k6 => with_unfolding_all rfl); k_whole))) | ((k_here; (with_reducible show wpAny _ _ (compareOp _ (Value.int (0 + _) _) (Value.int 0 _)) _ _ _); (refine gt_int_yes ?e ?_); (case e => omega))) | ((k_here; (with_reducible show wpAny _ _ (compareOp _ (Value.int (0 + _) _) (Value.int 0 _)) _ _ _); (refine eq_int_no ?e ?_); (case e => omega))) | ((with_reducible show wpAny _ _ (compareOp CmpOp.IsNot (Value.bool _) (Value.bool _)) _ _ _); (k_here; (with_reducible refine isnot_same ?e ?_); (case e => with_reducible assumption))) | ((k_here; (with_reducible rename NextMark => hN9); (with_reducible show wpAny _ _ (compareOp CmpOp.NotEq (Value.ref _) (Value.ref _)) _ _ _); k_dflt (refine' ne_pair_no ?k1 ?k2 ?e1 ?e2 ?k7 ?_; (case k1 => exact News.isList (by k_asm) (by k_mem)); (case k2 => exact News.isList (by k_asm) (by k_mem)); (case e1 => with_reducible assumption); (case e2 => with_reducible assumption); (case k7 => ktr_units); k_whole); clear hN9)) | ((with_reducible show wpAny _ _ (compareOp CmpOp.Eq (Value.bytes _ _) (Value.bytes _ _)) _ _ _); (k_here; (refine eq_bytes_no (by assumption) ?_))) | ((k_here; (with_reducible show wpAny _ _ (subscriptTail _ (PySem.Expr.Slice _ _ none _) (Value.bytes _ _) (Value.ref _)) _ _ _); (with_reducible rename ToldF _ _ _ => hT9); (with_reducible rename Fr _ _ _ _ => F'); (with_reducible rename News _ _ _ _ => N'); (refine told_slice (s := ⟨_, _, _, _, _⟩) hT9 F' N' ?_); intro _ _ _ _ _ hP')) | ((with_reducible show wpAny _ _ (compareOp CmpOp.NotEq (Value.bytes _ _) (Value.bytes _ _)) _ _ _); (k_here; (refine ne_bytes_no ?e ?_); (case e => exact word_eq (by omega) (by omega)))) | ((with_reducible show wpAny _ _ (binaryOp _ (Value.bytes _ _) (Value.bytes _ _)) _ _ _); (k_here; (with_reducible rename ToldF _ _ _ => hT9); (refine word_add hT9 ?_); intro t' k')) | ((k_here; (with_reducible show wpAny _ _ (call (Value.builtin _) [Value.ref _, _]) _ _ _); k_dflt (refine' append_K ?k1 ?k2 ?k3 ?_ ?z; (case k1 => k_asm); (case k2 => k_asm); (case k3 => k_upd); (case z => exact Nat.le_of_ble_eq_true rfl); k_whole); intro h' F' N'; (try k_sweep))) | ((k_here; (with_reducible show wpAny _ _ (subscriptTail (PySem.Expr.Subscript _ _ _) _ (Value.ref _) (Value.int _ _)) _ _ _); k_dflt (refine' tup_lit ?k1 ?k2 ?k3 ?_ ?k6; (case k1 => exact News.isTup (by k_asm) (by k_mem)); (case k2 => exact rfl); (case k3 => exact rfl); (case k6 => with_unfolding_all rfl); k_whole))) | (((with_reducible show wpAny _ _ (subscriptTail _ _ (Value.ref _) (Value.int _ _)) _ _ _); k_dflt (refine' tup_lit ?k1 ?k2 ?k3 ?_ ?k6; (case k1 => exact News.isTup (by k_asm) (by k_mem)); (case k2 => exact rfl); (case k3 => exact rfl); (case k6 => with_unfolding_all rfl); k_whole))) | ((with_reducible show wpAny _ _ (compareOp CmpOp.IsNot (Value.bool _) (Value.bool _)) _ _ _); (k_here; (with_reducible refine isnot_same ?e ?_); (case e => first | exact eq_yes | exact eq_no (by with_reducible assumption) (by with_reducible assumption)))) | ((k_here; (with_reducible show wpAny _ _ (compareOp CmpOp.NotEq (Value.ref _) (Value.ref _)) _ _ _); k_dflt (refine' norm_ne_no ?k1 ?k2 ?k3 ?k4 ?k5 ?k6 ?e1 ?e2 ?k7 ?_; (case k1 => exact News.isTup (by k_asm) (by k_mem)); (case k4 => exact News.isTup (by k_asm) (by k_mem)); (case k2 => exact News.isTup (by k_asm) (by k_mem)); (case k5 => exact News.isTup (by k_asm) (by k_mem)); (case k3 => with_reducible assumption); (case k6 => with_reducible assumption); (case e1 => with_reducible assumption); (case e2 => with_reducible assumption); (case k7 => ktr_units); k_whole))) | (((with_reducible show wpAny _ _ (subscriptTail _ _ (Value.ref _) (Value.int _ _)) _ _ _); k_dflt (refine' item_lit ?k1 ?k2 ?k3 ?_ ?k6; (case k1 => exact News.isList (by k_asm) (by k_mem)); (case k2 => exact rfl); (case k3 => exact rfl); (case k6 => with_unfolding_all rfl); k_whole))) | ((k_here; (with_reducible show wpAny _ _ (subscriptTail _ _ (Value.ref _) (Value.int _ _)) _ _ _); k_dflt (refine' item_lit ?k1 ?k2 ?k3 ?_ ?k6; (case k1 => exact News.isList (by k_asm) (by k_mem)); (case k2 => exact rfl); (case k3 => exact rfl); (case k6 => with_unfolding_all rfl); k_whole))) | ((k_here; (with_reducible show wpAny _ _ (subscriptTail _ _ (Value.ref _) (Value.int _ _)) _ _ _); k_dflt (refine' item_anyT ?k1 ?k2 ?k3 ?k4 ?k5 ?_ ?k6; (case k1 => exact News.isTup (by k_asm) (by k_mem)); (case k2 => with_reducible assumption); (case k3 => omega); (case k4 => omega); (case k5 => omega); (case k6 => with_unfolding_all rfl); k_whole); intro _)) | ((k_here; (with_reducible show wpAny _ _ (call (Value.builtin "len") [Value.ref _]) _ _ _); k_dflt (refine' len_tupI ?k1 ?k2 ?k3 ?_; (case k1 => exact News.isTup (by k_asm) (by k_mem)); (case k2 => with_reducible assumption); (case k3 => omega); k_whole))) | ((k_here; (with_reducible show wpAny _ _ (call (Value.type _) [Value.ref _]) _ _ _); k_dflt (refine' kde_tupleOf ?k1 ?k2 ?k3 ?k4 ?k5 ?_; (case k1 => k_asm); (case k2 => k_asm); (case k3 => exact News.isList (by k_asm) (by k_mem)); (case k5 => exact rfl); (case k4 => (simp only [List.size_toArray]; (have hq9 := IntsAre.length (by assumption)); omega)); k_whole); intro D' h' F' N' l1; (try k_lt l1); (try k_sweep))) | (have hNo9 := NoOwn.mk; walk1))) | ((fail_if_success (first | (first | (with_reducible show wpAny _ _ (exec (Stmt.While _ _ _ _) _) _ _ _) | (with_reducible show wpAny _ _ (pyIter _) (fun it s₂ => LoopAtV _ _ _ _ _ _ _ _ _ it s₂) _ _) | (with_reducible show wpAny _ _ (pyIter _) (fun it s₂ => PairAt3 _ _ _ _ _ _ _ _ _ _ it s₂) _ _)) | ((with_reducible show LCg.CompSrc _ _ _ _ _ _ _ _ _ _ _ _ _ _)) | ((with_reducible show SrcB _ _ _ _ _ _ _ _ _ _ _ _ _ _)) | ((with_reducible show wpAny _ _ (execs (Stmt.Assign [PySem.Expr.Name (Str.ofString "told") _] _ _ :: _) _) _ _ _)) | ((with_reducible show UnrEndW _ _ _ _ _ _)) | ((with_reducible show wpAny _ _ (execs (Stmt.Assign [PySem.Expr.Name (Str.ofString "more") _] _ _ :: _) _) _ _ _)))); (first | walk1 | (dsimp only; walk1) | (leave1; try dsimp only)))))
  (((with_reducible rename News _ _ _ _ => nE9); (with_reducible rename Fr _ _ _ _ => fE9); (first | ((rename EndT => eE9); (clear eE9); (refine unr_end1 [true, true, true, true, false] fE9 nE9 ?x1u1 ?x2u1 ⟨?x3u1, ?x4u1⟩)) | ((rename EndU => eE9); (clear eE9); (refine unr_end1 [true, true, false] fE9 nE9 ?x1u1 ?x2u1 ⟨?x3u1, ?x4u1⟩))); (case x1u1 => k_mem); (case x2u1 => (dsimp only [keepL]; (repeat' (first | exact List.forall_mem_nil _ | (refine List.forall_mem_cons.mpr ⟨?_, ?_⟩) | (first | with_reducible assumption | exact LtAll.nes (by with_reducible assumption) (fun _ hp => (by (repeat' first | exact hp | apply List.Mem.tail)))) | k_ne)))); (case x3u1 => (dsimp only [keepL]; k_subL)); (case' x4u1 => dsimp only [keepL])))
  (repeat' (first | ((with_reducible rename NoOwn => hNo9); clear hNo9) | (k_unfold; (try dsimp only)) | ((with_reducible refine Own.mk ?_); (first | ((k_here; (with_reducible show wpAny _ _ (pyIter (Value.ref _)) (fun it s₂ => TurnsAt _ _ _ _ _ _ _ _ _ it s₂) _ _); (with_reducible rename Fr _ _ _ _ => lF'); (with_reducible rename News _ _ _ _ => lN'); (with_unfolding_all refine' iter_listTurns (by rfl) lF' lN' ?m ?c ?d ?_); (case m => k_mem); (case c => rfl); (case d => rfl); clear lF'; intro i' l1; (k_lt l1))) | (((with_reducible show wpAny _ _ (subscriptTail _ _ (Value.ref _) (Value.int _ _)) _ _ _); k_dflt (refine' item_lit ?k1 ?k2 ?k3 ?_ ?k6; (case k1 => exact News.isList (by k_asm) (by k_mem)); (case k2 => with_reducible assumption); (case k3 => first | with_reducible assumption | exact nth_push (by with_reducible assumption)); (case k6 => with_unfolding_all rfl); k_whole))) | ((k_here; (with_reducible show wpAny _ _ (compareOp _ (Value.int (0 + _) _) (Value.int 0 _)) _ _ _); (refine gt_int_yes ?e ?_); (case e => omega))) | ((k_here; (with_reducible show wpAny _ _ (compareOp _ (Value.int (0 + _) _) (Value.int 0 _)) _ _ _); (refine eq_int_no ?e ?_); (case e => omega))) | ((with_reducible show wpAny _ _ (compareOp CmpOp.IsNot (Value.bool _) (Value.bool _)) _ _ _); (k_here; (with_reducible refine isnot_same ?e ?_); (case e => with_reducible assumption))) | ((k_here; (with_reducible rename NextMark => hN9); (with_reducible show wpAny _ _ (compareOp CmpOp.NotEq (Value.ref _) (Value.ref _)) _ _ _); k_dflt (refine' ne_pair_no ?k1 ?k2 ?e1 ?e2 ?k7 ?_; (case k1 => exact News.isList (by k_asm) (by k_mem)); (case k2 => exact News.isList (by k_asm) (by k_mem)); (case e1 => with_reducible assumption); (case e2 => with_reducible assumption); (case k7 => ktr_units); k_whole); clear hN9)) | ((with_reducible show wpAny _ _ (compareOp CmpOp.Eq (Value.bytes _ _) (Value.bytes _ _)) _ _ _); (k_here; (refine eq_bytes_no (by assumption) ?_))) | ((k_here; (with_reducible show wpAny _ _ (subscriptTail _ (PySem.Expr.Slice _ _ none _) (Value.bytes _ _) (Value.ref _)) _ _ _); (with_reducible rename ToldF _ _ _ => hT9); (with_reducible rename Fr _ _ _ _ => F'); (with_reducible rename News _ _ _ _ => N'); (refine told_slice (s := ⟨_, _, _, _, _⟩) hT9 F' N' ?_); intro _ _ _ _ _ hP')) | ((with_reducible show wpAny _ _ (compareOp CmpOp.NotEq (Value.bytes _ _) (Value.bytes _ _)) _ _ _); (k_here; (refine ne_bytes_no ?e ?_); (case e => exact word_eq (by omega) (by omega)))) | ((with_reducible show wpAny _ _ (binaryOp _ (Value.bytes _ _) (Value.bytes _ _)) _ _ _); (k_here; (with_reducible rename ToldF _ _ _ => hT9); (refine word_add hT9 ?_); intro t' k')) | ((k_here; (with_reducible show wpAny _ _ (call (Value.builtin _) [Value.ref _, _]) _ _ _); k_dflt (refine' append_K ?k1 ?k2 ?k3 ?_ ?z; (case k1 => k_asm); (case k2 => k_asm); (case k3 => k_upd); (case z => exact Nat.le_of_ble_eq_true rfl); k_whole); intro h' F' N'; (try k_sweep))) | ((k_here; (with_reducible show wpAny _ _ (subscriptTail (PySem.Expr.Subscript _ _ _) _ (Value.ref _) (Value.int _ _)) _ _ _); k_dflt (refine' tup_lit ?k1 ?k2 ?k3 ?_ ?k6; (case k1 => exact News.isTup (by k_asm) (by k_mem)); (case k2 => exact rfl); (case k3 => exact rfl); (case k6 => with_unfolding_all rfl); k_whole))) | (((with_reducible show wpAny _ _ (subscriptTail _ _ (Value.ref _) (Value.int _ _)) _ _ _); k_dflt (refine' tup_lit ?k1 ?k2 ?k3 ?_ ?k6; (case k1 => exact News.isTup (by k_asm) (by k_mem)); (case k2 => exact rfl); (case k3 => exact rfl); (case k6 => with_unfolding_all rfl); k_whole))) | ((with_reducible show wpAny _ _ (compareOp CmpOp.IsNot (Value.bool _) (Value.bool _)) _ _ _); (k_here; (with_reducible refine isnot_same ?e ?_); (case e => first | exact eq_yes | exact eq_no (by with_reducible assumption) (by with_reducible assumption)))) | ((k_here; (with_reducible show wpAny _ _ (compareOp CmpOp.NotEq (Value.ref _) (Value.ref _)) _ _ _); k_dflt (refine' norm_ne_no ?k1 ?k2 ?k3 ?k4 ?k5 ?k6 ?e1 ?e2 ?k7 ?_; (case k1 => exact News.isTup (by k_asm) (by k_mem)); (case k4 => exact News.isTup (by k_asm) (by k_mem)); (case k2 => exact News.isTup (by k_asm) (by k_mem)); (case k5 => exact News.isTup (by k_asm) (by k_mem)); (case k3 => with_reducible assumption); (case k6 => with_reducible assumption); (case e1 => with_reducible assumption); (case e2 => with_reducible assumption); (case k7 => ktr_units); k_whole))) | (((with_reducible show wpAny _ _ (subscriptTail _ _ (Value.ref _) (Value.int _ _)) _ _ _); k_dflt (refine' item_lit ?k1 ?k2 ?k3 ?_ ?k6; (case k1 => exact News.isList (by k_asm) (by k_mem)); (case k2 => exact rfl); (case k3 => exact rfl); (case k6 => with_unfolding_all rfl); k_whole))) | ((k_here; (with_reducible show wpAny _ _ (subscriptTail _ _ (Value.ref _) (Value.int _ _)) _ _ _); k_dflt (refine' item_lit ?k1 ?k2 ?k3 ?_ ?k6; (case k1 => exact News.isList (by k_asm) (by k_mem)); (case k2 => exact rfl); (case k3 => exact rfl); (case k6 => with_unfolding_all rfl); k_whole))) | ((k_here; (with_reducible show wpAny _ _ (subscriptTail _ _ (Value.ref _) (Value.int _ _)) _ _ _); k_dflt (refine' item_anyT ?k1 ?k2 ?k3 ?k4 ?k5 ?_ ?k6; (case k1 => exact News.isTup (by k_asm) (by k_mem)); (case k2 => with_reducible assumption); (case k3 => omega); (case k4 => omega); (case k5 => omega); (case k6 => with_unfolding_all rfl); k_whole); intro _)) | ((k_here; (with_reducible show wpAny _ _ (call (Value.builtin "len") [Value.ref _]) _ _ _); k_dflt (refine' len_tupI ?k1 ?k2 ?k3 ?_; (case k1 => exact News.isTup (by k_asm) (by k_mem)); (case k2 => with_reducible assumption); (case k3 => omega); k_whole))) | ((k_here; (with_reducible show wpAny _ _ (call (Value.type _) [Value.ref _]) _ _ _); k_dflt (refine' kde_tupleOf ?k1 ?k2 ?k3 ?k4 ?k5 ?_; (case k1 => k_asm); (case k2 => k_asm); (case k3 => exact News.isList (by k_asm) (by k_mem)); (case k5 => exact rfl); (case k4 => (simp only [List.size_toArray]; (have hq9 := IntsAre.length (by assumption)); omega)); k_whole); intro D' h' F' N' l1; (try k_lt l1); (try k_sweep))) | (have hNo9 := NoOwn.mk; walk1))) | ((fail_if_success (first | (first | (with_reducible show wpAny _ _ (exec (Stmt.While _ _ _ _) _) _ _ _) | (with_reducible show wpAny _ _ (pyIter _) (fun it s₂ => LoopAtV _ _ _ _ _ _ _ _ _ it s₂) _ _) | (with_reducible show wpAny _ _ (pyIter _) (fun it s₂ => PairAt3 _ _ _ _ _ _ _ _ _ _ it s₂) _ _)) | ((with_reducible show LCg.CompSrc _ _ _ _ _ _ _ _ _ _ _ _ _ _)) | ((with_reducible show SrcB _ _ _ _ _ _ _ _ _ _ _ _ _ _)) | ((with_reducible show wpAny _ _ (execs (Stmt.Assign [PySem.Expr.Name (Str.ofString "told") _] _ _ :: _) _) _ _ _)) | ((with_reducible show UnrEndW _ _ _ _ _ _)) | ((with_reducible show wpAny _ _ (execs (Stmt.Assign [PySem.Expr.Name (Str.ofString "more") _] _ _ :: _) _) _ _ _)))); (first | walk1 | (dsimp only; walk1) | (leave1; try dsimp only)))))
  (with_reducible rename Fr _ _ _ _ => lF9)
  (with_reducible rename News _ _ _ _ => lN9)
  have N9 := news_3 [true, false, false, false] 1 2 3 lN9 rfl rfl rfl
  dsimp only [keepL] at N9
  clear lN9
  refine' tabA_ok rfl rfl K0 lF9 KX T ?m1 ?m2 ?m3 ?m5 ?nT ?nR ?nlT ?nlC ?n1 ?n2 ?n3 ?n4 ?hT hR ?hH ?hi ?hvT ?hvC ?hnH ?hnF ?hFH ?hfs hi1 hb1 hc2 m4 f1' fa' fb' fc' fd' fe' ff' ?m4 ?hbs ?hfi ?hbi N9 ?nL ?nq hL ?hvL ?hnB hB7 ?hBF fh' ?_
  case m1 => exact rfl
  case m2 => exact rfl
  case m3 => exact rfl
  case m5 => exact rfl
  case m4 => exact rfl
  case hi => exact rfl
  case nT => k_mem
  case nR => k_mem
  case nlT => k_mem
  case nlC => k_mem
  case nL => k_mem
  case nq => k_mem
  case hvT => exact rfl
  case hvC => exact rfl
  case hvL => exact rfl
  case n1 => k_mem
  case n2 => k_mem
  case n3 => k_mem
  case n4 => k_mem
  case hT => with_reducible assumption
  case hH => with_reducible assumption
  case hnH => (repeat' (first | exact List.forall_mem_nil _ | (refine List.forall_mem_cons.mpr ⟨?_, ?_⟩) | (first | with_reducible assumption | exact LtAll.nes (by with_reducible assumption) (fun _ hp => (by (repeat' first | exact hp | apply List.Mem.tail)))) | k_ne))
  case hnF => (repeat' (first | exact List.forall_mem_nil _ | (refine List.forall_mem_cons.mpr ⟨?_, ?_⟩) | (first | with_reducible assumption | exact LtAll.nes (by with_reducible assumption) (fun _ hp => (by (repeat' first | exact hp | apply List.Mem.tail)))) | k_ne))
  case hnB => (repeat' (first | exact List.forall_mem_nil _ | (refine List.forall_mem_cons.mpr ⟨?_, ?_⟩) | (first | with_reducible assumption | exact LtAll.nes (by with_reducible assumption) (fun _ hp => (by (repeat' first | exact hp | apply List.Mem.tail)))) | k_ne))
  case hFH => exact LtAll.get (by with_reducible assumption) (by k_mem)
  case hBF => exact LtAll.get (by with_reducible assumption) (by k_mem)
  case hfs => exact Nat.le_of_ble_eq_true rfl
  case hbs => exact Nat.le_of_ble_eq_true rfl
  case hfi => exact rfl
  case hbi => exact rfl
  intro h' tk' oH' vH' m'1 tp1 tf1 hH' hm'1 F1 lA1 N1
  clear N9 lF9
  simp only [List.map_cons, List.map_nil] at lA1
  have q1 : ∀ z, [Str.ofString "figures", Str.ofString "table", Str.ofString "more", Str.ofString "due", Str.ofString "told", Str.ofString "word"].contains z = false → m'1 z = m z := fun z hz => (hm'1 z (ne_of_S hz (by k_mem)) (ne_of_S hz (by k_mem))).trans (by rw [if_neg (ne_of_S hz (by k_mem))]; exact (congrFun eq1 z).trans (q0 z hz))
  obtain ⟨F2, eq2⟩ := fr_pickS (m := m'1) [(Str.ofString "figures", _), (Str.ofString "cards", _), (Str.ofString "begun", _), (Str.ofString "draws", _), (Str.ofString "turn", _)] (List.forall_mem_cons.mpr ⟨(hm'1 _ (by dsimp only; decide +kernel) (by dsimp only; decide +kernel)).trans rfl, List.forall_mem_cons.mpr ⟨(hm'1 _ (by dsimp only; decide +kernel) (by dsimp only; decide +kernel)).trans rfl, List.forall_mem_cons.mpr ⟨(hm'1 _ (by dsimp only; decide +kernel) (by dsimp only; decide +kernel)).trans rfl, List.forall_mem_cons.mpr ⟨(hm'1 _ (by dsimp only; decide +kernel) (by dsimp only; decide +kernel)).trans rfl, List.forall_mem_cons.mpr ⟨(hm'1 _ (by dsimp only; decide +kernel) (by dsimp only; decide +kernel)).trans rfl, List.forall_mem_nil _⟩⟩⟩⟩⟩) F1
  simp only [pickF] at F2
  clear F1 hm'1
  have hEnd := EndT.mk
  (repeat' (first | ((with_reducible rename NoOwn => hNo9); clear hNo9) | (k_unfold; (try dsimp only)) | ((with_reducible refine Own.mk ?_); (first | ((k_here; (with_reducible show wpAny _ _ (pyIter (Value.ref _)) (fun it s₂ => TurnsAt _ _ _ _ _ _ _ _ _ it s₂) _ _); (with_reducible rename Fr _ _ _ _ => lF'); (with_reducible rename News _ _ _ _ => lN'); (with_unfolding_all refine' iter_listTurns (by rfl) lF' lN' ?m ?c ?d ?_); (case m => k_mem); (case c => rfl); (case d => rfl); clear lF'; intro i' l1; (k_lt l1))) | (((with_reducible show wpAny _ _ (subscriptTail _ _ (Value.ref _) (Value.int _ _)) _ _ _); k_dflt (refine' item_lit ?k1 ?k2 ?k3 ?_ ?k6; (case k1 => exact News.isList (by k_asm) (by k_mem)); (case k2 => with_reducible assumption); (case k3 => first | with_reducible assumption | exact nth_push (by with_reducible assumption)); (case k6 => with_unfolding_all rfl); k_whole))) | ((k_here; (with_reducible show wpAny _ _ (compareOp _ (Value.int (0 + _) _) (Value.int 0 _)) _ _ _); (refine gt_int_yes ?e ?_); (case e => omega))) | ((k_here; (with_reducible show wpAny _ _ (compareOp _ (Value.int (0 + _) _) (Value.int 0 _)) _ _ _); (refine eq_int_no ?e ?_); (case e => omega))) | ((with_reducible show wpAny _ _ (compareOp CmpOp.IsNot (Value.bool _) (Value.bool _)) _ _ _); (k_here; (with_reducible refine isnot_same ?e ?_); (case e => with_reducible assumption))) | ((k_here; (with_reducible rename NextMark => hN9); (with_reducible show wpAny _ _ (compareOp CmpOp.NotEq (Value.ref _) (Value.ref _)) _ _ _); k_dflt (refine' ne_pair_no ?k1 ?k2 ?e1 ?e2 ?k7 ?_; (case k1 => exact News.isList (by k_asm) (by k_mem)); (case k2 => exact News.isList (by k_asm) (by k_mem)); (case e1 => with_reducible assumption); (case e2 => with_reducible assumption); (case k7 => ktr_units); k_whole); clear hN9)) | ((with_reducible show wpAny _ _ (compareOp CmpOp.Eq (Value.bytes _ _) (Value.bytes _ _)) _ _ _); (k_here; (refine eq_bytes_no (by assumption) ?_))) | ((k_here; (with_reducible show wpAny _ _ (subscriptTail _ (PySem.Expr.Slice _ _ none _) (Value.bytes _ _) (Value.ref _)) _ _ _); (with_reducible rename ToldF _ _ _ => hT9); (with_reducible rename Fr _ _ _ _ => F'); (with_reducible rename News _ _ _ _ => N'); (refine told_slice (s := ⟨_, _, _, _, _⟩) hT9 F' N' ?_); intro _ _ _ _ _ hP')) | ((with_reducible show wpAny _ _ (compareOp CmpOp.NotEq (Value.bytes _ _) (Value.bytes _ _)) _ _ _); (k_here; (refine ne_bytes_no ?e ?_); (case e => exact word_eq (by omega) (by omega)))) | ((with_reducible show wpAny _ _ (binaryOp _ (Value.bytes _ _) (Value.bytes _ _)) _ _ _); (k_here; (with_reducible rename ToldF _ _ _ => hT9); (refine word_add hT9 ?_); intro t' k')) | ((k_here; (with_reducible show wpAny _ _ (call (Value.builtin _) [Value.ref _, _]) _ _ _); k_dflt (refine' append_K ?k1 ?k2 ?k3 ?_ ?z; (case k1 => k_asm); (case k2 => k_asm); (case k3 => k_upd); (case z => exact Nat.le_of_ble_eq_true rfl); k_whole); intro h' F' N'; (try k_sweep))) | ((k_here; (with_reducible show wpAny _ _ (subscriptTail (PySem.Expr.Subscript _ _ _) _ (Value.ref _) (Value.int _ _)) _ _ _); k_dflt (refine' tup_lit ?k1 ?k2 ?k3 ?_ ?k6; (case k1 => exact News.isTup (by k_asm) (by k_mem)); (case k2 => exact rfl); (case k3 => exact rfl); (case k6 => with_unfolding_all rfl); k_whole))) | (((with_reducible show wpAny _ _ (subscriptTail _ _ (Value.ref _) (Value.int _ _)) _ _ _); k_dflt (refine' tup_lit ?k1 ?k2 ?k3 ?_ ?k6; (case k1 => exact News.isTup (by k_asm) (by k_mem)); (case k2 => exact rfl); (case k3 => exact rfl); (case k6 => with_unfolding_all rfl); k_whole))) | ((with_reducible show wpAny _ _ (compareOp CmpOp.IsNot (Value.bool _) (Value.bool _)) _ _ _); (k_here; (with_reducible refine isnot_same ?e ?_); (case e => first | exact eq_yes | exact eq_no (by with_reducible assumption) (by with_reducible assumption)))) | ((k_here; (with_reducible show wpAny _ _ (compareOp CmpOp.NotEq (Value.ref _) (Value.ref _)) _ _ _); k_dflt (refine' norm_ne_no ?k1 ?k2 ?k3 ?k4 ?k5 ?k6 ?e1 ?e2 ?k7 ?_; (case k1 => exact News.isTup (by k_asm) (by k_mem)); (case k4 => exact News.isTup (by k_asm) (by k_mem)); (case k2 => exact News.isTup (by k_asm) (by k_mem)); (case k5 => exact News.isTup (by k_asm) (by k_mem)); (case k3 => with_reducible assumption); (case k6 => with_reducible assumption); (case e1 => with_reducible assumption); (case e2 => with_reducible assumption); (case k7 => ktr_units); k_whole))) | (((with_reducible show wpAny _ _ (subscriptTail _ _ (Value.ref _) (Value.int _ _)) _ _ _); k_dflt (refine' item_lit ?k1 ?k2 ?k3 ?_ ?k6; (case k1 => exact News.isList (by k_asm) (by k_mem)); (case k2 => exact rfl); (case k3 => exact rfl); (case k6 => with_unfolding_all rfl); k_whole))) | ((k_here; (with_reducible show wpAny _ _ (subscriptTail _ _ (Value.ref _) (Value.int _ _)) _ _ _); k_dflt (refine' item_lit ?k1 ?k2 ?k3 ?_ ?k6; (case k1 => exact News.isList (by k_asm) (by k_mem)); (case k2 => exact rfl); (case k3 => exact rfl); (case k6 => with_unfolding_all rfl); k_whole))) | ((k_here; (with_reducible show wpAny _ _ (subscriptTail _ _ (Value.ref _) (Value.int _ _)) _ _ _); k_dflt (refine' item_anyT ?k1 ?k2 ?k3 ?k4 ?k5 ?_ ?k6; (case k1 => exact News.isTup (by k_asm) (by k_mem)); (case k2 => with_reducible assumption); (case k3 => omega); (case k4 => omega); (case k5 => omega); (case k6 => with_unfolding_all rfl); k_whole); intro _)) | ((k_here; (with_reducible show wpAny _ _ (call (Value.builtin "len") [Value.ref _]) _ _ _); k_dflt (refine' len_tupI ?k1 ?k2 ?k3 ?_; (case k1 => exact News.isTup (by k_asm) (by k_mem)); (case k2 => with_reducible assumption); (case k3 => omega); k_whole))) | ((k_here; (with_reducible show wpAny _ _ (call (Value.type _) [Value.ref _]) _ _ _); k_dflt (refine' kde_tupleOf ?k1 ?k2 ?k3 ?k4 ?k5 ?_; (case k1 => k_asm); (case k2 => k_asm); (case k3 => exact News.isList (by k_asm) (by k_mem)); (case k5 => exact rfl); (case k4 => (simp only [List.size_toArray]; (have hq9 := IntsAre.length (by assumption)); omega)); k_whole); intro D' h' F' N' l1; (try k_lt l1); (try k_sweep))) | (have hNo9 := NoOwn.mk; walk1))) | ((fail_if_success (first | (first | (with_reducible show wpAny _ _ (exec (Stmt.While _ _ _ _) _) _ _ _) | (with_reducible show wpAny _ _ (pyIter _) (fun it s₂ => LoopAtV _ _ _ _ _ _ _ _ _ it s₂) _ _) | (with_reducible show wpAny _ _ (pyIter _) (fun it s₂ => PairAt3 _ _ _ _ _ _ _ _ _ _ it s₂) _ _)) | ((with_reducible show LCg.CompSrc _ _ _ _ _ _ _ _ _ _ _ _ _ _)) | ((with_reducible show SrcB _ _ _ _ _ _ _ _ _ _ _ _ _ _)) | ((with_reducible show wpAny _ _ (execs (Stmt.Assign [PySem.Expr.Name (Str.ofString "told") _] _ _ :: _) _) _ _ _)) | ((with_reducible show UnrEndW _ _ _ _ _ _)) | ((with_reducible show wpAny _ _ (execs (Stmt.Assign [PySem.Expr.Name (Str.ofString "more") _] _ _ :: _) _) _ _ _)))); (first | walk1 | (dsimp only; walk1) | (leave1; try dsimp only)))))
  (((with_reducible rename News _ _ _ _ => nE9); (with_reducible rename Fr _ _ _ _ => fE9); (first | ((rename EndT => eE9); (clear eE9); (refine unr_end1 [true, true, true, true, false] fE9 nE9 ?x1u2 ?x2u2 ⟨?x3u2, ?x4u2⟩)) | ((rename EndU => eE9); (clear eE9); (refine unr_end1 [true, true, false] fE9 nE9 ?x1u2 ?x2u2 ⟨?x3u2, ?x4u2⟩))); (case x1u2 => k_mem); (case x2u2 => (dsimp only [keepL]; (repeat' (first | exact List.forall_mem_nil _ | (refine List.forall_mem_cons.mpr ⟨?_, ?_⟩) | (first | with_reducible assumption | exact LtAll.nes (by with_reducible assumption) (fun _ hp => (by (repeat' first | exact hp | apply List.Mem.tail)))) | k_ne)))); (case x3u2 => (dsimp only [keepL]; k_subL)); (case' x4u2 => dsimp only [keepL])))
  (repeat' (first | ((with_reducible rename NoOwn => hNo9); clear hNo9) | (k_unfold; (try dsimp only)) | ((with_reducible refine Own.mk ?_); (first | ((k_here; (with_reducible show wpAny _ _ (pyIter (Value.ref _)) (fun it s₂ => TurnsAt _ _ _ _ _ _ _ _ _ it s₂) _ _); (with_reducible rename Fr _ _ _ _ => lF'); (with_reducible rename News _ _ _ _ => lN'); (with_unfolding_all refine' iter_listTurns (by rfl) lF' lN' ?m ?c ?d ?_); (case m => k_mem); (case c => rfl); (case d => rfl); clear lF'; intro i' l1; (k_lt l1))) | (((with_reducible show wpAny _ _ (subscriptTail _ _ (Value.ref _) (Value.int _ _)) _ _ _); k_dflt (refine' item_lit ?k1 ?k2 ?k3 ?_ ?k6; (case k1 => exact News.isList (by k_asm) (by k_mem)); (case k2 => with_reducible assumption); (case k3 => first | with_reducible assumption | exact nth_push (by with_reducible assumption)); (case k6 => with_unfolding_all rfl); k_whole))) | ((k_here; (with_reducible show wpAny _ _ (compareOp _ (Value.int (0 + _) _) (Value.int 0 _)) _ _ _); (refine gt_int_yes ?e ?_); (case e => omega))) | ((k_here; (with_reducible show wpAny _ _ (compareOp _ (Value.int (0 + _) _) (Value.int 0 _)) _ _ _); (refine eq_int_no ?e ?_); (case e => omega))) | ((with_reducible show wpAny _ _ (compareOp CmpOp.IsNot (Value.bool _) (Value.bool _)) _ _ _); (k_here; (with_reducible refine isnot_same ?e ?_); (case e => with_reducible assumption))) | ((k_here; (with_reducible rename NextMark => hN9); (with_reducible show wpAny _ _ (compareOp CmpOp.NotEq (Value.ref _) (Value.ref _)) _ _ _); k_dflt (refine' ne_pair_no ?k1 ?k2 ?e1 ?e2 ?k7 ?_; (case k1 => exact News.isList (by k_asm) (by k_mem)); (case k2 => exact News.isList (by k_asm) (by k_mem)); (case e1 => with_reducible assumption); (case e2 => with_reducible assumption); (case k7 => ktr_units); k_whole); clear hN9)) | ((with_reducible show wpAny _ _ (compareOp CmpOp.Eq (Value.bytes _ _) (Value.bytes _ _)) _ _ _); (k_here; (refine eq_bytes_no (by assumption) ?_))) | ((k_here; (with_reducible show wpAny _ _ (subscriptTail _ (PySem.Expr.Slice _ _ none _) (Value.bytes _ _) (Value.ref _)) _ _ _); (with_reducible rename ToldF _ _ _ => hT9); (with_reducible rename Fr _ _ _ _ => F'); (with_reducible rename News _ _ _ _ => N'); (refine told_slice (s := ⟨_, _, _, _, _⟩) hT9 F' N' ?_); intro _ _ _ _ _ hP')) | ((with_reducible show wpAny _ _ (compareOp CmpOp.NotEq (Value.bytes _ _) (Value.bytes _ _)) _ _ _); (k_here; (refine ne_bytes_no ?e ?_); (case e => exact word_eq (by omega) (by omega)))) | ((with_reducible show wpAny _ _ (binaryOp _ (Value.bytes _ _) (Value.bytes _ _)) _ _ _); (k_here; (with_reducible rename ToldF _ _ _ => hT9); (refine word_add hT9 ?_); intro t' k')) | ((k_here; (with_reducible show wpAny _ _ (call (Value.builtin _) [Value.ref _, _]) _ _ _); k_dflt (refine' append_K ?k1 ?k2 ?k3 ?_ ?z; (case k1 => k_asm); (case k2 => k_asm); (case k3 => k_upd); (case z => exact Nat.le_of_ble_eq_true rfl); k_whole); intro h' F' N'; (try k_sweep))) | ((k_here; (with_reducible show wpAny _ _ (subscriptTail (PySem.Expr.Subscript _ _ _) _ (Value.ref _) (Value.int _ _)) _ _ _); k_dflt (refine' tup_lit ?k1 ?k2 ?k3 ?_ ?k6; (case k1 => exact News.isTup (by k_asm) (by k_mem)); (case k2 => exact rfl); (case k3 => exact rfl); (case k6 => with_unfolding_all rfl); k_whole))) | (((with_reducible show wpAny _ _ (subscriptTail _ _ (Value.ref _) (Value.int _ _)) _ _ _); k_dflt (refine' tup_lit ?k1 ?k2 ?k3 ?_ ?k6; (case k1 => exact News.isTup (by k_asm) (by k_mem)); (case k2 => exact rfl); (case k3 => exact rfl); (case k6 => with_unfolding_all rfl); k_whole))) | ((with_reducible show wpAny _ _ (compareOp CmpOp.IsNot (Value.bool _) (Value.bool _)) _ _ _); (k_here; (with_reducible refine isnot_same ?e ?_); (case e => first | exact eq_yes | exact eq_no (by with_reducible assumption) (by with_reducible assumption)))) | ((k_here; (with_reducible show wpAny _ _ (compareOp CmpOp.NotEq (Value.ref _) (Value.ref _)) _ _ _); k_dflt (refine' norm_ne_no ?k1 ?k2 ?k3 ?k4 ?k5 ?k6 ?e1 ?e2 ?k7 ?_; (case k1 => exact News.isTup (by k_asm) (by k_mem)); (case k4 => exact News.isTup (by k_asm) (by k_mem)); (case k2 => exact News.isTup (by k_asm) (by k_mem)); (case k5 => exact News.isTup (by k_asm) (by k_mem)); (case k3 => with_reducible assumption); (case k6 => with_reducible assumption); (case e1 => with_reducible assumption); (case e2 => with_reducible assumption); (case k7 => ktr_units); k_whole))) | (((with_reducible show wpAny _ _ (subscriptTail _ _ (Value.ref _) (Value.int _ _)) _ _ _); k_dflt (refine' item_lit ?k1 ?k2 ?k3 ?_ ?k6; (case k1 => exact News.isList (by k_asm) (by k_mem)); (case k2 => exact rfl); (case k3 => exact rfl); (case k6 => with_unfolding_all rfl); k_whole))) | ((k_here; (with_reducible show wpAny _ _ (subscriptTail _ _ (Value.ref _) (Value.int _ _)) _ _ _); k_dflt (refine' item_lit ?k1 ?k2 ?k3 ?_ ?k6; (case k1 => exact News.isList (by k_asm) (by k_mem)); (case k2 => exact rfl); (case k3 => exact rfl); (case k6 => with_unfolding_all rfl); k_whole))) | ((k_here; (with_reducible show wpAny _ _ (subscriptTail _ _ (Value.ref _) (Value.int _ _)) _ _ _); k_dflt (refine' item_anyT ?k1 ?k2 ?k3 ?k4 ?k5 ?_ ?k6; (case k1 => exact News.isTup (by k_asm) (by k_mem)); (case k2 => with_reducible assumption); (case k3 => omega); (case k4 => omega); (case k5 => omega); (case k6 => with_unfolding_all rfl); k_whole); intro _)) | ((k_here; (with_reducible show wpAny _ _ (call (Value.builtin "len") [Value.ref _]) _ _ _); k_dflt (refine' len_tupI ?k1 ?k2 ?k3 ?_; (case k1 => exact News.isTup (by k_asm) (by k_mem)); (case k2 => with_reducible assumption); (case k3 => omega); k_whole))) | ((k_here; (with_reducible show wpAny _ _ (call (Value.type _) [Value.ref _]) _ _ _); k_dflt (refine' kde_tupleOf ?k1 ?k2 ?k3 ?k4 ?k5 ?_; (case k1 => k_asm); (case k2 => k_asm); (case k3 => exact News.isList (by k_asm) (by k_mem)); (case k5 => exact rfl); (case k4 => (simp only [List.size_toArray]; (have hq9 := IntsAre.length (by assumption)); omega)); k_whole); intro D' h' F' N' l1; (try k_lt l1); (try k_sweep))) | (have hNo9 := NoOwn.mk; walk1))) | ((fail_if_success (first | (first | (with_reducible show wpAny _ _ (exec (Stmt.While _ _ _ _) _) _ _ _) | (with_reducible show wpAny _ _ (pyIter _) (fun it s₂ => LoopAtV _ _ _ _ _ _ _ _ _ it s₂) _ _) | (with_reducible show wpAny _ _ (pyIter _) (fun it s₂ => PairAt3 _ _ _ _ _ _ _ _ _ _ it s₂) _ _)) | ((with_reducible show LCg.CompSrc _ _ _ _ _ _ _ _ _ _ _ _ _ _)) | ((with_reducible show SrcB _ _ _ _ _ _ _ _ _ _ _ _ _ _)) | ((with_reducible show wpAny _ _ (execs (Stmt.Assign [PySem.Expr.Name (Str.ofString "told") _] _ _ :: _) _) _ _ _)) | ((with_reducible show UnrEndW _ _ _ _ _ _)) | ((with_reducible show wpAny _ _ (execs (Stmt.Assign [PySem.Expr.Name (Str.ofString "more") _] _ _ :: _) _) _ _ _)))); (first | walk1 | (dsimp only; walk1) | (leave1; try dsimp only)))))
  (with_reducible rename Fr _ _ _ _ => lF9)
  (with_reducible rename News _ _ _ _ => lN9)
  have N9 := news_1 [true, true, true, true, true, true, true, true, true, true, true, true, true, true, true, true, false] 16 lN9 rfl
  dsimp only [keepL] at N9
  clear lN9
  refine' tailT_ok rfl rfl K0 lF9 KX T ?m1 ?m6 ?nF ?nlD ?nT ?nlT ?nq ?n1 ?n2 ?n3 ?n4 hL ?hT ?hn5 ?hf ?hg hd3 f1 f2 f3 f1' f2' f3' fg fg' N9 ?_
  case m1 => exact rfl
  case m6 => exact rfl
  case nT => k_mem
  case hT => with_reducible assumption
  case nF => k_mem
  case nlD => k_mem
  case nlT => k_mem
  case nq => k_mem
  case n1 => k_mem
  case n2 => k_mem
  case n3 => k_mem
  case n4 => k_mem
  case hn5 => (repeat' (first | exact List.forall_mem_nil _ | (refine List.forall_mem_cons.mpr ⟨?_, ?_⟩) | (first | with_reducible assumption | exact LtAll.nes (by with_reducible assumption) (fun _ hp => (by (repeat' first | exact hp | apply List.Mem.tail)))) | k_ne))
  case hf => exact fig_bd fa fb fc fd
  case hg => exact fig_bd fa' fb' fc' fd'
  intro h' tk' mT q' oL' ta tb tw9 hw hsT F9 hL' ho9 N1
  clear N9 lF9
  simp only [List.map_cons, List.map_nil] at ho9
  refine' hret _ _ _ _ _ _ _ _ _ _ _ _ _ _ _ _ _ _ _ _ _ _ _ _ _ _ _ _ _ hw (fun z hz => ?ke) F9 hL' ?kH ?kT (OffH.sub ho9 ?ko2) ?kz hi0 hi1 ?kN
  case kN => exact List.forall_mem_cons.mpr ⟨N1 _ (by k_mem), List.forall_mem_cons.mpr ⟨N1 _ (by k_mem), List.forall_mem_cons.mpr ⟨N1 _ (by k_mem), List.forall_mem_cons.mpr ⟨N1 _ (by k_mem), List.forall_mem_cons.mpr ⟨N1 _ (by k_mem), List.forall_mem_cons.mpr ⟨N1 _ (by k_mem), List.forall_mem_cons.mpr ⟨N1 _ (by k_mem), List.forall_mem_cons.mpr ⟨N1 _ (by k_mem), List.forall_mem_cons.mpr ⟨N1 _ (by k_mem), List.forall_mem_cons.mpr ⟨N1 _ (by k_mem), List.forall_mem_cons.mpr ⟨N1 _ (by k_mem), List.forall_mem_cons.mpr ⟨N1 _ (by k_mem), List.forall_mem_cons.mpr ⟨N1 _ (by k_mem), List.forall_mem_cons.mpr ⟨N1 _ (by k_mem), List.forall_mem_cons.mpr ⟨N1 _ (by k_mem), fun p hp => N1 p (by (repeat' first | exact hp | apply List.Mem.tail))⟩⟩⟩⟩⟩⟩⟩⟩⟩⟩⟩⟩⟩⟩⟩
  case ke => exact (hsT z (ne_of_S hz (by k_mem)) (ne_of_S hz (by k_mem))).trans ((congrFun eq2 z).trans (q1 z hz))
  case kH => with_reducible assumption
  case kT => with_reducible assumption
  case ko2 => exact List.forall_mem_cons.mpr ⟨by k_mem, List.forall_mem_cons.mpr ⟨by k_mem, List.forall_mem_cons.mpr ⟨by k_mem, List.forall_mem_cons.mpr ⟨by k_mem, fun x hx => by (repeat' first | exact hx | apply List.Mem.tail)⟩⟩⟩⟩
  case kz => exact List.forall_mem_cons.mpr ⟨LtAll.sub (by with_reducible assumption) (by exact List.forall_mem_cons.mpr ⟨by k_mem, List.forall_mem_cons.mpr ⟨by k_mem, List.forall_mem_cons.mpr ⟨by k_mem, List.forall_mem_cons.mpr ⟨by k_mem, fun x hx => by (repeat' first | exact hx | apply List.Mem.tail)⟩⟩⟩⟩), List.forall_mem_cons.mpr ⟨LtAll.sub (by with_reducible assumption) (by exact List.forall_mem_cons.mpr ⟨by k_mem, List.forall_mem_cons.mpr ⟨by k_mem, List.forall_mem_cons.mpr ⟨by k_mem, List.forall_mem_cons.mpr ⟨by k_mem, fun x hx => by (repeat' first | exact hx | apply List.Mem.tail)⟩⟩⟩⟩), List.forall_mem_cons.mpr ⟨LtAll.sub (by with_reducible assumption) (by exact List.forall_mem_cons.mpr ⟨by k_mem, List.forall_mem_cons.mpr ⟨by k_mem, List.forall_mem_cons.mpr ⟨by k_mem, List.forall_mem_cons.mpr ⟨by k_mem, fun x hx => by (repeat' first | exact hx | apply List.Mem.tail)⟩⟩⟩⟩), List.forall_mem_cons.mpr ⟨LtAll.sub (by with_reducible assumption) (by exact List.forall_mem_cons.mpr ⟨by k_mem, List.forall_mem_cons.mpr ⟨by k_mem, List.forall_mem_cons.mpr ⟨by k_mem, List.forall_mem_cons.mpr ⟨by k_mem, fun x hx => by (repeat' first | exact hx | apply List.Mem.tail)⟩⟩⟩⟩), List.forall_mem_cons.mpr ⟨LtAll.sub (by with_reducible assumption) (by exact List.forall_mem_cons.mpr ⟨by k_mem, List.forall_mem_cons.mpr ⟨by k_mem, List.forall_mem_cons.mpr ⟨by k_mem, List.forall_mem_cons.mpr ⟨by k_mem, fun x hx => by (repeat' first | exact hx | apply List.Mem.tail)⟩⟩⟩⟩), List.forall_mem_cons.mpr ⟨LtAll.sub (by with_reducible assumption) (by exact List.forall_mem_cons.mpr ⟨by k_mem, List.forall_mem_cons.mpr ⟨by k_mem, List.forall_mem_cons.mpr ⟨by k_mem, List.forall_mem_cons.mpr ⟨by k_mem, fun x hx => by (repeat' first | exact hx | apply List.Mem.tail)⟩⟩⟩⟩), List.forall_mem_cons.mpr ⟨LtAll.sub (by with_reducible assumption) (by exact List.forall_mem_cons.mpr ⟨by k_mem, List.forall_mem_cons.mpr ⟨by k_mem, List.forall_mem_cons.mpr ⟨by k_mem, List.forall_mem_cons.mpr ⟨by k_mem, fun x hx => by (repeat' first | exact hx | apply List.Mem.tail)⟩⟩⟩⟩), List.forall_mem_cons.mpr ⟨LtAll.sub (by with_reducible assumption) (by exact List.forall_mem_cons.mpr ⟨by k_mem, List.forall_mem_cons.mpr ⟨by k_mem, List.forall_mem_cons.mpr ⟨by k_mem, List.forall_mem_cons.mpr ⟨by k_mem, fun x hx => by (repeat' first | exact hx | apply List.Mem.tail)⟩⟩⟩⟩), List.forall_mem_cons.mpr ⟨LtAll.sub (by with_reducible assumption) (by exact List.forall_mem_cons.mpr ⟨by k_mem, List.forall_mem_cons.mpr ⟨by k_mem, List.forall_mem_cons.mpr ⟨by k_mem, List.forall_mem_cons.mpr ⟨by k_mem, fun x hx => by (repeat' first | exact hx | apply List.Mem.tail)⟩⟩⟩⟩), List.forall_mem_cons.mpr ⟨LtAll.sub (by with_reducible assumption) (by exact List.forall_mem_cons.mpr ⟨by k_mem, List.forall_mem_cons.mpr ⟨by k_mem, List.forall_mem_cons.mpr ⟨by k_mem, List.forall_mem_cons.mpr ⟨by k_mem, fun x hx => by (repeat' first | exact hx | apply List.Mem.tail)⟩⟩⟩⟩), List.forall_mem_nil _⟩⟩⟩⟩⟩⟩⟩⟩⟩⟩
end
section
local macro_rules | `(tactic| walk_at "pyIter ref") => `(tactic| walk_at "own")
local macro_rules | `(tactic| passes_own) => `(tactic| with_reducible assumption)
/-- a later turn -/
theorem turnB_ok {w : World} {loose : List Str} {mean : ExcName → Option Value} {mg mb : Str → Option Value} {h₀ : Heap} {L fx rr : Addr} {sc : Scope} {code : List Stmt} {m : Str → Option Value} {s : Shared} {Q : Flow → Shared → Prop} {E : Value → Shared → Prop} {nt : List (Addr × Obj)}
    (hsc : sc = lawDef.scope) (hcode : code = forB (nthS lawDef.body 11))
    (K0 : Below callerA h₀ [] h₀) (F : Fr h₀ L s.heap m) (KX : (hd2.heap_39 w.params).In h₀) (T : Top hd2.view_39 loose mean mg mb h₀)
    {tt : Tok} {aB lC lD q : Addr} {oL oT oR oH : Obj} {vH vT : Option Value} {x1 x2 : Str} {t1 t2 tc1q tc2 td1 td2 td3 tr : Tok} {kC kD kq : Nat} {c1 c2 d1 d2 d3 : Int}
    (m2 : m (Str.ofString "cards") = some (.ref lC)) (m5 : m (Str.ofString "begun") = some (.ref aB)) (m6 : m (Str.ofString "draws") = some (.ref lD))
    (nq : (q, PySem.W.listOf #[.str x1 t1, .str x2 t2] kq) ∈ nt) (nlC : (lC, PySem.W.listOf #[.int c1 tc1q, .int c2 tc2] kC) ∈ nt) (nlD : (lD, PySem.W.listOf #[.int d1 td1, .int d2 td2, .int d3 td3] kD) ∈ nt) (nR : (L + 1, oR) ∈ nt)
    (hL : oL.data = .cell (some (.ref q))) (hT : oT.data = .cell vT) (hH : oH.data = .cell vH) (hR : oR.data = .cell (some (.int (d3.fmod 4) tr)))
    (hn5 : ∀ p ∈ nt, (p : Addr × Obj).1 ≠ L + 1 + 1 + 1 + 1 + 1) (hn6 : ∀ p ∈ nt, (p : Addr × Obj).1 ≠ L + 1 + 1 + 1 + 1 + 1 + 1) (hn7 : ∀ p ∈ nt, (p : Addr × Obj).1 ≠ L + 1 + 1 + 1 + 1 + 1 + 1 + 1)
    (hc1 : 0 ≤ c1 ∧ c1 ≤ 1000) (hc2 : 0 ≤ c2 ∧ c2 ≤ 1000) (hd3 : 0 ≤ d3 ∧ d3 ≤ 64000000) (m4 : 0 ≤ d3.fmod 4 ∧ d3.fmod 4 < 4) (lf1 : LeadF x1 c1 (d3.fmod 4)) (lf2 : LeadF x2 c2 (d3.fmod 4))
    {n fw gw F0 F1 : Int} {p0 p1 ab0 eb0 nb0 cb0 ab1 eb1 nb1 cb1 : Addr} {ub0 ub1 tw tN tTl tCd : Tok} {vsb0 vsb1 : List Value} {kt0 kt1 : WTok} {X0 X1 tl : Str} {oN oTl oCd : Obj} {kB : Nat}
    (hE : PassesOwn (model PySem.Challenge.rw_xb0022_02.row.prog w) (callerA.deeper (envOfC (Str.ofString "law") sc L fx (.ref rr))) (envOfC (Str.ofString "law") sc L fx (.ref rr)) E) (mt : m (Str.ofString "turn") = some (.int n tt)) (hn : 1 ≤ n) (mw : m (Str.ofString "word") = some (.bytes (wordF fw gw) tw)) (hfw : 0 ≤ fw ∧ fw ≤ 15) (hgw : 0 ≤ gw ∧ gw ≤ 15)
    (hnx1 : (8 * moreFirst (typedS x1 (d3.fmod 4)) c1 (d3.fmod 4) + 4 * moreSecond (typedS x1 (d3.fmod 4)) c1 (d3.fmod 4) + 2 * moreThird (typedS x1 (d3.fmod 4)) c1 (d3.fmod 4) + moreLast (typedS x1 (d3.fmod 4)) c1 (d3.fmod 4)) = nextF (65 + fw)) (hnx2 : (8 * moreFirst (typedS x2 (d3.fmod 4)) c2 (d3.fmod 4) + 4 * moreSecond (typedS x2 (d3.fmod 4)) c2 (d3.fmod 4) + 2 * moreThird (typedS x2 (d3.fmod 4)) c2 (d3.fmod 4) + moreLast (typedS x2 (d3.fmod 4)) c2 (d3.fmod 4)) = nextF (65 + gw))
    (nN : (L + 1 + 1, oN) ∈ nt) (nTl : (L + 1 + 1 + 1, oTl) ∈ nt) (nCd : (L + 1 + 1 + 1 + 1, oCd) ∈ nt) (hN : oN.data = .cell (some (.str ⟨#[(35 + (d3.fdiv 16).fmod 50000).toNat]⟩ tN))) (hTl : oTl.data = .cell (some (.str tl tTl))) (hCd : oCd.data = .cell (some (.str (Str.ofString (toString (100 + (d3.fdiv 7).fmod 900))) tCd)))
    (hTI : TailIs (35 + (d3.fdiv 16).fmod 50000).toNat tl) (htl : tl.length ≤ 3)
    (nB : (aB, PySem.W.listOf #[.ref p0, .ref p1] kB) ∈ nt) (np0 : (p0, tupOf [.ref ab0, .int F0 ub0]) ∈ nt) (ba0 : (ab0, instObj 83 eb0) ∈ nt) (bb0 : (eb0, dictOf (wsDict w X0 nb0 kt0) 5) ∈ nt) (bc0 : (nb0, tupOf [.ref cb0, .int (wsOf X0).b kt0.v4]) ∈ nt) (bd0 : (cb0, tupOf vsb0) ∈ nt) (hvb0 : IntsAre vsb0 (wsOf X0).ns) (np1 : (p1, tupOf [.ref ab1, .int F1 ub1]) ∈ nt) (ba1 : (ab1, instObj 83 eb1) ∈ nt) (bb1 : (eb1, dictOf (wsDict w X1 nb1 kt1) 5) ∈ nt) (bc1 : (nb1, tupOf [.ref cb1, .int (wsOf X1).b kt1.v4]) ∈ nt) (bd1 : (cb1, tupOf vsb1) ∈ nt) (hvb1 : IntsAre vsb1 (wsOf X1).ns)
    (heq0 : decide ((wsOf X0).ns = (wsOf (typedS x1 (d3.fmod 4))).ns ∧ (wsOf X0).b = (wsOf (typedS x1 (d3.fmod 4))).b) = (F0 == (8 * moreFirst (typedS x1 (d3.fmod 4)) c1 (d3.fmod 4) + 4 * moreSecond (typedS x1 (d3.fmod 4)) c1 (d3.fmod 4) + 2 * moreThird (typedS x1 (d3.fmod 4)) c1 (d3.fmod 4) + moreLast (typedS x1 (d3.fmod 4)) c1 (d3.fmod 4)))) (heq1 : decide ((wsOf X1).ns = (wsOf (typedS x2 (d3.fmod 4))).ns ∧ (wsOf X1).b = (wsOf (typedS x2 (d3.fmod 4))).b) = (F1 == (8 * moreFirst (typedS x2 (d3.fmod 4)) c2 (d3.fmod 4) + 4 * moreSecond (typedS x2 (d3.fmod 4)) c2 (d3.fmod 4) + 2 * moreThird (typedS x2 (d3.fmod 4)) c2 (d3.fmod 4) + moreLast (typedS x2 (d3.fmod 4)) c2 (d3.fmod 4))))
    (N : News h₀ L s.heap ((L + 1 + 1 + 1 + 1 + 1, oL) :: (L + 1 + 1 + 1 + 1 + 1 + 1 + 1, oH) :: (L + 1 + 1 + 1 + 1 + 1 + 1, oT) :: nt))
    (hret : ∀ (h' : Heap) (tk' : Nat) (m' : Str → Option Value) (q' : Addr) (oL' oH' oT' : Obj) (vH' vT' : Option Value) (ta tb tw' : Tok),
      m' (Str.ofString "word") = some (.bytes (wordF (8 * moreFirst (typedS x1 (d3.fmod 4)) c1 (d3.fmod 4) + 4 * moreSecond (typedS x1 (d3.fmod 4)) c1 (d3.fmod 4) + 2 * moreThird (typedS x1 (d3.fmod 4)) c1 (d3.fmod 4) + moreLast (typedS x1 (d3.fmod 4)) c1 (d3.fmod 4)) (8 * moreFirst (typedS x2 (d3.fmod 4)) c2 (d3.fmod 4) + 4 * moreSecond (typedS x2 (d3.fmod 4)) c2 (d3.fmod 4) + 2 * moreThird (typedS x2 (d3.fmod 4)) c2 (d3.fmod 4) + moreLast (typedS x2 (d3.fmod 4)) c2 (d3.fmod 4))) tw') → (∀ z, [Str.ofString "figures", Str.ofString "table", Str.ofString "more", Str.ofString "due", Str.ofString "told", Str.ofString "word"].contains z = false → m' z = m z) → Fr h₀ L h' m' →
      oL'.data = .cell (some (.ref q')) → oH'.data = .cell vH' → oT'.data = .cell vT' → OffH q' ((L + 1 + 1 + 1 + 1 + 1) :: (L + 1 + 1 + 1 + 1 + 1 + 1 + 1) :: (L + 1 + 1 + 1 + 1 + 1 + 1) :: nt.map (·.1)) →
      News h₀ L h' ((q', LCg.lst [.str (dealS x1 (Txt.count x1 (Str.ofString "\t"))) ta, .str (dealS x2 (Txt.count x2 (Str.ofString "\t"))) tb]) :: (L + 1 + 1 + 1 + 1 + 1, oL') :: (L + 1 + 1 + 1 + 1 + 1 + 1 + 1, oH') :: (L + 1 + 1 + 1 + 1 + 1 + 1, oT') :: nt) → Q .next { s with heap := h', toks := tk' }) :
    wpAny (model PySem.Challenge.rw_xb0022_02.row.prog w) (callerA.deeper (envOfC (Str.ofString "law") sc L fx (.ref rr))) (execs code (envOfC (Str.ofString "law") sc L fx (.ref rr))) Q E s := by
  simp only [lawDef, nthS, forB] at hsc hcode
  subst hsc hcode
  obtain ⟨f1, ⟨f2, f3⟩, ⟨fa, fb, fc, fd⟩, fe, ff, fg, fh⟩ := lf1
  obtain ⟨f1', ⟨f2', f3'⟩, ⟨fa', fb', fc', fd'⟩, fe', ff', fg', fh'⟩ := lf2
  refine typedT_ok rfl rfl K0 F KX T (.head _) (.tail _ (.tail _ nR)) (.tail _ (.tail _ nq)) hL hT hR (List.forall_mem_cons.mpr ⟨Nat.ne_of_lt (Nat.lt_succ_self _), List.forall_mem_cons.mpr ⟨Nat.ne_of_gt (Nat.lt_succ_self _), hn6⟩⟩) m4 f1 f2 f3 f1' f2' f3' (news_1 [true, true, false] 2 N rfl) ?_
  intro h' tk' aF lT a0 e0 tn0 tc0 a1 e1 tn1 tc1 oT' vs0 vs1 kt0 kt1 F1 hT' hi0 hi1 hb0 hb1 lAF oLT zz N1
  clear N F hT
  simp only [keepL, List.map_cons] at lAF oLT zz
  simp only [List.drop_succ_cons, List.drop_zero]
  revert KX; k_fill; intro KX
  have hMk := kstMark
  have hLt := LtMark.mk
  have lAF2 : LtAll aF ((q) :: (lC) :: (lD) :: (L + 1) :: (L + 1 + 1) :: (L + 1 + 1 + 1) :: (L + 1 + 1 + 1 + 1) :: (L + 1 + 1 + 1 + 1 + 1 + 1) :: (L + 1 + 1 + 1 + 1 + 1) :: (L + 1 + 1 + 1 + 1 + 1 + 1 + 1) :: nt.map (·.1)) := LtAll.sub lAF (List.forall_mem_cons.mpr ⟨(.tail _ (.tail _ (.tail _ (List.mem_map_of_mem (f := (·.1)) nq)))), List.forall_mem_cons.mpr ⟨(.tail _ (.tail _ (.tail _ (List.mem_map_of_mem (f := (·.1)) nlC)))), List.forall_mem_cons.mpr ⟨(.tail _ (.tail _ (.tail _ (List.mem_map_of_mem (f := (·.1)) nlD)))), List.forall_mem_cons.mpr ⟨(.tail _ (.tail _ (.tail _ (List.mem_map_of_mem (f := (·.1)) nR)))), List.forall_mem_cons.mpr ⟨(.tail _ (.tail _ (.tail _ (List.mem_map_of_mem (f := (·.1)) nN)))), List.forall_mem_cons.mpr ⟨(.tail _ (.tail _ (.tail _ (List.mem_map_of_mem (f := (·.1)) nTl)))), List.forall_mem_cons.mpr ⟨(.tail _ (.tail _ (.tail _ (List.mem_map_of_mem (f := (·.1)) nCd)))), fun _ h => h⟩⟩⟩⟩⟩⟩⟩)
  clear lAF
  have z1 := zz e0 (.head _)
  have z2 := zz a0 (.tail _ (.head _))
  have z3 := zz tc0 (.tail _ (.tail _ (.head _)))
  have z4 := zz tn0 (.tail _ (.tail _ (.tail _ (.head _))))
  have z5 := zz e1 (.tail _ (.tail _ (.tail _ (.tail _ (.head _)))))
  have z6 := zz a1 (.tail _ (.tail _ (.tail _ (.tail _ (.tail _ (.head _))))))
  have z7 := zz tc1 (.tail _ (.tail _ (.tail _ (.tail _ (.tail _ (.tail _ (.head _)))))))
  have z8 := zz tn1 (.tail _ (.tail _ (.tail _ (.tail _ (.tail _ (.tail _ (.tail _ (.head _))))))))
  clear zz
  have hp0 : ∀ p ∈ [(Str.ofString "figures", Value.ref aF), (Str.ofString "cards", Value.ref lC), (Str.ofString "begun", Value.ref aB), (Str.ofString "draws", Value.ref lD), (Str.ofString "turn", Value.int n tt), (Str.ofString "word", Value.bytes (wordF fw gw) tw)], (fun z => if z = Str.ofString "figures" then some (.ref aF) else m z) (p : Str × Value).1 = some p.2 := List.forall_mem_cons.mpr ⟨rfl, List.forall_mem_cons.mpr ⟨m2, List.forall_mem_cons.mpr ⟨m5, List.forall_mem_cons.mpr ⟨m6, List.forall_mem_cons.mpr ⟨mt, List.forall_mem_cons.mpr ⟨mw, List.forall_mem_nil _⟩⟩⟩⟩⟩⟩
  have F0 := fr_pickL [(Str.ofString "figures", Value.ref aF), (Str.ofString "cards", Value.ref lC), (Str.ofString "begun", Value.ref aB), (Str.ofString "draws", Value.ref lD), (Str.ofString "turn", Value.int n tt), (Str.ofString "word", Value.bytes (wordF fw gw) tw)] hp0 F1
  simp only [pickF] at F0
  have eq0 := pickF_eq (m := fun z => if z = Str.ofString "figures" then some (Value.ref aF) else m z) hp0
  have N0 : News h₀ L h' ((lT, LCg.lst [.ref a0, .ref a1]) :: (a1, instObj 83 e1) :: (e1, dictOf (wsDict w (typedS x2 (d3.fmod 4)) tn1 kt1) 5) :: (tn1, tupOf [.ref tc1, .int (wsOf (typedS x2 (d3.fmod 4))).b kt1.v4]) :: (tc1, tupOf vs1) ::
    (a0, instObj 83 e0) :: (e0, dictOf (wsDict w (typedS x1 (d3.fmod 4)) tn0 kt0) 5) :: (tn0, tupOf [.ref tc0, .int (wsOf (typedS x1 (d3.fmod 4))).b kt0.v4]) :: (tc0, tupOf vs0) :: (aF, PySem.W.listOf #[] 0) :: (L + 1 + 1 + 1 + 1 + 1 + 1, oT') :: (L + 1 + 1 + 1 + 1 + 1, oL) :: (L + 1 + 1 + 1 + 1 + 1 + 1 + 1, oH) :: (q, PySem.W.listOf #[.str x1 t1, .str x2 t2] kq) :: (lC, PySem.W.listOf #[.int c1 tc1q, .int c2 tc2] kC) :: (lD, PySem.W.listOf #[.int d1 td1, .int d2 td2, .int d3 td3] kD) :: (L + 1, oR) :: (L + 1 + 1, oN) :: (L + 1 + 1 + 1, oTl) :: (L + 1 + 1 + 1 + 1, oCd) :: nt) :=
    List.forall_mem_cons.mpr ⟨N1 _ (.head _), List.forall_mem_cons.mpr ⟨N1 _ (.tail _ (.head _)), List.forall_mem_cons.mpr ⟨N1 _ (.tail _ (.tail _ (.head _))), List.forall_mem_cons.mpr ⟨N1 _ (.tail _ (.tail _ (.tail _ (.head _)))), List.forall_mem_cons.mpr ⟨N1 _ (.tail _ (.tail _ (.tail _ (.tail _ (.head _))))), List.forall_mem_cons.mpr ⟨N1 _ (.tail _ (.tail _ (.tail _ (.tail _ (.tail _ (.head _)))))), List.forall_mem_cons.mpr ⟨N1 _ (.tail _ (.tail _ (.tail _ (.tail _ (.tail _ (.tail _ (.head _))))))), List.forall_mem_cons.mpr ⟨N1 _ (.tail _ (.tail _ (.tail _ (.tail _ (.tail _ (.tail _ (.tail _ (.head _)))))))), List.forall_mem_cons.mpr ⟨N1 _ (.tail _ (.tail _ (.tail _ (.tail _ (.tail _ (.tail _ (.tail _ (.tail _ (.head _))))))))), List.forall_mem_cons.mpr ⟨N1 _ (.tail _ (.tail _ (.tail _ (.tail _ (.tail _ (.tail _ (.tail _ (.tail _ (.tail _ (.head _)))))))))), List.forall_mem_cons.mpr ⟨N1 _ (.tail _ (.tail _ (.tail _ (.tail _ (.tail _ (.tail _ (.tail _ (.tail _ (.tail _ (.tail _ (.head _))))))))))), List.forall_mem_cons.mpr ⟨N1 _ (.tail _ (.tail _ (.tail _ (.tail _ (.tail _ (.tail _ (.tail _ (.tail _ (.tail _ (.tail _ (.tail _ (.head _)))))))))))), List.forall_mem_cons.mpr ⟨N1 _ (.tail _ (.tail _ (.tail _ (.tail _ (.tail _ (.tail _ (.tail _ (.tail _ (.tail _ (.tail _ (.tail _ (.tail _ (.head _))))))))))))), List.forall_mem_cons.mpr ⟨N1 _ (.tail _ (.tail _ (.tail _ (.tail _ (.tail _ (.tail _ (.tail _ (.tail _ (.tail _ (.tail _ (.tail _ (.tail _ (.tail _ nq))))))))))))), List.forall_mem_cons.mpr ⟨N1 _ (.tail _ (.tail _ (.tail _ (.tail _ (.tail _ (.tail _ (.tail _ (.tail _ (.tail _ (.tail _ (.tail _ (.tail _ (.tail _ nlC))))))))))))), List.forall_mem_cons.mpr ⟨N1 _ (.tail _ (.tail _ (.tail _ (.tail _ (.tail _ (.tail _ (.tail _ (.tail _ (.tail _ (.tail _ (.tail _ (.tail _ (.tail _ nlD))))))))))))), List.forall_mem_cons.mpr ⟨N1 _ (.tail _ (.tail _ (.tail _ (.tail _ (.tail _ (.tail _ (.tail _ (.tail _ (.tail _ (.tail _ (.tail _ (.tail _ (.tail _ nR))))))))))))), List.forall_mem_cons.mpr ⟨N1 _ (.tail _ (.tail _ (.tail _ (.tail _ (.tail _ (.tail _ (.tail _ (.tail _ (.tail _ (.tail _ (.tail _ (.tail _ (.tail _ nN))))))))))))), List.forall_mem_cons.mpr ⟨N1 _ (.tail _ (.tail _ (.tail _ (.tail _ (.tail _ (.tail _ (.tail _ (.tail _ (.tail _ (.tail _ (.tail _ (.tail _ (.tail _ nTl))))))))))))), List.forall_mem_cons.mpr ⟨N1 _ (.tail _ (.tail _ (.tail _ (.tail _ (.tail _ (.tail _ (.tail _ (.tail _ (.tail _ (.tail _ (.tail _ (.tail _ (.tail _ nCd))))))))))))), fun p hp => N1 p (.tail _ (.tail _ (.tail _ (.tail _ (.tail _ (.tail _ (.tail _ (.tail _ (.tail _ (.tail _ (.tail _ (.tail _ (.tail _ hp)))))))))))))⟩⟩⟩⟩⟩⟩⟩⟩⟩⟩⟩⟩⟩⟩⟩⟩⟩⟩⟩⟩
  clear N1 F1
  have o5 : OffH (L + 1 + 1 + 1 + 1 + 1) [q, lC, lD, L + 1, L + 1 + 1, L + 1 + 1 + 1, L + 1 + 1 + 1 + 1] := .mk (List.forall_mem_cons.mpr ⟨hn5 _ nq, List.forall_mem_cons.mpr ⟨hn5 _ nlC, List.forall_mem_cons.mpr ⟨hn5 _ nlD, List.forall_mem_cons.mpr ⟨hn5 _ nR, List.forall_mem_cons.mpr ⟨hn5 _ nN, List.forall_mem_cons.mpr ⟨hn5 _ nTl, List.forall_mem_cons.mpr ⟨hn5 _ nCd, List.forall_mem_nil _⟩⟩⟩⟩⟩⟩⟩)
  have o6 : OffH (L + 1 + 1 + 1 + 1 + 1 + 1) [q, lC, lD, L + 1, L + 1 + 1, L + 1 + 1 + 1, L + 1 + 1 + 1 + 1] := .mk (List.forall_mem_cons.mpr ⟨hn6 _ nq, List.forall_mem_cons.mpr ⟨hn6 _ nlC, List.forall_mem_cons.mpr ⟨hn6 _ nlD, List.forall_mem_cons.mpr ⟨hn6 _ nR, List.forall_mem_cons.mpr ⟨hn6 _ nN, List.forall_mem_cons.mpr ⟨hn6 _ nTl, List.forall_mem_cons.mpr ⟨hn6 _ nCd, List.forall_mem_nil _⟩⟩⟩⟩⟩⟩⟩)
  have o7 : OffH (L + 1 + 1 + 1 + 1 + 1 + 1 + 1) [q, lC, lD, L + 1, L + 1 + 1, L + 1 + 1 + 1, L + 1 + 1 + 1 + 1] := .mk (List.forall_mem_cons.mpr ⟨hn7 _ nq, List.forall_mem_cons.mpr ⟨hn7 _ nlC, List.forall_mem_cons.mpr ⟨hn7 _ nlD, List.forall_mem_cons.mpr ⟨hn7 _ nR, List.forall_mem_cons.mpr ⟨hn7 _ nN, List.forall_mem_cons.mpr ⟨hn7 _ nTl, List.forall_mem_cons.mpr ⟨hn7 _ nCd, List.forall_mem_nil _⟩⟩⟩⟩⟩⟩⟩)
  clear nq nlC nlD nR nN nTl nCd
  (repeat' (first | ((with_reducible rename NoOwn => hNo9); clear hNo9) | (k_unfold; (try dsimp only)) | ((with_reducible refine Own.mk ?_); (first | ((k_here; (with_reducible show wpAny _ _ (compareOp _ (Value.int _ _) (Value.int 0 _)) _ _ _); (refine gt_int_yes ?e ?_); (case e => omega))) | ((k_here; (with_reducible show wpAny _ _ (pyIter (Value.ref _)) (fun it s₂ => TurnsAt _ _ _ _ _ _ _ _ _ it s₂) _ _); (with_reducible rename Fr _ _ _ _ => lF'); (with_reducible rename News _ _ _ _ => lN'); (with_unfolding_all refine' iter_listTurns (by rfl) lF' lN' ?m ?c ?d ?_); (case m => k_mem); (case c => rfl); (case d => rfl); clear lF'; intro i' l1; (k_lt l1))) | (((with_reducible show wpAny _ _ (subscriptTail _ _ (Value.ref _) (Value.int _ _)) _ _ _); k_dflt (refine' item_lit ?k1 ?k2 ?k3 ?_ ?k6; (case k1 => exact News.isList (by k_asm) (by k_mem)); (case k2 => with_reducible assumption); (case k3 => first | with_reducible assumption | exact nth_push (by with_reducible assumption)); (case k6 => with_unfolding_all rfl); k_whole))) | ((k_here; (with_reducible show wpAny _ _ (compareOp _ (Value.int (0 + _) _) (Value.int 0 _)) _ _ _); (refine gt_int_yes ?e ?_); (case e => omega))) | ((k_here; (with_reducible show wpAny _ _ (compareOp _ (Value.int (0 + _) _) (Value.int 0 _)) _ _ _); (refine eq_int_no ?e ?_); (case e => omega))) | ((with_reducible show wpAny _ _ (compareOp CmpOp.IsNot (Value.bool _) (Value.bool _)) _ _ _); (k_here; (with_reducible refine isnot_same ?e ?_); (case e => with_reducible assumption))) | ((k_here; (with_reducible rename NextMark => hN9); (with_reducible show wpAny _ _ (compareOp CmpOp.NotEq (Value.ref _) (Value.ref _)) _ _ _); k_dflt (refine' ne_pair_no ?k1 ?k2 ?e1 ?e2 ?k7 ?_; (case k1 => exact News.isList (by k_asm) (by k_mem)); (case k2 => exact News.isList (by k_asm) (by k_mem)); (case e1 => with_reducible assumption); (case e2 => with_reducible assumption); (case k7 => ktr_units); k_whole); clear hN9)) | ((with_reducible show wpAny _ _ (compareOp CmpOp.Eq (Value.bytes _ _) (Value.bytes _ _)) _ _ _); (k_here; (refine eq_bytes_no (by assumption) ?_))) | ((k_here; (with_reducible show wpAny _ _ (subscriptTail _ (PySem.Expr.Slice _ _ none _) (Value.bytes _ _) (Value.ref _)) _ _ _); (with_reducible rename ToldF _ _ _ => hT9); (with_reducible rename Fr _ _ _ _ => F'); (with_reducible rename News _ _ _ _ => N'); (refine told_slice (s := ⟨_, _, _, _, _⟩) hT9 F' N' ?_); intro _ _ _ _ _ hP')) | ((with_reducible show wpAny _ _ (compareOp CmpOp.NotEq (Value.bytes _ _) (Value.bytes _ _)) _ _ _); (k_here; (refine ne_bytes_no ?e ?_); (case e => exact word_eq (by omega) (by omega)))) | ((with_reducible show wpAny _ _ (binaryOp _ (Value.bytes _ _) (Value.bytes _ _)) _ _ _); (k_here; (with_reducible rename ToldF _ _ _ => hT9); (refine word_add hT9 ?_); intro t' k')) | ((k_here; (with_reducible show wpAny _ _ (call (Value.builtin _) [Value.ref _, _]) _ _ _); k_dflt (refine' append_K ?k1 ?k2 ?k3 ?_ ?z; (case k1 => k_asm); (case k2 => k_asm); (case k3 => k_upd); (case z => exact Nat.le_of_ble_eq_true rfl); k_whole); intro h' F' N'; (try k_sweep))) | ((k_here; (with_reducible show wpAny _ _ (subscriptTail (PySem.Expr.Subscript _ _ _) _ (Value.ref _) (Value.int _ _)) _ _ _); k_dflt (refine' tup_lit ?k1 ?k2 ?k3 ?_ ?k6; (case k1 => exact News.isTup (by k_asm) (by k_mem)); (case k2 => exact rfl); (case k3 => exact rfl); (case k6 => with_unfolding_all rfl); k_whole))) | (((with_reducible show wpAny _ _ (subscriptTail _ _ (Value.ref _) (Value.int _ _)) _ _ _); k_dflt (refine' tup_lit ?k1 ?k2 ?k3 ?_ ?k6; (case k1 => exact News.isTup (by k_asm) (by k_mem)); (case k2 => exact rfl); (case k3 => exact rfl); (case k6 => with_unfolding_all rfl); k_whole))) | ((with_reducible show wpAny _ _ (compareOp CmpOp.IsNot (Value.bool _) (Value.bool _)) _ _ _); (k_here; (with_reducible refine isnot_same ?e ?_); (case e => first | exact eq_yes | exact eq_no (by with_reducible assumption) (by with_reducible assumption)))) | ((k_here; (with_reducible show wpAny _ _ (compareOp CmpOp.NotEq (Value.ref _) (Value.ref _)) _ _ _); k_dflt (refine' norm_ne_no ?k1 ?k2 ?k3 ?k4 ?k5 ?k6 ?e1 ?e2 ?k7 ?_; (case k1 => exact News.isTup (by k_asm) (by k_mem)); (case k4 => exact News.isTup (by k_asm) (by k_mem)); (case k2 => exact News.isTup (by k_asm) (by k_mem)); (case k5 => exact News.isTup (by k_asm) (by k_mem)); (case k3 => with_reducible assumption); (case k6 => with_reducible assumption); (case e1 => with_reducible assumption); (case e2 => with_reducible assumption); (case k7 => ktr_units); k_whole))) | (((with_reducible show wpAny _ _ (subscriptTail _ _ (Value.ref _) (Value.int _ _)) _ _ _); k_dflt (refine' item_lit ?k1 ?k2 ?k3 ?_ ?k6; (case k1 => exact News.isList (by k_asm) (by k_mem)); (case k2 => exact rfl); (case k3 => exact rfl); (case k6 => with_unfolding_all rfl); k_whole))) | ((k_here; (with_reducible show wpAny _ _ (subscriptTail _ _ (Value.ref _) (Value.int _ _)) _ _ _); k_dflt (refine' item_lit ?k1 ?k2 ?k3 ?_ ?k6; (case k1 => exact News.isList (by k_asm) (by k_mem)); (case k2 => exact rfl); (case k3 => exact rfl); (case k6 => with_unfolding_all rfl); k_whole))) | ((k_here; (with_reducible show wpAny _ _ (subscriptTail _ _ (Value.ref _) (Value.int _ _)) _ _ _); k_dflt (refine' item_anyT ?k1 ?k2 ?k3 ?k4 ?k5 ?_ ?k6; (case k1 => exact News.isTup (by k_asm) (by k_mem)); (case k2 => with_reducible assumption); (case k3 => omega); (case k4 => omega); (case k5 => omega); (case k6 => with_unfolding_all rfl); k_whole); intro _)) | ((k_here; (with_reducible show wpAny _ _ (call (Value.builtin "len") [Value.ref _]) _ _ _); k_dflt (refine' len_tupI ?k1 ?k2 ?k3 ?_; (case k1 => exact News.isTup (by k_asm) (by k_mem)); (case k2 => with_reducible assumption); (case k3 => omega); k_whole))) | ((k_here; (with_reducible show wpAny _ _ (call (Value.type _) [Value.ref _]) _ _ _); k_dflt (refine' kde_tupleOf ?k1 ?k2 ?k3 ?k4 ?k5 ?_; (case k1 => k_asm); (case k2 => k_asm); (case k3 => exact News.isList (by k_asm) (by k_mem)); (case k5 => exact rfl); (case k4 => (simp only [List.size_toArray]; (have hq9 := IntsAre.length (by assumption)); omega)); k_whole); intro D' h' F' N' l1; (try k_lt l1); (try k_sweep))) | ((with_reducible show wpAny _ _ (call (Value.ref _) _) _ _ _); (first | ((k_here; (with_reducible show wpAny _ _ (call (Value.ref 171) [Value.int _ _, Value.str _ _, Value.str _ _, Value.str _ _]) _ _ _); (with_reducible rename Parts _ _ _ _ _ _ => hP9); k_dflt (refine' next_ok ?kB ?kF ?kX ?kN ?kT rfl ?kd ?ku ?kXB ?kTB hP9 ?k1 ?k2 ?k3 ?k4 ?_; (case kB => k_asm); (case kF => k_asm); (case kX => assumption); (case kN => k_asm); (case kT => k_asm); (case kd => ktr_room); (case ku => ktr_units); (case kXB => assumption); (case kTB => assumption); (case k1 => omega); (case k2 => with_reducible assumption); (case k3 => with_reducible assumption); (case k4 => with_reducible assumption)); intro t' h' tk' F' N'; (try dsimp only); (try k_sweep))))) | (have hNo9 := NoOwn.mk; walk1))) | ((fail_if_success (first | (first | (with_reducible show wpAny _ _ (exec (Stmt.While _ _ _ _) _) _ _ _) | (with_reducible show wpAny _ _ (pyIter _) (fun it s₂ => LoopAtV _ _ _ _ _ _ _ _ _ it s₂) _ _) | (with_reducible show wpAny _ _ (pyIter _) (fun it s₂ => PairAt3 _ _ _ _ _ _ _ _ _ _ it s₂) _ _)) | ((with_reducible show LCg.CompSrc _ _ _ _ _ _ _ _ _ _ _ _ _ _)) | ((with_reducible show SrcB _ _ _ _ _ _ _ _ _ _ _ _ _ _)) | ((with_reducible show wpAny _ _ (execs (Stmt.Assign [PySem.Expr.Name (Str.ofString "told") _] _ _ :: _) _) _ _ _)) | ((with_reducible show UnrEndW _ _ _ _ _ _)) | ((with_reducible show wpAny _ _ (execs (Stmt.Assign [PySem.Expr.Name (Str.ofString "more") _] _ _ :: _) _) _ _ _)))); (first | walk1 | (dsimp only; walk1) | (leave1; try dsimp only)))))
  (with_reducible rename Fr _ _ _ _ => lF9)
  (with_reducible rename News _ _ _ _ => lN9)
  have N9 := news_2 [true, true, true, true, true, true, true, true, true, true, true, false, true, true, false] 14 11 lN9 rfl rfl
  dsimp only [keepL] at N9
  clear lN9
  refine' tabB_ok rfl rfl K0 lF9 KX T ?m1 ?m2 ?m3 ?m5 ?nT ?nR ?nlT ?nlC ?n1 ?n2 ?n3 ?n4 ?hT hR ?hH ?hi ?hvT ?hvC ?hnH ?hnF ?hFH ?hfs hi0 hb0 hc1 m4 f1 fa fb fc fd fe ff ?m4 hn ?hfi N9 ?nB ?hvB ?np ?b1 ?b2 ?b3 ?b4 hvb0 heq0 ?_
  case m1 => exact rfl
  case m2 => exact rfl
  case m3 => exact rfl
  case m5 => exact rfl
  case m4 => exact rfl
  case hi => exact rfl
  case nT => k_mem
  case nR => k_mem
  case nlT => k_mem
  case nlC => k_mem
  case nB => (repeat' first | exact nB | apply List.Mem.tail)
  case hvB => exact rfl
  case np => (repeat' first | exact np0 | apply List.Mem.tail)
  case b1 => (repeat' first | exact ba0 | apply List.Mem.tail)
  case b2 => (repeat' first | exact bb0 | apply List.Mem.tail)
  case b3 => (repeat' first | exact bc0 | apply List.Mem.tail)
  case b4 => (repeat' first | exact bd0 | apply List.Mem.tail)
  case hvT => exact rfl
  case hvC => exact rfl
  case n1 => k_mem
  case n2 => k_mem
  case n3 => k_mem
  case n4 => k_mem
  case hT => with_reducible assumption
  case hH => with_reducible assumption
  case hnH => (repeat' (first | exact List.forall_mem_nil _ | (refine List.forall_mem_cons.mpr ⟨?_, ?_⟩) | (first | with_reducible assumption | exact LtAll.nes (by with_reducible assumption) (fun _ hp => (by (repeat' first | exact hp | apply List.Mem.tail)))) | k_ne))
  case hnF => (repeat' (first | exact List.forall_mem_nil _ | (refine List.forall_mem_cons.mpr ⟨?_, ?_⟩) | (first | with_reducible assumption | exact LtAll.nes (by with_reducible assumption) (fun _ hp => (by (repeat' first | exact hp | apply List.Mem.tail)))) | k_ne))
  case hFH => exact LtAll.get (by with_reducible assumption) (by k_mem)
  case hfs => exact Nat.le_of_ble_eq_true rfl
  case hfi => exact rfl
  intro h' tk' oH' vH' m'0 tf0 hH' hm'0 F1 N1
  clear N9 lF9
  have q0 : ∀ z, [Str.ofString "figures", Str.ofString "table", Str.ofString "more", Str.ofString "due", Str.ofString "told", Str.ofString "word"].contains z = false → m'0 z = m z := fun z hz => (hm'0 z (ne_of_S hz (by k_mem)) (ne_of_S hz (by k_mem))).trans (by rw [if_neg (ne_of_S hz (by k_mem))]; exact (congrFun eq0 z).trans (if_neg (ne_of_S hz (by k_mem))))
  obtain ⟨F2, eq1⟩ := fr_pickS (m := m'0) [(Str.ofString "figures", _), (Str.ofString "cards", _), (Str.ofString "begun", _), (Str.ofString "draws", _), (Str.ofString "turn", _), (Str.ofString "word", _)] (List.forall_mem_cons.mpr ⟨(hm'0 _ (by dsimp only; decide +kernel) (by dsimp only; decide +kernel)).trans rfl, List.forall_mem_cons.mpr ⟨(hm'0 _ (by dsimp only; decide +kernel) (by dsimp only; decide +kernel)).trans rfl, List.forall_mem_cons.mpr ⟨(hm'0 _ (by dsimp only; decide +kernel) (by dsimp only; decide +kernel)).trans rfl, List.forall_mem_cons.mpr ⟨(hm'0 _ (by dsimp only; decide +kernel) (by dsimp only; decide +kernel)).trans rfl, List.forall_mem_cons.mpr ⟨(hm'0 _ (by dsimp only; decide +kernel) (by dsimp only; decide +kernel)).trans rfl, List.forall_mem_cons.mpr ⟨(hm'0 _ (by dsimp only; decide +kernel) (by dsimp only; decide +kernel)).trans rfl, List.forall_mem_nil _⟩⟩⟩⟩⟩⟩) F1
  simp only [pickF] at F2
  clear F1 hm'0
  have hEnd := EndU.mk
  (repeat' (first | ((with_reducible rename NoOwn => hNo9); clear hNo9) | (k_unfold; (try dsimp only)) | ((with_reducible refine Own.mk ?_); (first | ((k_here; (with_reducible show wpAny _ _ (compareOp _ (Value.int _ _) (Value.int 0 _)) _ _ _); (refine gt_int_yes ?e ?_); (case e => omega))) | ((k_here; (with_reducible show wpAny _ _ (pyIter (Value.ref _)) (fun it s₂ => TurnsAt _ _ _ _ _ _ _ _ _ it s₂) _ _); (with_reducible rename Fr _ _ _ _ => lF'); (with_reducible rename News _ _ _ _ => lN'); (with_unfolding_all refine' iter_listTurns (by rfl) lF' lN' ?m ?c ?d ?_); (case m => k_mem); (case c => rfl); (case d => rfl); clear lF'; intro i' l1; (k_lt l1))) | (((with_reducible show wpAny _ _ (subscriptTail _ _ (Value.ref _) (Value.int _ _)) _ _ _); k_dflt (refine' item_lit ?k1 ?k2 ?k3 ?_ ?k6; (case k1 => exact News.isList (by k_asm) (by k_mem)); (case k2 => with_reducible assumption); (case k3 => first | with_reducible assumption | exact nth_push (by with_reducible assumption)); (case k6 => with_unfolding_all rfl); k_whole))) | ((k_here; (with_reducible show wpAny _ _ (compareOp _ (Value.int (0 + _) _) (Value.int 0 _)) _ _ _); (refine gt_int_yes ?e ?_); (case e => omega))) | ((k_here; (with_reducible show wpAny _ _ (compareOp _ (Value.int (0 + _) _) (Value.int 0 _)) _ _ _); (refine eq_int_no ?e ?_); (case e => omega))) | ((with_reducible show wpAny _ _ (compareOp CmpOp.IsNot (Value.bool _) (Value.bool _)) _ _ _); (k_here; (with_reducible refine isnot_same ?e ?_); (case e => with_reducible assumption))) | ((k_here; (with_reducible rename NextMark => hN9); (with_reducible show wpAny _ _ (compareOp CmpOp.NotEq (Value.ref _) (Value.ref _)) _ _ _); k_dflt (refine' ne_pair_no ?k1 ?k2 ?e1 ?e2 ?k7 ?_; (case k1 => exact News.isList (by k_asm) (by k_mem)); (case k2 => exact News.isList (by k_asm) (by k_mem)); (case e1 => with_reducible assumption); (case e2 => with_reducible assumption); (case k7 => ktr_units); k_whole); clear hN9)) | ((with_reducible show wpAny _ _ (compareOp CmpOp.Eq (Value.bytes _ _) (Value.bytes _ _)) _ _ _); (k_here; (refine eq_bytes_no (by assumption) ?_))) | ((k_here; (with_reducible show wpAny _ _ (subscriptTail _ (PySem.Expr.Slice _ _ none _) (Value.bytes _ _) (Value.ref _)) _ _ _); (with_reducible rename ToldF _ _ _ => hT9); (with_reducible rename Fr _ _ _ _ => F'); (with_reducible rename News _ _ _ _ => N'); (refine told_slice (s := ⟨_, _, _, _, _⟩) hT9 F' N' ?_); intro _ _ _ _ _ hP')) | ((with_reducible show wpAny _ _ (compareOp CmpOp.NotEq (Value.bytes _ _) (Value.bytes _ _)) _ _ _); (k_here; (refine ne_bytes_no ?e ?_); (case e => exact word_eq (by omega) (by omega)))) | ((with_reducible show wpAny _ _ (binaryOp _ (Value.bytes _ _) (Value.bytes _ _)) _ _ _); (k_here; (with_reducible rename ToldF _ _ _ => hT9); (refine word_add hT9 ?_); intro t' k')) | ((k_here; (with_reducible show wpAny _ _ (call (Value.builtin _) [Value.ref _, _]) _ _ _); k_dflt (refine' append_K ?k1 ?k2 ?k3 ?_ ?z; (case k1 => k_asm); (case k2 => k_asm); (case k3 => k_upd); (case z => exact Nat.le_of_ble_eq_true rfl); k_whole); intro h' F' N'; (try k_sweep))) | ((k_here; (with_reducible show wpAny _ _ (subscriptTail (PySem.Expr.Subscript _ _ _) _ (Value.ref _) (Value.int _ _)) _ _ _); k_dflt (refine' tup_lit ?k1 ?k2 ?k3 ?_ ?k6; (case k1 => exact News.isTup (by k_asm) (by k_mem)); (case k2 => exact rfl); (case k3 => exact rfl); (case k6 => with_unfolding_all rfl); k_whole))) | (((with_reducible show wpAny _ _ (subscriptTail _ _ (Value.ref _) (Value.int _ _)) _ _ _); k_dflt (refine' tup_lit ?k1 ?k2 ?k3 ?_ ?k6; (case k1 => exact News.isTup (by k_asm) (by k_mem)); (case k2 => exact rfl); (case k3 => exact rfl); (case k6 => with_unfolding_all rfl); k_whole))) | ((with_reducible show wpAny _ _ (compareOp CmpOp.IsNot (Value.bool _) (Value.bool _)) _ _ _); (k_here; (with_reducible refine isnot_same ?e ?_); (case e => first | exact eq_yes | exact eq_no (by with_reducible assumption) (by with_reducible assumption)))) | ((k_here; (with_reducible show wpAny _ _ (compareOp CmpOp.NotEq (Value.ref _) (Value.ref _)) _ _ _); k_dflt (refine' norm_ne_no ?k1 ?k2 ?k3 ?k4 ?k5 ?k6 ?e1 ?e2 ?k7 ?_; (case k1 => exact News.isTup (by k_asm) (by k_mem)); (case k4 => exact News.isTup (by k_asm) (by k_mem)); (case k2 => exact News.isTup (by k_asm) (by k_mem)); (case k5 => exact News.isTup (by k_asm) (by k_mem)); (case k3 => with_reducible assumption); (case k6 => with_reducible assumption); (case e1 => with_reducible assumption); (case e2 => with_reducible assumption); (case k7 => ktr_units); k_whole))) | (((with_reducible show wpAny _ _ (subscriptTail _ _ (Value.ref _) (Value.int _ _)) _ _ _); k_dflt (refine' item_lit ?k1 ?k2 ?k3 ?_ ?k6; (case k1 => exact News.isList (by k_asm) (by k_mem)); (case k2 => exact rfl); (case k3 => exact rfl); (case k6 => with_unfolding_all rfl); k_whole))) | ((k_here; (with_reducible show wpAny _ _ (subscriptTail _ _ (Value.ref _) (Value.int _ _)) _ _ _); k_dflt (refine' item_lit ?k1 ?k2 ?k3 ?_ ?k6; (case k1 => exact News.isList (by k_asm) (by k_mem)); (case k2 => exact rfl); (case k3 => exact rfl); (case k6 => with_unfolding_all rfl); k_whole))) | ((k_here; (with_reducible show wpAny _ _ (subscriptTail _ _ (Value.ref _) (Value.int _ _)) _ _ _); k_dflt (refine' item_anyT ?k1 ?k2 ?k3 ?k4 ?k5 ?_ ?k6; (case k1 => exact News.isTup (by k_asm) (by k_mem)); (case k2 => with_reducible assumption); (case k3 => omega); (case k4 => omega); (case k5 => omega); (case k6 => with_unfolding_all rfl); k_whole); intro _)) | ((k_here; (with_reducible show wpAny _ _ (call (Value.builtin "len") [Value.ref _]) _ _ _); k_dflt (refine' len_tupI ?k1 ?k2 ?k3 ?_; (case k1 => exact News.isTup (by k_asm) (by k_mem)); (case k2 => with_reducible assumption); (case k3 => omega); k_whole))) | ((k_here; (with_reducible show wpAny _ _ (call (Value.type _) [Value.ref _]) _ _ _); k_dflt (refine' kde_tupleOf ?k1 ?k2 ?k3 ?k4 ?k5 ?_; (case k1 => k_asm); (case k2 => k_asm); (case k3 => exact News.isList (by k_asm) (by k_mem)); (case k5 => exact rfl); (case k4 => (simp only [List.size_toArray]; (have hq9 := IntsAre.length (by assumption)); omega)); k_whole); intro D' h' F' N' l1; (try k_lt l1); (try k_sweep))) | ((with_reducible show wpAny _ _ (call (Value.ref _) _) _ _ _); (first | ((k_here; (with_reducible show wpAny _ _ (call (Value.ref 171) [Value.int _ _, Value.str _ _, Value.str _ _, Value.str _ _]) _ _ _); (with_reducible rename Parts _ _ _ _ _ _ => hP9); k_dflt (refine' next_ok ?kB ?kF ?kX ?kN ?kT rfl ?kd ?ku ?kXB ?kTB hP9 ?k1 ?k2 ?k3 ?k4 ?_; (case kB => k_asm); (case kF => k_asm); (case kX => assumption); (case kN => k_asm); (case kT => k_asm); (case kd => ktr_room); (case ku => ktr_units); (case kXB => assumption); (case kTB => assumption); (case k1 => omega); (case k2 => with_reducible assumption); (case k3 => with_reducible assumption); (case k4 => with_reducible assumption)); intro t' h' tk' F' N'; (try dsimp only); (try k_sweep))))) | (have hNo9 := NoOwn.mk; walk1))) | ((fail_if_success (first | (first | (with_reducible show wpAny _ _ (exec (Stmt.While _ _ _ _) _) _ _ _) | (with_reducible show wpAny _ _ (pyIter _) (fun it s₂ => LoopAtV _ _ _ _ _ _ _ _ _ it s₂) _ _) | (with_reducible show wpAny _ _ (pyIter _) (fun it s₂ => PairAt3 _ _ _ _ _ _ _ _ _ _ it s₂) _ _)) | ((with_reducible show LCg.CompSrc _ _ _ _ _ _ _ _ _ _ _ _ _ _)) | ((with_reducible show SrcB _ _ _ _ _ _ _ _ _ _ _ _ _ _)) | ((with_reducible show wpAny _ _ (execs (Stmt.Assign [PySem.Expr.Name (Str.ofString "told") _] _ _ :: _) _) _ _ _)) | ((with_reducible show UnrEndW _ _ _ _ _ _)) | ((with_reducible show wpAny _ _ (execs (Stmt.Assign [PySem.Expr.Name (Str.ofString "more") _] _ _ :: _) _) _ _ _)))); (first | walk1 | (dsimp only; walk1) | (leave1; try dsimp only)))))
  (((with_reducible rename News _ _ _ _ => nE9); (with_reducible rename Fr _ _ _ _ => fE9); (first | ((rename EndT => eE9); (clear eE9); (refine unr_end1 [true, true, true, true, false] fE9 nE9 ?x1u3 ?x2u3 ⟨?x3u3, ?x4u3⟩)) | ((rename EndU => eE9); (clear eE9); (refine unr_end1 [true, true, false] fE9 nE9 ?x1u3 ?x2u3 ⟨?x3u3, ?x4u3⟩))); (case x1u3 => k_mem); (case x2u3 => (dsimp only [keepL]; (repeat' (first | exact List.forall_mem_nil _ | (refine List.forall_mem_cons.mpr ⟨?_, ?_⟩) | (first | with_reducible assumption | exact LtAll.nes (by with_reducible assumption) (fun _ hp => (by (repeat' first | exact hp | apply List.Mem.tail)))) | k_ne)))); (case x3u3 => (dsimp only [keepL]; k_subL)); (case' x4u3 => dsimp only [keepL])))
  (repeat' (first | ((with_reducible rename NoOwn => hNo9); clear hNo9) | (k_unfold; (try dsimp only)) | ((with_reducible refine Own.mk ?_); (first | ((k_here; (with_reducible show wpAny _ _ (compareOp _ (Value.int _ _) (Value.int 0 _)) _ _ _); (refine gt_int_yes ?e ?_); (case e => omega))) | ((k_here; (with_reducible show wpAny _ _ (pyIter (Value.ref _)) (fun it s₂ => TurnsAt _ _ _ _ _ _ _ _ _ it s₂) _ _); (with_reducible rename Fr _ _ _ _ => lF'); (with_reducible rename News _ _ _ _ => lN'); (with_unfolding_all refine' iter_listTurns (by rfl) lF' lN' ?m ?c ?d ?_); (case m => k_mem); (case c => rfl); (case d => rfl); clear lF'; intro i' l1; (k_lt l1))) | (((with_reducible show wpAny _ _ (subscriptTail _ _ (Value.ref _) (Value.int _ _)) _ _ _); k_dflt (refine' item_lit ?k1 ?k2 ?k3 ?_ ?k6; (case k1 => exact News.isList (by k_asm) (by k_mem)); (case k2 => with_reducible assumption); (case k3 => first | with_reducible assumption | exact nth_push (by with_reducible assumption)); (case k6 => with_unfolding_all rfl); k_whole))) | ((k_here; (with_reducible show wpAny _ _ (compareOp _ (Value.int (0 + _) _) (Value.int 0 _)) _ _ _); (refine gt_int_yes ?e ?_); (case e => omega))) | ((k_here; (with_reducible show wpAny _ _ (compareOp _ (Value.int (0 + _) _) (Value.int 0 _)) _ _ _); (refine eq_int_no ?e ?_); (case e => omega))) | ((with_reducible show wpAny _ _ (compareOp CmpOp.IsNot (Value.bool _) (Value.bool _)) _ _ _); (k_here; (with_reducible refine isnot_same ?e ?_); (case e => with_reducible assumption))) | ((k_here; (with_reducible rename NextMark => hN9); (with_reducible show wpAny _ _ (compareOp CmpOp.NotEq (Value.ref _) (Value.ref _)) _ _ _); k_dflt (refine' ne_pair_no ?k1 ?k2 ?e1 ?e2 ?k7 ?_; (case k1 => exact News.isList (by k_asm) (by k_mem)); (case k2 => exact News.isList (by k_asm) (by k_mem)); (case e1 => with_reducible assumption); (case e2 => with_reducible assumption); (case k7 => ktr_units); k_whole); clear hN9)) | ((with_reducible show wpAny _ _ (compareOp CmpOp.Eq (Value.bytes _ _) (Value.bytes _ _)) _ _ _); (k_here; (refine eq_bytes_no (by assumption) ?_))) | ((k_here; (with_reducible show wpAny _ _ (subscriptTail _ (PySem.Expr.Slice _ _ none _) (Value.bytes _ _) (Value.ref _)) _ _ _); (with_reducible rename ToldF _ _ _ => hT9); (with_reducible rename Fr _ _ _ _ => F'); (with_reducible rename News _ _ _ _ => N'); (refine told_slice (s := ⟨_, _, _, _, _⟩) hT9 F' N' ?_); intro _ _ _ _ _ hP')) | ((with_reducible show wpAny _ _ (compareOp CmpOp.NotEq (Value.bytes _ _) (Value.bytes _ _)) _ _ _); (k_here; (refine ne_bytes_no ?e ?_); (case e => exact word_eq (by omega) (by omega)))) | ((with_reducible show wpAny _ _ (binaryOp _ (Value.bytes _ _) (Value.bytes _ _)) _ _ _); (k_here; (with_reducible rename ToldF _ _ _ => hT9); (refine word_add hT9 ?_); intro t' k')) | ((k_here; (with_reducible show wpAny _ _ (call (Value.builtin _) [Value.ref _, _]) _ _ _); k_dflt (refine' append_K ?k1 ?k2 ?k3 ?_ ?z; (case k1 => k_asm); (case k2 => k_asm); (case k3 => k_upd); (case z => exact Nat.le_of_ble_eq_true rfl); k_whole); intro h' F' N'; (try k_sweep))) | ((k_here; (with_reducible show wpAny _ _ (subscriptTail (PySem.Expr.Subscript _ _ _) _ (Value.ref _) (Value.int _ _)) _ _ _); k_dflt (refine' tup_lit ?k1 ?k2 ?k3 ?_ ?k6; (case k1 => exact News.isTup (by k_asm) (by k_mem)); (case k2 => exact rfl); (case k3 => exact rfl); (case k6 => with_unfolding_all rfl); k_whole))) | (((with_reducible show wpAny _ _ (subscriptTail _ _ (Value.ref _) (Value.int _ _)) _ _ _); k_dflt (refine' tup_lit ?k1 ?k2 ?k3 ?_ ?k6; (case k1 => exact News.isTup (by k_asm) (by k_mem)); (case k2 => exact rfl); (case k3 => exact rfl); (case k6 => with_unfolding_all rfl); k_whole))) | ((with_reducible show wpAny _ _ (compareOp CmpOp.IsNot (Value.bool _) (Value.bool _)) _ _ _); (k_here; (with_reducible refine isnot_same ?e ?_); (case e => first | exact eq_yes | exact eq_no (by with_reducible assumption) (by with_reducible assumption)))) | ((k_here; (with_reducible show wpAny _ _ (compareOp CmpOp.NotEq (Value.ref _) (Value.ref _)) _ _ _); k_dflt (refine' norm_ne_no ?k1 ?k2 ?k3 ?k4 ?k5 ?k6 ?e1 ?e2 ?k7 ?_; (case k1 => exact News.isTup (by k_asm) (by k_mem)); (case k4 => exact News.isTup (by k_asm) (by k_mem)); (case k2 => exact News.isTup (by k_asm) (by k_mem)); (case k5 => exact News.isTup (by k_asm) (by k_mem)); (case k3 => with_reducible assumption); (case k6 => with_reducible assumption); (case e1 => with_reducible assumption); (case e2 => with_reducible assumption); (case k7 => ktr_units); k_whole))) | (((with_reducible show wpAny _ _ (subscriptTail _ _ (Value.ref _) (Value.int _ _)) _ _ _); k_dflt (refine' item_lit ?k1 ?k2 ?k3 ?_ ?k6; (case k1 => exact News.isList (by k_asm) (by k_mem)); (case k2 => exact rfl); (case k3 => exact rfl); (case k6 => with_unfolding_all rfl); k_whole))) | ((k_here; (with_reducible show wpAny _ _ (subscriptTail _ _ (Value.ref _) (Value.int _ _)) _ _ _); k_dflt (refine' item_lit ?k1 ?k2 ?k3 ?_ ?k6; (case k1 => exact News.isList (by k_asm) (by k_mem)); (case k2 => exact rfl); (case k3 => exact rfl); (case k6 => with_unfolding_all rfl); k_whole))) | ((k_here; (with_reducible show wpAny _ _ (subscriptTail _ _ (Value.ref _) (Value.int _ _)) _ _ _); k_dflt (refine' item_anyT ?k1 ?k2 ?k3 ?k4 ?k5 ?_ ?k6; (case k1 => exact News.isTup (by k_asm) (by k_mem)); (case k2 => with_reducible assumption); (case k3 => omega); (case k4 => omega); (case k5 => omega); (case k6 => with_unfolding_all rfl); k_whole); intro _)) | ((k_here; (with_reducible show wpAny _ _ (call (Value.builtin "len") [Value.ref _]) _ _ _); k_dflt (refine' len_tupI ?k1 ?k2 ?k3 ?_; (case k1 => exact News.isTup (by k_asm) (by k_mem)); (case k2 => with_reducible assumption); (case k3 => omega); k_whole))) | ((k_here; (with_reducible show wpAny _ _ (call (Value.type _) [Value.ref _]) _ _ _); k_dflt (refine' kde_tupleOf ?k1 ?k2 ?k3 ?k4 ?k5 ?_; (case k1 => k_asm); (case k2 => k_asm); (case k3 => exact News.isList (by k_asm) (by k_mem)); (case k5 => exact rfl); (case k4 => (simp only [List.size_toArray]; (have hq9 := IntsAre.length (by assumption)); omega)); k_whole); intro D' h' F' N' l1; (try k_lt l1); (try k_sweep))) | ((with_reducible show wpAny _ _ (call (Value.ref _) _) _ _ _); (first | ((k_here; (with_reducible show wpAny _ _ (call (Value.ref 171) [Value.int _ _, Value.str _ _, Value.str _ _, Value.str _ _]) _ _ _); (with_reducible rename Parts _ _ _ _ _ _ => hP9); k_dflt (refine' next_ok ?kB ?kF ?kX ?kN ?kT rfl ?kd ?ku ?kXB ?kTB hP9 ?k1 ?k2 ?k3 ?k4 ?_; (case kB => k_asm); (case kF => k_asm); (case kX => assumption); (case kN => k_asm); (case kT => k_asm); (case kd => ktr_room); (case ku => ktr_units); (case kXB => assumption); (case kTB => assumption); (case k1 => omega); (case k2 => with_reducible assumption); (case k3 => with_reducible assumption); (case k4 => with_reducible assumption)); intro t' h' tk' F' N'; (try dsimp only); (try k_sweep))))) | (have hNo9 := NoOwn.mk; walk1))) | ((fail_if_success (first | (first | (with_reducible show wpAny _ _ (exec (Stmt.While _ _ _ _) _) _ _ _) | (with_reducible show wpAny _ _ (pyIter _) (fun it s₂ => LoopAtV _ _ _ _ _ _ _ _ _ it s₂) _ _) | (with_reducible show wpAny _ _ (pyIter _) (fun it s₂ => PairAt3 _ _ _ _ _ _ _ _ _ _ it s₂) _ _)) | ((with_reducible show LCg.CompSrc _ _ _ _ _ _ _ _ _ _ _ _ _ _)) | ((with_reducible show SrcB _ _ _ _ _ _ _ _ _ _ _ _ _ _)) | ((with_reducible show wpAny _ _ (execs (Stmt.Assign [PySem.Expr.Name (Str.ofString "told") _] _ _ :: _) _) _ _ _)) | ((with_reducible show UnrEndW _ _ _ _ _ _)) | ((with_reducible show wpAny _ _ (execs (Stmt.Assign [PySem.Expr.Name (Str.ofString "more") _] _ _ :: _) _) _ _ _)))); (first | walk1 | (dsimp only; walk1) | (leave1; try dsimp only)))))
  (with_reducible rename Fr _ _ _ _ => lF9)
  (with_reducible rename News _ _ _ _ => lN9)
  have N9 := news_2 [true, false, false] 1 2 lN9 rfl rfl
  dsimp only [keepL] at N9
  clear lN9
  refine' tabB_ok rfl rfl K0 lF9 KX T ?m1 ?m2 ?m3 ?m5 ?nT ?nR ?nlT ?nlC ?n1 ?n2 ?n3 ?n4 ?hT hR ?hH ?hi ?hvT ?hvC ?hnH ?hnF ?hFH ?hfs hi1 hb1 hc2 m4 f1' fa' fb' fc' fd' fe' ff' ?m4 hn ?hfi N9 ?nB ?hvB ?np ?b1 ?b2 ?b3 ?b4 hvb1 heq1 ?_
  case m1 => exact rfl
  case m2 => exact rfl
  case m3 => exact rfl
  case m5 => exact rfl
  case m4 => exact rfl
  case hi => exact rfl
  case nT => k_mem
  case nR => k_mem
  case nlT => k_mem
  case nlC => k_mem
  case nB => (repeat' first | exact nB | apply List.Mem.tail)
  case hvB => exact rfl
  case np => (repeat' first | exact np1 | apply List.Mem.tail)
  case b1 => (repeat' first | exact ba1 | apply List.Mem.tail)
  case b2 => (repeat' first | exact bb1 | apply List.Mem.tail)
  case b3 => (repeat' first | exact bc1 | apply List.Mem.tail)
  case b4 => (repeat' first | exact bd1 | apply List.Mem.tail)
  case hvT => exact rfl
  case hvC => exact rfl
  case n1 => k_mem
  case n2 => k_mem
  case n3 => k_mem
  case n4 => k_mem
  case hT => with_reducible assumption
  case hH => with_reducible assumption
  case hnH => (repeat' (first | exact List.forall_mem_nil _ | (refine List.forall_mem_cons.mpr ⟨?_, ?_⟩) | (first | with_reducible assumption | exact LtAll.nes (by with_reducible assumption) (fun _ hp => (by (repeat' first | exact hp | apply List.Mem.tail)))) | k_ne))
  case hnF => (repeat' (first | exact List.forall_mem_nil _ | (refine List.forall_mem_cons.mpr ⟨?_, ?_⟩) | (first | with_reducible assumption | exact LtAll.nes (by with_reducible assumption) (fun _ hp => (by (repeat' first | exact hp | apply List.Mem.tail)))) | k_ne))
  case hFH => exact LtAll.get (by with_reducible assumption) (by k_mem)
  case hfs => exact Nat.le_of_ble_eq_true rfl
  case hfi => exact rfl
  intro h' tk' oH' vH' m'1 tf1 hH' hm'1 F1 N1
  clear N9 lF9
  have q1 : ∀ z, [Str.ofString "figures", Str.ofString "table", Str.ofString "more", Str.ofString "due", Str.ofString "told", Str.ofString "word"].contains z = false → m'1 z = m z := fun z hz => (hm'1 z (ne_of_S hz (by k_mem)) (ne_of_S hz (by k_mem))).trans (by rw [if_neg (ne_of_S hz (by k_mem))]; exact (congrFun eq1 z).trans (q0 z hz))
  obtain ⟨F2, eq2⟩ := fr_pickS (m := m'1) [(Str.ofString "figures", _), (Str.ofString "cards", _), (Str.ofString "begun", _), (Str.ofString "draws", _), (Str.ofString "turn", _), (Str.ofString "word", _)] (List.forall_mem_cons.mpr ⟨(hm'1 _ (by dsimp only; decide +kernel) (by dsimp only; decide +kernel)).trans rfl, List.forall_mem_cons.mpr ⟨(hm'1 _ (by dsimp only; decide +kernel) (by dsimp only; decide +kernel)).trans rfl, List.forall_mem_cons.mpr ⟨(hm'1 _ (by dsimp only; decide +kernel) (by dsimp only; decide +kernel)).trans rfl, List.forall_mem_cons.mpr ⟨(hm'1 _ (by dsimp only; decide +kernel) (by dsimp only; decide +kernel)).trans rfl, List.forall_mem_cons.mpr ⟨(hm'1 _ (by dsimp only; decide +kernel) (by dsimp only; decide +kernel)).trans rfl, List.forall_mem_cons.mpr ⟨(hm'1 _ (by dsimp only; decide +kernel) (by dsimp only; decide +kernel)).trans rfl, List.forall_mem_nil _⟩⟩⟩⟩⟩⟩) F1
  simp only [pickF] at F2
  clear F1 hm'1
  have hEnd := EndU.mk
  (repeat' (first | ((with_reducible rename NoOwn => hNo9); clear hNo9) | (k_unfold; (try dsimp only)) | ((with_reducible refine Own.mk ?_); (first | ((k_here; (with_reducible show wpAny _ _ (compareOp _ (Value.int _ _) (Value.int 0 _)) _ _ _); (refine gt_int_yes ?e ?_); (case e => omega))) | ((k_here; (with_reducible show wpAny _ _ (pyIter (Value.ref _)) (fun it s₂ => TurnsAt _ _ _ _ _ _ _ _ _ it s₂) _ _); (with_reducible rename Fr _ _ _ _ => lF'); (with_reducible rename News _ _ _ _ => lN'); (with_unfolding_all refine' iter_listTurns (by rfl) lF' lN' ?m ?c ?d ?_); (case m => k_mem); (case c => rfl); (case d => rfl); clear lF'; intro i' l1; (k_lt l1))) | (((with_reducible show wpAny _ _ (subscriptTail _ _ (Value.ref _) (Value.int _ _)) _ _ _); k_dflt (refine' item_lit ?k1 ?k2 ?k3 ?_ ?k6; (case k1 => exact News.isList (by k_asm) (by k_mem)); (case k2 => with_reducible assumption); (case k3 => first | with_reducible assumption | exact nth_push (by with_reducible assumption)); (case k6 => with_unfolding_all rfl); k_whole))) | ((k_here; (with_reducible show wpAny _ _ (compareOp _ (Value.int (0 + _) _) (Value.int 0 _)) _ _ _); (refine gt_int_yes ?e ?_); (case e => omega))) | ((k_here; (with_reducible show wpAny _ _ (compareOp _ (Value.int (0 + _) _) (Value.int 0 _)) _ _ _); (refine eq_int_no ?e ?_); (case e => omega))) | ((with_reducible show wpAny _ _ (compareOp CmpOp.IsNot (Value.bool _) (Value.bool _)) _ _ _); (k_here; (with_reducible refine isnot_same ?e ?_); (case e => with_reducible assumption))) | ((k_here; (with_reducible rename NextMark => hN9); (with_reducible show wpAny _ _ (compareOp CmpOp.NotEq (Value.ref _) (Value.ref _)) _ _ _); k_dflt (refine' ne_pair_no ?k1 ?k2 ?e1 ?e2 ?k7 ?_; (case k1 => exact News.isList (by k_asm) (by k_mem)); (case k2 => exact News.isList (by k_asm) (by k_mem)); (case e1 => with_reducible assumption); (case e2 => with_reducible assumption); (case k7 => ktr_units); k_whole); clear hN9)) | ((with_reducible show wpAny _ _ (compareOp CmpOp.Eq (Value.bytes _ _) (Value.bytes _ _)) _ _ _); (k_here; (refine eq_bytes_no (by assumption) ?_))) | ((k_here; (with_reducible show wpAny _ _ (subscriptTail _ (PySem.Expr.Slice _ _ none _) (Value.bytes _ _) (Value.ref _)) _ _ _); (with_reducible rename ToldF _ _ _ => hT9); (with_reducible rename Fr _ _ _ _ => F'); (with_reducible rename News _ _ _ _ => N'); (refine told_slice (s := ⟨_, _, _, _, _⟩) hT9 F' N' ?_); intro _ _ _ _ _ hP')) | ((with_reducible show wpAny _ _ (compareOp CmpOp.NotEq (Value.bytes _ _) (Value.bytes _ _)) _ _ _); (k_here; (refine ne_bytes_no ?e ?_); (case e => exact word_eq (by omega) (by omega)))) | ((with_reducible show wpAny _ _ (binaryOp _ (Value.bytes _ _) (Value.bytes _ _)) _ _ _); (k_here; (with_reducible rename ToldF _ _ _ => hT9); (refine word_add hT9 ?_); intro t' k')) | ((k_here; (with_reducible show wpAny _ _ (call (Value.builtin _) [Value.ref _, _]) _ _ _); k_dflt (refine' append_K ?k1 ?k2 ?k3 ?_ ?z; (case k1 => k_asm); (case k2 => k_asm); (case k3 => k_upd); (case z => exact Nat.le_of_ble_eq_true rfl); k_whole); intro h' F' N'; (try k_sweep))) | ((k_here; (with_reducible show wpAny _ _ (subscriptTail (PySem.Expr.Subscript _ _ _) _ (Value.ref _) (Value.int _ _)) _ _ _); k_dflt (refine' tup_lit ?k1 ?k2 ?k3 ?_ ?k6; (case k1 => exact News.isTup (by k_asm) (by k_mem)); (case k2 => exact rfl); (case k3 => exact rfl); (case k6 => with_unfolding_all rfl); k_whole))) | (((with_reducible show wpAny _ _ (subscriptTail _ _ (Value.ref _) (Value.int _ _)) _ _ _); k_dflt (refine' tup_lit ?k1 ?k2 ?k3 ?_ ?k6; (case k1 => exact News.isTup (by k_asm) (by k_mem)); (case k2 => exact rfl); (case k3 => exact rfl); (case k6 => with_unfolding_all rfl); k_whole))) | ((with_reducible show wpAny _ _ (compareOp CmpOp.IsNot (Value.bool _) (Value.bool _)) _ _ _); (k_here; (with_reducible refine isnot_same ?e ?_); (case e => first | exact eq_yes | exact eq_no (by with_reducible assumption) (by with_reducible assumption)))) | ((k_here; (with_reducible show wpAny _ _ (compareOp CmpOp.NotEq (Value.ref _) (Value.ref _)) _ _ _); k_dflt (refine' norm_ne_no ?k1 ?k2 ?k3 ?k4 ?k5 ?k6 ?e1 ?e2 ?k7 ?_; (case k1 => exact News.isTup (by k_asm) (by k_mem)); (case k4 => exact News.isTup (by k_asm) (by k_mem)); (case k2 => exact News.isTup (by k_asm) (by k_mem)); (case k5 => exact News.isTup (by k_asm) (by k_mem)); (case k3 => with_reducible assumption); (case k6 => with_reducible assumption); (case e1 => with_reducible assumption); (case e2 => with_reducible assumption); (case k7 => ktr_units); k_whole))) | (((with_reducible show wpAny _ _ (subscriptTail _ _ (Value.ref _) (Value.int _ _)) _ _ _); k_dflt (refine' item_lit ?k1 ?k2 ?k3 ?_ ?k6; (case k1 => exact News.isList (by k_asm) (by k_mem)); (case k2 => exact rfl); (case k3 => exact rfl); (case k6 => with_unfolding_all rfl); k_whole))) | ((k_here; (with_reducible show wpAny _ _ (subscriptTail _ _ (Value.ref _) (Value.int _ _)) _ _ _); k_dflt (refine' item_lit ?k1 ?k2 ?k3 ?_ ?k6; (case k1 => exact News.isList (by k_asm) (by k_mem)); (case k2 => exact rfl); (case k3 => exact rfl); (case k6 => with_unfolding_all rfl); k_whole))) | ((k_here; (with_reducible show wpAny _ _ (subscriptTail _ _ (Value.ref _) (Value.int _ _)) _ _ _); k_dflt (refine' item_anyT ?k1 ?k2 ?k3 ?k4 ?k5 ?_ ?k6; (case k1 => exact News.isTup (by k_asm) (by k_mem)); (case k2 => with_reducible assumption); (case k3 => omega); (case k4 => omega); (case k5 => omega); (case k6 => with_unfolding_all rfl); k_whole); intro _)) | ((k_here; (with_reducible show wpAny _ _ (call (Value.builtin "len") [Value.ref _]) _ _ _); k_dflt (refine' len_tupI ?k1 ?k2 ?k3 ?_; (case k1 => exact News.isTup (by k_asm) (by k_mem)); (case k2 => with_reducible assumption); (case k3 => omega); k_whole))) | ((k_here; (with_reducible show wpAny _ _ (call (Value.type _) [Value.ref _]) _ _ _); k_dflt (refine' kde_tupleOf ?k1 ?k2 ?k3 ?k4 ?k5 ?_; (case k1 => k_asm); (case k2 => k_asm); (case k3 => exact News.isList (by k_asm) (by k_mem)); (case k5 => exact rfl); (case k4 => (simp only [List.size_toArray]; (have hq9 := IntsAre.length (by assumption)); omega)); k_whole); intro D' h' F' N' l1; (try k_lt l1); (try k_sweep))) | ((with_reducible show wpAny _ _ (call (Value.ref _) _) _ _ _); (first | ((k_here; (with_reducible show wpAny _ _ (call (Value.ref 171) [Value.int _ _, Value.str _ _, Value.str _ _, Value.str _ _]) _ _ _); (with_reducible rename Parts _ _ _ _ _ _ => hP9); k_dflt (refine' next_ok ?kB ?kF ?kX ?kN ?kT rfl ?kd ?ku ?kXB ?kTB hP9 ?k1 ?k2 ?k3 ?k4 ?_; (case kB => k_asm); (case kF => k_asm); (case kX => assumption); (case kN => k_asm); (case kT => k_asm); (case kd => ktr_room); (case ku => ktr_units); (case kXB => assumption); (case kTB => assumption); (case k1 => omega); (case k2 => with_reducible assumption); (case k3 => with_reducible assumption); (case k4 => with_reducible assumption)); intro t' h' tk' F' N'; (try dsimp only); (try k_sweep))))) | (have hNo9 := NoOwn.mk; walk1))) | ((fail_if_success (first | (first | (with_reducible show wpAny _ _ (exec (Stmt.While _ _ _ _) _) _ _ _) | (with_reducible show wpAny _ _ (pyIter _) (fun it s₂ => LoopAtV _ _ _ _ _ _ _ _ _ it s₂) _ _) | (with_reducible show wpAny _ _ (pyIter _) (fun it s₂ => PairAt3 _ _ _ _ _ _ _ _ _ _ it s₂) _ _)) | ((with_reducible show LCg.CompSrc _ _ _ _ _ _ _ _ _ _ _ _ _ _)) | ((with_reducible show SrcB _ _ _ _ _ _ _ _ _ _ _ _ _ _)) | ((with_reducible show wpAny _ _ (execs (Stmt.Assign [PySem.Expr.Name (Str.ofString "told") _] _ _ :: _) _) _ _ _)) | ((with_reducible show UnrEndW _ _ _ _ _ _)) | ((with_reducible show wpAny _ _ (execs (Stmt.Assign [PySem.Expr.Name (Str.ofString "more") _] _ _ :: _) _) _ _ _)))); (first | walk1 | (dsimp only; walk1) | (leave1; try dsimp only)))))
  (((with_reducible rename News _ _ _ _ => nE9); (with_reducible rename Fr _ _ _ _ => fE9); (first | ((rename EndT => eE9); (clear eE9); (refine unr_end1 [true, true, true, true, false] fE9 nE9 ?x1u4 ?x2u4 ⟨?x3u4, ?x4u4⟩)) | ((rename EndU => eE9); (clear eE9); (refine unr_end1 [true, true, false] fE9 nE9 ?x1u4 ?x2u4 ⟨?x3u4, ?x4u4⟩))); (case x1u4 => k_mem); (case x2u4 => (dsimp only [keepL]; (repeat' (first | exact List.forall_mem_nil _ | (refine List.forall_mem_cons.mpr ⟨?_, ?_⟩) | (first | with_reducible assumption | exact LtAll.nes (by with_reducible assumption) (fun _ hp => (by (repeat' first | exact hp | apply List.Mem.tail)))) | k_ne)))); (case x3u4 => (dsimp only [keepL]; k_subL)); (case' x4u4 => dsimp only [keepL])))
  (repeat' (first | ((with_reducible rename NoOwn => hNo9); clear hNo9) | (k_unfold; (try dsimp only)) | ((with_reducible refine Own.mk ?_); (first | ((k_here; (with_reducible show wpAny _ _ (compareOp _ (Value.int _ _) (Value.int 0 _)) _ _ _); (refine gt_int_yes ?e ?_); (case e => omega))) | ((k_here; (with_reducible show wpAny _ _ (pyIter (Value.ref _)) (fun it s₂ => TurnsAt _ _ _ _ _ _ _ _ _ it s₂) _ _); (with_reducible rename Fr _ _ _ _ => lF'); (with_reducible rename News _ _ _ _ => lN'); (with_unfolding_all refine' iter_listTurns (by rfl) lF' lN' ?m ?c ?d ?_); (case m => k_mem); (case c => rfl); (case d => rfl); clear lF'; intro i' l1; (k_lt l1))) | (((with_reducible show wpAny _ _ (subscriptTail _ _ (Value.ref _) (Value.int _ _)) _ _ _); k_dflt (refine' item_lit ?k1 ?k2 ?k3 ?_ ?k6; (case k1 => exact News.isList (by k_asm) (by k_mem)); (case k2 => with_reducible assumption); (case k3 => first | with_reducible assumption | exact nth_push (by with_reducible assumption)); (case k6 => with_unfolding_all rfl); k_whole))) | ((k_here; (with_reducible show wpAny _ _ (compareOp _ (Value.int (0 + _) _) (Value.int 0 _)) _ _ _); (refine gt_int_yes ?e ?_); (case e => omega))) | ((k_here; (with_reducible show wpAny _ _ (compareOp _ (Value.int (0 + _) _) (Value.int 0 _)) _ _ _); (refine eq_int_no ?e ?_); (case e => omega))) | ((with_reducible show wpAny _ _ (compareOp CmpOp.IsNot (Value.bool _) (Value.bool _)) _ _ _); (k_here; (with_reducible refine isnot_same ?e ?_); (case e => with_reducible assumption))) | ((k_here; (with_reducible rename NextMark => hN9); (with_reducible show wpAny _ _ (compareOp CmpOp.NotEq (Value.ref _) (Value.ref _)) _ _ _); k_dflt (refine' ne_pair_no ?k1 ?k2 ?e1 ?e2 ?k7 ?_; (case k1 => exact News.isList (by k_asm) (by k_mem)); (case k2 => exact News.isList (by k_asm) (by k_mem)); (case e1 => with_reducible assumption); (case e2 => with_reducible assumption); (case k7 => ktr_units); k_whole); clear hN9)) | ((with_reducible show wpAny _ _ (compareOp CmpOp.Eq (Value.bytes _ _) (Value.bytes _ _)) _ _ _); (k_here; (refine eq_bytes_no (by assumption) ?_))) | ((k_here; (with_reducible show wpAny _ _ (subscriptTail _ (PySem.Expr.Slice _ _ none _) (Value.bytes _ _) (Value.ref _)) _ _ _); (with_reducible rename ToldF _ _ _ => hT9); (with_reducible rename Fr _ _ _ _ => F'); (with_reducible rename News _ _ _ _ => N'); (refine told_slice (s := ⟨_, _, _, _, _⟩) hT9 F' N' ?_); intro _ _ _ _ _ hP')) | ((with_reducible show wpAny _ _ (compareOp CmpOp.NotEq (Value.bytes _ _) (Value.bytes _ _)) _ _ _); (k_here; (refine ne_bytes_no ?e ?_); (case e => exact word_eq (by omega) (by omega)))) | ((with_reducible show wpAny _ _ (binaryOp _ (Value.bytes _ _) (Value.bytes _ _)) _ _ _); (k_here; (with_reducible rename ToldF _ _ _ => hT9); (refine word_add hT9 ?_); intro t' k')) | ((k_here; (with_reducible show wpAny _ _ (call (Value.builtin _) [Value.ref _, _]) _ _ _); k_dflt (refine' append_K ?k1 ?k2 ?k3 ?_ ?z; (case k1 => k_asm); (case k2 => k_asm); (case k3 => k_upd); (case z => exact Nat.le_of_ble_eq_true rfl); k_whole); intro h' F' N'; (try k_sweep))) | ((k_here; (with_reducible show wpAny _ _ (subscriptTail (PySem.Expr.Subscript _ _ _) _ (Value.ref _) (Value.int _ _)) _ _ _); k_dflt (refine' tup_lit ?k1 ?k2 ?k3 ?_ ?k6; (case k1 => exact News.isTup (by k_asm) (by k_mem)); (case k2 => exact rfl); (case k3 => exact rfl); (case k6 => with_unfolding_all rfl); k_whole))) | (((with_reducible show wpAny _ _ (subscriptTail _ _ (Value.ref _) (Value.int _ _)) _ _ _); k_dflt (refine' tup_lit ?k1 ?k2 ?k3 ?_ ?k6; (case k1 => exact News.isTup (by k_asm) (by k_mem)); (case k2 => exact rfl); (case k3 => exact rfl); (case k6 => with_unfolding_all rfl); k_whole))) | ((with_reducible show wpAny _ _ (compareOp CmpOp.IsNot (Value.bool _) (Value.bool _)) _ _ _); (k_here; (with_reducible refine isnot_same ?e ?_); (case e => first | exact eq_yes | exact eq_no (by with_reducible assumption) (by with_reducible assumption)))) | ((k_here; (with_reducible show wpAny _ _ (compareOp CmpOp.NotEq (Value.ref _) (Value.ref _)) _ _ _); k_dflt (refine' norm_ne_no ?k1 ?k2 ?k3 ?k4 ?k5 ?k6 ?e1 ?e2 ?k7 ?_; (case k1 => exact News.isTup (by k_asm) (by k_mem)); (case k4 => exact News.isTup (by k_asm) (by k_mem)); (case k2 => exact News.isTup (by k_asm) (by k_mem)); (case k5 => exact News.isTup (by k_asm) (by k_mem)); (case k3 => with_reducible assumption); (case k6 => with_reducible assumption); (case e1 => with_reducible assumption); (case e2 => with_reducible assumption); (case k7 => ktr_units); k_whole))) | (((with_reducible show wpAny _ _ (subscriptTail _ _ (Value.ref _) (Value.int _ _)) _ _ _); k_dflt (refine' item_lit ?k1 ?k2 ?k3 ?_ ?k6; (case k1 => exact News.isList (by k_asm) (by k_mem)); (case k2 => exact rfl); (case k3 => exact rfl); (case k6 => with_unfolding_all rfl); k_whole))) | ((k_here; (with_reducible show wpAny _ _ (subscriptTail _ _ (Value.ref _) (Value.int _ _)) _ _ _); k_dflt (refine' item_lit ?k1 ?k2 ?k3 ?_ ?k6; (case k1 => exact News.isList (by k_asm) (by k_mem)); (case k2 => exact rfl); (case k3 => exact rfl); (case k6 => with_unfolding_all rfl); k_whole))) | ((k_here; (with_reducible show wpAny _ _ (subscriptTail _ _ (Value.ref _) (Value.int _ _)) _ _ _); k_dflt (refine' item_anyT ?k1 ?k2 ?k3 ?k4 ?k5 ?_ ?k6; (case k1 => exact News.isTup (by k_asm) (by k_mem)); (case k2 => with_reducible assumption); (case k3 => omega); (case k4 => omega); (case k5 => omega); (case k6 => with_unfolding_all rfl); k_whole); intro _)) | ((k_here; (with_reducible show wpAny _ _ (call (Value.builtin "len") [Value.ref _]) _ _ _); k_dflt (refine' len_tupI ?k1 ?k2 ?k3 ?_; (case k1 => exact News.isTup (by k_asm) (by k_mem)); (case k2 => with_reducible assumption); (case k3 => omega); k_whole))) | ((k_here; (with_reducible show wpAny _ _ (call (Value.type _) [Value.ref _]) _ _ _); k_dflt (refine' kde_tupleOf ?k1 ?k2 ?k3 ?k4 ?k5 ?_; (case k1 => k_asm); (case k2 => k_asm); (case k3 => exact News.isList (by k_asm) (by k_mem)); (case k5 => exact rfl); (case k4 => (simp only [List.size_toArray]; (have hq9 := IntsAre.length (by assumption)); omega)); k_whole); intro D' h' F' N' l1; (try k_lt l1); (try k_sweep))) | ((with_reducible show wpAny _ _ (call (Value.ref _) _) _ _ _); (first | ((k_here; (with_reducible show wpAny _ _ (call (Value.ref 171) [Value.int _ _, Value.str _ _, Value.str _ _, Value.str _ _]) _ _ _); (with_reducible rename Parts _ _ _ _ _ _ => hP9); k_dflt (refine' next_ok ?kB ?kF ?kX ?kN ?kT rfl ?kd ?ku ?kXB ?kTB hP9 ?k1 ?k2 ?k3 ?k4 ?_; (case kB => k_asm); (case kF => k_asm); (case kX => assumption); (case kN => k_asm); (case kT => k_asm); (case kd => ktr_room); (case ku => ktr_units); (case kXB => assumption); (case kTB => assumption); (case k1 => omega); (case k2 => with_reducible assumption); (case k3 => with_reducible assumption); (case k4 => with_reducible assumption)); intro t' h' tk' F' N'; (try dsimp only); (try k_sweep))))) | (have hNo9 := NoOwn.mk; walk1))) | ((fail_if_success (first | (first | (with_reducible show wpAny _ _ (exec (Stmt.While _ _ _ _) _) _ _ _) | (with_reducible show wpAny _ _ (pyIter _) (fun it s₂ => LoopAtV _ _ _ _ _ _ _ _ _ it s₂) _ _) | (with_reducible show wpAny _ _ (pyIter _) (fun it s₂ => PairAt3 _ _ _ _ _ _ _ _ _ _ it s₂) _ _)) | ((with_reducible show LCg.CompSrc _ _ _ _ _ _ _ _ _ _ _ _ _ _)) | ((with_reducible show SrcB _ _ _ _ _ _ _ _ _ _ _ _ _ _)) | ((with_reducible show wpAny _ _ (execs (Stmt.Assign [PySem.Expr.Name (Str.ofString "told") _] _ _ :: _) _) _ _ _)) | ((with_reducible show UnrEndW _ _ _ _ _ _)) | ((with_reducible show wpAny _ _ (execs (Stmt.Assign [PySem.Expr.Name (Str.ofString "more") _] _ _ :: _) _) _ _ _)))); (first | walk1 | (dsimp only; walk1) | (leave1; try dsimp only)))))
  with_reducible rename Fr _ _ _ _ => lF9
  with_reducible rename News _ _ _ _ => lN9
  (with_reducible rename TailIs _ _ => hT8)
  obtain ⟨ds9, tt9, hP9, hl1, hl2, hl3⟩ := parts_of hT8
  refine SrcB.intro (by rfl) lF9 lN9 (by exact Nat.le_of_ble_eq_true rfl) ?_
  intro g
  refine rest_nexts hfw hgw ?_ ?_
  · intro n u I oI C oC D ys m₂ h tk E' hn hC hx' F' N' off ne
    clear lF9 lN9
    (repeat' (first | ((with_reducible rename NoOwn => hNo9); clear hNo9) | (k_unfold; (try dsimp only)) | ((with_reducible refine Own.mk ?_); (first | ((k_here; (with_reducible show wpAny _ _ (compareOp _ (Value.int _ _) (Value.int 0 _)) _ _ _); (refine gt_int_yes ?e ?_); (case e => omega))) | ((k_here; (with_reducible show wpAny _ _ (pyIter (Value.ref _)) (fun it s₂ => TurnsAt _ _ _ _ _ _ _ _ _ it s₂) _ _); (with_reducible rename Fr _ _ _ _ => lF'); (with_reducible rename News _ _ _ _ => lN'); (with_unfolding_all refine' iter_listTurns (by rfl) lF' lN' ?m ?c ?d ?_); (case m => k_mem); (case c => rfl); (case d => rfl); clear lF'; intro i' l1; (k_lt l1))) | (((with_reducible show wpAny _ _ (subscriptTail _ _ (Value.ref _) (Value.int _ _)) _ _ _); k_dflt (refine' item_lit ?k1 ?k2 ?k3 ?_ ?k6; (case k1 => exact News.isList (by k_asm) (by k_mem)); (case k2 => with_reducible assumption); (case k3 => first | with_reducible assumption | exact nth_push (by with_reducible assumption)); (case k6 => with_unfolding_all rfl); k_whole))) | ((k_here; (with_reducible show wpAny _ _ (compareOp _ (Value.int (0 + _) _) (Value.int 0 _)) _ _ _); (refine gt_int_yes ?e ?_); (case e => omega))) | ((k_here; (with_reducible show wpAny _ _ (compareOp _ (Value.int (0 + _) _) (Value.int 0 _)) _ _ _); (refine eq_int_no ?e ?_); (case e => omega))) | ((with_reducible show wpAny _ _ (compareOp CmpOp.IsNot (Value.bool _) (Value.bool _)) _ _ _); (k_here; (with_reducible refine isnot_same ?e ?_); (case e => with_reducible assumption))) | ((k_here; (with_reducible rename NextMark => hN9); (with_reducible show wpAny _ _ (compareOp CmpOp.NotEq (Value.ref _) (Value.ref _)) _ _ _); k_dflt (refine' ne_pair_no ?k1 ?k2 ?e1 ?e2 ?k7 ?_; (case k1 => exact News.isList (by k_asm) (by k_mem)); (case k2 => exact News.isList (by k_asm) (by k_mem)); (case e1 => with_reducible assumption); (case e2 => with_reducible assumption); (case k7 => ktr_units); k_whole); clear hN9)) | ((with_reducible show wpAny _ _ (compareOp CmpOp.Eq (Value.bytes _ _) (Value.bytes _ _)) _ _ _); (k_here; (refine eq_bytes_no (by assumption) ?_))) | ((k_here; (with_reducible show wpAny _ _ (subscriptTail _ (PySem.Expr.Slice _ _ none _) (Value.bytes _ _) (Value.ref _)) _ _ _); (with_reducible rename ToldF _ _ _ => hT9); (with_reducible rename Fr _ _ _ _ => F'); (with_reducible rename News _ _ _ _ => N'); (refine told_slice (s := ⟨_, _, _, _, _⟩) hT9 F' N' ?_); intro _ _ _ _ _ hP')) | ((with_reducible show wpAny _ _ (compareOp CmpOp.NotEq (Value.bytes _ _) (Value.bytes _ _)) _ _ _); (k_here; (refine ne_bytes_no ?e ?_); (case e => exact word_eq (by omega) (by omega)))) | ((with_reducible show wpAny _ _ (binaryOp _ (Value.bytes _ _) (Value.bytes _ _)) _ _ _); (k_here; (with_reducible rename ToldF _ _ _ => hT9); (refine word_add hT9 ?_); intro t' k')) | ((k_here; (with_reducible show wpAny _ _ (call (Value.builtin _) [Value.ref _, _]) _ _ _); k_dflt (refine' append_K ?k1 ?k2 ?k3 ?_ ?z; (case k1 => k_asm); (case k2 => k_asm); (case k3 => k_upd); (case z => exact Nat.le_of_ble_eq_true rfl); k_whole); intro h' F' N'; (try k_sweep))) | ((k_here; (with_reducible show wpAny _ _ (subscriptTail (PySem.Expr.Subscript _ _ _) _ (Value.ref _) (Value.int _ _)) _ _ _); k_dflt (refine' tup_lit ?k1 ?k2 ?k3 ?_ ?k6; (case k1 => exact News.isTup (by k_asm) (by k_mem)); (case k2 => exact rfl); (case k3 => exact rfl); (case k6 => with_unfolding_all rfl); k_whole))) | (((with_reducible show wpAny _ _ (subscriptTail _ _ (Value.ref _) (Value.int _ _)) _ _ _); k_dflt (refine' tup_lit ?k1 ?k2 ?k3 ?_ ?k6; (case k1 => exact News.isTup (by k_asm) (by k_mem)); (case k2 => exact rfl); (case k3 => exact rfl); (case k6 => with_unfolding_all rfl); k_whole))) | ((with_reducible show wpAny _ _ (compareOp CmpOp.IsNot (Value.bool _) (Value.bool _)) _ _ _); (k_here; (with_reducible refine isnot_same ?e ?_); (case e => first | exact eq_yes | exact eq_no (by with_reducible assumption) (by with_reducible assumption)))) | ((k_here; (with_reducible show wpAny _ _ (compareOp CmpOp.NotEq (Value.ref _) (Value.ref _)) _ _ _); k_dflt (refine' norm_ne_no ?k1 ?k2 ?k3 ?k4 ?k5 ?k6 ?e1 ?e2 ?k7 ?_; (case k1 => exact News.isTup (by k_asm) (by k_mem)); (case k4 => exact News.isTup (by k_asm) (by k_mem)); (case k2 => exact News.isTup (by k_asm) (by k_mem)); (case k5 => exact News.isTup (by k_asm) (by k_mem)); (case k3 => with_reducible assumption); (case k6 => with_reducible assumption); (case e1 => with_reducible assumption); (case e2 => with_reducible assumption); (case k7 => ktr_units); k_whole))) | (((with_reducible show wpAny _ _ (subscriptTail _ _ (Value.ref _) (Value.int _ _)) _ _ _); k_dflt (refine' item_lit ?k1 ?k2 ?k3 ?_ ?k6; (case k1 => exact News.isList (by k_asm) (by k_mem)); (case k2 => exact rfl); (case k3 => exact rfl); (case k6 => with_unfolding_all rfl); k_whole))) | ((k_here; (with_reducible show wpAny _ _ (subscriptTail _ _ (Value.ref _) (Value.int _ _)) _ _ _); k_dflt (refine' item_lit ?k1 ?k2 ?k3 ?_ ?k6; (case k1 => exact News.isList (by k_asm) (by k_mem)); (case k2 => exact rfl); (case k3 => exact rfl); (case k6 => with_unfolding_all rfl); k_whole))) | ((k_here; (with_reducible show wpAny _ _ (subscriptTail _ _ (Value.ref _) (Value.int _ _)) _ _ _); k_dflt (refine' item_anyT ?k1 ?k2 ?k3 ?k4 ?k5 ?_ ?k6; (case k1 => exact News.isTup (by k_asm) (by k_mem)); (case k2 => with_reducible assumption); (case k3 => omega); (case k4 => omega); (case k5 => omega); (case k6 => with_unfolding_all rfl); k_whole); intro _)) | ((k_here; (with_reducible show wpAny _ _ (call (Value.builtin "len") [Value.ref _]) _ _ _); k_dflt (refine' len_tupI ?k1 ?k2 ?k3 ?_; (case k1 => exact News.isTup (by k_asm) (by k_mem)); (case k2 => with_reducible assumption); (case k3 => omega); k_whole))) | ((k_here; (with_reducible show wpAny _ _ (call (Value.type _) [Value.ref _]) _ _ _); k_dflt (refine' kde_tupleOf ?k1 ?k2 ?k3 ?k4 ?k5 ?_; (case k1 => k_asm); (case k2 => k_asm); (case k3 => exact News.isList (by k_asm) (by k_mem)); (case k5 => exact rfl); (case k4 => (simp only [List.size_toArray]; (have hq9 := IntsAre.length (by assumption)); omega)); k_whole); intro D' h' F' N' l1; (try k_lt l1); (try k_sweep))) | ((with_reducible show wpAny _ _ (call (Value.ref _) _) _ _ _); (first | ((k_here; (with_reducible show wpAny _ _ (call (Value.ref 171) [Value.int _ _, Value.str _ _, Value.str _ _, Value.str _ _]) _ _ _); (with_reducible rename Parts _ _ _ _ _ _ => hP9); k_dflt (refine' next_ok ?kB ?kF ?kX ?kN ?kT rfl ?kd ?ku ?kXB ?kTB hP9 ?k1 ?k2 ?k3 ?k4 ?_; (case kB => k_asm); (case kF => k_asm); (case kX => assumption); (case kN => k_asm); (case kT => k_asm); (case kd => ktr_room); (case ku => ktr_units); (case kXB => assumption); (case kTB => assumption); (case k1 => omega); (case k2 => with_reducible assumption); (case k3 => with_reducible assumption); (case k4 => with_reducible assumption)); intro t' h' tk' F' N'; (try dsimp only); (try k_sweep))))) | (have hNo9 := NoOwn.mk; walk1))) | ((fail_if_success (first | (first | (with_reducible show wpAny _ _ (exec (Stmt.While _ _ _ _) _) _ _ _) | (with_reducible show wpAny _ _ (pyIter _) (fun it s₂ => LoopAtV _ _ _ _ _ _ _ _ _ it s₂) _ _) | (with_reducible show wpAny _ _ (pyIter _) (fun it s₂ => PairAt3 _ _ _ _ _ _ _ _ _ _ it s₂) _ _)) | ((with_reducible show LCg.CompSrc _ _ _ _ _ _ _ _ _ _ _ _ _ _)) | ((with_reducible show SrcB _ _ _ _ _ _ _ _ _ _ _ _ _ _)) | ((with_reducible show wpAny _ _ (execs (Stmt.Assign [PySem.Expr.Name (Str.ofString "told") _] _ _ :: _) _) _ _ _)) | ((with_reducible show UnrEndW _ _ _ _ _ _)) | ((with_reducible show wpAny _ _ (execs (Stmt.Assign [PySem.Expr.Name (Str.ofString "more") _] _ _ :: _) _) _ _ _)))); (first | walk1 | (dsimp only; walk1) | (leave1; try dsimp only)))))
    exact PureEnd.intro (by assumption) (by assumption) (fun p hp => hp) ⟨_, rfl⟩
  intro ta tb
  clear lF9 lN9
  have hNx := NextMark.mk
  (repeat' (first | ((with_reducible rename NoOwn => hNo9); clear hNo9) | (k_unfold; (try dsimp only)) | ((with_reducible refine Own.mk ?_); (first | ((k_here; (with_reducible show wpAny _ _ (compareOp _ (Value.int _ _) (Value.int 0 _)) _ _ _); (refine gt_int_yes ?e ?_); (case e => omega))) | ((k_here; (with_reducible show wpAny _ _ (pyIter (Value.ref _)) (fun it s₂ => TurnsAt _ _ _ _ _ _ _ _ _ it s₂) _ _); (with_reducible rename Fr _ _ _ _ => lF'); (with_reducible rename News _ _ _ _ => lN'); (with_unfolding_all refine' iter_listTurns (by rfl) lF' lN' ?m ?c ?d ?_); (case m => k_mem); (case c => rfl); (case d => rfl); clear lF'; intro i' l1; (k_lt l1))) | (((with_reducible show wpAny _ _ (subscriptTail _ _ (Value.ref _) (Value.int _ _)) _ _ _); k_dflt (refine' item_lit ?k1 ?k2 ?k3 ?_ ?k6; (case k1 => exact News.isList (by k_asm) (by k_mem)); (case k2 => with_reducible assumption); (case k3 => first | with_reducible assumption | exact nth_push (by with_reducible assumption)); (case k6 => with_unfolding_all rfl); k_whole))) | ((k_here; (with_reducible show wpAny _ _ (compareOp _ (Value.int (0 + _) _) (Value.int 0 _)) _ _ _); (refine gt_int_yes ?e ?_); (case e => omega))) | ((k_here; (with_reducible show wpAny _ _ (compareOp _ (Value.int (0 + _) _) (Value.int 0 _)) _ _ _); (refine eq_int_no ?e ?_); (case e => omega))) | ((with_reducible show wpAny _ _ (compareOp CmpOp.IsNot (Value.bool _) (Value.bool _)) _ _ _); (k_here; (with_reducible refine isnot_same ?e ?_); (case e => with_reducible assumption))) | ((k_here; (with_reducible rename NextMark => hN9); (with_reducible show wpAny _ _ (compareOp CmpOp.NotEq (Value.ref _) (Value.ref _)) _ _ _); k_dflt (refine' ne_pair_no ?k1 ?k2 ?e1 ?e2 ?k7 ?_; (case k1 => exact News.isList (by k_asm) (by k_mem)); (case k2 => exact News.isList (by k_asm) (by k_mem)); (case e1 => with_reducible assumption); (case e2 => with_reducible assumption); (case k7 => ktr_units); k_whole); clear hN9)) | ((with_reducible show wpAny _ _ (compareOp CmpOp.Eq (Value.bytes _ _) (Value.bytes _ _)) _ _ _); (k_here; (refine eq_bytes_no (by assumption) ?_))) | ((k_here; (with_reducible show wpAny _ _ (subscriptTail _ (PySem.Expr.Slice _ _ none _) (Value.bytes _ _) (Value.ref _)) _ _ _); (with_reducible rename ToldF _ _ _ => hT9); (with_reducible rename Fr _ _ _ _ => F'); (with_reducible rename News _ _ _ _ => N'); (refine told_slice (s := ⟨_, _, _, _, _⟩) hT9 F' N' ?_); intro _ _ _ _ _ hP')) | ((with_reducible show wpAny _ _ (compareOp CmpOp.NotEq (Value.bytes _ _) (Value.bytes _ _)) _ _ _); (k_here; (refine ne_bytes_no ?e ?_); (case e => exact word_eq (by omega) (by omega)))) | ((with_reducible show wpAny _ _ (binaryOp _ (Value.bytes _ _) (Value.bytes _ _)) _ _ _); (k_here; (with_reducible rename ToldF _ _ _ => hT9); (refine word_add hT9 ?_); intro t' k')) | ((k_here; (with_reducible show wpAny _ _ (call (Value.builtin _) [Value.ref _, _]) _ _ _); k_dflt (refine' append_K ?k1 ?k2 ?k3 ?_ ?z; (case k1 => k_asm); (case k2 => k_asm); (case k3 => k_upd); (case z => exact Nat.le_of_ble_eq_true rfl); k_whole); intro h' F' N'; (try k_sweep))) | ((k_here; (with_reducible show wpAny _ _ (subscriptTail (PySem.Expr.Subscript _ _ _) _ (Value.ref _) (Value.int _ _)) _ _ _); k_dflt (refine' tup_lit ?k1 ?k2 ?k3 ?_ ?k6; (case k1 => exact News.isTup (by k_asm) (by k_mem)); (case k2 => exact rfl); (case k3 => exact rfl); (case k6 => with_unfolding_all rfl); k_whole))) | (((with_reducible show wpAny _ _ (subscriptTail _ _ (Value.ref _) (Value.int _ _)) _ _ _); k_dflt (refine' tup_lit ?k1 ?k2 ?k3 ?_ ?k6; (case k1 => exact News.isTup (by k_asm) (by k_mem)); (case k2 => exact rfl); (case k3 => exact rfl); (case k6 => with_unfolding_all rfl); k_whole))) | ((with_reducible show wpAny _ _ (compareOp CmpOp.IsNot (Value.bool _) (Value.bool _)) _ _ _); (k_here; (with_reducible refine isnot_same ?e ?_); (case e => first | exact eq_yes | exact eq_no (by with_reducible assumption) (by with_reducible assumption)))) | ((k_here; (with_reducible show wpAny _ _ (compareOp CmpOp.NotEq (Value.ref _) (Value.ref _)) _ _ _); k_dflt (refine' norm_ne_no ?k1 ?k2 ?k3 ?k4 ?k5 ?k6 ?e1 ?e2 ?k7 ?_; (case k1 => exact News.isTup (by k_asm) (by k_mem)); (case k4 => exact News.isTup (by k_asm) (by k_mem)); (case k2 => exact News.isTup (by k_asm) (by k_mem)); (case k5 => exact News.isTup (by k_asm) (by k_mem)); (case k3 => with_reducible assumption); (case k6 => with_reducible assumption); (case e1 => with_reducible assumption); (case e2 => with_reducible assumption); (case k7 => ktr_units); k_whole))) | (((with_reducible show wpAny _ _ (subscriptTail _ _ (Value.ref _) (Value.int _ _)) _ _ _); k_dflt (refine' item_lit ?k1 ?k2 ?k3 ?_ ?k6; (case k1 => exact News.isList (by k_asm) (by k_mem)); (case k2 => exact rfl); (case k3 => exact rfl); (case k6 => with_unfolding_all rfl); k_whole))) | ((k_here; (with_reducible show wpAny _ _ (subscriptTail _ _ (Value.ref _) (Value.int _ _)) _ _ _); k_dflt (refine' item_lit ?k1 ?k2 ?k3 ?_ ?k6; (case k1 => exact News.isList (by k_asm) (by k_mem)); (case k2 => exact rfl); (case k3 => exact rfl); (case k6 => with_unfolding_all rfl); k_whole))) | ((k_here; (with_reducible show wpAny _ _ (subscriptTail _ _ (Value.ref _) (Value.int _ _)) _ _ _); k_dflt (refine' item_anyT ?k1 ?k2 ?k3 ?k4 ?k5 ?_ ?k6; (case k1 => exact News.isTup (by k_asm) (by k_mem)); (case k2 => with_reducible assumption); (case k3 => omega); (case k4 => omega); (case k5 => omega); (case k6 => with_unfolding_all rfl); k_whole); intro _)) | ((k_here; (with_reducible show wpAny _ _ (call (Value.builtin "len") [Value.ref _]) _ _ _); k_dflt (refine' len_tupI ?k1 ?k2 ?k3 ?_; (case k1 => exact News.isTup (by k_asm) (by k_mem)); (case k2 => with_reducible assumption); (case k3 => omega); k_whole))) | ((k_here; (with_reducible show wpAny _ _ (call (Value.type _) [Value.ref _]) _ _ _); k_dflt (refine' kde_tupleOf ?k1 ?k2 ?k3 ?k4 ?k5 ?_; (case k1 => k_asm); (case k2 => k_asm); (case k3 => exact News.isList (by k_asm) (by k_mem)); (case k5 => exact rfl); (case k4 => (simp only [List.size_toArray]; (have hq9 := IntsAre.length (by assumption)); omega)); k_whole); intro D' h' F' N' l1; (try k_lt l1); (try k_sweep))) | ((with_reducible show wpAny _ _ (call (Value.ref _) _) _ _ _); (first | ((k_here; (with_reducible show wpAny _ _ (call (Value.ref 171) [Value.int _ _, Value.str _ _, Value.str _ _, Value.str _ _]) _ _ _); (with_reducible rename Parts _ _ _ _ _ _ => hP9); k_dflt (refine' next_ok ?kB ?kF ?kX ?kN ?kT rfl ?kd ?ku ?kXB ?kTB hP9 ?k1 ?k2 ?k3 ?k4 ?_; (case kB => k_asm); (case kF => k_asm); (case kX => assumption); (case kN => k_asm); (case kT => k_asm); (case kd => ktr_room); (case ku => ktr_units); (case kXB => assumption); (case kTB => assumption); (case k1 => omega); (case k2 => with_reducible assumption); (case k3 => with_reducible assumption); (case k4 => with_reducible assumption)); intro t' h' tk' F' N'; (try dsimp only); (try k_sweep))))) | (have hNo9 := NoOwn.mk; walk1))) | ((fail_if_success (first | (first | (with_reducible show wpAny _ _ (exec (Stmt.While _ _ _ _) _) _ _ _) | (with_reducible show wpAny _ _ (pyIter _) (fun it s₂ => LoopAtV _ _ _ _ _ _ _ _ _ it s₂) _ _) | (with_reducible show wpAny _ _ (pyIter _) (fun it s₂ => PairAt3 _ _ _ _ _ _ _ _ _ _ it s₂) _ _)) | ((with_reducible show LCg.CompSrc _ _ _ _ _ _ _ _ _ _ _ _ _ _)) | ((with_reducible show SrcB _ _ _ _ _ _ _ _ _ _ _ _ _ _)) | ((with_reducible show wpAny _ _ (execs (Stmt.Assign [PySem.Expr.Name (Str.ofString "told") _] _ _ :: _) _) _ _ _)) | ((with_reducible show UnrEndW _ _ _ _ _ _)) | ((with_reducible show wpAny _ _ (execs (Stmt.Assign [PySem.Expr.Name (Str.ofString "more") _] _ _ :: _) _) _ _ _)))); (first | walk1 | (dsimp only; walk1) | (leave1; try dsimp only)))))
  (with_reducible rename Fr _ _ _ _ => lF9)
  (with_reducible rename News _ _ _ _ => lN9)
  have N9 := news_1 [true, true, true, true, true, true, true, true, true, true, true, true, true, true, false] 14 lN9 rfl
  dsimp only [keepL] at N9
  clear lN9
  refine' tailT_ok rfl rfl K0 lF9 KX T ?m1 ?m6 ?nF ?nlD ?nT ?nlT ?nq ?n1 ?n2 ?n3 ?n4 hL ?hT ?hn5 ?hf ?hg hd3 f1 f2 f3 f1' f2' f3' fg fg' N9 ?_
  case m1 => exact rfl
  case m6 => exact rfl
  case nT => k_mem
  case hT => with_reducible assumption
  case nF => k_mem
  case nlD => k_mem
  case nlT => k_mem
  case nq => k_mem
  case n1 => k_mem
  case n2 => k_mem
  case n3 => k_mem
  case n4 => k_mem
  case hn5 => (repeat' (first | exact List.forall_mem_nil _ | (refine List.forall_mem_cons.mpr ⟨?_, ?_⟩) | (first | with_reducible assumption | exact LtAll.nes (by with_reducible assumption) (fun _ hp => (by (repeat' first | exact hp | apply List.Mem.tail)))) | k_ne))
  case hf => exact fig_bd fa fb fc fd
  case hg => exact fig_bd fa' fb' fc' fd'
  intro h' tk' mT q' oL' ta tb tw9 hw hsT F9 hL' ho9 N1
  clear N9 lF9
  simp only [List.map_cons, List.map_nil] at ho9
  refine' hret _ _ _ _ _ _ _ _ _ _ _ _ hw (fun z hz => ?ke) F9 hL' ?kH ?kT (OffH.sub ho9 ?ko2) ?kN
  case kN => exact List.forall_mem_cons.mpr ⟨N1 _ (by k_mem), List.forall_mem_cons.mpr ⟨N1 _ (by k_mem), List.forall_mem_cons.mpr ⟨N1 _ (by k_mem), List.forall_mem_cons.mpr ⟨N1 _ (by k_mem), fun p hp => N1 p (by (repeat' first | exact hp | apply List.Mem.tail))⟩⟩⟩⟩
  case ke => exact (hsT z (ne_of_S hz (by k_mem)) (ne_of_S hz (by k_mem))).trans ((congrFun eq2 z).trans (q1 z hz))
  case kH => with_reducible assumption
  case kT => with_reducible assumption
  case ko2 => exact List.forall_mem_cons.mpr ⟨by k_mem, List.forall_mem_cons.mpr ⟨by k_mem, List.forall_mem_cons.mpr ⟨by k_mem, fun x hx => by (repeat' first | exact hx | apply List.Mem.tail)⟩⟩⟩
end
section
local macro_rules | `(tactic| passes_own) => `(tactic| with_reducible assumption)
/-- the body of the loop of twelve deals -/
theorem dealT_ok {w : World} {loose : List Str} {mean : ExcName → Option Value} {mg mb : Str → Option Value} {h₀ : Heap} {L fx rr : Addr} {sc : Scope} {code : List Stmt} {m : Str → Option Value} {s : Shared} {Q : Flow → Shared → Prop} {E : Value → Shared → Prop} {nt : List (Addr × Obj)}
    (hsc : sc = lawDef.scope) (hcode : code = forB (nthS lawDef.body 8))
    (K0 : Below callerA h₀ [] h₀) (F : Fr h₀ L s.heap m) (KX : (hd2.heap_39 w.params).In h₀) (T : Top hd2.view_39 loose mean mg mb h₀)
    {q : Addr} {oL : Obj} {x1 x2 : Str} {t1 t2 : Tok} {kq : Nat}
    (nq : (q, PySem.W.listOf #[.str x1 t1, .str x2 t2] kq) ∈ nt) (hL : oL.data = .cell (some (.ref q))) (hn5 : ∀ p ∈ nt, (p : Addr × Obj).1 ≠ L + 1 + 1 + 1 + 1 + 1)
    (f1 : x1.length ≤ 20) (f2 : 0 ≤ Txt.count x1 (Str.ofString "\t")) (f3 : Txt.count x1 (Str.ofString "\t") ≤ 10) (f4 : x2.length ≤ 20) (f5 : 0 ≤ Txt.count x2 (Str.ofString "\t")) (f6 : Txt.count x2 (Str.ofString "\t") ≤ 10)
    (N : News h₀ L s.heap ((L + 1 + 1 + 1 + 1 + 1, oL) :: nt))
    (hret : ∀ (h' : Heap) (tk' : Nat) (q' : Addr) (oL' : Obj) (ta tb : Tok), Fr h₀ L h' m → oL'.data = .cell (some (.ref q')) → OffH q' ((L + 1 + 1 + 1 + 1 + 1) :: nt.map (·.1)) →
      News h₀ L h' ((q', LCg.lst [.str (dealS x1 (Txt.count x1 (Str.ofString "\t"))) ta, .str (dealS x2 (Txt.count x2 (Str.ofString "\t"))) tb]) :: (L + 1 + 1 + 1 + 1 + 1, oL') :: nt) → Q .next { s with heap := h', toks := tk' }) :
    wpAny (model PySem.Challenge.rw_xb0022_02.row.prog w) (callerA.deeper (envOfC (Str.ofString "law") sc L fx (.ref rr))) (execs code (envOfC (Str.ofString "law") sc L fx (.ref rr))) Q E s := by
  simp only [lawDef, nthS, forB] at hsc hcode
  subst hsc hcode
  revert KX; k_fill; intro KX
  have hMk := kstMark
  have hLt := LtMark.mk
  have N0 : News h₀ L s.heap ((L + 1 + 1 + 1 + 1 + 1, oL) :: (q, PySem.W.listOf #[.str x1 t1, .str x2 t2] kq) :: nt) := List.forall_mem_cons.mpr ⟨N _ (.head _), List.forall_mem_cons.mpr ⟨N _ (.tail _ nq), fun p hp => N p (.tail _ hp)⟩⟩
  have o5 : OffH (L + 1 + 1 + 1 + 1 + 1) [q] := .mk (List.forall_mem_cons.mpr ⟨hn5 _ nq, List.forall_mem_nil _⟩)
  clear N nq
  walk1
  (repeat' (first | ((with_reducible rename NoOwn => hNo9); clear hNo9) | (k_unfold; (try dsimp only)) | ((with_reducible refine Own.mk ?_); (first | (((with_reducible show wpAny _ _ (subscriptTail _ _ (Value.ref _) (Value.int _ _)) _ _ _); k_dflt (refine' item_lit ?k1 ?k2 ?k3 ?_ ?k6; (case k1 => exact News.isList (by k_asm) (by k_mem)); (case k2 => with_reducible assumption); (case k3 => first | with_reducible assumption | exact nth_push (by with_reducible assumption)); (case k6 => with_unfolding_all rfl); k_whole))) | ((k_here; (with_reducible show wpAny _ _ (compareOp _ (Value.int (0 + _) _) (Value.int 0 _)) _ _ _); (refine gt_int_yes ?e ?_); (case e => omega))) | ((k_here; (with_reducible show wpAny _ _ (compareOp _ (Value.int (0 + _) _) (Value.int 0 _)) _ _ _); (refine eq_int_no ?e ?_); (case e => omega))) | ((with_reducible show wpAny _ _ (compareOp CmpOp.IsNot (Value.bool _) (Value.bool _)) _ _ _); (k_here; (with_reducible refine isnot_same ?e ?_); (case e => with_reducible assumption))) | ((k_here; (with_reducible rename NextMark => hN9); (with_reducible show wpAny _ _ (compareOp CmpOp.NotEq (Value.ref _) (Value.ref _)) _ _ _); k_dflt (refine' ne_pair_no ?k1 ?k2 ?e1 ?e2 ?k7 ?_; (case k1 => exact News.isList (by k_asm) (by k_mem)); (case k2 => exact News.isList (by k_asm) (by k_mem)); (case e1 => with_reducible assumption); (case e2 => with_reducible assumption); (case k7 => ktr_units); k_whole); clear hN9)) | ((with_reducible show wpAny _ _ (compareOp CmpOp.Eq (Value.bytes _ _) (Value.bytes _ _)) _ _ _); (k_here; (refine eq_bytes_no (by assumption) ?_))) | ((k_here; (with_reducible show wpAny _ _ (subscriptTail _ (PySem.Expr.Slice _ _ none _) (Value.bytes _ _) (Value.ref _)) _ _ _); (with_reducible rename ToldF _ _ _ => hT9); (with_reducible rename Fr _ _ _ _ => F'); (with_reducible rename News _ _ _ _ => N'); (refine told_slice (s := ⟨_, _, _, _, _⟩) hT9 F' N' ?_); intro _ _ _ _ _ hP')) | ((with_reducible show wpAny _ _ (compareOp CmpOp.NotEq (Value.bytes _ _) (Value.bytes _ _)) _ _ _); (k_here; (refine ne_bytes_no ?e ?_); (case e => exact word_eq (by omega) (by omega)))) | ((with_reducible show wpAny _ _ (binaryOp _ (Value.bytes _ _) (Value.bytes _ _)) _ _ _); (k_here; (with_reducible rename ToldF _ _ _ => hT9); (refine word_add hT9 ?_); intro t' k')) | ((k_here; (with_reducible show wpAny _ _ (call (Value.builtin _) [Value.ref _, _]) _ _ _); k_dflt (refine' append_K ?k1 ?k2 ?k3 ?_ ?z; (case k1 => k_asm); (case k2 => k_asm); (case k3 => k_upd); (case z => exact Nat.le_of_ble_eq_true rfl); k_whole); intro h' F' N'; (try k_sweep))) | ((k_here; (with_reducible show wpAny _ _ (subscriptTail (PySem.Expr.Subscript _ _ _) _ (Value.ref _) (Value.int _ _)) _ _ _); k_dflt (refine' tup_lit ?k1 ?k2 ?k3 ?_ ?k6; (case k1 => exact News.isTup (by k_asm) (by k_mem)); (case k2 => exact rfl); (case k3 => exact rfl); (case k6 => with_unfolding_all rfl); k_whole))) | (((with_reducible show wpAny _ _ (subscriptTail _ _ (Value.ref _) (Value.int _ _)) _ _ _); k_dflt (refine' tup_lit ?k1 ?k2 ?k3 ?_ ?k6; (case k1 => exact News.isTup (by k_asm) (by k_mem)); (case k2 => exact rfl); (case k3 => exact rfl); (case k6 => with_unfolding_all rfl); k_whole))) | ((with_reducible show wpAny _ _ (compareOp CmpOp.IsNot (Value.bool _) (Value.bool _)) _ _ _); (k_here; (with_reducible refine isnot_same ?e ?_); (case e => first | exact eq_yes | exact eq_no (by with_reducible assumption) (by with_reducible assumption)))) | ((k_here; (with_reducible show wpAny _ _ (compareOp CmpOp.NotEq (Value.ref _) (Value.ref _)) _ _ _); k_dflt (refine' norm_ne_no ?k1 ?k2 ?k3 ?k4 ?k5 ?k6 ?e1 ?e2 ?k7 ?_; (case k1 => exact News.isTup (by k_asm) (by k_mem)); (case k4 => exact News.isTup (by k_asm) (by k_mem)); (case k2 => exact News.isTup (by k_asm) (by k_mem)); (case k5 => exact News.isTup (by k_asm) (by k_mem)); (case k3 => with_reducible assumption); (case k6 => with_reducible assumption); (case e1 => with_reducible assumption); (case e2 => with_reducible assumption); (case k7 => ktr_units); k_whole))) | (((with_reducible show wpAny _ _ (subscriptTail _ _ (Value.ref _) (Value.int _ _)) _ _ _); k_dflt (refine' item_lit ?k1 ?k2 ?k3 ?_ ?k6; (case k1 => exact News.isList (by k_asm) (by k_mem)); (case k2 => exact rfl); (case k3 => exact rfl); (case k6 => with_unfolding_all rfl); k_whole))) | ((k_here; (with_reducible show wpAny _ _ (subscriptTail _ _ (Value.ref _) (Value.int _ _)) _ _ _); k_dflt (refine' item_lit ?k1 ?k2 ?k3 ?_ ?k6; (case k1 => exact News.isList (by k_asm) (by k_mem)); (case k2 => exact rfl); (case k3 => exact rfl); (case k6 => with_unfolding_all rfl); k_whole))) | ((k_here; (with_reducible show wpAny _ _ (subscriptTail _ _ (Value.ref _) (Value.int _ _)) _ _ _); k_dflt (refine' item_anyT ?k1 ?k2 ?k3 ?k4 ?k5 ?_ ?k6; (case k1 => exact News.isTup (by k_asm) (by k_mem)); (case k2 => with_reducible assumption); (case k3 => omega); (case k4 => omega); (case k5 => omega); (case k6 => with_unfolding_all rfl); k_whole); intro _)) | ((k_here; (with_reducible show wpAny _ _ (call (Value.builtin "len") [Value.ref _]) _ _ _); k_dflt (refine' len_tupI ?k1 ?k2 ?k3 ?_; (case k1 => exact News.isTup (by k_asm) (by k_mem)); (case k2 => with_reducible assumption); (case k3 => omega); k_whole))) | ((k_here; (with_reducible show wpAny _ _ (call (Value.type _) [Value.ref _]) _ _ _); k_dflt (refine' kde_tupleOf ?k1 ?k2 ?k3 ?k4 ?k5 ?_; (case k1 => k_asm); (case k2 => k_asm); (case k3 => exact News.isList (by k_asm) (by k_mem)); (case k5 => exact rfl); (case k4 => (simp only [List.size_toArray]; (have hq9 := IntsAre.length (by assumption)); omega)); k_whole); intro D' h' F' N' l1; (try k_lt l1); (try k_sweep))) | ((with_reducible show wpAny _ _ (call (Value.ref _) _) _ _ _); (first | ((k_here; (with_reducible show wpAny _ _ (call (Value.ref 152) [Value.str _ _, Value.int _ _]) _ _ _); k_dflt (refine' deal_ok ?kB ?kF ?kX ?kN ?kT rfl ?kd ?ku ?k1 ?k2 ?k3 ?_; (case kB => k_asm); (case kF => k_asm); (case kX => assumption); (case kN => k_asm); (case kT => k_asm); (case kd => ktr_room); (case ku => ktr_units); (case k1 => omega); (case k2 => omega); (case k3 => omega)); intro t' h' tk' F' N'; (try dsimp only); (try k_sweep))))) | (have hNo9 := NoOwn.mk; walk1))) | ((fail_if_success (first | (first | (with_reducible show wpAny _ _ (exec (Stmt.While _ _ _ _) _) _ _ _) | (with_reducible show wpAny _ _ (pyIter _) (fun it s₂ => LoopAtV _ _ _ _ _ _ _ _ _ it s₂) _ _) | (with_reducible show wpAny _ _ (pyIter _) (fun it s₂ => PairAt3 _ _ _ _ _ _ _ _ _ _ it s₂) _ _)) | ((with_reducible show LCg.CompSrc _ _ _ _ _ _ _ _ _ _ _ _ _ _)) | ((with_reducible show SrcB _ _ _ _ _ _ _ _ _ _ _ _ _ _)))); (first | walk1 | (dsimp only; walk1) | (leave1; try dsimp only)))))
  with_reducible rename Fr _ _ _ _ => lF9
  with_reducible rename News _ _ _ _ => lN9
  refine LCg.CompSrc.ledger (by rfl) lF9 lN9 (by k_mem) (by exact Nat.le_of_ble_eq_true rfl) ?_
  intro g
  refine rest_pure (fun _ v y => DealtR v y) (.inr ⟨_, by k_mem, rfl, _, rfl⟩) ?_ ?_
  · intro i' v I oI C oC D ys m₂ h tk E' hi' hvi hC hx' F' N' off ne
    obtain ⟨a, t, rfl, fa, fb, fc⟩ : ∃ (a : Str) (t : Tok), v = .str a t ∧ a.length ≤ 20 ∧ 0 ≤ Txt.count a (Str.ofString "\t") ∧ Txt.count a (Str.ofString "\t") ≤ 10 := by
      rcases two_at (by simpa using hvi) with rfl | rfl
      · exact ⟨_, _, rfl, f1, f2, f3⟩
      · exact ⟨_, _, rfl, f4, f5, f6⟩
    clear lF9 lN9
    (repeat' (first | ((with_reducible rename NoOwn => hNo9); clear hNo9) | (k_unfold; (try dsimp only)) | ((with_reducible refine Own.mk ?_); (first | (((with_reducible show wpAny _ _ (subscriptTail _ _ (Value.ref _) (Value.int _ _)) _ _ _); k_dflt (refine' item_lit ?k1 ?k2 ?k3 ?_ ?k6; (case k1 => exact News.isList (by k_asm) (by k_mem)); (case k2 => with_reducible assumption); (case k3 => first | with_reducible assumption | exact nth_push (by with_reducible assumption)); (case k6 => with_unfolding_all rfl); k_whole))) | ((k_here; (with_reducible show wpAny _ _ (compareOp _ (Value.int (0 + _) _) (Value.int 0 _)) _ _ _); (refine gt_int_yes ?e ?_); (case e => omega))) | ((k_here; (with_reducible show wpAny _ _ (compareOp _ (Value.int (0 + _) _) (Value.int 0 _)) _ _ _); (refine eq_int_no ?e ?_); (case e => omega))) | ((with_reducible show wpAny _ _ (compareOp CmpOp.IsNot (Value.bool _) (Value.bool _)) _ _ _); (k_here; (with_reducible refine isnot_same ?e ?_); (case e => with_reducible assumption))) | ((k_here; (with_reducible rename NextMark => hN9); (with_reducible show wpAny _ _ (compareOp CmpOp.NotEq (Value.ref _) (Value.ref _)) _ _ _); k_dflt (refine' ne_pair_no ?k1 ?k2 ?e1 ?e2 ?k7 ?_; (case k1 => exact News.isList (by k_asm) (by k_mem)); (case k2 => exact News.isList (by k_asm) (by k_mem)); (case e1 => with_reducible assumption); (case e2 => with_reducible assumption); (case k7 => ktr_units); k_whole); clear hN9)) | ((with_reducible show wpAny _ _ (compareOp CmpOp.Eq (Value.bytes _ _) (Value.bytes _ _)) _ _ _); (k_here; (refine eq_bytes_no (by assumption) ?_))) | ((k_here; (with_reducible show wpAny _ _ (subscriptTail _ (PySem.Expr.Slice _ _ none _) (Value.bytes _ _) (Value.ref _)) _ _ _); (with_reducible rename ToldF _ _ _ => hT9); (with_reducible rename Fr _ _ _ _ => F'); (with_reducible rename News _ _ _ _ => N'); (refine told_slice (s := ⟨_, _, _, _, _⟩) hT9 F' N' ?_); intro _ _ _ _ _ hP')) | ((with_reducible show wpAny _ _ (compareOp CmpOp.NotEq (Value.bytes _ _) (Value.bytes _ _)) _ _ _); (k_here; (refine ne_bytes_no ?e ?_); (case e => exact word_eq (by omega) (by omega)))) | ((with_reducible show wpAny _ _ (binaryOp _ (Value.bytes _ _) (Value.bytes _ _)) _ _ _); (k_here; (with_reducible rename ToldF _ _ _ => hT9); (refine word_add hT9 ?_); intro t' k')) | ((k_here; (with_reducible show wpAny _ _ (call (Value.builtin _) [Value.ref _, _]) _ _ _); k_dflt (refine' append_K ?k1 ?k2 ?k3 ?_ ?z; (case k1 => k_asm); (case k2 => k_asm); (case k3 => k_upd); (case z => exact Nat.le_of_ble_eq_true rfl); k_whole); intro h' F' N'; (try k_sweep))) | ((k_here; (with_reducible show wpAny _ _ (subscriptTail (PySem.Expr.Subscript _ _ _) _ (Value.ref _) (Value.int _ _)) _ _ _); k_dflt (refine' tup_lit ?k1 ?k2 ?k3 ?_ ?k6; (case k1 => exact News.isTup (by k_asm) (by k_mem)); (case k2 => exact rfl); (case k3 => exact rfl); (case k6 => with_unfolding_all rfl); k_whole))) | (((with_reducible show wpAny _ _ (subscriptTail _ _ (Value.ref _) (Value.int _ _)) _ _ _); k_dflt (refine' tup_lit ?k1 ?k2 ?k3 ?_ ?k6; (case k1 => exact News.isTup (by k_asm) (by k_mem)); (case k2 => exact rfl); (case k3 => exact rfl); (case k6 => with_unfolding_all rfl); k_whole))) | ((with_reducible show wpAny _ _ (compareOp CmpOp.IsNot (Value.bool _) (Value.bool _)) _ _ _); (k_here; (with_reducible refine isnot_same ?e ?_); (case e => first | exact eq_yes | exact eq_no (by with_reducible assumption) (by with_reducible assumption)))) | ((k_here; (with_reducible show wpAny _ _ (compareOp CmpOp.NotEq (Value.ref _) (Value.ref _)) _ _ _); k_dflt (refine' norm_ne_no ?k1 ?k2 ?k3 ?k4 ?k5 ?k6 ?e1 ?e2 ?k7 ?_; (case k1 => exact News.isTup (by k_asm) (by k_mem)); (case k4 => exact News.isTup (by k_asm) (by k_mem)); (case k2 => exact News.isTup (by k_asm) (by k_mem)); (case k5 => exact News.isTup (by k_asm) (by k_mem)); (case k3 => with_reducible assumption); (case k6 => with_reducible assumption); (case e1 => with_reducible assumption); (case e2 => with_reducible assumption); (case k7 => ktr_units); k_whole))) | (((with_reducible show wpAny _ _ (subscriptTail _ _ (Value.ref _) (Value.int _ _)) _ _ _); k_dflt (refine' item_lit ?k1 ?k2 ?k3 ?_ ?k6; (case k1 => exact News.isList (by k_asm) (by k_mem)); (case k2 => exact rfl); (case k3 => exact rfl); (case k6 => with_unfolding_all rfl); k_whole))) | ((k_here; (with_reducible show wpAny _ _ (subscriptTail _ _ (Value.ref _) (Value.int _ _)) _ _ _); k_dflt (refine' item_lit ?k1 ?k2 ?k3 ?_ ?k6; (case k1 => exact News.isList (by k_asm) (by k_mem)); (case k2 => exact rfl); (case k3 => exact rfl); (case k6 => with_unfolding_all rfl); k_whole))) | ((k_here; (with_reducible show wpAny _ _ (subscriptTail _ _ (Value.ref _) (Value.int _ _)) _ _ _); k_dflt (refine' item_anyT ?k1 ?k2 ?k3 ?k4 ?k5 ?_ ?k6; (case k1 => exact News.isTup (by k_asm) (by k_mem)); (case k2 => with_reducible assumption); (case k3 => omega); (case k4 => omega); (case k5 => omega); (case k6 => with_unfolding_all rfl); k_whole); intro _)) | ((k_here; (with_reducible show wpAny _ _ (call (Value.builtin "len") [Value.ref _]) _ _ _); k_dflt (refine' len_tupI ?k1 ?k2 ?k3 ?_; (case k1 => exact News.isTup (by k_asm) (by k_mem)); (case k2 => with_reducible assumption); (case k3 => omega); k_whole))) | ((k_here; (with_reducible show wpAny _ _ (call (Value.type _) [Value.ref _]) _ _ _); k_dflt (refine' kde_tupleOf ?k1 ?k2 ?k3 ?k4 ?k5 ?_; (case k1 => k_asm); (case k2 => k_asm); (case k3 => exact News.isList (by k_asm) (by k_mem)); (case k5 => exact rfl); (case k4 => (simp only [List.size_toArray]; (have hq9 := IntsAre.length (by assumption)); omega)); k_whole); intro D' h' F' N' l1; (try k_lt l1); (try k_sweep))) | ((with_reducible show wpAny _ _ (call (Value.ref _) _) _ _ _); (first | ((k_here; (with_reducible show wpAny _ _ (call (Value.ref 152) [Value.str _ _, Value.int _ _]) _ _ _); k_dflt (refine' deal_ok ?kB ?kF ?kX ?kN ?kT rfl ?kd ?ku ?k1 ?k2 ?k3 ?_; (case kB => k_asm); (case kF => k_asm); (case kX => assumption); (case kN => k_asm); (case kT => k_asm); (case kd => ktr_room); (case ku => ktr_units); (case k1 => omega); (case k2 => omega); (case k3 => omega)); intro t' h' tk' F' N'; (try dsimp only); (try k_sweep))))) | (have hNo9 := NoOwn.mk; walk1))) | ((fail_if_success (first | (first | (with_reducible show wpAny _ _ (exec (Stmt.While _ _ _ _) _) _ _ _) | (with_reducible show wpAny _ _ (pyIter _) (fun it s₂ => LoopAtV _ _ _ _ _ _ _ _ _ it s₂) _ _) | (with_reducible show wpAny _ _ (pyIter _) (fun it s₂ => PairAt3 _ _ _ _ _ _ _ _ _ _ it s₂) _ _)) | ((with_reducible show LCg.CompSrc _ _ _ _ _ _ _ _ _ _ _ _ _ _)) | ((with_reducible show SrcB _ _ _ _ _ _ _ _ _ _ _ _ _ _)))); (first | walk1 | (dsimp only; walk1) | (leave1; try dsimp only)))))
    exact PureEnd.intro (by assumption) (by assumption) (fun p hp => hp) ⟨_, _, _, rfl, rfl⟩
  intro ys hl hy
  obtain ⟨ta, tb, rfl⟩ := two_dealt (by simpa using hl) hy
  clear lF9 lN9 hy hl
  (repeat' (first | ((with_reducible rename NoOwn => hNo9); clear hNo9) | (k_unfold; (try dsimp only)) | ((with_reducible refine Own.mk ?_); (first | (((with_reducible show wpAny _ _ (subscriptTail _ _ (Value.ref _) (Value.int _ _)) _ _ _); k_dflt (refine' item_lit ?k1 ?k2 ?k3 ?_ ?k6; (case k1 => exact News.isList (by k_asm) (by k_mem)); (case k2 => with_reducible assumption); (case k3 => first | with_reducible assumption | exact nth_push (by with_reducible assumption)); (case k6 => with_unfolding_all rfl); k_whole))) | ((k_here; (with_reducible show wpAny _ _ (compareOp _ (Value.int (0 + _) _) (Value.int 0 _)) _ _ _); (refine gt_int_yes ?e ?_); (case e => omega))) | ((k_here; (with_reducible show wpAny _ _ (compareOp _ (Value.int (0 + _) _) (Value.int 0 _)) _ _ _); (refine eq_int_no ?e ?_); (case e => omega))) | ((with_reducible show wpAny _ _ (compareOp CmpOp.IsNot (Value.bool _) (Value.bool _)) _ _ _); (k_here; (with_reducible refine isnot_same ?e ?_); (case e => with_reducible assumption))) | ((k_here; (with_reducible rename NextMark => hN9); (with_reducible show wpAny _ _ (compareOp CmpOp.NotEq (Value.ref _) (Value.ref _)) _ _ _); k_dflt (refine' ne_pair_no ?k1 ?k2 ?e1 ?e2 ?k7 ?_; (case k1 => exact News.isList (by k_asm) (by k_mem)); (case k2 => exact News.isList (by k_asm) (by k_mem)); (case e1 => with_reducible assumption); (case e2 => with_reducible assumption); (case k7 => ktr_units); k_whole); clear hN9)) | ((with_reducible show wpAny _ _ (compareOp CmpOp.Eq (Value.bytes _ _) (Value.bytes _ _)) _ _ _); (k_here; (refine eq_bytes_no (by assumption) ?_))) | ((k_here; (with_reducible show wpAny _ _ (subscriptTail _ (PySem.Expr.Slice _ _ none _) (Value.bytes _ _) (Value.ref _)) _ _ _); (with_reducible rename ToldF _ _ _ => hT9); (with_reducible rename Fr _ _ _ _ => F'); (with_reducible rename News _ _ _ _ => N'); (refine told_slice (s := ⟨_, _, _, _, _⟩) hT9 F' N' ?_); intro _ _ _ _ _ hP')) | ((with_reducible show wpAny _ _ (compareOp CmpOp.NotEq (Value.bytes _ _) (Value.bytes _ _)) _ _ _); (k_here; (refine ne_bytes_no ?e ?_); (case e => exact word_eq (by omega) (by omega)))) | ((with_reducible show wpAny _ _ (binaryOp _ (Value.bytes _ _) (Value.bytes _ _)) _ _ _); (k_here; (with_reducible rename ToldF _ _ _ => hT9); (refine word_add hT9 ?_); intro t' k')) | ((k_here; (with_reducible show wpAny _ _ (call (Value.builtin _) [Value.ref _, _]) _ _ _); k_dflt (refine' append_K ?k1 ?k2 ?k3 ?_ ?z; (case k1 => k_asm); (case k2 => k_asm); (case k3 => k_upd); (case z => exact Nat.le_of_ble_eq_true rfl); k_whole); intro h' F' N'; (try k_sweep))) | ((k_here; (with_reducible show wpAny _ _ (subscriptTail (PySem.Expr.Subscript _ _ _) _ (Value.ref _) (Value.int _ _)) _ _ _); k_dflt (refine' tup_lit ?k1 ?k2 ?k3 ?_ ?k6; (case k1 => exact News.isTup (by k_asm) (by k_mem)); (case k2 => exact rfl); (case k3 => exact rfl); (case k6 => with_unfolding_all rfl); k_whole))) | (((with_reducible show wpAny _ _ (subscriptTail _ _ (Value.ref _) (Value.int _ _)) _ _ _); k_dflt (refine' tup_lit ?k1 ?k2 ?k3 ?_ ?k6; (case k1 => exact News.isTup (by k_asm) (by k_mem)); (case k2 => exact rfl); (case k3 => exact rfl); (case k6 => with_unfolding_all rfl); k_whole))) | ((with_reducible show wpAny _ _ (compareOp CmpOp.IsNot (Value.bool _) (Value.bool _)) _ _ _); (k_here; (with_reducible refine isnot_same ?e ?_); (case e => first | exact eq_yes | exact eq_no (by with_reducible assumption) (by with_reducible assumption)))) | ((k_here; (with_reducible show wpAny _ _ (compareOp CmpOp.NotEq (Value.ref _) (Value.ref _)) _ _ _); k_dflt (refine' norm_ne_no ?k1 ?k2 ?k3 ?k4 ?k5 ?k6 ?e1 ?e2 ?k7 ?_; (case k1 => exact News.isTup (by k_asm) (by k_mem)); (case k4 => exact News.isTup (by k_asm) (by k_mem)); (case k2 => exact News.isTup (by k_asm) (by k_mem)); (case k5 => exact News.isTup (by k_asm) (by k_mem)); (case k3 => with_reducible assumption); (case k6 => with_reducible assumption); (case e1 => with_reducible assumption); (case e2 => with_reducible assumption); (case k7 => ktr_units); k_whole))) | (((with_reducible show wpAny _ _ (subscriptTail _ _ (Value.ref _) (Value.int _ _)) _ _ _); k_dflt (refine' item_lit ?k1 ?k2 ?k3 ?_ ?k6; (case k1 => exact News.isList (by k_asm) (by k_mem)); (case k2 => exact rfl); (case k3 => exact rfl); (case k6 => with_unfolding_all rfl); k_whole))) | ((k_here; (with_reducible show wpAny _ _ (subscriptTail _ _ (Value.ref _) (Value.int _ _)) _ _ _); k_dflt (refine' item_lit ?k1 ?k2 ?k3 ?_ ?k6; (case k1 => exact News.isList (by k_asm) (by k_mem)); (case k2 => exact rfl); (case k3 => exact rfl); (case k6 => with_unfolding_all rfl); k_whole))) | ((k_here; (with_reducible show wpAny _ _ (subscriptTail _ _ (Value.ref _) (Value.int _ _)) _ _ _); k_dflt (refine' item_anyT ?k1 ?k2 ?k3 ?k4 ?k5 ?_ ?k6; (case k1 => exact News.isTup (by k_asm) (by k_mem)); (case k2 => with_reducible assumption); (case k3 => omega); (case k4 => omega); (case k5 => omega); (case k6 => with_unfolding_all rfl); k_whole); intro _)) | ((k_here; (with_reducible show wpAny _ _ (call (Value.builtin "len") [Value.ref _]) _ _ _); k_dflt (refine' len_tupI ?k1 ?k2 ?k3 ?_; (case k1 => exact News.isTup (by k_asm) (by k_mem)); (case k2 => with_reducible assumption); (case k3 => omega); k_whole))) | ((k_here; (with_reducible show wpAny _ _ (call (Value.type _) [Value.ref _]) _ _ _); k_dflt (refine' kde_tupleOf ?k1 ?k2 ?k3 ?k4 ?k5 ?_; (case k1 => k_asm); (case k2 => k_asm); (case k3 => exact News.isList (by k_asm) (by k_mem)); (case k5 => exact rfl); (case k4 => (simp only [List.size_toArray]; (have hq9 := IntsAre.length (by assumption)); omega)); k_whole); intro D' h' F' N' l1; (try k_lt l1); (try k_sweep))) | ((with_reducible show wpAny _ _ (call (Value.ref _) _) _ _ _); (first | ((k_here; (with_reducible show wpAny _ _ (call (Value.ref 152) [Value.str _ _, Value.int _ _]) _ _ _); k_dflt (refine' deal_ok ?kB ?kF ?kX ?kN ?kT rfl ?kd ?ku ?k1 ?k2 ?k3 ?_; (case kB => k_asm); (case kF => k_asm); (case kX => assumption); (case kN => k_asm); (case kT => k_asm); (case kd => ktr_room); (case ku => ktr_units); (case k1 => omega); (case k2 => omega); (case k3 => omega)); intro t' h' tk' F' N'; (try dsimp only); (try k_sweep))))) | (have hNo9 := NoOwn.mk; walk1))) | ((fail_if_success (first | (first | (with_reducible show wpAny _ _ (exec (Stmt.While _ _ _ _) _) _ _ _) | (with_reducible show wpAny _ _ (pyIter _) (fun it s₂ => LoopAtV _ _ _ _ _ _ _ _ _ it s₂) _ _) | (with_reducible show wpAny _ _ (pyIter _) (fun it s₂ => PairAt3 _ _ _ _ _ _ _ _ _ _ it s₂) _ _)) | ((with_reducible show LCg.CompSrc _ _ _ _ _ _ _ _ _ _ _ _ _ _)) | ((with_reducible show SrcB _ _ _ _ _ _ _ _ _ _ _ _ _ _)))); (first | walk1 | (dsimp only; walk1) | (leave1; try dsimp only)))))
  (with_reducible rename Fr _ _ _ _ => lF9)
  (with_reducible rename News _ _ _ _ => lN9)
  refine' hret _ _ _ _ _ _ lF9 ?kL (OffH.sub ?ko ?ko2) ?kN
  case kN => exact List.forall_mem_cons.mpr ⟨lN9 _ (by k_mem), List.forall_mem_cons.mpr ⟨lN9 _ (by k_mem), fun p hp => lN9 p (by (repeat' first | exact hp | apply List.Mem.tail))⟩⟩
  case kL => with_reducible assumption
  case ko => with_reducible assumption
  case ko2 => exact List.forall_mem_cons.mpr ⟨by k_mem, fun x hx => by (repeat' first | exact hx | apply List.Mem.tail)⟩
end
end
section
local macro_rules | `(tactic| walk_at "subscriptTail Name Constant ref int") => `(tactic| walk_at "own")
local macro_rules | `(tactic| walk_at "eval ListComp") => `(tactic| (k_here; k_dflt (refine LCg.ListComp_U (F₀ := by k_asm) (by rfl) (by decide) (by rfl) (by decide) (by rfl) ?_)))
section
local macro_rules | `(tactic| passes_own) => `(tactic| with_reducible assumption)
/-- the body of the loop over the first leads -/
theorem leadT_ok {w : World} {loose : List Str} {mean : ExcName → Option Value} {mg mb : Str → Option Value} {h₀ : Heap} {L fx rr : Addr} {sc : Scope} {code : List Stmt} {m : Str → Option Value} {s : Shared} {Q : Flow → Shared → Prop} {E : Value → Shared → Prop} {nt : List (Addr × Obj)}
    (hsc : sc = lawDef.scope) (hcode : code = forB (nthS lawDef.body 7))
    (K0 : Below callerA h₀ [] h₀) (F : Fr h₀ L s.heap m) (KX : (hd2.heap_39 w.params).In h₀) (T : Top hd2.view_39 loose mean mg mb h₀)
    {lD : Addr} {oR : Obj} {t td1 td2 td3 tr : Tok} {kD : Nat} {d d1 d2 d3 : Int}
    (hE : PassesOwn (model PySem.Challenge.rw_xb0022_02.row.prog w) (callerA.deeper (envOfC (Str.ofString "law") sc L fx (.ref rr))) (envOfC (Str.ofString "law") sc L fx (.ref rr)) E) (m1 : m (Str.ofString "lead") = some (.str (firstS d) t)) (m6 : m (Str.ofString "draws") = some (.ref lD))
    (nlD : (lD, PySem.W.listOf #[.int d1 td1, .int d2 td2, .int d3 td3] kD) ∈ nt) (nR : (L + 1, oR) ∈ nt) (hR : oR.data = .cell (some (.int (d3.fmod 4) tr)))
    (m4 : 0 ≤ d3.fmod 4 ∧ d3.fmod 4 < 4) (m3 : 0 ≤ d3.fmod 3 ∧ d3.fmod 3 < 3) (hd3 : 0 ≤ d3 ∧ d3 ≤ 64000000) (hl20 : (firstS d).length ≤ 20)
    (N : News h₀ L s.heap nt)
    (hret : ∀ (h' : Heap) (tk' : Nat) (m' : Str → Option Value), (∀ z, z ≠ Str.ofString "typed" → z ≠ Str.ofString "size" → m' z = m z) → Fr h₀ L h' m' → News h₀ L h' nt → Q .next { s with heap := h', toks := tk' }) :
    wpAny (model PySem.Challenge.rw_xb0022_02.row.prog w) (callerA.deeper (envOfC (Str.ofString "law") sc L fx (.ref rr))) (execs code (envOfC (Str.ofString "law") sc L fx (.ref rr))) Q E s := by
  simp only [lawDef, nthS, forB] at hsc hcode
  subst hsc hcode
  revert KX; k_fill; intro KX
  have hMk := kstMark
  have hp0 : ∀ p ∈ [(Str.ofString "lead", Value.str (firstS d) t), (Str.ofString "draws", Value.ref lD)], m (p : Str × Value).1 = some p.2 := List.forall_mem_cons.mpr ⟨m1, List.forall_mem_cons.mpr ⟨m6, List.forall_mem_nil _⟩⟩
  have F0 := fr_pickL [(Str.ofString "lead", Value.str (firstS d) t), (Str.ofString "draws", Value.ref lD)] hp0 F
  simp only [pickF] at F0
  have eq0 := pickF_eq hp0
  have N0 : News h₀ L s.heap ((lD, PySem.W.listOf #[.int d1 td1, .int d2 td2, .int d3 td3] kD) :: (L + 1, oR) :: nt) := List.forall_mem_cons.mpr ⟨N _ nlD, List.forall_mem_cons.mpr ⟨N _ nR, N⟩⟩
  clear N F nlD nR
  have lX : (Str.ofString "x \t").length = 3 := by decide +kernel
  have hcol := fun (k : Int) (h : 1 ≤ k) => il_col (first_signs d) m4.1 h
  walk1
  (repeat' (first | ((with_reducible rename NoOwn => hNo9); clear hNo9) | (k_unfold; (try dsimp only)) | ((with_reducible refine Own.mk ?_); (first | (((with_reducible show wpAny _ _ (subscriptTail _ _ (Value.ref _) (Value.int _ _)) _ _ _); k_dflt (refine' item_lit ?k1 ?k2 ?k3 ?_ ?k6; (case k1 => exact News.isList (by k_asm) (by k_mem)); (case k2 => exact rfl); (case k3 => exact rfl); (case k6 => with_unfolding_all rfl); k_whole))) | ((k_here; (with_reducible show wpAny _ _ (subscriptTail _ _ (Value.ref _) (Value.int _ _)) _ _ _); k_dflt (refine' item_lit ?k1 ?k2 ?k3 ?_ ?k6; (case k1 => exact News.isList (by k_asm) (by k_mem)); (case k2 => exact rfl); (case k3 => exact rfl); (case k6 => with_unfolding_all rfl); k_whole))) | ((k_here; (with_reducible show wpAny _ _ (subscriptTail _ _ (Value.ref _) (Value.int _ _)) _ _ _); k_dflt (refine' tail_item ?k1 ?k2 ?k3 (tail_four _) ?_ ?k6; (case k1 => exact News.isList (by k_asm) (by k_mem)); (case k2 => exact Int.fmod_nonneg_of_pos _ (by decide)); (case k3 => exact Int.fmod_lt_of_pos _ (by decide)); (case k6 => with_unfolding_all rfl); k_whole); intro tl9 t9 hl9 hT9)) | ((k_here; (with_reducible show wpAny _ _ (subscriptTail _ _ (Value.ref _) (Value.int _ _)) _ _ _); k_dflt (refine' item_anyT ?k1 ?k2 ?k3 ?k4 ?k5 ?_ ?k6; (case k1 => exact News.isTup (by k_asm) (by k_mem)); (case k2 => with_reducible assumption); (case k3 => omega); (case k4 => omega); (case k5 => omega); (case k6 => with_unfolding_all rfl); k_whole); intro _)) | ((k_here; (with_reducible show wpAny _ _ (call (Value.builtin "len") [Value.ref _]) _ _ _); k_dflt (refine' len_tupI ?k1 ?k2 ?k3 ?_; (case k1 => exact News.isTup (by k_asm) (by k_mem)); (case k2 => with_reducible assumption); (case k3 => omega); k_whole))) | ((k_here; (with_reducible show wpAny _ _ (call (Value.type _) [Value.ref _]) _ _ _); k_dflt (refine' kde_tupleOf ?k1 ?k2 ?k3 ?k4 ?k5 ?_; (case k1 => k_asm); (case k2 => k_asm); (case k3 => exact News.isList (by k_asm) (by k_mem)); (case k5 => exact rfl); (case k4 => (simp only [List.size_toArray]; (have hq9 := IntsAre.length (by assumption)); omega)); k_whole); intro D' h' F' N' l1; (try k_lt l1); (try k_sweep))) | ((with_reducible show wpAny _ _ (call (Value.ref _) _) _ _ _); (first | ((k_here; (with_reducible show wpAny _ _ (call (Value.ref 52) [Value.ref _, Value.int _ _]) _ _ _); k_dflt (refine' il_ok ?kB ?kF ?kX ?kN ?kT rfl ?kd ?ku ?kW ?kv ?kb ?k0 ?k1 ?_; (case kB => k_asm); (case kF => k_asm); (case kX => assumption); (case kN => k_asm); (case kT => k_asm); (case kd => ktr_room); (case ku => ktr_units); (case kW => ((with_reducible rename News _ _ _ _ => nW9); exact kst_newsOf nW9 (by kst_in))); (case kv => with_reducible assumption); (case kb => with_reducible assumption); (case k0 => omega); (case k1 => omega)); intro t' h' tk' F' N'; (try dsimp only); (try k_sweep))) | ((k_here; (with_reducible show wpAny _ _ (call (Value.ref 83) [Value.str _ _]) _ _ _); k_dflt (refine' ws_ok ?kB ?kF ?kX ?kN ?kT rfl ?kd ?ku ?k1 ?_; (case kB => k_asm); (case kF => k_asm); (case kX => assumption); (case kN => k_asm); (case kT => k_asm); (case kd => ktr_room); (case ku => ktr_units); (case k1 => omega)); intro a' d' tn' tc' vs' t' h' tk' hv' hb' l1' l2' l3' l4' F' N'; (try simp only [wsLed, List.cons_append, List.nil_append] at N'); (try dsimp only); (try k_lt l1'); (try k_sweep))) | ((k_here; (with_reducible show wpAny _ _ (call (Value.ref 147) [Value.str _ _, Value.int _ _]) _ _ _); k_dflt (refine' column_ok ?kB ?kF ?kX ?kN ?kT rfl ?kd ?ku ?k1 ?k2 ?k3 ?_; (case kB => k_asm); (case kF => k_asm); (case kX => assumption); (case kN => k_asm); (case kT => k_asm); (case kd => ktr_room); (case ku => ktr_units); (case k1 => omega); (case k2 => omega); (case k3 => omega)); intro t' h' tk' hl' F' N'; (try dsimp only); (try k_sweep))) | ((k_here; (with_reducible show wpAny _ _ (call (Value.ref 133) [Value.ref _]) _ _ _); k_dflt (refine' draws_ok ?kB ?kF ?kX ?kN ?kT rfl ?kd ?ku ?k1 ?k2 ?k3 ?_; (case kB => k_asm); (case kF => k_asm); (case kX => assumption); (case kN => k_asm); (case kT => k_asm); (case kd => ktr_room); (case ku => ktr_units); (case k1 => assumption); (case k2 => assumption); (case k3 => omega)); intro r' d1 d2 d3 td1 td2 td3 h' tk' g0' g1' g2' l1' F' N'; (have m4' := fmod_bd d3 4 (by decide)); (have m3' := fmod_bd d3 3 (by decide)); (have m5' := fmod_bd d1 5 (by decide)); (have m6' := fmod_bd d2 5 (by decide)); (try dsimp only); (try k_lt l1'); (try k_sweep))))) | (have hNo9 := NoOwn.mk; walk1))) | ((fail_if_success (first | (first | (with_reducible show wpAny _ _ (exec (Stmt.While _ _ _ _) _) _ _ _) | (with_reducible show wpAny _ _ (pyIter _) (fun it s₂ => LoopAtV _ _ _ _ _ _ _ _ _ it s₂) _ _) | (with_reducible show wpAny _ _ (pyIter _) (fun it s₂ => PairAt3 _ _ _ _ _ _ _ _ _ _ it s₂) _ _)) | ((with_reducible show LCg.CompSrc _ _ _ _ _ _ _ _ _ _ _ _ _ _)))); (first | walk1 | (dsimp only; walk1) | (leave1; try dsimp only)))))
  with_reducible rename Fr _ _ _ _ => lF9
  with_reducible rename News _ _ _ _ => lN9
  with_unfolding_all refine' free_list0 [] ?hc ?hd ?km (by rfl) lF9 lN9 ?turn2 ?done2
  case km => k_mem
  case hc => exact rfl
  case hd => exact rfl
  case turn2 =>
    intro i v u h tk own hv hoff2 F' N'
    clear lF9 lN9
    obtain ⟨k, t, rfl, hk0, hk1⟩ : ∃ (k : Int) (t : Tok), v = .int k t ∧ 1 ≤ k ∧ k ≤ 1000 := by
      rcases three_at hv with rfl | rfl | rfl
      all_goals exact ⟨_, _, rfl, by omega, by omega⟩
    simp only [List.cons_append, List.nil_append] at N'
    clear hv
    have hcol := hcol k hk0
    k_sweep
    (repeat' (first | ((with_reducible rename NoOwn => hNo9); clear hNo9) | (k_unfold; (try dsimp only)) | ((with_reducible refine Own.mk ?_); (first | (((with_reducible show wpAny _ _ (subscriptTail _ _ (Value.ref _) (Value.int _ _)) _ _ _); k_dflt (refine' item_lit ?k1 ?k2 ?k3 ?_ ?k6; (case k1 => exact News.isList (by k_asm) (by k_mem)); (case k2 => exact rfl); (case k3 => exact rfl); (case k6 => with_unfolding_all rfl); k_whole))) | ((k_here; (with_reducible show wpAny _ _ (subscriptTail _ _ (Value.ref _) (Value.int _ _)) _ _ _); k_dflt (refine' item_lit ?k1 ?k2 ?k3 ?_ ?k6; (case k1 => exact News.isList (by k_asm) (by k_mem)); (case k2 => exact rfl); (case k3 => exact rfl); (case k6 => with_unfolding_all rfl); k_whole))) | ((k_here; (with_reducible show wpAny _ _ (subscriptTail _ _ (Value.ref _) (Value.int _ _)) _ _ _); k_dflt (refine' tail_item ?k1 ?k2 ?k3 (tail_four _) ?_ ?k6; (case k1 => exact News.isList (by k_asm) (by k_mem)); (case k2 => exact Int.fmod_nonneg_of_pos _ (by decide)); (case k3 => exact Int.fmod_lt_of_pos _ (by decide)); (case k6 => with_unfolding_all rfl); k_whole); intro tl9 t9 hl9 hT9)) | ((k_here; (with_reducible show wpAny _ _ (subscriptTail _ _ (Value.ref _) (Value.int _ _)) _ _ _); k_dflt (refine' item_anyT ?k1 ?k2 ?k3 ?k4 ?k5 ?_ ?k6; (case k1 => exact News.isTup (by k_asm) (by k_mem)); (case k2 => with_reducible assumption); (case k3 => omega); (case k4 => omega); (case k5 => omega); (case k6 => with_unfolding_all rfl); k_whole); intro _)) | ((k_here; (with_reducible show wpAny _ _ (call (Value.builtin "len") [Value.ref _]) _ _ _); k_dflt (refine' len_tupI ?k1 ?k2 ?k3 ?_; (case k1 => exact News.isTup (by k_asm) (by k_mem)); (case k2 => with_reducible assumption); (case k3 => omega); k_whole))) | ((k_here; (with_reducible show wpAny _ _ (call (Value.type _) [Value.ref _]) _ _ _); k_dflt (refine' kde_tupleOf ?k1 ?k2 ?k3 ?k4 ?k5 ?_; (case k1 => k_asm); (case k2 => k_asm); (case k3 => exact News.isList (by k_asm) (by k_mem)); (case k5 => exact rfl); (case k4 => (simp only [List.size_toArray]; (have hq9 := IntsAre.length (by assumption)); omega)); k_whole); intro D' h' F' N' l1; (try k_lt l1); (try k_sweep))) | ((with_reducible show wpAny _ _ (call (Value.ref _) _) _ _ _); (first | ((k_here; (with_reducible show wpAny _ _ (call (Value.ref 52) [Value.ref _, Value.int _ _]) _ _ _); k_dflt (refine' il_ok ?kB ?kF ?kX ?kN ?kT rfl ?kd ?ku ?kW ?kv ?kb ?k0 ?k1 ?_; (case kB => k_asm); (case kF => k_asm); (case kX => assumption); (case kN => k_asm); (case kT => k_asm); (case kd => ktr_room); (case ku => ktr_units); (case kW => ((with_reducible rename News _ _ _ _ => nW9); exact kst_newsOf nW9 (by kst_in))); (case kv => with_reducible assumption); (case kb => with_reducible assumption); (case k0 => omega); (case k1 => omega)); intro t' h' tk' F' N'; (try dsimp only); (try k_sweep))) | ((k_here; (with_reducible show wpAny _ _ (call (Value.ref 83) [Value.str _ _]) _ _ _); k_dflt (refine' ws_ok ?kB ?kF ?kX ?kN ?kT rfl ?kd ?ku ?k1 ?_; (case kB => k_asm); (case kF => k_asm); (case kX => assumption); (case kN => k_asm); (case kT => k_asm); (case kd => ktr_room); (case ku => ktr_units); (case k1 => omega)); intro a' d' tn' tc' vs' t' h' tk' hv' hb' l1' l2' l3' l4' F' N'; (try simp only [wsLed, List.cons_append, List.nil_append] at N'); (try dsimp only); (try k_lt l1'); (try k_sweep))) | ((k_here; (with_reducible show wpAny _ _ (call (Value.ref 147) [Value.str _ _, Value.int _ _]) _ _ _); k_dflt (refine' column_ok ?kB ?kF ?kX ?kN ?kT rfl ?kd ?ku ?k1 ?k2 ?k3 ?_; (case kB => k_asm); (case kF => k_asm); (case kX => assumption); (case kN => k_asm); (case kT => k_asm); (case kd => ktr_room); (case ku => ktr_units); (case k1 => omega); (case k2 => omega); (case k3 => omega)); intro t' h' tk' hl' F' N'; (try dsimp only); (try k_sweep))) | ((k_here; (with_reducible show wpAny _ _ (call (Value.ref 133) [Value.ref _]) _ _ _); k_dflt (refine' draws_ok ?kB ?kF ?kX ?kN ?kT rfl ?kd ?ku ?k1 ?k2 ?k3 ?_; (case kB => k_asm); (case kF => k_asm); (case kX => assumption); (case kN => k_asm); (case kT => k_asm); (case kd => ktr_room); (case ku => ktr_units); (case k1 => assumption); (case k2 => assumption); (case k3 => omega)); intro r' d1 d2 d3 td1 td2 td3 h' tk' g0' g1' g2' l1' F' N'; (have m4' := fmod_bd d3 4 (by decide)); (have m3' := fmod_bd d3 3 (by decide)); (have m5' := fmod_bd d1 5 (by decide)); (have m6' := fmod_bd d2 5 (by decide)); (try dsimp only); (try k_lt l1'); (try k_sweep))))) | (have hNo9 := NoOwn.mk; walk1))) | ((fail_if_success (first | (first | (with_reducible show wpAny _ _ (exec (Stmt.While _ _ _ _) _) _ _ _) | (with_reducible show wpAny _ _ (pyIter _) (fun it s₂ => LoopAtV _ _ _ _ _ _ _ _ _ it s₂) _ _) | (with_reducible show wpAny _ _ (pyIter _) (fun it s₂ => PairAt3 _ _ _ _ _ _ _ _ _ _ it s₂) _ _)) | ((with_reducible show LCg.CompSrc _ _ _ _ _ _ _ _ _ _ _ _ _ _)))); (first | walk1 | (dsimp only; walk1) | (leave1; try dsimp only)))))
    all_goals first
      | exact absurd hcol (by with_reducible assumption)
      | (((refine' FPost.next () ?kF ?kN ?kl ?ko ?kf ?kk ?km ?kP; (case kF => assumption); (case kN => assumption); (case kl => kst_in); (case ko => (intro p hp; kst_mem)); (case kf => ((rename OwnOff _ _ => hoff9); exact off_of hoff9)); (case kk => exact fun _ h => nomatch h); (case km => kst_same); (case kP => trivial))))
  case done2 =>
    intro u h tk F' N'
    clear lF9 lN9
    k_sweep
    (repeat' (first | ((with_reducible rename NoOwn => hNo9); clear hNo9) | (k_unfold; (try dsimp only)) | ((with_reducible refine Own.mk ?_); (first | (((with_reducible show wpAny _ _ (subscriptTail _ _ (Value.ref _) (Value.int _ _)) _ _ _); k_dflt (refine' item_lit ?k1 ?k2 ?k3 ?_ ?k6; (case k1 => exact News.isList (by k_asm) (by k_mem)); (case k2 => exact rfl); (case k3 => exact rfl); (case k6 => with_unfolding_all rfl); k_whole))) | ((k_here; (with_reducible show wpAny _ _ (subscriptTail _ _ (Value.ref _) (Value.int _ _)) _ _ _); k_dflt (refine' item_lit ?k1 ?k2 ?k3 ?_ ?k6; (case k1 => exact News.isList (by k_asm) (by k_mem)); (case k2 => exact rfl); (case k3 => exact rfl); (case k6 => with_unfolding_all rfl); k_whole))) | ((k_here; (with_reducible show wpAny _ _ (subscriptTail _ _ (Value.ref _) (Value.int _ _)) _ _ _); k_dflt (refine' tail_item ?k1 ?k2 ?k3 (tail_four _) ?_ ?k6; (case k1 => exact News.isList (by k_asm) (by k_mem)); (case k2 => exact Int.fmod_nonneg_of_pos _ (by decide)); (case k3 => exact Int.fmod_lt_of_pos _ (by decide)); (case k6 => with_unfolding_all rfl); k_whole); intro tl9 t9 hl9 hT9)) | ((k_here; (with_reducible show wpAny _ _ (subscriptTail _ _ (Value.ref _) (Value.int _ _)) _ _ _); k_dflt (refine' item_anyT ?k1 ?k2 ?k3 ?k4 ?k5 ?_ ?k6; (case k1 => exact News.isTup (by k_asm) (by k_mem)); (case k2 => with_reducible assumption); (case k3 => omega); (case k4 => omega); (case k5 => omega); (case k6 => with_unfolding_all rfl); k_whole); intro _)) | ((k_here; (with_reducible show wpAny _ _ (call (Value.builtin "len") [Value.ref _]) _ _ _); k_dflt (refine' len_tupI ?k1 ?k2 ?k3 ?_; (case k1 => exact News.isTup (by k_asm) (by k_mem)); (case k2 => with_reducible assumption); (case k3 => omega); k_whole))) | ((k_here; (with_reducible show wpAny _ _ (call (Value.type _) [Value.ref _]) _ _ _); k_dflt (refine' kde_tupleOf ?k1 ?k2 ?k3 ?k4 ?k5 ?_; (case k1 => k_asm); (case k2 => k_asm); (case k3 => exact News.isList (by k_asm) (by k_mem)); (case k5 => exact rfl); (case k4 => (simp only [List.size_toArray]; (have hq9 := IntsAre.length (by assumption)); omega)); k_whole); intro D' h' F' N' l1; (try k_lt l1); (try k_sweep))) | ((with_reducible show wpAny _ _ (call (Value.ref _) _) _ _ _); (first | ((k_here; (with_reducible show wpAny _ _ (call (Value.ref 52) [Value.ref _, Value.int _ _]) _ _ _); k_dflt (refine' il_ok ?kB ?kF ?kX ?kN ?kT rfl ?kd ?ku ?kW ?kv ?kb ?k0 ?k1 ?_; (case kB => k_asm); (case kF => k_asm); (case kX => assumption); (case kN => k_asm); (case kT => k_asm); (case kd => ktr_room); (case ku => ktr_units); (case kW => ((with_reducible rename News _ _ _ _ => nW9); exact kst_newsOf nW9 (by kst_in))); (case kv => with_reducible assumption); (case kb => with_reducible assumption); (case k0 => omega); (case k1 => omega)); intro t' h' tk' F' N'; (try dsimp only); (try k_sweep))) | ((k_here; (with_reducible show wpAny _ _ (call (Value.ref 83) [Value.str _ _]) _ _ _); k_dflt (refine' ws_ok ?kB ?kF ?kX ?kN ?kT rfl ?kd ?ku ?k1 ?_; (case kB => k_asm); (case kF => k_asm); (case kX => assumption); (case kN => k_asm); (case kT => k_asm); (case kd => ktr_room); (case ku => ktr_units); (case k1 => omega)); intro a' d' tn' tc' vs' t' h' tk' hv' hb' l1' l2' l3' l4' F' N'; (try simp only [wsLed, List.cons_append, List.nil_append] at N'); (try dsimp only); (try k_lt l1'); (try k_sweep))) | ((k_here; (with_reducible show wpAny _ _ (call (Value.ref 147) [Value.str _ _, Value.int _ _]) _ _ _); k_dflt (refine' column_ok ?kB ?kF ?kX ?kN ?kT rfl ?kd ?ku ?k1 ?k2 ?k3 ?_; (case kB => k_asm); (case kF => k_asm); (case kX => assumption); (case kN => k_asm); (case kT => k_asm); (case kd => ktr_room); (case ku => ktr_units); (case k1 => omega); (case k2 => omega); (case k3 => omega)); intro t' h' tk' hl' F' N'; (try dsimp only); (try k_sweep))) | ((k_here; (with_reducible show wpAny _ _ (call (Value.ref 133) [Value.ref _]) _ _ _); k_dflt (refine' draws_ok ?kB ?kF ?kX ?kN ?kT rfl ?kd ?ku ?k1 ?k2 ?k3 ?_; (case kB => k_asm); (case kF => k_asm); (case kX => assumption); (case kN => k_asm); (case kT => k_asm); (case kd => ktr_room); (case ku => ktr_units); (case k1 => assumption); (case k2 => assumption); (case k3 => omega)); intro r' d1 d2 d3 td1 td2 td3 h' tk' g0' g1' g2' l1' F' N'; (have m4' := fmod_bd d3 4 (by decide)); (have m3' := fmod_bd d3 3 (by decide)); (have m5' := fmod_bd d1 5 (by decide)); (have m6' := fmod_bd d2 5 (by decide)); (try dsimp only); (try k_lt l1'); (try k_sweep))))) | (have hNo9 := NoOwn.mk; walk1))) | ((fail_if_success (first | (first | (with_reducible show wpAny _ _ (exec (Stmt.While _ _ _ _) _) _ _ _) | (with_reducible show wpAny _ _ (pyIter _) (fun it s₂ => LoopAtV _ _ _ _ _ _ _ _ _ it s₂) _ _) | (with_reducible show wpAny _ _ (pyIter _) (fun it s₂ => PairAt3 _ _ _ _ _ _ _ _ _ _ it s₂) _ _)) | ((with_reducible show LCg.CompSrc _ _ _ _ _ _ _ _ _ _ _ _ _ _)))); (first | walk1 | (dsimp only; walk1) | (leave1; try dsimp only)))))
    (with_reducible rename Fr _ _ _ _ => lF8)
    (with_reducible rename News _ _ _ _ => lN8)
    refine' hret _ _ _ (fun z h1 h2 => ?ke) lF8 (fun p hp => lN8 p ?kN)
    case kN => (repeat' first | exact hp | apply List.Mem.tail)
    case ke =>
      simp only [if_neg h2, if_neg h1, List.contains_nil, Bool.false_eq_true, if_false]
      exact congrFun eq0 z
end
end
section
local macro_rules | `(tactic| walk_at "subscriptTail Name Constant ref int") => `(tactic| walk_at "own")
local macro_rules | `(tactic| walk_at "eval ListComp") => `(tactic| (k_here; k_dflt (refine LCg.ListComp_U (F₀ := by k_asm) (by rfl) (by decide) (by rfl) (by decide) (by rfl) ?_)))
local macro_rules | `(tactic| walk_at "FinE") => `(tactic| ((unfold LCg.FinE); intro D' h' tk' F' N' o1'; (replace o1' := offH_of o1'); (try simp only [List.map_cons, List.map_nil] at o1'); (try simp only [List.nil_append, List.cons_append] at N'); (try dsimp only)))
local macro_rules | `(tactic| k_ne) => `(tactic| ((refine neN ?_); (try dsimp only); (first | ((with_reducible refine OffH.ne1 (by assumption) ?_); k_mem) | ((with_reducible refine OffH.ne2 (by assumption) ?_); k_mem) | omega)))
theorem law2 : PySem.Challenge.rw_xb0022_02.Holds := hd2 (by
  k_go0
  all_goals try k_fold
  have hMk := kstMark
  (repeat' (first | ((with_reducible rename NoOwn => hNo9); clear hNo9) | (k_unfold; (try dsimp only)) | ((with_reducible refine Own.mk ?_); (first | (((with_reducible show wpAny _ _ (subscriptTail _ _ (Value.ref _) (Value.int _ _)) _ _ _); k_dflt (refine' item_lit ?k1 ?k2 ?k3 ?_ ?k6; (case k1 => exact News.isList (by k_asm) (by k_mem)); (case k2 => exact rfl); (case k3 => exact rfl); (case k6 => with_unfolding_all rfl); k_whole))) | ((k_here; (with_reducible show wpAny _ _ (subscriptTail _ _ (Value.ref _) (Value.int _ _)) _ _ _); k_dflt (refine' item_lit ?k1 ?k2 ?k3 ?_ ?k6; (case k1 => exact News.isList (by k_asm) (by k_mem)); (case k2 => exact rfl); (case k3 => exact rfl); (case k6 => with_unfolding_all rfl); k_whole))) | ((k_here; (with_reducible show wpAny _ _ (subscriptTail _ _ (Value.ref _) (Value.int _ _)) _ _ _); k_dflt (refine' tail_item ?k1 ?k2 ?k3 (tail_four _) ?_ ?k6; (case k1 => exact News.isList (by k_asm) (by k_mem)); (case k2 => exact Int.fmod_nonneg_of_pos _ (by decide)); (case k3 => exact Int.fmod_lt_of_pos _ (by decide)); (case k6 => with_unfolding_all rfl); k_whole); intro tl9 t9 hl9 hT9)) | ((k_here; (with_reducible show wpAny _ _ (subscriptTail _ _ (Value.ref _) (Value.int _ _)) _ _ _); k_dflt (refine' item_anyT ?k1 ?k2 ?k3 ?k4 ?k5 ?_ ?k6; (case k1 => exact News.isTup (by k_asm) (by k_mem)); (case k2 => with_reducible assumption); (case k3 => omega); (case k4 => omega); (case k5 => omega); (case k6 => with_unfolding_all rfl); k_whole); intro _)) | ((k_here; (with_reducible show wpAny _ _ (call (Value.builtin "len") [Value.ref _]) _ _ _); k_dflt (refine' len_tupI ?k1 ?k2 ?k3 ?_; (case k1 => exact News.isTup (by k_asm) (by k_mem)); (case k2 => with_reducible assumption); (case k3 => omega); k_whole))) | ((k_here; (with_reducible show wpAny _ _ (call (Value.type _) [Value.ref _]) _ _ _); k_dflt (refine' kde_tupleOf ?k1 ?k2 ?k3 ?k4 ?k5 ?_; (case k1 => k_asm); (case k2 => k_asm); (case k3 => exact News.isList (by k_asm) (by k_mem)); (case k5 => exact rfl); (case k4 => (simp only [List.size_toArray]; (have hq9 := IntsAre.length (by assumption)); omega)); k_whole); intro D' h' F' N' l1; (try k_lt l1); (try k_sweep))) | ((with_reducible show wpAny _ _ (call (Value.ref _) _) _ _ _); (first | ((k_here; (with_reducible show wpAny _ _ (call (Value.ref 140) [Value.int _ _]) _ _ _); k_dflt (refine' first_ok ?kB ?kF ?kX ?kN ?kT rfl ?kd ?ku ?k1 ?k2 ?_; (case kB => k_asm); (case kF => k_asm); (case kX => assumption); (case kN => k_asm); (case kT => k_asm); (case kd => ktr_room); (case ku => ktr_units); (case k1 => omega); (case k2 => omega)); intro t' h' tk' hl' F' N'; (try dsimp only); (try k_sweep))) | ((k_here; (with_reducible show wpAny _ _ (call (Value.ref 133) [Value.ref _]) _ _ _); k_dflt (refine' draws_ok ?kB ?kF ?kX ?kN ?kT rfl ?kd ?ku ?k1 ?k2 ?k3 ?_; (case kB => k_asm); (case kF => k_asm); (case kX => assumption); (case kN => k_asm); (case kT => k_asm); (case kd => ktr_room); (case ku => ktr_units); (case k1 => assumption); (case k2 => assumption); (case k3 => omega)); intro r' d1 d2 d3 td1 td2 td3 h' tk' g0' g1' g2' l1' F' N'; (have m4' := fmod_bd d3 4 (by decide)); (have m3' := fmod_bd d3 3 (by decide)); (have m5' := fmod_bd d1 5 (by decide)); (have m6' := fmod_bd d2 5 (by decide)); (try dsimp only); (try k_lt l1'); (try k_sweep))))) | (have hNo9 := NoOwn.mk; walk1))) | ((fail_if_success (first | (first | (with_reducible show wpAny _ _ (exec (Stmt.While _ _ _ _) _) _ _ _) | (with_reducible show wpAny _ _ (pyIter _) (fun it s₂ => LoopAtV _ _ _ _ _ _ _ _ _ it s₂) _ _) | (with_reducible show wpAny _ _ (pyIter _) (fun it s₂ => PairAt3 _ _ _ _ _ _ _ _ _ _ it s₂) _ _)) | ((with_reducible show LCg.CompSrc _ _ _ _ _ _ _ _ _ _ _ _ _ _)))); (first | walk1 | (dsimp only; walk1) | (leave1; try dsimp only)))))
  with_reducible rename Fr _ _ _ _ => lF9
  with_reducible rename News _ _ _ _ => lN9
  with_unfolding_all refine' free_list0 [Str.ofString "typed", Str.ofString "size"] ?hc ?hd ?km (by rfl) lF9 lN9 ?turn ?done
  case km => k_mem
  case hc => exact rfl
  case hd => exact rfl
  case turn =>
    intro i v u h tk own hv hoff F' N'
    clear lF9 lN9
    obtain ⟨d, t, rfl, hl20⟩ : ∃ (d : Int) (t : Tok), v = .str (firstS d) t ∧ (firstS d).length ≤ 20 := by
      rcases two_at hv with rfl | rfl
      · exact ⟨_, _, rfl, by assumption⟩
      · exact ⟨_, _, rfl, by assumption⟩
    clear hv
    (rename (0 ≤ Int.fmod _ 4 ∧ _) => m4)
    (rename (0 ≤ Int.fmod _ 3 ∧ _) => m3)
    refine' leadT_ok rfl rfl ?K0 F' ?KX ?T ?hE ?m1 ?m6 ?nlD ?nR ?hR m4 m3 ?hd3 hl20 N' ?hret
    case K0 => k_asm
    case KX => k_asm
    case T => k_asm
    case hE => with_unfolding_all passes_own
    case m1 => exact rfl
    case m6 => exact rfl
    case nlD => exact List.mem_append_left _ (by k_mem)
    case nR => exact List.mem_append_left _ (by k_mem)
    case hR => with_reducible assumption
    case hd3 => with_reducible assumption
    case hret =>
      intro h' tk' m' hm' F1 N1
      exact FPost.next () F1 N1 (fun p hp => List.mem_append_left _ hp) (fun p hp => List.mem_append_right _ hp) (off_of hoff) (fun _ h => nomatch h) (fun z h1 _ h3 => (hm' z (ne_of_S h3 (.head _)) (ne_of_S h3 (.tail _ (.head _)))).trans (by rw [if_neg h1, if_neg (by rw [h3]; exact Bool.false_ne_true)])) trivial
  case done =>
    intro u h tk F' N'
    clear lF9 lN9
    k_sweep
    (repeat' (first | ((with_reducible rename NoOwn => hNo9); clear hNo9) | (k_unfold; (try dsimp only)) | ((with_reducible refine Own.mk ?_); (first | (((with_reducible show wpAny _ _ (subscriptTail _ _ (Value.ref _) (Value.int _ _)) _ _ _); k_dflt (refine' item_lit ?k1 ?k2 ?k3 ?_ ?k6; (case k1 => exact News.isList (by k_asm) (by k_mem)); (case k2 => exact rfl); (case k3 => exact rfl); (case k6 => with_unfolding_all rfl); k_whole))) | ((k_here; (with_reducible show wpAny _ _ (subscriptTail _ _ (Value.ref _) (Value.int _ _)) _ _ _); k_dflt (refine' item_lit ?k1 ?k2 ?k3 ?_ ?k6; (case k1 => exact News.isList (by k_asm) (by k_mem)); (case k2 => exact rfl); (case k3 => exact rfl); (case k6 => with_unfolding_all rfl); k_whole))) | ((k_here; (with_reducible show wpAny _ _ (subscriptTail _ _ (Value.ref _) (Value.int _ _)) _ _ _); k_dflt (refine' tail_item ?k1 ?k2 ?k3 (tail_four _) ?_ ?k6; (case k1 => exact News.isList (by k_asm) (by k_mem)); (case k2 => exact Int.fmod_nonneg_of_pos _ (by decide)); (case k3 => exact Int.fmod_lt_of_pos _ (by decide)); (case k6 => with_unfolding_all rfl); k_whole); intro tl9 t9 hl9 hT9)) | ((k_here; (with_reducible show wpAny _ _ (subscriptTail _ _ (Value.ref _) (Value.int _ _)) _ _ _); k_dflt (refine' item_anyT ?k1 ?k2 ?k3 ?k4 ?k5 ?_ ?k6; (case k1 => exact News.isTup (by k_asm) (by k_mem)); (case k2 => with_reducible assumption); (case k3 => omega); (case k4 => omega); (case k5 => omega); (case k6 => with_unfolding_all rfl); k_whole); intro _)) | ((k_here; (with_reducible show wpAny _ _ (call (Value.builtin "len") [Value.ref _]) _ _ _); k_dflt (refine' len_tupI ?k1 ?k2 ?k3 ?_; (case k1 => exact News.isTup (by k_asm) (by k_mem)); (case k2 => with_reducible assumption); (case k3 => omega); k_whole))) | ((k_here; (with_reducible show wpAny _ _ (call (Value.type _) [Value.ref _]) _ _ _); k_dflt (refine' kde_tupleOf ?k1 ?k2 ?k3 ?k4 ?k5 ?_; (case k1 => k_asm); (case k2 => k_asm); (case k3 => exact News.isList (by k_asm) (by k_mem)); (case k5 => exact rfl); (case k4 => (simp only [List.size_toArray]; (have hq9 := IntsAre.length (by assumption)); omega)); k_whole); intro D' h' F' N' l1; (try k_lt l1); (try k_sweep))) | ((with_reducible show wpAny _ _ (call (Value.ref _) _) _ _ _); (first | ((k_here; (with_reducible show wpAny _ _ (call (Value.ref 140) [Value.int _ _]) _ _ _); k_dflt (refine' first_ok ?kB ?kF ?kX ?kN ?kT rfl ?kd ?ku ?k1 ?k2 ?_; (case kB => k_asm); (case kF => k_asm); (case kX => assumption); (case kN => k_asm); (case kT => k_asm); (case kd => ktr_room); (case ku => ktr_units); (case k1 => omega); (case k2 => omega)); intro t' h' tk' hl' F' N'; (try dsimp only); (try k_sweep))) | ((k_here; (with_reducible show wpAny _ _ (call (Value.ref 133) [Value.ref _]) _ _ _); k_dflt (refine' draws_ok ?kB ?kF ?kX ?kN ?kT rfl ?kd ?ku ?k1 ?k2 ?k3 ?_; (case kB => k_asm); (case kF => k_asm); (case kX => assumption); (case kN => k_asm); (case kT => k_asm); (case kd => ktr_room); (case ku => ktr_units); (case k1 => assumption); (case k2 => assumption); (case k3 => omega)); intro r' d1 d2 d3 td1 td2 td3 h' tk' g0' g1' g2' l1' F' N'; (have m4' := fmod_bd d3 4 (by decide)); (have m3' := fmod_bd d3 3 (by decide)); (have m5' := fmod_bd d1 5 (by decide)); (have m6' := fmod_bd d2 5 (by decide)); (try dsimp only); (try k_lt l1'); (try k_sweep))))) | (have hNo9 := NoOwn.mk; walk1))) | ((fail_if_success (first | (first | (with_reducible show wpAny _ _ (exec (Stmt.While _ _ _ _) _) _ _ _) | (with_reducible show wpAny _ _ (pyIter _) (fun it s₂ => LoopAtV _ _ _ _ _ _ _ _ _ it s₂) _ _) | (with_reducible show wpAny _ _ (pyIter _) (fun it s₂ => PairAt3 _ _ _ _ _ _ _ _ _ _ it s₂) _ _)) | ((with_reducible show LCg.CompSrc _ _ _ _ _ _ _ _ _ _ _ _ _ _)))); (first | walk1 | (dsimp only; walk1) | (leave1; try dsimp only)))))
    with_reducible rename Fr _ _ _ _ => lF9
    with_reducible rename News _ _ _ _ => lN9
    (with_reducible rename IsRange _ _ _ _ _ _ _ _ => lR9)
    have lN8 := led_pick lN9
    clear lN9
    refine' free_leads [Str.ofString "typed", Str.ofString "size", Str.ofString "lead"] (Lead12 _ _) ⟨_, _, _, _, _, _, _⟩ (by rfl) lR9 (by decide) (n := 12) (by decide) lF9 lN8 ?ki lead12_start ?turn ?done
    case ki => exact ⟨by assumption, by (((try simp only [List.map_cons, List.map_nil]); constructor; ((repeat' (first | exact List.forall_mem_nil _ | (refine List.forall_mem_cons.mpr ⟨?_, ?_⟩) | k_ne)))))⟩
    case turn =>
      intro q o x1 x2 t1 t2 kl i t u h tk own hi hoff ho hlt hp F' N'
      clear lF9 lN8 lR9
      obtain ⟨⟨f1, f2, f3⟩, f4, f5, f6⟩ := hp.facts
      refine' dealT_ok rfl rfl ?K0 F' ?KX ?T (.head _) ho ?hn5 f1 f2 f3 f4 f5 f6 (news_swap N') ?hret
      case K0 => k_asm
      case KX => k_asm
      case T => k_asm
      case hn5 => exact List.forall_mem_cons.mpr ⟨OffH.ne2 hlt (.head _), List.forall_mem_append.mpr ⟨by ((repeat' (first | exact List.forall_mem_nil _ | (refine List.forall_mem_cons.mpr ⟨?_, ?_⟩) | k_ne))), fun p hp => hoff p hp _ (.tail _ (.head _))⟩⟩
      case hret =>
        intro h' tk' q' oL' ta tb F1 hL' hq' N1
        exact deal_post (⟨q', oL', dealS x1 (Txt.count x1 (Str.ofString "\t")), dealS x2 (Txt.count x2 (Str.ofString "\t")), ta, tb, 2⟩ : LdSt) hoff F1 hL' hq' N1 (fun z h1 h3 => by rw [if_neg h1, if_neg (by rw [h3]; exact Bool.false_ne_true)]) (fun hi => ⟨hi, hp.next⟩)
    case done =>
      intro q o x1 x2 t1 t2 kl u h tk ho hlt hp F' N'
      clear lF9 lN8 lR9
      simp only [List.map_cons, List.map_nil] at hlt
      obtain ⟨⟨f1, f2, f3⟩, f4, f5, f6⟩ := hp.facts
      have lX : (Str.ofString "x \t").length = 3 := by decide +kernel
      k_sweep
      (repeat' (first | ((with_reducible rename NoOwn => hNo9); clear hNo9) | (k_unfold; (try dsimp only)) | ((with_reducible refine Own.mk ?_); (first | (((with_reducible show wpAny _ _ (subscriptTail _ _ (Value.ref _) (Value.int _ _)) _ _ _); k_dflt (refine' item_lit ?k1 ?k2 ?k3 ?_ ?k6; (case k1 => exact News.isList (by k_asm) (by k_mem)); (case k2 => exact rfl); (case k3 => exact rfl); (case k6 => with_unfolding_all rfl); k_whole))) | ((k_here; (with_reducible show wpAny _ _ (subscriptTail _ _ (Value.ref _) (Value.int _ _)) _ _ _); k_dflt (refine' item_lit ?k1 ?k2 ?k3 ?_ ?k6; (case k1 => exact News.isList (by k_asm) (by k_mem)); (case k2 => exact rfl); (case k3 => exact rfl); (case k6 => with_unfolding_all rfl); k_whole))) | ((k_here; (with_reducible show wpAny _ _ (subscriptTail _ _ (Value.ref _) (Value.int _ _)) _ _ _); k_dflt (refine' tail_item ?k1 ?k2 ?k3 (tail_four _) ?_ ?k6; (case k1 => exact News.isList (by k_asm) (by k_mem)); (case k2 => exact Int.fmod_nonneg_of_pos _ (by decide)); (case k3 => exact Int.fmod_lt_of_pos _ (by decide)); (case k6 => with_unfolding_all rfl); k_whole); intro tl9 t9 hl9 hT9)) | ((k_here; (with_reducible show wpAny _ _ (subscriptTail _ _ (Value.ref _) (Value.int _ _)) _ _ _); k_dflt (refine' item_anyT ?k1 ?k2 ?k3 ?k4 ?k5 ?_ ?k6; (case k1 => exact News.isTup (by k_asm) (by k_mem)); (case k2 => with_reducible assumption); (case k3 => omega); (case k4 => omega); (case k5 => omega); (case k6 => with_unfolding_all rfl); k_whole); intro _)) | ((k_here; (with_reducible show wpAny _ _ (call (Value.builtin "len") [Value.ref _]) _ _ _); k_dflt (refine' len_tupI ?k1 ?k2 ?k3 ?_; (case k1 => exact News.isTup (by k_asm) (by k_mem)); (case k2 => with_reducible assumption); (case k3 => omega); k_whole))) | ((k_here; (with_reducible show wpAny _ _ (call (Value.type _) [Value.ref _]) _ _ _); k_dflt (refine' kde_tupleOf ?k1 ?k2 ?k3 ?k4 ?k5 ?_; (case k1 => k_asm); (case k2 => k_asm); (case k3 => exact News.isList (by k_asm) (by k_mem)); (case k5 => exact rfl); (case k4 => (simp only [List.size_toArray]; (have hq9 := IntsAre.length (by assumption)); omega)); k_whole); intro D' h' F' N' l1; (try k_lt l1); (try k_sweep))) | ((with_reducible show wpAny _ _ (call (Value.ref _) _) _ _ _); (first | ((k_here; (with_reducible show wpAny _ _ (call (Value.ref 140) [Value.int _ _]) _ _ _); k_dflt (refine' first_ok ?kB ?kF ?kX ?kN ?kT rfl ?kd ?ku ?k1 ?k2 ?_; (case kB => k_asm); (case kF => k_asm); (case kX => assumption); (case kN => k_asm); (case kT => k_asm); (case kd => ktr_room); (case ku => ktr_units); (case k1 => omega); (case k2 => omega)); intro t' h' tk' hl' F' N'; (try dsimp only); (try k_sweep))) | ((k_here; (with_reducible show wpAny _ _ (call (Value.ref 133) [Value.ref _]) _ _ _); k_dflt (refine' draws_ok ?kB ?kF ?kX ?kN ?kT rfl ?kd ?ku ?k1 ?k2 ?k3 ?_; (case kB => k_asm); (case kF => k_asm); (case kX => assumption); (case kN => k_asm); (case kT => k_asm); (case kd => ktr_room); (case ku => ktr_units); (case k1 => assumption); (case k2 => assumption); (case k3 => omega)); intro r' d1 d2 d3 td1 td2 td3 h' tk' g0' g1' g2' l1' F' N'; (have m4' := fmod_bd d3 4 (by decide)); (have m3' := fmod_bd d3 3 (by decide)); (have m5' := fmod_bd d1 5 (by decide)); (have m6' := fmod_bd d2 5 (by decide)); (try dsimp only); (try k_lt l1'); (try k_sweep))))) | (have hNo9 := NoOwn.mk; walk1))) | ((fail_if_success (first | (first | (with_reducible show wpAny _ _ (exec (Stmt.While _ _ _ _) _) _ _ _) | (with_reducible show wpAny _ _ (pyIter _) (fun it s₂ => LoopAtV _ _ _ _ _ _ _ _ _ it s₂) _ _) | (with_reducible show wpAny _ _ (pyIter _) (fun it s₂ => PairAt3 _ _ _ _ _ _ _ _ _ _ it s₂) _ _)) | ((with_reducible show LCg.CompSrc _ _ _ _ _ _ _ _ _ _ _ _ _ _)))); (first | walk1 | (dsimp only; walk1) | (leave1; try dsimp only)))))
      with_reducible rename Fr _ _ _ _ => lF9
      with_reducible rename News _ _ _ _ => lN9
      (with_reducible rename IsRange _ _ _ _ _ _ _ _ => lR9)
      have lN8 := turns_pick lN9
      clear lN9
      have hO := ord_pick3 lN8 (by dsimp only; omega)
      dsimp only at hO
      obtain ⟨hp1, hp2⟩ := hp
      subst hp1 hp2
      have hMk := kstMark
      (rename (0 ≤ Int.fmod _ 4 ∧ _) => m4)
      with_unfolding_all refine' law_turns (n := 5) 83 [Str.ofString "figures", Str.ofString "table", Str.ofString "more", Str.ofString "due", Str.ofString "told"] m4 (by rfl) lR9 (by decide) (by decide) lF9 lN8 ?kw ?k1 ?k2 ?k3 ?ki ?kl ?turn0 ?turn1 ?done
      case kw => exact rfl
      case k1 => assumption
      case k2 => assumption
      case k3 => assumption
      case ki => (((try simp only [List.map_cons, List.map_nil]); constructor; ((repeat' (first | exact List.forall_mem_nil _ | (refine List.forall_mem_cons.mpr ⟨?_, ?_⟩) | k_ne)))))
      case kl => omega
      case done =>
        intro led u m h tk F' N'
        clear lF9 lN8 lR9
        dsimp only
        (repeat' (first | ((with_reducible rename NoOwn => hNo9); clear hNo9) | (k_unfold; (try dsimp only)) | ((with_reducible refine Own.mk ?_); (first | (((with_reducible show wpAny _ _ (subscriptTail _ _ (Value.ref _) (Value.int _ _)) _ _ _); k_dflt (refine' item_lit ?k1 ?k2 ?k3 ?_ ?k6; (case k1 => exact News.isList (by k_asm) (by k_mem)); (case k2 => exact rfl); (case k3 => exact rfl); (case k6 => with_unfolding_all rfl); k_whole))) | ((k_here; (with_reducible show wpAny _ _ (subscriptTail _ _ (Value.ref _) (Value.int _ _)) _ _ _); k_dflt (refine' item_lit ?k1 ?k2 ?k3 ?_ ?k6; (case k1 => exact News.isList (by k_asm) (by k_mem)); (case k2 => exact rfl); (case k3 => exact rfl); (case k6 => with_unfolding_all rfl); k_whole))) | ((k_here; (with_reducible show wpAny _ _ (subscriptTail _ _ (Value.ref _) (Value.int _ _)) _ _ _); k_dflt (refine' tail_item ?k1 ?k2 ?k3 (tail_four _) ?_ ?k6; (case k1 => exact News.isList (by k_asm) (by k_mem)); (case k2 => exact Int.fmod_nonneg_of_pos _ (by decide)); (case k3 => exact Int.fmod_lt_of_pos _ (by decide)); (case k6 => with_unfolding_all rfl); k_whole); intro tl9 t9 hl9 hT9)) | ((k_here; (with_reducible show wpAny _ _ (subscriptTail _ _ (Value.ref _) (Value.int _ _)) _ _ _); k_dflt (refine' item_anyT ?k1 ?k2 ?k3 ?k4 ?k5 ?_ ?k6; (case k1 => exact News.isTup (by k_asm) (by k_mem)); (case k2 => with_reducible assumption); (case k3 => omega); (case k4 => omega); (case k5 => omega); (case k6 => with_unfolding_all rfl); k_whole); intro _)) | ((k_here; (with_reducible show wpAny _ _ (call (Value.builtin "len") [Value.ref _]) _ _ _); k_dflt (refine' len_tupI ?k1 ?k2 ?k3 ?_; (case k1 => exact News.isTup (by k_asm) (by k_mem)); (case k2 => with_reducible assumption); (case k3 => omega); k_whole))) | ((k_here; (with_reducible show wpAny _ _ (call (Value.type _) [Value.ref _]) _ _ _); k_dflt (refine' kde_tupleOf ?k1 ?k2 ?k3 ?k4 ?k5 ?_; (case k1 => k_asm); (case k2 => k_asm); (case k3 => exact News.isList (by k_asm) (by k_mem)); (case k5 => exact rfl); (case k4 => (simp only [List.size_toArray]; (have hq9 := IntsAre.length (by assumption)); omega)); k_whole); intro D' h' F' N' l1; (try k_lt l1); (try k_sweep))) | ((with_reducible show wpAny _ _ (call (Value.ref _) _) _ _ _); (first | ((k_here; (with_reducible show wpAny _ _ (call (Value.ref 140) [Value.int _ _]) _ _ _); k_dflt (refine' first_ok ?kB ?kF ?kX ?kN ?kT rfl ?kd ?ku ?k1 ?k2 ?_; (case kB => k_asm); (case kF => k_asm); (case kX => assumption); (case kN => k_asm); (case kT => k_asm); (case kd => ktr_room); (case ku => ktr_units); (case k1 => omega); (case k2 => omega)); intro t' h' tk' hl' F' N'; (try dsimp only); (try k_sweep))) | ((k_here; (with_reducible show wpAny _ _ (call (Value.ref 133) [Value.ref _]) _ _ _); k_dflt (refine' draws_ok ?kB ?kF ?kX ?kN ?kT rfl ?kd ?ku ?k1 ?k2 ?k3 ?_; (case kB => k_asm); (case kF => k_asm); (case kX => assumption); (case kN => k_asm); (case kT => k_asm); (case kd => ktr_room); (case ku => ktr_units); (case k1 => assumption); (case k2 => assumption); (case k3 => omega)); intro r' d1 d2 d3 td1 td2 td3 h' tk' g0' g1' g2' l1' F' N'; (have m4' := fmod_bd d3 4 (by decide)); (have m3' := fmod_bd d3 3 (by decide)); (have m5' := fmod_bd d1 5 (by decide)); (have m6' := fmod_bd d2 5 (by decide)); (try dsimp only); (try k_lt l1'); (try k_sweep))))) | (have hNo9 := NoOwn.mk; walk1))) | ((fail_if_success (first | (first | (with_reducible show wpAny _ _ (exec (Stmt.While _ _ _ _) _) _ _ _) | (with_reducible show wpAny _ _ (pyIter _) (fun it s₂ => LoopAtV _ _ _ _ _ _ _ _ _ it s₂) _ _) | (with_reducible show wpAny _ _ (pyIter _) (fun it s₂ => PairAt3 _ _ _ _ _ _ _ _ _ _ it s₂) _ _)) | ((with_reducible show LCg.CompSrc _ _ _ _ _ _ _ _ _ _ _ _ _ _)))); (first | walk1 | (dsimp only; walk1) | (leave1; try dsimp only)))))
        dsimp only
        (repeat' (first | ((with_reducible rename NoOwn => hNo9); clear hNo9) | (k_unfold; (try dsimp only)) | ((with_reducible refine Own.mk ?_); (first | (((with_reducible show wpAny _ _ (subscriptTail _ _ (Value.ref _) (Value.int _ _)) _ _ _); k_dflt (refine' item_lit ?k1 ?k2 ?k3 ?_ ?k6; (case k1 => exact News.isList (by k_asm) (by k_mem)); (case k2 => exact rfl); (case k3 => exact rfl); (case k6 => with_unfolding_all rfl); k_whole))) | ((k_here; (with_reducible show wpAny _ _ (subscriptTail _ _ (Value.ref _) (Value.int _ _)) _ _ _); k_dflt (refine' item_lit ?k1 ?k2 ?k3 ?_ ?k6; (case k1 => exact News.isList (by k_asm) (by k_mem)); (case k2 => exact rfl); (case k3 => exact rfl); (case k6 => with_unfolding_all rfl); k_whole))) | ((k_here; (with_reducible show wpAny _ _ (subscriptTail _ _ (Value.ref _) (Value.int _ _)) _ _ _); k_dflt (refine' tail_item ?k1 ?k2 ?k3 (tail_four _) ?_ ?k6; (case k1 => exact News.isList (by k_asm) (by k_mem)); (case k2 => exact Int.fmod_nonneg_of_pos _ (by decide)); (case k3 => exact Int.fmod_lt_of_pos _ (by decide)); (case k6 => with_unfolding_all rfl); k_whole); intro tl9 t9 hl9 hT9)) | ((k_here; (with_reducible show wpAny _ _ (subscriptTail _ _ (Value.ref _) (Value.int _ _)) _ _ _); k_dflt (refine' item_anyT ?k1 ?k2 ?k3 ?k4 ?k5 ?_ ?k6; (case k1 => exact News.isTup (by k_asm) (by k_mem)); (case k2 => with_reducible assumption); (case k3 => omega); (case k4 => omega); (case k5 => omega); (case k6 => with_unfolding_all rfl); k_whole); intro _)) | ((k_here; (with_reducible show wpAny _ _ (call (Value.builtin "len") [Value.ref _]) _ _ _); k_dflt (refine' len_tupI ?k1 ?k2 ?k3 ?_; (case k1 => exact News.isTup (by k_asm) (by k_mem)); (case k2 => with_reducible assumption); (case k3 => omega); k_whole))) | ((k_here; (with_reducible show wpAny _ _ (call (Value.type _) [Value.ref _]) _ _ _); k_dflt (refine' kde_tupleOf ?k1 ?k2 ?k3 ?k4 ?k5 ?_; (case k1 => k_asm); (case k2 => k_asm); (case k3 => exact News.isList (by k_asm) (by k_mem)); (case k5 => exact rfl); (case k4 => (simp only [List.size_toArray]; (have hq9 := IntsAre.length (by assumption)); omega)); k_whole); intro D' h' F' N' l1; (try k_lt l1); (try k_sweep))) | ((with_reducible show wpAny _ _ (call (Value.ref _) _) _ _ _); (first | ((k_here; (with_reducible show wpAny _ _ (call (Value.ref 140) [Value.int _ _]) _ _ _); k_dflt (refine' first_ok ?kB ?kF ?kX ?kN ?kT rfl ?kd ?ku ?k1 ?k2 ?_; (case kB => k_asm); (case kF => k_asm); (case kX => assumption); (case kN => k_asm); (case kT => k_asm); (case kd => ktr_room); (case ku => ktr_units); (case k1 => omega); (case k2 => omega)); intro t' h' tk' hl' F' N'; (try dsimp only); (try k_sweep))) | ((k_here; (with_reducible show wpAny _ _ (call (Value.ref 133) [Value.ref _]) _ _ _); k_dflt (refine' draws_ok ?kB ?kF ?kX ?kN ?kT rfl ?kd ?ku ?k1 ?k2 ?k3 ?_; (case kB => k_asm); (case kF => k_asm); (case kX => assumption); (case kN => k_asm); (case kT => k_asm); (case kd => ktr_room); (case ku => ktr_units); (case k1 => assumption); (case k2 => assumption); (case k3 => omega)); intro r' d1 d2 d3 td1 td2 td3 h' tk' g0' g1' g2' l1' F' N'; (have m4' := fmod_bd d3 4 (by decide)); (have m3' := fmod_bd d3 3 (by decide)); (have m5' := fmod_bd d1 5 (by decide)); (have m6' := fmod_bd d2 5 (by decide)); (try dsimp only); (try k_lt l1'); (try k_sweep))))) | (have hNo9 := NoOwn.mk; walk1))) | ((fail_if_success (first | (first | (with_reducible show wpAny _ _ (exec (Stmt.While _ _ _ _) _) _ _ _) | (with_reducible show wpAny _ _ (pyIter _) (fun it s₂ => LoopAtV _ _ _ _ _ _ _ _ _ it s₂) _ _) | (with_reducible show wpAny _ _ (pyIter _) (fun it s₂ => PairAt3 _ _ _ _ _ _ _ _ _ _ it s₂) _ _)) | ((with_reducible show LCg.CompSrc _ _ _ _ _ _ _ _ _ _ _ _ _ _)))); (first | walk1 | (dsimp only; walk1) | (leave1; try dsimp only)))))
        k_end; wrow_close
      case turn0 =>
        intro q1 o1 oh ot vh vt x1 x2 t1 t2 k1 wd tw t9 u9 h tk I9 oI9 hbI _ hoff ho hoh hot hne hlt' hp F' N'
        clear lF9 lN8 lR9
        simp only [List.map_cons, List.map_nil] at hne
        have N9 := news_4 [true, false, true, false, false, false] 3 4 5 1 N' rfl rfl rfl rfl
        dsimp only [keepL] at N9
        obtain ⟨g1, g2⟩ := turn_facts hp m4
        refine' turnA_ok rfl rfl ?K0 F' ?KX ?T ?m2 ?m5 ?m6 ?nq ?nlC ?nlD ?nR ho hot hoh ?hR ?hn5 ?hn6 ?hn7 (six_fmod _) (six_fmod _) ?hd3 m4 g1 g2 ?hE ?mt ?hnB ?hB7 N9 ?hret
        case K0 => k_asm
        case KX => k_asm
        case T => k_asm
        case m2 => exact rfl
        case m5 => exact rfl
        case m6 => exact rfl
        case mt => exact rfl
        case nq => k_mem
        case nlC => k_mem
        case nlD => k_mem
        case nR => k_mem
        case hR => with_reducible assumption
        case hn5 => exact List.forall_mem_cons.mpr ⟨hoff (_, o1) (by k_mem), List.forall_mem_cons.mpr ⟨OffH.ne2 hne (by k_mem), law_off (Nat.lt_succ_self _) (Nat.lt_trans (Nat.lt_succ_of_lt (Nat.lt_succ_self _)) hO.1) (Nat.lt_trans (Nat.lt_trans (Nat.lt_succ_of_lt (Nat.lt_succ_self _)) hO.1) hO.2.1)⟩⟩
        case hn6 => exact List.forall_mem_cons.mpr ⟨hoff (_, ot) (by k_mem), List.forall_mem_cons.mpr ⟨OffH.ne2 hne (by k_mem), law_off (Nat.lt_succ_of_lt (Nat.lt_succ_self _)) (Nat.lt_trans (Nat.lt_succ_self _) hO.1) (Nat.lt_trans (Nat.lt_trans (Nat.lt_succ_self _) hO.1) hO.2.1)⟩⟩
        case hn7 => exact List.forall_mem_cons.mpr ⟨hoff (_, oh) (by k_mem), List.forall_mem_cons.mpr ⟨OffH.ne2 hne (by k_mem), law_off (Nat.lt_succ_of_lt (Nat.lt_succ_of_lt (Nat.lt_succ_self _))) hO.1 (Nat.lt_trans hO.1 hO.2.1)⟩⟩
        case hd3 => with_reducible assumption
        case hE => with_unfolding_all passes_own
        case hnB => exact List.forall_mem_cons.mpr ⟨Nat.ne_of_gt hbI, List.forall_mem_cons.mpr ⟨Nat.ne_of_lt hlt', law_offB (Nat.lt_trans (Nat.lt_succ_of_lt (Nat.lt_succ_of_lt (Nat.lt_succ_self _))) (Nat.lt_trans hO.1 (Nat.lt_trans hO.2.1 hO.2.2))) (Nat.lt_trans hO.2.1 hO.2.2) hO.2.2⟩⟩
        case hB7 => exact Nat.lt_trans hO.1 (Nat.lt_trans hO.2.1 hO.2.2)
        case hret =>
          intro h' tk' m' q' p0 p1 a0 e0 n0 c0 a1 e1 n1 c1' oL' oH' oT' vH' vT' kb u0 u1 ta tb tw' vs0 vs1 kt0 kt1 hw hs F1 hL hH hT ho' hz hi0 hi1 N1
          exact turnA_end (⟨q', oL', dealS x1 (Txt.count x1 (Str.ofString "\t")), dealS x2 (Txt.count x2 (Str.ofString "\t")), ta, tb, 2, oH', vH', oT', vT', wordF (figE x1 _ _) (figE x2 _ _), tw'⟩ : TSt) (⟨kb, p0, p1, u0, u1, a0, e0, n0, c0, vs0, kt0, a1, e1, n1, c1', vs1, kt1⟩ : BSt) (by rw [hp.1]) (by rw [hp.2.1]) (figE_FT hp.1) (figE_FT hp.2.1) hoff F1 N1 hw (fun z h1 h2 h3 => (hs z (sl_of (S := [Str.ofString "figures", Str.ofString "table", Str.ofString "more", Str.ofString "due", Str.ofString "told"]) h2 h3)).trans (by rw [if_neg h1, if_neg h2, if_neg (by rw [h3]; exact Bool.false_ne_true)])) ⟨hL, hH, hT⟩ ho' hz hi0 hi1 hp.next
      case turn1 =>
        intro q1 o1 oh ot vh vt x1 x2 t1 t2 k1 wd tw gg i t9 u9 h tk I9 oI9 hbI hi9 hoff hi1 ho hoh hot hne hbg hp F' N'
        clear lF9 lN8 lR9
        simp only [List.map_cons, List.map_nil] at hne
        obtain ⟨fw, gw, hfw, hgw, hwd, hnx1, hnx2⟩ := turn_word hp hi1 m4
        obtain ⟨heq1, heq2⟩ := turn_equal hp m4
        obtain ⟨g1, g2⟩ := turn_facts hp m4
        have hpn := hp.next
        clear hp
        subst hwd
        have N9 := news_turnB N'
        refine' turnB_ok rfl rfl ?K0 F' ?KX ?T ?m2 ?m5 ?m6 ?nq ?nlC ?nlD ?nR ho hot hoh ?hR ?hn5 ?hn6 ?hn7 (six_fmod _) (six_fmod _) ?hd3 m4 g1 g2 ?hE ?mt (one_le_cast hi1) ?mw hfw hgw hnx1 hnx2 ?nN ?nTl ?nCd ?hN ?hTl ?hCd ?hTI ?htl (.tail _ (List.mem_append_left _ (.head _))) (.tail _ (List.mem_append_left _ (.tail _ (.head _)))) (.tail _ (List.mem_append_left _ (.tail _ (.tail _ (.tail _ (.head _)))))) (.tail _ (List.mem_append_left _ (.tail _ (.tail _ (.tail _ (.tail _ (.head _))))))) (.tail _ (List.mem_append_left _ (.tail _ (.tail _ (.tail _ (.tail _ (.tail _ (.head _)))))))) (.tail _ (List.mem_append_left _ (.tail _ (.tail _ (.tail _ (.tail _ (.tail _ (.tail _ (.head _))))))))) hbg.2.1 (.tail _ (List.mem_append_left _ (.tail _ (.tail _ (.head _))))) (.tail _ (List.mem_append_left _ (.tail _ (.tail _ (.tail _ (.tail _ (.tail _ (.tail _ (.tail _ (.head _)))))))))) (.tail _ (List.mem_append_left _ (.tail _ (.tail _ (.tail _ (.tail _ (.tail _ (.tail _ (.tail _ (.tail _ (.head _))))))))))) (.tail _ (List.mem_append_left _ (.tail _ (.tail _ (.tail _ (.tail _ (.tail _ (.tail _ (.tail _ (.tail _ (.tail _ (.head _)))))))))))) (.tail _ (List.mem_append_left _ (.tail _ (.tail _ (.tail _ (.tail _ (.tail _ (.tail _ (.tail _ (.tail _ (.tail _ (.tail _ (.head _))))))))))))) hbg.2.2 heq1 heq2 N9 ?hret
        case K0 => k_asm
        case KX => k_asm
        case T => k_asm
        case m2 => exact rfl
        case m5 => exact rfl
        case m6 => exact rfl
        case mt => exact rfl
        case mw => exact rfl
        case nq => exact .tail _ (List.mem_append_right _ (.head _))
        case nlC => exact .tail _ (List.mem_append_right _ (.tail _ (by k_mem)))
        case nlD => exact .tail _ (List.mem_append_right _ (.tail _ (by k_mem)))
        case nR => exact .tail _ (List.mem_append_right _ (.tail _ (by k_mem)))
        case nN => exact .tail _ (List.mem_append_right _ (.tail _ (by k_mem)))
        case nTl => exact .tail _ (List.mem_append_right _ (.tail _ (by k_mem)))
        case nCd => exact .tail _ (List.mem_append_right _ (.tail _ (by k_mem)))
        case hR => with_reducible assumption
        case hN => with_reducible assumption
        case hTl => with_reducible assumption
        case hCd => with_reducible assumption
        case hTI => with_reducible assumption
        case htl => with_reducible assumption
        case hn5 => exact List.forall_mem_cons.mpr ⟨hoff (_, o1) (List.mem_append_right _ (.tail _ (.head _))), List.forall_mem_append.mpr ⟨begun_off (Nat.lt_trans (Nat.lt_trans (Nat.lt_succ_of_lt (Nat.lt_succ_self _)) hO.1) (Nat.lt_trans hO.2.1 hO.2.2)) hbg, List.forall_mem_cons.mpr ⟨OffH.ne2 hne (by k_mem), law_off (Nat.lt_succ_self _) (Nat.lt_trans (Nat.lt_succ_of_lt (Nat.lt_succ_self _)) hO.1) (Nat.lt_trans (Nat.lt_trans (Nat.lt_succ_of_lt (Nat.lt_succ_self _)) hO.1) hO.2.1)⟩⟩⟩
        case hn6 => exact List.forall_mem_cons.mpr ⟨hoff (_, ot) (List.mem_append_right _ (.tail _ (.tail _ (.tail _ (.head _))))), List.forall_mem_append.mpr ⟨begun_off (Nat.lt_trans (Nat.lt_trans (Nat.lt_succ_self _) hO.1) (Nat.lt_trans hO.2.1 hO.2.2)) hbg, List.forall_mem_cons.mpr ⟨OffH.ne2 hne (by k_mem), law_off (Nat.lt_succ_of_lt (Nat.lt_succ_self _)) (Nat.lt_trans (Nat.lt_succ_self _) hO.1) (Nat.lt_trans (Nat.lt_trans (Nat.lt_succ_self _) hO.1) hO.2.1)⟩⟩⟩
        case hn7 => exact List.forall_mem_cons.mpr ⟨hoff (_, oh) (List.mem_append_right _ (.tail _ (.tail _ (.head _)))), List.forall_mem_append.mpr ⟨begun_off (Nat.lt_trans hO.1 (Nat.lt_trans hO.2.1 hO.2.2)) hbg, List.forall_mem_cons.mpr ⟨OffH.ne2 hne (by k_mem), law_off (Nat.lt_succ_of_lt (Nat.lt_succ_of_lt (Nat.lt_succ_self _))) hO.1 (Nat.lt_trans hO.1 hO.2.1)⟩⟩⟩
        case hd3 => with_reducible assumption
        case hE => with_unfolding_all passes_own
        case hret =>
          intro h' tk' m' q' oL' oH' oT' vH' vT' ta tb tw' hw hs F1 hL hH hT ho' N1
          exact turnB_end (⟨q', oL', dealS x1 (Txt.count x1 (Str.ofString "\t")), dealS x2 (Txt.count x2 (Str.ofString "\t")), ta, tb, 2, oH', vH', oT', vT', wordF (figE x1 _ _) (figE x2 _ _), tw'⟩ : TSt) gg hoff F1 N1 hw (fun z h1 h2 h3 => (hs z (sl_of (S := [Str.ofString "figures", Str.ofString "table", Str.ofString "more", Str.ofString "due", Str.ofString "told"]) h2 h3)).trans (by rw [if_neg h1, if_neg h2, if_neg (by rw [h3]; exact Bool.false_ne_true)])) ⟨hL, hH, hT⟩ ho' hbg hpn
      )
end
end Mine
end
theorem PySem.Challenge.cw_xb0022_02_holds : PySem.Challenge.rw_xb0022_02.Holds :=
  Mine.law2
