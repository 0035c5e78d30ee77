import PyProof.Rows.All
import Wide.All
import OpenK.AllK
import Wide.FinOn
import PySem.Challenge.RW_ba0039_01
open PySem PySem.W PyProof.Rows
set_option Elab.async false

namespace Mine
set_option maxRecDepth 100000 in
set_option maxHeartbeats 8000000 in
open_top hd for PySem.Challenge.rw_ba0039_01
end Mine

namespace Mine

/-- the column behind the leading blanks and tabs, from column `w` on -/
def cnt : Int → List Nat → Int
  | w, [] => w
  | w, c :: r => if c = 32 then cnt (w + 1) r else if c = 9 then cnt (w + (4 - w.fmod 4)) r else w

/-- what a call of the def at `f` does, over any ledger, with room for `d` frames -/
abbrev Clm (w : World) (p : Program) (loose : List Str) (mean : ExcName → Option Value) (mg mb : Str → Option Value) (d : Nat) (f : Addr) (pre : Prop) (vs : List Value) (R : Tok → Value) : Prop :=
  ∀ (news : List (Addr × Obj)) (dp un : Nat) (gd : Option (List Code)) (cn : Str) (cs : Scope) (a : Addr) (ccd : Value) (cl : List (Str × Addr)) (outer : List Env) (A₀ : Around) (base h₀ : Heap) (L : Addr) (m : Str → Option Value) (s : Shared) (Q E : Value → Shared → Prop),
    Below A₀ base outer h₀ → Fr h₀ L s.heap m → (Mine.hd.heap_39 w.params).In h₀ → News h₀ L s.heap news → Top p loose mean mg mb h₀ → cs.kind = .function →
    pre → dp + d < recursionLimit → un + 8 * d < cLine →
    (∀ (t : Tok) (h' : Heap) (tk' : Nat), Fr h₀ L h' m → News h₀ L h' news → Q (R t) { s with heap := h', toks := tk' }) →
    wpAny (model PySem.Challenge.rw_ba0039_01.row.prog w) (ktrTop dp un gd cn cs L a ccd cl outer) (call (.ref f) vs) Q E s

/-- the same, with a fact of what comes back -/
abbrev ClmP (w : World) (p : Program) (loose : List Str) (mean : ExcName → Option Value) (mg mb : Str → Option Value) (d : Nat) (f : Addr) (pre post : Prop) (vs : List Value) (R : Tok → Value) : Prop :=
  ∀ (news : List (Addr × Obj)) (dp un : Nat) (gd : Option (List Code)) (cn : Str) (cs : Scope) (a : Addr) (ccd : Value) (cl : List (Str × Addr)) (outer : List Env) (A₀ : Around) (base h₀ : Heap) (L : Addr) (m : Str → Option Value) (s : Shared) (Q E : Value → Shared → Prop),
    Below A₀ base outer h₀ → Fr h₀ L s.heap m → (Mine.hd.heap_39 w.params).In h₀ → News h₀ L s.heap news → Top p loose mean mg mb h₀ → cs.kind = .function →
    pre → dp + d < recursionLimit → un + 8 * d < cLine →
    (∀ (t : Tok) (h' : Heap) (tk' : Nat), Fr h₀ L h' m → News h₀ L h' news → post → Q (R t) { s with heap := h', toks := tk' }) →
    wpAny (model PySem.Challenge.rw_ba0039_01.row.prog w) (ktrTop dp un gd cn cs L a ccd cl outer) (call (.ref f) vs) Q E s
theorem Clm.post {w : World} {p : Program} {loose : List Str} {mean : ExcName → Option Value} {mg mb : Str → Option Value} {d : Nat} {f : Addr} {pre post : Prop} {vs : List Value} {R : Tok → Value}
    (h : Clm w p loose mean mg mb d f pre vs R) (hp : pre → post) : ClmP w p loose mean mg mb d f pre post vs R :=
  fun _ _ _ _ _ _ _ _ _ _ _ _ _ _ _ _ _ _ B F X N T hk hpre hd hu hret => h _ _ _ _ _ _ _ _ _ _ _ _ _ _ _ _ _ _ B F X N T hk hpre hd hu fun t h' tk' F N => hret t h' tk' F N (hp hpre)

theorem is_sp {n : Nat} (h : ((⟨#[n]⟩ : Str) == (Str.ofString " ")) = true) : n = 32 := by
  have e : (⟨#[n]⟩ : Str) = Str.ofString " " := by simpa using h
  rw [show Str.ofString " " = ⟨#[32]⟩ from by decide +kernel] at e
  simpa using e
theorem no_sp {n : Nat} (h : ((⟨#[n]⟩ : Str) == (Str.ofString " ")) = false) : n ≠ 32 := by
  intro e
  rw [e, show Str.ofString " " = ⟨#[32]⟩ from by decide +kernel] at h
  simp at h
theorem is_tab {n : Nat} (h : ((⟨#[n]⟩ : Str) == (Str.ofString "\t")) = true) : n = 9 := by
  have e : (⟨#[n]⟩ : Str) = Str.ofString "\t" := by simpa using h
  rw [show Str.ofString "\t" = ⟨#[9]⟩ from by decide +kernel] at e
  simpa using e
theorem no_tab {n : Nat} (h : ((⟨#[n]⟩ : Str) == (Str.ofString "\t")) = false) : n ≠ 9 := by
  intro e
  rw [e, show Str.ofString "\t" = ⟨#[9]⟩ from by decide +kernel] at h
  simp at h

theorem codes_toNat (x : Str) : (KStt.codes x).map Int.toNat = x.cps.toList := by
  apply List.ext_getElem
  · simp [KStt.codes]
  · intro i h1 h2
    simp [KStt.codes]
theorem codes_split {x : Str} {pre post : List Int} {n : Nat} (h : KStt.codes x = pre ++ (n : Int) :: post) : x.cps.toList = pre.map Int.toNat ++ n :: post.map Int.toNat := by
  rw [← codes_toNat, h]
  simp
theorem pre_snoc (pre : List Int) (n : Nat) (rest : List Nat) : (pre ++ [(n : Int)]).map Int.toNat ++ rest = pre.map Int.toNat ++ n :: rest := by simp

/-- the sign at a place -/
theorem item_at {x : Str} {i : Int} (h0 : 0 ≤ i) (h1 : i < x.length) : Txt.item x i = ⟨#[x.cps.getD i.toNat 0]⟩ := item_meets ⟨h0, h1⟩
theorem drop_at {x : Str} {i : Int} (h0 : 0 ≤ i) (h1 : i < x.length) : x.cps.toList.drop i.toNat = x.cps.getD i.toNat 0 :: x.cps.toList.drop (i + 1).toNat := by
  have hl : i.toNat < x.cps.toList.length := by
    have : x.length = x.cps.toList.length := by simp [Str.length]
    omega
  have hl' : i.toNat < x.cps.size := by simpa using hl
  rw [List.drop_eq_getElem_cons hl, show (i + 1).toNat = i.toNat + 1 from by omega]
  congr 1
  simp [Array.getD, hl']
theorem drop_end {x : Str} {i : Int} (h1 : ¬ i < x.length) : x.cps.toList.drop i.toNat = [] := by
  have : x.length = x.cps.toList.length := by simp [Str.length]
  exact List.drop_eq_nil_of_le (by omega)
theorem slice_cps {x : Str} {i : Int} (h0 : 0 ≤ i) (h1 : i ≤ x.length) : (Txt.slice x (some i) none).cps.toList = x.cps.toList.drop i.toNat := by
  rw [slice_from_eq h0 h1 rfl]
  have : x.length = x.cps.toList.length := by simp [Str.length]
  simp only [List.toList_toArray]
  exact List.take_of_length_le (by rw [List.length_drop]; omega)
theorem join_cps (ws : List Str) : (Txt.join (Str.ofString "") ws).cps.toList = (ws.map fun p => p.cps.toList).flatten := by
  show (Builtin.Str.glued _ ws).cps.toList = _
  rw [StrLaws.glued_eq_join]
  have e : (Str.ofString "").cps.toList = [] := by decide +kernel
  induction ws with
  | nil => rfl
  | cons a r ih =>
    cases r with
    | nil => show a.cps.toList = _; simp
    | cons b r =>
      show (a ++ Str.ofString "" ++ Str.join (Str.ofString "") (b :: r)).cps.toList = _
      rw [Str.cps_append, Str.cps_append, Array.toList_append, Array.toList_append, ih, e]
      simp
theorem mul_cps (n : Int) : (Txt.mul (Str.ofString " ") n).cps.toList = List.replicate n.toNat 32 := by
  rw [show Str.ofString " " = ⟨#[32]⟩ from by decide +kernel]
  exact mul_one_list 32 n
theorem str_of_list {x : Str} {l : List Nat} (h : x.cps.toList = l) : x = ⟨l.toArray⟩ := by
  refine Str.ext' (Array.toList_inj.mp ?_)
  rw [h]

/-- a place where the walk rests -/
def Rest (P : Prop) : Prop := P
theorem Rest.out {P : Prop} (h : Rest P) : P := h
end Mine

namespace Mine
theorem cnt_st {pre : List Int} {n : Nat} {c : Int} (k : ∀ rest : List Nat, cnt 0 (pre.map Int.toNat ++ rest) = cnt c rest) (h : ((⟨#[n]⟩ : Str) == (Str.ofString " ")) = true) :
    ∀ rest : List Nat, cnt 0 ((pre ++ [(n : Int)]).map Int.toNat ++ rest) = cnt (c + 1) rest := by
  intro rest
  rw [pre_snoc, k, is_sp h]
  rfl
theorem cnt_tt {pre : List Int} {n : Nat} {c : Int} (k : ∀ rest : List Nat, cnt 0 (pre.map Int.toNat ++ rest) = cnt c rest) (h : ((⟨#[n]⟩ : Str) == (Str.ofString "\t")) = true) :
    ∀ rest : List Nat, cnt 0 ((pre ++ [(n : Int)]).map Int.toNat ++ rest) = cnt (c + (4 - c.fmod 4)) rest := by
  intro rest
  rw [pre_snoc, k, is_tab h]
  rfl
theorem cnt_brk {x : Str} {pre post : List Int} {n : Nat} {c : Int} (e : KStt.codes x = pre ++ (n : Int) :: post) (k : ∀ rest : List Nat, cnt 0 (pre.map Int.toNat ++ rest) = cnt c rest)
    (h : ((⟨#[n]⟩ : Str) == (Str.ofString " ")) = false) (h2 : ((⟨#[n]⟩ : Str) == (Str.ofString "\t")) = false) : c = cnt 0 x.cps.toList := by
  rw [codes_split e, k, cnt, if_neg (no_sp h), if_neg (no_tab h2)]
theorem cnt_all {x : Str} {c : Int} (k : ∀ rest : List Nat, cnt 0 ((KStt.codes x).map Int.toNat ++ rest) = cnt c rest) : c = cnt 0 x.cps.toList := by
  have := k []
  rw [List.append_nil, codes_toNat] at this
  exact this.symm
set_option maxRecDepth 100000 in
set_option maxHeartbeats 8000000 in
theorem c_count (w : World) (p : Program) (loose : List Str) (mean : ExcName → Option Value) (mg mb : Str → Option Value) (x : Str) (t : Tok) :
    Clm w p loose mean mg mb 1 50 True [.str x t] (fun t => .int (cnt 0 x.cps.toList) t) := by
  w_top off
  k_with_none
  k_with "pyIter str" => k_state (fun pre c => ∀ rest : List Nat, cnt 0 (pre.map Int.toNat ++ rest) = cnt c rest) "column"
  k_with "state" => (first | exact fun _ => rfl | exact cnt_st (by assumption) (by assumption) | exact cnt_tt (by assumption) (by assumption))
  k_with "tree" => (first | exact cnt_brk (by assumption) (by assumption) (by assumption) (by assumption) | exact cnt_all (by assumption))
  unfold Clm
  k_fill
  intro news dp un gd cn cs a ccd cl outer A₀ base h₀ L m s Q E B F X N T hk hpre hd hu hret
  refine wpAny_call ?_
  k_dflt cell_enter
  k_steps
  all_goals cb_end hret
end Mine

namespace Mine
/-- the answer of the look for enough leading columns -/
def has (cols : Int) : Int → List Nat → Bool
  | _, [] => false
  | w, c :: r => if c = 32 then (if cols ≤ w + 1 then true else has cols (w + 1) r)
      else if c = 9 then (if cols ≤ w + (4 - w.fmod 4) then true else has cols (w + (4 - w.fmod 4)) r) else false

theorem has_st {cols : Int} {pre : List Int} {n : Nat} {c : Int} (k : ∀ rest : List Nat, has cols 0 (pre.map Int.toNat ++ rest) = has cols c rest) (h : ((⟨#[n]⟩ : Str) == (Str.ofString " ")) = true) (hw : ¬ cols ≤ c + 1) :
    ∀ rest : List Nat, has cols 0 ((pre ++ [(n : Int)]).map Int.toNat ++ rest) = has cols (c + 1) rest := by
  intro rest
  rw [pre_snoc, k, is_sp h, has, if_pos rfl, if_neg]
  exact hw
theorem has_tt {cols : Int} {pre : List Int} {n : Nat} {c : Int} (k : ∀ rest : List Nat, has cols 0 (pre.map Int.toNat ++ rest) = has cols c rest) (h : ((⟨#[n]⟩ : Str) == (Str.ofString "\t")) = true) (hw : ¬ cols ≤ c + (4 - c.fmod 4)) :
    ∀ rest : List Nat, has cols 0 ((pre ++ [(n : Int)]).map Int.toNat ++ rest) = has cols (c + (4 - c.fmod 4)) rest := by
  intro rest
  rw [pre_snoc, k, is_tab h, has, if_neg (by decide), if_pos rfl, if_neg]
  exact hw
theorem has_brk {cols : Int} {x : Str} {pre post : List Int} {n : Nat} {c : Int} (e : KStt.codes x = pre ++ (n : Int) :: post) (k : ∀ rest : List Nat, has cols 0 (pre.map Int.toNat ++ rest) = has cols c rest)
    (h : ((⟨#[n]⟩ : Str) == (Str.ofString " ")) = false) (h2 : ((⟨#[n]⟩ : Str) == (Str.ofString "\t")) = false) : false = has cols 0 x.cps.toList := by
  rw [codes_split e, k, has, if_neg (no_sp h), if_neg (no_tab h2)]
theorem has_ret1 {cols : Int} {x : Str} {pre post : List Int} {n : Nat} {c : Int} (e : KStt.codes x = pre ++ (n : Int) :: post) (k : ∀ rest : List Nat, has cols 0 (pre.map Int.toNat ++ rest) = has cols c rest)
    (h : ((⟨#[n]⟩ : Str) == (Str.ofString " ")) = true) (hw : cols ≤ c + 1) : true = has cols 0 x.cps.toList := by
  rw [codes_split e, k, is_sp h, has, if_pos rfl, if_pos]
  exact hw
theorem has_ret2 {cols : Int} {x : Str} {pre post : List Int} {n : Nat} {c : Int} (e : KStt.codes x = pre ++ (n : Int) :: post) (k : ∀ rest : List Nat, has cols 0 (pre.map Int.toNat ++ rest) = has cols c rest)
    (h : ((⟨#[n]⟩ : Str) == (Str.ofString "\t")) = true) (hw : cols ≤ c + (4 - c.fmod 4)) : true = has cols 0 x.cps.toList := by
  rw [codes_split e, k, is_tab h, has, if_neg (by decide), if_pos rfl, if_pos]
  exact hw
theorem has_all {cols : Int} {x : Str} {c : Int} (k : ∀ rest : List Nat, has cols 0 ((KStt.codes x).map Int.toNat ++ rest) = has cols c rest) : false = has cols 0 x.cps.toList := by
  have := k []
  rw [List.append_nil, codes_toNat] at this
  exact this.symm
set_option maxRecDepth 100000 in
set_option maxHeartbeats 8000000 in
theorem c_has (w : World) (p : Program) (loose : List Str) (mean : ExcName → Option Value) (mg mb : Str → Option Value) (x : Str) (t : Tok) (cols : Int) (u : Tok) :
    Clm w p loose mean mg mb 1 28 True [.str x t, .int cols u] (fun _ => .bool (has cols 0 x.cps.toList)) := by
  w_top off
  k_with_none
  k_with "pyIter str" => k_state (fun pre c => ∀ rest : List Nat, has cols 0 (pre.map Int.toNat ++ rest) = has cols c rest) "width"
  k_with "state" => (first | exact fun _ => rfl | exact has_st (by assumption) (by assumption) (by assumption) | exact has_tt (by assumption) (by assumption) (by assumption))
  k_with "tree" => (first | exact has_ret1 (by assumption) (by assumption) (by assumption) (by assumption) | exact has_ret2 (by assumption) (by assumption) (by assumption) (by assumption) | exact has_brk (by assumption) (by assumption) (by assumption) (by assumption) | exact has_all (by assumption))
  unfold Clm
  k_fill
  intro news dp un gd cn cs a ccd cl outer A₀ base h₀ L m s Q E B F X N T hk hpre hd hu hret
  refine wpAny_call ?_
  k_dflt cell_enter
  k_steps
  all_goals cb_end hret
end Mine

namespace Mine
/-- the text with its leading tabs as blanks, from column `w` on -/
def expd : Int → List Nat → List Nat
  | _, [] => []
  | w, c :: r => if c = 32 then 32 :: expd (w + 1) r else if c = 9 then List.replicate (4 - w.fmod 4).toNat 32 ++ expd (w + (4 - w.fmod 4)) r else c :: r

theorem sum_ok' {ws : List Str} (h : ∀ p ∈ ws, p.length ≤ 4) : (ws.map (·.length)).sum ≤ 4 * ws.length := by
  have : ∀ ws : List Str, (∀ p ∈ ws, p.length ≤ 4) → (ws.map (·.length)).sum ≤ 4 * ws.length := by
    intro ws
    induction ws with
    | nil => intro _; exact Nat.le_refl _
    | cons a r ih =>
      intro h
      have h1 := ih fun p hp => h p (.tail _ hp)
      have h2 := h a (.head _)
      simp only [List.map_cons, List.sum_cons, List.length_cons]
      omega
  exact this ws h
theorem sum_ok {ws : List Str} (h : ∀ p ∈ ws, p.length ≤ 4) (hl : ws.length ≤ 1000) : (ws.map (·.length)).sum + ws.length ≤ 1048576 := by
  have := sum_ok' h
  omega

theorem len_join {ws : List Str} (h : ∀ p ∈ ws, p.length ≤ 4) (hl : ws.length ≤ 1000) : (Txt.join (Str.ofString "") ws).length ≤ 4000 := by
  have h1 := sum_ok' h
  show (Builtin.Str.glued _ ws).length ≤ _
  rw [StrLaws.glued_eq_join]
  refine Nat.le_trans (StrLaws.join_length_le _ _) ?_
  have e : (Str.ofString "").length = 0 := by decide +kernel
  rw [e]
  omega
theorem exp_sp {st cc ic : Int} {x : Str} {ws : List Str} (h0 : 0 ≤ ic) (h1 : ic < x.length) (h2 : (ws.length : Int) ≤ ic) (h3 : ∀ p ∈ ws, p.length ≤ 4) (h4 : expd st x.cps.toList = (ws.map fun p => p.cps.toList).flatten ++ expd cc (x.cps.toList.drop ic.toNat))
    (hs : (Txt.item x ic == Str.ofString " ") = true) :
    0 ≤ ic + 1 ∧ ic + 1 ≤ x.length ∧ ((ws ++ [Str.ofString " "]).length : Int) ≤ ic + 1 ∧ (∀ p ∈ ws ++ [Str.ofString " "], p.length ≤ 4) ∧
      expd st x.cps.toList = ((ws ++ [Str.ofString " "]).map fun p => p.cps.toList).flatten ++ expd (cc + 1) (x.cps.toList.drop (ic + 1).toNat) := by
  refine ⟨by omega, by omega, by simp; omega, ?_, ?_⟩
  · intro p hp
    rcases List.mem_append.mp hp with hp | hp
    · exact h3 p hp
    · rw [List.mem_singleton.mp hp]; decide +kernel
  · rw [item_at h0 h1] at hs
    rw [h4, drop_at h0 h1, is_sp hs, expd, if_pos rfl]
    have e : (Str.ofString " ").cps.toList = [32] := by decide +kernel
    simp [e]
theorem exp_tab {st cc ic : Int} {x : Str} {ws : List Str} (h0 : 0 ≤ ic) (h1 : ic < x.length) (h2 : (ws.length : Int) ≤ ic) (h3 : ∀ p ∈ ws, p.length ≤ 4) (h4 : expd st x.cps.toList = (ws.map fun p => p.cps.toList).flatten ++ expd cc (x.cps.toList.drop ic.toNat))
    (hs : (Txt.item x ic == Str.ofString "\t") = true) :
    0 ≤ ic + 1 ∧ ic + 1 ≤ x.length ∧ ((ws ++ [Txt.mul (Str.ofString " ") (4 - cc.fmod 4)]).length : Int) ≤ ic + 1 ∧ (∀ p ∈ ws ++ [Txt.mul (Str.ofString " ") (4 - cc.fmod 4)], p.length ≤ 4) ∧
      expd st x.cps.toList = ((ws ++ [Txt.mul (Str.ofString " ") (4 - cc.fmod 4)]).map fun p => p.cps.toList).flatten ++ expd (cc + (4 - cc.fmod 4)) (x.cps.toList.drop (ic + 1).toNat) := by
  have hm : 0 ≤ cc.fmod 4 ∧ cc.fmod 4 < 4 := ⟨Int.fmod_nonneg_of_pos _ (by decide), Int.fmod_lt_of_pos _ (by decide)⟩
  have hc := mul_cps (4 - cc.fmod 4)
  refine ⟨by omega, by omega, by simp; omega, ?_, ?_⟩
  · intro p hp
    rcases List.mem_append.mp hp with hp | hp
    · exact h3 p hp
    · rw [List.mem_singleton.mp hp]
      have : (Txt.mul (Str.ofString " ") (4 - cc.fmod 4)).length = (4 - cc.fmod 4).toNat := by
        have e := congrArg List.length hc
        simpa [Str.length] using e
      omega
  · rw [item_at h0 h1] at hs
    rw [h4, drop_at h0 h1, is_tab hs, expd, if_neg (by decide), if_pos rfl]
    simp [hc]
theorem exp_brk {st cc ic : Int} {x : Str} {ws : List Str} (h0 : 0 ≤ ic) (h1 : ic < x.length) (h4 : expd st x.cps.toList = (ws.map fun p => p.cps.toList).flatten ++ expd cc (x.cps.toList.drop ic.toNat))
    (hs : (Txt.item x ic == Str.ofString " ") = false) (ht : (Txt.item x ic == Str.ofString "\t") = false) : Txt.join (Str.ofString "") ws ++ Txt.slice x (some ic) none = ⟨(expd st x.cps.toList).toArray⟩ := by
  apply str_of_list
  rw [item_at h0 h1] at hs ht
  rw [Str.cps_append, Array.toList_append, join_cps, slice_cps h0 (by omega), h4, drop_at h0 h1, expd, if_neg (no_sp hs), if_neg (no_tab ht)]
theorem exp_all {st cc ic : Int} {x : Str} {ws : List Str} (h0 : 0 ≤ ic) (h1 : ic ≤ x.length) (h4 : expd st x.cps.toList = (ws.map fun p => p.cps.toList).flatten ++ expd cc (x.cps.toList.drop ic.toNat))
    (hs : ¬ ic < x.length) : Txt.join (Str.ofString "") ws ++ Txt.slice x (some ic) none = ⟨(expd st x.cps.toList).toArray⟩ := by
  apply str_of_list
  rw [Str.cps_append, Array.toList_append, join_cps, slice_cps h0 h1, h4, drop_end hs, expd]

structure ES where
  cc : Int
  ct : Tok
  vs : List Value
  ws : List Str
  n : Nat
  ic : Int
  it : Tok

abbrev expLed (l1 : Addr) (news : List (Addr × Obj)) : ES → List (Addr × Obj) := fun c => (l1, listOf c.vs.toArray c.n) :: news
abbrev expPs : ES → List (Str × Value) := fun c => [(Str.ofString "column", .int c.cc c.ct), (Str.ofString "index", .int c.ic c.it)]
abbrev expFa : ES → Prop := fun c => StrsAre c.vs c.ws
abbrev expNames : List Str := [Str.ofString "c", Str.ofString "size"]
abbrev expP (x : Str) (st : Int) : ES → Prop := fun c => 0 ≤ c.ic ∧ c.ic ≤ x.length ∧ (c.ws.length : Int) ≤ c.ic ∧ (∀ p ∈ c.ws, p.length ≤ 4) ∧ expd st x.cps.toList = (c.ws.map fun p => p.cps.toList).flatten ++ expd c.cc (x.cps.toList.drop c.ic.toNat)
abbrev expM (x : Str) : ES → Nat := fun c => x.length - c.ic.toNat
/-- the loop of `_expand_leading_tabs` -/
theorem exp_while {prog : Program} {w : World} {A : Around} {E : Value → Shared → Prop} {Q : Flow → Shared → Prop} {s : Shared} {env : Env} {h₀ : Heap} {L l1 : Addr} {test : PySem.Expr} {body : List Stmt} {pos : Pos} {m₀ : Str → Option Value} {news : List (Addr × Obj)} {n0 : Nat} {u t0 : Tok} {x : Str} {st : Int}
    (F1 : Fr h₀ L s.heap m₀) (N1 : News h₀ L s.heap ((l1, listOf ([] : List Value).toArray n0) :: news)) (hc : m₀ (Str.ofString "column") = some (.int st u)) (hi : m₀ (Str.ofString "index") = some (.int 0 t0)) (hE : PassesOwn (model prog w) A env E)
    (turn : ∀ cc ct vs ws n ic it (uu : Str → Option Value) h tk, StrsAre vs ws → expP x st ⟨cc, ct, vs, ws, n, ic, it⟩ →
      Fr h₀ L h (fun z => if z = Str.ofString "column" then some (.int cc ct) else if z = Str.ofString "index" then some (.int ic it) else if expNames.contains z then uu z else m₀ z) → News h₀ L h ((l1, listOf vs.toArray n) :: news) →
      wpAny (model prog w) A (isTrue test env (eval test env)) (fun b s₂ =>
        if b = true then wpAny (model prog w) A (execs body env) (KswPost h₀ L s (expLed l1 news) expPs expFa expNames m₀ (expP x st) (expM x) Q ⟨cc, ct, vs, ws, n, ic, it⟩) E s₂ else Q .next s₂) E { s with heap := h, toks := tk }) :
    wpAny (model prog w) A (exec (.While test body [] pos) env) Q E s := by
  refine ksw_while (σ := ES) (expLed l1 news) expPs expFa expNames (expP x st) (expM x) ⟨st, u, [], [], n0, 0, t0⟩ F1 N1 .nil (List.forall_mem_cons.mpr ⟨hc, List.forall_mem_cons.mpr ⟨hi, List.forall_mem_nil _⟩⟩) ?_ ?_ hE
  · refine ⟨Int.le_refl _, by show (0:Int) ≤ _; omega, Int.le_refl _, ?_, rfl⟩
    intro p hp; cases hp
  · rintro ⟨cc, ct, vs, ws, n, ic, it⟩ uu h tk hf hp Fk Nk
    exact turn cc ct vs ws n ic it uu h tk hf hp Fk Nk

set_option maxRecDepth 100000 in
set_option maxHeartbeats 8000000 in
theorem c_exp (w : World) (p : Program) (loose : List Str) (mean : ExcName → Option Value) (mg mb : Str → Option Value) (x : Str) (t : Tok) (st : Int) (u : Tok) :
    Clm w p loose mean mg mb 1 43 (x.length ≤ 1000) [.str x t, .int st u] (fun t => .str ⟨(expd st x.cps.toList).toArray⟩ t) := by
  w_top off
  k_with_none
  k_with "tree" => (first | exact exp_brk hi0 (by assumption) hi4 (by assumption) (by assumption) | exact exp_all hi0 (by assumption) hi4 (by assumption))
  k_with "exec While Compare cons nil" => (refine Rest.out ?_)
  unfold Clm
  k_fill
  intro news dp un gd cn cs a ccd cl outer A₀ base h₀ L m s Q E B F X N T hk hpre hd hu hret
  refine wpAny_call ?_
  k_dflt (refine' code_def ?k1 ?k2 ?k3 ?k4 ?k5 ?kA ?kF ?kK ?k6 ?k7 ?k8 ?k9 ?kB ?_ ?c2 ?c3 ?c4 ?c5; (case kA => exact rfl); (case kF => exact rfl); (case kK => assumption); (case k1 => k_asm); (case k2 => k_asm); (case k3 => k_asm); (case k4 => k_asm); (case k5 => k_asm); (case k6 => k_is); (case k7 => k_is); (case k8 => ktr_room); (case k9 => first | exact BindsTo.of_eq rfl | exact binds_K (by k_in) rfl (by k_is) rfl rfl rfl); (case c5 => decide); (case kB => exact locs rfl); (case c2 => exact rfl); (case c3 => exact rfl); (case c4 => exact rfl); k_whole; intro g' L' h' FG' F' N' B' X' T'; (replace F' : Fr g' L' h' (fun y => List.lookup y [(Str.ofString "start_column", Value.int st u), (Str.ofString "line", Value.str x t)]) := F'); (try dsimp only); (try k_lift B'); (try k_fold))
  k_steps
  rename Fr _ _ _ _ => F1
  rename News _ _ _ _ => N1
  unfold Rest
  refine exp_while (x := x) (st := st) F1 N1 (by with_unfolding_all rfl) (by with_unfolding_all rfl) (by passes_own) ?_
  intro cc ct vs ws n ic it uu hh tkk hf hinv Fk Nk
  obtain ⟨hi0, hi1, hi2, hi3, hi4⟩ := hinv
  clear F1 N1
  dsimp only at hf hi0 hi1 hi2 hi3 hi4
  k_fold
  k_steps
  · rename Fr _ _ _ _ => F9
    rename News _ _ _ _ => N9
    try simp only [List.push_toArray] at N9
    refine ksw_end (⟨_, _, _, _, _, _, _⟩ : ES) F9 N9 (fun p hp => hp) (hf.append' (.cons _ _ .nil)) (by kst_all) (by ksw_same) ?_ ?_
    · exact exp_sp hi0 (by assumption) hi2 hi3 hi4 (by assumption)
    · show x.length - (ic + 1).toNat < x.length - ic.toNat
      omega
  · rename Fr _ _ _ _ => F9
    rename News _ _ _ _ => N9
    try simp only [List.push_toArray] at N9
    refine ksw_end (⟨_, _, _, _, _, _, _⟩ : ES) F9 N9 (fun p hp => hp) (hf.append' (.cons _ _ .nil)) (by kst_all) (by ksw_same) ?_ ?_
    · exact exp_tab hi0 (by assumption) hi2 hi3 hi4 (by assumption)
    · show x.length - (ic + 1).toNat < x.length - ic.toNat
      omega
  all_goals (
    rename News _ _ _ _ => N9
    refine join_listW ⟨_, (N9 _ (.head _)).1, rfl, n, rfl⟩ hf (by decide) (sum_ok hi3 (by omega)) ?_
    intro tj kj
    have hjl := len_join hi3 (by omega)
    k_steps)
  all_goals cb_end hret
set_option maxRecDepth 100000 in
set_option maxHeartbeats 8000000 in
theorem c_exp0 (w : World) (p : Program) (loose : List Str) (mean : ExcName → Option Value) (mg mb : Str → Option Value) (x : Str) (t : Tok) :
    Clm w p loose mean mg mb 1 43 (x.length ≤ 1000) [.str x t] (fun t => .str ⟨(expd 0 x.cps.toList).toArray⟩ t) := by
  w_top off
  k_with_none
  k_with "tree" => (first | exact exp_brk hi0 (by assumption) hi4 (by assumption) (by assumption) | exact exp_all hi0 (by assumption) hi4 (by assumption))
  k_with "exec While Compare cons nil" => (refine Rest.out ?_)
  unfold Clm
  k_fill
  intro news dp un gd cn cs a ccd cl outer A₀ base h₀ L m s Q E B F X N T hk hpre hd hu hret
  refine wpAny_call ?_
  k_dflt (refine' code_def ?k1 ?k2 ?k3 ?k4 ?k5 ?kA ?kF ?kK ?k6 ?k7 ?k8 ?k9 ?kB ?_ ?c2 ?c3 ?c4 ?c5; (case kA => exact rfl); (case kF => exact rfl); (case kK => assumption); (case k1 => k_asm); (case k2 => k_asm); (case k3 => k_asm); (case k4 => k_asm); (case k5 => k_asm); (case k6 => k_is); (case k7 => k_is); (case k8 => ktr_room); (case k9 => first | exact BindsTo.of_eq rfl | exact binds_K (by k_in) rfl (by k_is) rfl rfl rfl); (case c5 => decide); (case kB => exact locs rfl); (case c2 => exact rfl); (case c3 => exact rfl); (case c4 => exact rfl); k_whole; intro g' L' h' FG' F' N' B' X' T'; (replace F' : Fr g' L' h' (fun y => List.lookup y [(Str.ofString "start_column", Value.int 0 222), (Str.ofString "line", Value.str x t)]) := F'); (try dsimp only); (try k_lift B'); (try k_fold))
  k_steps
  rename Fr _ _ _ _ => F1
  rename News _ _ _ _ => N1
  unfold Rest
  refine exp_while (x := x) (st := 0) F1 N1 (by with_unfolding_all rfl) (by with_unfolding_all rfl) (by passes_own) ?_
  intro cc ct vs ws n ic it uu hh tkk hf hinv Fk Nk
  obtain ⟨hi0, hi1, hi2, hi3, hi4⟩ := hinv
  clear F1 N1
  dsimp only at hf hi0 hi1 hi2 hi3 hi4
  k_fold
  k_steps
  · rename Fr _ _ _ _ => F9
    rename News _ _ _ _ => N9
    try simp only [List.push_toArray] at N9
    refine ksw_end (⟨_, _, _, _, _, _, _⟩ : ES) F9 N9 (fun p hp => hp) (hf.append' (.cons _ _ .nil)) (by kst_all) (by ksw_same) ?_ ?_
    · exact exp_sp hi0 (by assumption) hi2 hi3 hi4 (by assumption)
    · show x.length - (ic + 1).toNat < x.length - ic.toNat
      omega
  · rename Fr _ _ _ _ => F9
    rename News _ _ _ _ => N9
    try simp only [List.push_toArray] at N9
    refine ksw_end (⟨_, _, _, _, _, _, _⟩ : ES) F9 N9 (fun p hp => hp) (hf.append' (.cons _ _ .nil)) (by kst_all) (by ksw_same) ?_ ?_
    · exact exp_tab hi0 (by assumption) hi2 hi3 hi4 (by assumption)
    · show x.length - (ic + 1).toNat < x.length - ic.toNat
      omega
  all_goals (
    rename News _ _ _ _ => N9
    refine join_listW ⟨_, (N9 _ (.head _)).1, rfl, n, rfl⟩ hf (by decide) (sum_ok hi3 (by omega)) ?_
    intro tj kj
    have hjl := len_join hi3 (by omega)
    k_steps)
  all_goals cb_end hret
end Mine

namespace Mine
def tailS (w : Int) : List Nat → List Nat
  | [] => []
  | c :: r => if c = 32 then (if 9 ∈ c :: r then expd w (c :: r) else c :: r) else if c = 9 then expd w (c :: r) else c :: r
/-- the text with its first `cols` columns taken off, from column `w` on -/
def strp (cols : Int) : Int → List Nat → List Nat
  | w, [] => if w < cols then [] else List.replicate (w - cols).toNat 32
  | w, c :: r => if w < cols then (if c = 32 then strp cols (w + 1) r else if c = 9 then strp cols (w + (4 - w.fmod 4)) r else [])
      else List.replicate (w - cols).toNat 32 ++ tailS w (c :: r)

theorem call_ok {x : Str} {i : Int} (h : x.length ≤ 1000) : (Txt.slice x (some i) none).length ≤ 1000 := Nat.le_trans (Txt.slice_le _ _ _) h

theorem strp_stop {cols w : Int} {l : List Nat} (h : ¬ w < cols) : strp cols w l = List.replicate (w - cols).toNat 32 ++ tailS w l := by
  cases l with
  | nil => rw [strp, if_neg h, tailS, List.append_nil]
  | cons c r => rw [strp, if_neg h]
theorem strp_sp {cols wc ic : Int} {x : Str} (hc : 0 ≤ cols) (h0 : 0 ≤ ic) (h1 : ic < x.length) (h2 : 0 ≤ wc ∧ wc ≤ cols + 3) (h3 : strp cols 0 x.cps.toList = strp cols wc (x.cps.toList.drop ic.toNat)) (hw : wc < cols)
    (hs : (Txt.item x ic == Str.ofString " ") = true) :
    0 ≤ ic + 1 ∧ ic + 1 ≤ x.length ∧ (0 ≤ wc + 1 ∧ wc + 1 ≤ cols + 3) ∧ strp cols 0 x.cps.toList = strp cols (wc + 1) (x.cps.toList.drop (ic + 1).toNat) := by
  refine ⟨by omega, by omega, by omega, ?_⟩
  rw [item_at h0 h1] at hs
  rw [h3, drop_at h0 h1, is_sp hs, strp, if_pos hw, if_pos rfl]
theorem strp_tab {cols wc ic : Int} {x : Str} (hc : 0 ≤ cols) (h0 : 0 ≤ ic) (h1 : ic < x.length) (h2 : 0 ≤ wc ∧ wc ≤ cols + 3) (h3 : strp cols 0 x.cps.toList = strp cols wc (x.cps.toList.drop ic.toNat)) (hw : wc < cols)
    (hs : (Txt.item x ic == Str.ofString "\t") = true) :
    0 ≤ ic + 1 ∧ ic + 1 ≤ x.length ∧ (0 ≤ wc + (4 - wc.fmod 4) ∧ wc + (4 - wc.fmod 4) ≤ cols + 3) ∧ strp cols 0 x.cps.toList = strp cols (wc + (4 - wc.fmod 4)) (x.cps.toList.drop (ic + 1).toNat) := by
  have hm : 0 ≤ wc.fmod 4 ∧ wc.fmod 4 < 4 := ⟨Int.fmod_nonneg_of_pos _ (by decide), Int.fmod_lt_of_pos _ (by decide)⟩
  refine ⟨by omega, by omega, by omega, ?_⟩
  rw [item_at h0 h1] at hs
  rw [h3, drop_at h0 h1, is_tab hs, strp, if_pos hw, if_neg (by decide), if_pos rfl]
theorem empty_cps : (Str.ofString "").cps.toList = [] := by decide +kernel
theorem strp_brk {cols wc ic : Int} {x : Str} (h0 : 0 ≤ ic) (h1 : ic < x.length) (h3 : strp cols 0 x.cps.toList = strp cols wc (x.cps.toList.drop ic.toNat)) (hw : wc < cols)
    (hs : (Txt.item x ic == Str.ofString " ") = false) (ht : (Txt.item x ic == Str.ofString "\t") = false) : Str.ofString "" = ⟨(strp cols 0 x.cps.toList).toArray⟩ := by
  apply str_of_list
  rw [item_at h0 h1] at hs ht
  rw [h3, drop_at h0 h1, strp, if_pos hw, if_neg (no_sp hs), if_neg (no_tab ht), empty_cps]
theorem strp_short {cols wc ic : Int} {x : Str} (h1 : ¬ ic < x.length) (h3 : strp cols 0 x.cps.toList = strp cols wc (x.cps.toList.drop ic.toNat)) (hw : wc < cols) : Str.ofString "" = ⟨(strp cols 0 x.cps.toList).toArray⟩ := by
  apply str_of_list
  rw [h3, drop_end h1, strp, if_pos hw, empty_cps]
theorem strp_out {cols wc ic : Int} {x : Str} {l : List Nat} (h0 : 0 ≤ ic) (h1 : ic ≤ x.length) (h3 : strp cols 0 x.cps.toList = strp cols wc (x.cps.toList.drop ic.toNat)) (hw : ¬ wc < cols) (hl : l = tailS wc (x.cps.toList.drop ic.toNat)) :
    Txt.mul (Str.ofString " ") (wc - cols) ++ (⟨l.toArray⟩ : Str) = ⟨(strp cols 0 x.cps.toList).toArray⟩ := by
  apply str_of_list
  rw [h3, strp_stop hw, Str.cps_append, Array.toList_append, mul_cps, hl]
theorem slice_is {x : Str} {i : Int} (h0 : 0 ≤ i) (h1 : i ≤ x.length) : Txt.slice x (some i) none = ⟨(x.cps.toList.drop i.toNat).toArray⟩ := str_of_list (slice_cps h0 h1)
theorem no_occ {y : Str} : (Builtin.Str.occurrences y (Str.ofString "\t") 0 y.length 1).isEmpty = true ↔ 9 ∉ y.cps.toList := by
  rw [show Str.ofString "\t" = ⟨#[9]⟩ from by decide +kernel]
  have h := StrLaws.found_one y 9
  constructor
  · intro e hm
    rw [e, decide_eq_true hm] at h
    cases h
  · intro hm
    rw [decide_eq_false hm] at h
    simpa using h
theorem strp_plain {cols wc ic : Int} {x : Str} (h0 : 0 ≤ ic) (h1 : ic < x.length) (h3 : strp cols 0 x.cps.toList = strp cols wc (x.cps.toList.drop ic.toNat)) (hw : ¬ wc < cols)
    (hs : (Txt.item x ic == Str.ofString " ") = true) (ho : (Builtin.Str.occurrences (Txt.slice x (some ic) none) (Str.ofString "\t") 0 (Txt.slice x (some ic) none).length 1).isEmpty = true) :
    Txt.mul (Str.ofString " ") (wc - cols) ++ Txt.slice x (some ic) none = ⟨(strp cols 0 x.cps.toList).toArray⟩ := by
  have ho' := no_occ.mp ho
  rw [slice_is h0 (by omega)] at ho' ⊢
  refine strp_out h0 (by omega) h3 hw ?_
  rw [item_at h0 h1] at hs
  simp only [List.toList_toArray] at ho'
  rw [drop_at h0 h1, is_sp hs] at ho' ⊢
  rw [tailS, if_pos rfl, if_neg ho']
theorem strp_tabs {cols wc ic : Int} {x : Str} (h0 : 0 ≤ ic) (h1 : ic < x.length) (h3 : strp cols 0 x.cps.toList = strp cols wc (x.cps.toList.drop ic.toNat)) (hw : ¬ wc < cols)
    (hs : (Txt.item x ic == Str.ofString " ") = true) (ho : (Builtin.Str.occurrences (Txt.slice x (some ic) none) (Str.ofString "\t") 0 (Txt.slice x (some ic) none).length 1).isEmpty = false) :
    Txt.mul (Str.ofString " ") (wc - cols) ++ (⟨(expd wc (Txt.slice x (some ic) none).cps.toList).toArray⟩ : Str) = ⟨(strp cols 0 x.cps.toList).toArray⟩ := by
  have ho' : ¬ 9 ∉ (Txt.slice x (some ic) none).cps.toList := fun h => absurd (no_occ.mpr h) (by rw [ho]; exact Bool.false_ne_true)
  rw [slice_is h0 (by omega)] at ho' ⊢
  refine strp_out h0 (by omega) h3 hw ?_
  rw [item_at h0 h1] at hs
  simp only [List.toList_toArray] at ho' ⊢
  rw [drop_at h0 h1, is_sp hs] at ho' ⊢
  rw [tailS, if_pos rfl, if_pos (Decidable.of_not_not ho')]
theorem strp_end {cols wc ic : Int} {x : Str} (h0 : 0 ≤ ic) (h1 : ic ≤ x.length) (h2 : ¬ ic < x.length) (h3 : strp cols 0 x.cps.toList = strp cols wc (x.cps.toList.drop ic.toNat)) (hw : ¬ wc < cols) :
    Txt.mul (Str.ofString " ") (wc - cols) ++ Txt.slice x (some ic) none = ⟨(strp cols 0 x.cps.toList).toArray⟩ := by
  rw [slice_is h0 h1]
  refine strp_out h0 h1 h3 hw ?_
  rw [drop_end h2, tailS]
theorem strp_word {cols wc ic : Int} {x : Str} (h0 : 0 ≤ ic) (h1 : ic < x.length) (h3 : strp cols 0 x.cps.toList = strp cols wc (x.cps.toList.drop ic.toNat)) (hw : ¬ wc < cols)
    (hs : (Txt.item x ic == Str.ofString " ") = false) (ht : (Txt.item x ic != Str.ofString "\t") = true) :
    Txt.mul (Str.ofString " ") (wc - cols) ++ Txt.slice x (some ic) none = ⟨(strp cols 0 x.cps.toList).toArray⟩ := by
  rw [slice_is h0 (by omega)]
  refine strp_out h0 (by omega) h3 hw ?_
  rw [item_at h0 h1] at hs ht
  rw [drop_at h0 h1, tailS, if_neg (no_sp hs), if_neg (no_tab (by simpa using ht))]
theorem strp_lead {cols wc ic : Int} {x : Str} (h0 : 0 ≤ ic) (h1 : ic < x.length) (h3 : strp cols 0 x.cps.toList = strp cols wc (x.cps.toList.drop ic.toNat)) (hw : ¬ wc < cols)
    (hs : (Txt.item x ic == Str.ofString " ") = false) (ht : (Txt.item x ic != Str.ofString "\t") = false) :
    Txt.mul (Str.ofString " ") (wc - cols) ++ (⟨(expd wc (Txt.slice x (some ic) none).cps.toList).toArray⟩ : Str) = ⟨(strp cols 0 x.cps.toList).toArray⟩ := by
  rw [slice_is h0 (by omega)]
  refine strp_out h0 (by omega) h3 hw ?_
  rw [item_at h0 h1] at hs ht
  simp only [List.toList_toArray]
  have e : x.cps.getD ic.toNat 0 = 9 := is_tab (by simpa using ht)
  rw [drop_at h0 h1, e, tailS, if_neg (by decide), if_pos rfl]
theorem expd_len : ∀ (l : List Nat) (w : Int), (expd w l).length ≤ 4 * l.length
  | [], _ => Nat.le_refl _
  | c :: r, w => by
    have hm : 0 ≤ w.fmod 4 ∧ w.fmod 4 < 4 := ⟨Int.fmod_nonneg_of_pos _ (by decide), Int.fmod_lt_of_pos _ (by decide)⟩
    have h1 := expd_len r (w + 1)
    have h2 := expd_len r (w + (4 - w.fmod 4))
    rw [expd]
    split
    · simp only [List.length_cons]; omega
    · split
      · simp only [List.length_append, List.length_replicate, List.length_cons]; omega
      · simp only [List.length_cons]; omega
theorem expd_str {x : Str} {w : Int} (h : x.length ≤ 1000) : (⟨(expd w x.cps.toList).toArray⟩ : Str).length ≤ 4000 := by
  have h1 := expd_len x.cps.toList w
  have e : x.length = x.cps.toList.length := by simp [Str.length]
  show ((expd w x.cps.toList).toArray).size ≤ _
  rw [List.size_toArray]
  omega

structure SS where
  wc : Int
  wt : Tok
  ic : Int
  it : Tok

theorem c_expP (w : World) (p : Program) (loose : List Str) (mean : ExcName → Option Value) (mg mb : Str → Option Value) (x : Str) (t : Tok) (st : Int) (u : Tok) :
    ClmP w p loose mean mg mb 1 43 (x.length ≤ 1000) ((⟨(expd st x.cps.toList).toArray⟩ : Str).length ≤ 4000) [.str x t, .int st u] (fun t => .str ⟨(expd st x.cps.toList).toArray⟩ t) :=
  Clm.post (c_exp w p loose mean mg mb x t st u) expd_str
local macro_rules | `(tactic| walk_at "call ref") => `(tactic| (k_here; k_dflt (
  refine' c_expP _ _ _ _ _ _ _ _ _ _ _ _ _ _ _ _ _ _ _ _ _ _ _ _ _ _ _ _ ?k1 ?k2 ?k3 ?k4 ?k5 ?kK ?kp ?kd ?ku ?_;
  (case k1 => k_asm); (case k2 => k_asm); (case k3 => k_asm); (case k4 => k_asm); (case k5 => k_asm); (case kK => first | exact rfl | assumption);
  (case kp => exact call_ok (by omega)); (case kd => ktr_room); (case ku => ktr_units);
  intro t9 h9 tk9 F9 N9 hlen9; (try dsimp only); (try k_fold))))

set_option maxRecDepth 100000 in
set_option maxHeartbeats 8000000 in
theorem c_strip (w : World) (p : Program) (loose : List Str) (mean : ExcName → Option Value) (mg mb : Str → Option Value) (x : Str) (t : Tok) (cols : Int) (u : Tok) :
    Clm w p loose mean mg mb 2 35 (x.length ≤ 1000 ∧ 0 ≤ cols) [.str x t, .int cols u] (fun t => .str ⟨(strp cols 0 x.cps.toList).toArray⟩ t) := by
  w_top off
  k_with_none
  k_with "exec While BoolOp cons nil" => (refine Rest.out ?_)
  unfold Clm
  k_fill
  intro news dp un gd cn cs a ccd cl outer A₀ base h₀ L m s Q E B F X N T hk hpre hd hu hret
  refine wpAny_call ?_
  k_dflt (refine' code_def ?k1 ?k2 ?k3 ?k4 ?k5 ?kA ?kF ?kK ?k6 ?k7 ?k8 ?k9 ?kB ?_ ?c2 ?c3 ?c4 ?c5; (case kA => exact rfl); (case kF => exact rfl); (case kK => assumption); (case k1 => k_asm); (case k2 => k_asm); (case k3 => k_asm); (case k4 => k_asm); (case k5 => k_asm); (case k6 => k_is); (case k7 => k_is); (case k8 => ktr_room); (case k9 => first | exact BindsTo.of_eq rfl | exact binds_K (by k_in) rfl (by k_is) rfl rfl rfl); (case c5 => decide); (case kB => exact locs rfl); (case c2 => exact rfl); (case c3 => exact rfl); (case c4 => exact rfl); k_whole; intro g' L' h' FG' F' N' B' X' T'; (replace F' : Fr g' L' h' (fun y => List.lookup y [(Str.ofString "columns", Value.int cols u), (Str.ofString "line", Value.str x t)]) := F'); (try dsimp only); (try k_lift B'); (try k_fold))
  k_steps
  rename Fr _ _ _ _ => F1
  rename News _ _ _ _ => N1
  unfold Rest
  refine ksw_while (σ := SS) (fun _ => news) (fun c => [(Str.ofString "width", .int c.wc c.wt), (Str.ofString "index", .int c.ic c.it)]) (fun _ => True) [Str.ofString "char"]
    (fun c => 0 ≤ c.ic ∧ c.ic ≤ x.length ∧ (0 ≤ c.wc ∧ c.wc ≤ cols + 3) ∧ strp cols 0 x.cps.toList = strp cols c.wc (x.cps.toList.drop c.ic.toNat))
    (fun c => x.length - c.ic.toNat) ⟨0, _, 0, _⟩ F1 N1 .intro (by kst_all) ?_ ?_
  · refine ⟨Int.le_refl _, by show (0:Int) ≤ _; omega, ⟨Int.le_refl _, by show (0 : Int) ≤ _; omega⟩, ?_⟩
    rfl
  rintro ⟨wc, wt, ic, it⟩ uu hh tkk - ⟨hi0, hi1, hi2, hi3⟩ Fk Nk
  clear F1 N1
  dsimp only at hi0 hi1 hi2 hi3 Fk Nk
  dsimp only [kstB] at Fk
  k_fold
  k_steps
  · rename Fr _ _ _ _ => F9
    rename News _ _ _ _ => N9
    refine ksw_end (⟨_, _, _, _⟩ : SS) F9 N9 (fun p hp => hp) .intro (by kst_all) (by ksw_same) ?_ ?_
    · exact strp_sp hpre.2 hi0 (by assumption) hi2 hi3 (by assumption) (by assumption)
    · dsimp only; omega
  · rename Fr _ _ _ _ => F9
    rename News _ _ _ _ => N9
    refine ksw_end (⟨_, _, _, _⟩ : SS) F9 N9 (fun p hp => hp) .intro (by kst_all) (by ksw_same) ?_ ?_
    · exact strp_tab hpre.2 hi0 (by assumption) hi2 hi3 (by assumption) (by assumption)
    · dsimp only; omega
  all_goals first
    | (with_reducible refine cb_retS (Q := Q) hret ?_ (by assumption) (by assumption); (first | with_reducible exact strp_brk hi0 (by assumption) hi3 (by assumption) (by assumption) (by assumption) | with_reducible exact strp_short (by assumption) hi3 (by assumption) | with_reducible exact strp_plain hi0 (by assumption) hi3 (by assumption) (by assumption) (by assumption) | with_reducible exact strp_tabs hi0 (by assumption) hi3 (by assumption) (by assumption) (by assumption) | with_reducible exact strp_end hi0 hi1 (by assumption) hi3 (by assumption) | with_reducible exact strp_word hi0 (by assumption) hi3 (by assumption) (by assumption) (by assumption) | with_reducible exact strp_lead hi0 (by assumption) hi3 (by assumption) (by assumption) (by assumption)))
    | (exfalso; omega)
end Mine

namespace Mine
/-- what `_law_taken` gives -/
def takenS (lead : Str) (col : Int) (body : Str) (wid : Int) : Str :=
  if lead ≠ Str.ofString "" ∧ wid ≤ col then Txt.mul (Str.ofString " ") (col - wid) ++ body else Txt.mul (Str.ofString " ") col ++ body
theorem taken1 {lead body : Str} {col wid : Int} (h : (lead != Str.ofString "") = true) (h2 : wid ≤ col) : Txt.mul (Str.ofString " ") (col - wid) ++ body = takenS lead col body wid := by
  unfold takenS
  rw [if_pos ⟨by simpa using h, h2⟩]
theorem taken2 {lead body : Str} {col wid : Int} (h2 : ¬ wid ≤ col) : Txt.mul (Str.ofString " ") col ++ body = takenS lead col body wid := by
  unfold takenS
  rw [if_neg fun h => h2 h.2]
theorem taken3 {lead body : Str} {col wid : Int} (h : (lead != Str.ofString "") = false) : Txt.mul (Str.ofString " ") col ++ body = takenS lead col body wid := by
  unfold takenS
  rw [if_neg fun h' => h'.1 (by simpa using h)]
set_option maxRecDepth 100000 in
set_option maxHeartbeats 8000000 in
theorem c_taken (w : World) (p : Program) (loose : List Str) (mean : ExcName → Option Value) (mg mb : Str → Option Value) (lead : Str) (t1 : Tok) (col : Int) (t2 : Tok) (body : Str) (t3 : Tok) (wid : Int) (t4 : Tok) :
    Clm w p loose mean mg mb 1 78 (body.length ≤ 1000 ∧ 0 ≤ col ∧ col ≤ 1000 ∧ 0 ≤ wid) [.str lead t1, .int col t2, .str body t3, .int wid t4] (fun t => .str (takenS lead col body wid) t) := by
  w_top off
  k_with_none
  unfold Clm
  k_fill
  intro news dp un gd cn cs a ccd cl outer A₀ base h₀ L m s Q E B F X N T hk hpre hd hu hret
  obtain ⟨hp1, hp2, hp3, hp4⟩ := hpre
  refine wpAny_call ?_
  k_dflt cell_enter
  k_steps
  all_goals (with_reducible refine cb_retS (Q := Q) hret ?_ (by assumption) (by assumption))
  all_goals first
    | with_reducible exact taken1 (by assumption) (by assumption)
    | with_reducible exact taken2 (by assumption)
    | with_reducible exact taken3 (by assumption)
end Mine

namespace Mine
/-- what a call of `_law_line` does -/
abbrev ClmL (w : World) (p : Program) (loose : List Str) (mean : ExcName → Option Value) (mg mb : Str → Option Value) (d : Nat) (f : Addr) (vs : List Value) : Prop :=
  ∀ (news : List (Addr × Obj)) (dp un : Nat) (gd : Option (List Code)) (cn : Str) (cs : Scope) (a : Addr) (ccd : Value) (cl : List (Str × Addr)) (outer : List Env) (A₀ : Around) (base h₀ : Heap) (L : Addr) (m : Str → Option Value) (s : Shared) (Q E : Value → Shared → Prop),
    Below A₀ base outer h₀ → Fr h₀ L s.heap m → (Mine.hd.heap_39 w.params).In h₀ → News h₀ L s.heap news → Top p loose mean mg mb h₀ → cs.kind = .function →
    dp + d < recursionLimit → un + 8 * d < cLine →
    (∀ (D : Addr) (lead : Str) (t1 : Tok) (col : Int) (t2 : Tok) (body : Str) (t3 : Tok) (c : Nat) (h' : Heap) (tk' : Nat), Fr h₀ L h' m →
      News h₀ L h' ((D, ({ cls := .type "tuple", data := .seq #[.str lead t1, .int col t2, .str body t3] c } : Obj)) :: news) → (∀ p ∈ news, p.1 < D) →
      (∀ n ∈ lead.cps.toList, n = 32 ∨ n = 9) ∧ lead.length ≤ 6 ∧ col = cnt 0 lead.cps.toList ∧
        body ∈ [Str.ofString "", Str.ofString "a", Str.ofString "b c", Str.ofString "d\te", Str.ofString "f  g", Str.ofString "h\t i"] →
      Q (.ref D) { s with heap := h', toks := tk' }) →
    wpAny (model PySem.Challenge.rw_ba0039_01.row.prog w) (ktrTop dp un gd cn cs L a ccd cl outer) (call (.ref f) vs) Q E s
theorem line_st : (Str.ofString "").length = ([] : List Int).length ∧ (∀ n ∈ (Str.ofString "").cps.toList, n = 32 ∨ n = 9) ∧ (0 : Int) ≤ 0 ∧ (0 : Int) ≤ 4 * (([] : List Int).length : Int) ∧ ∀ rest, cnt 0 ((Str.ofString "").cps.toList ++ rest) = cnt 0 rest := by
  have e : (Str.ofString "").cps.toList = [] := by decide +kernel
  refine ⟨by decide +kernel, ?_, by decide, by decide, ?_⟩
  · rw [e]; intro n hn; cases hn
  · intro rest; rw [e]; rfl
theorem line_sp {pre : List Int} {k : Int} {ld : Str} {co : Int} (i1 : ld.length = pre.length) (i2 : ∀ n ∈ ld.cps.toList, n = 32 ∨ n = 9) (i3 : 0 ≤ co) (i4 : co ≤ 4 * (pre.length : Int)) (i5 : ∀ rest, cnt 0 (ld.cps.toList ++ rest) = cnt co rest) :
    (ld ++ Str.ofString " ").length = (pre ++ [k]).length ∧ (∀ n ∈ (ld ++ Str.ofString " ").cps.toList, n = 32 ∨ n = 9) ∧ 0 ≤ co + 1 ∧ co + 1 ≤ 4 * ((pre ++ [k]).length : Int) ∧ ∀ rest, cnt 0 ((ld ++ Str.ofString " ").cps.toList ++ rest) = cnt (co + 1) rest := by
  have e : (Str.ofString " ").cps.toList = [32] := by decide +kernel
  have e1 : (Str.ofString " ").length = 1 := by decide +kernel
  refine ⟨by rw [Str.length_append, e1, i1]; simp, ?_, by omega, by simp only [List.length_append, List.length_cons, List.length_nil]; omega, ?_⟩
  · intro n hn
    rw [Str.cps_append, Array.toList_append, e] at hn
    rcases List.mem_append.mp hn with hn | hn
    · exact i2 n hn
    · exact .inl (List.mem_singleton.mp hn)
  · intro rest
    rw [Str.cps_append, Array.toList_append, e, List.append_assoc, i5]
    rfl
theorem col_on {co c : Int} (h1 : co + 1 ≤ c) (h2 : c ≤ co + (4 - co.fmod 4)) (h : c.fmod 4 ≠ 0) : c + 1 ≤ co + (4 - co.fmod 4) := by
  rw [Int.fmod_eq_emod_of_nonneg _ (by decide)] at h ⊢
  rw [Int.fmod_eq_emod_of_nonneg _ (by decide)] at h2
  omega
theorem col_fall {co c : Int} (h1 : co + 1 ≤ c) (h2 : c ≤ co + (4 - co.fmod 4)) (h : c.fmod 4 ≠ 0) : (co + 4 - (c + 1)).toNat < (co + 4 - c).toNat := by
  have := col_on h1 h2 h
  have hm4 : 0 ≤ co.fmod 4 := Int.fmod_nonneg_of_pos _ (by decide)
  omega
theorem col_at {co c : Int} (h1 : co + 1 ≤ c) (h2 : c ≤ co + (4 - co.fmod 4)) (h : c.fmod 4 = 0) : c = co + (4 - co.fmod 4) := by
  rw [Int.fmod_eq_emod_of_nonneg _ (by decide)] at h ⊢
  rw [Int.fmod_eq_emod_of_nonneg _ (by decide)] at h2
  omega
theorem line_tab {pre : List Int} {k : Int} {ld : Str} {co c : Int} (h1 : co + 1 ≤ c) (h2 : c ≤ co + (4 - co.fmod 4)) (h : c.fmod 4 = 0) (i1 : ld.length = pre.length) (i2 : ∀ n ∈ ld.cps.toList, n = 32 ∨ n = 9) (i3 : 0 ≤ co) (i4 : co ≤ 4 * (pre.length : Int)) (i5 : ∀ rest, cnt 0 (ld.cps.toList ++ rest) = cnt co rest) :
    (ld ++ Str.ofString "\t").length = (pre ++ [k]).length ∧ (∀ n ∈ (ld ++ Str.ofString "\t").cps.toList, n = 32 ∨ n = 9) ∧ 0 ≤ c ∧ c ≤ 4 * ((pre ++ [k]).length : Int) ∧ ∀ rest, cnt 0 ((ld ++ Str.ofString "\t").cps.toList ++ rest) = cnt c rest := by
  have e : (Str.ofString "\t").cps.toList = [9] := by decide +kernel
  have e1 : (Str.ofString "\t").length = 1 := by decide +kernel
  have hm4 : 0 ≤ co.fmod 4 := Int.fmod_nonneg_of_pos _ (by decide)
  refine ⟨by rw [Str.length_append, e1, i1]; simp, ?_, by omega, by simp only [List.length_append, List.length_cons, List.length_nil]; omega, ?_⟩
  · intro n hn
    rw [Str.cps_append, Array.toList_append, e] at hn
    rcases List.mem_append.mp hn with hn | hn
    · exact i2 n hn
    · exact .inr (List.mem_singleton.mp hn)
  · intro rest
    rw [Str.cps_append, Array.toList_append, e, List.append_assoc, i5, col_at h1 h2 h]
    rfl
theorem line_end {ld b : Str} {co n : Int} {bs : List Str} (i2 : ∀ n ∈ ld.cps.toList, n = 32 ∨ n = 9) (i1 : ld.length = (rangeKs 0 (n - 0).toNat).length) (hn : n < 7) (i5 : ∀ rest, cnt 0 (ld.cps.toList ++ rest) = cnt co rest) (hb : b ∈ bs) :
    (∀ n ∈ ld.cps.toList, n = 32 ∨ n = 9) ∧ ld.length ≤ 6 ∧ co = cnt 0 ld.cps.toList ∧ b ∈ bs := by
  refine ⟨i2, ?_, ?_, hb⟩
  · rw [rangeKs_length] at i1
    omega
  · have := i5 []
    rw [List.append_nil] at this
    exact this.symm
theorem drop_second {h₀ h : Heap} {L : Addr} {a b : Addr × Obj} {news : List (Addr × Obj)} (N : News h₀ L h (a :: b :: news)) : News h₀ L h (a :: news) := by
  intro p hp
  rcases List.mem_cons.mp hp with rfl | hp
  · exact N _ (.head _)
  · exact N _ (.tail _ (.tail _ hp))
theorem six_ok (n : Int) : 0 ≤ n.fmod 6 ∧ n.fmod 6 < 6 := ⟨Int.fmod_nonneg_of_pos _ (by decide), Int.fmod_lt_of_pos _ (by decide)⟩
theorem pick_six (b0 b1 b2 b3 b4 b5 : Str) (t0 t1 t2 t3 t4 t5 : Tok) {n : Int} (h : 0 ≤ n ∧ n < 6) :
    ∃ b t, ([.str b0 t0, .str b1 t1, .str b2 t2, .str b3 t3, .str b4 t4, .str b5 t5] : List Value)[n.toNat]? = some (.str b t) ∧ b ∈ [b0, b1, b2, b3, b4, b5] := by
  have : n = 0 ∨ n = 1 ∨ n = 2 ∨ n = 3 ∨ n = 4 ∨ n = 5 := by omega
  rcases this with rfl | rfl | rfl | rfl | rfl | rfl
  · exact ⟨b0, t0, rfl, by simp⟩
  · exact ⟨b1, t1, rfl, by simp⟩
  · exact ⟨b2, t2, rfl, by simp⟩
  · exact ⟨b3, t3, rfl, by simp⟩
  · exact ⟨b4, t4, rfl, by simp⟩
  · exact ⟨b5, t5, rfl, by simp⟩
theorem item_list9 {prog : Program} {w : World} {A : Around} {E : Value → Shared → Prop} {s : Shared} {value slice : PySem.Expr} {h₀ : Heap} {L l : Addr} {vs : List Value} {c : Nat} {news : List (Addr × Obj)} {k : Int} {u : Tok} {v : Value} {Q : Value → Shared → Prop}
    (N : News h₀ L s.heap ((l, listOf vs.toArray c) :: news)) (h0 : 0 ≤ k ∧ k < 6) (hx : vs[k.toNat]? = some v) (h : Q v s)
    (hs : subscripted slice false (.ref l) (.int k u) = operate [.ref l, .int k u] (getItem (.ref l) (.int k u)) := by with_unfolding_all rfl) :
    wpAny (model prog w) A (subscriptTail value slice (.ref l) (.int k u)) Q E s :=
  have hl : s.heap.IsList l vs.toArray := ⟨_, (N _ (.head _)).1, rfl, c, rfl⟩
  tail_any hl.typeIs slot_list_getitem.lookup (wpAny_getItem_list hl h0.1 (by omega) (by simpa using hx) h) hs
/-- the loop to the next column that 4 divides -/
theorem col_while {prog : Program} {w : World} {A : Around} {E : Value → Shared → Prop} {Q : Flow → Shared → Prop} {s : Shared} {env : Env} {h₀ : Heap} {L : Addr} {test : PySem.Expr} {body : List Stmt} {pos : Pos} {m₀ : Str → Option Value} {led : List (Addr × Obj)} {co : Int} {tc : Tok}
    (F1 : Fr h₀ L s.heap m₀) (N1 : News h₀ L s.heap led) (hc : m₀ (Str.ofString "column") = some (.int (co + 1) tc)) (hE : PassesOwn (model prog w) A env E)
    (turn : ∀ cc ct (uu : Str → Option Value) h tk, co + 1 ≤ cc → cc ≤ co + (4 - co.fmod 4) → Fr h₀ L h (fun z => if z = Str.ofString "column" then some (.int cc ct) else if ([] : List Str).contains z then uu z else m₀ z) → News h₀ L h led →
      wpAny (model prog w) A (isTrue test env (eval test env)) (fun b s₂ =>
        if b = true then wpAny (model prog w) A (execs body env) (KswPost (σ := Int × Tok) h₀ L s (fun _ => led) (fun c => [(Str.ofString "column", .int c.1 c.2)]) (fun _ => True) [] m₀ (fun c => co + 1 ≤ c.1 ∧ c.1 ≤ co + (4 - co.fmod 4)) (fun c => (co + 4 - c.1).toNat) Q (cc, ct)) E s₂ else Q .next s₂) E { s with heap := h, toks := tk }) :
    wpAny (model prog w) A (exec (.While test body [] pos) env) Q E s := by
  have hm4 : 0 ≤ co.fmod 4 ∧ co.fmod 4 < 4 := ⟨Int.fmod_nonneg_of_pos _ (by decide), Int.fmod_lt_of_pos _ (by decide)⟩
  refine ksw_while (σ := Int × Tok) (fun _ => led) (fun c => [(Str.ofString "column", .int c.1 c.2)]) (fun _ => True) [] (fun c => co + 1 ≤ c.1 ∧ c.1 ≤ co + (4 - co.fmod 4)) (fun c => (co + 4 - c.1).toNat) (co + 1, tc) F1 N1 .intro (List.forall_mem_cons.mpr ⟨hc, List.forall_mem_nil _⟩) ?_ ?_ hE
  · exact ⟨Int.le_refl _, by show co + 1 ≤ _; omega⟩
  · rintro ⟨cc, ct⟩ uu h tk - ⟨h1, h2⟩ Fk Nk
    exact turn cc ct uu h tk h1 h2 Fk Nk
local macro_rules | `(tactic| walk_at "call ref") => `(tactic| (k_here; k_dflt (
  refine wpAny_call ?_;
  (refine' code_def ?k1 ?k2 ?k3 ?k4 ?k5 ?kA ?kF ?kK ?k6 ?k7 ?k8 ?k9 ?kB ?_ ?c2 ?c3 ?c4 ?c5; (case kA => exact rfl); (case kF => exact rfl); (case kK => exact rfl); (case k1 => k_asm); (case k2 => k_asm); (case k3 => k_asm); (case k4 => k_asm); (case k5 => k_asm); (case k6 => k_is); (case k7 => k_is); (case k8 => ktr_room); (case k9 => exact BindsTo.of_eq rfl); (case c5 => decide); (case kB => exact locs rfl); (case c2 => exact rfl); (case c3 => exact rfl); (case c4 => exact rfl); k_whole; intro g' L' h' FG' F' N' B' X' T'; (try dsimp only); (try k_lift B'); (try k_fold)))))
set_option maxRecDepth 100000 in
set_option maxHeartbeats 8000000 in
theorem c_line (w : World) (p : Program) (loose : List Str) (mean : ExcName → Option Value) (mg mb : Str → Option Value) (num : Int) (u : Tok) :
    ClmL w p loose mean mg mb 2 71 [.int num u] := by
  w_top off
  k_with_none
  k_with "pyIter ref" => (k_state (fun pre (lead : Str) col (num : Int) => lead.length = pre.length ∧ (∀ n ∈ lead.cps.toList, n = 32 ∨ n = 9) ∧ 0 ≤ col ∧ col ≤ 4 * pre.length ∧ ∀ rest, cnt 0 (lead.cps.toList ++ rest) = cnt col rest) "lead" "column" "number")
  k_with "state" => (first
    | exact line_st
    | exact line_sp (by assumption) (by assumption) (by assumption) (by assumption) (by assumption)
    | exact line_tab hc1 hc2 (by assumption) (by assumption) (by assumption) (by assumption) (by assumption) (by assumption))
  k_with "exec While Compare cons nil" => (refine Rest.out ?_)
  unfold ClmL
  k_fill
  intro news dp un gd cn cs a ccd cl outer A₀ base h₀ L m s Q E B F X N T hk hd hu hret
  have hm7 : 0 ≤ num.fmod 7 ∧ num.fmod 7 < 7 := ⟨Int.fmod_nonneg_of_pos _ (by decide), Int.fmod_lt_of_pos _ (by decide)⟩
  refine wpAny_call ?_
  k_dflt cell_enter
  k_steps
  · rename Fr _ _ _ _ => F1
    rename News _ _ _ _ => N1
    unfold Rest
    refine col_while F1 N1 (by with_unfolding_all rfl) (by passes_own) ?_
    intro cc ctt uu hh tkk hc1 hc2 Fk Nk
    clear F1 N1
    k_fold
    k_steps
    · rename Fr _ _ _ _ => F9
      rename News _ _ _ _ => N9
      refine ksw_end (⟨_, _⟩ : Int × Tok) F9 N9 (fun p hp => hp) .intro (by kst_all) (by ksw_same) ?_ ?_
      · exact ⟨by dsimp only; omega, col_on hc1 hc2 (by assumption)⟩
      · exact col_fall hc1 hc2 (by assumption)
  · rename News _ _ _ _ => N9
    rename (∀ rest : List Nat, cnt 0 _ = cnt _ rest) => hcnt
    rename (∀ n : Nat, n ∈ _ → n = 32 ∨ n = 9) => hlead
    rename (_ = (rangeKs _ _).length) => hlen
    rename (∀ p : Addr × Obj, p ∈ _ → p.1 < _) => hlt
    obtain ⟨b, tb, hb, hmem⟩ := pick_six (Str.ofString "") (Str.ofString "a") (Str.ofString "b c") (Str.ofString "d\te") (Str.ofString "f  g") (Str.ofString "h\t i") _ _ _ _ _ _ (six_ok _)
    refine item_list9 N9 (six_ok _) hb ?_
    k_steps
    rename Fr _ _ _ _ => F8
    rename News _ _ _ _ => N8
    rename (_ < _ ∧ AllLt _ _) => hD
    exact hret _ _ _ _ _ _ _ _ _ _ F8 (drop_second N8) (fun p hp => Nat.lt_trans (hlt p hp) hD.1) (line_end hlead hlen (by omega) hcnt hmem)
end Mine

namespace Mine
/-- what a call of `_law_at` does -/
abbrev ClmA (w : World) (p : Program) (loose : List Str) (mean : ExcName → Option Value) (mg mb : Str → Option Value) (d : Nat) (f : Addr) (k : Int) (u : Tok) : Prop :=
  ∀ (news : List (Addr × Obj)) (dp un : Nat) (gd : Option (List Code)) (cn : Str) (cs : Scope) (a : Addr) (ccd : Value) (cl : List (Str × Addr)) (outer : List Env) (A₀ : Around) (base h₀ : Heap) (L : Addr) (m : Str → Option Value) (s : Shared) (Q E : Value → Shared → Prop) (l : Addr) (vs : List Value) (ns : List Int),
    Below A₀ base outer h₀ → Fr h₀ L s.heap m → (Mine.hd.heap_39 w.params).In h₀ → News h₀ L s.heap news → Top p loose mean mg mb h₀ → cs.kind = .function →
    base.IsList l vs.toArray → IntsAre vs ns → ns.length ≤ 63 → 0 ≤ k ∧ k ≤ 100 →
    dp + d < recursionLimit → un + 8 * d < cLine →
    (∀ (n : Int) (t : Tok) (h' : Heap) (tk' : Nat), Fr h₀ L h' m → News h₀ L h' news → Q (.int n t) { s with heap := h', toks := tk' }) →
    wpAny (model PySem.Challenge.rw_ba0039_01.row.prog w) (ktrTop dp un gd cn cs L a ccd cl outer) (call (.ref f) [.ref l, .int k u]) Q E s
set_option maxRecDepth 100000 in
set_option maxHeartbeats 8000000 in
theorem c_at (w : World) (p : Program) (loose : List Str) (mean : ExcName → Option Value) (mg mb : Str → Option Value) (k : Int) (u : Tok) :
    ClmA w p loose mean mg mb 1 64 k u := by
  w_top off
  k_with_none
  unfold ClmA
  k_fill
  intro news dp un gd cn cs a ccd cl outer A₀ base h₀ L m s Q E l vs ns B F X N T hk hl hi hmost hkk hd hu hret
  have hfit : ns.length < 2 ^ 62 := by omega
  refine wpAny_call ?_
  k_dflt cell_enter
  k_steps
  all_goals
    rename Fr _ _ _ _ => F8
    rename News _ _ _ _ => N8
    exact hret _ _ _ _ F8 N8
end Mine

namespace Mine
/-- a line of the text, cleaned -/
def cleanS (cols : Int) (y : Str) : Str := if has cols 0 y.cps.toList = true then ⟨(strp cols 0 y.cps.toList).toArray⟩ else ⟨(expd 0 y.cps.toList).toArray⟩

theorem strs_get {vs : List Value} {ws : List Str} (h : StrsAre vs ws) : ∀ {i : Nat} {v : Value}, vs[i]? = some v → ∃ y t, v = .str y t ∧ ws[i]? = some y := by
  induction h with
  | nil => intro i v hv; simp at hv
  | cons y t r ih =>
    intro i v hv
    cases i with
    | zero => simp only [List.getElem?_cons_zero, Option.some.injEq] at hv; exact ⟨y, t, hv.symm, rfl⟩
    | succ i => exact ih (by simpa using hv)
theorem strp_len : ∀ (l : List Nat) (cols w : Int), w ≤ cols + 3 → (strp cols w l).length ≤ 3 + 4 * l.length
  | [], cols, w, h => by
    rw [strp]
    split
    · simp
    · rw [List.length_replicate]; simp; omega
  | c :: r, cols, w, h => by
    have hm : 0 ≤ w.fmod 4 ∧ w.fmod 4 < 4 := ⟨Int.fmod_nonneg_of_pos _ (by decide), Int.fmod_lt_of_pos _ (by decide)⟩
    rw [strp]
    split
    · rename_i hw
      split
      · have := strp_len r cols (w + 1) (by omega)
        simp only [List.length_cons]; omega
      · split
        · have := strp_len r cols (w + (4 - w.fmod 4)) (by omega)
          simp only [List.length_cons]; omega
        · simp
    · have ht : (tailS w (c :: r)).length ≤ 4 * (c :: r).length := by
        have he := expd_len (c :: r) w
        rw [tailS]
        split
        · split
          · exact he
          · simp only [List.length_cons]; omega
        · split
          · exact he
          · simp only [List.length_cons]; omega
      rw [List.length_append, List.length_replicate]
      omega
theorem clean_len {cols : Int} (hc : 0 ≤ cols) (y : Str) : (cleanS cols y).length ≤ 3 + 4 * y.length := by
  have e : y.length = y.cps.toList.length := by simp [Str.length]
  unfold cleanS
  split
  · have := strp_len y.cps.toList cols 0 (by omega)
    show (strp cols 0 y.cps.toList).toArray.size ≤ _
    rw [List.size_toArray]; omega
  · have := expd_len y.cps.toList 0
    show (expd 0 y.cps.toList).toArray.size ≤ _
    rw [List.size_toArray]; omega
theorem join_long (c : Nat) : ∀ ws : List Str, ws.length ≤ (Str.join ⟨#[c]⟩ ws).length + 1
  | [] => by simp
  | [x] => by simp
  | x :: y :: r => by
    have h := join_long c (y :: r)
    show _ ≤ (x ++ ⟨#[c]⟩ ++ Str.join ⟨#[c]⟩ (y :: r)).length + 1
    rw [Str.length_append, Str.length_append, show (⟨#[c]⟩ : Str).length = 1 from rfl]
    simp only [List.length_cons] at h ⊢
    omega
theorem nl_is : Str.ofString "\n" = ⟨#[10]⟩ := by decide +kernel
theorem split_count (x : Str) : (Txt.split x (Str.ofString "\n")).length ≤ x.length + 1 := by
  have h := join_long 10 (Txt.split x (Str.ofString "\n"))
  rw [← nl_is, StrLaws.join_split] at h
  exact h
theorem part_le (sep : Str) : ∀ ws : List Str, ∀ p ∈ ws, p.length ≤ (Str.join sep ws).length
  | [], p, hp => nomatch hp
  | [x], p, hp => by rw [List.mem_singleton.mp hp]; exact Nat.le_refl _
  | x :: y :: r, p, hp => by
    show _ ≤ (x ++ sep ++ Str.join sep (y :: r)).length
    rw [Str.length_append, Str.length_append]
    rcases List.mem_cons.mp hp with rfl | hp
    · omega
    · have := part_le sep (y :: r) p hp
      omega
theorem split_le {x p : Str} (h : p ∈ Txt.split x (Str.ofString "\n")) : p.length ≤ x.length := by
  have := part_le (Str.ofString "\n") _ p h
  rwa [StrLaws.join_split] at this
theorem sum_le_of {ws : List Str} {k : Nat} (h : ∀ p ∈ ws, p.length ≤ k) : (ws.map (·.length)).sum ≤ k * ws.length := by
  induction ws with
  | nil => exact Nat.zero_le _
  | cons a r ih =>
    have h1 := ih fun p hp => h p (.tail _ hp)
    have h2 := h a (.head _)
    simp only [List.map_cons, List.sum_cons, List.length_cons, Nat.mul_succ]
    omega
theorem clean_fits {cols : Int} {x : Str} (hc : 0 ≤ cols) (hx : x.length ≤ 200) :
    (((Txt.split x (Str.ofString "\n")).map (cleanS cols)).map (·.length)).sum + ((Txt.split x (Str.ofString "\n")).map (cleanS cols)).length ≤ 1048576 := by
  have h1 := sum_le_of (ws := (Txt.split x (Str.ofString "\n")).map (cleanS cols)) (k := 803) (by
    intro p hp
    obtain ⟨q, hq, rfl⟩ := List.mem_map.mp hp
    have h2 := clean_len hc q
    have h3 := split_le hq
    omega)
  have h4 := split_count x
  rw [List.length_map] at h1 ⊢
  have h5 : 803 * (Txt.split x (Str.ofString "\n")).length ≤ 803 * 201 := Nat.mul_le_mul_left _ (by omega)
  omega

theorem strs_next {us : List Value} {ws : List Str} {f : Str → Str} {i : Nat} {y r : Str} {t : Tok} (h : StrsAre us ((ws.take i).map f)) (hy : ws[i]? = some y) (hr : r = f y) : StrsAre (us ++ [.str r t]) ((ws.take (i + 1)).map f) := by
  have e : ws.take (i + 1) = ws.take i ++ [y] := by simp [List.take_add_one, hy]
  rw [e, List.map_append, hr]
  exact h.append' (.cons _ _ .nil)
theorem clean_yes {cols : Int} {y : Str} (h : has cols 0 y.cps.toList = true) : (⟨(strp cols 0 y.cps.toList).toArray⟩ : Str) = cleanS cols y := by
  unfold cleanS
  rw [if_pos h]
theorem clean_no {cols : Int} {y : Str} (h : has cols 0 y.cps.toList = false) : (⟨(expd 0 y.cps.toList).toArray⟩ : Str) = cleanS cols y := by
  unfold cleanS
  rw [if_neg (by rw [h]; exact Bool.false_ne_true)]
theorem led_in {a b : Addr × Obj} {news own : List (Addr × Obj)} : ∀ p ∈ a :: b :: news, p ∈ a :: b :: (news ++ own) := by
  intro p hp
  simp only [List.mem_cons, List.mem_append] at hp ⊢
  rcases hp with h | h | h
  · exact .inl h
  · exact .inr (.inl h)
  · exact .inr (.inr (.inl h))
theorem led_own {a b : Addr × Obj} {news own : List (Addr × Obj)} : ∀ p ∈ own, p ∈ a :: b :: (news ++ own) :=
  fun _ hp => .tail _ (.tail _ (List.mem_append.mpr (.inr hp)))
/-- a loop over a list of texts that fills another with a function of them -/
theorem iter_texts {prog : Program} {w : World} {A : Around} {E : Value → Shared → Prop} {s : Shared} {env : Env} {h₀ : Heap} {x : Str} {body : List Stmt} {Q : Flow → Shared → Prop} {l l1 : Addr} {vs : List Value} {nn n0 : Nat} {ws : List Str} {m₀ : Str → Option Value} {news : List (Addr × Obj)} (f : Str → Str)
    (hh : A.handled = none) (F : Fr h₀ env.locals s.heap m₀) (N : News h₀ env.locals s.heap ((l, listOf vs.toArray nn) :: (l1, listOf ([] : List Value).toArray n0) :: news)) (hv : StrsAre vs ws)
    (turn : ∀ i y t us n h tk own, ws[i]? = some y → OwnOff own (l :: l1 :: news.map (·.1)) → StrsAre us ((ws.take i).map f) → Fr h₀ env.locals h (fun z => if z = x then some (.str y t) else m₀ z) →
      News h₀ env.locals h ((l, listOf vs.toArray nn) :: (l1, listOf us.toArray n) :: (news ++ own)) →
      wpAny (model prog w) A (execs body env) (InvPostG h₀ env.locals (fun m' nx => (∃ us n, nx = (l, listOf vs.toArray nn) :: (l1, listOf us.toArray n) :: news ∧ StrsAre us ((ws.take (i + 1)).map f)) ∧ ∀ z, z ≠ x → m' z = m₀ z) own { s with heap := h, toks := tk } Q) E { s with heap := h, toks := tk })
    (done : ∀ (u : Str → Option Value) us n h tk, StrsAre us (ws.map f) → Fr h₀ env.locals h (fun z => if z = x then u z else m₀ z) → News h₀ env.locals h ((l, listOf vs.toArray nn) :: (l1, listOf us.toArray n) :: news) → Q .next { s with heap := h, toks := tk }) :
    wpAny (model prog w) A (pyIter (.ref l)) (fun it s₂ => LoopAtV prog w A h₀ env x body Q E it s₂) E s := by
  refine kdl_iter (fun i m nx => (∃ us n, nx = (l, listOf vs.toArray nn) :: (l1, listOf us.toArray n) :: news ∧ StrsAre us ((ws.take i).map f)) ∧ ∀ z, z ≠ x → m z = m₀ z) hh (.head _) F N ⟨⟨[], n0, rfl, .nil⟩, fun _ _ => rfl⟩ ?_ ?_
  · rintro i v m₁ nx h tk own hi hoff - ⟨⟨us, n, rfl, hus⟩, hm⟩ F₁ N₁
    rw [map_none hm] at F₁
    obtain ⟨y, ty, rfl, hy⟩ := strs_get hv hi
    refine wpAny_mono (turn i y ty us n h tk own hy hoff hus F₁ N₁) (fun fl s₂ p => ?_) fun _ _ e => e
    have up : InvEndG h₀ env.locals (fun m' nx => (∃ us n, nx = (l, listOf vs.toArray nn) :: (l1, listOf us.toArray n) :: news ∧ StrsAre us ((ws.take (i + 1)).map f)) ∧ ∀ z, z ≠ x → m' z = m₀ z) own { s with heap := h, toks := tk } s₂ →
        InvEndG h₀ env.locals (fun m' nx => (l, listOf vs.toArray nn) ∈ nx ∧ ((∃ us n, nx = (l, listOf vs.toArray nn) :: (l1, listOf us.toArray n) :: news ∧ StrsAre us ((ws.take (i + 1)).map f)) ∧ ∀ z, z ≠ x → m' z = m₀ z)) own { s with heap := h, toks := tk } s₂ := by
      rintro ⟨h', tk', m', news', nx, e, F', N', hn, ho, ha, hJ⟩
      refine ⟨h', tk', m', news', nx, e, F', N', hn, ho, ha, ?_, hJ⟩
      obtain ⟨⟨us', n', rfl, _⟩, _⟩ := hJ
      exact .head _
    cases fl with
    | ret v => exact p
    | brk => exact p
    | next => exact up p
    | cont => exact up p
  · rintro m₁ nx h tk ⟨⟨us, n, rfl, hus⟩, hm⟩ F₁ N₁
    have hl : vs.length = ws.length := hv.length
    rw [hl, List.take_length] at hus
    refine done m₁ us n h tk hus ?_ N₁
    rw [done_none hm]
    exact F₁
local macro_rules | `(tactic| walk_at "call builtin:str.split") => `(tactic| (k_here; k_dflt (
  refine' KSpl.split1 ?k1 ?k2 ?k3 ?_ ?k4;
  (case k1 => k_asm); (case k2 => k_asm); (case k3 => decide); (case k4 => rw [sizeLine_eq]; omega);
  intro D' lp' h' k' e' a' F' N' l1; (try k_lt l1))))
local macro_rules | `(tactic| walk_at "call ref") => `(tactic| (k_here; k_dflt (
  refine' c_has _ _ _ _ _ _ _ _ _ _ _ _ _ _ _ _ _ _ _ _ _ _ _ _ _ _ _ _ ?k1 ?k2 ?k3 ?k4 ?k5 ?kK ?kp ?kd ?ku ?_;
  (case k1 => k_asm); (case k2 => k_asm); (case k3 => k_asm); (case k4 => k_asm); (case k5 => k_asm); (case kK => first | exact rfl | assumption);
  (case kp => exact True.intro); (case kd => ktr_room); (case ku => ktr_units);
  intro t9 h9 tk9 F9 N9; (try dsimp only); (try k_fold))))
local macro_rules | `(tactic| walk_at "call ref") => `(tactic| (k_here; k_dflt (
  refine' c_strip _ _ _ _ _ _ _ _ _ _ _ _ _ _ _ _ _ _ _ _ _ _ _ _ _ _ _ _ ?k1 ?k2 ?k3 ?k4 ?k5 ?kK ?kp ?kd ?ku ?_;
  (case k1 => k_asm); (case k2 => k_asm); (case k3 => k_asm); (case k4 => k_asm); (case k5 => k_asm); (case kK => first | exact rfl | assumption);
  (case kp => exact ⟨by omega, by omega⟩); (case kd => ktr_room); (case ku => ktr_units);
  intro t9 h9 tk9 F9 N9; (try dsimp only); (try k_fold))))
local macro_rules | `(tactic| walk_at "call ref") => `(tactic| (k_here; k_dflt (
  refine' c_exp0 _ _ _ _ _ _ _ _ _ _ _ _ _ _ _ _ _ _ _ _ _ _ _ _ _ _ ?k1 ?k2 ?k3 ?k4 ?k5 ?kK ?kp ?kd ?ku ?_;
  (case k1 => k_asm); (case k2 => k_asm); (case k3 => k_asm); (case k4 => k_asm); (case k5 => k_asm); (case kK => first | exact rfl | assumption);
  (case kp => omega); (case kd => ktr_room); (case ku => ktr_units);
  intro t9 h9 tk9 F9 N9; (try dsimp only); (try k_fold))))

set_option maxRecDepth 100000 in
set_option maxHeartbeats 8000000 in
theorem c_clean (w : World) (p : Program) (loose : List Str) (mean : ExcName → Option Value) (mg mb : Str → Option Value) (x : Str) (t : Tok) (cols : Int) (u : Tok) :
    Clm w p loose mean mg mb 3 21 (x.length ≤ 200 ∧ 0 ≤ cols) [.str x t, .int cols u] (fun t => .str (Txt.join (Str.ofString "\n") ((Txt.split x (Str.ofString "\n")).map (cleanS cols))) t) := by
  w_top off
  k_with_none
  k_with "pyIter ref" => (refine Rest.out ?_)
  unfold Clm
  k_fill
  intro news dp un gd cn cs a ccd cl outer A₀ base h₀ L m s Q E B F X N T hk hpre hd hu hret
  obtain ⟨hp1, hp2⟩ := hpre
  refine wpAny_call ?_
  k_dflt cell_enter
  k_steps
  rename Fr _ _ _ _ => F1
  rename News _ _ _ _ => N1
  rename (List.map _ _ = Txt.split _ _) => ep
  rename StrsAre _ _ => ap
  unfold Rest
  have kMark := kstMark
  refine iter_texts (cleanS cols) (n0 := 0) rfl F1 N1 (ep ▸ ap) ?_ ?_
  · intro i y ty us n hh tkk own hy hoff hus F2 N2
    clear F1 N1
    have hyl : y.length ≤ x.length := split_le (List.mem_of_getElem? hy)
    have hul : us.length ≤ 201 := by
      rw [hus.length, List.length_map, List.length_take]
      have := split_count x
      omega
    try k_fold
    k_steps
    all_goals
      rename Fr _ _ _ _ => F9
      rename News _ _ _ _ => N9
      try simp only [List.push_toArray] at N9
    · exact InvEndG.intro F9 N9 ⟨⟨_, _, rfl, strs_next hus hy (clean_yes (by assumption))⟩, fun z hz => if_neg hz⟩ hoff led_in led_own
    · exact InvEndG.intro F9 N9 ⟨⟨_, _, rfl, strs_next hus hy (clean_no (by assumption))⟩, fun z hz => if_neg hz⟩ hoff led_in led_own
  · intro uu us n hh tkk hus F2 N2
    clear F1 N1
    dsimp only
    k_steps
    rename News _ _ _ _ => N9
    refine join_listW ⟨_, (N9 _ (.tail _ (.head _))).1, rfl, n, rfl⟩ hus (by decide) (clean_fits hp2 hp1) ?_
    intro tj kj
    k_steps
    with_reducible refine cb_retS (Q := Q) hret rfl (by assumption) ?_
    rename News _ _ _ _ => N8
    exact fun p hp => N8 p (.tail _ (.tail _ hp))
end Mine

namespace Mine
structure LS where
  us1 : List Value
  ws1 : List Str
  n1 : Nat
  us2 : List Value
  n2 : Nat

theorem cnt_le : ∀ (l : List Nat) (w : Int), 0 ≤ w → 0 ≤ cnt w l ∧ cnt w l ≤ w + 4 * l.length
  | [], w, h => ⟨h, by simp [cnt]⟩
  | c :: r, w, h => by
    have hm : 0 ≤ w.fmod 4 ∧ w.fmod 4 < 4 := ⟨Int.fmod_nonneg_of_pos _ (by decide), Int.fmod_lt_of_pos _ (by decide)⟩
    rw [cnt]
    split
    · have := cnt_le r (w + 1) (by omega)
      simp only [List.length_cons]; omega
    · split
      · have := cnt_le r (w + (4 - w.fmod 4)) (by omega)
        simp only [List.length_cons]; omega
      · simp only [List.length_cons]; omega
abbrev Good (lead : Str) (col : Int) (body : Str) : Prop :=
  (∀ n ∈ lead.cps.toList, n = 32 ∨ n = 9) ∧ lead.length ≤ 6 ∧ col = cnt 0 lead.cps.toList ∧
    body ∈ [Str.ofString "", Str.ofString "a", Str.ofString "b c", Str.ofString "d\te", Str.ofString "f  g", Str.ofString "h\t i"]
theorem good_facts {lead body : Str} {col : Int} (h : Good lead col body) : lead.length ≤ 6 ∧ 0 ≤ col ∧ col ≤ 24 ∧ body.length ≤ 5 := by
  obtain ⟨h1, h2, h3, h4⟩ := h
  have e : lead.length = lead.cps.toList.length := by simp [Str.length]
  have hc := cnt_le lead.cps.toList 0 (by omega)
  have hb : ∀ b ∈ [Str.ofString "", Str.ofString "a", Str.ofString "b c", Str.ofString "d\te", Str.ofString "f  g", Str.ofString "h\t i"], b.length ≤ 5 := by decide +kernel
  have := hb _ h4
  omega

theorem c_stripP (w : World) (p : Program) (loose : List Str) (mean : ExcName → Option Value) (mg mb : Str → Option Value) (x : Str) (t : Tok) (cols : Int) (u : Tok) :
    ClmP w p loose mean mg mb 2 35 (x.length ≤ 1000 ∧ 0 ≤ cols) ((⟨(strp cols 0 x.cps.toList).toArray⟩ : Str).length ≤ 3 + 4 * x.length) [.str x t, .int cols u] (fun t => .str ⟨(strp cols 0 x.cps.toList).toArray⟩ t) :=
  Clm.post (c_strip w p loose mean mg mb x t cols u) fun h => by
    have h1 := strp_len x.cps.toList cols 0 (by omega)
    have e : x.length = x.cps.toList.length := by simp [Str.length]
    show ((strp cols 0 x.cps.toList).toArray).size ≤ _
    rw [List.size_toArray]
    omega
/-- what is known of each line that the law builds -/
abbrev Fit (p : Str) : Prop := p.length ≤ 11 ∧ 10 ∉ p.cps.toList
/-- the names that a turn of the law stores, but its own -/
abbrev lawNames : List Str := [Str.ofString "lead", Str.ofString "column", Str.ofString "body", Str.ofString "line", Str.ofString "taken"]
/-- what holds behind n turns of the law -/
def LawJ (wid : Int) (la lb : Addr) (x : Str) (m₀ : Str → Option Value) (n : Nat) (m : Str → Option Value) (nx : List (Addr × Obj)) : Prop :=
  ∃ us1 ws1 n1 us2 n2, nx = [(lb, listOf us2.toArray n2), (la, listOf us1.toArray n1)] ∧ StrsAre us1 ws1 ∧ StrsAre us2 (ws1.map (cleanS wid)) ∧ ws1.length = n ∧ (∀ p ∈ ws1, Fit p) ∧ ∀ z, z ≠ x → lawNames.contains z = false → m z = m₀ z
theorem law_loop {prog : Program} {w : World} {A : Around} {E : Value → Shared → Prop} {s : Shared} {env : Env} {h₀ : Heap} {x : Str} {body : List Stmt} {Q : Flow → Shared → Prop} {r la lb : Addr} {cN wid more : Int} {t₀ u₀ v₀ tw tm : Tok} {n10 n20 : Nat} {m₀ : Str → Option Value}
    (hh : A.handled = none) (hr : IsRange s.heap r 0 cN 1 t₀ u₀ v₀) (hc : 1 ≤ cN ∧ cN ≤ 8) (F : Fr h₀ env.locals s.heap m₀) (N : News h₀ env.locals s.heap [(lb, listOf ([] : List Value).toArray n20), (la, listOf ([] : List Value).toArray n10)])
    (_hw : m₀ (Str.ofString "width") = some (.int wid tw)) (_hm : m₀ (Str.ofString "more") = some (.int more tm)) (hwi : 0 ≤ wid ∧ wid < 10) (hmo : 0 ≤ more ∧ more < 10)
    (turn : ∀ us1 ws1 n1 us2 n2 (k : Int) t (u : Str → Option Value) h tk own, 0 ≤ k ∧ k < 8 → 0 ≤ wid ∧ wid < 10 → 0 ≤ more ∧ more < 10 → OwnOff own [lb, la] → StrsAre us1 ws1 → StrsAre us2 (ws1.map (cleanS wid)) → us1.length ≤ 7 → us2.length ≤ 7 → (∀ p ∈ ws1, Fit p) →
      Fr h₀ env.locals h (fun y => if y = x then some (.int k t) else if lawNames.contains y then u y else m₀ y) → News h₀ env.locals h ((lb, listOf us2.toArray n2) :: (la, listOf us1.toArray n1) :: own) →
      wpAny (model prog w) A (execs body env) (InvPostN h₀ env.locals (LawJ wid la lb x m₀ (ws1.length + 1)) own [lb, la] { s with heap := h, toks := tk } Q) E { s with heap := h, toks := tk })
    (done : ∀ us1 ws1 n1 us2 n2 (u : Str → Option Value) h tk, StrsAre us1 ws1 → StrsAre us2 (ws1.map (cleanS wid)) → 1 ≤ ws1.length → ws1.length ≤ 8 → 0 ≤ wid ∧ wid < 10 → (∀ p ∈ ws1, Fit p) →
      Fr h₀ env.locals h (fun y => if y = x then u y else if lawNames.contains y then u y else m₀ y) → News h₀ env.locals h [(lb, listOf us2.toArray n2), (la, listOf us1.toArray n1)] → Q .next { s with heap := h, toks := tk }) :
    wpAny (model prog w) A (pyIter (.ref r)) (fun it s₂ => LoopAtV prog w A h₀ env x body Q E it s₂) E s := by
  refine kst_range (σ := LS) (n := (cN - 0).toNat) (fun c => [(lb, listOf c.us2.toArray c.n2), (la, listOf c.us1.toArray c.n1)]) (fun _ => []) (fun c => StrsAre c.us1 c.ws1 ∧ StrsAre c.us2 (c.ws1.map (cleanS wid))) lawNames
    (fun pre c => c.ws1.length = pre.length ∧ ∀ p ∈ c.ws1, Fit p) ⟨[], [], n10, [], n20⟩ hh hr (small_one (by omega) (by omega) (by omega) (by omega)) (rangeSize_nat _ _) F N ⟨.nil, .nil⟩ (List.forall_mem_nil _) ⟨rfl, List.forall_mem_nil _⟩ ?_ ?_
  · rintro ⟨us1, ws1, n1, us2, n2⟩ pre k t u h tk own hk hlt hoff ⟨hs1, hs2⟩ ⟨hl, hfit⟩ F₁ N₁
    dsimp only at hs1 hs2 hl hfit F₁ N₁
    have e1 := hs1.length
    have e2 := hs2.length
    rw [List.length_map] at e2
    refine wpAny_mono (turn us1 ws1 n1 us2 n2 k t u h tk own ⟨by omega, by omega⟩ hwi hmo hoff hs1 hs2 (by omega) (by omega) hfit F₁ N₁) (fun fl s₂ p => ?_) fun _ _ e => e
    have up : InvEndN h₀ env.locals (LawJ wid la lb x m₀ (ws1.length + 1)) own [lb, la] { s with heap := h, toks := tk } s₂ →
        InvEndN h₀ env.locals (KstS (σ := LS) (fun c => [(lb, listOf c.us2.toArray c.n2), (la, listOf c.us1.toArray c.n1)]) (fun _ => []) (fun c => StrsAre c.us1 c.ws1 ∧ StrsAre c.us2 (c.ws1.map (cleanS wid))) x lawNames m₀ (fun pre c => c.ws1.length = pre.length ∧ ∀ p ∈ c.ws1, Fit p) (pre ++ [k])) own [lb, la] { s with heap := h, toks := tk } s₂ := by
      rintro ⟨h', tk', m', news', nx, e, F', N', hn, ho, ha, hJ⟩
      refine ⟨h', tk', m', news', nx, e, F', N', hn, ho, ha, ?_⟩
      obtain ⟨us1', ws1', n1', us2', n2', rfl, q1, q2, q3, q4, q5⟩ := hJ
      exact ⟨⟨us1', ws1', n1', us2', n2'⟩, rfl, ⟨q1, q2⟩, List.forall_mem_nil _, fun z hz _ hs => q5 z hz hs, by rw [List.length_append]; show ws1'.length = pre.length + 1; omega, q4⟩
    cases fl with
    | ret v => exact p
    | brk => exact p
    | next => exact up p
    | cont => exact up p
  · rintro ⟨us1, ws1, n1, us2, n2⟩ u h tk ⟨hs1, hs2⟩ ⟨hl, hfit⟩ F₁ N₁
    dsimp only at hs1 hs2 hl hfit F₁ N₁
    rw [rangeKs_length] at hl
    exact done us1 ws1 n1 us2 n2 u h tk hs1 hs2 (by omega) (by omega) hwi hfit F₁ N₁
end Mine

namespace Mine
/-- leading blanks and tabs alone -/
abbrev Lead (l : List Nat) : Prop := ∀ n ∈ l, n = 32 ∨ n = 9
/-- a body begins with no blank and no tab -/
abbrev Bod (l : List Nat) : Prop := ∀ c r, l = c :: r → c ≠ 32 ∧ c ≠ 9

theorem tab_lo (w : Int) : 1 ≤ 4 - w.fmod 4 := by
  have := Int.fmod_lt_of_pos w (b := 4) (by decide)
  omega
theorem cnt_ge : ∀ (l : List Nat) (w : Int), w ≤ cnt w l
  | [], w => Int.le_refl _
  | c :: r, w => by
    have h := tab_lo w
    rw [cnt]
    split
    · have := cnt_ge r (w + 1); omega
    · split
      · have := cnt_ge r (w + (4 - w.fmod 4)); omega
      · exact Int.le_refl _
theorem cnt_bod {b : List Nat} (hb : Bod b) (w : Int) : cnt w b = w := by
  cases b with
  | nil => rfl
  | cons c r =>
    obtain ⟨h1, h2⟩ := hb c r rfl
    rw [cnt, if_neg h1, if_neg h2]
theorem expd_bod {b : List Nat} (hb : Bod b) (w : Int) : expd w b = b := by
  cases b with
  | nil => rfl
  | cons c r =>
    obtain ⟨h1, h2⟩ := hb c r rfl
    rw [expd, if_neg h1, if_neg h2]
theorem cnt_cat {b : List Nat} (hb : Bod b) : ∀ {l : List Nat}, Lead l → ∀ w, cnt w (l ++ b) = cnt w l
  | [], _, w => cnt_bod hb w
  | c :: r, hl, w => by
    have ih := cnt_cat hb (l := r) (fun n hn => hl n (.tail _ hn))
    rw [List.cons_append, cnt, cnt]
    split
    · exact ih _
    · split
      · exact ih _
      · rfl
theorem expd_cat {b : List Nat} (hb : Bod b) : ∀ {l : List Nat}, Lead l → ∀ w, expd w (l ++ b) = List.replicate (cnt w l - w).toNat 32 ++ b
  | [], _, w => by
    rw [List.nil_append, expd_bod hb, cnt, Int.sub_self]
    rfl
  | c :: r, hl, w => by
    have ih := expd_cat hb (l := r) (fun n hn => hl n (.tail _ hn))
    have ht := tab_lo w
    rcases hl c (.head _) with rfl | rfl
    · have hg := cnt_ge r (w + 1)
      rw [List.cons_append, expd, if_pos rfl, cnt, if_pos rfl, ih]
      have e : (cnt (w + 1) r - w).toNat = (cnt (w + 1) r - (w + 1)).toNat + 1 := by omega
      rw [e, List.replicate_succ, List.cons_append]
    · have hg := cnt_ge r (w + (4 - w.fmod 4))
      rw [List.cons_append, expd, if_neg (by decide), if_pos rfl, cnt, if_neg (by decide), if_pos rfl, ih, ← List.append_assoc, List.replicate_append_replicate]
      congr 2
      omega
theorem cnt_s (w : Int) (r : List Nat) : cnt w (32 :: r) = cnt (w + 1) r := by rw [cnt, if_pos rfl]
theorem cnt_t (w : Int) (r : List Nat) : cnt w (9 :: r) = cnt (w + (4 - w.fmod 4)) r := by rw [cnt, if_neg (by decide), if_pos rfl]
theorem has_s (cols w : Int) (r : List Nat) : has cols w (32 :: r) = if cols ≤ w + 1 then true else has cols (w + 1) r := by rw [has, if_pos rfl]
theorem has_t (cols w : Int) (r : List Nat) : has cols w (9 :: r) = if cols ≤ w + (4 - w.fmod 4) then true else has cols (w + (4 - w.fmod 4)) r := by
  conv => lhs; rw [has]
  rw [if_neg (by decide), if_pos rfl]
theorem strp_t {cols w : Int} (h : w < cols) (r : List Nat) : strp cols w (9 :: r) = strp cols (w + (4 - w.fmod 4)) r := by rw [strp, if_pos h, if_neg (by decide), if_pos rfl]
theorem strp_s {cols w : Int} (h : w < cols) (r : List Nat) : strp cols w (32 :: r) = strp cols (w + 1) r := by rw [strp, if_pos h, if_pos rfl]
theorem has_cat {b : List Nat} (hb : Bod b) (cols : Int) : ∀ {l : List Nat}, Lead l → ∀ w, has cols w (l ++ b) = decide (l ≠ [] ∧ cols ≤ cnt w l)
  | [], _, w => by
    rw [List.nil_append]
    cases b with
    | nil => simp [has]
    | cons c r =>
      obtain ⟨h1, h2⟩ := hb c r rfl
      rw [has, if_neg h1, if_neg h2]
      simp
  | c :: r, hl, w => by
    have ih := has_cat hb cols (l := r) (fun n hn => hl n (.tail _ hn))
    have key : ∀ w1 : Int, (if cols ≤ w1 then true else has cols w1 (r ++ b)) = decide (c :: r ≠ [] ∧ cols ≤ cnt w1 r) := by
      intro w1
      have hg := cnt_ge r w1
      split
      · rename_i h
        exact (decide_eq_true ⟨List.cons_ne_nil _ _, by omega⟩).symm
      · rename_i h
        rw [ih]
        apply decide_eq_decide.mpr
        constructor
        · rintro ⟨_, h2⟩; exact ⟨List.cons_ne_nil _ _, h2⟩
        · rintro ⟨_, h2⟩
          refine ⟨?_, h2⟩
          rintro rfl
          exact h h2
    rcases hl c (.head _) with rfl | rfl
    · rw [List.cons_append, has_s, cnt_s]
      exact key _
    · rw [List.cons_append, has_t, cnt_t]
      exact key _
theorem lead_plain : ∀ {l : List Nat}, Lead l → 9 ∉ l → ∀ w, l = List.replicate (cnt w l - w).toNat 32
  | [], _, _, w => by rw [cnt, Int.sub_self]; rfl
  | c :: r, hl, h9, w => by
    have hc : c = 32 := (hl c (.head _)).resolve_right fun e => h9 (e ▸ .head _)
    have ih := lead_plain (l := r) (fun n hn => hl n (.tail _ hn)) (fun h => h9 (.tail _ h)) (w + 1)
    have hg := cnt_ge r (w + 1)
    rw [cnt, if_pos hc]
    have e : (cnt (w + 1) r - w).toNat = (cnt (w + 1) r - (w + 1)).toNat + 1 := by omega
    rw [e, List.replicate_succ, ← ih, hc]
theorem tailS_cat {b : List Nat} (hb : Bod b) {l : List Nat} (hl : Lead l) (w : Int) : tailS w (l ++ b) = List.replicate (cnt w l - w).toNat 32 ++ b := by
  cases l with
  | nil =>
    rw [List.nil_append, cnt, Int.sub_self]
    cases b with
    | nil => rfl
    | cons c r =>
      obtain ⟨h1, h2⟩ := hb c r rfl
      rw [tailS, if_neg h1, if_neg h2]
      rfl
  | cons c r =>
    have he := expd_cat hb hl w
    rw [List.cons_append] at he ⊢
    rw [tailS]
    rcases hl c (.head _) with rfl | rfl
    · rw [if_pos rfl]
      split
      · exact he
      · rename_i h
        have h9 : 9 ∉ 32 :: r := fun h' => h (by
          rcases List.mem_cons.mp h' with h' | h'
          · exact h' ▸ .head _
          · exact .tail _ (List.mem_append.mpr (.inl h')))
        have := lead_plain hl h9 w
        rw [← this]
        rfl
    · rw [if_neg (by decide), if_pos rfl]
      exact he
theorem strp_cat {b : List Nat} (hb : Bod b) (cols : Int) : ∀ {l : List Nat}, Lead l → ∀ w, strp cols w (l ++ b) = if cnt w l < cols then [] else List.replicate (cnt w l - cols).toNat 32 ++ b
  | [], hl, w => by
    by_cases hw : w < cols
    · rw [List.nil_append, cnt, if_pos hw]
      cases b with
      | nil => rw [strp, if_pos hw]
      | cons c r =>
        obtain ⟨h1, h2⟩ := hb c r rfl
        rw [strp, if_pos hw, if_neg h1, if_neg h2]
    · rw [strp_stop hw, tailS_cat hb hl, cnt, if_neg hw, Int.sub_self]
      rfl
  | c :: r, hl, w => by
    have ih := strp_cat hb cols (l := r) (fun n hn => hl n (.tail _ hn))
    by_cases hw : w < cols
    · rcases hl c (.head _) with rfl | rfl
      · rw [List.cons_append, strp_s hw, cnt_s, ih]
      · rw [List.cons_append, strp_t hw, cnt_t, ih]
    · have hg := cnt_ge (c :: r) w
      rw [strp_stop hw, tailS_cat hb hl, if_neg (by omega), ← List.append_assoc, List.replicate_append_replicate]
      congr 2
      omega
theorem cnt_blanks : ∀ (n : Nat) (w : Int), cnt w (List.replicate n 32) = w + n
  | 0, w => by simp [cnt]
  | n + 1, w => by
    rw [List.replicate_succ, cnt, if_pos rfl, cnt_blanks n]
    omega

/-- what a body is -/
theorem bod_of {body : Str} (h : body ∈ [Str.ofString "", Str.ofString "a", Str.ofString "b c", Str.ofString "d\te", Str.ofString "f  g", Str.ofString "h\t i"]) : Bod body.cps.toList ∧ 10 ∉ body.cps.toList := by
  have hb : ∀ b ∈ [Str.ofString "", Str.ofString "a", Str.ofString "b c", Str.ofString "d\te", Str.ofString "f  g", Str.ofString "h\t i"],
      (match b.cps.toList with | [] => true | c :: _ => decide (c ≠ 32 ∧ c ≠ 9)) = true ∧ 10 ∉ b.cps.toList := by decide +kernel
  obtain ⟨h1, h2⟩ := hb _ h
  refine ⟨?_, h2⟩
  intro c r e
  rw [e] at h1
  exact of_decide_eq_true h1
theorem cps_cat (a b : Str) : (a ++ b).cps.toList = a.cps.toList ++ b.cps.toList := by rw [Str.cps_append, Array.toList_append]
theorem str_eq {a b : Str} (h : a.cps.toList = b.cps.toList) : a = b := Str.ext' (Array.toList_inj.mp h)
theorem bne_no {α : Type} [BEq α] [LawfulBEq α] {a b : α} (h : (a != b) = true) (e : a = b) : False := by
  rw [e] at h
  simp at h
section
variable {lead body : Str} {col wid more : Int}
theorem good_cnt (g : Good lead col body) (h : cnt 0 (lead ++ body).cps.toList ≠ col) : False := by
  obtain ⟨h1, _, h3, h4⟩ := g
  exact h (by rw [cps_cat, cnt_cat (bod_of h4).1 h1, h3])
theorem good_exp' (g : Good lead col body) : (⟨(expd 0 (lead ++ body).cps.toList).toArray⟩ : Str) = Txt.mul (Str.ofString " ") col ++ body := by
  obtain ⟨h1, _, h3, h4⟩ := g
  apply str_eq
  rw [cps_cat, cps_cat, expd_cat (bod_of h4).1 h1, mul_cps, ← h3, Int.sub_zero]
theorem good_exp (g : Good lead col body) (h : ((⟨(expd 0 (lead ++ body).cps.toList).toArray⟩ : Str) != Txt.mul (Str.ofString " ") col ++ body) = true) : False := bne_no h (good_exp' g)
theorem lead_nil : lead = Str.ofString "" ↔ lead.cps.toList = [] := by
  constructor
  · rintro rfl; decide +kernel
  · intro h; exact str_eq (by rw [h]; decide +kernel)
theorem good_has' (g : Good lead col body) : has wid 0 (lead ++ body).cps.toList = decide (lead ≠ Str.ofString "" ∧ wid ≤ col) := by
  obtain ⟨h1, _, h3, h4⟩ := g
  rw [cps_cat, has_cat (bod_of h4).1 wid h1, ← h3]
  apply decide_eq_decide.mpr
  rw [ne_eq, ne_eq, lead_nil]
theorem good_has1 (g : Good lead col body) (hl : (lead != Str.ofString "") = true) (h : (has wid 0 (lead ++ body).cps.toList != decide (wid ≤ col)) = true) : False := by
  refine bne_no h ?_
  rw [good_has' g]
  have : lead ≠ Str.ofString "" := by simpa using hl
  apply decide_eq_decide.mpr
  exact ⟨fun h => h.2, fun h => ⟨this, h⟩⟩
theorem good_has2 (g : Good lead col body) (hl : (lead != Str.ofString "") = false) (h : (has wid 0 (lead ++ body).cps.toList != (lead != Str.ofString "")) = true) : False := by
  refine bne_no h ?_
  rw [good_has' g, hl]
  have : lead = Str.ofString "" := by simpa using hl
  exact decide_eq_false fun h => h.1 this
theorem good_strp (g : Good lead col body) : strp wid 0 (lead ++ body).cps.toList = if col < wid then [] else List.replicate (col - wid).toNat 32 ++ body.cps.toList := by
  obtain ⟨h1, _, h3, h4⟩ := g
  rw [cps_cat, strp_cat (bod_of h4).1 wid h1, ← h3]
theorem good_short (g : Good lead col body) (hw : col < wid) (h : ((⟨(strp wid 0 (lead ++ body).cps.toList).toArray⟩ : Str) != Str.ofString "") = true) : False := by
  refine bne_no h (str_eq ?_)
  rw [good_strp g, if_pos hw]
  decide +kernel
theorem good_taken' (g : Good lead col body) (hw : ¬ col < wid) : (⟨(strp wid 0 (lead ++ body).cps.toList).toArray⟩ : Str) = Txt.mul (Str.ofString " ") (col - wid) ++ body := by
  apply str_eq
  rw [good_strp g, if_neg hw, cps_cat, mul_cps]
theorem good_taken (g : Good lead col body) (hw : ¬ col < wid) (h : ((⟨(strp wid 0 (lead ++ body).cps.toList).toArray⟩ : Str) != Txt.mul (Str.ofString " ") (col - wid) ++ body) = true) : False := bne_no h (good_taken' g hw)
theorem good_twice (g : Good lead col body) (hm : 0 ≤ more ∧ more < 10) (hw : wid + more ≤ col)
    (h : ((⟨(strp more 0 (strp wid 0 (lead ++ body).cps.toList)).toArray⟩ : Str) != ⟨(strp (wid + more) 0 (lead ++ body).cps.toList).toArray⟩) = true) : False := by
  refine bne_no h (str_eq ?_)
  have hb := (bod_of g.2.2.2).1
  have hl : Lead (List.replicate (col - wid).toNat 32) := fun n hn => .inl (List.eq_of_mem_replicate hn)
  show strp more 0 (strp wid 0 (lead ++ body).cps.toList) = strp (wid + more) 0 (lead ++ body).cps.toList
  rw [good_strp g, good_strp g, if_neg (by omega), if_neg (by omega), strp_cat hb more hl, cnt_blanks, if_neg (by omega)]
  congr 2
  omega
theorem good_clean (g : Good lead col body) : takenS lead col body wid = cleanS wid (lead ++ body) := by
  unfold takenS cleanS
  rw [good_has' g]
  by_cases h : lead ≠ Str.ofString "" ∧ wid ≤ col
  · rw [if_pos h, if_pos (decide_eq_true h), good_taken' g (by omega)]
  · rw [if_neg h, if_neg (by rw [decide_eq_false h]; exact Bool.false_ne_true), good_exp' g]
theorem good_fit (g : Good lead col body) : Fit (lead ++ body) := by
  have hf := good_facts g
  refine ⟨by rw [Str.length_append]; omega, ?_⟩
  rw [cps_cat]
  intro h
  rcases List.mem_append.mp h with h | h
  · rcases g.1 10 h with e | e <;> cases e
  · exact (bod_of g.2.2.2).2 h
end
end Mine

namespace Mine
theorem cut_first {a b s t : List Nat} (h : a ++ 10 :: s = b ++ 10 :: t) (ha : 10 ∉ a) (hb : 10 ∉ b) : a = b ∧ s = t := by
  induction a generalizing b with
  | nil =>
    cases b with
    | nil => exact ⟨rfl, (List.cons.inj h).2⟩
    | cons c r => exact absurd ((List.cons.inj h).1 ▸ List.Mem.head _) hb
  | cons c r ih =>
    cases b with
    | nil => exact absurd ((List.cons.inj h).1 ▸ List.Mem.head _) ha
    | cons d q =>
      obtain ⟨h1, h2⟩ := List.cons.inj h
      obtain ⟨h3, h4⟩ := ih h2 (fun e => ha (.tail _ e)) (fun e => hb (.tail _ e))
      exact ⟨by rw [h1, h3], h4⟩
theorem join_two (x y : Str) (r : List Str) : (Str.join ⟨#[10]⟩ (x :: y :: r)).cps.toList = x.cps.toList ++ 10 :: (Str.join ⟨#[10]⟩ (y :: r)).cps.toList := by
  show (x ++ ⟨#[10]⟩ ++ Str.join ⟨#[10]⟩ (y :: r)).cps.toList = _
  rw [Str.cps_append, Str.cps_append, Array.toList_append, Array.toList_append, List.append_assoc]
  rfl
theorem join_inj : ∀ {ws vs : List Str}, ws ≠ [] → vs ≠ [] → (∀ p ∈ ws, 10 ∉ p.cps.toList) → (∀ p ∈ vs, 10 ∉ p.cps.toList) → (Str.join ⟨#[10]⟩ ws).cps.toList = (Str.join ⟨#[10]⟩ vs).cps.toList → ws = vs
  | [], _, h, _, _, _, _ => absurd rfl h
  | _, [], _, h, _, _, _ => absurd rfl h
  | [x], [y], _, _, _, _, h => by
    have : x = y := Str.ext' (Array.toList_inj.mp h)
    rw [this]
  | [x], y :: z :: r, _, _, hx, _, h => by
    rw [join_two] at h
    have hx' : x.cps.toList = y.cps.toList ++ 10 :: (Str.join ⟨#[10]⟩ (z :: r)).cps.toList := h
    exact absurd (by rw [hx']; exact List.mem_append.mpr (.inr (.head _))) (hx x (.head _))
  | x :: z :: r, [y], _, _, _, hy, h => by
    rw [join_two] at h
    have hy' : x.cps.toList ++ 10 :: (Str.join ⟨#[10]⟩ (z :: r)).cps.toList = y.cps.toList := h
    exact absurd (by rw [← hy']; exact List.mem_append.mpr (.inr (.head _))) (hy y (.head _))
  | x :: z :: r, y :: u :: q, _, _, hx, hy, h => by
    rw [join_two, join_two] at h
    obtain ⟨h1, h2⟩ := cut_first h (hx x (.head _)) (hy y (.head _))
    have h3 := join_inj (List.cons_ne_nil z r) (List.cons_ne_nil u q) (fun p hp => hx p (.tail _ hp)) (fun p hp => hy p (.tail _ hp)) h2
    have h4 : x = y := Str.ext' (Array.toList_inj.mp h1)
    rw [h3, h4]
theorem split_some (x y : Str) : Txt.split x y ≠ [] := by
  unfold Txt.split
  split
  · exact List.cons_ne_nil _ _
  · split
    · exact List.cons_ne_nil _ _
    · rw [StrLaws.partsBetween_eq]
      obtain ⟨p, r, e⟩ := StrLaws.partsFrom_ne x y.length 0 (Builtin.Str.occurrences x y 0 x.length (x.length + 1))
      rw [e]
      exact List.cons_ne_nil _ _
theorem txt_join (sep : Str) (ws : List Str) : Txt.join sep ws = Str.join sep ws := by
  show Builtin.Str.glued sep ws = _
  rw [StrLaws.glued_eq_join]
theorem split_join {ws : List Str} (h0 : ws ≠ []) (h : ∀ p ∈ ws, 10 ∉ p.cps.toList) : Txt.split (Txt.join (Str.ofString "\n") ws) (Str.ofString "\n") = ws := by
  rw [nl_is]
  refine join_inj (split_some _ _) h0 (StrLaws.split_free _ 10) h ?_
  rw [StrLaws.join_split, txt_join]
theorem joined_len {ws : List Str} (h1 : ws.length ≤ 8) (h : ∀ p ∈ ws, Fit p) : (Txt.join (Str.ofString "\n") ws).length ≤ 200 := by
  rw [txt_join, nl_is]
  refine Nat.le_trans (StrLaws.join_length_le _ _) ?_
  have := sum_le_of (ws := ws) (k := 11) (fun p hp => (h p hp).1)
  show _ + _ * 1 ≤ _
  omega
theorem joined_fits {ws : List Str} (h1 : ws.length ≤ 8) (h : ∀ p ∈ ws, Fit p) : (ws.map (·.length)).sum + ws.length ≤ 1048576 := by
  have := sum_le_of (ws := ws) (k := 11) (fun p hp => (h p hp).1)
  omega
theorem wanted_fits {wid : Int} {ws : List Str} (hw : 0 ≤ wid) (h1 : ws.length ≤ 8) (h : ∀ p ∈ ws, Fit p) : ((ws.map (cleanS wid)).map (·.length)).sum + (ws.map (cleanS wid)).length ≤ 1048576 := by
  have := sum_le_of (ws := ws.map (cleanS wid)) (k := 47) (by
    intro p hp
    obtain ⟨q, hq, rfl⟩ := List.mem_map.mp hp
    have h2 := clean_len hw q
    have h3 := (h q hq).1
    omega)
  rw [List.length_map] at this ⊢
  omega
theorem law_end {wid : Int} {ws : List Str} (h0 : 1 ≤ ws.length) (h : ∀ p ∈ ws, Fit p) :
    (Txt.join (Str.ofString "\n") ((Txt.split (Txt.join (Str.ofString "\n") ws) (Str.ofString "\n")).map (cleanS wid)) == Txt.join (Str.ofString "\n") (ws.map (cleanS wid))) = true := by
  rw [split_join (by rintro rfl; simp at h0) fun p hp => (h p hp).2]
  simp
end Mine

namespace Mine
local macro_rules | `(tactic| walk_at "call ref") => `(tactic| (k_here; k_dflt (
  refine' c_at _ _ _ _ _ _ _ _ _ _ _ _ _ _ _ _ _ _ _ _ _ _ _ _ _ _ _ _ _ ?k1 ?k2 ?k3 ?k4 ?k5 ?kK ?kl ?ki ?kf ?kp ?kd ?ku ?_;
  (case k1 => k_asm); (case k2 => k_asm); (case k3 => k_asm); (case k4 => k_asm); (case k5 => k_asm); (case kK => first | exact rfl | assumption);
  (case kl => k_asm); (case ki => assumption); (case kf => omega); (case kp => omega); (case kd => ktr_room); (case ku => ktr_units);
  intro n9 t9 h9 tk9 F9 N9; (try dsimp only); (try k_fold))))
local macro_rules | `(tactic| walk_at "call ref") => `(tactic| (k_here; k_dflt (
  refine' c_line _ _ _ _ _ _ _ _ _ _ _ _ _ _ _ _ _ _ _ _ _ _ _ _ _ _ ?k1 ?k2 ?k3 ?k4 ?k5 ?kK ?kd ?ku ?_;
  (case k1 => k_asm); (case k2 => k_asm); (case k3 => k_asm); (case k4 => k_asm); (case k5 => k_asm); (case kK => first | exact rfl | assumption);
  (case kd => ktr_room); (case ku => ktr_units);
  intro D9 lead9 t91 col9 t92 body9 t93 c9 h9 tk9 F9 N9 hl9 hg9; (have hgd9 : Good lead9 col9 body9 := hg9); (have hq9 := good_facts hg9); (clear hg9); (try k_lt hl9); (try dsimp only); (try k_fold))))
local macro_rules | `(tactic| walk_at "call ref") => `(tactic| (k_here; k_dflt (
  refine' c_taken _ _ _ _ _ _ _ _ _ _ _ _ _ _ _ _ _ _ _ _ _ _ _ _ _ _ _ _ _ _ _ _ ?k1 ?k2 ?k3 ?k4 ?k5 ?kK ?kp ?kd ?ku ?_;
  (case k1 => k_asm); (case k2 => k_asm); (case k3 => k_asm); (case k4 => k_asm); (case k5 => k_asm); (case kK => first | exact rfl | assumption);
  (case kp => omega); (case kd => ktr_room); (case ku => ktr_units);
  intro t9 h9 tk9 F9 N9; (try dsimp only); (try k_fold))))
local macro_rules | `(tactic| walk_at "call ref") => `(tactic| (k_here; k_dflt (
  refine' c_count _ _ _ _ _ _ _ _ _ _ _ _ _ _ _ _ _ _ _ _ _ _ _ _ _ _ ?k1 ?k2 ?k3 ?k4 ?k5 ?kK ?kp ?kd ?ku ?_;
  (case k1 => k_asm); (case k2 => k_asm); (case k3 => k_asm); (case k4 => k_asm); (case k5 => k_asm); (case kK => first | exact rfl | assumption);
  (case kp => exact True.intro); (case kd => ktr_room); (case ku => ktr_units);
  intro t9 h9 tk9 F9 N9; (try dsimp only); (try k_fold))))
local macro_rules | `(tactic| walk_at "call ref") => `(tactic| (k_here; k_dflt (
  refine' c_has _ _ _ _ _ _ _ _ _ _ _ _ _ _ _ _ _ _ _ _ _ _ _ _ _ _ _ _ ?k1 ?k2 ?k3 ?k4 ?k5 ?kK ?kp ?kd ?ku ?_;
  (case k1 => k_asm); (case k2 => k_asm); (case k3 => k_asm); (case k4 => k_asm); (case k5 => k_asm); (case kK => first | exact rfl | assumption);
  (case kp => exact True.intro); (case kd => ktr_room); (case ku => ktr_units);
  intro t9 h9 tk9 F9 N9; (try dsimp only); (try k_fold))))
local macro_rules | `(tactic| walk_at "call ref") => `(tactic| (k_here; k_dflt (
  refine' c_stripP _ _ _ _ _ _ _ _ _ _ _ _ _ _ _ _ _ _ _ _ _ _ _ _ _ _ _ _ ?k1 ?k2 ?k3 ?k4 ?k5 ?kK ?kp ?kd ?ku ?_;
  (case k1 => k_asm); (case k2 => k_asm); (case k3 => k_asm); (case k4 => k_asm); (case k5 => k_asm); (case kK => first | exact rfl | assumption);
  (case kp => omega); (case kd => ktr_room); (case ku => ktr_units);
  intro t9 h9 tk9 F9 N9 hlen9; (try dsimp only); (try k_fold))))
local macro_rules | `(tactic| walk_at "call ref") => `(tactic| (k_here; k_dflt (
  refine' c_exp0 _ _ _ _ _ _ _ _ _ _ _ _ _ _ _ _ _ _ _ _ _ _ _ _ _ _ ?k1 ?k2 ?k3 ?k4 ?k5 ?kK ?kp ?kd ?ku ?_;
  (case k1 => k_asm); (case k2 => k_asm); (case k3 => k_asm); (case k4 => k_asm); (case k5 => k_asm); (case kK => first | exact rfl | assumption);
  (case kp => omega); (case kd => ktr_room); (case ku => ktr_units);
  intro t9 h9 tk9 F9 N9; (try dsimp only); (try k_fold))))
local macro_rules | `(tactic| walk_at "call ref") => `(tactic| (k_here; k_dflt (
  refine' c_clean _ _ _ _ _ _ _ _ _ _ _ _ _ _ _ _ _ _ _ _ _ _ _ _ _ _ _ _ ?k1 ?k2 ?k3 ?k4 ?k5 ?kK ?kp ?kd ?ku ?_;
  (case k1 => k_asm); (case k2 => k_asm); (case k3 => k_asm); (case k4 => k_asm); (case k5 => k_asm); (case kK => first | exact rfl | assumption);
  (case kp => omega); (case kd => ktr_room); (case ku => ktr_units);
  intro t9 h9 tk9 F9 N9; (try dsimp only); (try k_fold))))
local macro_rules | `(tactic| walk_at "exec Return some") => `(tactic| ((with_reducible show wpAny _ _ (exec (PySem.Stmt.Return (some (PySem.Expr.Constant (PySem.Const.bool false) _ _)) _) _) _ _ _); (rename Good _ _ _ => hG9); exfalso; first
  | with_reducible exact good_cnt hG9 (by assumption)
  | with_reducible exact good_exp hG9 (by assumption)
  | with_reducible exact good_has1 hG9 (by assumption) (by assumption)
  | with_reducible exact good_has2 hG9 (by assumption) (by assumption)
  | with_reducible exact good_short hG9 (by assumption) (by assumption)
  | with_reducible exact good_taken hG9 (by assumption) (by assumption)
  | with_reducible exact good_twice hG9 (by assumption) (by assumption) (by assumption)))
local macro_rules | `(tactic| walk_at "call builtin:str.join") => `(tactic| refine Rest.out ?_)
local macro_rules | `(tactic| walk_at "InvEndN") => `(tactic| refine Rest.out ?_)
local macro_rules | `(tactic| walk_at "eval Call") => `(tactic| ((with_reducible show wpAny _ _ (eval (PySem.Expr.Call (PySem.Expr.Name _ _) _ [] _) _) _ _ _); k_dflt (refine Call_ ?_)))
local macro_rules | `(tactic| walk_at "call type:range") => `(tactic| (k_here; (rename Fr _ _ _ _ => F'); (rename News _ _ _ _ => N'); (with_unfolding_all refine range1_rows F' N' ?_); intro _ _ _ _ _ _ _ _ _))
theorem names_off {z : Str} (h : lawNames.contains z = false) : z ≠ Str.ofString "lead" ∧ z ≠ Str.ofString "column" ∧ z ≠ Str.ofString "body" ∧ z ≠ Str.ofString "line" ∧ z ≠ Str.ofString "taken" := by
  simpa only [lawNames, List.contains_cons, List.contains_nil, Bool.or_false, Bool.or_eq_false_iff, beq_eq_false_iff_ne, ne_eq] using h
theorem law_next {us2 : List Value} {ws1 : List Str} {lead body : Str} {col wid : Int} {t : Tok} (h : StrsAre us2 (ws1.map (cleanS wid))) (g : Good lead col body) :
    StrsAre (us2 ++ [.str (takenS lead col body wid) t]) ((ws1 ++ [lead ++ body]).map (cleanS wid)) := by
  rw [List.map_append, good_clean g]
  exact h.append' (.cons _ _ .nil)
theorem fit_next {ws1 : List Str} {lead body : Str} {col : Int} (h : ∀ p ∈ ws1, Fit p) (g : Good lead col body) : ∀ p ∈ ws1 ++ [lead ++ body], Fit p := by
  intro p hp
  rcases List.mem_append.mp hp with hp | hp
  · exact h p hp
  · rw [List.mem_singleton.mp hp]
    exact good_fit g
theorem led_mid {d a b : Addr × Obj} {own : List (Addr × Obj)} : ∀ p ∈ [a, b], p ∈ d :: a :: b :: own := by
  intro p hp
  simp only [List.mem_cons, List.not_mem_nil, or_false] at hp ⊢
  rcases hp with h | h
  · exact .inr (.inl h)
  · exact .inr (.inr (.inl h))
theorem led_end {d a b : Addr × Obj} {own : List (Addr × Obj)} : ∀ p ∈ own, p ∈ d :: a :: b :: own := fun _ hp => .tail _ (.tail _ (.tail _ hp))
theorem mod8 (n : Int) : 1 ≤ n.fmod 8 + 1 ∧ n.fmod 8 + 1 ≤ 8 := by
  have h1 := Int.fmod_nonneg_of_pos n (b := 8) (by decide)
  have h2 := Int.fmod_lt_of_pos n (b := 8) (by decide)
  omega
theorem mod10 (n : Int) : 0 ≤ n.fmod 10 ∧ n.fmod 10 < 10 := ⟨Int.fmod_nonneg_of_pos _ (by decide), Int.fmod_lt_of_pos _ (by decide)⟩
set_option maxRecDepth 100000 in
set_option maxHeartbeats 8000000 in
theorem law_holds : PySem.Challenge.rw_ba0039_01.Holds := Mine.hd (by
  k_with_none
  k_with "pyIter ref" => (refine Mine.Rest.out ?_)
  k_go0
  all_goals try k_fold
  k_steps
  rename Fr _ _ _ _ => F1
  rename News _ _ _ _ => N1
  rename IsRange _ _ _ _ _ _ _ _ => R1
  unfold Rest
  have kMark := kstMark
  refine law_loop rfl R1 (mod8 _) F1 N1 (by with_unfolding_all rfl) (by with_unfolding_all rfl) (mod10 _) (mod10 _) ?_ ?_
  · intro us1 ws1 n1 us2 n2 k t u h tk own hk hwi hmo hoff hs1 hs2 hz1 hz2 hfit F2 N2
    clear F1 N1 R1
    try k_fold
    k_steps
    all_goals
      unfold Rest
      rename Fr _ _ _ _ => F9
      rename News _ _ _ _ => N9
      rename Good _ _ _ => hG9
      simp only [List.push_toArray] at N9
      refine InvEndN.intro F9 N9 ⟨_, _, _, _, _, rfl, hs1.append' (.cons _ _ .nil), law_next hs2 hG9, by simp, fit_next hfit hG9, ?_⟩ rfl led_mid led_end
      intro z hz hs
      obtain ⟨a1, a2, a3, a4, a5⟩ := names_off hs
      dsimp only
      simp only [if_neg hz, if_neg a1, if_neg a2, if_neg a3, if_neg a4, if_neg a5, hs, Bool.false_eq_true, if_false]
  · intro us1 ws1 n1 us2 n2 u h tk hs1 hs2 hz1 hz2 hwi hfit F2 N2
    clear F1 N1 R1
    have hjl := joined_len hz2 hfit
    dsimp only
    k_steps
    unfold Rest
    rename News _ _ _ _ => N9
    refine join_listW ⟨_, (N9 _ (.tail _ (.head _))).1, rfl, n1, rfl⟩ hs1 (by decide) (joined_fits hz2 hfit) ?_
    intro tj kj
    k_steps
    unfold Rest
    rename News _ _ _ _ => N8
    refine join_listW ⟨_, (N8 _ (.head _)).1, rfl, n2, rfl⟩ hs2 (by decide) (wanted_fits hwi.1 hz2 hfit) ?_
    intro tj2 kj2
    k_steps
    rw [law_end hz1 hfit]
    wrow_close)
end Mine

theorem PySem.Challenge.cw_ba0039_01_holds : PySem.Challenge.rw_ba0039_01.Holds :=
  Mine.law_holds
