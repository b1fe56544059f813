import PyProof.Rows.All
import Wide.All
import OpenK.AllK
import Wide.FinOn
import PySem.Challenge.RW_xi0007_01
set_option Elab.async false
set_option compiler.extract_closed false
local macro_rules | `(tactic| walk_at $s:str) => `(tactic| k_extra $s)
local macro_rules | `(tactic| k_memK) => `(tactic| k_extra "memK")
local macro_rules | `(tactic| lcg_sub) => `(tactic| k_extra "lcg_sub")

section
open PySem PySem.W PySem.Spec PySem.Calls PyProof.Rows
namespace Mine
set_option maxRecDepth 100000 in
set_option maxHeartbeats 8000000 in
open_top hd for PySem.Challenge.rw_xi0007_01

end Mine
end

section
open PySem PySem.Challenge PySem.W PySem.Spec PySem.Calls PyProof.Rows
namespace Mine
noncomputable abbrev Lo : List Str := [Str.ofString "_initial_missing", Str.ofString "reduce", Str.ofString "insort_right", Str.ofString "bisect_right"]
/-- the names that the head does not speak of, as the tables' hiding leaves them -/
noncomputable abbrev LoB : List Str := looseW Mine.hd.view_39 Lo ++ (recsOf Mine.hd.view_39).map (·.name) ++ (litsOf Mine.hd.view_39).map (·.1) ++ (clssOf Mine.hd.view_39 (looseW Mine.hd.view_39 Lo)).map (·.name)
noncomputable abbrev Pt := Int × Int
noncomputable def turn (a b c : Pt) : Int := (b.1 - a.1) * (c.2 - a.2) - (b.2 - a.2) * (c.1 - a.1)
noncomputable def far (a b : Pt) : Int := (b.1 - a.1) * (b.1 - a.1) + (b.2 - a.2) * (b.2 - a.2)
noncomputable def Small (p : Pt) : Prop := -8 ≤ p.1 ∧ p.1 ≤ 8 ∧ -8 ≤ p.2 ∧ p.2 ≤ 8
noncomputable abbrev ptO (x y : Int) (t1 t2 : Tok) (n : Nat) : Obj := { cls := .type "tuple", data := .seq #[.int x t1, .int y t2] n }
/-- the ledger bears the point p at the value v -/
noncomputable def PtIn (news : List (Addr × Obj)) (v : Value) (p : Pt) : Prop :=
  ∃ a t1 t2 n, v = .ref a ∧ (a, ptO p.1 p.2 t1 t2 n) ∈ news ∧ Small p
theorem PtIn.mono {news news' : List (Addr × Obj)} {v : Value} {p : Pt} (h : PtIn news v p) (hs : ∀ q ∈ news, q ∈ news') : PtIn news' v p := by
  obtain ⟨a, t1, t2, n, e, hm, hp⟩ := h
  exact ⟨a, t1, t2, n, e, hs _ hm, hp⟩
theorem newsSub {h₀ h : Heap} {L : Addr} {news news' : List (Addr × Obj)} (N : News h₀ L h news) (hs : ∀ q ∈ news', q ∈ news) : News h₀ L h news' := fun p hp => N p (hs p hp)
noncomputable abbrev kTop (k : Nat) (cn : Str) (sn : List (Str × NameKind)) (sg sc : Bool) (sm : List (Str × Const)) (L a : Addr) (ccd : Value) (cl : List (Str × Addr)) (outer : List Env) : Around :=
  ktrTop (310 + 10 * k) (1000 + 500 * k) none cn ⟨.function, sn, sg, sc, sm⟩ L a ccd cl outer
/-- what a call finds around it: bounds on the frames and the units, as numbers -/
theorem around {α : Type} {w : World} {A : Around} {t : Sem α} {Q : α → Shared → Prop} {E : Value → Shared → Prop} {s : Shared}
    (k : Nat) (cn : Str) (sn : List (Str × NameKind)) (sg sc : Bool) (sm : List (Str × Const)) (L a : Addr) (ccd : Value) (cl : List (Str × Addr)) (outer : List Env)
    (hA : A.frames = some (envX cn ⟨.function, sn, sg, sc, sm⟩ L a ccd cl :: outer)) (hh : A.handled = none) (hd : A.depth ≤ 310 + 10 * k) (hu : A.units ≤ 1000 + 500 * k)
    (h : wpAny (model rw_xi0007_01.prog w) (kTop k cn sn sg sc sm L a ccd cl outer) t Q E s) : wpAny (model rw_xi0007_01.prog w) A t Q E s :=
  fun Γ p hΓ => h Γ p ⟨hΓ.1.trans hh, Nat.le_trans hΓ.2.1 hd, fun l hl => hΓ.2.2.1 l (hA.trans hl), (fun g hg => nomatch hg), Nat.le_trans hΓ.2.2.2.2 hu⟩

theorem gen_qe {α : Type} {M : Model} {A : Around} {t : Sem α} {Q : α → Shared → Prop} {E : Value → Shared → Prop} {h : Heap} {g0 : Array GenState} {d0 : Drawn} {o0 : OsState} {tk0 : Nat} (H : ∀ (Q' : α → Shared → Prop) (g : Array GenState) (d : Drawn) (o : OsState) (tk : Nat), g = g0 → d = d0 → o = o0 → (∀ v s', Q v s' → Q' v s') → wpAny M A t Q' (fun _ _ => False) ⟨h, g, d, tk, o⟩) : wpAny M A t Q E ⟨h, g0, d0, tk0, o0⟩ :=
  wpAny_mono (H Q _ _ _ _ rfl rfl rfl fun _ _ z => z) (fun _ _ z => z) fun _ _ z => z.elim
section
variable {w : World} {mean : ExcName → Option Value} {mg mb : Str → Option Value} {news : List (Addr × Obj)} {cn : Str} {sn : List (Str × NameKind)} {sg sc : Bool} {sm : List (Str × Const)} {a : Addr} {ccd : Value} {cl : List (Str × Addr)} {outer : List Env} {A₀ : Around} {base h₀ : Heap} {L : Addr} {m : Str → Option Value} {s : Shared} {Q : Value → Shared → Prop} {E : Value → Shared → Prop}
theorem regM1a : True := by
  k_with_none
  k_with "callWith ref" => ((k_here; k_dflt (refine' callWith_K (by (k_asm)) (by (k_is)) ?_; k_whole)))
  trivial
set_option maxRecDepth 100000 in
set_option maxHeartbeats 8000000 in
theorem mul_call {x y : Int} {t1 t2 : Tok}
    (hb : -100 ≤ x ∧ x ≤ 100 ∧ -100 ≤ y ∧ y ≤ 100) (B : Below A₀ base outer h₀) (F : Fr h₀ L s.heap m) (K : (Mine.hd.heap_39 w.params).In h₀) (N : News h₀ L s.heap news) (T : Top topProg LoB mean mg mb h₀)
    (hret : ∀ (t : Tok) (h' : Heap) (tk' : Nat), Fr h₀ L h' m → News h₀ L h' news → Q (.int (x * y) t) { s with heap := h', toks := tk' }) :
    wpAny (model rw_xi0007_01.prog w) (kTop 10 cn sn sg sc sm L a ccd cl outer) (call (.ref 55) [.int x t1, .int y t2]) Q E s := by
  obtain ⟨hb1, hb2, hb3, hb4⟩ := hb
  revert K; k_fill; intro K
  refine wpAny_call ?_
  k_enter
  k_steps
  exact hret _ _ _ (by assumption) (by assumption)
theorem mul_at {A : Around} {x y : Int} {t1 t2 : Tok} (hA : A.frames = some (envX cn ⟨.function, sn, sg, sc, sm⟩ L a ccd cl :: outer)) (hh : A.handled = none) (hd : A.depth ≤ 310 + 10 * 10) (hu : A.units ≤ 1000 + 500 * 10)
    (hb : -100 ≤ x ∧ x ≤ 100 ∧ -100 ≤ y ∧ y ≤ 100) (B : Below A₀ base outer h₀) (F : Fr h₀ L s.heap m) (K : (Mine.hd.heap_39 w.params).In h₀) (N : News h₀ L s.heap news) (T : Top topProg LoB mean mg mb h₀)
    (hret : ∀ (t : Tok) (h' : Heap) (tk' : Nat), Fr h₀ L h' m → News h₀ L h' news → Q (.int (x * y) t) { s with heap := h', toks := tk' }) :
    wpAny (model rw_xi0007_01.prog w) A (call (.ref 55) [.int x t1, .int y t2]) Q E s :=
  around 10 cn sn sg sc sm L a ccd cl outer hA hh hd hu (mul_call hb B F K N T hret)
set_option maxRecDepth 100000 in
set_option maxHeartbeats 8000000 in
theorem sub_call {x y : Int} {t1 t2 : Tok}
    (B : Below A₀ base outer h₀) (F : Fr h₀ L s.heap m) (K : (Mine.hd.heap_39 w.params).In h₀) (N : News h₀ L s.heap news) (T : Top topProg LoB mean mg mb h₀)
    (hret : ∀ (t : Tok) (h' : Heap) (tk' : Nat), Fr h₀ L h' m → News h₀ L h' news → Q (.int (x - y) t) { s with heap := h', toks := tk' }) :
    wpAny (model rw_xi0007_01.prog w) (kTop 10 cn sn sg sc sm L a ccd cl outer) (call (.ref 62) [.int x t1, .int y t2]) Q E s := by
  revert K; k_fill; intro K
  refine wpAny_call ?_
  k_enter
  k_steps
  exact hret _ _ _ (by assumption) (by assumption)
theorem sub_at {A : Around} {x y : Int} {t1 t2 : Tok} (hA : A.frames = some (envX cn ⟨.function, sn, sg, sc, sm⟩ L a ccd cl :: outer)) (hh : A.handled = none) (hd : A.depth ≤ 310 + 10 * 10) (hu : A.units ≤ 1000 + 500 * 10)
    (B : Below A₀ base outer h₀) (F : Fr h₀ L s.heap m) (K : (Mine.hd.heap_39 w.params).In h₀) (N : News h₀ L s.heap news) (T : Top topProg LoB mean mg mb h₀)
    (hret : ∀ (t : Tok) (h' : Heap) (tk' : Nat), Fr h₀ L h' m → News h₀ L h' news → Q (.int (x - y) t) { s with heap := h', toks := tk' }) :
    wpAny (model rw_xi0007_01.prog w) A (call (.ref 62) [.int x t1, .int y t2]) Q E s :=
  around 10 cn sn sg sc sm L a ccd cl outer hA hh hd hu (sub_call B F K N T hret)
theorem regM1b : True := by
  k_with "call ref" => ((k_here; first | (k_dflt (refine' mul_at (by exact rfl) (by exact rfl) (by exact Nat.le_of_ble_eq_true rfl) (by exact Nat.le_of_ble_eq_true rfl) (by lia) (by k_asm) (by k_asm) (by k_asm) (by k_asm) (by k_asm) ?_; k_whole); intro tMZ hMZ tkMZ FMZ NMZ) | (k_dflt (refine' sub_at (by exact rfl) (by exact rfl) (by exact Nat.le_of_ble_eq_true rfl) (by exact Nat.le_of_ble_eq_true rfl) (by k_asm) (by k_asm) (by k_asm) (by k_asm) (by k_asm) ?_; k_whole); intro tMZ hMZ tkMZ FMZ NMZ)))
  trivial
set_option maxRecDepth 100000 in
set_option maxHeartbeats 8000000 in
theorem turn_call {va vb vc : Value} {pa pb pc : Pt}
    (B : Below A₀ base outer h₀) (F : Fr h₀ L s.heap m) (K : (Mine.hd.heap_39 w.params).In h₀) (N : News h₀ L s.heap news) (T : Top topProg LoB mean mg mb h₀)
    (ha : PtIn news va pa) (hb : PtIn news vb pb) (hc : PtIn news vc pc)
    (hret : ∀ (t : Tok) (h' : Heap) (tk' : Nat), Fr h₀ L h' m → News h₀ L h' news → Q (.int (turn pa pb pc) t) { s with heap := h', toks := tk' }) :
    wpAny (model rw_xi0007_01.prog w) (kTop 9 cn sn sg sc sm L a ccd cl outer) (call (.ref 69) [va, vb, vc]) Q E s := by
  obtain ⟨p, t1, t2, n1, rfl, hp, b1, b2, b3, b4⟩ := ha
  obtain ⟨q, t3, t4, n2, rfl, hq, b5, b6, b7, b8⟩ := hb
  obtain ⟨r, t5, t6, n3, rfl, hr, b9, b10, b11, b12⟩ := hc
  obtain ⟨x1, y1⟩ := pa
  obtain ⟨x2, y2⟩ := pb
  obtain ⟨x3, y3⟩ := pc
  dsimp only at *
  have N2 : News h₀ L s.heap ((p, ptO x1 y1 t1 t2 n1) :: (q, ptO x2 y2 t3 t4 n2) :: (r, ptO x3 y3 t5 t6 n3) :: news) :=
    newsSub N fun z hz => by
      rcases List.mem_cons.mp hz with rfl | hz
      · exact hp
      rcases List.mem_cons.mp hz with rfl | hz
      · exact hq
      rcases List.mem_cons.mp hz with rfl | hz
      · exact hr
      exact hz
  clear N
  revert K; k_fill; intro K
  refine wpAny_call ?_
  k_enter
  k_steps
  all_goals (refine hret _ _ _ (by assumption) (newsSub (by assumption) ?_))
  all_goals (intro z hz; exact .tail _ (.tail _ (.tail _ hz)))
end
end Mine
end

section
open PySem PySem.Challenge PySem.W PySem.Spec PySem.Calls PyProof.Rows
namespace Mine
noncomputable def nthL {α : Type} : List α → Nat → Option α
  | [], _ => none
  | x :: _, 0 => some x
  | _ :: r, n + 1 => nthL r n
/-- the entries at the given places -/
noncomputable def pickL {α : Type} (l : List α) : List Nat → List α → List α
  | [], t => t
  | i :: r, t => match nthL l i with
    | some x => x :: pickL l r t
    | none => pickL l r t
noncomputable def dropL {α : Type} : Nat → List α → List α
  | 0, l => l
  | _ + 1, [] => []
  | n + 1, _ :: r => dropL n r
theorem nthL_mem {α : Type} {x : α} : ∀ {l : List α} {i : Nat}, nthL l i = some x → x ∈ l
  | _ :: _, 0, h => by cases h; exact .head _
  | _ :: _, _ + 1, h => .tail _ (nthL_mem (i := _) h)
theorem pickL_mem {α : Type} {l t : List α} {x : α} : ∀ {is : List Nat}, x ∈ pickL l is t → x ∈ l ∨ x ∈ t
  | [], h => .inr h
  | i :: r, h => by
    unfold pickL at h
    split at h
    · rename_i y e
      rcases List.mem_cons.mp h with rfl | h
      · exact .inl (nthL_mem e)
      · exact pickL_mem h
    · exact pickL_mem h
theorem dropL_mem {α : Type} {x : α} : ∀ {n : Nat} {l : List α}, x ∈ dropL n l → x ∈ l
  | 0, _, h => h
  | _ + 1, _ :: _, h => .tail _ (dropL_mem (n := _) h)
/-- a ledger laid anew: the entries at the places is, then the rest from the place n on -/
theorem newsPick {g h : Heap} {L : Addr} {l : List (Addr × Obj)} (N : News g L h l) (is : List Nat) (n : Nat) : News g L h (pickL l is (dropL n l)) :=
  newsSub N fun _ hq => (pickL_mem hq).elim id dropL_mem
/-- a ledger, its first entry, then entries of a list that lies in the rest, then the rest -/
theorem newsIns {g h : Heap} {L : Addr} {a : Addr × Obj} {l nw : List (Addr × Obj)} (N : News g L h (a :: nw)) (hs : ∀ q ∈ l, q ∈ nw) (is : List Nat) : News g L h (a :: pickL l is nw) :=
  newsSub N fun q hq => by
    rcases List.mem_cons.mp hq with rfl | hq
    · exact .head _
    · exact .tail _ ((pickL_mem hq).elim (hs q) id)
theorem allPick {P : Addr × Obj → Prop} {l nw : List (Addr × Obj)} (h1 : ∀ p ∈ l, P p) (h2 : ∀ p ∈ nw, P p) (is : List Nat) : ∀ p ∈ pickL l is nw, P p :=
  fun p hp => (pickL_mem hp).elim (h1 p) (h2 p)
theorem subPick {l m nw : List (Addr × Obj)} (h1 : ∀ p ∈ l, p ∈ m) (h2 : ∀ p ∈ nw, p ∈ m) (is : List Nat) : ∀ p ∈ pickL l is nw, p ∈ m :=
  fun p hp => (pickL_mem hp).elim (h1 p) (h2 p)
/-- the entries at the places is, then a part of the ledger -/
theorem newsPickT {g h : Heap} {L : Addr} {l t : List (Addr × Obj)} (N : News g L h l) (is : List Nat) (ht : ∀ q ∈ t, q ∈ l) : News g L h (pickL l is t) :=
  newsSub N fun _ hq => (pickL_mem hq).elim id (ht _)
/-- the entries of a middle part go ahead -/
theorem newsMid {g h : Heap} {L : Addr} {a : Addr × Obj} {ex B : List (Addr × Obj)} (N : News g L h (a :: (ex ++ B))) (is : List Nat) (k : Nat) : News g L h (pickL B is (a :: (ex ++ dropL k B))) :=
  newsSub N fun q hq => by
    rcases pickL_mem hq with hq | hq
    · exact .tail _ (List.mem_append_right _ hq)
    rcases List.mem_cons.mp hq with rfl | hq
    · exact .head _
    rcases List.mem_append.mp hq with hq | hq
    · exact .tail _ (List.mem_append_left _ hq)
    · exact .tail _ (List.mem_append_right _ (dropL_mem hq))
end Mine
end

section
open PySem PySem.SeqAt PySem.Challenge PySem.W PySem.Spec PySem.Calls PyProof.Rows
namespace Mine
noncomputable def ltP (p q : Pt) : Bool := decide (p.1 < q.1) || (p.1 == q.1 && decide (p.2 < q.2))
section
variable {prog : Program} {w : World} {A : Around} {E : Value → Shared → Prop} {s : Shared}
theorem typeIs_pt {a : Addr} {x y : Int} {t1 t2 : Tok} {n : Nat} (h : s.heap.get? a = some (ptO x y t1 t2 n)) : s.TypeIs (.ref a) "tuple" := ⟨_, h, rfl⟩
theorem pt_lt_tree {a b : Addr} {x1 y1 x2 y2 : Int} {t1 t2 t3 t4 : Tok} {n1 n2 : Nat} {P : PySem.Fin → Shared → Prop}
    (ha : s.heap.get? a = some (ptO x1 y1 t1 t2 n1)) (hb : s.heap.get? b = some (ptO x2 y2 t3 t4 n2)) (h : P (.done (.ret (.bool (ltP (x1, y1) (x2, y2))))) s) :
    wpAny (model prog w) A (Builtin.«tuple.__lt__» ⟨[.ref a, .ref b], []⟩) P E s := by
  have hTb := typeIs_pt hb
  show wpAny _ _ (isInstance (.ref b) (.type "tuple") >>= _) _ _ s
  refine wpAny_bind (wpAny_isInstance hTb isSubtype_tuple_tuple ?_)
  simp only [Bool.not_true, Bool.false_eq_true, if_false]
  refine wpAny_bind (wpAny_tupleItemsOf ha rfl ?_)
  refine wpAny_bind (wpAny_tupleItemsOf hb rfl ?_)
  refine wpAny_bind ?_
  simp only [List.zip_cons_cons, List.zip_nil_right, List.forIn_cons, List.forIn_nil]
  refine wpAny_bind (wpAny_bind (wpAny_eqBool_int ?_))
  unfold ltP at h
  by_cases hx : x1 = x2
  · subst hx
    simp only [beq_self_eq_true, Bool.not_true, Bool.false_eq_true, if_false]
    refine wpAny_pure ?_
    refine wpAny_bind (wpAny_bind (wpAny_eqBool_int ?_))
    simp only [Int.lt_irrefl, decide_false, Bool.false_or, beq_self_eq_true, Bool.true_and] at h
    by_cases hy : y1 = y2
    · subst hy
      simp only [beq_self_eq_true, Bool.not_true, Bool.false_eq_true, if_false]
      refine wpAny_pure (wpAny_pure ?_)
      simp only [Int.lt_irrefl, decide_false] at h
      exact wpAny_pure h
    · have e : (y1 == y2) = false := by simpa using hy
      simp only [e, Bool.not_false, if_true]
      refine wpAny_bind (wpAny_rule ?_)
      refine wpAny_bind (PyProof.Rows.lt_int ?_)
      exact wpAny_bind (wpAny_pure (wpAny_pure (wpAny_pure (wpAny_pure h))))
  · have e : (x1 == x2) = false := by simpa using hx
    simp only [e, Bool.not_false, if_true]
    simp only [e, Bool.false_and, Bool.or_false] at h
    refine wpAny_bind (wpAny_rule ?_)
    refine wpAny_bind (PyProof.Rows.lt_int ?_)
    exact wpAny_bind (wpAny_pure (wpAny_pure (wpAny_pure (wpAny_pure h))))
theorem lt_pts {a b : Addr} {x1 y1 x2 y2 : Int} {t1 t2 t3 t4 : Tok} {n1 n2 : Nat} {Q : Value → Shared → Prop} (hu : A.units < cLine)
    (ha : s.heap.get? a = some (ptO x1 y1 t1 t2 n1)) (hb : s.heap.get? b = some (ptO x2 y2 t3 t4 n2)) (h : Q (.bool (ltP (x1, y1) (x2, y2))) s) :
    wpAny (model prog w) A (compareOp .Lt (.ref a) (.ref b)) Q E s :=
  wpAny_richCompare_same_room (op := .Lt) (typeIs_pt ha) (typeIs_pt hb) F.slot_tuple_lt
    (wpAny_call_entry F.slot_tuple_lt (typeIs_pt ha) F.entry_tuple_lt (pt_lt_tree ha hb ⟨_, rfl, (fun e => nomatch e), h⟩) (F.args_tuple_lt_2 _ _)) hu
theorem isTuple_pt {a : Addr} {h : Heap} {x y : Int} {t1 t2 : Tok} {n : Nat} (e : h.get? a = some (ptO x y t1 t2 n)) : h.IsTuple a #[.int x t1, .int y t2] := ⟨_, e, rfl, n, rfl⟩
theorem rc_pts {a b : Addr} {x1 y1 x2 y2 : Int} {t1 t2 t3 t4 : Tok} {n1 n2 : Nat} (hu : A.units < cLine)
    (ha : s.heap.get? a = some (ptO x1 y1 t1 t2 n1)) (hb : s.heap.get? b = some (ptO x2 y2 t3 t4 n2)) : RcAt A s (.ref a) (.ref b) (x1 == x2 && y1 == y2) := by
  have h := RcAt.tuples (A := A) (s := s) (e := fun j => if j = 0 then x1 == x2 else y1 == y2) (isTuple_pt ha) (isTuple_pt hb) hu (fun j h1 h2 => by
    match j, h1 with
    | 0, _ => exact EqAt.int_int _ _ _ _
    | 1, _ => exact EqAt.int_int _ _ _ _)
  have e : ((List.range (min (#[Value.int x1 t1, Value.int y1 t2]).size (#[Value.int x2 t3, Value.int y2 t4]).size)).all (fun j => if j = 0 then x1 == x2 else y1 == y2) && (#[Value.int x1 t1, Value.int y1 t2]).size == (#[Value.int x2 t3, Value.int y2 t4]).size) = (x1 == x2 && y1 == y2) := by
    show (List.all [0, 1] _ && _) = _
    simp
  rw [e] at h
  exact h
end
end Mine
end

section
open PySem PySem.SeqAt PySem.Challenge PySem.W PySem.Spec PySem.Calls PyProof.Rows
namespace Mine
noncomputable abbrev lstO (vs : List Value) (n : Nat) : Obj := listOf vs.toArray n
/-- the values bear the points, one by one -/
inductive PtsIn (news : List (Addr × Obj)) : List Value → List Pt → Prop
  | nil : PtsIn news [] []
  | cons {v : Value} {p : Pt} {vs : List Value} {ps : List Pt} : PtIn news v p → PtsIn news vs ps → PtsIn news (v :: vs) (p :: ps)
theorem PtsIn.mono {news news' : List (Addr × Obj)} {vs : List Value} {ps : List Pt} (h : PtsIn news vs ps) (hs : ∀ q ∈ news, q ∈ news') : PtsIn news' vs ps := by
  induction h with
  | nil => exact .nil
  | cons a _ ih => exact .cons (a.mono hs) ih
theorem PtsIn.length {news : List (Addr × Obj)} {vs : List Value} {ps : List Pt} (h : PtsIn news vs ps) : vs.length = ps.length := by
  induction h with
  | nil => rfl
  | cons _ _ ih => simp [ih]
theorem PtsIn.get {news : List (Addr × Obj)} {vs : List Value} {ps : List Pt} (h : PtsIn news vs ps) : ∀ (i : Nat) (p : Pt), ps[i]? = some p → ∃ v, vs[i]? = some v ∧ PtIn news v p := by
  induction h with
  | nil => intro i p e; simp at e
  | cons a _ ih =>
    intro i q e
    cases i with
    | zero => simp at e; subst e; exact ⟨_, rfl, a⟩
    | succ i => simpa using ih i q (by simpa using e)
section
variable {prog : Program} {w : World} {A : Around} {E : Value → Shared → Prop} {s : Shared} {h₀ : Heap} {L : Addr} {news nw : List (Addr × Obj)} {l : Addr} {vs : List Value} {ps : List Pt} {n : Nat}
theorem isList_lst (N : News h₀ L s.heap nw) (hl : (l, lstO vs n) ∈ nw) : s.heap.IsList l vs.toArray := ⟨_, (N _ hl).1, rfl, n, rfl⟩
theorem len_lst {Q : Value → Shared → Prop} (N : News h₀ L s.heap nw) (hl : (l, lstO vs n) ∈ nw) (hf : vs.length ≤ 1000)
    (h : Q (.int (vs.length : Int) (s.toks + 1)) { s with toks := s.toks + 1 + 1 }) : wpAny (model prog w) A (call (.builtin "len") [.ref l]) Q E s :=
  len_list (isList_lst N hl) (by simp; lia) (by simpa using h)
theorem pt_item {value slice : PySem.Expr} {k : Int} {u : Tok} {Q : Value → Shared → Prop} (N : News h₀ L s.heap nw) (hl : (l, lstO vs n) ∈ nw) (hp : PtsIn news vs ps) (hf : vs.length ≤ 1000)
    (h0 : 0 ≤ k) (h1 : k < (ps.length : Int))
    (hs : subscripted slice false (.ref l) (.int k u) = operate [.ref l, .int k u] (getItem (.ref l) (.int k u)))
    (h : ∀ a p, PtIn news (.ref a) p → ps[k.toNat]? = some p → vs[k.toNat]? = some (.ref a) → Q (.ref a) s) :
    wpAny (model prog w) A (subscriptTail value slice (.ref l) (.int k u)) Q E s := by
  have hlen := hp.length
  obtain ⟨p, hq⟩ : ∃ p, ps[k.toNat]? = some p := ⟨_, List.getElem?_eq_getElem (by lia)⟩
  obtain ⟨v, hv, a, t1, t2, m, rfl, hm⟩ := hp.get _ _ hq
  exact item_litK (isList_lst N hl) h0 (by lia) hv (h a p ⟨a, t1, t2, m, rfl, hm⟩ hq hv) hs
theorem lt_in {a b : Addr} {p q : Pt} {Q : Value → Shared → Prop} (N : News h₀ L s.heap nw) (ha : PtIn nw (.ref a) p) (hb : PtIn nw (.ref b) q) (hu : A.units < cLine) (h : Q (.bool (ltP p q)) s) :
    wpAny (model prog w) A (compareOp .Lt (.ref a) (.ref b)) Q E s := by
  obtain ⟨_, t1, t2, n1, e1, h1, _⟩ := ha
  obtain ⟨_, t3, t4, n2, e2, h2, _⟩ := hb
  cases e1; cases e2
  exact lt_pts hu (N _ h1).1 (N _ h2).1 h
end
theorem ltP_trans {a b c : Pt} (h1 : ltP a b = true) (h2 : ltP b c = true) : ltP a c = true := by
  simp only [ltP, Bool.or_eq_true, Bool.and_eq_true, decide_eq_true_eq, beq_iff_eq] at *
  lia
theorem bis_hi {ps : List Pt} {px p : Pt} {k : Nat} (hs : ps.Pairwise fun p q => ltP p q = true) (h : ltP px p = true) (hk : ps[k]? = some p) : ∀ i q, k ≤ i → ps[i]? = some q → ltP px q = true := by
  intro i q hi hq
  obtain ⟨k1, rfl⟩ := List.getElem?_eq_some_iff.mp hk
  obtain ⟨k2, rfl⟩ := List.getElem?_eq_some_iff.mp hq
  by_cases e : k = i
  · subst e; exact h
  · exact ltP_trans h (List.pairwise_iff_getElem.mp hs k i k1 k2 (by lia))
theorem bis_lo {ps : List Pt} {px p : Pt} {k : Nat} (hs : ps.Pairwise fun p q => ltP p q = true) (h : ltP px p = false) (hk : ps[k]? = some p) : ∀ i q, i < k + 1 → ps[i]? = some q → ltP px q = false := by
  intro i q hi hq
  obtain ⟨k1, rfl⟩ := List.getElem?_eq_some_iff.mp hk
  obtain ⟨k2, rfl⟩ := List.getElem?_eq_some_iff.mp hq
  by_cases e : i = k
  · subst e; exact h
  · cases hc : ltP px ps[i] with
    | false => rfl
    | true => rw [ltP_trans hc (List.pairwise_iff_getElem.mp hs i k k2 k1 (by lia))] at h; cases h
theorem mid_int (lo hi : Nat) : ((lo : Int) + (hi : Int)).fdiv 2 = (((lo + hi) / 2 : Nat) : Int) := by
  rw [Int.fdiv_eq_ediv_of_nonneg _ (by decide)]; lia
theorem named {h₀ h : Heap} {L : Addr} {m : Str → Option Value} (ps : List (Str × Value)) (F : Fr h₀ L h m) (e : ∀ p ∈ ps, m p.1 = some p.2) : Fr h₀ L h (kstB m ps) := by
  have : kstB m ps = m := funext fun y => kstB_eq e fun _ => rfl
  rw [this]; exact F
/-- a place to stop the walk at -/
noncomputable def StopW (P : Prop) : Prop := P
theorem stopW {P : Prop} (h : StopW P) : P := h
section
variable {w : World} {mean : ExcName → Option Value} {mg mb : Str → Option Value} {news : List (Addr × Obj)} {cn : Str} {sn : List (Str × NameKind)} {sg sc : Bool} {sm : List (Str × Const)} {a : Addr} {ccd : Value} {cl : List (Str × Addr)} {outer : List Env} {A₀ : Around} {base h₀ : Heap} {L : Addr} {m : Str → Option Value} {s : Shared} {Q : Value → Shared → Prop} {E : Value → Shared → Prop}
theorem regM3a : True := by
  k_with_none
  k_with "call builtin:len" => ((k_here; refine' len_lst (by (assumption)) (by (assumption)) (by (assumption)) ?_; k_whole))
  k_with "subscriptTail" => ((k_here; (with_reducible show wpAny _ _ (subscriptTail _ _ (Value.ref _) (Value.int _ _)) _ _ _); (with_unfolding_all refine' pt_item (by (assumption)) (by (assumption)) (by (assumption)) (by (assumption)) (by ((simp only [Int.fdiv_eq_ediv_of_nonneg _ (show (0:Int) ≤ 2 by decide)]; lia))) (by ((simp only [Int.fdiv_eq_ediv_of_nonneg _ (show (0:Int) ≤ 2 by decide)]; lia))) (by (with_unfolding_all rfl)) ?_); intro iaZ ipZ hiPZ hiGZ hiVZ))
  k_with "compareOp Lt ref ref" => ((k_here; refine' lt_in (by (assumption)) (by (assumption)) (by (assumption)) (by (k_units)) ?_; k_whole))
  k_with "exec While Compare cons nil" => ((k_here; refine stopW ?_))
  k_with "callWith ref" => ((k_here; k_dflt (refine' callWith_K (by (k_asm)) (by (k_is)) ?_; k_whole)))
  trivial
set_option maxRecDepth 100000 in
set_option maxHeartbeats 8000000 in
theorem bisect_call {l : Addr} {vx : Value} {px : Pt} {vs : List Value} {ps : List Pt} {n : Nat} {t : Tok}
    (B : Below A₀ base outer h₀) (F : Fr h₀ L s.heap m) (K : (Mine.hd.heap_39 w.params).In h₀) (N : News h₀ L s.heap news) (T : Top topProg LoB mean mg mb h₀)
    (hl : (l, lstO vs n) ∈ news) (hx : PtIn news vx px) (hp : PtsIn news vs ps) (hf : vs.length ≤ 1000) (hs : ps.Pairwise fun p q => ltP p q = true)
    (hret : ∀ (k : Nat) (t : Tok) (h' : Heap) (tk' : Nat), k ≤ ps.length → (∀ i p, i < k → ps[i]? = some p → ltP px p = false) → (∀ i p, k ≤ i → ps[i]? = some p → ltP px p = true) → Fr h₀ L h' m → News h₀ L h' news → Q (.int (k : Int) t) { s with heap := h', toks := tk' }) :
    wpAny (model rw_xi0007_01.prog w) (kTop 8 cn sn sg sc sm L a ccd cl outer) (call (.ref 48) [.ref l, vx, .int 0 t, .none]) Q E s := by
  revert K; k_fill; intro K
  refine wpAny_call ?_
  k_enter
  k_steps
  unfold StopW
  (rename Fr _ _ _ _ => F1); (rename News _ _ _ _ => N1)
  have hlen := hp.length
  have hget := List.pairwise_iff_getElem.mp hs
  refine While_inv2 (fun k m₁ nw => nw = news ∧ ∃ (lo hi : Nat) (tl th : Tok), m₁ (Str.ofString "a") = some (.ref l) ∧ m₁ (Str.ofString "x") = some vx ∧ m₁ (Str.ofString "lo") = some (.int lo tl) ∧ m₁ (Str.ofString "hi") = some (.int hi th)
      ∧ lo ≤ hi ∧ hi ≤ ps.length ∧ k = hi - lo ∧ (∀ i p, i < lo → ps[i]? = some p → ltP px p = false) ∧ (∀ i p, hi ≤ i → ps[i]? = some p → ltP px p = true))
    F1 N1 ⟨rfl, 0, vs.length, _, _, by with_unfolding_all rfl, by with_unfolding_all rfl, by with_unfolding_all rfl, by with_unfolding_all rfl, Nat.zero_le _, by lia, rfl, fun i p h => absurd h (Nat.not_lt_zero _), fun i p h e => by
      have := (List.getElem?_eq_some_iff.mp e).1; lia⟩ ?_
  clear F1 N1
  rintro k m₁ nw h₁ tk₁ F₂ N₂ ⟨rfl, lo, hi, tl, th, ea, ex, elo, ehi, l1, l2, l3, l4, l5⟩
  have F₃ := named [(Str.ofString "a", .ref l), (Str.ofString "x", vx), (Str.ofString "lo", .int lo tl), (Str.ofString "hi", .int hi th)] F₂ (by intro p hp; simp only [List.mem_cons, List.not_mem_nil, or_false] at hp; rcases hp with rfl | rfl | rfl | rfl <;> assumption)
  clear F₂ ea ex elo ehi
  obtain ⟨xa, hxa⟩ : ∃ xa, vx = .ref xa := by obtain ⟨xa, _, _, _, e, _⟩ := hx; exact ⟨xa, e⟩
  subst hxa
  k_steps
  · (rename ltP _ _ = true => hc)
    have hiG := ‹ps[(Int.fdiv _ _).toNat]? = some _›
    rw [mid_int] at hiG
    refine ⟨_, _, _, nw, (lo + hi) / 2 - lo, rfl, by assumption, by assumption, by lia, rfl, lo, (lo + hi) / 2, _, _, by with_unfolding_all rfl, by with_unfolding_all rfl, by with_unfolding_all rfl, congrArg (fun z => some (Value.int z _)) (mid_int lo hi), by lia, by lia, rfl, l4, ?_⟩
    exact bis_hi hs hc hiG
  · (rename ltP _ _ = false => hc)
    have hiG := ‹ps[(Int.fdiv _ _).toNat]? = some _›
    rw [mid_int] at hiG
    refine ⟨_, _, _, nw, hi - ((lo + hi) / 2 + 1), rfl, by assumption, by assumption, by lia, rfl, (lo + hi) / 2 + 1, hi, _, _, by with_unfolding_all rfl, by with_unfolding_all rfl, congrArg (fun z => some (Value.int (z + 1) _)) (mid_int lo hi), by with_unfolding_all rfl, by lia, by lia, rfl, ?_, l5⟩
    exact bis_lo hs hc hiG
  · have e : lo = hi := by lia
    subst e
    exact hret lo _ _ _ l2 l4 l5 (by assumption) (by assumption)
end
end Mine
end

section
open PySem PySem.SeqAt PySem.Challenge PySem.W PySem.Spec PySem.Calls PyProof.Rows
namespace Mine
section
variable {prog : Program} {w : World} {A : Around} {E : Value → Shared → Prop} {s : Shared} {h₀ : Heap} {L : Addr} {m : Str → Option Value} {news : List (Addr × Obj)} {l : Addr} {vs : List Value} {n : Nat}
theorem insert_own {k : Nat} {u : Tok} {y : Value} {Q : Value → Shared → Prop} (F : Fr h₀ L s.heap m) (N : News h₀ L s.heap ((l, lstO vs n) :: news)) (hne : ∀ p ∈ news, p.1 ≠ l) (hk : k ≤ vs.length) (hf : vs.length ≤ 1000)
    (h : ∀ h', Fr h₀ L h' m → News h₀ L h' ((l, lstO (vs.take k ++ y :: vs.drop k) (n + 1)) :: news) → Q .none { s with heap := h' }) :
    wpAny (model prog w) A (call (.builtin "list.insert") [.ref l, .int (k : Int) u, y]) Q E s := by
  refine kl_insert F N (l := vs.take k ++ y :: vs.drop k) ?_ ?_ (Upd.head hne) ?_ h
  · exact fitsIndex_of (by lia) (by lia)
  · unfold kl_ins
    have e : min ((k : Int).toNat) vs.length = k := by lia
    have e2 : ¬ ((k : Int) < 0) := by lia
    simp only [e2, if_false]
    simp [hk]
  · simp only [sizeLine_eq]; lia
end
theorem PtsIn.take {news : List (Addr × Obj)} {vs : List Value} {ps : List Pt} (h : PtsIn news vs ps) : ∀ k, PtsIn news (vs.take k) (ps.take k) := by
  induction h with
  | nil => intro k; simp; exact .nil
  | cons a _ ih => intro k; cases k with
    | zero => exact .nil
    | succ k => exact .cons a (ih k)
theorem PtsIn.drop {news : List (Addr × Obj)} {vs : List Value} {ps : List Pt} (h : PtsIn news vs ps) : ∀ k, PtsIn news (vs.drop k) (ps.drop k) := by
  induction h with
  | nil => intro k; simp; exact .nil
  | cons a b ih => intro k; cases k with
    | zero => exact .cons a b
    | succ k => exact ih k
theorem PtsIn.append {news : List (Addr × Obj)} {vs us : List Value} {ps qs : List Pt} (h : PtsIn news vs ps) (g : PtsIn news us qs) : PtsIn news (vs ++ us) (ps ++ qs) := by
  induction h with
  | nil => exact g
  | cons a _ ih => exact .cons a ih
section
variable {w : World} {mean : ExcName → Option Value} {mg mb : Str → Option Value} {news : List (Addr × Obj)} {cn : Str} {sn : List (Str × NameKind)} {sg sc : Bool} {sm : List (Str × Const)} {a : Addr} {ccd : Value} {cl : List (Str × Addr)} {outer : List Env} {A₀ : Around} {base h₀ : Heap} {L : Addr} {m : Str → Option Value} {s : Shared} {Q : Value → Shared → Prop} {E : Value → Shared → Prop}
theorem regM4a : True := by
  k_with_none
  k_with "call ref" => ((k_here; refine stopW ?_))
  k_with "callWith ref" => ((k_here; k_dflt (refine' callWith_K (by (k_asm)) (by (k_is)) ?_; k_whole)))
  trivial
set_option maxRecDepth 100000 in
set_option maxHeartbeats 8000000 in
theorem insort_call {l : Addr} {vx : Value} {px : Pt} {vs : List Value} {ps : List Pt} {n : Nat}
    (B : Below A₀ base outer h₀) (F : Fr h₀ L s.heap m) (K : (Mine.hd.heap_39 w.params).In h₀) (N : News h₀ L s.heap ((l, lstO vs n) :: news)) (T : Top topProg LoB mean mg mb h₀)
    (hne : ∀ p ∈ news, p.1 ≠ l) (hx : PtIn news vx px) (hp : PtsIn news vs ps) (hf : vs.length ≤ 1000) (hs : ps.Pairwise fun p q => ltP p q = true)
    (hret : ∀ (k n' : Nat) (h' : Heap) (tk' : Nat), k ≤ ps.length → (∀ i p, i < k → ps[i]? = some p → ltP px p = false) → (∀ i p, k ≤ i → ps[i]? = some p → ltP px p = true) → Fr h₀ L h' m → News h₀ L h' ((l, lstO (vs.take k ++ vx :: vs.drop k) n') :: news) → Q .none { s with heap := h', toks := tk' }) :
    wpAny (model rw_xi0007_01.prog w) (kTop 7 cn sn sg sc sm L a ccd cl outer) (call (.ref 39) [.ref l, vx]) Q E s := by
  revert K; k_fill; intro K
  refine wpAny_call ?_
  k_enter
  k_steps
  unfold StopW
  refine' around 8 _ _ _ _ _ _ _ _ _ _ ?hA ?hh ?hd ?hu ?_
  (case hA => exact rfl)
  (case hh => exact rfl)
  (case hd => exact Nat.le_of_ble_eq_true rfl)
  (case hu => exact Nat.le_of_ble_eq_true rfl)
  refine' bisect_call ?B ?F ?K ?N ?T (.head _) (hx.mono fun q hq => .tail _ hq) (hp.mono fun q hq => .tail _ hq) hf hs ?_
  (case B => k_asm); (case F => k_asm); (case K => k_asm); (case N => k_asm); (case T => k_asm)
  intro k tk' h' tk'' e1 e2 e3 F' N'
  have hlen := hp.length
  k_steps
  refine insert_own (by assumption) (by assumption) hne (by lia) hf ?_
  intro h'' F'' N''
  k_steps
  exact hret k _ _ _ e1 e2 e3 (by assumption) (by assumption)
end
end Mine
end

section
open PySem PySem.SeqAt PySem.Challenge PySem.W PySem.Spec PySem.Calls PyProof.Rows
namespace Mine
section
variable {prog : Program} {w : World} {A : Around} {E : Value → Shared → Prop} {s : Shared} {env : Env} {h₀ : Heap} {x : Str} {body : List Stmt} {Q : Flow → Shared → Prop}
/-- the end of a turn of a for over a list of the ledger -/
noncomputable def ForEnd (h₀ : Heap) (L : Addr) (I : Addr) (oI : Obj) (J : (Str → Option Value) → List (Addr × Obj) → Prop) (s₁ : Shared) (Q : Flow → Shared → Prop) (f : Flow) (s₂ : Shared) : Prop :=
  match f with
  | .ret v => Q (.ret v) s₂
  | .brk => Q .next s₂
  | _ => ∃ h' tk m' nw, s₂ = { s₁ with heap := h', toks := tk } ∧ Fr h₀ L h' m' ∧ News h₀ L h' ((I, oI) :: nw) ∧ (∀ p ∈ nw, p.1 ≠ I) ∧ J m' nw
theorem for_lst {l : Addr} {vs : List Value} {n : Nat} {m₀ : Str → Option Value} {nw₀ : List (Addr × Obj)} (J : Nat → (Str → Option Value) → List (Addr × Obj) → Prop)
    (hh : A.handled = none) (hl : (l, lstO vs n) ∈ nw₀) (F : Fr h₀ env.locals s.heap m₀) (N : News h₀ env.locals s.heap nw₀) (hj : J 0 m₀ nw₀)
    (hJ : ∀ i m nw, J i m nw → (l, lstO vs n) ∈ nw)
    (turn : ∀ i v m₁ nw h tk I oI, vs[i]? = some v → J i m₁ nw → (∀ p ∈ nw, p.1 ≠ I) → oI.cls = .type "list_iterator" → Fr h₀ env.locals h (fun y => if y = x then some v else m₁ y) → News h₀ env.locals h ((I, oI) :: nw) →
      wpAny (model prog w) A (execs body env) (ForEnd h₀ env.locals I oI (J (i + 1)) { s with heap := h, toks := tk } Q) E { s with heap := h, toks := tk })
    (done : ∀ m₁ nw h tk, J vs.length m₁ nw → Fr h₀ env.locals h m₁ → News h₀ env.locals h nw → Q .next { s with heap := h, toks := tk }) :
    wpAny (model prog w) A (pyIter (.ref l)) (fun it s₂ => LoopAtV prog w A h₀ env x body Q E it s₂) E s := by
  have hls : s.heap.IsList l vs.toArray := isList_lst N hl
  have hlt : l < s.heap.objs.size := Heap.lt_size (N _ hl).1
  refine wpAny_pyIter_list hls ?_
  have W := Walks.list (prog := prog) (w := w) hh s.heap.objs.size l (Nat.ne_of_lt hlt) vs.toArray
  have hlen : vs.toArray.size = vs.length := by simp
  rw [hlen] at W
  refine ⟨_, _, _, vs.length, _, _, m₀, nw₀, J, rfl, W, ?_, ?_, ?_, ⟨⟨_, Heap.get?_push_size _ rfl, rfl, rfl⟩, hls.at fun o e => Heap.get?_push_of_some _ e⟩, F.push _, (fun p hp => ⟨Heap.get?_push_of_some _ (N p hp).1, (N p hp).2⟩), hj, ?_, ?_⟩
  · intro hm
    rcases List.mem_cons.mp hm with e | hm
    · exact absurd F.ns.lt (e ▸ Nat.lt_irrefl _)
    · exact absurd (List.mem_singleton.mp hm).symm (N _ hl).2.1
  · intro b hb
    rw [List.mem_singleton.mp hb]
    exact next_is_new F
  · intro p hp hI
    exact absurd (Heap.lt_size (N p hp).1) ((List.mem_singleton.mp hI) ▸ Nat.lt_irrefl _)
  · rintro i v m₁ nw s₁ own ⟨h₁, tk₁, rfl⟩ hin hP hJi hoff hown hget hall hst F₁ N₁
    have hv : vs[i]? = some v := by simpa using hP
    obtain ⟨⟨oI, hoI, hcI, hdI⟩, _⟩ := hst
    have hI0 : h₀.get? s.heap.objs.size = none := next_is_new F
    have hmemI := hall s.heap.objs.size (by simp) hI0 oI hoI
    have N₂ : News h₀ env.locals h₁ ((s.heap.objs.size, oI) :: nw) := fun p hp => by
      rcases List.mem_cons.mp hp with rfl | hp
      · exact N₁ _ (List.mem_append_left _ hmemI)
      · exact N₁ _ (List.mem_append_right _ hp)
    have offI : ∀ p ∈ nw, p.1 ≠ s.heap.objs.size := fun p hp e => hoff p hp (by simp [e])
    refine wpAny_mono (turn i v m₁ nw h₁ tk₁ _ oI hv hJi offI hcI F₁ N₂) (fun f s₂ p => ?_) fun _ _ e => e
    have fin : (∃ h' tk m' nw', s₂ = { s with heap := h', toks := tk } ∧ Fr h₀ env.locals h' m' ∧ News h₀ env.locals h' ((s.heap.objs.size, oI) :: nw') ∧ (∀ p ∈ nw', p.1 ≠ s.heap.objs.size) ∧ J (i + 1) m' nw') →
        LoopStepU h₀ env.locals [s.heap.objs.size] own (J (i + 1)) { s with heap := h₁, toks := tk₁ } .next s₂ := by
      rintro ⟨h', tk, m', nw', rfl, F', N', off', hj'⟩
      refine ⟨rfl, h', tk, m', nw', rfl, F', fun p hp => ?_, fun p hp hq => off' p hp (List.mem_singleton.mp hq), hj'⟩
      rcases List.mem_append.mp hp with hp | hp
      · have h1 := hown p hp
        have h2 := hget p hp
        rcases List.mem_cons.mp h1 with e | e
        · have e3 : p = (s.heap.objs.size, oI) := Prod.ext e (Option.some.inj ((e ▸ h2).symm.trans hoI))
          rw [e3]; exact N' _ (.head _)
        · have e := List.mem_singleton.mp e
          have h3 := (N₂ _ (List.mem_cons_of_mem _ (hJ _ _ _ hJi))).1
          have e3 : p = (l, lstO vs n) := Prod.ext e (Option.some.inj ((e ▸ h2).symm.trans h3))
          rw [e3]; exact N' _ (List.mem_cons_of_mem _ (hJ _ _ _ hj'))
      · exact N' _ (List.mem_cons_of_mem _ hp)
    cases f with
    | ret v => exact .ret p
    | brk => exact .brk p
    | next => exact .next (fin p)
    | cont => exact .cont (fin p)
  · rintro h' tk m' nw' F' N' _ hJn
    exact done m' nw' h' tk hJn F' N'
end
end Mine
end

section
open PySem PySem.SeqAt PySem.Challenge PySem.W PySem.Spec PySem.Calls PyProof.Rows
namespace Mine
/-- taking off the corners that do not turn (the last corner first) -/
noncomputable def popR (p : Pt) : List Pt → List Pt
  | b :: a :: r => if turn a b p ≤ 0 then popR p (a :: r) else b :: a :: r
  | st => st
/-- half a hull, the last corner first -/
noncomputable def halfR (row : List Pt) : List Pt := row.foldl (fun st p => p :: popR p st) []
theorem rev2 {fs : List Pt} {a b : Pt} (h : 1 < fs.length) (h1 : fs[fs.length - 2]? = some a) (h2 : fs[fs.length - 1]? = some b) : ∃ r, fs.reverse = b :: a :: r := by
  have e1 : fs.reverse[1]? = some a := by rw [List.getElem?_reverse (by lia)]; exact h1
  have e0 : fs.reverse[0]? = some b := by rw [List.getElem?_reverse (by lia)]; exact h2
  match hr : fs.reverse with
  | [] => rw [hr] at e0; simp at e0
  | [_] => rw [hr] at e1; simp at e1
  | x :: y :: r =>
    rw [hr] at e0 e1
    simp at e0 e1
    subst e0; subst e1
    exact ⟨r, rfl⟩
theorem popR_go {a b p : Pt} {r : List Pt} (h : turn a b p ≤ 0) : popR p (b :: a :: r) = popR p (a :: r) := by
  rw [popR, if_pos h]
theorem popR_no {a b p : Pt} {r : List Pt} (h : ¬ turn a b p ≤ 0) : popR p (b :: a :: r) = b :: a :: r := by
  rw [popR, if_neg h]
theorem popR_short {p : Pt} {st : List Pt} (h : ¬ 1 < st.length) : popR p st = st := by
  match st with
  | [] => rfl
  | [_] => rfl
  | _ :: _ :: _ => exact absurd (Nat.succ_lt_succ (Nat.succ_pos _)) h
theorem halfR_take {ps : List Pt} {i : Nat} {p : Pt} (h : ps[i]? = some p) : halfR (ps.take (i + 1)) = p :: popR p (halfR (ps.take i)) := by
  rw [List.take_add_one, h]
  simp [halfR, List.foldl_append]
section
variable {prog : Program} {w : World} {A : Around} {E : Value → Shared → Prop} {s : Shared} {h₀ : Heap} {L : Addr} {m : Str → Option Value} {news : List (Addr × Obj)} {l : Addr} {vs : List Value} {n : Nat}
theorem append_own {y : Value} {Q : Value → Shared → Prop} (F : Fr h₀ L s.heap m) (N : News h₀ L s.heap ((l, lstO vs n) :: news)) (hne : ∀ p ∈ news, p.1 ≠ l) (hf : vs.length ≤ 1000)
    (h : ∀ h', Fr h₀ L h' m → News h₀ L h' ((l, lstO (vs ++ [y]) (n + 1)) :: news) → Q .none { s with heap := h' }) :
    wpAny (model prog w) A (call (.builtin "list.append") [.ref l, y]) Q E s := by
  refine append_K (its := vs.toArray) (n := n) F N (news' := (l, lstO (vs ++ [y]) (n + 1)) :: news) ?_ h ?_
  · have e : listOf (vs.toArray.push y) (n + 1) = lstO (vs ++ [y]) (n + 1) := by simp
    rw [e]; exact Upd.head hne
  · simp only [sizeLine_eq, List.size_toArray]; lia
theorem kl_last_snoc (vs : List Value) (y : Value) : kl_last (vs ++ [y]) = some (vs, y) := by
  induction vs with
  | nil => rfl
  | cons v vs ih => show (match kl_last (vs ++ [y]) with | some (p, y) => some (v :: p, y) | none => some ([], v)) = _; rw [ih]
theorem pop_own {y : Value} {Q : Value → Shared → Prop} (F : Fr h₀ L s.heap m) (N : News h₀ L s.heap ((l, lstO (vs ++ [y]) n) :: news)) (hne : ∀ p ∈ news, p.1 ≠ l) (hf : vs.length ≤ 1000)
    (h : ∀ h', Fr h₀ L h' m → News h₀ L h' ((l, lstO vs (n + 1)) :: news) → Q y { s with heap := h' }) :
    wpAny (model prog w) A (call (.builtin "list.pop") [.ref l]) Q E s := by
  refine kl_pop F N (p := vs) (y := y) ?_ (Upd.head hne) ?_ h
  · show kl_last (vs ++ [y]) = _
    exact kl_last_snoc vs y
  · simp only [sizeLine_eq]
    show (vs ++ [y]).length ≤ _
    simp; lia
end
theorem nameHead {h₀ h : Heap} {L l' : Addr} {o : Obj} {news : List (Addr × Obj)} (_ : News h₀ L h ((l', o) :: news)) : ∃ x, x = l' := ⟨_, rfl⟩
theorem PtsIn.getV {news : List (Addr × Obj)} {vs : List Value} {ps : List Pt} (h : PtsIn news vs ps) : ∀ (i : Nat) (v : Value), vs[i]? = some v → ∃ p, ps[i]? = some p ∧ PtIn news v p := by
  induction h with
  | nil => intro i p e; simp at e
  | cons a _ ih =>
    intro i q e
    cases i with
    | zero => simp at e; subst e; exact ⟨_, rfl, a⟩
    | succ i => simpa using ih i q (by simpa using e)
theorem PtsIn.snoc {news : List (Addr × Obj)} {vs : List Value} {ps : List Pt} {v : Value} {p : Pt} (h : PtsIn news vs ps) (g : PtIn news v p) : PtsIn news (vs ++ [v]) (ps ++ [p]) := by
  induction h with
  | nil => exact .cons g .nil
  | cons a _ ih => exact .cons a ih
theorem PtsIn.unsnoc {news : List (Addr × Obj)} {v : Value} : ∀ {vs : List Value} {ps : List Pt}, PtsIn news (vs ++ [v]) ps → ∃ qs q, ps = qs ++ [q] ∧ PtsIn news vs qs ∧ PtIn news v q
  | [], _, .cons a .nil => ⟨[], _, rfl, .nil, a⟩
  | u :: vs, _, .cons a r => by
    obtain ⟨qs, q, rfl, h, g⟩ := PtsIn.unsnoc (vs := vs) r
    exact ⟨_ :: qs, q, rfl, .cons a h, g⟩
theorem newsPerm {h₀ h : Heap} {L : Addr} {a b : Addr × Obj} {news : List (Addr × Obj)} (N : News h₀ L h (a :: b :: news)) : News h₀ L h (b :: a :: news) :=
  newsSub N fun q hq => by
    rcases List.mem_cons.mp hq with rfl | hq
    · exact .tail _ (.head _)
    rcases List.mem_cons.mp hq with rfl | hq
    · exact .head _
    exact .tail _ (.tail _ hq)
section
variable {w : World} {mean : ExcName → Option Value} {mg mb : Str → Option Value} {news : List (Addr × Obj)} {cn : Str} {sn : List (Str × NameKind)} {sg sc : Bool} {sm : List (Str × Const)} {a : Addr} {ccd : Value} {cl : List (Str × Addr)} {outer : List Env} {A₀ : Around} {base h₀ : Heap} {L : Addr} {m : Str → Option Value} {s : Shared} {Q : Value → Shared → Prop} {E : Value → Shared → Prop}
theorem turn_at {A : Around} {pn : List (Addr × Obj)} {va vb vc : Value} {pa pb pc : Pt} (hA : A.frames = some (envX cn ⟨.function, sn, sg, sc, sm⟩ L a ccd cl :: outer)) (hh : A.handled = none) (hd : A.depth ≤ 310 + 10 * 9) (hu : A.units ≤ 1000 + 500 * 9)
    (B : Below A₀ base outer h₀) (F : Fr h₀ L s.heap m) (K : (Mine.hd.heap_39 w.params).In h₀) (N : News h₀ L s.heap news) (T : Top topProg LoB mean mg mb h₀)
    (ha : PtIn pn va pa) (hb : PtIn pn vb pb) (hc : PtIn pn vc pc) (hs : ∀ q ∈ pn, q ∈ news)
    (hret : ∀ (t : Tok) (h' : Heap) (tk' : Nat), Fr h₀ L h' m → News h₀ L h' news → Q (.int (turn pa pb pc) t) { s with heap := h', toks := tk' }) :
    wpAny (model rw_xi0007_01.prog w) A (call (.ref 69) [va, vb, vc]) Q E s :=
  around 9 cn sn sg sc sm L a ccd cl outer hA hh hd hu (turn_call B F K N T (ha.mono hs) (hb.mono hs) (hc.mono hs) hret)
theorem regM6a : True := by
  k_with_none
  k_with "memK" => (first | assumption | exact List.Mem.head _ | (refine List.Mem.tail _ ?_; k_memK))
  k_with "call builtin:len" => ((k_here; k_dflt (refine' len_lst (by (k_asm)) (by (k_memK)) (by (lia)) ?_; k_whole)))
  k_with "subscriptTail" => ((k_here; (with_reducible show wpAny _ _ (subscriptTail _ _ (Value.ref _) (Value.int _ _)) _ _ _); (with_unfolding_all refine' pt_item (by (assumption)) (by (k_memK)) (by (assumption)) (by (lia)) (by (lia)) (by (lia)) (by (with_unfolding_all rfl)) ?_); intro iaZ ipZ hiPZ hiGZ hiVZ))
  trivial
theorem regM6b : True := by
  k_with "call ref" => ((k_here; (k_dflt (refine' turn_at (by exact rfl) (by exact rfl) (by exact Nat.le_of_ble_eq_true rfl) (by exact Nat.le_of_ble_eq_true rfl) (by k_asm) (by k_asm) (by k_asm) (by k_asm) (by k_asm) (by assumption) (by assumption) (by assumption) (by (intro qZ hqZ; refine List.Mem.tail _ (List.Mem.tail _ ?_); apply_assumption; assumption)) ?_); k_whole); intro ttZ htZ tktZ FtZ NtZ))
  k_with "exec While BoolOp cons nil" => ((k_here; refine stopW ?_))
  k_with "exec For Name Name cons nil" => ((k_here; refine stopW ?_))
  k_with "call builtin:list.pop" => ((k_here; refine stopW ?_))
  k_with "call builtin:list.append" => ((k_here; refine stopW ?_))
  k_with "pyIter ref" => ((k_here; refine stopW ?_))
  k_with "callWith ref" => ((k_here; k_dflt (refine' callWith_K (by (k_asm)) (by (k_is)) ?_; k_whole)))
  trivial
set_option maxRecDepth 100000 in
set_option maxHeartbeats 8000000 in
theorem half_call {l : Addr} {vs : List Value} {ps : List Pt} {n : Nat} {pn : List (Addr × Obj)}
    (B : Below A₀ base outer h₀) (F : Fr h₀ L s.heap m) (K : (Mine.hd.heap_39 w.params).In h₀) (N : News h₀ L s.heap news) (T : Top topProg LoB mean mg mb h₀)
    (hl : (l, lstO vs n) ∈ news) (hs : ∀ q ∈ pn, q ∈ news) (hp : PtsIn pn vs ps) (hf : vs.length ≤ 100)
    (hret : ∀ (l' : Addr) (us : List Value) (n' : Nat) (h' : Heap) (tk' : Nat), PtsIn pn us (halfR ps).reverse → us.length ≤ vs.length → (∀ p ∈ news, p.1 < l') → Fr h₀ L h' m → News h₀ L h' ((l', lstO us n') :: news) → Q (.ref l') { s with heap := h', toks := tk' }) :
    wpAny (model rw_xi0007_01.prog w) (kTop 7 cn sn sg sc sm L a ccd cl outer) (call (.ref 88) [.ref l]) Q E s := by
  revert K; k_fill; intro K
  refine wpAny_call ?_
  k_enter
  k_steps
  unfold StopW
  (rename Fr _ _ _ _ => F1); (rename News _ _ _ _ => N1)
  refine For_invVF F1 rfl rfl ?_
  k_steps
  unfold StopW
  obtain ⟨fl, hfl⟩ := nameHead N1
  subst hfl
  have lt1 : ∀ p ∈ news, p.1 < fl := by assumption
  have hne1 : ∀ p ∈ news, p.1 ≠ fl := fun p hp => Nat.ne_of_lt (lt1 p hp)
  refine for_lst (fun i m nw => ∃ us n fs, nw = (fl, lstO us n) :: news ∧ PtsIn pn us fs ∧ fs.reverse = halfR (ps.take i) ∧ us.length ≤ i ∧ m (Str.ofString "found") = some (.ref fl)) rfl (.tail _ hl) F1 N1
    ⟨[], 0, [], rfl, .nil, rfl, Nat.le_refl _, by with_unfolding_all rfl⟩ (fun i m nw h => by obtain ⟨us, n', fs, rfl, _⟩ := h; exact .tail _ hl) ?_ ?_
  · clear F1 N1
    rintro i v m₁ nw h tk I oI hv ⟨us, n', fs, rfl, hus, hfs, hle, hm⟩ offI hcI F2 N2
    have F3 := named [(Str.ofString "point", v), (Str.ofString "found", .ref fl)] F2 (by
      intro p hp
      simp only [List.mem_cons, List.not_mem_nil, or_false] at hp
      rcases hp with rfl | rfl
      · with_unfolding_all rfl
      · with_unfolding_all exact hm)
    have N3 := newsPerm N2
    clear F2 N2
    obtain ⟨p, hpi, hpv⟩ := hp.getV _ _ hv
    obtain ⟨pa, hpa⟩ : ∃ pa, v = .ref pa := by obtain ⟨xa, _, _, _, e, _⟩ := hpv; exact ⟨xa, e⟩
    subst hpa
    have offF : fl ≠ I := offI _ (.head _)
    have offN : ∀ p ∈ news, p.1 ≠ I := fun p hp => offI p (.tail _ hp)
    have hne2 : ∀ q ∈ (I, oI) :: news, q.1 ≠ fl := fun q hq => by
      rcases List.mem_cons.mp hq with rfl | hq
      · exact fun e => offI _ (.head _) e.symm
      · exact hne1 q hq
    k_steps
    unfold StopW
    refine While_inv2 (fun k m nw => ∃ us n fs, nw = (fl, lstO us n) :: (I, oI) :: news ∧ PtsIn pn us fs ∧ popR p fs.reverse = popR p (halfR (ps.take i)) ∧ us.length = k ∧ us.length ≤ i ∧ m (Str.ofString "found") = some (.ref fl) ∧ m (Str.ofString "point") = some (.ref pa))
      F3 N3 ⟨us, n', fs, rfl, hus, by rw [hfs], rfl, hle, by with_unfolding_all rfl, by with_unfolding_all rfl⟩ ?_
    clear F3 N3 hus hfs hle hm
    clear offI fs us n'
    rintro k m₂ nw h₂ tk₂ F4 N4 ⟨us, n', fs, rfl, hus, hfs, hk, hle, hm, hm'⟩
    have F5 := named [(Str.ofString "point", .ref pa), (Str.ofString "found", .ref fl)] F4 (by
      intro p hp
      simp only [List.mem_cons, List.not_mem_nil, or_false] at hp
      rcases hp with rfl | rfl <;> assumption)
    clear F4 hm hm'
    have hlen := hus.length
    have hi : i < vs.length := (List.getElem?_eq_some_iff.mp hv).1
    k_steps
    · unfold StopW
      (rename _ ≤ (0 : Int) => hturn)
      have h1 := ‹fs[((us.length : Int) - 2).toNat]? = some _›
      have h2 := ‹fs[((us.length : Int) - 1).toNat]? = some _›
      rename Fr _ _ _ (kstB _ _) => F6
      rename News _ _ _ ((fl, _) :: _) => N6
      have hl1 : 1 < us.length := by lia
      obtain ⟨r, hr⟩ := rev2 (fs := fs) (by lia) (by rw [← h1]; congr 1; lia) (by rw [← h2]; congr 1; lia)
      rcases List.eq_nil_or_concat us with rfl | ⟨us', y, rfl⟩
      · exact absurd hl1 (by decide)
      rw [List.concat_eq_append] at *
      obtain ⟨qs, q, rfl, hqs, hq⟩ := hus.unsnoc
      refine pop_own F6 N6 hne2 (by simp at hle; lia) ?_
      intro h' F7 N7
      k_steps
      refine ⟨_, _, _, _, us'.length, rfl, F7, N7, by simp at hk; lia, us', _, qs, rfl, hqs, ?_, rfl, by simp at hle; lia, by with_unfolding_all rfl, by with_unfolding_all rfl⟩
      rw [← hfs]
      simp only [List.reverse_append, List.reverse_cons, List.reverse_nil, List.nil_append, List.cons_append] at hr ⊢
      injection hr with hq1 hq2
      subst hq1
      rw [hq2, popR_go hturn]
    · unfold StopW
      (rename ¬ _ ≤ (0 : Int) => hturn)
      have h1 := ‹fs[((us.length : Int) - 2).toNat]? = some _›
      have h2 := ‹fs[((us.length : Int) - 1).toNat]? = some _›
      rename Fr _ _ _ (kstB _ _) => F6
      rename News _ _ _ ((fl, _) :: _) => N6
      have hl1 : 1 < us.length := by lia
      obtain ⟨r, hr⟩ := rev2 (fs := fs) (by lia) (by rw [← h1]; congr 1; lia) (by rw [← h2]; congr 1; lia)
      refine append_own F6 N6 hne2 (by lia) ?_
      intro h' F7 N7
      k_steps
      refine ⟨_, _, _, (fl, lstO (us ++ [.ref pa]) (n' + 1)) :: news, rfl, F7, by exact newsPerm N7, ?_, us ++ [.ref pa], _, fs ++ [p], rfl, hus.snoc hpv, ?_, by simp; lia, by with_unfolding_all rfl⟩
      · intro p hp
        rcases List.mem_cons.mp hp with rfl | hp
        · exact offF
        · exact offN p hp
      · rw [halfR_take hpi, ← hfs, List.reverse_append, hr, popR_no hturn]; rfl
    · unfold StopW
      refine append_own F5 N4 hne2 (by lia) ?_
      intro h' F7 N7
      k_steps
      refine ⟨_, _, _, (fl, lstO (us ++ [.ref pa]) (n' + 1)) :: news, rfl, F7, by exact newsPerm N7, ?_, us ++ [.ref pa], _, fs ++ [p], rfl, hus.snoc hpv, ?_, by simp; lia, by with_unfolding_all rfl⟩
      · intro p hp
        rcases List.mem_cons.mp hp with rfl | hp
        · exact offF
        · exact offN p hp
      · rw [halfR_take hpi, ← hfs, List.reverse_append, popR_short (st := fs.reverse) (by simp; lia)]; rfl
  · rintro m₁ nw h tk ⟨us, n', fs, rfl, hus, hfs, hle, hm⟩ F2 N2
    have F3 := named [(Str.ofString "found", .ref fl)] F2 (by
      intro p hp
      simp only [List.mem_cons, List.not_mem_nil, or_false] at hp
      rcases hp with rfl
      with_unfolding_all exact hm)
    clear F2 hm
    k_steps
    have e : ps.take vs.length = ps := List.take_of_length_le (by rw [hp.length]; lia)
    rw [e] at hfs
    exact hret fl us _ _ _ (by rw [← hfs, List.reverse_reverse]; exact hus) hle lt1 (by assumption) (by assumption)
end
end Mine
end

section
open PySem PySem.SeqAt PySem.Challenge PySem.W PySem.Spec PySem.Calls PyProof.Rows
namespace Mine
theorem far_eq (x1 y1 x2 y2 : Int) : far (x1, y1) (x2, y2) = (x2 - x1) ^ Int.toNat 2 + (y2 - y1) ^ Int.toNat 2 := by
  show _ = (x2 - x1) ^ 2 + (y2 - y1) ^ 2
  simp [far, Int.pow_succ]
section
variable {w : World} {mean : ExcName → Option Value} {mg mb : Str → Option Value} {news : List (Addr × Obj)} {cn : Str} {sn : List (Str × NameKind)} {sg sc : Bool} {sm : List (Str × Const)} {a : Addr} {ccd : Value} {cl : List (Str × Addr)} {outer : List Env} {A₀ : Around} {base h₀ : Heap} {L : Addr} {m : Str → Option Value} {s : Shared} {Q : Value → Shared → Prop} {E : Value → Shared → Prop}
theorem regM7a : True := by
  k_with_none
  k_with "callWith ref" => ((k_here; k_dflt (refine' callWith_K (by (k_asm)) (by (k_is)) ?_; k_whole)))
  k_with "binaryOp Pow int int" => ((k_here; (with_reducible refine pow_int_small ?_ ?_ ?_ ?_); side_arith; side_arith; side_arith))
  trivial
set_option maxRecDepth 100000 in
set_option maxHeartbeats 8000000 in
theorem far_call {va vb : Value} {pa pb : Pt}
    (B : Below A₀ base outer h₀) (F : Fr h₀ L s.heap m) (K : (Mine.hd.heap_39 w.params).In h₀) (N : News h₀ L s.heap news) (T : Top topProg LoB mean mg mb h₀)
    (ha : PtIn news va pa) (hb : PtIn news vb pb)
    (hret : ∀ (t : Tok) (h' : Heap) (tk' : Nat), Fr h₀ L h' m → News h₀ L h' news → Q (.int (far pa pb) t) { s with heap := h', toks := tk' }) :
    wpAny (model rw_xi0007_01.prog w) (kTop 9 cn sn sg sc sm L a ccd cl outer) (call (.ref 76) [va, vb]) Q E s := by
  obtain ⟨p, t1, t2, n1, rfl, hp, b1, b2, b3, b4⟩ := ha
  obtain ⟨q, t3, t4, n2, rfl, hq, b5, b6, b7, b8⟩ := hb
  obtain ⟨x1, y1⟩ := pa
  obtain ⟨x2, y2⟩ := pb
  dsimp only at *
  have N2 : News h₀ L s.heap ((p, ptO x1 y1 t1 t2 n1) :: (q, ptO x2 y2 t3 t4 n2) :: news) :=
    newsSub N fun z hz => by
      rcases List.mem_cons.mp hz with rfl | hz
      · exact hp
      rcases List.mem_cons.mp hz with rfl | hz
      · exact hq
      exact hz
  clear N
  simp only [far_eq] at hret
  revert K; k_fill; intro K
  refine wpAny_call ?_
  k_enter
  k_steps
  all_goals (refine hret _ _ _ (by assumption) (newsSub (by assumption) ?_))
  all_goals (intro z hz; exact .tail _ (.tail _ hz))
end
end Mine
end

section
open PySem PySem.SeqAt PySem.Challenge PySem.W PySem.Spec PySem.Calls PyProof.Rows
namespace Mine
/-- a point laid into a sorted row -/
noncomputable def insP (x : Pt) : List Pt → List Pt
  | [] => [x]
  | p :: r => if ltP x p then x :: p :: r else p :: insP x r
/-- the points, sorted -/
noncomputable def sortP (ps : List Pt) : List Pt := ps.foldl (fun r p => insP p r) []
noncomputable def lowP (row : List Pt) : List Pt := (halfR row).reverse
/-- the hull by the chain -/
noncomputable def hullP (ps : List Pt) : List Pt :=
  if (sortP ps).length < 2 then sortP ps else (lowP (sortP ps)).dropLast ++ (lowP (sortP ps).reverse).dropLast
theorem insP_at {x : Pt} : ∀ {ps : List Pt} {k : Nat}, k ≤ ps.length → (∀ i p, i < k → ps[i]? = some p → ltP x p = false) → (∀ i p, k ≤ i → ps[i]? = some p → ltP x p = true) → ps.take k ++ x :: ps.drop k = insP x ps
  | [], k, h, _, _ => by
    obtain rfl : k = 0 := by simpa using h
    rfl
  | p :: r, 0, _, _, h2 => by
    have := h2 0 p (Nat.le_refl _) rfl
    simp [insP, this]
  | p :: r, k + 1, h, h1, h2 => by
    have e := h1 0 p (Nat.succ_pos _) rfl
    have := insP_at (x := x) (ps := r) (k := k) (by simpa using h) (fun i q hi hq => h1 (i + 1) q (by lia) (by simpa using hq)) (fun i q hi hq => h2 (i + 1) q (by lia) (by simpa using hq))
    simp [insP, e, this]
theorem insP_mem {x y : Pt} : ∀ {ps : List Pt}, y ∈ insP x ps ↔ y = x ∨ y ∈ ps
  | [] => by simp [insP]
  | p :: r => by
    simp only [insP]
    split
    · simp
    · simp only [List.mem_cons, insP_mem (ps := r)]
      constructor
      · rintro (h | h | h) <;> simp [h]
      · rintro (h | h | h) <;> simp [h]
theorem insP_length {x : Pt} : ∀ {ps : List Pt}, (insP x ps).length = ps.length + 1
  | [] => rfl
  | p :: r => by
    simp only [insP]
    split
    · simp
    · simp [insP_length (ps := r)]
theorem ltP_tri {a b : Pt} (h : ltP a b = false) (hne : a ≠ b) : ltP b a = true := by
  obtain ⟨a1, a2⟩ := a
  obtain ⟨b1, b2⟩ := b
  simp only [ltP, Bool.or_eq_true, Bool.and_eq_true, decide_eq_true_eq, beq_iff_eq, Bool.or_eq_false_iff, Bool.and_eq_false_iff, decide_eq_false_iff_not, beq_eq_false_iff_ne, ne_eq, Prod.mk.injEq, not_and] at *
  lia
theorem insP_sorted {x : Pt} : ∀ {ps : List Pt}, ps.Pairwise (fun p q => ltP p q = true) → x ∉ ps → (insP x ps).Pairwise fun p q => ltP p q = true
  | [], _, _ => by simp [insP]
  | p :: r, h, hx => by
    obtain ⟨h1, h2⟩ := List.pairwise_cons.mp h
    simp only [List.mem_cons, not_or] at hx
    simp only [insP]
    cases e : ltP x p with
    | true =>
      simp only [if_true]
      refine List.pairwise_cons.mpr ⟨fun q hq => ?_, h⟩
      rcases List.mem_cons.mp hq with rfl | hq
      · exact e
      · exact ltP_trans e (h1 q hq)
    | false =>
      simp only [Bool.false_eq_true, if_false]
      refine List.pairwise_cons.mpr ⟨fun q hq => ?_, insP_sorted h2 hx.2⟩
      rcases insP_mem.mp hq with rfl | hq
      · exact ltP_tri e hx.1
      · exact h1 q hq
theorem sortP_snoc {ps : List Pt} {p : Pt} : sortP (ps ++ [p]) = insP p (sortP ps) := by simp [sortP, List.foldl_append]
theorem sortP_rev {P : List Pt → Prop} (h0 : P []) (h1 : ∀ ps p, P ps → P (ps ++ [p])) : ∀ ps, P ps := by
  have : ∀ n, ∀ ps : List Pt, ps.length = n → P ps := by
    intro n
    induction n with
    | zero => intro ps h; rw [List.length_eq_zero_iff.mp h]; exact h0
    | succ n ih =>
      intro ps h
      rcases List.eq_nil_or_concat ps with rfl | ⟨l, y, rfl⟩
      · exact h0
      · rw [List.concat_eq_append] at *
        exact h1 _ _ (ih l (by simpa using h))
  exact fun ps => this _ ps rfl
theorem sortP_mem {y : Pt} : ∀ ps, y ∈ sortP ps ↔ y ∈ ps := sortP_rev (by simp [sortP]) fun ps p ih => by
  rw [sortP_snoc, insP_mem, ih]; simp [or_comm]
theorem sortP_length : ∀ ps, (sortP ps).length = ps.length := sortP_rev (by simp [sortP]) fun ps p ih => by
  rw [sortP_snoc, insP_length, ih]; simp
theorem sortP_sorted : ∀ ps : List Pt, ps.Nodup → (sortP ps).Pairwise fun p q => ltP p q = true := sortP_rev (fun _ => by simp [sortP]) fun ps p ih h => by
  rw [sortP_snoc]
  have h' := List.nodup_append.mp h
  refine insP_sorted (ih h'.1) fun hm => ?_
  exact h'.2.2 p ((sortP_mem ps).mp hm) p (by simp) rfl
theorem sortP_take {ps : List Pt} {i : Nat} {p : Pt} (h : ps[i]? = some p) : sortP (ps.take (i + 1)) = insP p (sortP (ps.take i)) := by
  rw [List.take_add_one, h]; exact sortP_snoc
section
variable {prog : Program} {w : World} {A : Around} {s : Shared} {h₀ : Heap} {L : Addr} {m : Str → Option Value} {env : Env}
open LCg in
theorem compRest_inv {elt : PySem.Expr} {x : Str} {scope : Scope} {cl : List (Str × Addr)} {S : List (Addr × Obj) → Prop} {P : Nat → Value → Prop} {Fin : List Value → List (Addr × Obj) → Prop} {n : Nat} (J : Nat → List Value → List (Addr × Obj) → Prop)
    (fin : ∀ ys nw, J n ys nw → Fin ys nw)
    (turn : ∀ i v I oI C oC D m₂ h tk (E' : Value → Shared → Prop) ys nw, i < n → J i ys nw → P i v → NsObj oC m₂ → m₂ x = some v → Fr h₀ L h m → News h₀ L h ((I, oI) :: (C, oC) :: (D, lst ys) :: nw) → Off3 I C D nw → ((@Ne Nat I C) ∧ (@Ne Nat I D) ∧ (@Ne Nat C D)) →
      wpAny (model prog w) A (eval elt (compEnvC scope cl C env)) (CompEnd h₀ L m { s with heap := h, toks := tk } I oI C oC D (lst ys) S (fun y nw' => J (i + 1) (ys ++ [y]) nw')) E' { s with heap := h, toks := tk }) :
    ∀ k i ys nw, i + k = n → J i ys nw → CompRest prog w A h₀ L m env elt x scope cl s S P Fin k i ys nw := by
  intro k
  induction k with
  | zero => intro i ys nw e j; exact fin ys nw (by rw [← e]; exact j)
  | succ k ih =>
    intro i ys nw e j v I oI C oC D m₂ h tk E' h1 h2 h3 h4 h5 h6 h7
    refine wpAny_mono (turn i v I oI C oC D m₂ h tk E' ys nw (by lia) j h1 h2 h3 h4 h5 h6 h7) (fun y s₂ e2 => ?_) fun _ _ e => e
    obtain ⟨h', tk', nw', e3, F', N', o', S', r⟩ := e2
    exact ⟨h', tk', nw', e3, F', N', o', S', ih (i + 1) _ _ (by lia) r⟩
end
theorem rangeSize_nat (n : Nat) : Builtin.Range.rangeSize 0 (n : Int) 1 = ((n : Nat) : Int) := by
  rw [rangeSize_pos (by decide) (by lia)]; lia
theorem newsCut8 {h₀ h : Heap} {L : Addr} {p a1 a2 a3 a4 a5 a6 a7 a8 : Addr × Obj} {news : List (Addr × Obj)} (N : News h₀ L h (p :: a1 :: a2 :: a3 :: a4 :: a5 :: a6 :: a7 :: a8 :: news)) : News h₀ L h (p :: news) :=
  newsSub N fun q hq => by
    rcases List.mem_cons.mp hq with rfl | hq
    · exact .head _
    · exact .tail _ (.tail _ (.tail _ (.tail _ (.tail _ (.tail _ (.tail _ (.tail _ (.tail _ hq))))))))
theorem lowP_pos {ps : List Pt} (h : 0 < ps.length) : 0 < (lowP ps).length := by
  rcases List.eq_nil_or_concat ps with rfl | ⟨l, y, rfl⟩
  · simp at h
  · rw [List.concat_eq_append]
    simp [lowP, halfR, List.foldl_append]
theorem pick_upto {vs : List Value} (h : 0 < vs.length) : slicePick vs.toArray none (some ((vs.length : Int) - 1)) none = (vs.take (vs.length - 1)).toArray := by
  have e : sliceBounds none (some ((vs.length : Int) - 1)) none vs.toArray.size = (((0 : Nat) : Int), ((vs.length - 1 : Nat) : Int), 1) := by
    simp only [sliceBounds, Option.getD_none, show (1 : Int) > 0 by decide, if_true, if_neg (show ¬ ((vs.length : Int) - 1 < 0) by lia), List.size_toArray]
    congr 1
    congr 1
    lia
  rw [kmk_pick_nat _ e]
  simp
theorem allLt {l : Addr} {news : List (Addr × Obj)} (h : AllLt l news) : ∀ p ∈ news, p.1 < l := by
  induction news with
  | nil => intro p hp; cases hp
  | cons q r ih =>
    intro p hp
    rcases List.mem_cons.mp hp with rfl | hp
    · exact h.1
    · exact ih h.2 p hp
theorem all_off1 {news : List (Addr × Obj)} {L : Addr} (h : ∀ p ∈ news, p.1 < L) : ∀ p ∈ news, p.1 ≠ L + 1 := fun p hp => Nat.ne_of_lt (Nat.lt_succ_of_lt (h p hp))
section
variable {w : World} {mean : ExcName → Option Value} {mg mb : Str → Option Value} {news : List (Addr × Obj)} {cn : Str} {sn : List (Str × NameKind)} {sg sc : Bool} {sm : List (Str × Const)} {a : Addr} {ccd : Value} {cl : List (Str × Addr)} {outer : List Env} {A₀ : Around} {base h₀ : Heap} {L : Addr} {m : Str → Option Value} {s : Shared} {Q : Value → Shared → Prop} {E : Value → Shared → Prop}
theorem insort_at {A : Around} {pn : List (Addr × Obj)} {l : Addr} {vx : Value} {px : Pt} {vs : List Value} {ps : List Pt} {n : Nat} (hA : A.frames = some (envX cn ⟨.function, sn, sg, sc, sm⟩ L a ccd cl :: outer)) (hh : A.handled = none) (hd : A.depth ≤ 310 + 10 * 7) (hu : A.units ≤ 1000 + 500 * 7)
    (B : Below A₀ base outer h₀) (F : Fr h₀ L s.heap m) (K : (Mine.hd.heap_39 w.params).In h₀) (N : News h₀ L s.heap ((l, lstO vs n) :: news)) (T : Top topProg LoB mean mg mb h₀)
    (hne : ∀ p ∈ news, p.1 ≠ l) (hsub : ∀ q ∈ pn, q ∈ news) (hx : PtIn pn vx px) (hp : PtsIn pn vs ps) (hf : vs.length ≤ 1000) (hs : ps.Pairwise fun p q => ltP p q = true)
    (hret : ∀ (us : List Value) (n' : Nat) (h' : Heap) (tk' : Nat), PtsIn pn us (insP px ps) → Fr h₀ L h' m → News h₀ L h' ((l, lstO us n') :: news) → Q .none { s with heap := h', toks := tk' }) :
    wpAny (model rw_xi0007_01.prog w) A (call (.ref 39) [.ref l, vx]) Q E s :=
  around 7 cn sn sg sc sm L a ccd cl outer hA hh hd hu (insort_call B F K N T hne (hx.mono hsub) (hp.mono hsub) hf hs fun k n' h' tk' e1 e2 e3 F' N' => hret _ n' h' tk' (by
    rw [← insP_at e1 e2 e3]
    exact (hp.take k).append (.cons hx (hp.drop k))) F' N')
theorem half_at {A : Around} {l : Addr} {vs : List Value} {ps : List Pt} {n : Nat} {pn : List (Addr × Obj)} (hA : A.frames = some (envX cn ⟨.function, sn, sg, sc, sm⟩ L a ccd cl :: outer)) (hh : A.handled = none) (hd : A.depth ≤ 310 + 10 * 7) (hu : A.units ≤ 1000 + 500 * 7)
    (B : Below A₀ base outer h₀) (F : Fr h₀ L s.heap m) (K : (Mine.hd.heap_39 w.params).In h₀) (N : News h₀ L s.heap news) (T : Top topProg LoB mean mg mb h₀)
    (hl : (l, lstO vs n) ∈ news) (hp : PtsIn pn vs ps) (hs : ∀ q ∈ pn, q ∈ news) (hf : vs.length ≤ 100)
    (hret : ∀ (l' : Addr) (us : List Value) (n' : Nat) (h' : Heap) (tk' : Nat), PtsIn pn us (lowP ps) → us.length ≤ vs.length → (∀ p ∈ news, p.1 < l') → Fr h₀ L h' m → News h₀ L h' ((l', lstO us n') :: news) → Q (.ref l') { s with heap := h', toks := tk' }) :
    wpAny (model rw_xi0007_01.prog w) A (call (.ref 88) [.ref l]) Q E s :=
  around 7 cn sn sg sc sm L a ccd cl outer hA hh hd hu (half_call B F K N T hl hs hp hf hret)
theorem storeT_C {M : Model} {A : Around} {E : Value → Shared → Prop} {s : Shared} {h₀ : Heap} {L a : Addr} {m : Str → Option Value} {cn : Str} {cs : Scope} {ccd : Value} {cl : List (Str × Addr)} {x : Str} {v : Value} {Q : Unit → Shared → Prop} {q : Addr × Obj} {r : List (Addr × Obj)} {c : Addr} {o : Obj} {v₀ : Option Value}
    (hk : cs.kind = .function) (hx : (envX cn cs L a ccd cl).kindOf x = some .cell) (F : Fr h₀ L s.heap m) (N : News h₀ L s.heap (q :: (c, o) :: r)) (hc : cl.lookup x = some c) (hn : q.1 ≠ c) (hu : ∀ p ∈ r, p.1 ≠ c) (hd : o.data = .cell v₀)
    (h : ∀ h' o', Fr h₀ L h' m → News h₀ L h' (q :: (c, o') :: r) → o'.data = .cell (some v) → Q () { s with heap := h' }) : wpAny M A (storeName (envX cn cs L a ccd cl) x v) Q E s :=
  storeX_C F N hc (UpdF.tail hn (UpdF.head hu)) hd h hk hx
theorem regM8a : True := by
  k_with_none
  k_with "memK" => (first | assumption | exact List.Mem.head _ | (refine List.Mem.tail _ ?_; k_memK))
  k_with "call builtin:len" => ((k_here; k_dflt (refine' len_lst (by (k_asm)) (by (k_memK)) (by (lia)) ?_; k_whole)))
  trivial
theorem regM8b : True := by
  k_with "call ref" => ((k_here; first | ((with_reducible show wpAny _ _ (call (Value.ref _) [Value.ref _]) _ _ _); k_dflt (refine' half_at (by exact rfl) (by exact rfl) (by exact Nat.le_of_ble_eq_true rfl) (by exact Nat.le_of_ble_eq_true rfl) (by k_asm) (by k_asm) (by k_asm) (by k_asm) (by k_asm) (by k_memK) (by assumption) (by (intro qZ hqZ; k_memK)) (by lia) ?_; k_whole); intro lZq usZq nZq hZq tkZq husZq hleZq hltZq FZq NZq) | refine stopW ?_))
  k_with "exec For Name Name cons nil" => ((k_here; refine stopW ?_))
  trivial
theorem regM8c : True := by
  k_with "storeName" => ((k_here; k_dflt (refine' storeT_C (by rfl) (by rfl) (by k_asm) (by k_asm) (by rfl) (by k_ne) (by exact all_off1 (by assumption)) (by k_asm) ?_; k_whole); intro hZq oZq FZq NZq dZq))
  k_with "binaryOp Add ref ref" => ((k_here; refine stopW ?_))
  k_with "CompSrc" => ((k_here; refine stopW ?_))
  k_with "CompEnd" => ((refine stopW ?_))
  k_with "subscriptTail" => ((k_here; (with_reducible show wpAny _ _ (subscriptTail _ _ (Value.ref _) (Value.int _ _)) _ _ _); (with_unfolding_all refine' pt_item (by (assumption)) (by (k_memK)) (by (assumption)) (by (lia)) (by (lia)) (by (lia)) (by (with_unfolding_all rfl)) ?_); intro iaZ ipZ hiPZ hiGZ hiVZ))
  k_with "CompRest" => ((k_here; refine stopW ?_))
  k_with "pyIter ref" => ((k_here; refine stopW ?_))
  k_with "callWith ref" => ((k_here; k_dflt (refine' callWith_K (by (k_asm)) (by (k_is)) ?_; k_whole)))
  trivial
set_option maxRecDepth 100000 in
set_option maxHeartbeats 8000000 in
theorem chained_call {l : Addr} {vs : List Value} {ps : List Pt} {n : Nat}
    (B : Below A₀ base outer h₀) (F : Fr h₀ L s.heap m) (K : (Mine.hd.heap_39 w.params).In h₀) (N : News h₀ L s.heap news) (T : Top topProg LoB mean mg mb h₀)
    (hl : (l, lstO vs n) ∈ news) (hp : PtsIn news vs ps) (hf : vs.length ≤ 10) (hnd : ps.Nodup)
    (hret : ∀ (l' : Addr) (us : List Value) (n' : Nat) (h' : Heap) (tk' : Nat), PtsIn news us (hullP ps) → us.length ≤ 20 → (∀ p ∈ news, p.1 < l') → Fr h₀ L h' m → News h₀ L h' ((l', lstO us n') :: news) → Q (.ref l') { s with heap := h', toks := tk' }) :
    wpAny (model rw_xi0007_01.prog w) (kTop 6 cn sn sg sc sm L a ccd cl outer) (call (.ref 93) [.ref l]) Q E s := by
  revert K; k_fill; intro K
  refine wpAny_call ?_
  k_enter
  k_steps
  unfold StopW
  (rename Fr _ _ _ _ => F1); (rename News _ _ _ _ => N1)
  refine For_invVF F1 rfl rfl ?_
  k_steps
  unfold StopW
  obtain ⟨fl, hfl⟩ := nameHead N1
  subst hfl
  obtain ⟨c, hc⟩ := nameHead (newsPerm N1)
  have hcf : c < fl := by rw [hc]; exact (‹_ ∧ AllLt _ _› : _ ∧ AllLt _ _).1
  have ltc : ∀ p ∈ news, p.1 ≠ c := by rw [hc]; exact all_off1 (by assumption)
  rename Obj => oc
  have hoc := ‹oc.data = .cell (some (.ref fl))›
  have lt1 := allLt (‹_ ∧ AllLt _ _› : _ ∧ AllLt _ _).2
  have hne1 : ∀ p ∈ news, p.1 ≠ fl := fun p hp => Nat.ne_of_lt (lt1 p hp)
  have hplen := hp.length
  refine for_lst (fun i m nw => ∃ us n, nw = (fl, lstO us n) :: (c, oc) :: news ∧ PtsIn news us (sortP (ps.take i))) rfl (.tail _ (.tail _ hl)) F1 (by rw [hc]; exact N1)
    ⟨[], 0, rfl, .nil⟩ (fun i m nw h => by obtain ⟨us, n', rfl, _⟩ := h; exact .tail _ (.tail _ hl)) ?_ ?_
  · clear F1 N1
    rintro i v m₁ nw h tk I oI hv ⟨us, n', rfl, hus⟩ offI hcI F2 N2
    have F3 := named [(Str.ofString "point", v)] F2 (by
      intro p hp
      simp only [List.mem_cons, List.not_mem_nil, or_false] at hp
      rcases hp with rfl
      with_unfolding_all rfl)
    have N3 := newsPerm N2
    clear F2 N2
    obtain ⟨p, hpi, hpv⟩ := hp.getV _ _ hv
    obtain ⟨pa, hpa⟩ : ∃ pa, v = .ref pa := by obtain ⟨xa, _, _, _, e, _⟩ := hpv; exact ⟨xa, e⟩
    subst hpa
    have offF : fl ≠ I := offI _ (.head _)
    have offN : ∀ p ∈ (c, oc) :: news, p.1 ≠ I := fun p hp => offI p (.tail _ hp)
    have hne2 : ∀ q ∈ (I, oI) :: (c, oc) :: news, q.1 ≠ fl := fun q hq => by
      rcases List.mem_cons.mp hq with rfl | hq
      · exact fun e => offI _ (.head _) e.symm
      rcases List.mem_cons.mp hq with rfl | hq
      · exact Nat.ne_of_lt hcf
      · exact hne1 q hq
    have hi : i < vs.length := (List.getElem?_eq_some_iff.mp hv).1
    subst hc
    k_steps
    unfold StopW
    have hul := hus.length
    rw [sortP_length, List.length_take] at hul
    refine' insort_at ?hA ?hh ?hd ?hu ?B ?F ?K ?N ?T hne2 (pn := news) (fun q hq => .tail _ (.tail _ hq)) hpv hus (by lia) (sortP_sorted _ (hnd.sublist (List.take_sublist _ _))) ?_
    (case hA => exact rfl); (case hh => exact rfl); (case hd => exact Nat.le_of_ble_eq_true rfl); (case hu => exact Nat.le_of_ble_eq_true rfl)
    (case B => k_asm); (case F => k_asm); (case K => k_asm); (case N => k_asm); (case T => k_asm)
    intro us' n'' h' tk' hus' F7 N7
    k_steps
    refine ⟨_, _, _, (fl, lstO us' n'') :: (_, oc) :: news, rfl, F7, by exact newsPerm N7, ?_, us', n'', rfl, ?_⟩
    · intro p hp
      rcases List.mem_cons.mp hp with rfl | hp
      · exact offF
      · exact offN p hp
    · rw [sortP_take hpi]; exact hus'
  · rintro m₁ nw h tk ⟨us, n', rfl, hus⟩ F2 N2
    have F3 := named [] F2 (by
      intro p hp
      cases hp)
    clear F2
    rw [List.take_of_length_le (show ps.length ≤ vs.length by lia)] at hus
    have hul := hus.length
    rw [sortP_length] at hul
    subst hc
    k_steps
    · have e : (sortP ps).length < 2 := by rw [sortP_length]; lia
      refine hret fl us n' _ _ ?_ (by lia) lt1 (by assumption) (newsSub (by assumption) ?_)
      · rw [hullP, if_pos e]; exact hus
      · intro q hq
        rcases List.mem_cons.mp hq with rfl | hq
        · exact .head _
        · exact .tail _ (.tail _ hq)
    · unfold StopW
      have hus2 : us.length = (sortP ps).length := hus.length
      refine LCg.CompSrc.range (a := 0) (b := us.length) (n := us.length) (by rfl) (by k_asm) (by k_asm) (by assumption) (PySem.small_one (by decide) (by decide) (by lia) (by lia)) (rangeSize_nat _) (by rw [sizeLine_eq]; lia) ?_
      intro g'
      refine compRest_inv (J := fun i ys nw => nw = (fl, lstO us n') :: (_, oc) :: news ∧ PtsIn news ys ((sortP ps).reverse.take i)) ?_ ?_ us.length 0 [] _ (Nat.zero_add _) ⟨rfl, .nil⟩
      · rintro ys nw ⟨rfl, hys⟩
        rw [List.take_of_length_le (by simp; lia)] at hys
        unfold LCg.FinA
        intro D h₃ tk₃ F5 N5 o5
        have hyl := hys.length
        rw [List.length_reverse] at hyl
        k_steps
        unfold StopW
        rename Fr _ _ _ _ => F8
        rename News _ _ _ _ => N8
        have hu1 := ‹PtsIn news _ (lowP (sortP ps))›
        have hu2 := ‹PtsIn news _ (lowP (sortP ps).reverse)›
        have l1 := lowP_pos (ps := sortP ps) (by lia)
        have l2 := lowP_pos (ps := (sortP ps).reverse) (by simp; lia)
        rw [← hu1.length] at l1
        rw [← hu2.length] at l2
        have lt8 := fun p (hp : p ∈ news) => Heap.lt_size (N8 p (.tail _ (.tail _ (.tail _ (.tail _ (.tail _ (.tail _ (.tail _ (.tail _ hp))))))))).1
        refine add_arrays (hsz := ?hsz) F8 N8 ⟨_, (N8 _ (.tail _ (.head _))).1, rfl, _, rfl⟩ ⟨_, (N8 _ (.head _)).1, rfl, _, rfl⟩ ?_
        case hsz => rw [pick_upto l1, pick_upto l2, sizeLine_eq]; simp; lia
        intro h9 F9 N9
        k_steps
        have c1 : (sortP ps).length < 2 → False := by rw [sortP_length]; lia
        refine hret _ _ _ _ _ ?_ ?_ lt8 (by assumption) (newsCut8 (by assumption))
        · rw [pick_upto l1, pick_upto l2, hullP, if_neg c1, List.dropLast_eq_take, List.dropLast_eq_take, ← hu1.length, ← hu2.length]
          exact (hu1.take _).append (hu2.take _)
        · rw [pick_upto l1, pick_upto l2]; simp; lia
      · rintro i v I oI C oC D m₂ h₂ tk₂ E' ys nw hi ⟨rfl, hys⟩ ⟨t, rfl⟩ hC hx F4 N4 off ne
        k_steps
        unfold StopW
        refine LCg.CompEnd.intro (by assumption) (by assumption) ((fl, lstO us n') :: (_, oc) :: news) (fun p hp => hp) off trivial ⟨rfl, ?_⟩
        have hG := ‹(sortP ps)[((us.length : Int) - 1 - (0 + (i : Int))).toNat]? = some _›
        have hr := (List.getElem?_reverse (l := sortP ps) (i := i) (by lia)).trans ((congrArg (fun z => (sortP ps)[z]?) (by lia : (sortP ps).length - 1 - i = ((us.length : Int) - 1 - (0 + (i : Int))).toNat)).trans hG)
        rw [List.take_add_one, hr]
        exact hys.snoc (by assumption)
end
end Mine
end

section
namespace Mine
/-! the plain mathematics of the hull -/
noncomputable def phi (a : Pt) : Int := 40 * a.1 + a.2
noncomputable def mid (a b r : Pt) : Int := (r.1 - a.1) * (b.1 - r.1) + (r.2 - a.2) * (b.2 - r.2)
theorem phi_lt {a b : Pt} (ha : Small a) (hb : Small b) : ltP a b = true ↔ phi a < phi b := by
  obtain ⟨a1, a2⟩ := a; obtain ⟨b1, b2⟩ := b
  simp only [Small, ltP, phi, Bool.or_eq_true, Bool.and_eq_true, decide_eq_true_eq, beq_iff_eq] at *
  lia
theorem phi_inj {a b : Pt} (ha : Small a) (hb : Small b) (h : phi a = phi b) : a = b := by
  obtain ⟨a1, a2⟩ := a; obtain ⟨b1, b2⟩ := b
  simp only [Small, phi, Prod.mk.injEq] at *
  lia
theorem turn_cyc (a b c : Pt) : turn a b c = turn b c a := by simp only [turn]; grind
theorem turn_swap (a b c : Pt) : turn a c b = - turn a b c := by simp only [turn]; grind
/-- the four-point law -/
theorem four (o a b c : Pt) : (phi a - phi o) * turn o b c + (phi b - phi o) * turn o c a + (phi c - phi o) * turn o a b = 0 := by simp only [turn, phi]; grind
theorem pos_of_mul {x y : Int} (hx : 0 < x) (h : 0 < x * y) : 0 < y := by
  rcases Int.lt_or_le 0 y with h1 | h1
  · exact h1
  · have := Int.mul_nonpos_of_nonneg_of_nonpos (Int.le_of_lt hx) h1; lia
theorem nn_of_mul {x y : Int} (hx : 0 < x) (h : 0 ≤ x * y) : 0 ≤ y := by
  rcases Int.lt_or_le y 0 with h1 | h1
  · have := Int.mul_neg_of_pos_of_neg hx h1; lia
  · exact h1
/-- a left turn carries over to the corner ahead -/
theorem carry {x a c p : Pt} (h1 : phi x < phi a) (h2 : phi a < phi c) (h3 : phi c < phi p) (t1 : 0 < turn x a c) (t2 : 0 < turn a c p) : 0 < turn x a p := by
  have e : (phi c - phi a) * turn x a p = (phi a - phi x) * turn a c p + (phi p - phi a) * turn x a c := by simp only [turn, phi]; grind
  refine pos_of_mul (x := phi c - phi a) (by lia) ?_
  have := Int.mul_pos (show 0 < phi a - phi x by lia) t2
  have := Int.mul_pos (show 0 < phi p - phi a by lia) t1
  lia
theorem popA {b a r p : Pt} (h1 : phi b < phi a) (h2 : phi a ≤ phi r) (h3 : phi r < phi p) (t1 : turn b a p ≤ 0) (t2 : 0 ≤ turn a p r) : 0 ≤ turn b p r := by
  have e : (phi p - phi a) * turn b p r = (phi p - phi b) * turn a p r + (phi p - phi r) * (- turn b a p) := by simp only [turn, phi]; grind
  refine nn_of_mul (x := phi p - phi a) (by lia) ?_
  have := Int.mul_nonneg (show 0 ≤ phi p - phi b by lia) t2
  have := Int.mul_nonneg (show 0 ≤ phi p - phi r by lia) (show 0 ≤ - turn b a p by lia)
  lia
theorem popB {b a r p : Pt} (h1 : phi b ≤ phi r) (h2 : phi b < phi a) (h3 : phi a < phi p) (t1 : turn b a p ≤ 0) (t2 : 0 ≤ turn b a r) : 0 ≤ turn b p r := by
  have e : (phi a - phi b) * turn b p r = (phi p - phi b) * turn b a r + (phi r - phi b) * (- turn b a p) := by simp only [turn, phi]; grind
  refine nn_of_mul (x := phi a - phi b) (by lia) ?_
  have := Int.mul_nonneg (show 0 ≤ phi p - phi b by lia) t2
  have := Int.mul_nonneg (show 0 ≤ phi r - phi b by lia) (show 0 ≤ - turn b a p by lia)
  lia
theorem stay {b a r p : Pt} (h1 : phi r < phi a) (h2 : phi b < phi a) (h3 : phi a < phi p) (t1 : 0 < turn b a p) (t2 : 0 ≤ turn b a r) : 0 < turn a p r := by
  have e : (phi a - phi b) * turn a p r = (phi p - phi a) * turn b a r + (phi a - phi r) * turn b a p := by simp only [turn, phi]; grind
  refine pos_of_mul (x := phi a - phi b) (by lia) ?_
  have := Int.mul_nonneg (show 0 ≤ phi p - phi a by lia) t2
  have := Int.mul_pos (show 0 < phi a - phi r by lia) t1
  lia
theorem sq_nn (x : Int) : 0 ≤ x * x := by
  rcases Int.le_total 0 x with h | h
  · exact Int.mul_nonneg h h
  · exact Int.mul_nonneg_of_nonpos_of_nonpos h h
/-- on the line and between by phi: between -/
theorem mid_of_phi {a b r : Pt} (t : turn a b r = 0) (h1 : phi a ≤ phi r) (h2 : phi r ≤ phi b) (h3 : phi a < phi b) : 0 ≤ mid a b r := by
  have e : (phi b - phi a) * (phi b - phi a) * mid a b r = far a b * ((phi r - phi a) * (phi b - phi r)) := by
    simp only [turn, phi, far, mid] at *; grind
  refine nn_of_mul (x := (phi b - phi a) * (phi b - phi a)) (Int.mul_pos (by lia) (by lia)) ?_
  rw [e]
  refine Int.mul_nonneg ?_ (Int.mul_nonneg (by lia) (by lia))
  have := sq_nn (b.1 - a.1)
  have := sq_nn (b.2 - a.2)
  simp only [far]; lia
theorem far_pos {a b : Pt} (h : a ≠ b) : 0 < far a b := by
  have h1 := sq_nn (b.1 - a.1)
  have h2 := sq_nn (b.2 - a.2)
  simp only [far]
  by_cases e1 : b.1 - a.1 = 0
  · by_cases e2 : b.2 - a.2 = 0
    · exact absurd (Prod.ext (by lia) (by lia)) h
    · have : (b.2 - a.2) * (b.2 - a.2) ≠ 0 := Int.mul_ne_zero e2 e2
      omega
  · have : (b.1 - a.1) * (b.1 - a.1) ≠ 0 := Int.mul_ne_zero e1 e1
    omega
/-- on the line and between: not outside by phi -/
theorem phi_of_mid {a b r : Pt} (t : turn a b r = 0) (h : 0 ≤ mid a b r) (h1 : phi r < phi a) (h2 : phi r < phi b) : False := by
  have e : (phi b - phi a) * (phi b - phi a) * mid a b r = far a b * ((phi r - phi a) * (phi b - phi r)) := by
    simp only [turn, phi, far, mid] at *; grind
  have hab : a = b ∨ a ≠ b := Decidable.em _
  rcases hab with rfl | hne
  · have e2 : mid a a r = - far a r := by simp only [mid, far]; grind
    have := far_pos (a := a) (b := r) (fun e => by subst e; lia)
    lia
  · have hf := far_pos hne
    have := Int.mul_nonneg (sq_nn (phi b - phi a)) h
    have h4 := Int.mul_neg_of_neg_of_pos (show phi r - phi a < 0 by lia) (show 0 < phi b - phi r by lia)
    have := Int.mul_neg_of_pos_of_neg hf h4
    lia
/-- an edge of the hull of ps -/
structure Edge (ps : List Pt) (a b : Pt) : Prop where
  l : a ∈ ps
  r : b ∈ ps
  ne : a ≠ b
  all : ∀ r ∈ ps, 0 < turn a b r ∨ (turn a b r = 0 ∧ 0 ≤ mid a b r)
theorem turn_neg {a b r : Pt} (h : 0 < turn a b r ∨ (turn a b r = 0 ∧ 0 ≤ mid a b r)) : 0 ≤ turn a b r := by lia
theorem mid_both {a b c : Pt} (h1 : 0 ≤ mid a b c) (h2 : 0 ≤ mid a c b) : b = c := by
  have e : mid a b c + mid a c b = - far b c := by simp only [mid, far]; grind
  rcases Decidable.em (b = c) with h | h
  · exact h
  · have := far_pos h; lia
theorem mid_symm (a b c : Pt) : mid a b c = mid b a c := by simp only [mid]; grind
theorem Edge.succ {ps : List Pt} {a b c : Pt} (h : Edge ps a b) (k : Edge ps a c) : b = c := by
  have h1 := h.all c k.r
  have h2 := k.all b h.r
  rw [turn_swap] at h2
  rcases h1 with h1 | ⟨h1, m1⟩
  · lia
  · exact mid_both m1 (by lia)
theorem Edge.pred {ps : List Pt} {a b c : Pt} (h : Edge ps a c) (k : Edge ps b c) : a = b := by
  have h1 := h.all b k.l
  have h2 := k.all a h.l
  have e : turn b c a = - turn a c b := by simp only [turn]; grind
  rw [e] at h2
  rcases h1 with h1 | ⟨h1, m1⟩
  · lia
  · rw [mid_symm] at m1
    refine mid_both m1 ?_
    rw [mid_symm]; lia
theorem Edge.nearer {ps : List Pt} {a b r : Pt} (h : Edge ps a b) (hr : r ∈ ps) (hne : r ≠ b) : 0 < turn a b r ∨ (turn a b r = 0 ∧ far a r < far a b) := by
  rcases h.all r hr with h1 | ⟨h1, m⟩
  · exact .inl h1
  · refine .inr ⟨h1, ?_⟩
    have e : far a b = far a r + far r b + 2 * mid a b r := by simp only [far, mid]; grind
    have := far_pos hne
    lia
end Mine
end

section
namespace Mine
noncomputable def Ed (a b q : Pt) : Prop := 0 < turn a b q ∨ (turn a b q = 0 ∧ phi a ≤ phi q ∧ phi q ≤ phi b)
/-- what holds of the corners kept, over the points seen -/
noncomputable def LowInv (pre : List Pt) : List Pt → Prop
  | [] => False
  | [a] => a ∈ pre ∧ ∀ r ∈ pre, phi a ≤ phi r
  | b :: a :: r => b ∈ pre ∧ phi a < phi b ∧ (∀ q ∈ pre, Ed a b q) ∧ (∀ c r', r = c :: r' → 0 < turn c a b) ∧ LowInv pre (a :: r)
theorem turn_self (a p : Pt) : turn a p a = 0 := by simp only [turn]; grind
theorem turn_self2 (a p : Pt) : turn a p p = 0 := by simp only [turn]; grind
theorem low_ext {pre : List Pt} {p : Pt} : ∀ {r : List Pt} {a b : Pt}, LowInv pre (b :: a :: r) → 0 < turn a b p → phi b < phi p → LowInv (pre ++ [p]) (b :: a :: r)
  | r, a, b, h, t, hp => by
    obtain ⟨h1, h2, h3, h4, h5⟩ := h
    refine ⟨by simp [h1], h2, ?_, h4, ?_⟩
    · intro q hq
      rcases List.mem_append.mp hq with hq | hq
      · exact h3 q hq
      · obtain rfl := List.mem_singleton.mp hq
        exact .inl t
    · match r, h4, h5 with
      | [], _, h5 =>
        refine ⟨by simp [h5.1], fun q hq => ?_⟩
        rcases List.mem_append.mp hq with hq | hq
        · exact h5.2 q hq
        · obtain rfl := List.mem_singleton.mp hq
          lia
      | c :: r', h4, h5 =>
        have h6 := h5.2.1
        exact low_ext h5 (carry h6 h2 hp (h4 c r' rfl) t) (by lia)
theorem low_pop {pre : List Pt} {p : Pt} (hp : ∀ q ∈ pre, phi q < phi p) : ∀ {st : List Pt} {t : Pt}, LowInv pre (t :: st) → (∀ q ∈ pre, phi t ≤ phi q → 0 ≤ turn t p q) → LowInv (pre ++ [p]) (p :: popR p (t :: st))
  | [], a, h, ht => by
    obtain ⟨h1, h2⟩ := h
    refine ⟨by simp, hp a h1, ?_, (fun c r' e => nomatch e), by simp [h1], ?_⟩
    · intro q hq
      rcases List.mem_append.mp hq with hq | hq
      · have := ht q hq (h2 q hq)
        have := hp q hq
        have := h2 q hq
        unfold Ed; lia
      · obtain rfl := List.mem_singleton.mp hq
        have := hp a h1
        exact .inr ⟨turn_self2 _ _, by lia, by lia⟩
    · intro q hq
      rcases List.mem_append.mp hq with hq | hq
      · exact h2 q hq
      · obtain rfl := List.mem_singleton.mp hq
        have := hp a h1
        lia
  | a :: r, b, h, ht => by
    have h' := h
    obtain ⟨h1, h2, h3, h4, h5⟩ := h
    rw [popR]
    by_cases e : turn a b p ≤ 0
    · rw [if_pos e]
      refine low_pop hp h5 fun q hq hqa => ?_
      by_cases hb : phi b ≤ phi q
      · exact popA h2 hb (hp q hq) e (ht q hq hb)
      · refine popB hqa h2 (hp b h1) e ?_
        have := h3 q hq
        unfold Ed at this; lia
    · rw [if_neg e]
      have e' : 0 < turn a b p := by lia
      refine ⟨by simp, hp b h1, ?_, ?_, low_ext h' e' (hp b h1)⟩
      · intro q hq
        rcases List.mem_append.mp hq with hq | hq
        · by_cases hb : phi b ≤ phi q
          · have := ht q hq hb
            have := hp q hq
            unfold Ed; lia
          · refine .inl (stay (by lia) h2 (hp b h1) e' ?_)
            have := h3 q hq
            unfold Ed at this; lia
        · obtain rfl := List.mem_singleton.mp hq
          have := hp b h1
          exact .inr ⟨turn_self2 _ _, by lia, by lia⟩
      · intro c r' ec
        obtain ⟨rfl, rfl⟩ := List.cons.inj ec
        exact e'
theorem halfR_snoc (pre : List Pt) (p : Pt) : halfR (pre ++ [p]) = p :: popR p (halfR pre) := by simp [halfR, List.foldl_append]
theorem lastD_split {l : List Pt} (h : l ≠ []) : l = l.dropLast ++ [l.getLastD (0, 0)] := by
  rw [List.getLastD_eq_getLast?, List.getLast?_eq_some_getLast h]
  exact (List.dropLast_concat_getLast h).symm
noncomputable def PSort (row : List Pt) : Prop := row.Pairwise fun a b => phi a < phi b
theorem low_inv : ∀ row : List Pt, PSort row → row ≠ [] → LowInv row (halfR row) ∧ ∃ st, halfR row = row.getLastD (0, 0) :: st := by
  refine sortP_rev (fun _ h => absurd rfl h) fun pre p ih hs _ => ?_
  rw [halfR_snoc]
  refine ⟨?_, popR p (halfR pre), by simp⟩
  have hs' := List.pairwise_append.mp hs
  match pre, ih, hs' with
  | [], _, _ => exact ⟨by simp, by simp⟩
  | x :: pre, ih, hs' =>
    obtain ⟨h1, st, h2⟩ := ih hs'.1 (by simp)
    rw [h2] at h1 ⊢
    refine low_pop (fun q hq => hs'.2.2 q hq p (by simp)) h1 fun q hq hle => ?_
    have : q = (x :: pre).getLastD (0, 0) := by
      have hl := lastD_split (l := x :: pre) (by simp)
      rw [hl] at hq
      rcases List.mem_append.mp hq with hq | hq
      · have h3 := hs'.1
        unfold PSort at h3
        rw [hl] at h3
        have := (List.pairwise_append.mp h3).2.2 q hq _ (List.mem_singleton.mpr rfl)
        lia
      · exact List.mem_singleton.mp hq
    rw [this, turn_self]
    exact Int.le_refl _
/-- a stands right ahead of b in l -/
noncomputable def Adj (l : List Pt) (a b : Pt) : Prop := ∃ u v, l = u ++ a :: b :: v
theorem low_adj {pre : List Pt} : ∀ {u v : List Pt} {a b : Pt}, LowInv pre (u ++ b :: a :: v) → phi a < phi b ∧ ∀ q ∈ pre, Ed a b q
  | [], v, a, b, h => ⟨h.2.1, h.2.2.1⟩
  | [x], v, a, b, h => low_adj (u := []) (v := v) h.2.2.2.2
  | x :: y :: u, v, a, b, h => low_adj (u := y :: u) (v := v) h.2.2.2.2
theorem low_mem {pre : List Pt} : ∀ {st : List Pt}, LowInv pre st → ∀ q ∈ st, q ∈ pre
  | [a], h, q, hq => by obtain rfl := List.mem_singleton.mp hq; exact h.1
  | b :: a :: r, h, q, hq => by
    rcases List.mem_cons.mp hq with rfl | hq
    · exact h.1
    · exact low_mem h.2.2.2.2 q hq
theorem low_last {pre : List Pt} : ∀ {st : List Pt}, LowInv pre st → ∃ u a, st = u ++ [a] ∧ a ∈ pre ∧ ∀ r ∈ pre, phi a ≤ phi r
  | [a], h => ⟨[], a, rfl, h.1, h.2⟩
  | b :: a :: r, h => by
    obtain ⟨u, x, e, h1⟩ := low_last h.2.2.2.2
    exact ⟨b :: u, x, by rw [e]; rfl, h1⟩
theorem Adj.rev {l : List Pt} {a b : Pt} (h : Adj l.reverse a b) : Adj l b a := by
  obtain ⟨u, v, e⟩ := h
  exact ⟨v.reverse, u.reverse, by rw [← List.reverse_reverse l, e]; simp⟩
/-- all that holds of the lower half -/
structure LowF (row low : List Pt) : Prop where
  head : ∃ y l, low = y :: l ∧ y ∈ row ∧ ∀ r ∈ row, phi y ≤ phi r
  last : ∃ l z, low = l ++ [z] ∧ z ∈ row ∧ ∀ r ∈ row, phi r ≤ phi z
  mem : ∀ q ∈ low, q ∈ row
  adj : ∀ a b, Adj low a b → phi a < phi b ∧ ∀ q ∈ row, 0 < turn a b q ∨ (turn a b q = 0 ∧ 0 ≤ mid a b q)
theorem lowF {row : List Pt} (hs : PSort row) (hne : row ≠ []) : LowF row (lowP row) := by
  obtain ⟨h, st, e⟩ := low_inv row hs hne
  refine ⟨?_, ?_, ?_, ?_⟩
  · obtain ⟨u, a, e2, h1, h2⟩ := low_last h
    exact ⟨a, u.reverse, by simp [lowP, e2], h1, h2⟩
  · refine ⟨st.reverse, row.getLastD (0, 0), by simp [lowP, e], ?_, ?_⟩
    · refine low_mem h _ ?_
      rw [e]; simp
    · intro r hr
      have hl := lastD_split hne
      rw [hl] at hr
      rcases List.mem_append.mp hr with hr | hr
      · have h3 := hs
        unfold PSort at h3
        rw [hl] at h3
        have := (List.pairwise_append.mp h3).2.2 r hr _ (List.mem_singleton.mpr rfl)
        lia
      · rw [List.mem_singleton.mp hr]; exact Int.le_refl _
  · intro q hq
    exact low_mem h q (List.mem_reverse.mp hq)
  · intro a b hab
    obtain ⟨u, v, e2⟩ := Adj.rev (l := halfR row) hab
    rw [e2] at h
    obtain ⟨h1, h2⟩ := low_adj h
    refine ⟨h1, fun q hq => ?_⟩
    rcases h2 q hq with h3 | ⟨h3, h4, h5⟩
    · exact .inl h3
    · exact .inr ⟨h3, mid_of_phi h3 h4 h5 h1⟩
end Mine
end

section
namespace Mine
noncomputable def nu (p : Pt) : Pt := (-p.1, -p.2)
theorem nu_nu (p : Pt) : nu (nu p) = p := by obtain ⟨a, b⟩ := p; simp [nu]
theorem nu_inj {p q : Pt} (h : nu p = nu q) : p = q := by rw [← nu_nu p, h, nu_nu]
theorem phi_nu (p : Pt) : phi (nu p) = - phi p := by simp only [phi, nu]; lia
theorem turn_nu (a b c : Pt) : turn (nu a) (nu b) (nu c) = turn a b c := by simp only [turn, nu]; grind
theorem mid_nu (a b c : Pt) : mid (nu a) (nu b) (nu c) = mid a b c := by simp only [mid, nu]; grind
theorem popR_nu (p : Pt) : ∀ st : List Pt, popR (nu p) (st.map nu) = (popR p st).map nu
  | [] => rfl
  | [_] => rfl
  | b :: a :: r => by
    have ih := popR_nu p (a :: r)
    simp only [List.map_cons] at *
    rw [popR, popR, turn_nu]
    split
    · exact ih
    · rfl
theorem halfR_nu : ∀ row : List Pt, halfR (row.map nu) = (halfR row).map nu := by
  refine sortP_rev rfl fun ps p ih => ?_
  rw [List.map_append, List.map_singleton, halfR_snoc, halfR_snoc, ih, popR_nu]
  rfl
theorem lowP_nu (row : List Pt) : lowP (row.map nu) = (lowP row).map nu := by
  unfold lowP
  rw [halfR_nu, List.map_reverse]
noncomputable def hiR (row : List Pt) : List Pt := row.reverse.map nu
theorem hiR_sort {row : List Pt} (h : PSort row) : PSort (hiR row) := by
  unfold PSort hiR at *
  rw [List.pairwise_map, List.pairwise_reverse]
  exact h.imp fun {a b} hab => by rw [phi_nu, phi_nu]; lia
theorem hiR_mem {row : List Pt} {q : Pt} : nu q ∈ hiR row ↔ q ∈ row := by
  unfold hiR
  rw [List.mem_map]
  constructor
  · rintro ⟨a, h, e⟩
    rw [← nu_inj e]; exact List.mem_reverse.mp h
  · exact fun h => ⟨q, List.mem_reverse.mpr h, rfl⟩
theorem Adj.map {l : List Pt} {a b : Pt} (h : Adj l a b) : Adj (l.map nu) (nu a) (nu b) := by
  obtain ⟨u, v, rfl⟩ := h
  exact ⟨u.map nu, v.map nu, by simp⟩
structure HighF (row high : List Pt) : Prop where
  head : ∃ z l, high = z :: l ∧ z ∈ row ∧ ∀ r ∈ row, phi r ≤ phi z
  last : ∃ l y, high = l ++ [y] ∧ y ∈ row ∧ ∀ r ∈ row, phi y ≤ phi r
  mem : ∀ q ∈ high, q ∈ row
  adj : ∀ a b, Adj high a b → phi b < phi a ∧ ∀ q ∈ row, 0 < turn a b q ∨ (turn a b q = 0 ∧ 0 ≤ mid a b q)
theorem highF {row : List Pt} (hs : PSort row) (hne : row ≠ []) : HighF row (lowP row.reverse) := by
  have hne' : hiR row ≠ [] := by simpa [hiR] using hne
  have h := lowF (hiR_sort hs) hne'
  have e : lowP (hiR row) = (lowP row.reverse).map nu := lowP_nu _
  rw [e] at h
  refine ⟨?_, ?_, ?_, ?_⟩
  · obtain ⟨y, l, e1, h1, h2⟩ := h.head
    obtain ⟨y', l', e2, rfl, rfl⟩ := List.map_eq_cons_iff.mp e1
    refine ⟨y', l', e2, hiR_mem.mp h1, fun r hr => ?_⟩
    have := h2 (nu r) (hiR_mem.mpr hr)
    rw [phi_nu, phi_nu] at this; lia
  · obtain ⟨l, z, e1, h1, h2⟩ := h.last
    obtain ⟨l1, l2, e2, rfl, e3⟩ := List.map_eq_append_iff.mp e1
    obtain ⟨z', l3, rfl, rfl, e4⟩ := List.map_eq_cons_iff.mp e3
    obtain rfl := List.map_eq_nil_iff.mp e4
    refine ⟨l1, z', e2, hiR_mem.mp h1, fun r hr => ?_⟩
    have := h2 (nu r) (hiR_mem.mpr hr)
    rw [phi_nu, phi_nu] at this; lia
  · intro q hq
    exact hiR_mem.mp (h.mem _ (List.mem_map_of_mem hq))
  · intro a b hab
    obtain ⟨h1, h2⟩ := h.adj _ _ hab.map
    rw [phi_nu, phi_nu] at h1
    refine ⟨by lia, fun q hq => ?_⟩
    have := h2 (nu q) (hiR_mem.mpr hq)
    rwa [turn_nu, mid_nu] at this
theorem adj_find {x : Int} : ∀ {l : List Pt} {y z : Pt}, phi y ≤ x → x < phi z → ∃ a b, Adj (y :: (l ++ [z])) a b ∧ phi a ≤ x ∧ x < phi b
  | [], y, z, h1, h2 => ⟨y, z, ⟨[], [], rfl⟩, h1, h2⟩
  | c :: l, y, z, h1, h2 => by
    by_cases h : phi c ≤ x
    · obtain ⟨a, b, ⟨u, v, e⟩, h3⟩ := adj_find (l := l) h h2
      refine ⟨a, b, ⟨y :: u, v, ?_⟩, h3⟩
      show y :: (c :: (l ++ [z])) = _
      rw [e]; rfl
    · exact ⟨y, c, ⟨[], l ++ [z], rfl⟩, h1, by lia⟩
theorem Adj.left {l : List Pt} {a b : Pt} (h : Adj l a b) : a ∈ l.dropLast := by
  obtain ⟨u, v, rfl⟩ := h
  rw [List.dropLast_append_of_ne_nil (by simp), List.dropLast_cons_of_ne_nil (by simp)]
  simp
theorem low_complete {row low : List Pt} (h : LowF row low) (hsm : ∀ r ∈ row, Small r) {p b : Pt} (hp : p ∈ row) (hb : b ∈ row) (hlt : phi p < phi b)
    (hall : ∀ r ∈ row, 0 < turn p b r ∨ (turn p b r = 0 ∧ 0 ≤ mid p b r)) : p ∈ low.dropLast := by
  obtain ⟨y, l, e1, hy, hmin⟩ := h.head
  obtain ⟨l', z, e2, hz, hmax⟩ := h.last
  have h1 := hmin p hp
  have h2 := hmax b hb
  have e3 : ∃ m, low = y :: (m ++ [z]) := by
    rcases l' with _ | ⟨c, m⟩
    · rw [e1] at e2
      obtain ⟨rfl, rfl⟩ := List.cons.inj e2
      lia
    · rw [e1] at e2
      obtain ⟨rfl, rfl⟩ := List.cons.inj e2
      exact ⟨m, e1⟩
  obtain ⟨m, e3⟩ := e3
  obtain ⟨c, d, hcd, h3, h4⟩ := adj_find (l := m) (z := z) h1 (show phi p < phi z by lia)
  rw [← e3] at hcd
  have hc : c ∈ row := h.mem c (List.dropLast_subset _ hcd.left)
  obtain ⟨u, v, e4⟩ := hcd
  have hd : d ∈ row := h.mem d (by rw [e4]; simp)
  have hcd : Adj low c d := ⟨u, v, e4⟩
  by_cases e5 : phi c = phi p
  · rw [← phi_inj (hsm c hc) (hsm p hp) e5]
    exact hcd.left
  exfalso
  have t1 := turn_neg ((h.adj c d hcd).2 p hp)
  have t2 : 0 < turn p b c := by
    rcases hall c hc with t | ⟨t, t'⟩
    · exact t
    · exact (phi_of_mid t t' (by lia) (by lia)).elim
  have t3 := turn_neg (hall d hd)
  have id := four p b c d
  rw [turn_cyc p c d, turn_swap p b d] at id
  have := Int.mul_nonneg (show 0 ≤ phi b - phi p by lia) t1
  have := Int.mul_nonneg_of_nonpos_of_nonpos (show phi c - phi p ≤ 0 by lia) (show - turn p b d ≤ 0 by lia)
  have := Int.mul_pos (show 0 < phi d - phi p by lia) t2
  lia
end Mine
end

section
namespace Mine
theorem Adj.split {z : Pt} : ∀ {u v : List Pt} {a b : Pt}, Adj (u ++ z :: v) a b → Adj (u ++ [z]) a b ∨ Adj (z :: v) a b
  | [], v, a, b, h => .inr h
  | c :: u, v, a, b, ⟨p, q, e⟩ => by
    rcases p with _ | ⟨x, p⟩
    · rcases u with _ | ⟨d, u⟩
      · simp only [List.nil_append, List.cons_append, List.cons.injEq] at e
        obtain ⟨rfl, rfl, rfl⟩ := e
        exact .inl ⟨[], [], rfl⟩
      · simp only [List.nil_append, List.cons_append, List.cons.injEq] at e
        obtain ⟨rfl, rfl, rfl⟩ := e
        exact .inl ⟨[], u ++ [z], rfl⟩
    · simp only [List.cons_append, List.cons.injEq] at e
      obtain ⟨rfl, e⟩ := e
      rcases Adj.split (u := u) (v := v) (z := z) ⟨p, q, e⟩ with ⟨s, t, h⟩ | h
      · exact .inl ⟨c :: s, t, by show c :: (u ++ [z]) = _; rw [h]; rfl⟩
      · exact .inr h
theorem Adj.cons {x : Pt} {l : List Pt} {a b : Pt} (h : Adj l a b) : Adj (x :: l) a b := by
  obtain ⟨u, v, rfl⟩ := h
  exact ⟨x :: u, v, rfl⟩
theorem adj_pair (f : Pt → Int) : ∀ {l : List Pt}, (∀ a b, Adj l a b → f a < f b) → l.Pairwise fun a b => f a < f b
  | [], _ => .nil
  | [a], _ => by simp
  | a :: b :: r, h => by
    have ih := adj_pair f (l := b :: r) fun c d hcd => h c d hcd.cons
    have h1 := h a b ⟨[], r, rfl⟩
    refine List.pairwise_cons.mpr ⟨fun c hc => ?_, ih⟩
    rcases List.mem_cons.mp hc with rfl | hc
    · exact h1
    · have := (List.pairwise_cons.mp ih).1 c hc
      lia
theorem adj_of : ∀ {l : List Pt} {q : Pt}, q ∈ l.dropLast → ∃ c, Adj l q c
  | [], q, h => by simp at h
  | [a], q, h => by simp at h
  | a :: b :: r, q, h => by
    rw [List.dropLast_cons_of_ne_nil (by simp)] at h
    rcases List.mem_cons.mp h with rfl | h
    · exact ⟨b, [], r, rfl⟩
    · obtain ⟨c, hc⟩ := adj_of h
      exact ⟨c, hc.cons⟩
/-- h is the ring of the corners of ps -/
structure Ring (ps h : List Pt) : Prop where
  nodup : h.Nodup
  mem : ∀ q ∈ h, q ∈ ps
  first : ∃ y t, h = y :: t ∧ ∀ r ∈ ps, phi y ≤ phi r
  adj : ∀ a b, Adj (h ++ h.take 1) a b → Edge ps a b
  all : ∀ a b, Edge ps a b → a ∈ h
theorem sort_phi {ps : List Pt} (hn : ps.Nodup) (hs : ∀ r ∈ ps, Small r) : PSort (sortP ps) := by
  refine (sortP_sorted ps hn).imp_of_mem fun {a b} ha hb h => ?_
  exact (phi_lt (hs a ((sortP_mem ps).mp ha)) (hs b ((sortP_mem ps).mp hb))).mp h
theorem ring {ps : List Pt} (hn : ps.Nodup) (hs : ∀ r ∈ ps, Small r) (h2 : 2 ≤ ps.length) : Ring ps (hullP ps) := by
  have hso := sort_phi hn hs
  have hm : ∀ q, q ∈ sortP ps ↔ q ∈ ps := fun q => sortP_mem ps
  have hl := sortP_length ps
  rw [hullP, if_neg (by lia)]
  generalize sortP ps = row at *
  have hne : row ≠ [] := by intro e; subst e; simp at hl; lia
  have hsr : ∀ r ∈ row, Small r := fun r hr => hs r ((hm r).mp hr)
  have L := lowF hso hne
  have H := highF hso hne
  have HN : LowF (hiR row) ((lowP row.reverse).map nu) := by
    have := lowF (hiR_sort hso) (show hiR row ≠ [] by simpa [hiR] using hne)
    rwa [show lowP (hiR row) = (lowP row.reverse).map nu from lowP_nu _] at this
  generalize lowP row = low at *
  generalize lowP row.reverse = high at *
  obtain ⟨y, l1, e1, hy, hmin⟩ := L.head
  obtain ⟨l2, z, e2, hz, hmax⟩ := L.last
  obtain ⟨z', k1, e3, hz', hmax'⟩ := H.head
  obtain ⟨k2, y', e4, hy', hmin'⟩ := H.last
  have hyy : y' = y := phi_inj (hsr _ hy') (hsr _ hy) (by have := hmin y' hy'; have := hmin' y hy; lia)
  have hzz : z' = z := phi_inj (hsr _ hz') (hsr _ hz) (by have := hmax z' hz'; have := hmax' z hz; lia)
  subst hyy; subst hzz
  have hyz : phi y' < phi z' := by
    match row, hl, hso, hmin, hmax with
    | [], hl, _, _, _ => simp at hl; lia
    | [_], hl, _, _, _ => simp at hl; lia
    | a :: b :: r, _, hso, hmin, hmax =>
      have := (List.pairwise_cons.mp hso).1 b (by simp)
      have := hmin a (by simp)
      have := hmax b (by simp)
      lia
  obtain ⟨m, e5⟩ : ∃ m, l2 = y' :: m := by
    rcases l2 with _ | ⟨c, m⟩
    · rw [e1] at e2
      obtain ⟨rfl, rfl⟩ := List.cons.inj e2
      lia
    · rw [e1] at e2
      obtain ⟨rfl, rfl⟩ := List.cons.inj e2
      exact ⟨m, rfl⟩
  obtain ⟨k, e6⟩ : ∃ k, k2 = z' :: k := by
    rcases k2 with _ | ⟨c, m⟩
    · rw [e3] at e4
      obtain ⟨rfl, rfl⟩ := List.cons.inj e4
      lia
    · rw [e3] at e4
      obtain ⟨rfl, rfl⟩ := List.cons.inj e4
      exact ⟨m, rfl⟩
  subst e5; subst e6
  have d1 : low.dropLast = y' :: m := by rw [e2]; exact List.dropLast_concat
  have d2 : high.dropLast = z' :: k := by rw [e4]; exact List.dropLast_concat
  have EL : ∀ a b, Adj low a b → Edge ps a b := fun a b h => by
    have h' := L.adj a b h
    obtain ⟨u, v, e⟩ := h
    refine ⟨(hm _).mp (L.mem _ (by rw [e]; simp)), (hm _).mp (L.mem _ (by rw [e]; simp)), ?_, fun r hr => h'.2 r ((hm r).mpr hr)⟩
    rintro rfl
    have := h'.1
    lia
  have EH : ∀ a b, Adj high a b → Edge ps a b := fun a b h => by
    have h' := H.adj a b h
    obtain ⟨u, v, e⟩ := h
    refine ⟨(hm _).mp (H.mem _ (by rw [e]; simp)), (hm _).mp (H.mem _ (by rw [e]; simp)), ?_, fun r hr => h'.2 r ((hm r).mpr hr)⟩
    rintro rfl
    have := h'.1
    lia
  have PL := adj_pair phi fun a b h => (L.adj a b h).1
  have PH := adj_pair (fun p => - phi p) fun a b h => by have := (H.adj a b h).1; lia
  refine ⟨?_, ?_, ?_, ?_, ?_⟩
  · refine List.nodup_append.mpr ⟨?_, ?_, ?_⟩
    · exact ((PL.sublist (List.dropLast_sublist _)).imp fun {a b} h e => by subst e; lia)
    · exact ((PH.sublist (List.dropLast_sublist _)).imp fun {a b} h e => by subst e; lia)
    · rintro a ha b hb rfl
      obtain ⟨c, hc⟩ := adj_of ha
      obtain ⟨d, hd⟩ := adj_of hb
      have e := (EL _ _ hc).succ (EH _ _ hd)
      subst e
      have := (L.adj _ _ hc).1
      have := (H.adj _ _ hd).1
      lia
  · intro q hq
    rcases List.mem_append.mp hq with hq | hq
    · exact (hm q).mp (L.mem _ (List.dropLast_subset _ hq))
    · exact (hm q).mp (H.mem _ (List.dropLast_subset _ hq))
  · exact ⟨y', m ++ high.dropLast, by rw [d1]; rfl, fun r hr => hmin r ((hm r).mpr hr)⟩
  · intro a b h
    rw [d1, d2] at h
    have h : Adj ((y' :: m) ++ z' :: (k ++ [y'])) a b := by simpa using h
    rcases h.split with h | h
    · exact EL a b (by rw [e2]; exact h)
    · exact EH a b (by rw [e4]; exact h)
  · intro a b h
    rcases Int.lt_trichotomy (phi a) (phi b) with hab | hab | hab
    · exact List.mem_append.mpr (.inl (low_complete L hsr ((hm _).mpr h.l) ((hm _).mpr h.r) hab fun r hr => h.all r ((hm r).mp hr)))
    · exact absurd (phi_inj (hs _ h.l) (hs _ h.r) hab) h.ne
    · refine List.mem_append.mpr (.inr ?_)
      have := low_complete (p := nu a) (b := nu b) HN (fun r hr => ?_) (hiR_mem.mpr ((hm _).mpr h.l)) (hiR_mem.mpr ((hm _).mpr h.r)) (by rw [phi_nu, phi_nu]; lia) fun r hr => ?_
      · rw [← List.map_dropLast] at this
        obtain ⟨c, h1, h2⟩ := List.mem_map.mp this
        rwa [← nu_inj h2]
      · rw [← nu_nu r] at hr ⊢
        have := hsr _ (hiR_mem.mp hr)
        simp only [Small, nu] at *
        lia
      · rw [← nu_nu r] at hr ⊢
        rw [turn_nu, mid_nu]
        exact h.all _ ((hm _).mp (hiR_mem.mp hr))
end Mine
end

section
open PySem PySem.SeqAt PySem.Challenge PySem.W PySem.Spec PySem.Calls PyProof.Rows
namespace Mine
noncomputable abbrev rngO (n : Nat) (t u v : Tok) : Obj := { cls := .type "range", dict := none, data := .fields #[.int 0 t, .int (n : Int) u, .int 1 v], slots := #[] }
noncomputable abbrev ritO (a n : Int) : Obj := { cls := .type "range_iterator", dict := none, data := .fields #[rawInt a, rawInt n, rawInt 1], slots := #[] }
section
variable {prog : Program} {w : World} {A : Around} {E : Value → Shared → Prop} {s : Shared} {h₀ : Heap} {L : Addr} {m : Str → Option Value} {news : List (Addr × Obj)} {r : Addr} {n : Nat} {t u v : Tok}
theorem iter_rng {Q : Value → Shared → Prop} (F : Fr h₀ L s.heap m) (N : News h₀ L s.heap news) (hr : (r, rngO n t u v) ∈ news) (hn : n ≤ 1000)
    (h : ∀ (I : Addr) h', Fr h₀ L h' m → News h₀ L h' ((I, ritO 0 (n : Int)) :: news) → (∀ p ∈ news, p.1 < I) → Q (.ref I) { s with heap := h' }) :
    wpAny (model prog w) A (call (.builtin "iter") [.ref r]) Q E s := by
  refine call_function_entry (by decide +kernel) (by decide +kernel) kdk_entry_iter (kdk_args_iter _) ?_
  unfold Builtin.«iter»
  refine wpAny_bind (m := someArgs "iter" 1 2 _) (wpAny_of_eq (a := [Value.ref r]) (by first | rfl | kernel_rfl!) ?_)
  show wpAny _ _ (pyIter (.ref r) >>= _) _ _ _
  refine wpAny_bind (wpAny_pyIter_range (N _ hr).1 (PySem.small_one (by decide) (by decide) (by omega) (by omega)) ?_)
  refine wpAny_pure ⟨_, rfl, h _ _ (F.push _) ?_ (fun q hq => Heap.lt_size (N q hq).1)⟩
  have e := rangeSize_nat n
  rw [e]
  exact News.push F N _ rfl
end
section
variable {prog : Program} {w : World} {A : Around} {E : Value → Shared → Prop} {s : Shared} {env : Env} {h₀ : Heap} {x : Str} {body : List Stmt} {Q : Flow → Shared → Prop}
theorem loop_rng {I : Addr} {a : Int} {n : Nat} {m₀ : Str → Option Value} {nw₀ : List (Addr × Obj)} (J : Nat → (Str → Option Value) → List (Addr × Obj) → Prop)
    (hh : A.handled = none) (st : IsRangeIter s.heap I a (n : Int) 1) (hI0 : h₀.get? I = none) (hIL : env.locals ≠ I) (off : ∀ p ∈ nw₀, p.1 ≠ I) (F : Fr h₀ env.locals s.heap m₀) (N : News h₀ env.locals s.heap nw₀) (hj : J 0 m₀ nw₀)
    (turn : ∀ i t m₁ nw h tk oI, i < n → J i m₁ nw → (∀ p ∈ nw, p.1 ≠ I) → oI.cls = .type "range_iterator" → Fr h₀ env.locals h (fun y => if y = x then some (.int (a + (i : Int)) t) else m₁ y) → News h₀ env.locals h ((I, oI) :: nw) →
      wpAny (model prog w) A (execs body env) (ForEnd h₀ env.locals I oI (J (i + 1)) { s with heap := h, toks := tk } Q) E { s with heap := h, toks := tk })
    (done : ∀ m₁ nw h tk, J n m₁ nw → Fr h₀ env.locals h m₁ → News h₀ env.locals h nw → Q .next { s with heap := h, toks := tk }) :
    LoopAtV prog w A h₀ env x body Q E (.ref I) s := by
  refine ⟨_, _, _, n, _, _, m₀, nw₀, J, rfl, LCg.range_walks (I := I) hh a n, ?_, ?_, ?_, by simpa using st, F, N, hj, ?_, ?_⟩
  · intro hm; exact hIL (List.mem_singleton.mp hm)
  · intro b hb; rw [List.mem_singleton.mp hb]; exact hI0
  · intro p hp hI; exact off p hp (List.mem_singleton.mp hI)
  · rintro i v m₁ nw s₁ own ⟨h₁, tk₁, rfl⟩ hin ⟨t, rfl⟩ hJi hoff hown hget hall hst F₁ N₁
    have hmemI := hall I (by simp) hI0 _ hst
    have N₂ : News h₀ env.locals h₁ ((I, ritO (a + ((i + 1 : Nat) : Int) * 1) ((n : Int) - ((i + 1 : Nat) : Int))) :: nw) := fun p hp => by
      rcases List.mem_cons.mp hp with rfl | hp
      · exact N₁ _ (List.mem_append_left _ hmemI)
      · exact N₁ _ (List.mem_append_right _ hp)
    have offI : ∀ p ∈ nw, p.1 ≠ I := fun p hp e => hoff p hp (by simp [e])
    refine wpAny_mono (turn i t m₁ nw h₁ tk₁ _ hin hJi offI rfl F₁ N₂) (fun f s₂ p => ?_) fun _ _ e => e
    have fin : (∃ h' tk m' nw', s₂ = { s with heap := h', toks := tk } ∧ Fr h₀ env.locals h' m' ∧ News h₀ env.locals h' ((I, ritO (a + ((i + 1 : Nat) : Int) * 1) ((n : Int) - ((i + 1 : Nat) : Int))) :: nw') ∧ (∀ p ∈ nw', p.1 ≠ I) ∧ J (i + 1) m' nw') →
        LoopStepU h₀ env.locals [I] own (J (i + 1)) { s with heap := h₁, toks := tk₁ } .next s₂ := by
      rintro ⟨h', tk, m', nw', rfl, F', N', off', hj'⟩
      refine ⟨rfl, h', tk, m', nw', rfl, F', fun p hp => ?_, fun p hp hq => off' p hp (List.mem_singleton.mp hq), hj'⟩
      rcases List.mem_append.mp hp with hp | hp
      · have h1 := List.mem_singleton.mp (hown p hp)
        have h2 := hget p hp
        have e3 : p = (I, ritO (a + ((i + 1 : Nat) : Int) * 1) ((n : Int) - ((i + 1 : Nat) : Int))) := Prod.ext h1 (Option.some.inj ((h1 ▸ h2).symm.trans hst))
        rw [e3]; exact N' _ (.head _)
      · exact N' _ (List.mem_cons_of_mem _ hp)
    cases f with
    | ret v => exact .ret p
    | brk => exact .brk p
    | next => exact .next (fin p)
    | cont => exact .cont (fin p)
  · rintro h' tk m' nw' F' N' _ hJn
    exact done m' nw' h' tk hJn F' N'
end
section
variable {w : World} {mean : ExcName → Option Value} {mg mb : Str → Option Value} {news : List (Addr × Obj)} {cn : Str} {sn : List (Str × NameKind)} {sg sc : Bool} {sm : List (Str × Const)} {a : Addr} {ccd : Value} {cl : List (Str × Addr)} {outer : List Env} {A₀ : Around} {base h₀ : Heap} {L : Addr} {m : Str → Option Value} {s : Shared} {Q : Value → Shared → Prop} {E : Value → Shared → Prop}
/-- what the function given to reduce answers: over the ledger, at any frame of the level 8 -/
noncomputable def FnRed (w : World) (pn : List (Addr × Obj)) (f : Addr) (n : Nat) (acc : Nat → Int) : Prop :=
  ∀ {mean : ExcName → Option Value} {mg mb : Str → Option Value} {news : List (Addr × Obj)} {cn : Str} {sn : List (Str × NameKind)} {sg sc : Bool} {sm : List (Str × Const)} {a : Addr} {ccd : Value} {cl : List (Str × Addr)} {outer : List Env} {A₀ : Around} {base h₀ : Heap} {L : Addr} {m : Str → Option Value} {s : Shared} {Q : Value → Shared → Prop} {E : Value → Shared → Prop} {i : Nat} {t t2 : Tok},
    Below A₀ base outer h₀ → Fr h₀ L s.heap m → (Mine.hd.heap_39 w.params).In h₀ → News h₀ L s.heap news → Top topProg LoB mean mg mb h₀ → (∀ q ∈ pn, q ∈ news) → i < n →
    (∀ (t : Tok) (h' : Heap) (tk' : Nat), Fr h₀ L h' m → News h₀ L h' news → Q (.int (acc (i + 1)) t) { s with heap := h', toks := tk' }) →
    wpAny (model rw_xi0007_01.prog w) (kTop 8 cn sn sg sc sm L a ccd cl outer) (call (.ref f) [.int (acc i) t, .int (i : Int) t2]) Q E s
theorem regM9a : True := by
  k_with_none
  k_with "call builtin:iter" => ((k_here; refine' iter_rng (by (k_asm)) (by (k_asm)) (by (assumption)) (by (lia)) ?_; intro IZq hZq FZq NZq l1Zq))
  trivial
theorem regM9b : True := by
  k_with "memK" => (first | assumption | exact List.Mem.head _ | (refine List.Mem.tail _ ?_; k_memK))
  k_with "callWith ref" => ((k_here; k_dflt (refine' callWith_F (by (exact FnAt.of (by k_asm) (by k_memK))) ?_; k_whole)))
  k_with "FnAt" => ((k_dflt (exact FnAt.of (by k_asm) (by k_memK))))
  k_with "compareOp Is int ref" => ((k_here; refine wpAny_is_other (by rfl) (by intro xZ; cases xZ) ?_))
  k_with "pyIter ref" => ((k_here; refine stopW ?_))
  k_with "call ref" => ((k_here; refine stopW ?_))
  k_with "exec For Name Name cons nil" => ((k_here; refine stopW ?_))
  trivial
set_option maxRecDepth 100000 in
set_option maxHeartbeats 8000000 in
theorem reduce_call {fc : Value} {fo : Option Addr} {fd : FuncData} {fs : Array (Option Value)} {r f : Addr} {n : Nat} {acc : Nat → Int} {t₀ u₀ v₀ t : Tok}
    (B : Below A₀ base outer h₀) (F : Fr h₀ L s.heap m) (K : (Mine.hd.heap_39 w.params).In h₀) (N : News h₀ L s.heap news) (T : Top topProg LoB mean mg mb h₀)
    (hr : (r, rngO n t₀ u₀ v₀) ∈ news) (hn : n ≤ 100) (hfo : (f, (⟨fc, fo, .func fd, fs⟩ : Obj)) ∈ news) (hf : FnRed w news f n acc)
    (hret : ∀ (t : Tok) (h' : Heap) (tk' : Nat), Fr h₀ L h' m → News h₀ L h' news → Q (.int (acc n) t) { s with heap := h', toks := tk' }) :
    wpAny (model rw_xi0007_01.prog w) (kTop 7 cn sn sg sc sm L a ccd cl outer) (call (.ref 30) [.ref f, .ref r, .int (acc 0) t]) Q E s := by
  revert K; k_fill; intro K
  refine wpAny_call ?_
  k_enter
  k_steps
  unfold StopW
  (rename Fr _ _ _ _ => F1); (rename News _ _ _ _ => N1)
  refine For_invVF F1 rfl rfl ?_
  k_steps
  unfold StopW
  obtain ⟨I, hI⟩ := nameHead N1
  subst hI
  have lt1 : ∀ p ∈ news, p.1 < I := by assumption
  have hne1 : ∀ p ∈ news, p.1 ≠ I := fun p hp => Nat.ne_of_lt (lt1 p hp)
  have z := N1 _ (.head _)
  refine wpAny_pyIter_rangeiter (by simpa using z.1) ?_
  refine loop_rng (n := n) (a := 0) (fun i m nw => nw = news ∧ ∃ t, m (Str.ofString "value") = some (.int (acc i) t) ∧ m (Str.ofString "function") = some (.ref f)) rfl (by simpa using z.1) z.2.2 (Ne.symm z.2.1) hne1 F1 (newsSub N1 fun q hq => .tail _ hq)
    ⟨rfl, _, by with_unfolding_all rfl, by with_unfolding_all rfl⟩ ?_ ?_
  · clear F1 N1
    rintro i t m₁ nw h tk oI hi ⟨rfl, t2, hm1, hm2⟩ offI hcI F2 N2
    have F3 := named [(Str.ofString "element", .int (0 + (i : Int)) t), (Str.ofString "value", .int (acc i) t2), (Str.ofString "function", .ref f)] F2 (by
      intro p hp
      simp only [List.mem_cons, List.not_mem_nil, or_false] at hp
      rcases hp with rfl | rfl | rfl
      · with_unfolding_all rfl
      · with_unfolding_all exact hm1
      · with_unfolding_all exact hm2)
    clear F2
    k_steps
    unfold StopW
    refine' around 8 _ _ _ _ _ _ _ _ _ _ ?hA ?hh ?hd ?hu ?_
    (case hA => exact rfl); (case hh => exact rfl); (case hd => exact Nat.le_of_ble_eq_true rfl); (case hu => exact Nat.le_of_ble_eq_true rfl)
    rw [Int.zero_add]
    refine' hf ?B ?F ?K ?N ?T ?hsub hi ?_
    (case B => k_asm); (case F => k_asm); (case K => k_asm); (case N => k_asm); (case T => k_asm); (case hsub => exact fun q hq => .tail _ hq)
    intro t' h' tk' F7 N7
    k_steps
    exact ⟨_, _, _, nw, rfl, by assumption, by assumption, hne1, rfl, _, by with_unfolding_all rfl, by with_unfolding_all rfl⟩
  · rintro m₁ nw h tk ⟨rfl, t2, hm1, hm2⟩ F2 N2
    have F3 := named [(Str.ofString "value", .int (acc n) t2)] F2 (by
      intro p hp
      simp only [List.mem_cons, List.not_mem_nil, or_false] at hp
      rcases hp with rfl
      with_unfolding_all exact hm1)
    clear F2
    k_steps
    exact hret _ _ _ (by assumption) (by assumption)
end
end Mine
end

section
open PySem PySem.SeqAt PySem.Challenge PySem.W PySem.Spec PySem.Calls PyProof.Rows
namespace Mine
/-- a code table: empty, or with the one code of the qualified name q at (ln, co) -/
noncomputable def TabQ (ln co : Nat) (q : Str) (tb : Array Value) (nw : List (Addr × Obj)) : Prop :=
  tb = #[] ∨ ∃ (c' : Addr) (oc : Obj) (fs : Array Value) (t : Tok), (c', oc) ∈ nw ∧ tb = #[rawInt ((ln : Nat) : Int), rawInt ((co : Nat) : Int), .ref c'] ∧ oc.data = .fields fs ∧ fs[1]? = some (.str q t)
section
variable {M : Model} {A : Around} {E : Value → Shared → Prop} {s : Shared} {h₀ : Heap} {L a c : Addr} {m mg mb : Str → Option Value} {cn : Str} {cs : Scope} {ccd : Value} {cl : List (Str × Addr)} {led : List (Addr × Obj)}
  {p : Program} {loose : List Str} {mean : ExcName → Option Value} {name : Str} {params : Arguments} {body : PySem.Expr} {scope : Scope} {tb : Array Value} {pos : Pos} {firstLine : Nat} {clos : List (Str × Addr)}
/-- the lambda made: its code is new, or there -/
theorem lam_gen {P0 ln co : Nat} {q : Str} {Q : Value → Shared → Prop} (F : Fr h₀ L s.heap m) (N : News h₀ L s.heap ((P0, tabObj tb) :: led)) (T : Top p loose mean mg mb h₀) (C : CodeHd h₀ c P0) (hcd : ccd = .ref c) {led0 : List (Addr × Obj)} (hT : TabQ ln co q tb led0) (h0 : ∀ z ∈ led0, z ∈ led) (hne : ∀ p ∈ led, p.1 ≠ P0) (hl : pos.line = ln) (hc : pos.col = co)
    (hcl : closureFor scope (envX cn cs L a ccd cl) = pure clos)
    (h : ∀ f c' oc fs t ctv h' tk, Fr h₀ L h' m →
      News h₀ L h' ((f, kla_obj name q params body scope clos ((mg "__name__").getD .none) c' ctv) :: (c', oc) :: (P0, tabObj (#[rawInt ((ln : Nat) : Int), rawInt ((co : Nat) : Int), .ref c'])) :: led) →
      oc.data = .fields fs → fs[1]? = some (.str q t) → (∀ z ∈ (P0, tabObj (#[rawInt ((ln : Nat) : Int), rawInt ((co : Nat) : Int), .ref c'])) :: led, z.1 ≠ f) → ((c', oc) ∈ led0 ∨ ∀ z ∈ (P0, tabObj (#[rawInt ((ln : Nat) : Int), rawInt ((co : Nat) : Int), .ref c'])) :: led, z.1 ≠ c') → c' ≠ f → c' ≠ P0 → Q (.ref f) { s with heap := h', toks := tk }) :
    wpAny M A (makeFunction name q params (.expr body) scope (envX cn cs L a ccd cl) [] [] [] pos firstLine) Q E s := by
  rcases hT with rfl | ⟨c', oc, fs, t, h1, rfl, h2, h3⟩
  · refine kla_nest F N T C hcd (g := fun o => (P0, o) :: led) (UpdF.head fun p hp => (hne p hp)) trivial rfl hcl fun f c' oc vs t ctv h' tk F' N' d1 d2 l1 l2 => ?_
    have e : (#[] : Array Value) ++ #[rawInt pos.line, rawInt pos.col, .ref c'] = #[rawInt ((ln : Nat) : Int), rawInt ((co : Nat) : Int), .ref c'] := by rw [hl, hc]; rfl
    rw [e] at N'
    have l3 : ∀ z ∈ (P0, tabObj (#[rawInt ((ln : Nat) : Int), rawInt ((co : Nat) : Int), .ref c'])) :: led, z.1 < c' := fun z hz => by
      rcases List.mem_cons.mp hz with rfl | hz
      · exact l1 (P0, tabObj #[]) (.head _)
      · exact l1 z (.tail _ hz)
    exact h f c' oc vs t ctv h' tk F' N' d1 d2 (fun z hz => Nat.ne_of_lt (Nat.lt_trans (l3 z hz) l2)) (.inr fun z hz => Nat.ne_of_lt (l3 z hz)) (Nat.ne_of_lt l2) (Nat.ne_of_gt (l1 (P0, tabObj #[]) (.head _)))
  · refine kla_hit F N T C hcd (.head _) trivial (c' := c') ?_ hcl fun f ctv h' tk F' N' l1 => ?_
    · simp only [codeAmong, rawInt, hl, hc]
      simp
    · refine h f c' oc fs t ctv h' tk F' (newsSub N' fun z hz => ?_) h2 h3 (fun z hz => Nat.ne_of_lt (l1 z hz)) (.inl h1) (Nat.ne_of_lt (l1 _ (.tail _ (h0 _ h1)))) (hne (c', oc) (h0 _ h1))
      rcases List.mem_cons.mp hz with rfl | hz
      · exact .head _
      rcases List.mem_cons.mp hz with rfl | hz
      · exact .tail _ (.tail _ (h0 _ h1))
      · exact .tail _ hz
end
end Mine
end

section
open PySem PySem.SeqAt PySem.Challenge PySem.W PySem.Spec PySem.Calls PyProof.Rows
namespace Mine
noncomputable def wrapI (n : Nat) (k : Int) : Nat := if k < 0 then (k + (n : Int)).toNat else k.toNat
noncomputable def ptAt (ps : List Pt) (k : Int) : Pt := ps.getD (wrapI ps.length k) (0, 0)
/-- twice the area, as _law_size adds it up -/
noncomputable def sizeAcc (ps : List Pt) : Nat → Int
  | 0 => 0
  | i + 1 => sizeAcc ps i + ((ptAt ps ((i : Int) - 1)).1 * (ptAt ps (i : Int)).2 - (ptAt ps ((i : Int) - 1)).2 * (ptAt ps (i : Int)).1)
noncomputable def sizeP (ps : List Pt) : Int := sizeAcc ps ps.length
noncomputable abbrev qualS : Str := (Str.ofString "_law_size" ++ Str.ofString ".<locals>.") ++ Str.ofString "<lambda>"
/-- the table of the codes in _law_size: empty, or with the lambda's -/
noncomputable abbrev TabS (tb : Array Value) (nw : List (Addr × Obj)) : Prop := TabQ 108 18 qualS tb nw
theorem frLs {g h : Heap} {L : Addr} {m : Str → Option Value} (_ : Fr g L h m) : ∃ x, x = L := ⟨_, rfl⟩
theorem newsDrop5 {h₀ h : Heap} {L : Addr} {a b c d e : Addr × Obj} {news nw : List (Addr × Obj)} (N : News h₀ L h (a :: b :: c :: d :: e :: (news ++ nw))) : News h₀ L h nw :=
  newsSub N fun q hq => .tail _ (.tail _ (.tail _ (.tail _ (.tail _ (List.mem_append_right _ hq)))))
theorem newsSz0 {h₀ h : Heap} {L : Addr} {a b c d e : Addr × Obj} {news : List (Addr × Obj)} (N : News h₀ L h (a :: b :: c :: d :: e :: news)) : News h₀ L h (e :: c :: news) :=
  newsSub N fun q hq => by
    rcases List.mem_cons.mp hq with rfl | hq
    · exact .tail _ (.tail _ (.tail _ (.tail _ (.head _))))
    rcases List.mem_cons.mp hq with rfl | hq
    · exact .tail _ (.tail _ (.head _))
    exact .tail _ (.tail _ (.tail _ (.tail _ (.tail _ hq))))
theorem newsSz1 {h₀ h : Heap} {L : Addr} {a b c d e : Addr × Obj} {news : List (Addr × Obj)} (N : News h₀ L h (a :: b :: c :: d :: e :: news)) : News h₀ L h (d :: news) :=
  newsSub N fun q hq => by
    rcases List.mem_cons.mp hq with rfl | hq
    · exact .tail _ (.tail _ (.tail _ (.head _)))
    exact .tail _ (.tail _ (.tail _ (.tail _ (.tail _ hq))))
theorem newsPlus {h₀ h : Heap} {L : Addr} {pn news : List (Addr × Obj)} (N : News h₀ L h news) (hs : ∀ q ∈ pn, q ∈ news) : News h₀ L h (pn ++ news) :=
  newsSub N fun q hq => (List.mem_append.mp hq).elim (hs q) id
section
variable {prog : Program} {w : World} {A : Around} {E : Value → Shared → Prop} {s : Shared} {h₀ : Heap} {L : Addr} {m : Str → Option Value} {news nw : List (Addr × Obj)} {l : Addr} {vs : List Value} {ps : List Pt} {n : Nat}
theorem range_own {u : Tok} {Q : Value → Shared → Prop} (F : Fr h₀ L s.heap m) (N : News h₀ L s.heap news)
    (h : ∀ (r : Addr) h' tk t u v, Fr h₀ L h' m → News h₀ L h' ((r, rngO n t u v) :: news) → (∀ p ∈ news, p.1 < r) → Q (.ref r) { s with heap := h', toks := tk }) :
    wpAny (model prog w) A (call (.type "range") [.int (n : Int) u]) Q E s :=
  range1_rows F N fun h' tk t₁ u₁ v₁ hr F' N' hk => h _ h' tk t₁ u₁ v₁ F' (fun p hp => by
    rcases List.mem_cons.mp hp with rfl | hp
    · exact ⟨hr, Ne.symm (Nat.ne_of_lt F.ns.lt), next_is_new F⟩
    · exact N' p hp) fun p hp => Heap.lt_size (N p hp).1
theorem pt_item_any {value slice : PySem.Expr} {k : Int} {u : Tok} {Q : Value → Shared → Prop} (N : News h₀ L s.heap nw) (hl : (l, lstO vs n) ∈ nw) (hp : PtsIn news vs ps) (hf : vs.length ≤ 1000)
    (h0 : -(ps.length : Int) ≤ k) (h1 : k < (ps.length : Int))
    (hs : subscripted slice false (.ref l) (.int k u) = operate [.ref l, .int k u] (getItem (.ref l) (.int k u)))
    (h : ∀ a, PtIn news (.ref a) (ptAt ps k) → Q (.ref a) s) :
    wpAny (model prog w) A (subscriptTail value slice (.ref l) (.int k u)) Q E s := by
  have hlen := hp.length
  have hw : wrapI ps.length k < ps.length := by unfold wrapI; split <;> lia
  have hq : ps[wrapI ps.length k]? = some (ptAt ps k) := by
    unfold ptAt; rw [List.getD_eq_getElem?_getD, List.getElem?_eq_getElem hw]; rfl
  obtain ⟨v, hv, a, t1, t2, m, rfl, hm⟩ := hp.get _ _ hq
  have hl' := isList_lst N hl
  by_cases hk : k < 0
  · rw [wrapI, if_pos hk] at hv
    exact tail_any hl'.typeIs slot_list_getitem.lookup (wpAny_getItem_list_neg hl' hk (by simp; lia) (by lia) (by simpa [hlen] using hv) (h a ⟨a, t1, t2, m, rfl, hm⟩)) hs
  · rw [wrapI, if_neg hk] at hv
    exact item_litK hl' (by lia) (by lia) hv (h a ⟨a, t1, t2, m, rfl, hm⟩) hs
theorem pt_part {value slice : PySem.Expr} {a : Addr} {p : Pt} {k : Int} {u : Tok} {Q : Value → Shared → Prop} (N : News h₀ L s.heap news) (hp : PtIn nw (.ref a) p) (hsub : ∀ q ∈ nw, q ∈ news) (hk : k = 0 ∨ k = 1)
    (hs : subscripted slice false (.ref a) (.int k u) = operate [.ref a, .int k u] (getItem (.ref a) (.int k u))) (h : ∀ t z, (k = 0 → z = p.1) → (k = 1 → z = p.2) → -8 ≤ z → z ≤ 8 → Q (.int z t) s) :
    wpAny (model prog w) A (subscriptTail value slice (.ref a) (.int k u)) Q E s := by
  obtain ⟨_, t1, t2, m, e, hm, hs1, hs2, hs3, hs4⟩ := hp
  cases e
  have ht : IsTup s.heap a [Value.int p.1 t1, Value.int p.2 t2].toArray := ⟨_, (N _ (hsub _ hm)).1, rfl, _, rfl⟩
  rcases hk with rfl | rfl
  · exact item_tupleT (l := [.int p.1 t1, .int p.2 t2]) ht (by decide) (by decide) (j := 0) rfl rfl (h t1 p.1 (fun _ => rfl) (fun e => absurd e (by decide)) hs1 hs2) hs
  · exact item_tupleT (l := [.int p.1 t1, .int p.2 t2]) ht (by decide) (by decide) (j := 1) rfl rfl (h t2 p.2 (fun e => absurd e (by decide)) (fun _ => rfl) hs3 hs4) hs
end
section
variable {w : World} {mean : ExcName → Option Value} {mg mb : Str → Option Value} {news : List (Addr × Obj)} {cn : Str} {sn : List (Str × NameKind)} {sg sc : Bool} {sm : List (Str × Const)} {a : Addr} {ccd : Value} {cl : List (Str × Addr)} {outer : List Env} {A₀ : Around} {base h₀ : Heap} {L : Addr} {m : Str → Option Value} {s : Shared} {Q : Value → Shared → Prop} {E : Value → Shared → Prop}
theorem regM10a : True := by
  k_with_none
  k_with "memK" => (with_reducible (first | assumption | exact List.mem_append_left _ (by assumption) | exact List.mem_cons_self | (refine List.mem_cons_of_mem _ ?_; k_memK)))
  k_with "call builtin:len" => ((k_here; k_dflt (refine' len_lst (by (k_asm)) (by (k_memK)) (by (lia)) ?_; k_whole)))
  k_with "call type:range" => ((k_here; k_dflt (refine' range_own (by (k_asm)) (by (k_asm)) ?_); intro rZq hZq tkZq t1Zq u1Zq v1Zq FZq NZq l1Zq))
  trivial
theorem regM10b : True := by
  k_with "call ref" => ((k_here; first | (k_dflt (refine' mul_at (by exact rfl) (by exact rfl) (by exact Nat.le_of_ble_eq_true rfl) (by exact Nat.le_of_ble_eq_true rfl) (by lia) (by k_asm) (by k_asm) (by k_asm) (by k_asm) (by k_asm) ?_; k_whole); intro tMZ hMZ tkMZ FMZ NMZ) | (k_dflt (refine' sub_at (by exact rfl) (by exact rfl) (by exact Nat.le_of_ble_eq_true rfl) (by exact Nat.le_of_ble_eq_true rfl) (by k_asm) (by k_asm) (by k_asm) (by k_asm) (by k_asm) ?_; k_whole); intro tMZ hMZ tkMZ FMZ NMZ)))
  k_with "eval Lambda" => ((k_here; k_dflt (refine' kla_eval (by (exact rfl)) ?_); refine stopW ?_))
  k_with "call ref" => ((k_here; (with_reducible show wpAny _ _ (call (Value.ref _) [_, _, _]) _ _ _); refine stopW ?_))
  k_with "subscriptTail" => ((k_here; (with_reducible show wpAny _ _ (subscriptTail _ _ (Value.ref _) (Value.int _ _)) _ _ _); (first | (k_dflt (refine' pt_item_any (by (k_asm)) (by (k_memK)) (by (with_reducible assumption)) (by (lia)) (by (lia)) (by (lia)) (by (with_unfolding_all rfl)) ?_); intro iaZ hiPZ) | (k_dflt (refine' pt_part (by (k_asm)) (by (with_reducible assumption)) (by ((intro qZ hqZ; k_memK))) (by (first | exact Or.inl rfl | exact Or.inr rfl)) (by (with_unfolding_all rfl)) ?_); intro tiZ tzZ hz0Z hz1Z hzlZ hzrZ))))
  k_with "callWith ref" => ((k_here; k_dflt (refine' callWith_K (by (k_asm)) (by (k_is)) ?_; k_whole)))
  trivial
set_option maxRecDepth 100000 in
set_option maxHeartbeats 1600000 in
theorem size_call {tb : Array Value} {l : Addr} {vs : List Value} {ps : List Pt} {n : Nat}
    (B : Below A₀ base outer h₀) (F : Fr h₀ L s.heap m) (K : (Mine.hd.heap_39 w.params).In h₀) (N : News h₀ L s.heap ((95, tabObj tb) :: news)) (T : Top topProg LoB mean mg mb h₀)
    (htb : TabS tb news) (hne : ∀ p ∈ news, p.1 ≠ 95) (hl : (l, lstO vs n) ∈ news) (hp : PtsIn news vs ps) (hf : vs.length ≤ 20)
    (hret : ∀ (tb' : Array Value) (nw : List (Addr × Obj)) (t : Tok) (h' : Heap) (tk' : Nat), TabS tb' nw → (∀ q ∈ news, q ∈ nw) → (∀ p ∈ nw, p.1 ≠ 95) → Fr h₀ L h' m → News h₀ L h' ((95, tabObj tb') :: nw) → Q (.int (sizeP ps) t) { s with heap := h', toks := tk' }) :
    wpAny (model rw_xi0007_01.prog w) (kTop 6 cn sn sg sc sm L a ccd cl outer) (call (.ref 100) [.ref l]) Q E s := by
  have C0 : CodeHd h₀ 99 95 := codeHd_of_K K (by kernel_rfl)
  have hlen := hp.length
  revert K; k_fill; intro K
  refine wpAny_call ?_
  k_enter
  refine gen_qe ?_
  intro q9 gn9 dr9 os9 tk9 hgn9 hdr9 hos9 hq9
  rename Frag.In _ _ => X9
  have C9 := codeHd_of_K (c := 99) (P := 95) X9 (by kernel_rfl)
  k_steps
  unfold StopW
  (rename Fr _ _ _ _ => F1); (rename News _ _ _ _ => N1)
  obtain ⟨L1, hL1⟩ := frLs F1
  subst hL1
  rename Obj => oc0
  have hL95 := (‹95 < L1 ∧ _› : 95 < L1 ∧ AllLt L1 news).1
  have N2 : News _ _ _ ((95, tabObj tb) :: (L1 + 1, oc0) :: news) := newsPick N1 [1, 0] 2
  refine lam_gen (clos := [(Str.ofString "corners", L1 + 1)]) F1 N2 (by assumption) C9 rfl htb (fun z hz => .tail _ hz) ?_ rfl rfl (by kernel_rfl) ?_
  · intro p hp
    rcases List.mem_cons.mp hp with rfl | hp
    · exact Nat.ne_of_gt (Nat.lt_succ_of_lt hL95)
    · exact hne p hp
  intro f c' ocl fs tq ctv h5 tk5 F8 N8 d1 d2 nf hcc hcf hc95
  clear F1 N1 N2 nf hcc
  k_steps
  unfold StopW
  refine' around 7 _ _ _ _ _ _ _ _ _ _ ?hA ?hh ?hd ?hu ?_
  (case hA => exact rfl); (case hh => exact rfl); (case hd => exact Nat.le_of_ble_eq_true rfl); (case hu => exact Nat.le_of_ble_eq_true rfl)
  refine' reduce_call (n := vs.length) (acc := sizeAcc ps) ?B ?F ?K ?N ?T ?hr ?hn ?hfo ?fn ?ret
  (case B => k_asm); (case F => k_asm); (case K => k_asm); (case N => k_asm); (case T => k_asm); (case hr => k_memK); (case hn => lia)
  case hfo => k_memK
  case fn =>
    · unfold FnRed
      intro mean mg mb news9 cn sn sg sc sm a ccd cl outer A₀ base h₀ L m s Q E i t t2 B2 F2 K2 N2 T2 hsub hi hret2
      have N3 := newsPlus N2 hsub
      simp only [List.cons_append] at N3
      revert K2; k_fill; intro K2
      refine wpAny_call ?_
      kla_enter
      k_steps
      have e1 := (‹(0 : Int) = 0 → _ = (ptAt ps ((i : Int) - 1)).1›) rfl
      have e2 := (‹(1 : Int) = 1 → _ = (ptAt ps (i : Int)).2›) rfl
      have e3 := (‹(1 : Int) = 1 → _ = (ptAt ps ((i : Int) - 1)).2›) rfl
      have e4 := (‹(0 : Int) = 0 → _ = (ptAt ps (i : Int)).1›) rfl
      simp only [sizeAcc] at hret2
      rw [← e1, ← e2, ← e3, ← e4] at hret2
      exact hret2 _ _ _ (by assumption) (newsDrop5 (by assumption))
  case ret =>
    intro t h' tk' F9 N9
    k_steps
    subst hgn9 hdr9 hos9
    refine hq9 _ _ ?_
    k_steps
    (rename News _ _ _ _ => N10)
    rw [sizeP, ← hlen] at hret
    refine hret _ ((c', ocl) :: news) _ _ _ (.inr ⟨c', ocl, fs, tq, .head _, rfl, d1, d2⟩) (fun q hq => .tail _ hq) ?_ (by assumption) (newsPick N10 [3, 2] 5)
    intro p hp
    rcases List.mem_cons.mp hp with rfl | hp
    · exact hc95
    · exact hne p hp
end
end Mine
end

section
namespace Mine
theorem adj_idx {l : List Pt} {j : Nat} (h : j + 1 < l.length) : Adj l (l[j]'(by lia)) (l[j + 1]'h) :=
  ⟨l.take j, l.drop (j + 1 + 1), by rw [← List.drop_eq_getElem_cons, ← List.drop_eq_getElem_cons, List.take_append_drop]⟩
theorem ptAt_nat {h : List Pt} {i : Nat} (hi : i < h.length) : ptAt h (i : Int) = h[i]'hi := by
  unfold ptAt wrapI
  rw [if_neg (by lia), List.getD_eq_getElem?_getD]
  simp [hi]
theorem ptAt_last {h : List Pt} (hi : 0 < h.length) : ptAt h (-1) = h[h.length - 1]'(by lia) := by
  unfold ptAt wrapI
  rw [if_pos (by lia), List.getD_eq_getElem?_getD, show (-1 + (h.length : Int)).toNat = h.length - 1 by lia, List.getElem?_eq_getElem (by lia)]
  rfl
theorem ptAt_pre {h : List Pt} {i : Nat} (hi : i + 1 < h.length) : ptAt h (((i + 1 : Nat) : Int) - 1) = h[i]'(by lia) := by
  rw [show ((i + 1 : Nat) : Int) - 1 = (i : Int) by lia]
  exact ptAt_nat (by lia)
theorem Ring.at_ {ps h : List Pt} (R : Ring ps h) {i : Nat} (hi : i < h.length) : Edge ps (ptAt h ((i : Int) - 1)) (ptAt h (i : Int)) := by
  have hl : (h ++ h.take 1).length = h.length + 1 := by rw [List.length_append, List.length_take]; lia
  match i, hi with
  | 0, hi =>
    have := R.adj _ _ (adj_idx (l := h ++ h.take 1) (j := h.length - 1) (by lia))
    rw [show (((0 : Nat) : Int) - 1) = -1 by lia, ptAt_last hi, ptAt_nat hi]
    simpa [List.getElem_append, show h.length - 1 < h.length by lia, show ¬ h.length - 1 + 1 < h.length by lia, show h.length - 1 + 1 - h.length = 0 by lia] using this
  | i + 1, hi =>
    have := R.adj _ _ (adj_idx (l := h ++ h.take 1) (j := i) (by lia))
    rw [ptAt_pre hi, ptAt_nat hi]
    simpa [List.getElem_append, show i < h.length by lia, hi] using this
noncomputable def nxt (h : List Pt) (i : Nat) : Pt := h.getD (if i + 1 < h.length then i + 1 else 0) (0, 0)
theorem Ring.next {ps h : List Pt} (R : Ring ps h) {i : Nat} (hi : i < h.length) : Edge ps (h[i]'hi) (nxt h i) := by
  by_cases h1 : i + 1 < h.length
  · have := R.at_ h1
    rw [ptAt_pre h1, ptAt_nat h1] at this
    unfold nxt
    rw [if_pos h1, List.getD_eq_getElem?_getD, List.getElem?_eq_getElem h1]
    exact this
  · have := R.at_ (i := 0) (by lia)
    have e : i = h.length - 1 := by lia
    subst e
    rw [show (((0 : Nat) : Int) - 1) = -1 by lia, ptAt_last (by lia), ptAt_nat (by lia)] at this
    unfold nxt
    rw [if_neg h1, List.getD_eq_getElem?_getD, List.getElem?_eq_getElem (by lia)]
    exact this
theorem Ring.out {ps h : List Pt} (R : Ring ps h) {p : Pt} (hp : p ∈ h) : ∃ b, b ∈ h ∧ Edge ps p b := by
  obtain ⟨i, hi, rfl⟩ := List.mem_iff_getElem.mp hp
  refine ⟨nxt h i, ?_, R.next hi⟩
  unfold nxt
  rw [List.getD_eq_getElem?_getD]
  split
  · rename_i h1
    rw [List.getElem?_eq_getElem h1]; exact List.getElem_mem h1
  · rw [List.getElem?_eq_getElem (by lia)]; exact List.getElem_mem (by lia)
theorem Ring.edge_r {ps h : List Pt} (R : Ring ps h) {a b : Pt} (e : Edge ps a b) : b ∈ h := by
  obtain ⟨c, hc, e2⟩ := R.out (R.all a b e)
  rw [e.succ e2]; exact hc
/-! the walk by turns -/
noncomputable def cmpP (here one two : Pt) : Int := if turn here one two ≠ 0 then 0 - turn here one two else far here two - far here one
noncomputable def bestP (here : Pt) (b : Pt) : List Pt → Pt
  | [] => b
  | q :: r => bestP here (if cmpP here q b < 0 then q else b) r
theorem best_edge {ps : List Pt} {a s : Pt} (e : Edge ps a s) : ∀ {l : List Pt} {b : Pt}, (∀ q ∈ l, q ∈ ps) → b ∈ ps → (s = b ∨ s ∈ l) → bestP a b l = s
  | [], b, _, _, h => by
    rcases h with h | h
    · exact h.symm
    · cases h
  | q :: r, b, hl, hb, h => by
    have hq := hl q (by simp)
    have hr := fun x (hx : x ∈ r) => hl x (List.mem_cons_of_mem _ hx)
    rw [bestP]
    by_cases e1 : s = b
    · subst e1
      rw [if_neg ?_]
      · exact best_edge e hr hb (.inl rfl)
      · by_cases e2 : q = s
        · subst e2
          unfold cmpP
          rw [turn_self2]
          simp
        · have := e.nearer hq e2
          have e3 := turn_swap a s q
          unfold cmpP
          split <;> lia
    · by_cases e2 : s = q
      · subst e2
        rw [if_pos ?_]
        · exact best_edge e hr e.r (.inl rfl)
        · have := e.nearer hb (fun h => e1 h.symm)
          unfold cmpP
          split <;> lia
      · have hs : s ∈ r := by
          rcases h with h | h
          · exact absurd h e1
          · rcases List.mem_cons.mp h with h | h
            · exact absurd h e2
            · exact h
        refine best_edge e hr ?_ (.inr hs)
        split
        · exact hq
        · exact hb
/-! the size -/
noncomputable def cr (e : Pt × Pt) : Int := e.1.1 * e.2.2 - e.1.2 * e.2.1
noncomputable def turnAcc (h : List Pt) (o : Pt) : Nat → Int
  | 0 => 0
  | i + 1 => turnAcc h o i + turn o (ptAt h ((i : Int) - 1)) (ptAt h (i : Int))
theorem size_turn (h : List Pt) (o : Pt) : ∀ i : Nat, sizeAcc h i = turnAcc h o i + cr (o, ptAt h ((i : Int) - 1)) - cr (o, ptAt h (-1))
  | 0 => by
    rw [show (((0 : Nat) : Int) - 1) = -1 by lia, sizeAcc, turnAcc]; lia
  | i + 1 => by
    rw [sizeAcc, turnAcc, size_turn h o i, show (((i + 1 : Nat) : Int) - 1) = (i : Int) by lia]
    simp only [turn, cr]; grind
theorem size_eq (h : List Pt) (o : Pt) (hn : 0 < h.length) : sizeP h = turnAcc h o h.length := by
  unfold sizeP
  rw [size_turn h o h.length, show ptAt h ((h.length : Int) - 1) = ptAt h (-1) by
    rw [ptAt_last hn, show (h.length : Int) - 1 = ((h.length - 1 : Nat) : Int) by lia, ptAt_nat (by lia)]]
  lia
theorem turnAcc_nn {ps h : List Pt} {o : Pt} (R : Ring ps h) (ho : o ∈ ps) : ∀ i, i ≤ h.length → 0 ≤ turnAcc h o i
  | 0, _ => Int.le_refl _
  | i + 1, hi => by
    have := turnAcc_nn R ho i (by lia)
    have h2 := turn_neg ((R.at_ (i := i) (by lia)).all o ho)
    rw [← turn_cyc o] at h2
    rw [turnAcc]; lia
theorem turnAcc_mono {ps h : List Pt} {o : Pt} (R : Ring ps h) (ho : o ∈ ps) {j : Nat} : ∀ d, j + d ≤ h.length → turnAcc h o j ≤ turnAcc h o (j + d)
  | 0, _ => Int.le_refl _
  | d + 1, hi => by
    have := turnAcc_mono R ho (j := j) d (by lia)
    have h2 := turn_neg ((R.at_ (i := j + d) (by lia)).all o ho)
    rw [← turn_cyc o] at h2
    rw [show j + (d + 1) = (j + d) + 1 by lia, turnAcc]; lia
theorem Ring.pos {ps h : List Pt} (R : Ring ps h) : 0 < h.length := by
  obtain ⟨y, t, e, _⟩ := R.first
  rw [e]; simp
theorem Ring.size_nn {ps h : List Pt} (R : Ring ps h) : 0 ≤ sizeP h := by
  have hp := R.pos
  rw [size_eq h (h[0]'hp) hp]
  exact turnAcc_nn R (R.mem _ (List.getElem_mem hp)) _ (Nat.le_refl _)
theorem Ring.corner {ps h : List Pt} (R : Ring ps h) (h3 : 3 ≤ h.length) : 0 < turn (h[0]'(by lia)) (h[1]'(by lia)) (h[2]'(by lia)) := by
  have e1 := R.at_ (i := 1) (by lia)
  have e2 := R.at_ (i := 2) (by lia)
  rw [ptAt_pre (i := 0) (by lia), ptAt_nat (i := 1) (by lia)] at e1
  rw [ptAt_pre (i := 1) (by lia), ptAt_nat (i := 2) (by lia)] at e2
  rcases e1.all _ e2.r with t | ⟨t, m1⟩
  · exact t
  · rcases e2.all _ e1.l with t2 | ⟨t2, m2⟩
    · rw [← turn_cyc] at t2; lia
    · have hs : mid h[0] h[1] h[2] + mid h[1] h[2] h[0] = - far h[0] h[2] := by simp only [mid, far]; grind
      have hne : h[0] ≠ h[2] := fun e => by
        have := (List.getElem_inj R.nodup).mp e
        lia
      have := far_pos hne
      lia
theorem line_all {a b p q r : Pt} (hab : a ≠ b) (hp : turn a b p = 0) (hq : turn a b q = 0) (hr : turn a b r = 0) : turn p q r = 0 := by
  have e1 : (b.1 - a.1) * turn p q r = 0 := by simp only [turn] at *; grind
  have e2 : (b.2 - a.2) * turn p q r = 0 := by simp only [turn] at *; grind
  rcases Int.mul_eq_zero.mp e1 with h1 | h1
  · rcases Int.mul_eq_zero.mp e2 with h2 | h2
    · exact absurd (Prod.ext (by lia) (by lia)) hab
    · exact h2
  · exact h1
theorem Ring.size_zero {ps h : List Pt} (R : Ring ps h) : sizeP h = 0 ↔ ∀ p ∈ ps, ∀ q ∈ ps, ∀ r ∈ ps, turn p q r = 0 := by
  have hp := R.pos
  have h0 := R.mem _ (List.getElem_mem hp)
  constructor
  · intro hz
    by_cases h3 : 3 ≤ h.length
    · exfalso
      have hc := R.corner h3
      rw [size_eq h (h[0]'hp) hp] at hz
      have h2 := turnAcc_nn R h0 2 (by lia)
      have hm := turnAcc_mono R h0 (j := 3) (h.length - 3) (by lia)
      rw [show 3 + (h.length - 3) = h.length by lia] at hm
      rw [show turnAcc h h[0] 3 = turnAcc h h[0] 2 + turn h[0] (ptAt h (((1 + 1 : Nat) : Int) - 1)) (ptAt h ((2 : Nat) : Int)) from rfl, ptAt_pre (by lia), ptAt_nat (by lia)] at hm
      lia
    · have hnx := R.next (i := 0) hp
      have h2 : h.length = 2 := by
        rcases Nat.lt_or_ge h.length 2 with h2 | h2
        · exact absurd (by unfold nxt; rw [if_neg (by lia), List.getD_eq_getElem?_getD, List.getElem?_eq_getElem hp]; rfl) hnx.ne
        · lia
      have e1 := R.at_ (i := 0) (by lia)
      have e2 := R.at_ (i := 1) (by lia)
      rw [ptAt_pre (i := 0) (by lia), ptAt_nat (i := 1) (by lia)] at e2
      rw [show (((0 : Nat) : Int) - 1) = -1 by lia, ptAt_last hp, ptAt_nat (i := 0) (by lia)] at e1
      simp only [h2, Nat.reduceSub] at e1
      intro p hp q hq r hr
      have hz : ∀ x ∈ ps, turn h[0] h[1] x = 0 := fun x hx => by
        have t1 := turn_neg (e1.all x hx)
        have t2 := turn_neg (e2.all x hx)
        have : turn h[1] h[0] x = - turn h[0] h[1] x := by simp only [turn]; grind
        lia
      exact line_all e2.ne (hz p hp) (hz q hq) (hz r hr)
  · intro hall
    rw [size_eq h (h[0]'hp) hp]
    have : ∀ i, i ≤ h.length → turnAcc h h[0] i = 0 := by
      intro i
      induction i with
      | zero => intro _; rfl
      | succ i ih =>
        intro hi
        have e := R.at_ (i := i) (by lia)
        rw [turnAcc, ih (by lia), hall _ h0 _ e.l _ e.r]; rfl
    exact this _ (Nat.le_refl _)
end Mine
end

section
namespace Mine
noncomputable def rho (p : Pt) : Pt := (0 - p.1, p.2)
theorem rho_rho (p : Pt) : rho (rho p) = p := by obtain ⟨a, b⟩ := p; simp [rho]
theorem rho_inj {p q : Pt} (h : rho p = rho q) : p = q := by rw [← rho_rho p, h, rho_rho]
theorem rho_map (ps : List Pt) : (ps.map rho).map rho = ps := by
  rw [List.map_map, show rho ∘ rho = id from funext rho_rho, List.map_id]
theorem rho_mem {ps : List Pt} {p : Pt} : rho p ∈ ps.map rho ↔ p ∈ ps := by
  rw [List.mem_map]
  constructor
  · rintro ⟨a, h, e⟩
    rw [← rho_inj e]; exact h
  · exact fun h => ⟨p, h, rfl⟩
theorem Edge.refl {ps : List Pt} {a b : Pt} (h : Edge ps a b) : Edge (ps.map rho) (rho b) (rho a) := by
  refine ⟨rho_mem.mpr h.r, rho_mem.mpr h.l, fun e => h.ne (rho_inj e).symm, fun r hr => ?_⟩
  obtain ⟨q, hq, rfl⟩ := List.mem_map.mp hr
  have e1 : turn (rho b) (rho a) (rho q) = turn a b q := by simp only [turn, rho]; grind
  have e2 : mid (rho b) (rho a) (rho q) = mid a b q := by simp only [mid, rho]; grind
  rw [e1, e2]
  exact h.all q hq
theorem rho_hull1 {ps h o : List Pt} (R : Ring ps h) (O : Ring (ps.map rho) o) {p : Pt} (hp : p ∈ h) : rho p ∈ o := by
  obtain ⟨b, _, e⟩ := R.out hp
  exact O.edge_r e.refl
theorem rho_hull {ps h o : List Pt} (R : Ring ps h) (O : Ring (ps.map rho) o) (p : Pt) : p ∈ o.map rho ↔ p ∈ h := by
  constructor
  · intro hp
    obtain ⟨q, hq, rfl⟩ := List.mem_map.mp hp
    exact rho_hull1 O (by rw [rho_map]; exact R) hq
  · intro hp
    rw [← rho_rho p]
    exact List.mem_map_of_mem (rho_hull1 R O hp)
theorem nodup_map_rho {l : List Pt} (h : l.Nodup) : (l.map rho).Nodup :=
  List.pairwise_map.mpr (h.imp fun {a b} hn e => hn (rho_inj e))
theorem small_rho {p : Pt} (h : Small p) : Small (rho p) := by simp only [Small, rho] at *; lia
/-- sums over lists of the same members are the same -/
theorem sum_same {α : Type} [DecidableEq α] (g : α → Int) : ∀ {l k : List α}, l.Nodup → k.Nodup → (∀ x, x ∈ l ↔ x ∈ k) → (l.map g).foldr (· + ·) 0 = (k.map g).foldr (· + ·) 0
  | [], k, _, _, h => by
    match k, h with
    | [], _ => rfl
    | x :: k, h => exact absurd ((h x).mpr (by simp)) (by simp)
  | a :: l, k, hl, hk, h => by
    obtain ⟨u, v, rfl⟩ := List.append_of_mem ((h a).mp (by simp))
    have hl' := List.nodup_cons.mp hl
    have hk' := List.nodup_append.mp hk
    have hk2 := List.nodup_cons.mp hk'.2.1
    have ih := sum_same g (l := l) (k := u ++ v) hl'.2 (List.nodup_append.mpr ⟨hk'.1, hk2.2, fun x hx y hy => hk'.2.2 x hx y (by simp [hy])⟩) fun x => by
      have hx := h x
      simp only [List.mem_cons, List.mem_append] at hx ⊢
      constructor
      · intro hxl
        rcases hx.mp (.inr hxl) with h1 | h1 | h1
        · exact .inl h1
        · subst h1; exact absurd hxl hl'.1
        · exact .inr h1
      · intro hxk
        have hxa : x ≠ a := by
          rintro rfl
          rcases hxk with h1 | h1
          · exact hk'.2.2 x h1 x (by simp) rfl
          · exact hk2.1 h1
        rcases hx.mpr (by rcases hxk with h1 | h1 <;> simp [h1]) with h1 | h1
        · exact absurd h1 hxa
        · exact h1
    have hs : ∀ (u : List Int) (x : Int) (v : List Int), (u ++ x :: v).foldr (· + ·) 0 = x + (u ++ v).foldr (· + ·) 0 := by
      intro u x v
      induction u with
      | nil => rfl
      | cons y u ih => simp only [List.cons_append, List.foldr_cons, ih]; lia
    rw [List.map_cons, List.foldr_cons, ih, List.map_append, List.map_append, List.map_cons, hs]
noncomputable def edges (h : List Pt) : List (Pt × Pt) := (List.range h.length).map fun k : Nat => (ptAt h ((k : Int) - 1), ptAt h (k : Int))
theorem foldr_snoc (x : Int) : ∀ u : List Int, (u ++ [x]).foldr (· + ·) 0 = u.foldr (· + ·) 0 + x
  | [] => by simp
  | y :: u => by simp only [List.cons_append, List.foldr_cons, foldr_snoc x u]; lia
theorem size_edges (h : List Pt) : sizeP h = ((edges h).map cr).foldr (· + ·) 0 := by
  have : ∀ n, sizeAcc h n = (((List.range n).map fun k : Nat => (ptAt h ((k : Int) - 1), ptAt h (k : Int))).map cr).foldr (· + ·) 0 := by
    intro n
    induction n with
    | zero => rfl
    | succ n ih =>
      rw [List.range_succ, List.map_append, List.map_append, List.map_singleton, List.map_singleton, foldr_snoc, ← ih]
      rfl
  exact this _
theorem edges_nodup {ps h : List Pt} (R : Ring ps h) : (edges h).Nodup := by
  unfold edges
  refine List.pairwise_map.mpr (List.nodup_range.imp_of_mem fun {a b} ha hb hab e => hab ?_)
  have h1 := List.mem_range.mp ha
  have h2 := List.mem_range.mp hb
  have e2 := (Prod.mk.inj e).2
  rw [ptAt_nat h1, ptAt_nat h2] at e2
  exact (List.getElem_inj R.nodup).mp e2
theorem edges_mem {ps h : List Pt} (R : Ring ps h) (a b : Pt) : (a, b) ∈ edges h ↔ Edge ps a b := by
  unfold edges
  rw [List.mem_map]
  constructor
  · rintro ⟨k, hk, e⟩
    obtain ⟨rfl, rfl⟩ := Prod.mk.inj e
    exact R.at_ (List.mem_range.mp hk)
  · intro e
    obtain ⟨i, hi, hib⟩ := List.mem_iff_getElem.mp (R.edge_r e)
    refine ⟨i, List.mem_range.mpr hi, ?_⟩
    have e2 := R.at_ hi
    rw [ptAt_nat hi, hib] at e2
    rw [ptAt_nat hi, hib, e2.pred e]
theorem size_refl {ps h o : List Pt} (R : Ring ps h) (O : Ring (ps.map rho) o) : sizeP o = sizeP h := by
  rw [size_edges, size_edges]
  have hg : (edges o).map cr = ((edges o).map fun e => (rho e.2, rho e.1)).map cr := by
    rw [List.map_map]
    refine List.map_congr_left fun e _ => ?_
    simp only [Function.comp, cr, rho]; grind
  rw [hg]
  refine sum_same cr ?_ (edges_nodup R) ?_
  · refine List.pairwise_map.mpr ((edges_nodup O).imp fun {a b} hn e => hn ?_)
    obtain ⟨e1, e2⟩ := Prod.mk.inj e
    exact Prod.ext (rho_inj e2) (rho_inj e1)
  · rintro ⟨a, b⟩
    rw [edges_mem R, List.mem_map]
    constructor
    · rintro ⟨⟨c, d⟩, hm, e⟩
      obtain ⟨rfl, rfl⟩ := Prod.mk.inj e
      have := ((edges_mem O c d).mp hm).refl
      rwa [rho_map] at this
    · intro e
      exact ⟨(rho b, rho a), (edges_mem O _ _).mpr e.refl, by simp [rho_rho]⟩
end Mine
end

section
open PySem PySem.SeqAt PySem.Challenge PySem.W PySem.Spec PySem.Calls PyProof.Rows
namespace Mine
theorem sub_tuple : isSubtype (.type "tuple") (.type "tuple") = pure true := by rw [isSubtype_type]; kernel_rfl
theorem sub_dict : isSubtype (.type "dict") (.type "dict") = pure true := by rw [isSubtype_type]; kernel_rfl
theorem sub_type : isSubtype (.type "type") (.type "type") = pure true := by rw [isSubtype_type]; kernel_rfl
theorem sub_object : isSubtype (.type "object") (.type "object") = pure true := by rw [isSubtype_type]; kernel_rfl
theorem sub_list : isSubtype (.type "list") (.type "list") = pure true := by rw [isSubtype_type]; kernel_rfl
theorem ty_object : typeOf (.type "object") = pure (.type "type") := by kernel_rfl
theorem isT_object : isType (.type "object") = pure true := by kernel_rfl
theorem mro_object : mroOf (.type "object") = pure [.type "object"] := by rw [mroOf_type]; kernel_rfl
theorem best_object : Builtin.Slots.bestBase [.type "object"] = pure (.type "object") := by kernel_rfl
theorem slotNames_object : Builtin.Slots.slotNamesOf (.type "object") = pure [] := by kernel_rfl
theorem givesDict_object : Builtin.Slots.givesDict (.type "object") = pure false := by kernel_rfl
theorem look_weak : typeLookup (.type "object") "__weakref__" = pure none := by rw [typeLookup_type, builtinLookup_eq_fast]; kernel_rfl
theorem turned_object : Builtin.notOverATurnedClass [.type "object"] = pure () := by kernel_rfl
theorem extended_object : Builtin.extendedBase [.type "object"] = pure (.type "object") := by kernel_rfl
theorem givesWeak_object : Builtin.Slots.givesWeak (.type "object") = pure false := by kernel_rfl
theorem varSize_object : Builtin.Slots.varSize (.type "object") = pure false := by kernel_rfl
theorem id_obj : Builtin.Slots.isIdentifier (Str.ofString "obj") = some true := by kernel_rfl
noncomputable abbrev ent (h : Int) (k : Str) (t : Tok) (v : Value) : DictEntry := ⟨h, .str k t, v⟩
/-- the names of the class K, as its body leaves them -/
noncomputable abbrev kEs (hs : Nat → Int) (ts : Nat → Tok) (v0 v1 v2 : Value) (sl f0 f1 f2 f3 f4 f5 st : Addr) : Array DictEntry :=
  #[ent (hs 0) (Str.ofString "__module__") (ts 0) v0, ent (hs 1) (Str.ofString "__qualname__") (ts 1) v1, ent (hs 2) (Str.ofString "__firstlineno__") (ts 2) v2, ent (hs 3) (Str.ofString "__slots__") (ts 3) (.ref sl),
    ent (hs 4) (Str.ofString "__init__") (ts 4) (.ref f0), ent (hs 5) (Str.ofString "__lt__") (ts 5) (.ref f1), ent (hs 6) (Str.ofString "__gt__") (ts 6) (.ref f2), ent (hs 7) (Str.ofString "__eq__") (ts 7) (.ref f3),
    ent (hs 8) (Str.ofString "__le__") (ts 8) (.ref f4), ent (hs 9) (Str.ofString "__ge__") (ts 9) (.ref f5), ent (hs 10) (Str.ofString "__hash__") (ts 10) .none, ent (hs 11) (Str.ofString "__static_attributes__") (ts 11) (.ref st)]
section
variable {prog : Program} {w : World} {A : Around} {E : Value → Shared → Prop} {h : Heap} {g : Array GenState} {d : Drawn} {t : Nat} {os : OsState}
variable {hs : Nat → Int} {ts : Nat → Tok} {v0 v1 v2 : Value} {sl f0 f1 f2 f3 f4 f5 st : Addr}
set_option maxRecDepth 100000 in
set_option maxHeartbeats 2000000 in
theorem slots_read {Q : Builtin.Slots.Plan → Shared → Prop} {tn : Tok} {n : Nat} (hh : A.handled = none)
    (hsl : h.get? sl = some { cls := .type "list", data := .seq #[.str (Str.ofString "obj") tn] n })
    (hret : ∀ h' t', (∀ b o, h.get? b = some o → h'.get? b = some o) → Q { names := [Str.ofString "obj"], dict := false, weak := false, inherited := [] } ⟨h', g, d, t', os⟩) :
    wpAny (model prog w) A (Builtin.Slots.read (Str.ofString "K") [.type "object"] (kEs hs ts v0 v1 v2 sl f0 f1 f2 f3 f4 f5 st)) Q E ⟨h, g, d, t, os⟩ := by
  have e1 := best_object; have e2 := slotNames_object; have e3 := givesDict_object; have e4 := givesWeak_object; have e5 := varSize_object; have e6 := sub_list
  have ef : (kEs hs ts v0 v1 v2 sl f0 f1 f2 f3 f4 f5 st).find? (fun x => x.key.isStr (Str.ofString "__slots__")) = some (ent (hs 3) (Str.ofString "__slots__") (ts 3) (.ref sl)) := by rfl
  unfold Builtin.Slots.read
  rw [ef]
  repeat (first | (with_reducible refine wpAny_collect_seq sl (.inl rfl) hsl rfl rfl ?_ ?_) | wp_step | (dsimp only; first | (with_reducible refine wpAny_collect_seq sl (.inl rfl) hsl rfl rfl ?_ ?_) | wp_step))
  · intro h' hk
    repeat (first | wp_step | (dsimp only; wp_step))
    rw [id_obj]
    repeat (first | wp_step | (dsimp only; wp_step) | ((with_reducible apply PySem.wpAny_ite_false); focus (kernel_rfl; done)) | ((with_reducible apply PySem.wpAny_ite_true); focus (kernel_rfl; done)))
    refine Eq.mp ?_ (hret h' t hk)
    kernel_rfl
  · show (1 : Nat) ≤ _; rw [sizeLine_eq]; decide
end
end Mine
end

section
open PySem PySem.SeqAt PySem.Challenge PySem.W PySem.Spec PySem.Calls PyProof.Rows
namespace Mine
theorem iter_dict : typeLookup (.type "dict") "__iter__" = pure (some (.builtin "dict.__iter__")) := by rw [typeLookup_type, builtinLookup_eq_fast]; kernel_rfl
theorem hook_type : Builtin.mroHook? (.type "type") = pure none := by kernel_rfl
theorem lin_object : Builtin.linearize [.type "object"] mroOf = pure [.type "object"] := by kernel_rfl
theorem made_object : Bind.madeBy (.type "object") = pure (some "object.__new__") := by kernel_rfl
theorem updMem {a : Addr} {o : Obj} {led : List (Addr × Obj)} {gl : Obj → List (Addr × Obj)} (U : UpdF a o led gl) : (a, o) ∈ led := by
  obtain ⟨own, rest, rfl, _⟩ := U.split
  exact List.mem_append_right _ (.head _)
/-- the heap has all of the old one, and the new objects of the list -/
structure Wn (h₀ h : Heap) (led : List (Addr × Obj)) : Prop where
  keep : ∀ b o, h₀.get? b = some o → h.get? b = some o
  at_ : ∀ p ∈ led, h.get? p.1 = some p.2 ∧ h₀.get? p.1 = none
theorem Wn.grown {h₀ h h' : Heap} {led : List (Addr × Obj)} (W : Wn h₀ h led) (k : ∀ b o, h.get? b = some o → h'.get? b = some o) : Wn h₀ h' led :=
  ⟨fun b o e => k _ _ (W.keep b o e), fun p hp => ⟨k _ _ (W.at_ p hp).1, (W.at_ p hp).2⟩⟩
section
variable {prog : Program} {w : World} {M : Model} {A : Around} {E : Value → Shared → Prop} {h : Heap} {g : Array GenState} {d : Drawn} {t : Nat} {os : OsState} {h₀ : Heap} {led : List (Addr × Obj)} {a : Addr} {o : Obj} {p : Option Value}
theorem lw_load {Q : Obj → Shared → Prop} (W : Wn h₀ h led) (hm : (a, o) ∈ led) (hq : Q o ⟨h, g, d, t, os⟩) : wpAny M A (load a) Q E ⟨h, g, d, t, os⟩ := wpAny_load' (W.at_ _ hm).1 hq
theorem lw_loadPart {Q : Obj → Shared → Prop} (W : Wn h₀ h led) (hm : (a, o) ∈ led) (hq : Q o ⟨h, g, d, t, os⟩) : wpAny M A (loadPart a p) Q E ⟨h, g, d, t, os⟩ := wpAny_loadPart' (W.at_ _ hm).1 hq
theorem lw_loadO {Q : Obj → Shared → Prop} (W : Wn h₀ h led) (ho : h₀.get? a = some o) (hq : Q o ⟨h, g, d, t, os⟩) : wpAny M A (load a) Q E ⟨h, g, d, t, os⟩ := wpAny_load' (W.keep _ _ ho) hq
theorem lw_loadPartO {Q : Obj → Shared → Prop} (W : Wn h₀ h led) (ho : h₀.get? a = some o) (hq : Q o ⟨h, g, d, t, os⟩) : wpAny M A (loadPart a p) Q E ⟨h, g, d, t, os⟩ := wpAny_loadPart' (W.keep _ _ ho) hq
theorem lw_alloc {Q : Addr → Shared → Prop} (W : Wn h₀ h led) (hf : o.isFreed = false) (hq : ∀ a h', Wn h₀ h' ((a, o) :: led) → (∀ p ∈ led, p.1 < a) → Q a ⟨h', g, d, t, os⟩) : wpAny M A (alloc o) Q E ⟨h, g, d, t, os⟩ := by
  refine wpAny_alloc (hq _ _ ⟨fun b o' e => Heap.get?_push_of_some _ (W.keep b o' e), fun p hp => ?_⟩ fun p hp => Heap.lt_size (W.at_ p hp).1)
  rcases List.mem_cons.mp hp with rfl | hp
  · refine ⟨Heap.get?_push_size _ hf, ?_⟩
    cases e : h₀.get? h.objs.size with
    | none => rfl
    | some o' => exact absurd (Heap.lt_size (W.keep _ _ e)) (Nat.lt_irrefl _)
  · exact ⟨Heap.get?_push_of_some _ (W.at_ p hp).1, (W.at_ p hp).2⟩
theorem Wn.upd {f : Obj → Obj} {gl : Obj → List (Addr × Obj)} (W : Wn h₀ h led) (U : UpdF a o led gl) (hf : (f o).isFreed = false) : Wn h₀ (h.update a f) (gl (f o)) := by
  obtain ⟨own, rest, rfl, hg, h1, h2⟩ := U.split
  have hmem := W.at_ (a, o) (List.mem_append_right _ (.head _))
  have hs := Heap.SameBut.update h a f
  refine ⟨fun b ob e => (hs.2 b fun q => ?_).trans (W.keep b ob e), fun p hp => ?_⟩
  · rw [q, hmem.2] at e; cases e
  · rw [hg] at hp
    rcases List.mem_append.mp hp with hp | hp
    · have z := W.at_ p (List.mem_append_left _ hp)
      exact ⟨(hs.2 _ (h1 p hp)).trans z.1, z.2⟩
    rcases List.mem_cons.mp hp with rfl | hp
    · exact ⟨Heap.get?_update_self f hmem.1 hf, hmem.2⟩
    · have z := W.at_ p (List.mem_append_right _ (.tail _ hp))
      exact ⟨(hs.2 _ (h2 p hp)).trans z.1, z.2⟩
theorem lw_update {f : Obj → Obj} {gl : Obj → List (Addr × Obj)} {Q : Unit → Shared → Prop} (W : Wn h₀ h led) (U : UpdF a o led gl) (hf : (f o).isFreed = false) (hq : ∀ h', Wn h₀ h' (gl (f o)) → Q () ⟨h', g, d, t, os⟩) : wpAny M A (update a f) Q E ⟨h, g, d, t, os⟩ :=
  wpAny_update' (W.at_ _ (updMem U)).1 (hq _ (W.upd U hf))
theorem lw_updatePart {f : Obj → Obj} {gl : Obj → List (Addr × Obj)} {Q : Unit → Shared → Prop} (W : Wn h₀ h led) (U : UpdF a o led gl) (hf : (f o).isFreed = false) (hq : ∀ h', Wn h₀ h' (gl (f o)) → Q () ⟨h', g, d, t, os⟩) : wpAny M A (updatePart a p f) Q E ⟨h, g, d, t, os⟩ :=
  wpAny_updatePart' (W.at_ _ (updMem U)).1 (hq _ (W.upd U hf))
end
end Mine
end

section
open PySem PySem.SeqAt PySem.Challenge PySem.W PySem.Spec PySem.Calls PyProof.Rows
namespace Mine
theorem wnHead {h₀ h : Heap} {a : Addr} {o : Obj} {led : List (Addr × Obj)} (_ : Wn h₀ h ((a, o) :: led)) : ∃ x, x = a := ⟨_, rfl⟩
theorem wnTail {h₀ h : Heap} {a : Addr × Obj} {led : List (Addr × Obj)} (W : Wn h₀ h (a :: led)) : Wn h₀ h led := ⟨W.keep, fun p hp => W.at_ p (.tail _ hp)⟩
theorem Wn.cast {h₀ h : Heap} {led led' : List (Addr × Obj)} (W : Wn h₀ h led) (e : led = led') : Wn h₀ h led' := e ▸ W
theorem updLast {d : Addr} {o : Obj} : UpdF d o [(d, o)] (fun o' => [(d, o')]) := .head fun p hp => by cases hp
theorem updHd {d a : Addr} {o oa : Obj} (h : a ≠ d) : UpdF d o [(d, o), (a, oa)] (fun o' => [(d, o'), (a, oa)]) := .head fun p hp => by
  obtain rfl := List.mem_singleton.mp hp
  exact h
theorem updHd2 {d a b : Addr} {o oa ob : Obj} (h : a ≠ d) (h' : b ≠ d) : UpdF d o [(d, o), (a, oa), (b, ob)] (fun o' => [(d, o'), (a, oa), (b, ob)]) := .head fun p hp => by
  rcases List.mem_cons.mp hp with rfl | hp
  · exact h
  obtain rfl := List.mem_singleton.mp hp
  exact h'
theorem flt (a : Addr) : List.filter (fun x => x != Value.ref a) [Value.ref a, Value.type "object"] = [Value.type "object"] := by simp
noncomputable abbrev kEs2 (hs : Nat → Int) (ts : Nat → Tok) (v0 v2 : Value) (sl f0 f1 f2 f3 f4 f5 st : Addr) : Array DictEntry :=
  #[ent (hs 0) (Str.ofString "__module__") (ts 0) v0, ent (hs 2) (Str.ofString "__firstlineno__") (ts 2) v2, ent (hs 3) (Str.ofString "__slots__") (ts 3) (.ref sl),
    ent (hs 4) (Str.ofString "__init__") (ts 4) (.ref f0), ent (hs 5) (Str.ofString "__lt__") (ts 5) (.ref f1), ent (hs 6) (Str.ofString "__gt__") (ts 6) (.ref f2), ent (hs 7) (Str.ofString "__eq__") (ts 7) (.ref f3),
    ent (hs 8) (Str.ofString "__le__") (ts 8) (.ref f4), ent (hs 9) (Str.ofString "__ge__") (ts 9) (.ref f5), ent (hs 10) (Str.ofString "__hash__") (ts 10) .none, ent (hs 11) (Str.ofString "__static_attributes__") (ts 11) (.ref st)]
noncomputable abbrev kEs3 (hs : Nat → Int) (ts : Nat → Tok) (v0 v2 : Value) (sl f0 f1 f2 f3 f4 f5 st M : Addr) : Array DictEntry := (kEs2 hs ts v0 v2 sl f0 f1 f2 f3 f4 f5 st).push (ent (hs 12) (Str.ofString "obj") (ts 12) (.ref M))
/-- the class K while it is made -/
noncomputable abbrev kObj (C NS t0 : Addr) (qn : Str) (tn tq : Tok) (hd : Bool) (sn : List Str) : Obj :=
  { cls := .type "type", data := .cls { name := Str.ofString "K", bases := [.type "object"], mro := [.ref C, .type "object"], ns := NS, qualname := qn, hasDict := hd, slotNames := sn }, slots := #[some (.ref t0), none, some (.str (Str.ofString "K") tn), some (.str qn tq), some (.builtin "object.__new__")] }
noncomputable abbrev mObj (C : Addr) (t : Tok) : Obj := { cls := .type "member_descriptor", data := .fields #[.str (Str.ofString "obj") t, .ref C, .builtin "proto.slot", .builtin "proto.slot#set", rawInt 0] }
section
variable {prog : Program} {w : World} {A : Around} {E : Value → Shared → Prop} {h₀ h : Heap} {g : Array GenState} {d : Drawn} {t : Nat} {os : OsState}
variable {hs : Nat → Int} {ts : Nat → Tok} {sl f0 f1 f2 f3 f4 f5 st : Addr} {C NS t0 : Addr} {qn : Str} {tn tq : Tok} {v0 v2 : Value}
theorem lw_ask {M : Model} {Q : Setting → Shared → Prop} {s : Shared} (hq : Q ⟨M.prog, M.w.params⟩ s) : wpAny M A ask Q E s := fun _ _ _ => hq
theorem regM13a : True := by
  k_with_none
  k_with "memK" => (with_reducible (first | assumption | exact List.mem_cons_self | (refine List.mem_cons_of_mem _ ?_; k_memK)))
  k_with "lcg_sub" => (first | exact updLast | exact updHd (by show @Ne Nat _ _; omega) | exact updHd2 (by show @Ne Nat _ _; omega) (by show @Ne Nat _ _; omega) | (refine' UpdF.tail (by (show @Ne Nat _ _; omega)) (by lcg_sub)))
  k_with "lcg_off" => (first | ((with_reducible apply lw_load); (focus ((assumption); done)); (focus ((k_memK); done))) | ((with_reducible apply lw_loadPart); (focus ((assumption); done)); (focus ((k_memK); done))) | ((with_reducible apply lw_loadO); (focus ((assumption); done)); (focus ((with_reducible assumption); done))) | ((with_reducible apply lw_loadPartO); (focus ((assumption); done)); (focus ((with_reducible assumption); done))) | ((with_reducible apply lw_alloc); (focus ((assumption); done)); (focus ((first | rfl | kernel_rfl!); done)); intro aZq hZq WZq lZq; (try k_lt lZq)) | ((with_reducible apply lw_update); (focus ((assumption); done)); (focus ((lcg_sub); done)); (focus ((first | rfl | kernel_rfl!); done)); intro hZq WZq; (try dsimp only at WZq)) | ((with_reducible apply lw_updatePart); (focus ((assumption); done)); (focus ((lcg_sub); done)); (focus ((first | rfl | kernel_rfl!); done)); intro hZq WZq; (try dsimp only at WZq)) | ((with_reducible refine lw_ask ?_)) | ((with_reducible apply PySem.wpAny_ite_false); focus (kernel_rfl!; done)) | ((with_reducible apply PySem.wpAny_ite_true); focus (kernel_rfl!; done)) | wp_step | (dsimp only; wp_step))
  trivial
noncomputable abbrev strH (w : World) (n : Str) : Int := if n.cps.isEmpty = true then 0 else reduceHash (w.params.strHash n.cps)
theorem own_new : builtinOwn "object" (Str.ofString "__new__") = some (.builtin "object.__new__") := by kernel_rfl
set_option maxRecDepth 100000 in
set_option maxHeartbeats 4000000 in
theorem refresh {Q : Unit → Shared → Prop} (W : Wn h₀ h [(C, kObj C NS t0 qn tn tq true []), (NS, { cls := .type "dict", data := .dict (kEs2 hs ts v0 v2 sl f0 f1 f2 f3 f4 f5 st) 1 })]) (hq : Q () ⟨h, g, d, t, os⟩) :
    wpAny (model prog w) A (Bind.refreshMaker C) Q E ⟨h, g, d, t, os⟩ := by
  unfold Bind.refreshMaker
  repeat k_extra "lcg_off"
  unfold typeLookup
  repeat k_extra "lcg_off"
  all_goals exact hq
set_option maxRecDepth 100000 in
set_option maxHeartbeats 4000000 in
theorem install {Q : Unit → Shared → Prop} (hlt : @LT.lt Nat _ NS C) (W : Wn h₀ h [(C, kObj C NS t0 qn tn tq true []), (NS, { cls := .type "dict", data := .dict (kEs2 hs ts v0 v2 sl f0 f1 f2 f3 f4 f5 st) 1 })])
    (hq : ∀ M h' t' (hs' : Nat → Int) (ts' : Nat → Tok) tm, Wn h₀ h' [(M, mObj C tm), (C, kObj C NS t0 qn tn tq false [Str.ofString "obj"]), (NS, { cls := .type "dict", data := .dict (kEs3 hs' ts' v0 v2 sl f0 f1 f2 f3 f4 f5 st M) 2 })] → C < M → Q () ⟨h', g, d, t', os⟩) :
    wpAny (model prog w) A (Builtin.Slots.install (.ref C) NS [.type "object"] { names := [Str.ofString "obj"], dict := false, weak := false }) Q E ⟨h, g, d, t, os⟩ := by
  have e3 := givesDict_object
  unfold Builtin.Slots.install
  repeat k_extra "lcg_off"
  rename Wn _ _ _ => W1
  obtain ⟨M, hM⟩ := wnHead W1
  subst hM
  refine hq M _ _ (fun i => if i = 12 then strH w (Str.ofString "obj") else hs i) (fun i => if i = 12 then t + 1 else ts i) t (W1.cast (by kernel_rfl)) (show @LT.lt Nat _ C M by omega)
end
end Mine
end

section
open PySem PySem.SeqAt PySem.Challenge PySem.W PySem.Spec PySem.Calls PyProof.Rows
namespace Mine
noncomputable abbrev superO (C : Addr) : Obj := { cls := .type "super", dict := none, data := .fields #[.ref C, .ref C, .ref C], slots := #[] }
section
variable {prog : Program} {w : World} {A : Around} {E : Value → Shared → Prop} {h₀ h : Heap} {g : Array GenState} {d : Drawn} {t : Nat} {os : OsState} {led : List (Addr × Obj)} {C : Addr} {oC : Obj} {cd : ClassData}
theorem subtype_self {Q : Bool → Shared → Prop} (hC : h.get? C = some oC) (hcd : oC.data = .cls cd) (hmro : cd.mro = [.ref C, .type "object"]) (hq : Q true ⟨h, g, d, t, os⟩) :
    wpAny (model prog w) A (isSubtype (.ref C) (.ref C)) Q E ⟨h, g, d, t, os⟩ := by
  obtain ⟨c1, c2, c3, c4⟩ := oC
  dsimp only at hcd
  subst hcd
  unfold isSubtype
  repeat (first | wp_step | (dsimp only; wp_step))
  have e : cd.mro.contains (.ref C) = true := by rw [hmro]; simp
  rw [e]; exact hq
theorem super_self {Q : Value → Shared → Prop} (W : Wn h₀ h led) (hm : (C, oC) ∈ led) (hcd : oC.data = .cls cd) (hmro : cd.mro = [.ref C, .type "object"])
    (hq : ∀ so h', Wn h₀ h' ((so, superO C) :: led) → (∀ p ∈ led, p.1 < so) → Q (.ref so) ⟨h', g, d, t, os⟩) :
    wpAny (model prog w) A (call (.type "super") [.ref C, .ref C]) Q E ⟨h, g, d, t, os⟩ := by
  have hC := (W.at_ _ hm).1
  refine ks_callType_codesW (Q₁ := fun obj s₁ => obj = .ref h.objs.size ∧ s₁ = ⟨h.push { cls := .type "super", data := .fields #[.none, .none, .none] }, g, d, t, os⟩) F.ks_called_super (ks_wpAny_checkTypeCall_super hC hcd) F.ks_entry_super_init
    (ks_code_super_new _ _ ⟨rfl, rfl⟩) fun obj s₁ h₁ => ?_
  obtain ⟨rfl, rfl⟩ := h₁
  have up : ∀ y o, h.get? y = some o → (h.push { cls := .type "super", data := .fields #[.none, .none, .none] }).get? y = some o := fun y o e => Heap.get?_push_of_some _ e
  have hso : (h.push { cls := .type "super", data := .fields #[.none, .none, .none] }).get? h.objs.size = some { cls := .type "super", dict := none, data := .fields #[.none, .none, .none], slots := #[] } := Heap.get?_push_at rfl rfl
  have hC' := up _ _ hC
  have fin : ∀ h', h'.get? h.objs.size = some (superO C) → (∀ y o, y ≠ h.objs.size → (h.push { cls := .type "super", data := .fields #[.none, .none, .none] }).get? y = some o → h'.get? y = some o) → Q (.ref h.objs.size) ⟨h', g, d, t, os⟩ := by
    intro h' e k
    have k' : ∀ y o, h.get? y = some o → h'.get? y = some o := fun y o ey => k y o (Nat.ne_of_lt (Heap.lt_size ey)) (up y o ey)
    refine hq _ h' ⟨fun b o eb => k' _ _ (W.keep _ _ eb), fun p hp => ?_⟩ fun p hp => Heap.lt_size (W.at_ p hp).1
    rcases List.mem_cons.mp hp with rfl | hp
    · refine ⟨e, ?_⟩
      cases e : h₀.get? h.objs.size with
      | none => rfl
      | some o' => exact absurd (Heap.lt_size (W.keep _ _ e)) (Nat.lt_irrefl _)
    · exact ⟨k' _ _ (W.at_ p hp).1, (W.at_ p hp).2⟩
  refine ⟨⟨_, hso, rfl⟩, F.ks_initArgs_super _ _ _, ?_⟩
  unfold Builtin.«super.__init__» noKeywords
  repeat (first | (with_reducible refine ks_wpAny_isType_cls hC' hcd ?_) | (with_reducible refine subtype_self hC' hcd hmro ?_) | (with_reducible refine ks_wpAny_super_set3 hso ?_) | wp_step)
  all_goals first
    | (intro h' e k; exact ⟨rfl, fin h' e k⟩)
    | (refine ks_wpAny_super_set3 hso ?_; intro h' e k; exact ⟨rfl, fin h' e k⟩)
theorem regM14a : True := by
  k_with_none
  k_with "memK" => (with_reducible (first | assumption | exact List.mem_cons_self | (refine List.mem_cons_of_mem _ ?_; k_memK)))
  k_with "lcg_off" => (first | ((with_reducible apply lw_load); (focus ((assumption); done)); (focus ((k_memK); done))) | ((with_reducible apply lw_loadPart); (focus ((assumption); done)); (focus ((k_memK); done))) | ((with_reducible apply lw_alloc); (focus ((assumption); done)); (focus ((rfl); done)); intro aZq hZq WZq lZq; (try k_lt lZq)) | ((with_reducible refine lw_ask ?_)) | ((with_reducible apply PySem.wpAny_ite_false); focus (kernel_rfl!; done)) | ((with_reducible apply PySem.wpAny_ite_true); focus (kernel_rfl!; done)) | wp_step | (dsimp only; wp_step))
  trivial
theorem drop_self (C : Addr) : (([Value.ref C, Value.type "object"].dropWhile (· != .ref C)).drop 1) = [Value.type "object"] := by simp
theorem own_init_sub : classOwn (.type "object") (Str.ofString "__init_subclass__") = pure (some (.builtin "object.__init_subclass__")) := by kernel_rfl
theorem type_is : typeOf (.builtin "object.__init_subclass__") = pure (.type "classmethod_descriptor") := by show builtinType _ = _; rw [builtinType_eq_fast]; kernel_rfl
theorem owner_is : (kfb_private% "ownerAndName") "object.__init_subclass__" = ("object", "__init_subclass__") := by first | decide +kernel | kernel_rfl
theorem look_get : typeLookup (.type "classmethod_descriptor") "__get__" = pure (some (.builtin "classmethod_descriptor.__get__")) := KFB.slot_get.lookup
noncomputable abbrev boundO (C : Addr) : Obj := { cls := .type "builtin_function_or_method", data := .fields #[.builtin "object.__init_subclass__", .ref C] }
theorem subtype_obj {Q : Bool → Shared → Prop} (hC : h.get? C = some oC) (hcd : oC.data = .cls cd) (hmro : cd.mro = [.ref C, .type "object"]) (hq : Q true ⟨h, g, d, t, os⟩) :
    wpAny (model prog w) A (isSubtype (.ref C) (.type "object")) Q E ⟨h, g, d, t, os⟩ := by
  obtain ⟨c1, c2, c3, c4⟩ := oC
  dsimp only at hcd
  subst hcd
  unfold isSubtype
  repeat (first | wp_step | (dsimp only; wp_step))
  have e : cd.mro.contains (.type "object") = true := by rw [hmro]; simp
  rw [e]; exact hq
theorem cm_get {P : PySem.Fin → Shared → Prop} (hC : h.get? C = some oC) (hcd : oC.data = .cls cd) (hmro : cd.mro = [.ref C, .type "object"])
    (hp : P (.done (.ret (.ref h.objs.size))) ⟨h.push (boundO C), g, d, t, os⟩) :
    wpAny (model prog w) A (Builtin.«classmethod_descriptor.__get__» ⟨[.builtin "object.__init_subclass__", .none, .ref C], []⟩) P E ⟨h, g, d, t, os⟩ := by
  unfold Builtin.«classmethod_descriptor.__get__»
  refine wpAny_bind (wpAny_of_eq (a := (.builtin "object.__init_subclass__", none, some (.ref C))) (by first | rfl | kernel_rfl) ?_)
  simp only [owner_is]
  refine wpAny_bind (wpAny_of_eq (a := .ref C) rfl ?_)
  refine wpAny_bind (ks_wpAny_isType_cls hC hcd ?_)
  refine KFB.if_not rfl ?_
  refine wpAny_bind (subtype_obj hC hcd hmro ?_)
  refine KFB.if_not rfl ?_
  exact wpAny_bind (wpAny_newObj_type (wpAny_pure hp))
set_option maxRecDepth 100000 in
set_option maxHeartbeats 2000000 in
theorem super_ga_self {so : Addr} {tk : Tok} {Q : PySem.Fin → Shared → Prop} (W : Wn h₀ h ((so, superO C) :: led)) (hm : (C, oC) ∈ led) (hcd : oC.data = .cls cd) (hmro : cd.mro = [.ref C, .type "object"])
    (hno : Looks (model prog w) h₀ (opaqueClassAbove (.ref C)) none) (hq : Q (.done (.ret (.ref h.objs.size))) ⟨h.push (boundO C), g, d, t, os⟩) :
    wpAny (model prog w) A (Builtin.«super.__getattribute__» ⟨[.ref so, .str (Str.ofString "__init_subclass__") tk], []⟩) Q E ⟨h, g, d, t, os⟩ := by
  have hso := (W.at_ _ List.mem_cons_self).1
  have hC := (W.at_ _ (List.mem_cons_of_mem _ hm)).1
  have hno' := hno.keeps W.keep
  have hdt : (superO C).data = .fields #[.ref C, .ref C, .ref C] := rfl
  have f0 : (#[.ref C, .ref C, .ref C] : Array Value)[0]? = some (.ref C) := rfl
  have f1 : (#[.ref C, .ref C, .ref C] : Array Value)[1]? = some (.ref C) := rfl
  have f2 : (#[.ref C, .ref C, .ref C] : Array Value)[2]? = some (.ref C) := rfl
  have eo := own_init_sub
  have et := type_is
  have el := look_get
  have eb : (if (Value.ref C == Value.ref C) = true then Value.none else Value.ref C) = .none := by simp
  have hcl : ∀ (Q : List Value → Shared → Prop) (E : Value → Shared → Prop), Q [.ref C, .type "object"] ⟨h, g, d, t, os⟩ → wpAny (model prog w) A (mroOf (.ref C)) Q E ⟨h, g, d, t, os⟩ := by
    intro Q E hQ
    clear hm
    obtain ⟨c1, c2, c3, c4⟩ := oC
    dsimp only at hcd hC
    subst hcd
    unfold mroOf
    repeat (first | wp_step | (dsimp only; wp_step))
    rw [hmro]; exact hQ
  unfold Builtin.«super.__getattribute__»
  repeat (first
    | (with_reducible refine wpAny_field hso hdt f0 ?_) | (with_reducible refine wpAny_field hso hdt f1 ?_) | (with_reducible refine wpAny_field hso hdt f2 ?_)
    | (with_reducible refine ks_wpAny_notOpaque hno' ?_)
    | (with_reducible refine hcl _ _ ?_; rw [drop_self])
    | (rw [eb])
    | ((with_reducible show wpAny _ _ (call (Value.builtin "classmethod_descriptor.__get__") _) _ _ _); refine wpAny_call_entry KFB.slot_get type_is KFB.entry_get (cm_get hC hcd hmro ⟨_, rfl, ?_⟩) (KFB.args_get _ _ _))
    | wp_step
    | dsimp only)
  exact hq
set_option maxRecDepth 100000 in
set_option maxHeartbeats 2000000 in
theorem get_init_sub {so : Addr} {Q : Value → Shared → Prop} (W : Wn h₀ h ((so, superO C) :: led)) (hm : (C, oC) ∈ led) (hcd : oC.data = .cls cd) (hmro : cd.mro = [.ref C, .type "object"])
    (hno : Looks (model prog w) h₀ (opaqueClassAbove (.ref C)) none)
    (hq : ∀ b h', Wn h₀ h' ((b, boundO C) :: (so, superO C) :: led) → Q (.ref b) ⟨h', g, d, t + 1, os⟩) :
    wpAny (model prog w) A (getAttr (.ref so) (Str.ofString "__init_subclass__")) Q E ⟨h, g, d, t, os⟩ := by
  have hlk := F.ks_slot_super_ga.lookup
  have hcan := F.ks_canon_super_ga
  have hso := (W.at_ _ List.mem_cons_self).1
  have hT : ∀ t', (⟨h, g, d, t', os⟩ : Shared).TypeIs (.ref so) "super" := fun _ => ⟨_, hso, rfl⟩
  have W2 : Wn h₀ (h.push (boundO C)) ((h.objs.size, boundO C) :: (so, superO C) :: led) := ⟨fun b o' e => Heap.get?_push_of_some _ (W.keep b o' e), fun p hp => by
    rcases List.mem_cons.mp hp with rfl | hp
    · refine ⟨Heap.get?_push_size _ rfl, ?_⟩
      cases e : h₀.get? h.objs.size with
      | none => rfl
      | some o' => exact absurd (Heap.lt_size (W.keep _ _ e)) (Nat.lt_irrefl _)
    · exact ⟨Heap.get?_push_of_some _ (W.at_ p hp).1, (W.at_ p hp).2⟩⟩
  unfold getAttr getAttrBy
  refine wpAny_bind (wpAny_mkText (wpAny_holding (wpAny_bind (wpAny_typeOf (hT _) (wpAny_bind (wpAny_of_eq hlk ?_))))))
  show wpAny _ _ (getAttrByItsOwn (.ref so) (.str (Str.ofString "__init_subclass__") t) (.type "super") (.builtin "super.__getattribute__") true false) _ _ _
  unfold getAttrByItsOwn hookBefore callGetattribute boundAndCalled
  refine wpAny_bind (wpAny_of_eq (show (if onTheHeap (.type "super") then typeLookup (.type "super") "__getattr__" else pure none) = pure none from rfl) ?_)
  refine wpAny_bind (wpAny_attempt (wpAny_holding ?_))
  show wpAny _ _ (bindSpecial (.builtin "super.__getattribute__") (.ref so) >>= _) _ _ _
  refine wpAny_bind (wpAny_of_eq (F.ks_slot_super_ga.bind _) ?_)
  refine wpAny_mono (Q := fun v s' => v = .ref h.objs.size ∧ s' = ⟨h.push (boundO C), g, d, t + 1, os⟩) (E := fun _ _ => False)
    (wpAny_call_entry F.ks_slot_super_ga (hT _) F.ks_entry_super_ga (super_ga_self W hm hcd hmro hno ⟨_, rfl, rfl, rfl⟩) (F.ks_gaArgs_super _ _)) (fun v s' hv => ?_) fun _ _ z => z.elim
  obtain ⟨rfl, rfl⟩ := hv
  exact wpAny_pure (hq _ _ W2)
end
end Mine
end

section
open PySem PySem.SeqAt PySem.Challenge PySem.W PySem.Spec PySem.Calls PyProof.Rows
namespace Mine
section
variable {prog : Program} {w : World} {A : Around} {E : Value → Shared → Prop} {h₀ h : Heap} {g : Array GenState} {d : Drawn} {t : Nat} {os : OsState} {led : List (Addr × Obj)} {C : Addr}
theorem entry_is : entryFor table "object.__init_subclass__" = some Builtin.«object.__init_subclass__» := entryFor_of_tree (by kernel_rfl)
theorem sub_tm : isSubtype (.type "type") (.type "module") = pure false := by rw [isSubtype_type]; kernel_rfl
noncomputable abbrev qK : Str := Str.ofString "cmp_to_key.<locals>.K"
theorem plain_is : plainId "object.__init_subclass__" = true := by decide +kernel
set_option maxRecDepth 100000 in
set_option maxHeartbeats 2000000 in
theorem call_init_sub {b : Addr} {Q : Value → Shared → Prop} {nm : Str} {bs mr : List Value} {ns : Addr} {hd : Bool} {sn : List Str} {sl : Array (Option Value)} (W : Wn h₀ h led) (hm : (b, boundO C) ∈ led) (hmC : (C, ({ cls := .type "type", data := .cls { name := nm, bases := bs, mro := mr, ns := ns, qualname := qK, hasDict := hd, slotNames := sn }, slots := sl } : Obj)) ∈ led) (hq : Q .none ⟨h, g, d, t, os⟩) :
    wpAny (model prog w) A (call (.ref b) []) Q E ⟨h, g, d, t, os⟩ := by
  have hb := (W.at_ _ hm).1
  have hC := (W.at_ _ hmC).1
  have e1 := sub_tm
  refine wpAny_call (codeAny_of_tree ?_)
  show wpAny _ _ (callAny (.ref b) _) _ _ _
  unfold callAny
  repeat (first | ((with_reducible apply PySem.wpAny_ite_false); focus (kernel_rfl!; done)) | ((with_reducible apply PySem.wpAny_ite_true); focus (kernel_rfl!; done)) | wp_step | (dsimp only; wp_step))
  refine ⟨plainId_quiet plain_is _, codeAny_builtin entry_is ?_⟩
  rw [Around.under_plainId plain_is _]
  unfold Builtin.«object.__init_subclass__»
  repeat (first | ((with_reducible apply PySem.wpAny_ite_false); focus (kernel_rfl!; done)) | ((with_reducible apply PySem.wpAny_ite_true); focus (kernel_rfl!; done)) | wp_step | (dsimp only; wp_step))
  all_goals exact hq
end
end Mine
end

section
open PySem PySem.SeqAt PySem.Challenge PySem.W PySem.Spec PySem.Calls PyProof.Rows
namespace Mine
section
variable {M : Model} {A : Around} {E : Value → Shared → Prop} {s : Shared}
/-- a loop whose turns change nothing -/
theorem forIn_list {α β : Type} {b : β} {f : α → β → Sem (ForInStep β)} {Q : β → Shared → Prop} : ∀ {l : List α}, (∀ e ∈ l, ∀ Q' : ForInStep β → Shared → Prop, Q' (.yield b) s → wpAny M A (f e b) Q' E s) → Q b s → wpAny M A (forIn l b f) Q E s
  | [], _, hq => by
    rw [List.forIn_nil]; exact wpAny_pure hq
  | e :: l, hf, hq => by
    rw [List.forIn_cons]
    refine wpAny_bind (hf e List.mem_cons_self _ ?_)
    exact forIn_list (fun x hx => hf x (List.mem_cons_of_mem _ hx)) hq
theorem forIn_arr {α β : Type} {b : β} {f : α → β → Sem (ForInStep β)} {Q : β → Shared → Prop} {a : Array α} {l : List α} (e : a.toList = l) (hf : ∀ e ∈ l, ∀ Q' : ForInStep β → Shared → Prop, Q' (.yield b) s → wpAny M A (f e b) Q' E s) (hq : Q b s) : wpAny M A (forIn a b f) Q E s := by
  rw [← Array.forIn_toList, e]
  exact forIn_list hf hq
end
end Mine
end

section
open PySem PySem.SeqAt PySem.Challenge PySem.W PySem.Spec PySem.Calls PyProof.Rows
namespace Mine
section
variable {M : Model} {A : Around} {E : Value → Shared → Prop} {s : Shared} {h₀ : Heap} {led : List (Addr × Obj)} {env : Env} {c P : Addr} {ps : Array Value} {pos : Pos} {firstLine : Nat}
theorem Wn.fresh {h : Heap} {a : Addr} (W : Wn h₀ h led) (ha : h.objs.size ≤ a) : h₀.get? a = none ∧ ∀ p ∈ led, p.1 ≠ a := by
  refine ⟨?_, fun p hp e => ?_⟩
  · cases e : h₀.get? a with
    | none => rfl
    | some o => exact absurd (Heap.lt_size (W.keep _ _ e)) (Nat.not_lt.mpr ha)
  · exact absurd (Heap.lt_size (W.at_ p hp).1) (Nat.not_lt.mpr (e ▸ ha))
/-- the class's code, made -/
theorem class_code {name qualname : Str} {scope : Scope} {Q : Value → Shared → Prop} (W : Wn h₀ s.heap ((P, tabObj ps) :: led)) (hc : env.code = .ref c) (C : CodeHd s.heap c P) (hne : ∀ p ∈ led, p.1 ≠ P) (ht : TriplesOk ps.toList) (hnf : codeAmong pos ps.toList = none)
    (h : ∀ c' P' oc h' tk, Wn h₀ h' ((P, tabObj (ps ++ #[rawInt pos.line, rawInt pos.col, .ref c'])) :: (P', tabObj #[]) :: (c', oc) :: led) → CodeHd h' c' P' → @Ne Nat c' P' → (∀ p ∈ (P, tabObj ps) :: led, @LT.lt Nat _ p.1 c' ∧ @LT.lt Nat _ p.1 P') → Q (.ref c') { s with heap := h', toks := tk }) :
    wpAny M A (classCode env pos firstLine name qualname scope) Q E s := by
  have hP := (W.at_ _ (.head _)).1
  have hok := C.code hP ht
  have htab := C.tab hP
  obtain ⟨o, vs, file, tf, flags, tg, inF, text, tt, op, ho, hd, h11, h2, h7, h9, h10, hop, hpd, htr, hne'⟩ := id hok
  unfold classCode codeAt
  rw [hc, if_neg (show ¬ ((Value.ref c == Value.none) = true) from Bool.false_ne_true)]
  refine wpAny_bind (wpAny_fieldsOf ho hd ?_)
  rw [h11]
  refine wpAny_bind (wpAny_fieldsOf hop hpd ?_)
  rw [hnf, h2, h7, h9, h10]
  refine wpAny_bind (wpAny_newCodeX fun c' P' h' tk hk hc' hP' hcode' htab' hrec' => ?_)
  have hop' := hk _ _ hop
  refine wpAny_bind (wpAny_updateFieldsOfTheText hop' hpd ?_)
  have e1 : op = tabObj ps := Option.some.inj (hop.symm.trans hP)
  have hnew : (Obj.mapFields (fun vs => if (codeAmong pos vs.toList).isSome = true then vs else vs ++ #[rawInt pos.line, rawInt pos.col, .ref c']) op) =
      tabObj (ps ++ #[rawInt pos.line, rawInt pos.col, .ref c']) := by
    rw [e1]; simp only [Obj.mapFields, hnf]; rfl
  have hget := Heap.get?_update_self (h := h') (fun o => Obj.mapFields (fun vs => if (codeAmong pos vs.toList).isSome = true then vs else
    vs ++ #[rawInt pos.line, rawInt pos.col, .ref c']) o) hop' (by rw [hnew]; rfl)
  rw [hnew] at hget
  refine wpAny_bind (wpAny_fieldsOf hget rfl ?_)
  have hl : (ps ++ #[rawInt pos.line, rawInt pos.col, Value.ref c']).toList = ps.toList ++ [rawInt pos.line, rawInt pos.col, .ref c'] := by simp
  rw [hl, codeAmong_snoc _ htr hnf]
  have hcP : c' ≠ P := Nat.ne_of_gt (Nat.lt_of_lt_of_le (Heap.lt_size hop) hc')
  have hP'P : P' ≠ P := Nat.ne_of_gt (Nat.lt_of_lt_of_le (Heap.lt_size hop) hP')
  have hx : Heap.ExtBut P s.heap (h'.update P _) := fun b o' hb e => ((Heap.SameBut.update h' P (fun o => Obj.mapFields (fun vs => if (codeAmong pos vs.toList).isSome = true then vs else
    vs ++ #[rawInt pos.line, rawInt pos.col, .ref c']) o)).extBut b o' hb (hk b o' e))
  have hch := CodeHd.of hcode' htab'
  obtain ⟨oc, r⟩ := id hch
  obtain ⟨vs', file', tf', fl', tg', inF', tx', tt', e5, r⟩ := r
  have e6 : h'.get? P' = some (tabObj #[]) := htab'.2
  refine wpAny_pure (h c' P' oc _ _ ⟨fun b ob e => ?_, fun p hp => ?_⟩ ⟨oc, vs', file', tf', fl', tg', inF', tx', tt', (Heap.SameBut.update ..).extBut _ _ hcP e5, r⟩ r.2.2.2.2.2.2.2.2 fun p hp => ?_)
  · refine hx b ob (fun q => ?_) (W.keep b ob e)
    rw [q, (W.at_ _ (.head _)).2] at e; cases e
  · rcases List.mem_cons.mp hp with rfl | hp
    · exact ⟨hget, (W.at_ _ (.head _)).2⟩
    rcases List.mem_cons.mp hp with rfl | hp
    · exact ⟨(Heap.SameBut.update ..).extBut _ _ hP'P e6, (W.fresh hP').1⟩
    rcases List.mem_cons.mp hp with rfl | hp
    · exact ⟨(Heap.SameBut.update ..).extBut _ _ hcP e5, (W.fresh hc').1⟩
    · exact ⟨hx _ _ (hne p hp) (W.at_ p (.tail _ hp)).1, (W.at_ p (.tail _ hp)).2⟩
  · have := Heap.lt_size (W.at_ p hp).1
    exact ⟨Nat.lt_of_lt_of_le this hc', Nat.lt_of_lt_of_le this hP'⟩
end
end Mine
end

section
open PySem PySem.SeqAt PySem.Challenge PySem.W PySem.Spec PySem.Calls PyProof.Rows
namespace Mine
noncomputable def kDef (l : Nat) (n : Str) : Nat × Str := (l, qK ++ Str.ofString "." ++ n)
/-- the six functions of K: line and name (they all stand in column 8) -/
noncomputable def kDefs : List (Nat × Str) := [kDef 8 (Str.ofString "__init__"), kDef 11 (Str.ofString "__lt__"), kDef 14 (Str.ofString "__gt__"), kDef 17 (Str.ofString "__eq__"), kDef 20 (Str.ofString "__le__"), kDef 23 (Str.ofString "__ge__")]
noncomputable def triples : List ((Nat × Str) × Addr) → List Value
  | [] => []
  | (d, a) :: r => rawInt ((d.1 : Nat) : Int) :: rawInt ((8 : Nat) : Int) :: .ref a :: triples r
/-- code a is there, by the name q -/
noncomputable def CodeIn (led : List (Addr × Obj)) (a : Addr) (q : Str) : Prop := ∃ oc fs t, (a, oc) ∈ led ∧ oc.data = .fields fs ∧ fs[1]? = some (.str q t) ∧ oc.cls = .type "code"
theorem CodeIn.mono {led led' : List (Addr × Obj)} {a : Addr} {q : Str} (h : CodeIn led a q) (hs : ∀ p ∈ led, p ∈ led') : CodeIn led' a q := by
  obtain ⟨oc, fs, t, h1, h2⟩ := h
  exact ⟨oc, fs, t, hs _ h1, h2⟩
/-- the codes in class K's code: those of the first i functions, or (b) all six -/
noncomputable def TabC (b : Bool) (i : Nat) (ps : Array Value) (led : List (Addr × Obj)) : Prop :=
  ∃ cs : List Addr, (b = false → cs.length = i) ∧ (b = true → cs.length = 6) ∧ ps = (triples (kDefs.zip cs)).toArray ∧ ∀ x ∈ kDefs.zip cs, CodeIn led x.2 x.1.2
theorem TabC.mono {b : Bool} {i : Nat} {ps : Array Value} {led led' : List (Addr × Obj)} (h : TabC b i ps led) (hs : ∀ p ∈ led, p ∈ led') : TabC b i ps led' := by
  obtain ⟨cs, h1, h1', h2, h3⟩ := h
  exact ⟨cs, h1, h1', h2, fun x hx => (h3 x hx).mono hs⟩
theorem TabC.full {b : Bool} {ps : Array Value} {led : List (Addr × Obj)} (h : TabC b 6 ps led) : TabC true 0 ps led := by
  obtain ⟨cs, h1, h1', h2, h3⟩ := h
  exact ⟨cs, (fun e => nomatch e), fun _ => by cases b; exact h1 rfl; exact h1' rfl, h2, h3⟩
theorem TabC.none_ : TabC false 0 #[] [] := ⟨[], fun _ => rfl, (fun e => nomatch e), rfl, fun x hx => by simp at hx⟩
theorem triples_ok : ∀ l, TriplesOk (triples l)
  | [] => trivial
  | (_, _) :: r => triples_ok r
theorem TabC.ok {b : Bool} {i : Nat} {ps : Array Value} {led : List (Addr × Obj)} (h : TabC b i ps led) : TriplesOk ps.toList := by
  obtain ⟨cs, _, _, rfl, _⟩ := h
  exact triples_ok _
theorem triples_app : ∀ l k, triples (l ++ k) = triples l ++ triples k
  | [], k => rfl
  | (d, a) :: r, k => by simp [triples, triples_app r k]
theorem triples_none {pos : Pos} (hc : pos.col = 8) : ∀ l : List ((Nat × Str) × Addr), (∀ x ∈ l, x.1.1 ≠ pos.line) → codeAmong pos (triples l) = none
  | [], _ => rfl
  | (d, a) :: r, h => by
    have h1 := h (d, a) (by simp)
    simp only [triples, codeAmong, rawInt]
    rw [if_neg]
    · exact triples_none hc r fun x hx => h x (by simp [hx])
    · simp only [Bool.and_eq_true, beq_iff_eq, not_and]
      intro e; exact absurd (Int.ofNat.inj e) h1
theorem triples_some {pos : Pos} (hc : pos.col = 8) {c : Addr} {q : Str} {k : List ((Nat × Str) × Addr)} : ∀ l : List ((Nat × Str) × Addr), (∀ x ∈ l, x.1.1 ≠ pos.line) → codeAmong pos (triples (l ++ ((pos.line, q), c) :: k)) = some (.ref c)
  | [], _ => by
    simp only [List.nil_append, triples, codeAmong, rawInt]
    rw [if_pos]
    simp [hc]
  | (d, a) :: r, h => by
    have h1 := h (d, a) (by simp)
    simp only [List.cons_append, triples, codeAmong, rawInt]
    rw [if_neg]
    · exact triples_some hc r fun x hx => h x (by simp [hx])
    · simp only [Bool.and_eq_true, beq_iff_eq, not_and]
      intro e; exact absurd (Int.ofNat.inj e) h1
/-- function i's code: not there yet, or there -/
theorem TabC.at_ {b : Bool} {i : Nat} {ps : Array Value} {led : List (Addr × Obj)} {pos : Pos} {q : Str} (h : TabC b i ps led) (hi : kDefs[i]? = some (pos.line, q)) (hc : pos.col = 8) :
    (b = false ∧ codeAmong pos ps.toList = none ∧ ∀ c' led', (∀ p ∈ led, p ∈ led') → CodeIn led' c' q → TabC b (i + 1) (ps ++ #[rawInt pos.line, rawInt pos.col, .ref c']) led') ∨
    (b = true ∧ ∃ c', codeAmong pos ps.toList = some (.ref c') ∧ CodeIn led c' q ∧ TabC b (i + 1) ps led) := by
  have hi6 : i < 6 := (List.getElem?_eq_some_iff.mp hi).1
  have hsplit : kDefs = kDefs.take i ++ (pos.line, q) :: kDefs.drop (i + 1) := by
    have := List.getElem?_eq_some_iff.mp hi
    rw [← this.2, ← List.drop_eq_getElem_cons, List.take_append_drop]
  have hpre : ∀ x ∈ kDefs.take i, x.1 ≠ pos.line := by
    have hnd : (kDefs.map (·.1)).Nodup := by decide
    intro x hx e
    rw [hsplit, List.map_append, List.map_cons] at hnd
    exact (List.nodup_append.mp hnd).2.2 x.1 (List.mem_map_of_mem hx) pos.line (by simp) e
  obtain ⟨cs, hl, hl', rfl, hr⟩ := h
  cases hb : b with
  | true =>
    subst hb
    have h6 := hl' rfl
    right
    have hci : i < cs.length := by lia
    have hcs : cs = cs.take i ++ cs[i] :: cs.drop (i + 1) := by rw [← List.drop_eq_getElem_cons, List.take_append_drop]
    have hz : kDefs.zip cs = (kDefs.take i).zip (cs.take i) ++ ((pos.line, q), cs[i]) :: (kDefs.drop (i + 1)).zip (cs.drop (i + 1)) := by
      rw [show kDefs.zip cs = (kDefs.take i ++ (pos.line, q) :: kDefs.drop (i + 1)).zip (cs.take i ++ cs[i] :: cs.drop (i + 1)) by rw [← hsplit, ← hcs]]
      rw [List.zip_append (by rw [List.length_take, List.length_take, show kDefs.length = 6 from rfl]; lia)]
      rfl
    refine ⟨rfl, cs[i], ?_, ?_, ⟨cs, (fun e => nomatch e), fun _ => h6, rfl, hr⟩⟩
    · rw [hz]
      exact triples_some hc _ fun x hx => hpre _ (List.of_mem_zip hx).1
    · exact hr ((pos.line, q), cs[i]) (by rw [hz]; simp)
  | false =>
    subst hb
    left
    have hli : cs.length = i := hl rfl
    have hz : kDefs.zip cs = (kDefs.take i).zip cs := by
      rw [show kDefs.zip cs = (kDefs.take i ++ (pos.line, q) :: kDefs.drop (i + 1)).zip (cs ++ []) by rw [← hsplit, List.append_nil]]
      rw [List.zip_append (by rw [List.length_take, show kDefs.length = 6 from rfl]; lia)]
      simp
    have hz2 : ∀ c', kDefs.zip (cs ++ [c']) = kDefs.zip cs ++ [((pos.line, q), c')] := fun c' => by
      rw [hz]
      rw [show kDefs.zip (cs ++ [c']) = (kDefs.take i ++ (pos.line, q) :: kDefs.drop (i + 1)).zip (cs ++ [c']) by rw [← hsplit]]
      rw [List.zip_append (by rw [List.length_take, show kDefs.length = 6 from rfl]; lia)]
      simp
    refine ⟨rfl, ?_, fun c' led' hs hcode => ⟨cs ++ [c'], (fun _ => by simp [hli]), (fun e => nomatch e), ?_, ?_⟩⟩
    · rw [hz]
      exact triples_none hc _ fun x hx => hpre _ (List.of_mem_zip hx).1
    · rw [hz2, triples_app, hc]
      simp [triples]
    · intro x hx
      rw [hz2] at hx
      rcases List.mem_append.mp hx with hx | hx
      · exact (hr x hx).mono hs
      · obtain rfl := List.mem_singleton.mp hx
        exact hcode
section
variable {M : Model} {A : Around} {E : Value → Shared → Prop} {s : Shared} {h₀ : Heap} {led : List (Addr × Obj)} {env : Env} {c P : Addr} {ps : Array Value} {pos : Pos} {firstLine : Nat} {name qual : Str} {params : Arguments} {body : List Stmt} {scope : Scope} {mg : Str → Option Value} {clos : List (Str × Addr)}
/-- a function made, with its code -/
theorem make_miss {Q : Value → Shared → Prop} (hcl : closureFor scope env = pure clos) (hge0 : env.globals = mainGlobals) (hg : s.heap.Ns mainGlobals mg) (hcode : env.code = .ref c) (C : CodeHd s.heap c P) (hP : s.heap.get? P = some (tabObj ps)) (ht : TriplesOk ps.toList)
    (hnf : codeAmong pos ps.toList = none) (hgP : mainGlobals ≠ P) (hb : s.heap.BuiltinsAt mg P)
    (h : ∀ c' oc fs t ctv doc h' tk, Heap.ExtBut P s.heap h' → s.heap.objs.size ≤ c' → h'.get? c' = some oc → oc.data = .fields fs → fs[1]? = some (.str qual t) → oc.cls = .type "code" → h'.get? P = some (tabObj (ps ++ #[rawInt pos.line, rawInt pos.col, .ref c'])) →
      Q (.ref h'.objs.size) { s with heap := h'.push (fnMade name qual params body scope clos doc ((mg "__name__").getD .none) c' ctv), toks := tk }) :
    wpAny M A (makeFunction name qual params (.stmts body) scope env [] [] [] pos firstLine) Q E s := by
  obtain ⟨bm, ob, b1, b2, _, b3, b4, b5, b6, b7⟩ := hb
  have fin : ∀ (h1 h' : Heap) (c' : Addr), (∀ b o, s.heap.get? b = some o → h1.get? b = some o) → s.heap.objs.size ≤ h1.objs.size → Heap.ExtBut P h1 h' → h1.objs.size ≤ c' → h'.CodeRec (.ref c') qual → (∃ P', h'.TableAt c' P' #[]) → h'.get? P = some (tabObj (ps ++ #[rawInt pos.line, rawInt pos.col, .ref c'])) →
      h'.Ns mainGlobals mg ∧ h'.get? bm = some ob ∧ ∀ ctv doc tk, Q (.ref h'.objs.size) { s with heap := h'.push (fnMade name qual params body scope clos doc ((mg "__name__").getD .none) c' ctv), toks := tk } := by
    intro h1 h' c' k1 k2 hx hge hrec htb htab
    have hx' : Heap.ExtBut P s.heap h' := fun b o hne e => hx b o hne (k1 b o e)
    obtain ⟨c2, oc, fs, t, e, e1, e2, e3⟩ := hrec
    cases e
    obtain ⟨P', ⟨o2, vs2, q1, q2, q3, _⟩, _⟩ := htb
    rw [e1] at q1; cases q1
    exact ⟨hg.extBut hx' hgP, hx' _ _ b3 b4, fun ctv doc tk => h c' oc fs t ctv doc h' tk hx' (Nat.le_trans k2 hge) e1 e2 e3 q2 htab⟩
  rw [makeFunction_eq]
  simp only [List.zip_nil_right, List.filterMap_nil, List.isEmpty_nil, if_true, pure_bind]
  unfold makeTail
  rw [hcl, hge0]
  refine wpAny_bind (wpAny_pure ?_)
  by_cases hn : clos = []
  · subst hn
    simp only [List.isEmpty_nil, if_true]
    refine wpAny_bind (wpAny_pure ?_)
    refine wpAny_bind (wpAny_functionCodeX hcode (C.code hP ht) (C.tab hP) hnf fun c' h' tk hx hge _ _ hrec htb htb' => ?_)
    obtain ⟨P', _, _, ht'⟩ := htb'
    obtain ⟨g1, g2, g3⟩ := fin s.heap h' c' (fun _ _ e => e) (Nat.le_refl _) hx hge hrec ⟨P', ht'⟩ htb.2
    refine wpAny_bind (wpAny_builtinsFor g1 b1 b2 g2 b5 b6 b7 ?_)
    refine wpAny_bind (wpAny_nsGet g1 ?_)
    cases hdoc : docOf body with
    | none => exact wpAny_bind (wpAny_pure (wpAny_newObj_type (g3 .none .none tk) (by size_fits)))
    | some x => exact wpAny_bind (wpAny_mkText (wpAny_newObj_type (g3 .none _ _) (by size_fits)))
  · have e : clos.isEmpty = false := by cases clos; exact absurd rfl hn; rfl
    rw [e]
    simp only [Bool.false_eq_true, if_false]
    refine wpAny_bind (wpAny_newTextTuple ?_)
    have up := fun b o (eb : s.heap.get? b = some o) => Heap.get?_push_of_some ({ cls := .type "tuple", data := .seq (List.map (fun x => Value.ref x.2) (clos.mergeSort fun a b => decide (a.1.cps.toList ≤ b.1.cps.toList))).toArray } : Obj) eb
    refine wpAny_bind (wpAny_functionCodeX hcode ((C.keeps fun b o eb => Heap.get?_push_of_some _ eb).code (Heap.get?_push_of_some _ hP) ht) ((C.keeps fun b o eb => Heap.get?_push_of_some _ eb).tab (Heap.get?_push_of_some _ hP)) hnf fun c' h' tk hx hge _ _ hrec htb htb' => ?_)
    obtain ⟨P', _, _, ht'⟩ := htb'
    obtain ⟨g1, g2, g3⟩ := fin _ h' c' (fun b o eb => Heap.get?_push_of_some _ eb) (by rw [Heap.size_push]; lia) hx hge hrec ⟨P', ht'⟩ htb.2
    refine wpAny_bind (wpAny_builtinsFor g1 b1 b2 g2 b5 b6 b7 ?_)
    refine wpAny_bind (wpAny_nsGet g1 ?_)
    cases hdoc : docOf body with
    | none => exact wpAny_bind (wpAny_pure (wpAny_newObj_type (g3 _ .none tk) (by size_fits)))
    | some x => exact wpAny_bind (wpAny_mkText (wpAny_newObj_type (g3 _ _ _) (by size_fits)))
theorem made_fn {b : Bool} {i : Nat} {D : Addr} {oD : Obj} {Q : Value → Shared → Prop} (W : Wn h₀ s.heap ((D, oD) :: (P, tabObj ps) :: led)) (hT : TabC b i ps led) (hi : kDefs[i]? = some (pos.line, qual)) (hcol : pos.col = 8) (C : CodeHd s.heap c P) (hcode : env.code = .ref c)
    (hD : ∀ p ∈ led, p.1 ≠ D) (hDP : D ≠ P) (hne : b = false → ∀ p ∈ led, p.1 ≠ P)
    (hcl : closureFor scope env = pure clos) (hge0 : env.globals = mainGlobals) (hg : h₀.Ns mainGlobals mg) (hb : ∃ bm ob, mg "__builtins__" = some (.ref bm) ∧ bm ≠ builtinsNs ∧ bm ≠ mainGlobals ∧ h₀.get? bm = some ob ∧ ob.cls = .type "module" ∧ ob.dict = some builtinsNs ∧ ob.data = .plain)
    (h : ∀ f c' ctv doc ps' led' h' tk, Wn h₀ h' ((D, oD) :: (P, tabObj ps') :: (f, fnMade name qual params body scope clos doc ((mg "__name__").getD .none) c' ctv) :: led') → (∀ q ∈ led, q ∈ led') → (b = true → ps' = ps) → TabC b (i + 1) ps' led' → CodeIn led' c' qual →
      (∀ p ∈ led', p.1 ≠ D) → (b = false → ∀ p ∈ led', p.1 ≠ P) → @Ne Nat f P → @Ne Nat f D → CodeHd h' c P → Q (.ref f) { s with heap := h', toks := tk }) :
    wpAny M A (makeFunction name qual params (.stmts body) scope env [] [] [] pos firstLine) Q E s := by
  have hP := W.at_ _ (.tail _ (.head _))
  have hgs : s.heap.Ns mainGlobals mg := hg.keeps W.keep
  obtain ⟨bm, ob, b1, b2, b2', b3, b4, b5, b6⟩ := hb
  have hbP : bm ≠ P := by
    rintro rfl
    rw [hP.2] at b3; cases b3
  have hgP : mainGlobals ≠ P := by
    rintro rfl
    obtain ⟨o, es, ep, e, _⟩ := hg
    rw [hP.2] at e; cases e
  have hba : s.heap.BuiltinsAt mg P := ⟨bm, ob, b1, b2, b2', hbP, W.keep _ _ b3, b4, b5, b6⟩
  rcases hT.at_ hi hcol with ⟨rfl, hnone, hnext⟩ | ⟨rfl, c', hsome, hci, hnext⟩
  · refine make_miss hcl hge0 hgs hcode C hP.1 hT.ok hnone hgP hba fun c' oc fs t ctv doc h' tk hx hge e1 e2 e3 e4 htab => ?_
    have hfr := W.fresh hge
    have W' : Wn h₀ h' ((D, oD) :: (P, tabObj (ps ++ #[rawInt pos.line, rawInt pos.col, .ref c'])) :: (c', oc) :: led) := by
      refine ⟨fun b o eb => hx b o (fun q => ?_) (W.keep b o eb), fun p hp => ?_⟩
      · rw [q, hP.2] at eb; cases eb
      · rcases List.mem_cons.mp hp with rfl | hp
        · exact ⟨hx _ _ hDP (W.at_ _ (.head _)).1, (W.at_ _ (.head _)).2⟩
        rcases List.mem_cons.mp hp with rfl | hp
        · exact ⟨htab, hP.2⟩
        rcases List.mem_cons.mp hp with rfl | hp
        · exact ⟨e1, hfr.1⟩
        · exact ⟨hx _ _ (hne rfl p hp) (W.at_ p (.tail _ (.tail _ hp))).1, (W.at_ p (.tail _ (.tail _ hp))).2⟩
    have hf := W'.fresh (Nat.le_refl h'.objs.size)
    refine h h'.objs.size c' ctv doc _ ((c', oc) :: led) _ tk ?_ (fun q hq => .tail _ hq) (fun e => nomatch e) (hnext c' _ (fun q hq => .tail _ hq) ⟨oc, fs, t, .head _, e2, e3, e4⟩) ⟨oc, fs, t, .head _, e2, e3, e4⟩ ?_ (fun _ => ?_) (fun e => hf.2 _ (.tail _ (.head _)) e.symm) (fun e => hf.2 _ (.head _) e.symm) ?_
    · refine ⟨fun b o eb => Heap.get?_push_of_some _ (W'.keep b o eb), fun p hp => ?_⟩
      rcases List.mem_cons.mp hp with rfl | hp
      · exact ⟨Heap.get?_push_of_some _ (W'.at_ _ (.head _)).1, (W.at_ _ (.head _)).2⟩
      rcases List.mem_cons.mp hp with rfl | hp
      · exact ⟨Heap.get?_push_of_some _ (W'.at_ _ (.tail _ (.head _))).1, hP.2⟩
      rcases List.mem_cons.mp hp with rfl | hp
      · exact ⟨Heap.get?_push_size _ rfl, hf.1⟩
      · exact ⟨Heap.get?_push_of_some _ (W'.at_ _ (.tail _ (.tail _ hp))).1, (W'.at_ _ (.tail _ (.tail _ hp))).2⟩
    · intro p hp
      rcases List.mem_cons.mp hp with rfl | hp
      · exact fun e => hfr.2 _ (.head _) e.symm
      · exact hD p hp
    · intro p hp
      rcases List.mem_cons.mp hp with rfl | hp
      · exact fun e => hfr.2 _ (.tail _ (.head _)) e.symm
      · exact hne rfl p hp
    · refine CodeHd.keeps (h := h') ?_ fun b o eb => Heap.get?_push_of_some _ eb
      obtain ⟨o, vs, file, tf, flags, tg, inF, text, tt, g1, r⟩ := C
      exact ⟨o, vs, file, tf, flags, tg, inF, text, tt, hx _ _ r.2.2.2.2.2.2.2.2 g1, r⟩
  · refine makeFunction_hit hcl hge0 hgs hcode C hP.1 hT.ok hsome hba fun ctv doc h' tk hk hge => ?_
    have W' : Wn h₀ h' ((D, oD) :: (P, tabObj ps) :: led) := W.grown hk
    have hf := W'.fresh (Nat.le_refl h'.objs.size)
    refine h h'.objs.size c' ctv doc _ led _ tk ?_ (fun q hq => hq) (fun _ => rfl) hnext hci hD (fun e => nomatch e) (fun e => hf.2 _ (.tail _ (.head _)) e.symm) (fun e => hf.2 _ (.head _) e.symm) (C.keeps fun b o eb => Heap.get?_push_of_some _ (hk b o eb))
    refine ⟨fun b o eb => Heap.get?_push_of_some _ (W'.keep b o eb), fun p hp => ?_⟩
    rcases List.mem_cons.mp hp with rfl | hp
    · exact ⟨Heap.get?_push_of_some _ (W'.at_ _ (.head _)).1, (W.at_ _ (.head _)).2⟩
    rcases List.mem_cons.mp hp with rfl | hp
    · exact ⟨Heap.get?_push_of_some _ (W'.at_ _ (.tail _ (.head _))).1, hP.2⟩
    rcases List.mem_cons.mp hp with rfl | hp
    · exact ⟨Heap.get?_push_size _ rfl, hf.1⟩
    · exact ⟨Heap.get?_push_of_some _ (W'.at_ _ (.tail _ (.tail _ hp))).1, (W'.at_ _ (.tail _ (.tail _ hp))).2⟩
noncomputable abbrev dictO (es : Array DictEntry) (n : Nat) : Obj := { cls := .type "dict", data := .dict es n }
theorem Wn.mono {h : Heap} {l k : List (Addr × Obj)} (W : Wn h₀ h l) (hs : ∀ p ∈ k, p ∈ l) : Wn h₀ h k := ⟨W.keep, fun p hp => W.at_ p (hs p hp)⟩
theorem Wn.trans {h h' : Heap} {l k : List (Addr × Obj)} (W : Wn h₀ h l) (V : Wn h h' k) : Wn h₀ h' (k ++ l) :=
  ⟨fun b o e => V.keep _ _ (W.keep b o e), fun p hp => by
    rcases List.mem_append.mp hp with hp | hp
    · refine ⟨(V.at_ p hp).1, ?_⟩
      cases e : h₀.get? p.1 with
      | none => rfl
      | some o => have := W.keep _ _ e; rw [(V.at_ p hp).2] at this; cases this
    · exact ⟨V.keep _ _ (W.at_ p hp).1, (W.at_ p hp).2⟩⟩
theorem Wn.head {h h' : Heap} {D : Addr} {o o' : Obj} (W : Wn h₀ h ((D, o) :: led)) (hD : ∀ p ∈ led, p.1 ≠ D) (hs : Heap.SameBut D h h') (e : h'.get? D = some o') : Wn h₀ h' ((D, o') :: led) := by
  refine ⟨fun b ob eb => (hs.2 b fun q => ?_).trans (W.keep b ob eb), fun p hp => ?_⟩
  · rw [q, (W.at_ _ (.head _)).2] at eb; cases eb
  · rcases List.mem_cons.mp hp with rfl | hp
    · exact ⟨e, (W.at_ _ (.head _)).2⟩
    · exact ⟨(hs.2 _ (hD p hp)).trans (W.at_ p (.tail _ hp)).1, (W.at_ p (.tail _ hp)).2⟩
end
section
variable {M : Model} {A : Around} {E : Value → Shared → Prop} {h₀ h : Heap} {g : Array GenState} {d : Drawn} {t : Nat} {os : OsState} {led : List (Addr × Obj)} {env : Env}
theorem lw_nsG {a : Addr} {m : Str → Option Value} {name : Str} {r : Option Value} {Q : Option Value → Shared → Prop} (W : Wn h₀ h led) (G : h₀.Ns a m) (e : m name = r) (hq : Q r ⟨h, g, d, t, os⟩) : wpAny M A (nsGet a name) Q E ⟨h, g, d, t, os⟩ :=
  wpAny_nsGet (G.keeps W.keep) (by rw [e]; exact hq)
/-- a name stored in a class's name space -/
theorem cls_store {D : Addr} {es : Array DictEntry} {n n' : Nat} {name : Str} {v : Value} {Q : Unit → Shared → Prop} (W : Wn h₀ h ((D, dictO es n) :: led)) (hD : ∀ p ∈ led, p.1 ≠ D) (hloc : env.locals = D)
    (hst : storeName env name v = localSet env name v) (hex : aRefKeyMayBeTheName name es = false) (f : Int → Tok → Array DictEntry)
    (hput : ∀ hv tk, Obj.putName name hv (.str name tk) v (dictO es n) = dictO (f hv tk) n')
    (hq : ∀ hv tk h' t', Wn h₀ h' ((D, dictO (f hv tk) n') :: led) → Q () ⟨h', g, d, t', os⟩) : wpAny M A (storeName env name v) Q E ⟨h, g, d, t, os⟩ := by
  subst hloc
  rw [hst]
  unfold localSet
  have h1 := (W.at_ _ (.head _)).1
  refine wpAny_bind (wpAny_load h1 ?_)
  refine wpAny_ite_true rfl ?_
  unfold nsSet
  refine wpAny_bind ?_
  unfold strHash
  refine wpAny_bind (lw_ask (wpAny_pure ?_))
  refine wpAny_bind (wpAny_mkText ?_)
  refine wpAny_bind (wpAny_loadPart' h1 ?_)
  refine wpAny_ite_false (by simp [hex]) ?_
  have hp := hput (if name.cps.isEmpty = true then 0 else reduceHash ((Setting.mk M.prog M.w.params).params.strHash name.cps)) t
  refine wpAny_updatePart' h1 (hq _ _ _ _ (W.head hD (Heap.SameBut.update ..) ((Heap.get?_update_self _ h1 ?_).trans (congrArg some hp))))
  rw [hp]; rfl
end
end Mine
end

section
open PySem PySem.SeqAt PySem.Challenge PySem.W PySem.Spec PySem.Calls PyProof.Rows
namespace Mine
section
variable {prog : Program} {w : World} {M : Model} {A : Around} {E : Value → Shared → Prop} {h₀ h : Heap} {g : Array GenState} {d : Drawn} {t : Nat} {os : OsState}
variable {hs : Nat → Int} {ts : Nat → Tok} {sl f0 f1 f2 f3 f4 f5 st : Addr}
noncomputable abbrev kEs4 (hs : Nat → Int) (ts : Nat → Tok) (v0 v2 : Value) (sl f0 f1 f2 f3 f4 f5 st M : Addr) : Array DictEntry := (kEs3 hs ts v0 v2 sl f0 f1 f2 f3 f4 f5 st M).push (ent (hs 13) (Str.ofString "__doc__") (ts 13) .none)
/-- the class K, made -/
noncomputable abbrev kObj6 (C NS t0 : Addr) (tn tq : Tok) : Obj :=
  { cls := .type "type", data := .cls { name := Str.ofString "K", bases := [.type "object"], mro := [.ref C, .type "object"], ns := NS, qualname := qK, hasDict := false, slotNames := [Str.ofString "obj"] },
    slots := #[some (.ref t0), none, some (.str (Str.ofString "K") tn), some (.str qK tq), some (.builtin "object.__new__"), some (.bool false)] }
theorem set_str : typeLookup (.type "str") "__set_name__" = pure none := by rw [typeLookup_type, builtinLookup_eq_fast]; kernel_rfl
theorem set_int : typeLookup (.type "int") "__set_name__" = pure none := by rw [typeLookup_type, builtinLookup_eq_fast]; kernel_rfl
theorem set_list : typeLookup (.type "list") "__set_name__" = pure none := by rw [typeLookup_type, builtinLookup_eq_fast]; kernel_rfl
theorem set_tuple : typeLookup (.type "tuple") "__set_name__" = pure none := by rw [typeLookup_type, builtinLookup_eq_fast]; kernel_rfl
theorem set_func : typeLookup (.type "function") "__set_name__" = pure none := by rw [typeLookup_type, builtinLookup_eq_fast]; kernel_rfl
theorem set_none : typeLookup (.type "NoneType") "__set_name__" = pure none := by rw [typeLookup_type, builtinLookup_eq_fast]; kernel_rfl
theorem set_memb : typeLookup (.type "member_descriptor") "__set_name__" = pure none := by rw [typeLookup_type, builtinLookup_eq_fast]; kernel_rfl
theorem stop_tc {α : Type} {m : Sem α} {k : Value → Sem α} {Q : α → Shared → Prop} {s : Shared} (hq : StopW (wpAny M A m Q (fun e s' => wpAny M A (k e) Q E s') s)) : wpAny M A (Sem.tryCatch m k) Q E s := wpAny_tryCatch hq
theorem stop_for {α β : Type} {a : Array α} {b : β} {f : α → β → Sem (ForInStep β)} {Q : β → Shared → Prop} {s : Shared} (hq : StopW (wpAny M A (forIn a b f) Q E s)) : wpAny M A (forIn a b f) Q E s := hq
noncomputable abbrev fnO (od : Option Addr) (fd : FuncData) (sl : Array (Option Value)) : Obj := ⟨.type "function", od, .func fd, sl⟩
theorem stop_refresh {a : Addr} {Q : Unit → Shared → Prop} {s : Shared} (hq : StopW (wpAny M A (Bind.refreshMaker a) Q E s)) : wpAny M A (Bind.refreshMaker a) Q E s := hq
theorem stop_install {v : Value} {a : Addr} {l : List Value} {p : Builtin.Slots.Plan} {Q : Unit → Shared → Prop} {s : Shared} (hq : StopW (wpAny M A (Builtin.Slots.install v a l p) Q E s)) : wpAny M A (Builtin.Slots.install v a l p) Q E s := hq
theorem regM19a : True := by
  k_with_none
  k_with "memK" => (with_reducible (first | assumption | exact List.mem_cons_self | (refine List.mem_cons_of_mem _ ?_; k_memK)))
  k_with "lcg_sub" => (first | exact updLast | exact updHd (by show @Ne Nat _ _; omega) | exact updHd2 (by show @Ne Nat _ _; omega) (by show @Ne Nat _ _; omega) | (refine' UpdF.tail (by (show @Ne Nat _ _; omega)) (by lcg_sub)))
  k_with "lcg_off" => (first | with_reducible refine PySem.wpAny_pure ?_ | with_reducible refine PySem.wpAny_bind ?_ | with_reducible refine PySem.wpAny_holding ?_ | (with_reducible refine stop_for ?_) | (with_reducible refine stop_tc ?_) | (with_reducible refine stop_refresh ?_) | (with_reducible refine stop_install ?_) | ((with_reducible apply lw_load); (focus ((assumption); done)); (focus ((k_memK); done))) | ((with_reducible apply lw_loadPart); (focus ((assumption); done)); (focus ((k_memK); done))) | ((with_reducible apply lw_loadO); (focus ((assumption); done)); (focus ((with_reducible assumption); done))) | ((with_reducible apply lw_loadPartO); (focus ((assumption); done)); (focus ((with_reducible assumption); done))) | ((with_reducible apply lw_alloc); (focus ((assumption); done)); (focus ((rfl); done)); intro aZq hZq WZq lZq; (try k_lt lZq)) | ((with_reducible apply lw_update); (focus ((assumption); done)); (focus ((lcg_sub); done)); (focus ((first | rfl | kernel_rfl!); done)); intro hZq WZq; (try dsimp only at WZq)) | ((with_reducible apply lw_updatePart); (focus ((assumption); done)); (focus ((lcg_sub); done)); (focus ((first | rfl | kernel_rfl!); done)); intro hZq WZq; (try dsimp only at WZq)) | (with_reducible refine lw_ask ?_) | ((with_reducible apply PySem.wpAny_ite_false); focus (kernel_rfl!; done)) | ((with_reducible apply PySem.wpAny_ite_true); focus (kernel_rfl!; done)) | with_reducible refine PySem.wpAny_of_eq (by assumption) ?_ | wp_delta | with_reducible refine PySem.wpAny_rule ?_ | with_reducible refine PySem.wpAny_standAt ?_ | with_reducible refine PySem.wpAny_point ?_ | with_reducible refine PySem.wpAny_fresh' ?_ | with_reducible refine PySem.wpAny_typeOf (by assumption) ?_ | with_reducible refine PySem.wpAny_specialOf_val (by assumption) (by assumption) ?_  | with_reducible refine PySem.wpAny_isInstance_val (by assumption) (by assumption) ?_  | with_reducible refine PySem.wpAny_isInstance (by assumption) (by assumption) ?_  | with_reducible (first | refine PySem.wpAny_runValue ?_ | refine PySem.wpAny_run ?_) | ((with_reducible apply PySem.wpAny_handled_none); focus (assumption; done)))
  trivial
set_option maxRecDepth 100000 in
set_option maxHeartbeats 4000000 in
theorem type_new {Q : PySem.Fin → Shared → Prop} {mn : Str} {li : Int} {tm tq ti : Tok} {t0 D0 : Addr} {tn tl : Tok} {ep n n2 : Nat} (hh : A.handled = none) (hlo : (D0 == sysModules) = false)
    (ht0 : h₀.get? t0 = some { cls := .type "tuple", data := .seq #[.type "object"] n })
    (hD0 : h₀.get? D0 = some { cls := .type "dict", data := .dict (kEs hs ts (.str mn tm) (.str qK tq) (.int li ti) sl f0 f1 f2 f3 f4 f5 st) ep })
    (hsl : h₀.get? sl = some { cls := .type "list", data := .seq #[.str (Str.ofString "obj") tl] n2 })
    {od0 od1 od2 od3 od4 od5 : Option Addr} {fd0 fd1 fd2 fd3 fd4 fd5 : FuncData} {s0 s1 s2 s3 s4 s5 : Array (Option Value)} {its : Array Value} {n3 : Nat}
    (hf0 : h₀.get? f0 = some (fnO od0 fd0 s0)) (hf1 : h₀.get? f1 = some (fnO od1 fd1 s1)) (hf2 : h₀.get? f2 = some (fnO od2 fd2 s2)) (hf3 : h₀.get? f3 = some (fnO od3 fd3 s3)) (hf4 : h₀.get? f4 = some (fnO od4 fd4 s4)) (hf5 : h₀.get? f5 = some (fnO od5 fd5 s5))
    (hst : h₀.get? st = some { cls := .type "tuple", data := .seq its n3 }) (hno : ∀ C, Looks (model prog w) h₀ (opaqueClassAbove (.ref C)) none)
    (hret : ∀ (C NS M : Addr) (h' : Heap) (t' : Nat) (hs : Nat → Int) (ts : Nat → Tok) (tm1 : Tok), Wn h₀ h' [(M, mObj C tm1), (C, kObj6 C NS t0 tn tq), (NS, { cls := .type "dict", data := .dict (kEs4 hs ts (.str mn tm) (.int li ti) sl f0 f1 f2 f3 f4 f5 st M) 3 })] →
      @LT.lt Nat _ NS C → @LT.lt Nat _ C M → Q (.done (.ret (.ref C))) ⟨h', g, d, t', os⟩) :
    wpAny (model prog w) A (Builtin.«type.__new__» ⟨[.type "type", .str "K" tn, .ref t0, .ref D0], []⟩) Q E ⟨h₀, g, d, t, os⟩ := by
  have e1 := sub_tuple; have e2 := sub_dict; have e3 := sub_type; have e4 := sub_object; have e5 := ty_object; have e6 := isT_object; have e7 := mro_object
  have e8 := turned_object; have e9 := extended_object; have e10 := iter_dict; have e11 := hook_type; have e12 := lin_object; have e13 := made_object
  have hb : (if ((some #[Value.type "object"]).getD #[]).toList.isEmpty = true then [Value.type "object"] else ((some #[Value.type "object"]).getD #[]).toList) = [Value.type "object"] := rfl
  have W00 : Wn h₀ h₀ [] := ⟨fun _ _ e => e, fun p hp => by cases hp⟩
  unfold Builtin.«type.__new__»
  repeat (first | (with_reducible refine slots_read hh hsl ?_) | k_extra "lcg_off")
  refine PySem.wpAny_ite_false (by simp [hlo]) ?_
  rw [hb]
  repeat (first | (with_reducible refine slots_read hh hsl ?_) | k_extra "lcg_off")
  intro h' t' hk
  have W0 : Wn h₀ h' [] := ⟨hk, fun p hp => by cases hp⟩
  clear hk e1 e2 e3 e6 e8 e9 e10 W00
  repeat k_extra "lcg_off"
  rename Wn _ _ _ => W1
  obtain ⟨C, hC⟩ := wnHead W1
  subst hC
  obtain ⟨NS, hNS⟩ := wnHead (wnTail W1)
  subst hNS
  have W2 : Wn h₀ _ [(C, { cls := .type "type", data := .cls { name := Str.ofString "K", bases := [.type "object"], mro := [], ns := NS, qualname := qK }, slots := #[some (.ref t0), none, some (.str (Str.ofString "K") tn), some (.str qK tq)] }),
    (NS, { cls := .type "dict", data := .dict (kEs2 hs ts (.str mn tm) (.int li ti) sl f0 f1 f2 f3 f4 f5 st) 1 })] := W1.cast (by kernel_rfl)
  clear W1 W0
  rw [flt]
  refine wpAny_of_eq (a := false) (by kernel_rfl) ?_
  repeat k_extra "lcg_off"
  clear W2
  rename Wn _ _ _ => W1
  have W2 : Wn h₀ _ [(C, kObj C NS t0 qK tn tq true []), (NS, { cls := .type "dict", data := .dict (kEs2 hs ts (.str mn tm) (.int li ti) sl f0 f1 f2 f3 f4 f5 st) 1 })] := W1.cast (by kernel_rfl)
  clear W1
  unfold StopW
  refine refresh W2 ?_
  repeat k_extra "lcg_off"
  unfold StopW
  refine install (by assumption) W2 ?_
  clear W2
  intro M h1 t1 hs1 ts1 tm1 W3 hCM
  have ew := givesWeak_object
  have hCM' : @LT.lt Nat _ C M := hCM
  repeat k_extra "lcg_off"
  rename Wn _ _ _ => W4
  have W5 : Wn h₀ _ [(M, mObj C tm1), (C, kObj6 C NS t0 tn tq), (NS, { cls := .type "dict", data := .dict (kEs4 (fun i => if i = 13 then strH w (Str.ofString "__doc__") else hs1 i) (fun i => if i = 13 then t1 else ts1 i) (.str mn tm) (.int li ti) sl f0 f1 f2 f3 f4 f5 st M) 3 })] := W4.cast (by kernel_rfl)
  clear W4 W3
  have hNC : @LT.lt Nat _ NS C := by assumption
  have n1 := set_str; have n2 := set_int; have n3 := set_list; have n4 := set_tuple; have n5 := set_func; have n6 := set_none; have n7 := set_memb
  unfold StopW
  repeat k_extra "lcg_off"
  unfold StopW
  refine forIn_arr rfl ?_ ?_
  · intro e he Q' hq'
    simp only [List.mem_cons, List.not_mem_nil, or_false, Array.toList_push, List.mem_append, or_assoc] at he
    rcases he with rfl | rfl | rfl | rfl | rfl | rfl | rfl | rfl | rfl | rfl | rfl | rfl | rfl
    all_goals (repeat k_extra "lcg_off")
    all_goals exact hq'
  repeat k_extra "lcg_off"
  unfold StopW
  refine forIn_arr rfl ?_ ?_
  · intro e he Q' hq'
    simp only [List.mem_cons, List.not_mem_nil, or_false, Array.toList_push, List.mem_append, or_assoc] at he
    rcases he with rfl | rfl | rfl | rfl | rfl | rfl | rfl | rfl | rfl | rfl | rfl | rfl | rfl
    all_goals (repeat k_extra "lcg_off")
    all_goals exact hq'
  refine wpAny_bind ?_
  refine super_self W5 (.tail _ (.head _)) rfl rfl ?_
  intro so h6 W6 l6
  refine wpAny_bind (wpAny_holding ?_)
  refine get_init_sub W6 (.tail _ (.head _)) rfl rfl (hno C) ?_
  intro b h7 W7
  refine wpAny_bind ?_
  refine call_init_sub W7 (.head _) (.tail _ (.tail _ (.tail _ (.head _)))) ?_
  repeat k_extra "lcg_off"
  exact hret C NS M _ _ _ _ tm1 (wnTail (wnTail W7)) hNC hCM'
end
end Mine
end

section
open PySem PySem.SeqAt PySem.Challenge PySem.W PySem.Spec PySem.Calls PyProof.Rows
namespace Mine
theorem tc_check (a b c : Value) : checkTypeCall "type" ⟨[a, b, c], []⟩ = pure () := by kernel_rfl
theorem tc_new (b c d : Value) : checkBuiltinCall "type.__new__" ⟨[.type "type", b, c, d], []⟩ = pure () := by kernel_rfl
theorem tc_made : Bind.madeBy (.type "type") = pure (some "type.__new__") := by kernel_rfl
theorem tc_mro : mroOf (.type "type") = pure [.type "type", .type "object"] := by rw [mroOf_type]; kernel_rfl
theorem tc_entry_new : entryFor table "type.__new__" = some Builtin.«type.__new__» := entryFor_of_tree (by kernel_rfl)
theorem tc_entry_init : entryFor table "type.__init__" = some Builtin.«type.__init__» := entryFor_of_tree (by kernel_rfl)
theorem tc_plain_new : plainId "type.__new__" = true := by decide +kernel
theorem tc_plain_init : plainId "type.__init__" = true := by decide +kernel
theorem tc_look : typeLookup (.type "type") "__init__" = pure (some (.builtin "type.__init__")) := by rw [typeLookup_type, builtinLookup_eq_fast]; kernel_rfl
theorem tc_slot : Slot "type" (Str.ofString "__init__") "type.__init__" :=
  .of (owner := "type") (n := "__init__") tc_look (by decide +kernel) (by decide +kernel) (by decide +kernel) (.inl (by decide +kernel)) sub_type
theorem tc_args (a b c d : Value) : argsOk "type.__init__" ⟨[a, b, c, d], []⟩ := by unfold argsOk; kernel_rfl
section
variable {prog : Program} {w : World} {M : Model} {A : Around} {E : Value → Shared → Prop} {h₀ h : Heap} {g : Array GenState} {d : Drawn} {t : Nat} {os : OsState}
variable {hs : Nat → Int} {ts : Nat → Tok} {sl f0 f1 f2 f3 f4 f5 st : Addr}
theorem stop_call {f : Value} {args : List Value} {kw : List (Str × Value)} {Q : Value → Shared → Prop} {s : Shared} (hq : StopW (wpAny M A (call f args kw) Q E s)) : wpAny M A (call f args kw) Q E s := hq
theorem regM20a : True := by
  k_with_none
  k_with "lcg_off" => (first | with_reducible refine PySem.wpAny_pure ?_ | with_reducible refine PySem.wpAny_bind ?_ | with_reducible refine PySem.wpAny_holding ?_ | (with_reducible refine stop_call ?_) | ((with_reducible apply lw_load); (focus ((assumption); done)); (focus ((k_memK); done))) | ((with_reducible apply lw_loadPart); (focus ((assumption); done)); (focus ((k_memK); done))) | ((with_reducible apply lw_loadO); (focus ((assumption); done)); (focus ((with_reducible assumption); done))) | ((with_reducible apply lw_loadPartO); (focus ((assumption); done)); (focus ((with_reducible assumption); done))) | ((with_reducible apply lw_alloc); (focus ((assumption); done)); (focus ((rfl); done)); intro aZq hZq WZq lZq; (try k_lt lZq)) | ((with_reducible apply lw_update); (focus ((assumption); done)); (focus ((lcg_sub); done)); (focus ((first | rfl | kernel_rfl!); done)); intro hZq WZq; (try dsimp only at WZq)) | ((with_reducible apply lw_updatePart); (focus ((assumption); done)); (focus ((lcg_sub); done)); (focus ((first | rfl | kernel_rfl!); done)); intro hZq WZq; (try dsimp only at WZq)) | (with_reducible refine lw_ask ?_) | ((with_reducible apply PySem.wpAny_ite_false); focus (kernel_rfl!; done)) | ((with_reducible apply PySem.wpAny_ite_true); focus (kernel_rfl!; done)) | with_reducible refine PySem.wpAny_of_eq (by assumption) ?_ | wp_delta | with_reducible refine PySem.wpAny_rule ?_ | with_reducible refine PySem.wpAny_standAt ?_ | with_reducible refine PySem.wpAny_point ?_ | with_reducible refine PySem.wpAny_fresh' ?_ | with_reducible refine PySem.wpAny_typeOf (by assumption) ?_ | with_reducible refine PySem.wpAny_specialOf_val (by assumption) (by assumption) ?_  | with_reducible refine PySem.wpAny_isInstance_val (by assumption) (by assumption) ?_  | with_reducible refine PySem.wpAny_isInstance (by assumption) (by assumption) ?_  | with_reducible (first | refine PySem.wpAny_runValue ?_ | refine PySem.wpAny_run ?_) | ((with_reducible apply PySem.wpAny_handled_none); focus (assumption; done)))
  trivial

set_option maxRecDepth 100000 in
set_option maxHeartbeats 4000000 in
theorem type_call {Q : Value → Shared → Prop} {mn : Str} {li : Int} {tm tq ti : Tok} {t0 D0 : Addr} {tn tl : Tok} {ep n n2 : Nat} (hh : A.handled = none) (hlo : (D0 == sysModules) = false)
    (ht0 : h₀.get? t0 = some { cls := .type "tuple", data := .seq #[.type "object"] n })
    (hD0 : h₀.get? D0 = some { cls := .type "dict", data := .dict (kEs hs ts (.str mn tm) (.str qK tq) (.int li ti) sl f0 f1 f2 f3 f4 f5 st) ep })
    (hsl : h₀.get? sl = some { cls := .type "list", data := .seq #[.str (Str.ofString "obj") tl] n2 })
    {od0 od1 od2 od3 od4 od5 : Option Addr} {fd0 fd1 fd2 fd3 fd4 fd5 : FuncData} {s0 s1 s2 s3 s4 s5 : Array (Option Value)} {its : Array Value} {n3 : Nat}
    (hf0 : h₀.get? f0 = some (fnO od0 fd0 s0)) (hf1 : h₀.get? f1 = some (fnO od1 fd1 s1)) (hf2 : h₀.get? f2 = some (fnO od2 fd2 s2)) (hf3 : h₀.get? f3 = some (fnO od3 fd3 s3)) (hf4 : h₀.get? f4 = some (fnO od4 fd4 s4)) (hf5 : h₀.get? f5 = some (fnO od5 fd5 s5))
    (hst : h₀.get? st = some { cls := .type "tuple", data := .seq its n3 }) (hno : ∀ C, Looks (model prog w) h₀ (opaqueClassAbove (.ref C)) none)
    (hret : ∀ (C NS M : Addr) (h' : Heap) (t' : Nat) (hs : Nat → Int) (ts : Nat → Tok) (tm1 : Tok), Wn h₀ h' [(M, mObj C tm1), (C, kObj6 C NS t0 tn tq), (NS, { cls := .type "dict", data := .dict (kEs4 hs ts (.str mn tm) (.int li ti) sl f0 f1 f2 f3 f4 f5 st M) 3 })] →
      @LT.lt Nat _ NS C → @LT.lt Nat _ C M → Q (.ref C) ⟨h', g, d, t', os⟩) :
    wpAny (model prog w) A (call (.type "type") [.str (Str.ofString "K") tn, .ref t0, .ref D0]) Q E ⟨h₀, g, d, t, os⟩ := by
  have hmro := tc_mro
  have hmade := tc_made
  have hct := tc_check (.str (Str.ofString "K") tn) (.ref t0) (.ref D0)
  refine wpAny_call (codeAny_of_tree ?_)
  show wpAny _ _ (callAny (.type "type") _) _ _ _
  refine wpAny_pure ⟨Code.quiet_builtin _ (by decide +kernel), codeAny_builtin F.entry_type_call ?_⟩
  rw [Around.under_plain (weight_type_call_type "type" _ []) (units_type_call_type "type" _ [])]
  have W : Wn h₀ h₀ [] := ⟨fun _ _ e => e, fun p hp => by cases hp⟩
  repeat k_extra "lcg_off"
  unfold StopW
  clear W hct hmade hmro
  refine wpAny_call (codeAny_call_builtin tc_plain_new tc_entry_new (wpAny_of_eq (tc_new _ _ _) ?_))
  refine type_new hh hlo ht0 hD0 hsl hf0 hf1 hf2 hf3 hf4 hf5 hst hno ?_
  intro C NS M h' t' hs' ts' tm1 W' l1 l2
  have hl := tc_look
  have hsub := sub_type
  have hbi := tc_slot.bind (.ref C)
  dsimp only
  repeat k_extra "lcg_off"
  unfold StopW
  have hC := (W'.at_ _ (.tail _ (.head _))).1
  refine wpAny_call (codeAny_call_builtin tc_plain_init tc_entry_init (tc_slot.check _ _ _ _ _ _ _ _ ⟨_, hC, rfl⟩ (tc_args _ _ _ _) ?_))
  unfold Builtin.«type.__init__»
  repeat k_extra "lcg_off"
  exact hret C NS M h' t' hs' ts' tm1 W' l1 l2
end
end Mine
end

section
open PySem PySem.SeqAt PySem.Challenge PySem.W PySem.Spec PySem.Calls PyProof.Rows LCg
namespace Mine
section
variable {g h : Heap} {L : Addr} {m : Str → Option Value} {news : List (Addr × Obj)} {oL : Obj}
theorem wn_of (F : Fr g L h m) (N : News g L h news) : ∃ oL, NsObj oL m ∧ Wn g h ((L, oL) :: news) := by
  obtain ⟨oL, e, hns⟩ := ns_obj F.ns
  refine ⟨oL, hns, F.keep, fun p hp => ?_⟩
  rcases List.mem_cons.mp hp with rfl | hp
  · refine ⟨e, ?_⟩
    cases q : g.get? L with
    | none => rfl
    | some o => exact absurd (Heap.lt_size q) (Nat.not_lt.mpr F.above)
  · exact ⟨(N p hp).1, (N p hp).2.2⟩
theorem wn_back (W : Wn g h ((L, oL) :: news)) (hns : NsObj oL m) (ha : g.objs.size ≤ L) (hne : ∀ p ∈ news, p.1 ≠ L) : Fr g L h m ∧ News g L h news :=
  ⟨⟨hns.ns (W.at_ _ (.head _)).1, W.keep, ha⟩, fun p hp => ⟨(W.at_ p (.tail _ hp)).1, hne p hp, (W.at_ p (.tail _ hp)).2⟩⟩
end
end Mine
end

section
open PySem PySem.SeqAt PySem.Challenge PySem.W PySem.Spec PySem.Calls PyProof.Rows
namespace Mine
theorem pr_type : typeOf (.builtin "type.__prepare__") = pure (.type "classmethod_descriptor") := by show builtinType _ = _; rw [builtinType_eq_fast]; kernel_rfl
theorem pr_look : typeLookup (.type "type") "__prepare__" = pure (some (.builtin "type.__prepare__")) := by rw [typeLookup_type, builtinLookup_eq_fast]; kernel_rfl
theorem pr_set : typeLookup (.type "classmethod_descriptor") "__set__" = pure none := by rw [typeLookup_type, builtinLookup_eq_fast]; kernel_rfl
theorem pr_del : typeLookup (.type "classmethod_descriptor") "__delete__" = pure none := by rw [typeLookup_type, builtinLookup_eq_fast]; kernel_rfl
theorem pr_owner : (kfb_private% "ownerAndName") "type.__prepare__" = ("type", "__prepare__") := by first | decide +kernel | kernel_rfl
theorem pr_ga_look : typeLookup (.type "type") "__getattribute__" = pure (some (.builtin "type.__getattribute__")) := by rw [typeLookup_type, builtinLookup_eq_fast]; kernel_rfl
theorem pr_opaque : opaqueClassAbove (.type "type") = pure none := by kernel_rfl
theorem pr_ty : typeOf (.type "type") = pure (.type "type") := by kernel_rfl
theorem pr_ga_slot : Slot "type" (Str.ofString "__getattribute__") "type.__getattribute__" :=
  .of (owner := "type") (n := "__getattribute__") pr_ga_look (by decide +kernel) (by decide +kernel) (by decide +kernel) (.inl (by decide +kernel)) sub_type
theorem pr_ga_args (a b : Value) : argsOk "type.__getattribute__" ⟨[a, b], []⟩ := by unfold argsOk; kernel_rfl
theorem pr_ga_check (v : Value) : checkBuiltinCall "type.__getattribute__" ⟨[.type "type", v], []⟩ = pure () := by kernel_rfl
theorem pr_ga_entry : entryFor table "type.__getattribute__" = some Builtin.«type.__getattribute__» := entryFor_of_tree (by kernel_rfl)
theorem pr_entry : entryFor table "type.__prepare__" = some Builtin.«type.__prepare__» := entryFor_of_tree (by kernel_rfl)
theorem pr_plain : plainId "type.__prepare__" = true := by decide +kernel
noncomputable abbrev prepO : Obj := { cls := .type "builtin_function_or_method", data := .fields #[.builtin "type.__prepare__", .type "type"] }
section
variable {prog : Program} {w : World} {A : Around} {E : Value → Shared → Prop} {h₀ h : Heap} {g : Array GenState} {d : Drawn} {t : Nat} {os : OsState} {led : List (Addr × Obj)}
theorem pr_get {P : PySem.Fin → Shared → Prop}
    (hp : P (.done (.ret (.ref h.objs.size))) ⟨h.push prepO, g, d, t, os⟩) :
    wpAny (model prog w) A (Builtin.«classmethod_descriptor.__get__» ⟨[.builtin "type.__prepare__", .none, .type "type"], []⟩) P E ⟨h, g, d, t, os⟩ := by
  unfold Builtin.«classmethod_descriptor.__get__»
  refine wpAny_bind (wpAny_of_eq (a := (.builtin "type.__prepare__", none, some (.type "type"))) (by first | rfl | kernel_rfl) ?_)
  simp only [pr_owner]
  refine wpAny_bind (wpAny_of_eq (a := .type "type") rfl ?_)
  refine wpAny_bind (wpAny_of_eq (show isType (.type "type") = pure true by kernel_rfl) ?_)
  refine KFB.if_not rfl ?_
  refine wpAny_bind (wpAny_of_eq sub_type ?_)
  refine KFB.if_not rfl ?_
  exact wpAny_bind (wpAny_newObj_type (wpAny_pure hp))
theorem regM22a : True := by
  k_with_none
  k_with "memK" => (with_reducible (first | assumption | exact List.mem_cons_self | (refine List.mem_cons_of_mem _ ?_; k_memK)))
  k_with "lcg_off" => (first | with_reducible refine PySem.wpAny_pure ?_ | with_reducible refine PySem.wpAny_bind ?_ | with_reducible refine PySem.wpAny_holding ?_ | (with_reducible refine stop_call ?_) | ((with_reducible apply lw_load); (focus ((assumption); done)); (focus ((k_memK); done))) | ((with_reducible apply lw_loadPart); (focus ((assumption); done)); (focus ((k_memK); done))) | ((with_reducible apply lw_loadO); (focus ((assumption); done)); (focus ((with_reducible assumption); done))) | ((with_reducible apply lw_loadPartO); (focus ((assumption); done)); (focus ((with_reducible assumption); done))) | ((with_reducible apply lw_alloc); (focus ((assumption); done)); (focus ((rfl); done)); intro aZq hZq WZq lZq; (try k_lt lZq)) | ((with_reducible apply lw_update); (focus ((assumption); done)); (focus ((lcg_sub); done)); (focus ((first | rfl | kernel_rfl!); done)); intro hZq WZq; (try dsimp only at WZq)) | ((with_reducible apply lw_updatePart); (focus ((assumption); done)); (focus ((lcg_sub); done)); (focus ((first | rfl | kernel_rfl!); done)); intro hZq WZq; (try dsimp only at WZq)) | (with_reducible refine lw_ask ?_) | ((with_reducible apply PySem.wpAny_ite_false); focus (kernel_rfl!; done)) | ((with_reducible apply PySem.wpAny_ite_true); focus (kernel_rfl!; done)) | with_reducible refine PySem.wpAny_of_eq (by assumption) ?_ | wp_delta | with_reducible refine PySem.wpAny_rule ?_ | with_reducible refine PySem.wpAny_standAt ?_ | with_reducible refine PySem.wpAny_point ?_ | with_reducible refine PySem.wpAny_fresh' ?_ | with_reducible refine PySem.wpAny_typeOf (by assumption) ?_ | with_reducible refine PySem.wpAny_specialOf_val (by assumption) (by assumption) ?_  | with_reducible refine PySem.wpAny_isInstance_val (by assumption) (by assumption) ?_  | with_reducible refine PySem.wpAny_isInstance (by assumption) (by assumption) ?_  | with_reducible (first | refine PySem.wpAny_runValue ?_ | refine PySem.wpAny_run ?_) | ((with_reducible apply PySem.wpAny_handled_none); focus (assumption; done)) | with_reducible_and_instances refine PySem.wpAny_pure ?_ | with_reducible_and_instances refine PySem.wpAny_bind ?_)
  trivial

set_option maxRecDepth 100000 in
set_option maxHeartbeats 2000000 in
theorem pr_ga {tk : Tok} {Q : PySem.Fin → Shared → Prop} (hq : Q (.done (.ret (.ref h.objs.size))) ⟨h.push prepO, g, d, t, os⟩) :
    wpAny (model prog w) A (Builtin.«type.__getattribute__» ⟨[.type "type", .str (Str.ofString "__prepare__") tk], []⟩) Q E ⟨h, g, d, t, os⟩ := by
  have e1 := pr_type; have e2 := pr_look; have e3 := pr_set; have e4 := pr_del; have e5 := pr_opaque; have e6 := pr_ty; have e7 := look_get
  have W : Wn h h [] := ⟨fun _ _ e => e, fun p hp => by cases hp⟩
  unfold Builtin.«type.__getattribute__»
  repeat k_extra "lcg_off"
  unfold StopW
  refine wpAny_call_entry KFB.slot_get pr_type KFB.entry_get (pr_get ⟨_, rfl, ?_⟩) (KFB.args_get _ _ _)
  exact wpAny_pure hq
set_option maxRecDepth 100000 in
set_option maxHeartbeats 2000000 in
theorem prep_attr {Q : Option Value → Shared → Prop} (hq : Q (some (.ref h.objs.size)) ⟨h.push prepO, g, d, t + 1, os⟩) :
    wpAny (model prog w) A (getAttr? (.type "type") (Str.ofString "__prepare__")) Q E ⟨h, g, d, t, os⟩ := by
  unfold getAttr? getAttrBy? getAttrBy
  refine wpAny_bind (wpAny_mkText (wpAny_bind (wpAny_attempt ?_)))
  refine wpAny_holding (wpAny_bind (wpAny_of_eq pr_ty (wpAny_bind (wpAny_of_eq pr_ga_look ?_))))
  show wpAny _ _ (getAttrByItsOwn (.type "type") (.str (Str.ofString "__prepare__") t) (.type "type") (.builtin "type.__getattribute__") false false) _ _ _
  unfold getAttrByItsOwn hookBefore callGetattribute boundAndCalled
  refine wpAny_bind (wpAny_of_eq (show (if onTheHeap (.type "type") then typeLookup (.type "type") "__getattr__" else pure none) = pure none from rfl) ?_)
  refine wpAny_bind (wpAny_attempt (wpAny_holding ?_))
  show wpAny _ _ (bindSpecial (.builtin "type.__getattribute__") (.type "type") >>= _) _ _ _
  refine wpAny_bind (wpAny_of_eq (pr_ga_slot.bind _) ?_)
  refine wpAny_mono (Q := fun v s' => v = .ref h.objs.size ∧ s' = ⟨h.push prepO, g, d, t + 1, os⟩) (E := fun _ _ => False)
    (wpAny_call_entry pr_ga_slot pr_ty pr_ga_entry (pr_ga ⟨_, rfl, rfl, rfl⟩) (pr_ga_args _ _)) (fun v s' hv => ?_) fun _ _ z => z.elim
  obtain ⟨rfl, rfl⟩ := hv
  exact wpAny_pure (wpAny_pure hq)
set_option maxRecDepth 100000 in
set_option maxHeartbeats 2000000 in
theorem prep_callW {b : Addr} {x y : Value} {Q : Value → Shared → Prop} (W : Wn h₀ h led) (hb : (b, prepO) ∈ led) (hq : ∀ D h', Wn h₀ h' ((D, dictO #[] 0) :: led) → (∀ p ∈ led, p.1 < D) → Q (.ref D) ⟨h', g, d, t, os⟩) :
    wpAny (model prog w) A (call (.ref b) [x, y] []) Q E ⟨h, g, d, t, os⟩ := by
  refine wpAny_call (codeAny_of_tree ?_)
  show wpAny _ _ (callAny (.ref b) _) _ _ _
  unfold callAny
  repeat k_extra "lcg_off"
  have e1 := sub_tm; have e2 := pr_ty
  rw [show ((Manifest.find? "type").elim "type" fun x => x.metatype) = "type" by kernel_rfl]
  repeat k_extra "lcg_off"
  refine ⟨plainId_quiet pr_plain _, codeAny_builtin pr_entry ?_⟩
  rw [Around.under_plainId pr_plain _]
  unfold Builtin.«type.__prepare__»
  repeat k_extra "lcg_off"
  exact hq _ _ (by assumption) (by assumption)
theorem Wn.push {o : Obj} (W : Wn h₀ h led) (hf : o.isFreed = false) : Wn h₀ (h.push o) ((h.objs.size, o) :: led) :=
  ⟨fun b o' e => Heap.get?_push_of_some _ (W.keep b o' e), fun p hp => by
    rcases List.mem_cons.mp hp with rfl | hp
    · exact ⟨Heap.get?_push_size _ hf, (W.fresh (Nat.le_refl _)).1⟩
    · exact ⟨Heap.get?_push_of_some _ (W.at_ p hp).1, (W.at_ p hp).2⟩⟩
theorem prep_attrW {Q : Option Value → Shared → Prop} (W : Wn h₀ h led) (hq : ∀ b h', Wn h₀ h' ((b, prepO) :: led) → (∀ p ∈ led, p.1 < b) → Q (some (.ref b)) ⟨h', g, d, t + 1, os⟩) :
    wpAny (model prog w) A (getAttr? (.type "type") (Str.ofString "__prepare__")) Q E ⟨h, g, d, t, os⟩ :=
  prep_attr (hq _ _ (W.push rfl) fun p hp => Heap.lt_size (W.at_ p hp).1)
end
end Mine
end

section
open PySem PySem.SeqAt PySem.Challenge PySem.W PySem.Spec PySem.Calls PyProof.Rows
namespace Mine
noncomputable def CodeO (o : Obj) (P : Addr) : Prop := ∃ vs file tf flags tg inF text tt, o.cls = .type "code" ∧ o.data = .fields vs ∧ vs[11]? = some (.ref P) ∧ vs.getD 11 .none = .ref P ∧ vs.getD 18 .none = .str file tf ∧ vs.getD 7 .none = .int flags tg ∧ vs.getD 9 .none = .bool inF ∧ vs.getD 10 .none = .int text tt
theorem CodeO.hd {o : Obj} {c P : Addr} {h : Heap} (x : CodeO o P) (e : h.get? c = some o) (hne : @Ne Nat c P) : CodeHd h c P := by
  obtain ⟨vs, file, tf, flags, tg, inF, text, tt, h1, h2, h3, h4, h5, h6, h7, h8⟩ := x
  exact ⟨o, vs, file, tf, flags, tg, inF, text, tt, e, h1, h2, h3, h4, h5, h6, h7, h8, hne⟩
theorem CodeO.of {c P : Addr} {h : Heap} {o : Obj} (x : CodeHd h c P) (e : h.get? c = some o) : CodeO o P := by
  obtain ⟨o', vs, file, tf, flags, tg, inF, text, tt, e', h1, h2, h3, h4, h5, h6, h7, h8, _⟩ := x
  rw [e] at e'
  cases e'
  exact ⟨vs, file, tf, flags, tg, inF, text, tt, h1, h2, h3, h4, h5, h6, h7, h8⟩
/-- the table of the codes in cmp_to_key: empty, or with class K's code, that has all six -/
noncomputable def TabK (tb : Array Value) (nw : List (Addr × Obj)) : Prop :=
  tb = #[] ∨ ∃ (cc : Addr) (oc : Obj) (P : Addr) (ps : Array Value), tb = #[rawInt ((4 : Nat) : Int), rawInt ((4 : Nat) : Int), .ref cc] ∧ (cc, oc) ∈ nw ∧ CodeO oc P ∧ @Ne Nat cc P ∧ (P, tabObj ps) ∈ nw ∧ TabC true 0 ps nw
theorem TabK.mono {tb : Array Value} {nw nw' : List (Addr × Obj)} (h : TabK tb nw) (hs : ∀ q ∈ nw, q ∈ nw') : TabK tb nw' := by
  rcases h with h | ⟨cc, oc, P, ps, h1, h2, h3, h4, h5, h6⟩
  · exact .inl h
  · exact .inr ⟨cc, oc, P, ps, h1, hs _ h2, h3, h4, hs _ h5, h6.mono hs⟩
section
variable {M : Model} {A : Around} {E : Value → Shared → Prop} {h₀ h : Heap} {g : Array GenState} {d : Drawn} {t : Nat} {os : OsState} {led : List (Addr × Obj)} {env : Env} {pos : Pos} {fl : Nat} {name qn : Str} {scope : Scope} {tb : Array Value}
theorem class_code_any {Q : Value → Shared → Prop} (W : Wn h₀ h ((16, tabObj tb) :: led)) (C : CodeHd h₀ 20 16) (hcode : env.code = .ref 20) (hT : TabK tb led) (hne : ∀ p ∈ led, p.1 ≠ 16) (hl : pos.line = 4) (hc : pos.col = 4)
    (hq : ∀ b cc oc P ps h' t', Wn h₀ h' ((P, tabObj ps) :: (16, tabObj #[rawInt ((4 : Nat) : Int), rawInt ((4 : Nat) : Int), .ref cc]) :: (cc, oc) :: led) → CodeO oc P → @Ne Nat cc P → TabC b 0 ps led → (b = true → (P, tabObj ps) ∈ led ∧ (cc, oc) ∈ led) →
      (b = false → (∀ p ∈ led, p.1 ≠ P) ∧ ∀ p ∈ led, p.1 ≠ cc) → @Ne Nat P 16 → @Ne Nat cc 16 → Q (.ref cc) ⟨h', g, d, t', os⟩) :
    wpAny M A (classCode env pos fl name qn scope) Q E ⟨h, g, d, t, os⟩ := by
  have C' : CodeHd h 20 16 := C.keeps W.keep
  rcases hT with rfl | ⟨cc, oc, P, ps, rfl, h1, h2, h3, h4, h5⟩
  · refine class_code (s := ⟨h, g, d, t, os⟩) W hcode C' hne trivial rfl fun c' P' oc h' tk W' hh hne' hlt => ?_
    have e : (#[] : Array Value) ++ #[rawInt pos.line, rawInt pos.col, .ref c'] = #[rawInt ((4 : Nat) : Int), rawInt ((4 : Nat) : Int), .ref c'] := by rw [hl, hc]; rfl
    rw [e] at W'
    have l1 := hlt _ (.head _)
    refine hq false c' oc P' #[] h' tk (W'.mono fun p hp => ?_) (.of hh (W'.at_ _ (.tail _ (.tail _ (.head _)))).1) hne' (TabC.none_.mono fun p hp => by cases hp) (fun e => nomatch e) (fun _ => ⟨fun p hp => Nat.ne_of_lt (hlt p (.tail _ hp)).2, fun p hp => Nat.ne_of_lt (hlt p (.tail _ hp)).1⟩) (Nat.ne_of_gt l1.2) (Nat.ne_of_gt l1.1)
    rcases List.mem_cons.mp hp with rfl | hp
    · exact .tail _ (.head _)
    rcases List.mem_cons.mp hp with rfl | hp
    · exact .head _
    · exact .tail _ (.tail _ hp)
  · refine wpAny_codeAt_hit hcode (C'.code (W.at_ _ (.head _)).1 trivial) (c' := .ref cc) ?_ (hq true cc oc P ps h t (W.mono fun p hp => ?_) h2 h3 h5 (fun _ => ⟨h4, h1⟩) (fun e => nomatch e) (hne _ h4) (hne _ h1))
    · simp only [codeAmong, rawInt, hl, hc]
      simp
    · rcases List.mem_cons.mp hp with rfl | hp
      · exact .tail _ h4
      rcases List.mem_cons.mp hp with rfl | hp
      · exact .head _
      rcases List.mem_cons.mp hp with rfl | hp
      · exact .tail _ h1
      · exact .tail _ hp
end
end Mine
end

section
open PySem PySem.SeqAt PySem.Challenge PySem.W PySem.Spec PySem.Calls PyProof.Rows
namespace Mine
theorem loadName_cls {env : Env} {name : Str} (hk : env.scope.kind = .class) (hb : env.blockKind = .class) (hn : env.kindOf name = none) (hc : compilersOwnNames.contains name = true) :
    loadName env name = (localGet env name >>= fun r => match r with | some v => pure v | none => loadGlobal env name) := by
  unfold loadName
  rw [if_neg (by rw [hk]; simp [ScopeKind.isAnnotationScope])]
  rw [hb, hn]
  simp only [hc, Bool.not_true, Bool.false_eq_true, if_false]
  refine congrArg _ (funext fun r => ?_)
  cases r <;> rfl
section
variable {M : Model} {A : Around} {E : Value → Shared → Prop} {h₀ h : Heap} {g : Array GenState} {d : Drawn} {t : Nat} {os : OsState} {led : List (Addr × Obj)} {env : Env} {name : Str}
/-- a global name read in a class's body -/
theorem cls_load {D : Addr} {es : Array DictEntry} {n : Nat} {v : Value} {mg : Str → Option Value} {Q : Value → Shared → Prop} (W : Wn h₀ h ((D, dictO es n) :: led)) (hloc : env.locals = D)
    (hk : env.scope.kind = .class) (hb : env.blockKind = .class) (hn : env.kindOf name = none) (hc : compilersOwnNames.contains name = true) (hnf : nsLook name (dictO es n) = pure none) (hge : env.globals = mainGlobals) (hg : h₀.Ns mainGlobals mg) (hm : mg name = some v) (hq : Q v ⟨h, g, d, t, os⟩) :
    wpAny M A (loadName env name) Q E ⟨h, g, d, t, os⟩ := by
  subst hloc
  have h1 := (W.at_ _ (.head _)).1
  rw [loadName_cls hk hb hn hc]
  refine wpAny_bind ?_
  unfold localGet
  refine wpAny_bind (wpAny_load h1 ?_)
  refine wpAny_ite_true rfl ?_
  unfold nsGet
  refine wpAny_bind (wpAny_bind (wpAny_loadPart' h1 ?_))
  refine wpAny_pure ?_
  show wpAny _ _ (nsLook name (dictO es n)) _ _ _
  rw [hnf]
  refine wpAny_pure ?_
  show wpAny _ _ (loadGlobal env name) _ _ _
  unfold loadGlobal
  rw [hge]
  refine wpAny_bind (lw_nsG W hg hm ?_)
  exact wpAny_pure hq
end
end Mine
namespace Mine
theorem Wn.third {h₀ h : Heap} {x y z : Addr × Obj} {r : List (Addr × Obj)} (W : Wn h₀ h (x :: y :: z :: r)) : Wn h₀ h (y :: z :: x :: r) := W.mono fun p hp => by
  simp only [List.mem_cons] at hp ⊢
  rcases hp with h | h | h | h <;> simp [h]
end Mine
end

section
open PySem PySem.SeqAt PySem.Challenge PySem.W PySem.Spec PySem.Calls PyProof.Rows LCg
namespace Mine
/-- an object of the class C that holds x -/
noncomputable abbrev instO (C d : Addr) (x : Value) : Obj := { cls := .ref C, dict := some d, data := .plain, slots := #[some x] }
/-- what calling the class C answers, over the ledger nw -/
noncomputable def KNew (w : World) (C : Addr) (nw : List (Addr × Obj)) : Prop :=
  ∀ {mean : ExcName → Option Value} {mg mb : Str → Option Value} {news : List (Addr × Obj)} {cn : Str} {sn : List (Str × NameKind)} {sg sc : Bool} {sm : List (Str × Const)} {a : Addr} {ccd : Value} {cl : List (Str × Addr)} {outer : List Env} {A₀ : Around} {base h₀ : Heap} {L : Addr} {m : Str → Option Value} {s : Shared} {Q : Value → Shared → Prop} {E : Value → Shared → Prop} {x : Addr},
    Below A₀ base outer h₀ → Fr h₀ L s.heap m → (Mine.hd.heap_39 w.params).In h₀ → News h₀ L s.heap news → Top topProg LoB mean mg mb h₀ → (∀ q ∈ nw, q ∈ news) →
    (∀ (k d : Addr) (h' : Heap) (tk' : Nat), Fr h₀ L h' m → News h₀ L h' ((k, instO C d (.ref x)) :: news) → (∀ p ∈ news, p.1 ≠ k) → Q (.ref k) { s with heap := h', toks := tk' }) →
    wpAny (model rw_xi0007_01.prog w) (kTop 7 cn sn sg sc sm L a ccd cl outer) (call (.ref C) [.ref x]) Q E s
/-- what the comparing function answers at two values, over the ledger -/
noncomputable def FnCmp (w : World) (v x y : Value) (nw : List (Addr × Obj)) (r : Int) : Prop :=
  ∀ {mean : ExcName → Option Value} {mg mb : Str → Option Value} {news : List (Addr × Obj)} {cn : Str} {sn : List (Str × NameKind)} {sg sc : Bool} {sm : List (Str × Const)} {a : Addr} {ccd : Value} {cl : List (Str × Addr)} {outer : List Env} {A₀ : Around} {base h₀ : Heap} {L : Addr} {m : Str → Option Value} {s : Shared} {Q : Value → Shared → Prop} {E : Value → Shared → Prop},
    Below A₀ base outer h₀ → Fr h₀ L s.heap m → (Mine.hd.heap_39 w.params).In h₀ → News h₀ L s.heap news → Top topProg LoB mean mg mb h₀ → (∀ q ∈ nw, q ∈ news) →
    (∀ (t : Tok) (h' : Heap) (tk' : Nat), Fr h₀ L h' m → News h₀ L h' news → Q (.int r t) { s with heap := h', toks := tk' }) →
    wpAny (model rw_xi0007_01.prog w) (kTop 8 cn sn sg sc sm L a ccd cl outer) (call v [x, y]) Q E s
/-- what `<` answers at two instances of the class C -/
noncomputable def KLess (w : World) (C fv : Addr) (nw : List (Addr × Obj)) : Prop :=
  ∀ {mean : ExcName → Option Value} {mg mb : Str → Option Value} {news pn : List (Addr × Obj)} {cn : Str} {sn : List (Str × NameKind)} {sg sc : Bool} {sm : List (Str × Const)} {a : Addr} {ccd : Value} {cl : List (Str × Addr)} {outer : List Env} {A₀ : Around} {base h₀ : Heap} {L : Addr} {m : Str → Option Value} {s : Shared} {Q : Value → Shared → Prop} {E : Value → Shared → Prop} {x y k1 k2 d1 d2 : Addr} {r : Int} {fc : Value} {fo : Option Addr} {fd : FuncData} {fs : Array (Option Value)},
    Below A₀ base outer h₀ → Fr h₀ L s.heap m → (Mine.hd.heap_39 w.params).In h₀ → News h₀ L s.heap news → Top topProg LoB mean mg mb h₀ → (∀ q ∈ nw, q ∈ news) → (∀ q ∈ pn, q ∈ news) →
    (k1, instO C d1 (.ref x)) ∈ news → (k2, instO C d2 (.ref y)) ∈ news → (fv, (⟨fc, fo, .func fd, fs⟩ : Obj)) ∈ news → FnCmp w (.ref fv) (.ref x) (.ref y) pn r →
    (∀ (h' : Heap) (tk' : Nat), Fr h₀ L h' m → News h₀ L h' news → Q (.bool (decide (r < 0))) { s with heap := h', toks := tk' }) →
    wpAny (model rw_xi0007_01.prog w) (kTop 7 cn sn sg sc sm L a ccd cl outer) (richCompare .Lt (.ref k1) (.ref k2)) Q E s
noncomputable def KMade (w : World) (g1 : Heap) (L1 fv : Addr) (news : List (Addr × Obj)) (s s' : Shared) : Prop :=
  ∃ (C : Addr) (m2 : Str → Option Value) (tb' : Array Value) (nw : List (Addr × Obj)) (h' : Heap) (t' : Nat), s' = { s with heap := h', toks := t' } ∧ Fr g1 L1 h' m2 ∧ m2 (Str.ofString "K") = some (.ref C) ∧ News g1 L1 h' ((16, tabObj tb') :: nw) ∧ (∀ q ∈ news, q ∈ nw) ∧ (∀ p ∈ nw, p.1 ≠ 16) ∧ TabK tb' nw ∧ KNew w C nw ∧ KLess w C fv nw
theorem Wn.apart {g h h' : Heap} {l k : List (Addr × Obj)} (W : Wn g h l) (V : Wn h h' k) : ∀ p ∈ k, ∀ q ∈ l, q.1 ≠ p.1 := fun p hp q hq e => by
  have h1 := (V.at_ p hp).2
  rw [← e, (W.at_ q hq).1] at h1
  cases h1
theorem Wn.same {g h : Heap} {l : List (Addr × Obj)} {a : Addr} {o o' : Obj} (W : Wn g h l) (h1 : (a, o) ∈ l) (h2 : (a, o') ∈ l) : o = o' :=
  Option.some.inj ((W.at_ _ h1).1.symm.trans (W.at_ _ h2).1)
/-- the ledger without the frame's names and the table 16 -/
theorem fin_led {g h : Heap} {l : List (Addr × Obj)} {L : Addr} {oL : Obj} {m : Str → Option Value} {tb : Array Value} (W : Wn g h l) (hL : (L, oL) ∈ l) (h16 : (16, tabObj tb) ∈ l) (hns : NsObj oL m) :
    ∃ nw : List (Addr × Obj), (∀ p ∈ (nw : List (Addr × Obj)), p ∈ l ∧ p.1 ≠ L ∧ p.1 ≠ 16) ∧ (∀ p ∈ l, p.1 ≠ L → p.1 ≠ 16 → p ∈ nw) ∧ (∀ a o, (a, o) ∈ l → (∀ es n, o.data ≠ .dict es n) → o ≠ tabObj tb → (a, o) ∈ nw) := by
  have hin : ∀ p ∈ l, p.1 ≠ L → p.1 ≠ 16 → p ∈ l.filter fun p => !(p.1 == L) && !(p.1 == 16) := fun p hp h1 h2 =>
    List.mem_filter.mpr ⟨hp, by
      have e1 : (p.1 == L) = false := beq_eq_false_iff_ne.mpr h1
      have e2 : (p.1 == 16) = false := beq_eq_false_iff_ne.mpr h2
      rw [e1, e2]; rfl⟩
  refine ⟨l.filter fun p => !(p.1 == L) && !(p.1 == 16), fun p hp => ?_, hin, fun a o hm hd ht => hin _ hm (fun e => ?_) (fun e => ?_)⟩
  · obtain ⟨h1, h2⟩ := List.mem_filter.mp hp
    simp only [Bool.and_eq_true, Bool.not_eq_true', beq_eq_false_iff_ne, ne_eq] at h2
    exact ⟨h1, h2⟩
  · dsimp only at e
    subst e
    obtain ⟨es, ep, hdd, _⟩ := hns
    rw [W.same hm hL] at hd
    exact hd _ _ hdd
  · dsimp only at e
    subst e
    exact ht (W.same hm h16)
theorem TabC.to {b : Bool} {i : Nat} {ps : Array Value} {led led' : List (Addr × Obj)} (h : TabC b i ps led) (hs : ∀ a oc fs t q, (a, oc) ∈ led → oc.data = .fields fs → fs[1]? = some (.str q t) → (a, oc) ∈ led') : TabC b i ps led' := by
  obtain ⟨cs, h1, h1', h2, h3⟩ := h
  refine ⟨cs, h1, h1', h2, fun x hx => ?_⟩
  obtain ⟨oc, fs, t, e1, e2, e3, e4⟩ := h3 x hx
  exact ⟨oc, fs, t, hs _ _ _ _ _ e1 e2 e3, e2, e3, e4⟩
/-- storing a local name -/
theorem put_local {M : Model} {A : Around} {E : Value → Shared → Prop} {s : Shared} {g : Heap} {L : Addr} {m : Str → Option Value} {news : List (Addr × Obj)} {env : Env} {x : Str} {v : Value} {Q : Unit → Shared → Prop} (F : Fr g L s.heap m) (N : News g L s.heap news)
    (hst : storeName env x v = nsSet env.locals x v) (hl : env.locals = L)
    (hq : ∀ h' tk', Fr g L h' (fun y => if y = x then some v else m y) → News g L h' news → Q () { s with heap := h', toks := tk' }) : wpAny M A (storeName env x v) Q E s := by
  subst hl
  rw [hst]
  refine wpAny_nsSet F.ns fun h' n' s' => hq h' _ (F.set n' s') fun p hp => ⟨(s'.2 _ (N p hp).2.1).trans (N p hp).1, (N p hp).2⟩
end Mine
end

section
open PySem PySem.SeqAt PySem.Challenge PySem.W PySem.Spec PySem.Calls PyProof.Rows LCg
namespace Mine
section
variable {prog : Program} {w : World} {M : Model} {A : Around} {E : Value → Shared → Prop} {h₀ h : Heap} {g : Array GenState} {d : Drawn} {t : Nat} {os : OsState} {led : List (Addr × Obj)}
variable {hs : Nat → Int} {ts : Nat → Tok} {sl f0 f1 f2 f3 f4 f5 st C NS t0 MM k1 k2 d1 d2 : Addr} {tn tq tm : Tok} {v0 v2 : Value} {n : Nat}
theorem regM26a : True := by
  k_with_none
  k_with "memK" => (with_reducible (first | assumption | exact List.mem_cons_self | (refine List.mem_cons_of_mem _ ?_; k_memK)))
  k_with "lcg_off" => (first | with_reducible refine PySem.wpAny_pure ?_ | with_reducible refine PySem.wpAny_bind ?_ | with_reducible refine PySem.wpAny_holding ?_ | (with_reducible refine stop_call ?_) | (with_reducible refine wpAny_cRoom (by assumption) ?_) | ((with_reducible apply lw_load); (focus ((assumption); done)); (focus ((k_memK); done))) | ((with_reducible apply lw_loadPart); (focus ((assumption); done)); (focus ((k_memK); done))) | ((with_reducible apply lw_loadO); (focus ((assumption); done)); (focus ((with_reducible assumption); done))) | ((with_reducible apply lw_loadPartO); (focus ((assumption); done)); (focus ((with_reducible assumption); done))) | ((with_reducible apply lw_alloc); (focus ((assumption); done)); (focus ((rfl); done)); intro aZq hZq WZq lZq; (try k_lt lZq)) | ((with_reducible apply lw_update); (focus ((assumption); done)); (focus ((lcg_sub); done)); (focus ((first | rfl | kernel_rfl!); done)); intro hZq WZq; (try dsimp only at WZq)) | ((with_reducible apply lw_updatePart); (focus ((assumption); done)); (focus ((lcg_sub); done)); (focus ((first | rfl | kernel_rfl!); done)); intro hZq WZq; (try dsimp only at WZq)) | (with_reducible refine lw_ask ?_) | ((with_reducible apply PySem.wpAny_ite_false); focus (kernel_rfl!; done)) | ((with_reducible apply PySem.wpAny_ite_true); focus (kernel_rfl!; done)) | with_reducible refine PySem.wpAny_of_eq (by assumption) ?_ | wp_delta | with_reducible refine PySem.wpAny_rule ?_ | with_reducible refine PySem.wpAny_standAt ?_ | with_reducible refine PySem.wpAny_point ?_ | with_reducible refine PySem.wpAny_fresh' ?_ | with_reducible refine PySem.wpAny_typeOf (by assumption) ?_ | with_reducible refine PySem.wpAny_specialOf_val (by assumption) (by assumption) ?_  | with_reducible refine PySem.wpAny_isInstance_val (by assumption) (by assumption) ?_  | with_reducible refine PySem.wpAny_isInstance (by assumption) (by assumption) ?_  | with_reducible (first | refine PySem.wpAny_runValue ?_ | refine PySem.wpAny_run ?_) | ((with_reducible apply PySem.wpAny_handled_none); focus (assumption; done)) | with_reducible_and_instances refine PySem.wpAny_pure ?_ | with_reducible_and_instances refine PySem.wpAny_bind ?_)
  trivial

set_option maxRecDepth 100000 in
set_option maxHeartbeats 2000000 in
theorem look_lt {Q : Option Value → Shared → Prop} (gC : h.get? C = some (kObj6 C NS t0 tn tq)) (gNS : h.get? NS = some (dictO (kEs4 hs ts v0 v2 sl f0 f1 f2 f3 f4 f5 st MM) n)) (hq : Q (some (.ref f1)) ⟨h, g, d, t, os⟩) :
    wpAny M A (typeLookup (.ref C) (Str.ofString "__lt__")) Q E ⟨h, g, d, t, os⟩ := by
  have W : Wn h h [] := ⟨fun _ _ e => e, fun p hp => by cases hp⟩
  unfold typeLookup
  repeat k_extra "lcg_off"
  exact hq
set_option maxRecDepth 100000 in
set_option maxHeartbeats 2000000 in
theorem bind_fn {v : Value} {od : Option Addr} {fd : FuncData} {sl1 : Array (Option Value)} {Q : Value × List Value → Shared → Prop} (gf1 : h.get? f1 = some (fnO od fd sl1)) (hq : Q (.ref f1, [v]) ⟨h, g, d, t, os⟩) : wpAny M A (bindSpecial (.ref f1) v) Q E ⟨h, g, d, t, os⟩ := by
  have W : Wn h h [] := ⟨fun _ _ e => e, fun p hp => by cases hp⟩
  unfold bindSpecial
  repeat k_extra "lcg_off"
  exact hq
theorem wpAny_both {α : Type} {c : Prop} [Decidable c] {a b : Sem α} {Q : α → Shared → Prop} {s : Shared} (h1 : wpAny M A a Q E s) (h2 : wpAny M A b Q E s) : wpAny M A (if c then a else b) Q E s := by
  split
  · exact h1
  · exact h2
set_option maxRecDepth 100000 in
set_option maxHeartbeats 2000000 in
theorem lt_reach {x y : Value} {od : Option Addr} {fd : FuncData} {sl1 : Array (Option Value)} {Q : Value → Shared → Prop} (hh : A.handled = none) (hu : A.units < cLine)
    (gk1 : h.get? k1 = some (instO C d1 x)) (gk2 : h.get? k2 = some (instO C d2 y)) (gC : h.get? C = some (kObj6 C NS t0 tn tq)) (gNS : h.get? NS = some (dictO (kEs4 hs ts v0 v2 sl f0 f1 f2 f3 f4 f5 st MM) n))
    (gf1 : h.get? f1 = some (fnO od fd sl1))
    (hq : wpAny (model prog w) A (call (.ref f1) [.ref k1, .ref k2]) (fun v s' => ∃ b, v = .bool b ∧ Q v s') E ⟨h, g, d, t, os⟩) :
    wpAny (model prog w) A (richCompare .Lt (.ref k1) (.ref k2)) Q E ⟨h, g, d, t, os⟩ := by
  have W : Wn h h [] := ⟨fun _ _ e => e, fun p hp => by cases hp⟩
  unfold richCompare cRoomFor
  repeat k_extra "lcg_off"
  rw [if_neg (show ¬ ((instO C d1 x).cls != (instO C d2 y).cls) = true by simp)]
  repeat k_extra "lcg_off"
  refine look_lt gC gNS ?_
  repeat k_extra "lcg_off"
  refine wpAny_both ?_ ?_
  all_goals (try refine wpAny_tryCatch ?_)
  all_goals repeat k_extra "lcg_off"
  all_goals refine bind_fn gf1 ?_
  all_goals repeat k_extra "lcg_off"
  all_goals unfold StopW
  all_goals refine wpAny_mono hq (fun v s' hv => ?_) (fun _ _ e => e)
  all_goals obtain ⟨b, rfl, hv⟩ := hv
  all_goals repeat k_extra "lcg_off"
  all_goals exact hv
end
theorem newsCons4 {g h : Heap} {L : Addr} {x y z u : Addr × Obj} {news : List (Addr × Obj)} (N : News g L h news) (hx : x ∈ news) (hy : y ∈ news) (hz : z ∈ news) (hu : u ∈ news) : News g L h (x :: y :: z :: u :: news) := newsSub N fun q hq => by
  rcases List.mem_cons.mp hq with rfl | hq
  · exact hx
  rcases List.mem_cons.mp hq with rfl | hq
  · exact hy
  rcases List.mem_cons.mp hq with rfl | hq
  · exact hz
  rcases List.mem_cons.mp hq with rfl | hq
  · exact hu
  · exact hq
end Mine
end

section
open PySem PySem.SeqAt PySem.Challenge PySem.W PySem.Spec PySem.Calls PyProof.Rows LCg Builtin Builtin.ObjectAttr Builtin.Getset_descriptor
namespace Mine
theorem stop_rv {M : Model} {A : Around} {E : Value → Shared → Prop} {c : Code} {Q : Value → Shared → Prop} {s : Shared} (hq : StopW (wpAny M A (runValue c) Q E s)) : wpAny M A (runValue c) Q E s := hq
theorem regM27a : True := by
  k_with_none
  k_with "memK" => (with_reducible (first | assumption | exact List.mem_cons_self | (refine List.mem_cons_of_mem _ ?_; k_memK)))
  k_with "lcg_off" => (first | with_reducible refine PySem.wpAny_pure ?_ | with_reducible refine PySem.wpAny_bind ?_ | with_reducible refine PySem.wpAny_holding ?_ | (with_reducible refine stop_call ?_) | (with_reducible refine wpAny_cRoom (by assumption) ?_) | ((with_reducible apply lw_load); (focus ((assumption); done)); (focus ((k_memK); done))) | ((with_reducible apply lw_loadPart); (focus ((assumption); done)); (focus ((k_memK); done))) | ((with_reducible apply lw_loadO); (focus ((assumption); done)); (focus ((with_reducible assumption); done))) | ((with_reducible apply lw_loadPartO); (focus ((assumption); done)); (focus ((with_reducible assumption); done))) | ((with_reducible apply lw_alloc); (focus ((assumption); done)); (focus ((rfl); done)); intro aZq hZq WZq lZq; (try k_lt lZq)) | ((with_reducible apply lw_update); (focus ((assumption); done)); (focus ((lcg_sub); done)); (focus ((first | rfl | kernel_rfl!); done)); intro hZq WZq; (try dsimp only at WZq)) | ((with_reducible apply lw_updatePart); (focus ((assumption); done)); (focus ((lcg_sub); done)); (focus ((first | rfl | kernel_rfl!); done)); intro hZq WZq; (try dsimp only at WZq)) | (with_reducible refine lw_ask ?_) | ((with_reducible apply PySem.wpAny_ite_false); focus (kernel_rfl!; done)) | ((with_reducible apply PySem.wpAny_ite_true); focus (kernel_rfl!; done)) | with_reducible refine PySem.wpAny_of_eq (by assumption) ?_ | wp_delta | with_reducible refine PySem.wpAny_rule ?_ | with_reducible refine PySem.wpAny_standAt ?_ | with_reducible refine PySem.wpAny_point ?_ | with_reducible refine PySem.wpAny_fresh' ?_ | with_reducible refine PySem.wpAny_typeOf (by assumption) ?_ | with_reducible refine PySem.wpAny_specialOf_val (by assumption) (by assumption) ?_  | with_reducible refine PySem.wpAny_isInstance_val (by assumption) (by assumption) ?_  | with_reducible refine PySem.wpAny_isInstance (by assumption) (by assumption) ?_  | with_reducible (first | refine PySem.wpAny_runValue ?_ | refine PySem.wpAny_run ?_) | ((with_reducible apply PySem.wpAny_handled_none); focus (assumption; done)) | with_reducible_and_instances refine PySem.wpAny_pure ?_ | with_reducible_and_instances refine PySem.wpAny_bind ?_)
  k_with "lcg_at" => (first | (with_reducible refine wpAny_onRaise ?_) | (with_reducible refine stop_rv ?_) | (with_reducible refine Looks.at (by assumption) ?_) | k_extra "lcg_off")
  trivial
theorem frag_at {h : Heap} {K : Frag} (hK : ∀ p ∈ K, h.get? p.1 = some p.2) {a : Addr} {o : Obj} (hm : (a, o) ∈ K) : K.lookup a = some o := by
  induction K with
  | nil => cases hm
  | cons p r ih =>
    obtain ⟨b, x⟩ := p
    have hb : h.get? b = some x := hK _ (.head _)
    have ha : h.get? a = some o := hK _ hm
    rw [List.lookup]
    by_cases q : a = b
    · subst q
      rw [hb] at ha
      rw [beq_self_eq_true]
      exact ha
    · rw [beq_false_of_ne q]
      rcases List.mem_cons.mp hm with e | hm
      · exact absurd (Prod.mk.inj e).1 q
      · exact ih (fun p hp => hK p (.tail _ hp)) hm
theorem frag_in {h : Heap} : ∀ {K : Frag}, (∀ p ∈ K, h.get? p.1 = some p.2) → K.In h
  | [], _, a, o, e => by cases e
  | p :: r, hK, a, o, e => by
    obtain ⟨b, x⟩ := p
    rw [List.lookup] at e
    split at e
    · rename_i q
      cases e
      rw [beq_iff_eq.mp q]
      exact hK _ (.head _)
    · exact frag_in (K := r) (fun p hp => hK p (.tail _ hp)) a o e
section
variable {prog : Program} {w : World} {A : Around} {E : Value → Shared → Prop} {K : Frag} {s : Shared}
variable {hs : Nat → Int} {ts : Nat → Tok} {sl f0 f1 f2 f3 f4 f5 st C NS t0 MM x d1 : Addr} {tn tq tm : Tok} {v0 v2 : Value} {n : Nat}
/-- the class K lies in the ledger -/
structure ClsK (K : Frag) (C NS t0 MM sl f0 f1 f2 f3 f4 f5 st : Addr) (tn tq tm : Tok) (hs : Nat → Int) (ts : Nat → Tok) (v0 v2 : Value) (n : Nat) : Prop where
  c : K.lookup C = some (kObj6 C NS t0 tn tq)
  ns : K.lookup NS = some (dictO (kEs4 hs ts v0 v2 sl f0 f1 f2 f3 f4 f5 st MM) n)
  m : K.lookup MM = some (mObj C tm)
variable (Y : ClsK K C NS t0 MM sl f0 f1 f2 f3 f4 f5 st tn tq tm hs ts v0 v2 n)
include Y
theorem ck_ga : findIn K (.ref C) "__getattribute__" = some (some (.builtin "object.__getattribute__")) := by
  simp only [findIn, Y.c, alongIn, ownIn, nsIn, Y.ns]; kernel_rfl
theorem ck_hook : findIn K (.ref C) "__getattr__" = some none := by
  simp only [findIn, Y.c, alongIn, ownIn, nsIn, Y.ns]; kernel_rfl
theorem ck_obj : findIn K (.ref C) (Str.ofString "obj") = some (some (.ref MM)) := by
  simp only [findIn, Y.c, alongIn, ownIn, nsIn, Y.ns]; kernel_rfl
theorem ck_init : findIn K (.ref C) "__init__" = some (some (.ref f0)) := by
  simp only [findIn, Y.c, alongIn, ownIn, nsIn, Y.ns]; kernel_rfl
theorem ck_set : findIn K (.ref C) "__setattr__" = some (some (.builtin "object.__setattr__")) := by
  simp only [findIn, Y.c, alongIn, ownIn, nsIn, Y.ns]; kernel_rfl
theorem ck_get : specialIn K (.ref MM) "__get__" = some (some (.builtin "member_descriptor.__get__")) := by
  simp only [specialIn, typeIn, Y.m]; kernel_rfl
theorem ck_takes : takesIn K (.ref MM) = some true := by
  simp only [takesIn, specialIn, typeIn, Y.m]; kernel_rfl
theorem ck_over : plainOver K C = true := by
  simp only [plainOver, clsIn, Y.c]; kernel_rfl
theorem ck_taker : takerIn K C (Str.ofString "obj") = some (some (.ref MM)) := by
  rw [takerIn, ck_obj Y, Option.bind_some]
  show Option.map _ (takesIn K (.ref MM)) = _
  rw [ck_takes Y]; rfl
theorem ck_slot : slotIn K MM C = some 0 := by
  have h1 : recIn K MM "member_descriptor" = some [.str (Str.ofString "obj") tm, .ref C, .builtin "proto.slot", .builtin "proto.slot#set", rawInt 0] := by
    simp only [recIn, Y.m]; rfl
  have h2 : clsIn K C = some { name := Str.ofString "K", bases := [.type "object"], mro := [.ref C, .type "object"], ns := NS, qualname := qK, hasDict := false, slotNames := [Str.ofString "obj"] } := by
    simp only [clsIn, Y.c]
  rw [slotIn, h1, h2]
  simp [rawInt]
theorem ck_makes : makesIn K C = true := by
  simp only [makesIn, Y.c, specialIn, typeIn, instIn]; simp [subIn, findIn]; exact ⟨by kernel_rfl, _, rfl, by decide +kernel⟩
set_option maxRecDepth 100000 in
set_option maxHeartbeats 2000000 in
theorem slot_read {tp : Value} {y : Addr} {R : Result → Shared → Prop} (X : K.In s.heap) (hx : s.heap.get? x = some (instO C d1 (.ref y)))
    (hq : R (.ok (.ret (.ref y))) s) : codeAny (model prog w) A (.call (.builtin "member_descriptor.__get__") ⟨[.ref MM, .ref x, tp], []⟩) R s := by
  obtain ⟨h, g, d, t, os⟩ := s
  have gM := X _ _ Y.m
  have gC := X _ _ Y.c
  dsimp only at X hx gM gC
  have W : Wn h h [] := ⟨fun _ _ e => e, fun p hp => by cases hp⟩
  have a1 := (makes_of (M := model prog w) X (ck_makes Y)).self
  refine codeAny_call_builtin KF.slot_mem.plain KF.entry_mem (KF.slot_mem.check _ _ _ _ _ _ _ _ ⟨_, gM, rfl⟩ (KF.args_mem _ _ _) ?_)
  unfold Builtin.«member_descriptor.__get__»
  repeat k_extra "lcg_at"
  refine a1.at ?_
  repeat k_extra "lcg_at"
  refine ⟨Code.quiet_builtin _ (by decide +kernel), codeAny_builtin KF.entry_slot ?_⟩
  unfold Builtin.«proto.slot»
  repeat k_extra "lcg_at"
  exact hq
set_option maxRecDepth 100000 in
set_option maxHeartbeats 2000000 in
theorem attr_obj {y : Addr} {expr : Bool} {Q : Value → Shared → Prop} (X : K.In s.heap) (hx : s.heap.get? x = some (instO C d1 (.ref y)))
    (hq : Q (.ref y) { s with toks := s.toks + 1 }) : wpAny (model prog w) A (getAttr (.ref x) (Str.ofString "obj") expr) Q E s := by
  obtain ⟨h, g, d, t, os⟩ := s
  have gM := X _ _ Y.m
  dsimp only at X hx gM
  have W : Wn h h [] := ⟨fun _ _ e => e, fun p hp => by cases hp⟩
  have a1 := looks_findIn (M := model prog w) X (ck_ga Y)
  unfold getAttr getAttrBy
  repeat k_extra "lcg_at"
  unfold StopW
  clear a1
  refine wpAny_runValue (codeAny_builtin F.plainObj_entry_getattr_hooked ?_)
  have a1 := looks_findIn (M := model prog w) X (ck_obj Y)
  have a2 := looks_specialIn (M := model prog w) X (ck_get Y)
  have a3 := looks_takesIn (M := model prog w) X (ck_takes Y)
  have a4 := looks_findIn (M := model prog w) X (ck_hook Y)
  unfold Builtin.«proto.getattr_hooked»
  repeat k_extra "lcg_at"
  unfold StopW
  exact wpAny_call (slot_read Y X hx (wpAny_pure (wpAny_pure hq)))
theorem set_obj {h₀ : Heap} {L : Addr} {m : Str → Option Value} {news : List (Addr × Obj)} {v : Value} {Q : Unit → Shared → Prop} (X : K.In s.heap) (F : Fr h₀ L s.heap m) (N : News h₀ L s.heap ((x, instObj C d1) :: news)) (hd : s.heap.get? d1 = some emptyDict) (h2 : ∀ p ∈ news, p.1 ≠ x)
    (h : ∀ h', Fr h₀ L h' m → News h₀ L h' ((x, instO C d1 v) :: news) → Q () { s with heap := h', toks := s.toks + 1 }) : wpAny (model prog w) A (setAttr (.ref x) (Str.ofString "obj") v) Q E s :=
  have I : InstAt s.heap x (instObj C d1) C (some emptyDict) := ⟨(N _ (.head _)).1, rfl, rfl, hd⟩
  set_plain X I (ck_set Y) (osa_descr (s := { s with toks := s.toks + 1 }) KF.slot_mset X I (ck_over Y) (ck_taker Y) (by rw [typeIn, Y.m]; rfl)
    (slot_set (s := { s with toks := s.toks + 1 }) (pre := []) (ox' := instO C d1 v) F N X I (ck_slot Y) (by decide) (fun _ hp => nomatch hp) h2 rfl rfl fun h' F' N' => h h' F' N'))
end
theorem mem4 {q x y z u : Addr × Obj} {l : List (Addr × Obj)} (h : q ∈ l) : q ∈ x :: y :: z :: u :: l := .tail _ (.tail _ (.tail _ (.tail _ h)))
end Mine
end

section
open PySem PySem.SeqAt PySem.Challenge PySem.W PySem.Spec PySem.Calls PyProof.Rows
namespace Mine
/-- the run of a class statement's body: the name space D, the codes P and the rest of the ledger -/
structure St (h₀ h : Heap) (D P cc : Addr) (occ : Obj) (b : Bool) (i : Nat) (ps : Array Value) (es : Array DictEntry) (n : Nat) (led : List (Addr × Obj)) : Prop where
  W : Wn h₀ h ((D, dictO es n) :: (P, tabObj ps) :: led)
  T : TabC b i ps led
  nD : ∀ p ∈ led, p.1 ≠ D
  nP : b = false → ∀ p ∈ led, p.1 ≠ P
  c : (cc, occ) ∈ led
/-- what does not change in that run -/
structure Sc (h₀ : Heap) (mg : Str → Option Value) (D P cc : Addr) (occ : Obj) : Prop where
  o : CodeO occ P
  ne : @Ne Nat cc P
  DP : @Ne Nat D P
  g : h₀.Ns mainGlobals mg
  bm : ∃ bm ob, mg "__builtins__" = some (.ref bm) ∧ bm ≠ builtinsNs ∧ bm ≠ mainGlobals ∧ h₀.get? bm = some ob ∧ ob.cls = .type "module" ∧ ob.dict = some builtinsNs ∧ ob.data = .plain
noncomputable abbrev scArgs (x y : Str) (r : List (Str × NameKind)) : Scope := { kind := .function, names := (x, .local) :: (y, .local) :: r, isGenerator := false, isCoroutine := false }
/-- the body's surroundings -/
structure EnvK (env : Env) (D cc cell : Addr) : Prop where
  loc : env.locals = D
  glob : env.globals = mainGlobals
  code : env.code = .ref cc
  s1 : ∀ v, storeName env (Str.ofString "__init__") v = localSet env (Str.ofString "__init__") v
  s2 : ∀ v, storeName env (Str.ofString "__lt__") v = localSet env (Str.ofString "__lt__") v
  s3 : ∀ v, storeName env (Str.ofString "__gt__") v = localSet env (Str.ofString "__gt__") v
  s4 : ∀ v, storeName env (Str.ofString "__eq__") v = localSet env (Str.ofString "__eq__") v
  s5 : ∀ v, storeName env (Str.ofString "__le__") v = localSet env (Str.ofString "__le__") v
  s6 : ∀ v, storeName env (Str.ofString "__ge__") v = localSet env (Str.ofString "__ge__") v
  s7 : ∀ v, storeName env (Str.ofString "__module__") v = localSet env (Str.ofString "__module__") v
  s8 : ∀ v, storeName env (Str.ofString "__slots__") v = localSet env (Str.ofString "__slots__") v
  s9 : ∀ v, storeName env (Str.ofString "__hash__") v = localSet env (Str.ofString "__hash__") v
  q : ∀ n ∈ [Str.ofString "__init__", Str.ofString "__lt__", Str.ofString "__gt__", Str.ofString "__eq__", Str.ofString "__le__", Str.ofString "__ge__"], qualnameIn env n n = qK ++ Str.ofString "." ++ n
  cl0 : ∀ x y, closureFor (scArgs x y []) env = pure []
  cl1 : ∀ x y, closureFor (scArgs x y [(Str.ofString "mycmp", .free)]) env = pure [(Str.ofString "mycmp", cell)]
theorem gen_env {M : Model} {A : Around} {body : List Stmt} {env : Env} {Q : Flow → Shared → Prop} {E : Value → Shared → Prop} {s : Shared} {D cc cell : Addr} (X : EnvK env D cc cell)
    (h : ∀ (env' : Env) (A' : Around) (Q' : Flow → Shared → Prop) (E' : Value → Shared → Prop), EnvK env' D cc cell → (∀ f s', Q f s' → Q' f s') → wpAny M A' (execs body env') Q' E' s) : wpAny M A (execs body env) Q E s :=
  h env A Q E X fun _ _ z => z
section
variable {M : Model} {A : Around} {E : Value → Shared → Prop} {h₀ h : Heap} {g : Array GenState} {d : Drawn} {t : Nat} {os : OsState} {led : List (Addr × Obj)} {env : Env} {D P cc cell : Addr} {occ : Obj} {mg : Str → Option Value} {b : Bool} {i : Nat} {ps : Array Value} {es : Array DictEntry} {n n' : Nat} {name : Str}
theorem St.store {v : Value} {Q : Unit → Shared → Prop} (S : St h₀ h D P cc occ b i ps es n led) (V : Sc h₀ mg D P cc occ) (hl : env.locals = D) (hst : ∀ v, storeName env name v = localSet env name v) (hex : aRefKeyMayBeTheName name es = false) (F : Int → Tok → Array DictEntry)
    (hput : ∀ hv tk, Obj.putName name hv (.str name tk) v (dictO es n) = dictO (F hv tk) n')
    (hq : ∀ hv tk h' t', St h₀ h' D P cc occ b i ps (F hv tk) n' led → Q () ⟨h', g, d, t', os⟩) : wpAny M A (storeName env name v) Q E ⟨h, g, d, t, os⟩ :=
  cls_store S.W (fun p hp => by
    rcases List.mem_cons.mp hp with rfl | hp
    · exact V.DP.symm
    · exact S.nD p hp) hl (hst v) hex F hput fun hv tk h' t' W => hq hv tk h' t' ⟨W, S.T, S.nD, S.nP, S.c⟩
/-- a def in the body -/
theorem cls_def {x y : Str} {p1 p2 pos : Pos} {body : List Stmt} {r : List (Str × NameKind)} {clos : List (Str × Addr)} {rest : List Stmt} {Q : Flow → Shared → Prop}
    (S : St h₀ h D P cc occ b i ps es n led) (V : Sc h₀ mg D P cc occ) (X : EnvK env D cc cell) (hcl : closureFor (scArgs x y r) env = pure clos) (hst : ∀ v, storeName env name v = localSet env name v)
    (hq : qualnameIn env name name = qK ++ Str.ofString "." ++ name) (hi : kDefs[i]? = some (pos.line, qK ++ Str.ofString "." ++ name)) (hcol : pos.col = 8) (hex : aRefKeyMayBeTheName name es = false) (F : Int → Tok → Addr → Array DictEntry)
    (hput : ∀ f hv tk, Obj.putName name hv (.str name tk) (.ref f) (dictO es n) = dictO (F hv tk f) n')
    (hk : ∀ f c' ctv doc ps' led' h' t' hv tk, St h₀ h' D P cc occ b (i + 1) ps' (F hv tk f) n' ((f, fnMade name (qK ++ Str.ofString "." ++ name) ⟨[], [⟨x, none, p1⟩, ⟨y, none, p2⟩], none, [], [], none, []⟩ body (scArgs x y r) clos doc ((mg "__name__").getD .none) c' ctv) :: led') →
      (∀ q ∈ led, q ∈ led') → CodeIn led' c' (qK ++ Str.ofString "." ++ name) → wpAny M A (execs rest env) Q E ⟨h', g, d, t', os⟩) :
    wpAny M A (execs (.FunctionDef name ⟨[], [⟨x, none, p1⟩, ⟨y, none, p2⟩], none, [], [], none, []⟩ body [] none [] (scArgs x y r) none name pos :: rest) env) Q E ⟨h, g, d, t, os⟩ := by
  refine wpAny_execs_cons ?_
  rw [exec_def, hq]
  refine wpAny_bind (wpAny_standAt (wpAny_bind (wpAny_holding ?_)))
  refine wpAny_bind (wpAny_pure (wpAny_bind (wpAny_holding (wpAny_pure (wpAny_holding (wpAny_bind (wpAny_pure ?_)))))))
  refine made_fn (s := ⟨_, g, d, _, os⟩) S.W S.T hi hcol (V.o.hd (S.W.at_ _ (.tail _ (.tail _ S.c))).1 V.ne) X.code S.nD V.DP S.nP hcl X.glob V.g V.bm ?_
  intro f c' ctv doc ps' led' h' tk W' sub _ T' ci nD' nP' fP fD _
  have S' : St h₀ h' D P cc occ b (i + 1) ps' es n ((f, fnMade name (qK ++ Str.ofString "." ++ name) ⟨[], [⟨x, none, p1⟩, ⟨y, none, p2⟩], none, [], [], none, []⟩ body (scArgs x y r) clos doc ((mg "__name__").getD .none) c' ctv) :: led') :=
    ⟨W', T'.mono fun _ hq => .tail _ hq, fun p hp => by
      rcases List.mem_cons.mp hp with rfl | hp
      · exact fD
      · exact nD' p hp, fun e p hp => by
      rcases List.mem_cons.mp hp with rfl | hp
      · exact fP
      · exact nP' e p hp, .tail _ (sub _ S.c)⟩
  refine wpAny_bind (wpAny_standAt (wpAny_bind (wpAny_bindName (S'.store V X.loc hst hex (fun hv tk => F hv tk f) (hput f) fun hv tk h'' t'' S'' => wpAny_pure ?_))))
  exact hk f c' ctv doc ps' led' h'' t'' hv tk S'' sub ci
end
end Mine
end

section
open PySem PySem.SeqAt PySem.Challenge PySem.W PySem.Spec PySem.Calls PyProof.Rows

namespace Mine
section
variable {w : World} {mean : ExcName → Option Value} {mg mb : Str → Option Value} {news : List (Addr × Obj)} {cn : Str} {sn : List (Str × NameKind)} {sg sc : Bool} {sm : List (Str × Const)} {a : Addr} {ccd : Value} {cl : List (Str × Addr)} {outer : List Env} {A₀ : Around} {base h₀ : Heap} {L : Addr} {m : Str → Option Value} {s : Shared} {Q : Value → Shared → Prop} {E : Value → Shared → Prop}
noncomputable abbrev tupO (a : Array Value) : Obj := { cls := .type "tuple", data := .seq a }
theorem regM28a : True := by
  k_with_none
  k_with "memK" => (first | assumption | exact List.Mem.head _ | (refine List.Mem.tail _ ?_; k_memK))
  k_with "callWith ref" => ((k_here; k_dflt (refine' callWith_F (by (exact FnAt.of (by k_asm) (by k_memK))) ?_; k_whole)))
  k_with "FnAt" => ((k_dflt (exact FnAt.of (by k_asm) (by k_memK))))
  k_with "call ref" => ((k_here; refine stopW ?_))
  k_with "setAttr ref" => ((k_here; refine stopW ?_))
  k_with "getAttr ref" => ((k_here; refine stopW ?_))
  k_with "eval Attribute" => ((k_here; refine stopW ?_))
  k_with "exec ClassDef" => ((k_here; refine stopW ?_))
  trivial
theorem newsCons2 {g h : Heap} {L : Addr} {x y : Addr × Obj} {news : List (Addr × Obj)} (N : News g L h news) (hx : x ∈ news) (hy : y ∈ news) : News g L h (x :: y :: news) := newsSub N fun q hq => by
  rcases List.mem_cons.mp hq with rfl | hq
  · exact hx
  rcases List.mem_cons.mp hq with rfl | hq
  · exact hy
  · exact hq
theorem get_some2 {α : Type} {x : Option (Option α)} (h : (match x with | some (some _) => true | _ => false) = true) : ∃ v, x = some (some v) := by
  match x, h with
  | some (some v), _ => exact ⟨v, rfl⟩
theorem frG {g h : Heap} {L : Addr} {m : Str → Option Value} (_ : Fr g L h m) : ∃ x, x = g := ⟨_, rfl⟩
theorem frH {g h : Heap} {L : Addr} {m : Str → Option Value} (_ : Fr g L h m) : ∃ x, x = h := ⟨_, rfl⟩
theorem frL {g h : Heap} {L : Addr} {m : Str → Option Value} (_ : Fr g L h m) : ∃ x, x = L := ⟨_, rfl⟩
theorem stop_bf {M : Model} {A : Around} {E : Value → Shared → Prop} {a b : Addr} {Q : Addr → Shared → Prop} {s : Shared} (hq : StopW (wpAny M A (builtinsFor a b) Q E s)) : wpAny M A (builtinsFor a b) Q E s := hq
theorem stop_ef {M : Model} {A : Around} {E : Value → Shared → Prop} {Q : Unit → Shared → Prop} {s : Shared} (hq : StopW (wpAny M A (enterFrame 0) Q E s)) : wpAny M A (enterFrame 0) Q E s := hq
theorem stop_ln {M : Model} {A : Around} {E : Value → Shared → Prop} {env : Env} {name : Str} {Q : Value → Shared → Prop} {s : Shared} (hq : StopW (wpAny M A (loadName env name) Q E s)) : wpAny M A (loadName env name) Q E s := hq
theorem consNe {D : Addr} {x : Addr × Obj} {r : List (Addr × Obj)} (h : @Ne Nat x.1 D) (hr : ∀ p ∈ r, p.1 ≠ D) : ∀ p ∈ x :: r, p.1 ≠ D := fun p hp => by
  rcases List.mem_cons.mp hp with rfl | hp
  · exact h
  · exact hr p hp
theorem gen_around {α : Type} {M : Model} {A : Around} {E : Value → Shared → Prop} {t : Sem α} {Q : α → Shared → Prop} {s : Shared} (h : ∀ A' : Around, A'.handled = A.handled → wpAny M A' t Q E s) : wpAny M A t Q E s := h A rfl
theorem stop_mf {M : Model} {A : Around} {E : Value → Shared → Prop} {name qual : Str} {params : Arguments} {body : FuncBody} {scope : Scope} {env : Env} {dv : List Value} {kd : List (Option Value)} {an : List (Str × Value)} {pos : Pos} {fl : Nat} {Q : Value → Shared → Prop} {s : Shared} (hq : StopW (wpAny M A (makeFunction name qual params body scope env dv kd an pos fl) Q E s)) : wpAny M A (makeFunction name qual params body scope env dv kd an pos fl) Q E s := hq
theorem stop_cc {M : Model} {A : Around} {E : Value → Shared → Prop} {env : Env} {pos : Pos} {fl : Nat} {name qn : Str} {scope : Scope} {Q : Value → Shared → Prop} {s : Shared} (hq : StopW (wpAny M A (classCode env pos fl name qn scope) Q E s)) : wpAny M A (classCode env pos fl name qn scope) Q E s := hq
theorem stop_sn {M : Model} {A : Around} {E : Value → Shared → Prop} {env : Env} {name : Str} {v : Value} {Q : Unit → Shared → Prop} {s : Shared} (hq : StopW (wpAny M A (storeName env name v) Q E s)) : wpAny M A (storeName env name v) Q E s := hq
theorem stop_run {M : Model} {A : Around} {E : Value → Shared → Prop} {c : Code} {e : Option Value} {Q : Flow → Shared → Prop} {s : Shared} (hq : StopW (wpAny M A (run c e) Q E s)) : wpAny M A (run c e) Q E s := hq
theorem stop_bc {M : Model} {A : Around} {E : Value → Shared → Prop} {name qual : Str} {given : List Value} {kw : List (Str × Value)} {body : List Stmt} {scope : Scope} {statics : List Str} {fl : Nat} {env : Env} {pos : Pos} {tp : Option Value} {Q : Value → Shared → Prop} {s : Shared} (hq : StopW (wpAny M A (buildClass name qual given kw body scope statics fl env pos tp) Q E s)) : wpAny M A (buildClass name qual given kw body scope statics fl env pos tp) Q E s := hq
theorem stop_ex {M : Model} {A : Around} {E : Value → Shared → Prop} {l : List Stmt} {env : Env} {Q : Flow → Shared → Prop} {s : Shared} (hq : StopW (wpAny M A (execs l env) Q E s)) : wpAny M A (execs l env) Q E s := hq
theorem execs_go {M : Model} {A : Around} {E : Value → Shared → Prop} {st : Stmt} {l : List Stmt} {env : Env} {Q : Flow → Shared → Prop} {s : Shared} (h : wpAny M A (exec st env) (fun f s' => f = .next ∧ wpAny M A (execs l env) Q E s') E s) : wpAny M A (execs (st :: l) env) Q E s :=
  wpAny_execs_cons (wpAny_mono h (fun f s' z => by obtain ⟨rfl, z⟩ := z; exact z) fun _ _ z => z)
theorem gen_all {α : Type} {M : Model} {A : Around} {E : Value → Shared → Prop} {t : Sem α} {Q : α → Shared → Prop} {s : Shared} (h : ∀ (A' : Around) (Q' : α → Shared → Prop), A'.handled = A.handled → A'.depth = A.depth → (∀ f s', Q f s' → Q' f s') → wpAny M A' t Q' E s) : wpAny M A t Q E s := h A Q rfl rfl fun _ _ z => z
theorem stop_prep {M : Model} {A : Around} {E : Value → Shared → Prop} {v : Value} {name : Str} {Q : Option Value → Shared → Prop} {s : Shared} (hq : StopW (wpAny M A (getAttr? v name) Q E s)) : wpAny M A (getAttr? v name) Q E s := hq
theorem regM28z : True := by
  k_with "lcg_off" => (first | with_reducible refine PySem.wpAny_pure ?_ | with_reducible refine PySem.wpAny_bind ?_ | with_reducible refine PySem.wpAny_holding ?_ | (with_reducible refine stop_call ?_) | (with_reducible refine stop_bc ?_) | (with_reducible refine stop_cc ?_) | (with_reducible refine stop_sn ?_) | (with_reducible refine stop_run ?_) | (with_reducible refine stop_prep ?_) | (with_reducible refine stop_bf ?_) | (with_reducible refine stop_ef ?_) | ((with_reducible apply lw_nsG); (focus ((assumption); done)); (focus ((assumption); done)); (focus ((assumption); done))) | ((with_reducible apply lw_load); (focus ((assumption); done)); (focus ((k_memK); done))) | ((with_reducible apply lw_loadPart); (focus ((assumption); done)); (focus ((k_memK); done))) | ((with_reducible apply lw_loadO); (focus ((assumption); done)); (focus ((with_reducible assumption); done))) | ((with_reducible apply lw_loadPartO); (focus ((assumption); done)); (focus ((with_reducible assumption); done))) | ((with_reducible apply lw_alloc); (focus ((assumption); done)); (focus ((rfl); done)); intro aZq hZq WZq lZq) | ((with_reducible apply lw_update); (focus ((assumption); done)); (focus ((lcg_sub); done)); (focus ((first | rfl | kernel_rfl!); done)); intro hZq WZq; (try dsimp only at WZq)) | ((with_reducible apply lw_updatePart); (focus ((assumption); done)); (focus ((lcg_sub); done)); (focus ((first | rfl | kernel_rfl!); done)); intro hZq WZq; (try dsimp only at WZq)) | (with_reducible refine lw_ask ?_) | ((with_reducible apply PySem.wpAny_ite_false); focus (kernel_rfl!; done)) | ((with_reducible apply PySem.wpAny_ite_true); focus (kernel_rfl!; done)) | with_reducible refine PySem.wpAny_of_eq (by assumption) ?_ | wp_delta | with_reducible refine PySem.wpAny_rule ?_ | with_reducible refine PySem.wpAny_standAt ?_ | with_reducible refine PySem.wpAny_point ?_ | with_reducible refine PySem.wpAny_fresh' ?_ | with_reducible refine PySem.wpAny_typeOf (by assumption) ?_ | with_reducible refine PySem.wpAny_specialOf_val (by assumption) (by assumption) ?_  | with_reducible refine PySem.wpAny_isInstance_val (by assumption) (by assumption) ?_  | with_reducible refine PySem.wpAny_isInstance (by assumption) (by assumption) ?_  | with_reducible (first | refine PySem.wpAny_runValue ?_ | refine PySem.wpAny_run ?_) | ((with_reducible apply PySem.wpAny_handled_none); focus (assumption; done)) | with_reducible_and_instances refine PySem.wpAny_pure ?_ | with_reducible_and_instances refine PySem.wpAny_bind ?_)
  k_with "lcg_src" => (first | (with_reducible refine stop_ex ?_) | (with_reducible refine And.intro rfl ?_) | (with_reducible refine stop_ln ?_) | (with_reducible refine stop_mf ?_) | (with_reducible refine wpAny_onRaise ?_) | k_extra "lcg_off")
  k_with "memK" => (with_reducible (first | assumption | exact List.mem_cons_self | (refine List.mem_cons_of_mem _ ?_; k_memK)))
  trivial
theorem memPick {α : Type} {src tgt : List α} {p : α} (is : List Nat) (n : Nat) (e : tgt = pickL src is (dropL n src)) (hp : p ∈ tgt) : p ∈ src := by
  subst e
  exact (pickL_mem hp).elim id dropL_mem
theorem wnPick {g h : Heap} {l : List (Addr × Obj)} (W : Wn g h l) (is : List Nat) (n : Nat) : Wn g h (pickL l is (dropL n l)) := W.mono fun _ hp => (pickL_mem hp).elim id dropL_mem
set_option maxRecDepth 100000 in
set_option maxHeartbeats 8000000 in
theorem cmp_call {fv : Addr} {tb : Array Value}
    (B : Below A₀ base outer h₀) (F : Fr h₀ L s.heap m) (K : (Mine.hd.heap_39 w.params).In h₀) (N : News h₀ L s.heap ((16, tabObj tb) :: news)) (hTB : TabK tb news) (hn16 : ∀ p ∈ news, p.1 ≠ 16) (T : Top topProg LoB mean mg mb h₀)
    (hret : ∀ (C : Addr) (tb' : Array Value) (nw : List (Addr × Obj)) (h' : Heap) (tk' : Nat), Fr h₀ L h' m → News h₀ L h' ((16, tabObj tb') :: nw) → (∀ q ∈ news, q ∈ nw) → (∀ p ∈ nw, p.1 ≠ 16) → TabK tb' nw → KNew w C nw → KLess w C fv nw → Q (.ref C) { s with heap := h', toks := tk' }) :
    wpAny (model rw_xi0007_01.prog w) (kTop 6 cn sn sg sc sm L a ccd cl outer) (call (.ref 21) [.ref fv]) Q E s := by
  have C0 : CodeHd h₀ 20 16 := codeHd_of_K K (by kernel_rfl)
  revert K; k_fill; intro K
  refine wpAny_call ?_
  k_enter
  rename Frag.In _ _ => X9
  have C9 := codeHd_of_K (c := 20) (P := 16) X9 (by kernel_rfl)
  k_steps
  unfold StopW
  rename Fr _ _ _ _ => F1
  rename News _ _ _ _ => N1
  rename Top _ _ _ _ _ _ => T1
  rename Obj => oc
  have hoc : oc.data = .cell (some (.ref fv)) := ‹oc.data = Data.cell _›
  obtain ⟨g1, hg1⟩ := frG F1
  subst hg1
  obtain ⟨L1, hL1⟩ := frL F1
  subst hL1
  obtain ⟨hh1, hhh1⟩ := frH F1
  subst hhh1
  obtain ⟨oL, hoL, W0⟩ := wn_of F1 N1
  obtain ⟨bm, ob, hbm, hbm0, hbo1, hbo2, hbo3, hbo4⟩ := T1.bmain
  have hobj : mg (Str.ofString "object") = none := mg_none_of X9 T1.g (by kernel_rfl)
  have hbb : mb (Str.ofString "__build_class__") = some (.builtin "__build_class__") := (T1.builtins _ (by decide)).trans (by kernel_rfl)
  have hbo : mb (Str.ofString "object") = some (.type "object") := (T1.builtins _ (by decide)).trans (by kernel_rfl)
  obtain ⟨nm, hnm0⟩ := get_some2 (x := nsIn (Mine.hd.heap_39 w.params) mainGlobals (Str.ofString "__name__")) (by kernel_rfl)
  have hnm : mg (Str.ofString "__name__") = some nm := mg_of X9 T1.g hnm0
  have Gg := T1.g
  have hbmG : bm ≠ mainGlobals := by
    rintro rfl
    obtain ⟨o, es, ep, e, e2, _⟩ := Gg
    rw [hbo1] at e; cases e
    rw [hbo4] at e2; cases e2
  have Gb := T1.b
  refine wpAny_mono (Q := fun f s' => f = Flow.next ∧ KMade w g1 L1 fv news ⟨hh1, s.gens, s.drawn, 0, s.os⟩ s') (E := fun _ _ => False) ?_ ?_ (fun _ _ e => e.elim)
  rotate_left
  · rintro f s' ⟨rfl, C, m2, tb', nw, h', t', rfl, F2, hm2, N2, sub2, n16', hT2, mK, mL⟩
    have F3 := named [(Str.ofString "K", .ref C)] F2 (by
      intro p hp
      simp only [List.mem_cons, List.not_mem_nil, or_false] at hp
      rcases hp with rfl
      exact hm2)
    clear F2 F1 N1 W0
    dsimp only
    k_steps
    exact hret C tb' nw _ _ (by assumption) (newsSub (by assumption) fun q hq => hq) sub2 n16' hT2 mK mL
  refine gen_all ?_
  intro A0 Q0 hA0 hA1 hQ0
  have hAh : A0.handled = none := hA0
  have hAd : A0.depth < recursionLimit := by rw [hA1]; exact Nat.le_of_ble_eq_true rfl
  clear hA0 hA1
  rw [arm_exec_ClassDef]
  repeat k_extra "lcg_off"
  unfold StopW
  have e1 := ty_object; have e2 := isT_object; have e3 := sub_type
  unfold buildClass
  repeat k_extra "lcg_off"
  unfold StopW
  rename Wn _ _ _ => W1
  obtain ⟨t0, ht0⟩ := wnHead W1
  subst ht0
  replace W1 : Wn g1 _ ((t0, tupO #[.type "object"]) :: (L1, oL) :: (L1 + 1, oc) :: (16, tabObj tb) :: news) := W1.cast (by kernel_rfl)
  have lt0 : ∀ p ∈ (L1, oL) :: (L1 + 1, oc) :: (16, tabObj tb) :: news, p.1 < t0 := by assumption
  have ltL : 16 < L1 := (‹16 < L1 ∧ _› : 16 < L1 ∧ _).1
  refine prep_attrW W1 ?_
  intro b h1 W2 l2
  clear W1
  repeat k_extra "lcg_off"
  unfold StopW
  refine prep_callW W2 (.head _) ?_
  intro D h2 W3 n3
  clear W2
  have hDs : (D == sysModules) = false := by
    have l3 := n3 (16, tabObj tb) (by k_memK)
    have : @Ne Nat D 1 := Nat.ne_of_gt (Nat.lt_trans (show 1 < 16 by decide) l3)
    exact beq_eq_false_iff_ne.mpr this
  have egi : typeLookup (.type "dict") "__getitem__" = pure (some (.builtin "dict.__getitem__")) := by rw [typeLookup_type, builtinLookup_eq_fast]; kernel_rfl
  repeat k_extra "lcg_off"
  rw [if_neg (show ¬ (D == sysModules) = true by simp [hDs])]
  repeat k_extra "lcg_off"
  unfold StopW
  have hne16 : ∀ p ∈ (D, dictO #[] 0) :: (b, prepO) :: (t0, tupO #[.type "object"]) :: (L1, oL) :: (L1 + 1, oc) :: news, p.1 ≠ 16 := by
    have q1 := n3 (16, tabObj tb) (by k_memK)
    have q2 := l2 (16, tabObj tb) (by k_memK)
    have q3 := lt0 (16, tabObj tb) (by k_memK)
    intro p hp
    simp only [List.mem_cons] at hp
    rcases hp with rfl | rfl | rfl | rfl | rfl | hp
    · exact Nat.ne_of_gt q1
    · exact Nat.ne_of_gt q2
    · exact Nat.ne_of_gt q3
    · exact Nat.ne_of_gt ltL
    · exact Nat.ne_of_gt (Nat.lt_succ_of_lt ltL)
    · exact hn16 p hp
  have W4 : Wn g1 _ ((16, tabObj tb) :: (D, dictO #[] 0) :: (b, prepO) :: (t0, tupO #[.type "object"]) :: (L1, oL) :: (L1 + 1, oc) :: news) := wnPick W3 [5, 0, 1, 2, 3, 4] 6
  refine class_code_any W4 C9 rfl (hTB.mono fun q hq => by simp [hq]) hne16 rfl rfl ?_
  intro bb cc occ P ps h3 t3 W5 hoc5 hcP hTC hb1 hb0 hP16 hc16
  clear W3 W4
  repeat k_extra "lcg_off"
  unfold StopW
  refine wpAny_builtinsFor (Gg.keeps W5.keep) hbm hbm0 (W5.keep _ _ hbo1) hbo2 hbo3 hbo4 ?_
  repeat k_extra "lcg_off"
  rename Wn _ _ _ => W6
  obtain ⟨Fa, hFa⟩ := wnHead W6
  subst hFa
  have ltF : ∀ p ∈ (P, tabObj ps) :: (16, tabObj #[rawInt ((4 : Nat) : Int), rawInt ((4 : Nat) : Int), .ref cc]) :: (cc, occ) :: (D, dictO #[] 0) :: (b, prepO) :: (t0, tupO #[.type "object"]) :: (L1, oL) :: (L1 + 1, oc) :: news, p.1 < Fa := by assumption
  have hPD : bb = true → ((P, tabObj ps) ∈ news ∧ (cc, occ) ∈ news) := fun hb => by
    obtain ⟨p1, p2⟩ := hb1 hb
    obtain ⟨vs9, _, _, _, _, _, _, _, hk1, hk2, _⟩ := id hoc5
    obtain ⟨esL, epL, hdL, _⟩ := id hoL
    simp only [List.mem_cons] at p1 p2
    constructor
    · rcases p1 with e | e | e | e | e | e
      · cases congrArg (fun z => z.2.cls) e
      · cases congrArg (fun z => z.2.cls) e
      · cases congrArg (fun z => z.2.cls) e
      · rw [← (Prod.mk.inj e).2] at hdL; cases hdL
      · rw [← (Prod.mk.inj e).2] at hoc; cases hoc
      · exact e
    · rcases p2 with e | e | e | e | e | e
      · rw [(Prod.mk.inj e).2] at hk1; simp at hk1
      · rw [(Prod.mk.inj e).2] at hk1; simp at hk1
      · rw [(Prod.mk.inj e).2] at hk1; simp at hk1
      · rw [← (Prod.mk.inj e).2, hk2] at hdL; cases hdL
      · rw [← (Prod.mk.inj e).2, hk2] at hoc; cases hoc
      · exact e
  have hDP : @Ne Nat D P ∧ @Ne Nat D cc := by
    cases bb with
    | true => exact ⟨Nat.ne_of_gt (n3 (P, tabObj ps) (by simp [(hPD rfl).1])), Nat.ne_of_gt (n3 (cc, occ) (by simp [(hPD rfl).2]))⟩
    | false => exact ⟨(hb0 rfl).1 _ (.head _), (hb0 rfl).2 _ (.head _)⟩
  obtain ⟨frO, hfrO⟩ : ∃ o, (Fa, o) :: (16, tabObj #[rawInt ((4 : Nat) : Int), rawInt ((4 : Nat) : Int), .ref cc]) :: (cc, occ) :: (b, prepO) :: (t0, tupO #[.type "object"]) :: (L1, oL) :: (L1 + 1, oc) :: news = (Fa, o) :: (16, tabObj #[rawInt ((4 : Nat) : Int), rawInt ((4 : Nat) : Int), .ref cc]) :: (cc, occ) :: (b, prepO) :: (t0, tupO #[.type "object"]) :: (L1, oL) :: (L1 + 1, oc) :: news ∧ Wn g1 _ ((Fa, o) :: (P, tabObj ps) :: (16, tabObj #[rawInt ((4 : Nat) : Int), rawInt ((4 : Nat) : Int), .ref cc]) :: (cc, occ) :: (D, dictO #[] 0) :: (b, prepO) :: (t0, tupO #[.type "object"]) :: (L1, oL) :: (L1 + 1, oc) :: news) := ⟨_, rfl, W6⟩
  obtain ⟨rest, hrest⟩ : ∃ r, r = (Fa, frO) :: (16, tabObj #[rawInt ((4 : Nat) : Int), rawInt ((4 : Nat) : Int), .ref cc]) :: (cc, occ) :: (b, prepO) :: (t0, tupO #[.type "object"]) :: (L1, oL) :: (L1 + 1, oc) :: news := ⟨_, rfl⟩
  have W7 : Wn g1 _ ((D, dictO #[] 0) :: (P, tabObj ps) :: rest) := hfrO.2.mono fun p hp => memPick [4, 1, 0, 2, 3, 5, 6, 7, 8] 9 (by rw [hrest]; rfl) hp
  have hDr : ∀ p ∈ rest, p.1 ≠ D := by
    rw [hrest]
    intro p hp
    simp only [List.mem_cons] at hp
    rcases hp with rfl | rfl | rfl | hp
    · exact Nat.ne_of_gt (ltF (D, dictO #[] 0) (by k_memK))
    · exact Nat.ne_of_lt (n3 (16, tabObj tb) (by k_memK))
    · exact hDP.2.symm
    · exact Nat.ne_of_lt (n3 p (by simp only [List.mem_cons]; rcases hp with h | h | h | h | h <;> simp [h]))
  have hPr : bb = false → ∀ p ∈ rest, p.1 ≠ P := by
    rw [hrest]
    intro hb p hp
    simp only [List.mem_cons] at hp
    rcases hp with rfl | rfl | rfl | hp
    · exact Nat.ne_of_gt (ltF (P, tabObj ps) (by k_memK))
    · exact hP16.symm
    · exact hcP
    · exact (hb0 hb).1 p (by simp only [List.mem_cons]; rcases hp with h | h | h | h | h <;> simp [h])
  have ccm : (cc, occ) ∈ rest := by rw [hrest]; k_memK
  have hT0 : TabC bb 0 ps rest := hTC.to fun a oc fs t q h1 h2 h3 => by
    simp only [List.mem_cons] at h1
    rw [hrest]
    rcases h1 with h | h
    · rw [(Prod.mk.inj h).2] at h2; cases h2
    · simp only [List.mem_cons]
      rcases h with h | h | h | h | h <;> simp [h]
  have S7 : St g1 _ D P cc occ bb 0 ps #[] 0 rest := ⟨W7, hT0, hDr, hPr, ccm⟩
  have V : Sc g1 mg D P cc occ := ⟨hoc5, hcP, hDP.1, Gg, ⟨bm, ob, hbm, hbm0, hbmG, hbo1, hbo2, hbo3, hbo4⟩⟩
  clear W5 W6 hfrO hT0 ccm hDr hPr
  unfold StopW
  refine wpAny_enterFrame (T1.nolimit.keeps W7.keep) hAd ?_
  repeat k_extra "lcg_src"
  unfold StopW
  refine cls_load W7 rfl rfl rfl (by kernel_rfl) (by kernel_rfl) (by kernel_rfl) rfl Gg hnm ?_
  clear W7
  repeat k_extra "lcg_src"
  unfold StopW
  refine S7.store V rfl (fun _ => by kernel_rfl) (by kernel_rfl) (fun hv tk => #[ent hv (Str.ofString "__module__") tk nm]) (n' := 1) (fun _ _ => by kernel_rfl) ?_
  intro hv0 tk0 h6 t6 S8
  clear S7
  repeat k_extra "lcg_src"
  unfold StopW
  refine S8.store V rfl (fun _ => by kernel_rfl) (by kernel_rfl) (fun hv tk => #[ent hv0 (Str.ofString "__module__") tk0 nm, ent hv (Str.ofString "__qualname__") tk (.str qK t6)]) (n' := 2) (fun _ _ => by kernel_rfl) ?_
  intro hv1 tk1 h7 t7 S9
  clear S8
  repeat k_extra "lcg_src"
  unfold StopW
  refine S9.store V rfl (fun _ => by kernel_rfl) (by kernel_rfl) (fun hv tk => #[ent hv0 (Str.ofString "__module__") tk0 nm, ent hv1 (Str.ofString "__qualname__") tk1 (.str qK t6), ent hv (Str.ofString "__firstlineno__") tk (.int 4 t7)]) (n' := 3) (fun _ _ => by kernel_rfl) ?_
  intro hv2 tk2 h8 t8 S10
  clear S9
  repeat k_extra "lcg_src"
  unfold StopW
  refine wpAny_run ?_
  refine codeAny_of_tree ?_
  show wpAny _ _ (blockStart _ _ >>= fun _ => (execs _ _).onRaise (leaving _) >>= fun f => pure (PySem.Fin.done f)) _ _ _
  repeat k_extra "lcg_src"
  unfold StopW
  refine gen_env (D := D) (cc := cc) (cell := L1 + 1) ⟨rfl, rfl, rfl, fun _ => by kernel_rfl, fun _ => by kernel_rfl, fun _ => by kernel_rfl, fun _ => by kernel_rfl, fun _ => by kernel_rfl, fun _ => by kernel_rfl, fun _ => by kernel_rfl, fun _ => by kernel_rfl, fun _ => by kernel_rfl, List.forall_mem_cons.mpr ⟨by kernel_rfl, List.forall_mem_cons.mpr ⟨by kernel_rfl, List.forall_mem_cons.mpr ⟨by kernel_rfl, List.forall_mem_cons.mpr ⟨by kernel_rfl, List.forall_mem_cons.mpr ⟨by kernel_rfl, List.forall_mem_cons.mpr ⟨by kernel_rfl, List.forall_mem_nil _⟩⟩⟩⟩⟩⟩, fun _ _ => by kernel_rfl, fun _ _ => by kernel_rfl⟩ ?_
  intro env' A' Q' E' X' hQ'
  refine execs_go ?_
  repeat k_extra "lcg_src"
  unfold StopW
  refine S10.store V X'.loc X'.s7 (by kernel_rfl) (fun _ _ => #[ent hv0 (Str.ofString "__module__") tk0 (.str (Str.ofString "cpy313.functools") t8), ent hv1 (Str.ofString "__qualname__") tk1 (.str qK t6), ent hv2 (Str.ofString "__firstlineno__") tk2 (.int 4 t7)]) (n' := 3) (fun _ _ => by kernel_rfl) ?_
  intro _ _ h11 t11 S11
  clear S10
  repeat k_extra "lcg_src"
  unfold StopW
  refine execs_go ?_
  have W11 := S11.W
  repeat k_extra "lcg_src"
  rename Wn _ _ _ => W12
  obtain ⟨sl, hsl⟩ := wnHead W12
  subst hsl
  have ltsl : ∀ p ∈ (D, dictO #[ent hv0 (Str.ofString "__module__") tk0 (.str (Str.ofString "cpy313.functools") t8), ent hv1 (Str.ofString "__qualname__") tk1 (.str qK t6), ent hv2 (Str.ofString "__firstlineno__") tk2 (.int 4 t7)] 3) :: (P, tabObj ps) :: rest, p.1 < sl := by assumption
  have S13 : St g1 _ D P cc occ bb 0 ps #[ent hv0 (Str.ofString "__module__") tk0 (.str (Str.ofString "cpy313.functools") t8), ent hv1 (Str.ofString "__qualname__") tk1 (.str qK t6), ent hv2 (Str.ofString "__firstlineno__") tk2 (.int 4 t7)] 3 ((sl, { cls := .type "list", data := .seq #[.str (Str.ofString "obj") t11] 0 }) :: rest) :=
    ⟨Wn.third W12, S11.T.mono fun _ hq => .tail _ hq, consNe (Nat.ne_of_gt (ltsl _ (.head _))) S11.nD, fun hb => consNe (Nat.ne_of_gt (ltsl _ (.tail _ (.head _)))) (S11.nP hb), .tail _ S11.c⟩
  clear W11 W12 S11
  unfold StopW
  refine S13.store V X'.loc X'.s8 (by kernel_rfl) (fun hv tk => #[ent hv0 (Str.ofString "__module__") tk0 (.str (Str.ofString "cpy313.functools") t8), ent hv1 (Str.ofString "__qualname__") tk1 (.str qK t6), ent hv2 (Str.ofString "__firstlineno__") tk2 (.int 4 t7), ent hv (Str.ofString "__slots__") tk (.ref sl)]) (n' := 4) (fun _ _ => by kernel_rfl) ?_
  intro hv3 tk3 h14 t14 S14
  clear S13
  repeat k_extra "lcg_src"
  unfold StopW
  refine cls_def S14 V X' (X'.cl0 _ _) X'.s1 (X'.q _ (.head _)) rfl rfl (by kernel_rfl) (fun hv tk f => #[ent hv0 (Str.ofString "__module__") tk0 (.str (Str.ofString "cpy313.functools") t8), ent hv1 (Str.ofString "__qualname__") tk1 (.str qK t6), ent hv2 (Str.ofString "__firstlineno__") tk2 (.int 4 t7), ent hv3 (Str.ofString "__slots__") tk3 (.ref sl), ent hv (Str.ofString "__init__") tk (.ref f)]) (n' := 5) (fun _ _ _ => by kernel_rfl) ?_
  intro f0 c0 ct0 do0 ps0 l0 hh0 tt0 hv4 tk4 SS0 sub0 ci0
  clear S14
  refine cls_def SS0 V X' (X'.cl1 _ _) X'.s2 (X'.q _ (.tail _ (.head _))) rfl rfl (by kernel_rfl) (fun hv tk f => #[ent hv0 (Str.ofString "__module__") tk0 (.str (Str.ofString "cpy313.functools") t8), ent hv1 (Str.ofString "__qualname__") tk1 (.str qK t6), ent hv2 (Str.ofString "__firstlineno__") tk2 (.int 4 t7), ent hv3 (Str.ofString "__slots__") tk3 (.ref sl), ent hv4 (Str.ofString "__init__") tk4 (.ref f0), ent hv (Str.ofString "__lt__") tk (.ref f)]) (n' := 6) (fun _ _ _ => by kernel_rfl) ?_
  intro f1 c1 ct1 do1 ps1 l1 hh1 tt1 hv5 tk5 SS1 sub1 ci1
  clear SS0
  refine cls_def SS1 V X' (X'.cl1 _ _) X'.s3 (X'.q _ (.tail _ (.tail _ (.head _)))) rfl rfl (by kernel_rfl) (fun hv tk f => #[ent hv0 (Str.ofString "__module__") tk0 (.str (Str.ofString "cpy313.functools") t8), ent hv1 (Str.ofString "__qualname__") tk1 (.str qK t6), ent hv2 (Str.ofString "__firstlineno__") tk2 (.int 4 t7), ent hv3 (Str.ofString "__slots__") tk3 (.ref sl), ent hv4 (Str.ofString "__init__") tk4 (.ref f0), ent hv5 (Str.ofString "__lt__") tk5 (.ref f1), ent hv (Str.ofString "__gt__") tk (.ref f)]) (n' := 7) (fun _ _ _ => by kernel_rfl) ?_
  intro f2 c2 ct2 do2 ps2 l2 hh2 tt2 hv6 tk6 SS2 sub2 ci2
  clear SS1
  refine cls_def SS2 V X' (X'.cl1 _ _) X'.s4 (X'.q _ (.tail _ (.tail _ (.tail _ (.head _))))) rfl rfl (by kernel_rfl) (fun hv tk f => #[ent hv0 (Str.ofString "__module__") tk0 (.str (Str.ofString "cpy313.functools") t8), ent hv1 (Str.ofString "__qualname__") tk1 (.str qK t6), ent hv2 (Str.ofString "__firstlineno__") tk2 (.int 4 t7), ent hv3 (Str.ofString "__slots__") tk3 (.ref sl), ent hv4 (Str.ofString "__init__") tk4 (.ref f0), ent hv5 (Str.ofString "__lt__") tk5 (.ref f1), ent hv6 (Str.ofString "__gt__") tk6 (.ref f2), ent hv (Str.ofString "__eq__") tk (.ref f)]) (n' := 8) (fun _ _ _ => by kernel_rfl) ?_
  intro f3 c3 ct3 do3 ps3 l3 hh3 tt3 hv7 tk7 SS3 sub3 ci3
  clear SS2
  refine cls_def SS3 V X' (X'.cl1 _ _) X'.s5 (X'.q _ (.tail _ (.tail _ (.tail _ (.tail _ (.head _)))))) rfl rfl (by kernel_rfl) (fun hv tk f => #[ent hv0 (Str.ofString "__module__") tk0 (.str (Str.ofString "cpy313.functools") t8), ent hv1 (Str.ofString "__qualname__") tk1 (.str qK t6), ent hv2 (Str.ofString "__firstlineno__") tk2 (.int 4 t7), ent hv3 (Str.ofString "__slots__") tk3 (.ref sl), ent hv4 (Str.ofString "__init__") tk4 (.ref f0), ent hv5 (Str.ofString "__lt__") tk5 (.ref f1), ent hv6 (Str.ofString "__gt__") tk6 (.ref f2), ent hv7 (Str.ofString "__eq__") tk7 (.ref f3), ent hv (Str.ofString "__le__") tk (.ref f)]) (n' := 9) (fun _ _ _ => by kernel_rfl) ?_
  intro f4 c4 ct4 do4 ps4 l4 hh4 tt4 hv8 tk8 SS4 sub4 ci4
  clear SS3
  refine cls_def SS4 V X' (X'.cl1 _ _) X'.s6 (X'.q _ (.tail _ (.tail _ (.tail _ (.tail _ (.tail _ (.head _))))))) rfl rfl (by kernel_rfl) (fun hv tk f => #[ent hv0 (Str.ofString "__module__") tk0 (.str (Str.ofString "cpy313.functools") t8), ent hv1 (Str.ofString "__qualname__") tk1 (.str qK t6), ent hv2 (Str.ofString "__firstlineno__") tk2 (.int 4 t7), ent hv3 (Str.ofString "__slots__") tk3 (.ref sl), ent hv4 (Str.ofString "__init__") tk4 (.ref f0), ent hv5 (Str.ofString "__lt__") tk5 (.ref f1), ent hv6 (Str.ofString "__gt__") tk6 (.ref f2), ent hv7 (Str.ofString "__eq__") tk7 (.ref f3), ent hv8 (Str.ofString "__le__") tk8 (.ref f4), ent hv (Str.ofString "__ge__") tk (.ref f)]) (n' := 10) (fun _ _ _ => by kernel_rfl) ?_
  intro f5 c5 ct5 do5 ps5 l5 hh5 tt5 hv9 tk9 SS5 sub5 ci5
  clear SS4
  refine execs_go ?_
  repeat k_extra "lcg_src"
  unfold StopW
  refine SS5.store V X'.loc X'.s9 (by kernel_rfl) (fun hv tk => #[ent hv0 (Str.ofString "__module__") tk0 (.str (Str.ofString "cpy313.functools") t8), ent hv1 (Str.ofString "__qualname__") tk1 (.str qK t6), ent hv2 (Str.ofString "__firstlineno__") tk2 (.int 4 t7), ent hv3 (Str.ofString "__slots__") tk3 (.ref sl), ent hv4 (Str.ofString "__init__") tk4 (.ref f0), ent hv5 (Str.ofString "__lt__") tk5 (.ref f1), ent hv6 (Str.ofString "__gt__") tk6 (.ref f2), ent hv7 (Str.ofString "__eq__") tk7 (.ref f3), ent hv8 (Str.ofString "__le__") tk8 (.ref f4), ent hv9 (Str.ofString "__ge__") tk9 (.ref f5), ent hv (Str.ofString "__hash__") tk (.none)]) (n' := 11) (fun _ _ => by kernel_rfl) ?_
  intro hv10 tk10 h27 t27 S27
  clear SS5
  repeat k_extra "lcg_src"
  unfold StopW
  refine wpAny_execs_nil (hQ' _ _ ?_)
  clear hQ' X' Q' E' A' env'
  have W27 := S27.W
  repeat k_extra "lcg_src"
  rename Wn _ _ _ => Wx
  obtain ⟨st, hst⟩ := wnHead Wx
  subst hst
  rename ∀ p ∈ _, _ < st => ltst
  have S28 : St g1 _ D P cc occ bb 6 ps5 #[ent hv0 (Str.ofString "__module__") tk0 (.str (Str.ofString "cpy313.functools") t8), ent hv1 (Str.ofString "__qualname__") tk1 (.str qK t6), ent hv2 (Str.ofString "__firstlineno__") tk2 (.int 4 t7), ent hv3 (Str.ofString "__slots__") tk3 (.ref sl), ent hv4 (Str.ofString "__init__") tk4 (.ref f0), ent hv5 (Str.ofString "__lt__") tk5 (.ref f1), ent hv6 (Str.ofString "__gt__") tk6 (.ref f2), ent hv7 (Str.ofString "__eq__") tk7 (.ref f3), ent hv8 (Str.ofString "__le__") tk8 (.ref f4), ent hv9 (Str.ofString "__ge__") tk9 (.ref f5), ent hv10 (Str.ofString "__hash__") tk10 (.none)] 11 _ :=
    ⟨Wn.third Wx, S27.T.mono fun _ hq => .tail _ hq, consNe (Nat.ne_of_gt (ltst _ (.head _))) S27.nD, fun hb => consNe (Nat.ne_of_gt (ltst _ (.tail _ (.head _)))) (S27.nP hb), .tail _ S27.c⟩
  clear Wx W27 S27
  unfold StopW
  refine S28.store V rfl (fun _ => by kernel_rfl) (by kernel_rfl) (fun hv tk => #[ent hv0 (Str.ofString "__module__") tk0 (.str (Str.ofString "cpy313.functools") t8), ent hv1 (Str.ofString "__qualname__") tk1 (.str qK t6), ent hv2 (Str.ofString "__firstlineno__") tk2 (.int 4 t7), ent hv3 (Str.ofString "__slots__") tk3 (.ref sl), ent hv4 (Str.ofString "__init__") tk4 (.ref f0), ent hv5 (Str.ofString "__lt__") tk5 (.ref f1), ent hv6 (Str.ofString "__gt__") tk6 (.ref f2), ent hv7 (Str.ofString "__eq__") tk7 (.ref f3), ent hv8 (Str.ofString "__le__") tk8 (.ref f4), ent hv9 (Str.ofString "__ge__") tk9 (.ref f5), ent hv10 (Str.ofString "__hash__") tk10 (.none), ent hv (Str.ofString "__static_attributes__") tk (.ref st)]) (n' := 12) (fun _ _ => by kernel_rfl) ?_
  intro hv11 tk11 h28 t28 S29
  clear S28
  have W28 := S29.W
  repeat k_extra "lcg_src"
  unfold StopW
  have u0 := fun (q : Addr × Obj) (hq : q ∈ rest) => (sub5 _ (.tail _ (sub4 _ (.tail _ (sub3 _ (.tail _ (sub2 _ (.tail _ (sub1 _ (.tail _ (sub0 _ (.tail _ hq))))))))))))
  have vsl := (sub5 _ (.tail _ (sub4 _ (.tail _ (sub3 _ (.tail _ (sub2 _ (.tail _ (sub1 _ (.tail _ (sub0 _ (.head _))))))))))))
  have vf0 := (sub5 _ (.tail _ (sub4 _ (.tail _ (sub3 _ (.tail _ (sub2 _ (.tail _ (sub1 _ (.head _))))))))))
  have vf1 := (sub5 _ (.tail _ (sub4 _ (.tail _ (sub3 _ (.tail _ (sub2 _ (.head _))))))))
  have vf2 := (sub5 _ (.tail _ (sub4 _ (.tail _ (sub3 _ (.head _))))))
  have vf3 := (sub5 _ (.tail _ (sub4 _ (.head _))))
  have vf4 := (sub5 _ (.head _))
  replace ci0 := ci0.mono fun q hq => (sub5 _ (.tail _ (sub4 _ (.tail _ (sub3 _ (.tail _ (sub2 _ (.tail _ (sub1 _ (.tail _ hq))))))))))
  replace ci1 := ci1.mono fun q hq => (sub5 _ (.tail _ (sub4 _ (.tail _ (sub3 _ (.tail _ (sub2 _ (.tail _ hq))))))))
  clear sub0 sub1 sub2 sub3 sub4 sub5 ci2 ci3 ci4 ci5
  have t0m : (t0, tupO #[.type "object"]) ∈ rest := by rw [hrest]; k_memK
  have hDk := (W28.at_ _ (.head _)).1
  refine type_call (hs := (fun i => [hv0, hv1, hv2, hv3, hv4, hv5, hv6, hv7, hv8, hv9, hv10, hv11].getD i 0)) (ts := (fun i => [tk0, tk1, tk2, tk3, tk4, tk5, tk6, tk7, tk8, tk9, tk10, tk11].getD i 0)) hAh hDs (W28.at_ _ (.tail _ (.tail _ (.tail _ (.tail _ (u0 _ t0m)))))).1 hDk (W28.at_ _ (.tail _ (.tail _ (.tail _ (.tail _ vsl))))).1 (W28.at_ _ (.tail _ (.tail _ (.tail _ (.tail _ vf0))))).1 (W28.at_ _ (.tail _ (.tail _ (.tail _ (.tail _ vf1))))).1 (W28.at_ _ (.tail _ (.tail _ (.tail _ (.tail _ vf2))))).1 (W28.at_ _ (.tail _ (.tail _ (.tail _ (.tail _ vf3))))).1 (W28.at_ _ (.tail _ (.tail _ (.tail _ (.tail _ vf4))))).1 (W28.at_ _ (.tail _ (.tail _ (.tail _ (.head _))))).1 (W28.at_ _ (.tail _ (.tail _ (.head _)))).1 (fun C => looks_opaque (X9.keeps W28.keep) (by kernel_rfl)) ?_
  intro C NS M hK tK hsK tsK tmK WK lK1 lK2
  have WZ := W28.trans WK
  have apK := W28.apart WK
  clear WK W28
  repeat k_extra "lcg_src"
  unfold StopW
  have hLm : (L1, oL) ∈ rest := by rw [hrest]; k_memK
  have h16m : (16, tabObj #[rawInt ((4 : Nat) : Int), rawInt ((4 : Nat) : Int), .ref cc]) ∈ rest := by rw [hrest]; k_memK
  have ccm' : (cc, occ) ∈ rest := by rw [hrest]; k_memK
  have clm : (L1 + 1, oc) ∈ rest := by rw [hrest]; k_memK
  have nwm : ∀ q ∈ news, q ∈ rest := fun q hq => by rw [hrest]; exact .tail _ (.tail _ (.tail _ (.tail _ (.tail _ (.tail _ (.tail _ hq))))))
  obtain ⟨nw, hn1, hn2, hn3⟩ := fin_led WZ (List.mem_append_right _ (.tail _ (.tail _ (.tail _ (.tail _ (u0 _ hLm)))))) (List.mem_append_right _ (.tail _ (.tail _ (.tail _ (.tail _ (u0 _ h16m)))))) hoL
  have oLd := hoL
  obtain ⟨esL, epL, hdL, _⟩ := oLd
  have FN := wn_back (WZ.mono (k := (L1, oL) :: (16, tabObj #[rawInt ((4 : Nat) : Int), rawInt ((4 : Nat) : Int), .ref cc]) :: nw) fun p hp => by
    rcases List.mem_cons.mp hp with rfl | hp
    · exact (List.mem_append_right _ (.tail _ (.tail _ (.tail _ (.tail _ (u0 _ hLm))))))
    rcases List.mem_cons.mp hp with rfl | hp
    · exact (List.mem_append_right _ (.tail _ (.tail _ (.tail _ (.tail _ (u0 _ h16m))))))
    · exact (hn1 p hp).1) hoL F1.above fun p hp => by
      rcases List.mem_cons.mp hp with rfl | hp
      · exact Nat.ne_of_lt ltL
      · exact (hn1 p hp).2.1
  refine put_local FN.1 FN.2 (by kernel_rfl) rfl ?_
  intro hLa tLa FL NL
  repeat k_extra "lcg_src"
  have mC := hn3 C _ (List.mem_append_left _ (.tail _ (.head _))) (fun _ _ e => by cases e) (fun e => by cases e)
  have mM := hn3 M _ (List.mem_append_left _ (.head _)) (fun _ _ e => by cases e) (fun e => by cases e)
  have mNS := hn2 _ (List.mem_append_left _ (.tail _ (.tail _ (.head _)))) (fun e => apK _ (.tail _ (.tail _ (.head _))) _ (.tail _ (.tail _ (.tail _ (.tail _ (u0 _ hLm))))) e.symm) (fun e => apK _ (.tail _ (.tail _ (.head _))) _ (.tail _ (.tail _ (.tail _ (.tail _ (u0 _ h16m))))) e.symm)
  have mf0 := hn3 _ _ (List.mem_append_right _ (.tail _ (.tail _ (.tail _ (.tail _ vf0))))) (fun _ _ e => by cases e) (fun e => by cases e)
  have mf1 := hn3 _ _ (List.mem_append_right _ (.tail _ (.tail _ (.tail _ (.tail _ vf1))))) (fun _ _ e => by cases e) (fun e => by cases e)
  have mcl := hn3 _ _ (List.mem_append_right _ (.tail _ (.tail _ (.tail _ (.tail _ (u0 _ clm)))))) (fun _ _ e => by rw [hoc] at e; cases e) (fun e => by rw [e] at hoc; cases hoc)
  have codeM : ∀ a oc fs t q, (a, oc) ∈ l5 → oc.data = .fields fs → fs[1]? = some (.str q t) → (a, oc) ∈ nw := fun a oc fs t q h1 h2 h3 =>
    hn3 a oc (List.mem_append_right _ (.tail _ (.tail _ (.tail _ (.tail _ h1))))) (fun _ _ e => by rw [h2] at e; cases e) (fun e => by rw [e] at h2; cases h2; cases h3)
  have YK : ∀ {h9 : Heap}, (∀ p ∈ nw, h9.get? p.1 = some p.2) → ClsK nw C NS t0 M sl f0 f1 f2 f3 f4 f5 st _ t6 tmK hsK tsK _ _ _ := fun hK => ⟨frag_at hK mC, frag_at hK mNS, frag_at hK mM⟩
  have mK : KNew w C nw := by
    intro mean9 mg9 mb9 news9 cn9 sn9 sg9 sc9 sm9 a9 ccd9 cl9 outer9 A9 base9 h09 L9 m9 s9 Q9 E9 x9 B9 F9 K9 N9 T9 hs9 hret9
    have hK9 : ∀ p ∈ nw, s9.heap.get? p.1 = some p.2 := fun p hp => (N9 p (hs9 p hp)).1
    have Y9 := YK hK9
    refine wpAny_call (make_K F9 N9 (frag_in hK9) (ck_makes Y9) (ck_init Y9) (by rw [typeIn, frag_at hK9 mf0]; rfl) ?_)
    intro x d h' F' N' l1 l2
    obtain ⟨oc0, fs0, tq0, hk1, hk2, hk3, hk5⟩ := ci0
    have N10 := newsCons2 N' (.tail _ (.tail _ (hs9 _ mf0))) (.tail _ (.tail _ (hs9 _ (codeM _ _ _ _ _ hk1 hk2 hk3))))
    have n10 := consNe (x := (d, emptyDict)) (Nat.ne_of_lt l2) fun p hp => Nat.ne_of_lt (Nat.lt_trans (l1 p hp) l2)
    clear F1 N1 W0 WZ FN FL NL N9 N' hK9 Y9
    revert K9; k_fill; intro K9
    kn_enter
    k_steps
    unfold StopW
    (rename News _ _ _ _ => Na); (rename Fr _ _ _ _ => Fa)
    have hKa : ∀ p ∈ nw, _ := fun p hp => (Na p (.tail _ (.tail _ (.tail _ (.tail _ (hs9 p hp)))))).1
    refine set_obj (YK hKa) (frag_in hKa) Fa (newsSub Na fun q hq => .tail _ (.tail _ hq)) (Na _ (.tail _ (.tail _ (.tail _ (.head _))))).1 n10 ?_
    intro hb Fb Nb
    clear Fa Na hKa
    k_steps
    exact hret9 _ _ _ _ (by assumption) (newsSub (by assumption) fun q hq => by
      rcases List.mem_cons.mp hq with rfl | hq
      · exact .head _
      · exact .tail _ (.tail _ hq)) fun p hp => n10 p (.tail _ hp)
  have mL : KLess w C fv nw := by
    intro mean9 mg9 mb9 news9 pn9 cn9 sn9 sg9 sc9 sm9 a9 ccd9 cl9 outer9 A9 base9 h09 L9 m9 s9 Q9 E9 x9 y9 k91 k92 d91 d92 r9 fc9 fo9 fd9 fs9 B9 F9 K9 N9 T9 hs9 hp9 hk91 hk92 hfv9 hf9 hret9
    have gC := (N9 _ (hs9 _ mC)).1
    have gNS := (N9 _ (hs9 _ mNS)).1
    have gf1 := (N9 _ (hs9 _ mf1)).1
    obtain ⟨oc1, fs1, tq1, hk1, hk2, hk3, hk5⟩ := ci1
    refine lt_reach (A := kTop 7 cn9 sn9 sg9 sc9 sm9 L9 a9 ccd9 cl9 outer9) rfl (Nat.le_of_ble_eq_true rfl) (N9 _ hk91).1 (N9 _ hk92).1 gC gNS gf1 ?_
    have N10 := newsCons4 N9 (hs9 _ mf1) (hs9 _ (codeM _ _ _ _ _ hk1 hk2 hk3)) (hs9 _ mcl) hfv9
    clear F1 N1 W0 WZ FN FL NL N9
    revert K9; k_fill; intro K9
    refine wpAny_call ?_
    kn_enter
    k_steps
    unfold StopW
    rename News _ _ _ _ => Na
    have hKa : ∀ p ∈ nw, _ := fun p hp => (Na p (mem4 (hs9 p hp))).1
    refine attr_obj (YK hKa) (frag_in hKa) (Na _ (mem4 hk91)).1 ?_
    k_steps
    unfold StopW
    refine attr_obj (YK hKa) (frag_in hKa) (Na _ (mem4 hk92)).1 ?_
    k_steps
    unfold StopW
    refine' around 8 _ _ _ _ _ _ _ _ _ _ ?zA ?zh ?zd ?zu ?_
    (case zA => exact rfl); (case zh => exact rfl); (case zd => exact Nat.le_of_ble_eq_true rfl); (case zu => exact Nat.le_of_ble_eq_true rfl)
    refine' hf9 ?zB ?zF ?zK ?zN ?zT ?zsub ?_
    (case zB => k_asm); (case zF => k_asm); (case zK => k_asm); (case zN => k_asm); (case zT => k_asm); (case zsub => exact fun q hq => mem4 (hp9 q hq))
    intro t7 h7 tk7 F7 N7
    k_steps
    exact hret9 _ _ (by assumption) (newsSub (by assumption) fun q hq => mem4 hq)
  refine hQ0 _ _ ⟨rfl, C, _, _, nw, hLa, tLa, rfl, FL, if_pos rfl, NL, fun q hq => hn2 q (List.mem_append_right _ (.tail _ (.tail _ (.tail _ (.tail _ (u0 _ (nwm q hq))))))) (N1 q (.tail _ (.tail _ hq))).2.1 (hn16 q hq), fun p hp => (hn1 p hp).2.2, .inr ⟨cc, occ, P, ps5, rfl, ?_, hoc5, hcP, ?_, ?_⟩, mK, mL⟩
  · obtain ⟨vs9, _, _, _, _, _, _, _, hk1, hk2, _⟩ := hoc5
    exact hn3 _ _ (List.mem_append_right _ (.tail _ (.tail _ (.tail _ (.tail _ (u0 _ ccm')))))) (fun _ _ e => by rw [hk2] at e; cases e) (fun e => by rw [e] at hk1; cases hk1)
  · refine hn2 _ (List.mem_append_right _ (.tail _ (.head _))) (fun e => ?_) hP16
    dsimp only at e
    have e9 := WZ.same (a := L1) (List.mem_append_right _ (.tail _ (.tail _ (.tail _ (.tail _ (u0 _ hLm)))))) (o' := tabObj ps5) (e ▸ List.mem_append_right _ (.tail _ (.head _)))
    rw [e9] at hdL; cases hdL
  · exact S29.T.full.to fun a oc fs t q h1 h2 h3 => hn3 a oc (List.mem_append_right _ (.tail _ (.tail _ h1))) (fun _ _ e => by rw [h2] at e; cases e) (fun e => by rw [e] at h2; cases h2; cases h3)
end
end Mine
end

section
open PySem PySem.SeqAt PySem.Challenge PySem.W PySem.Spec PySem.Calls PyProof.Rows
namespace Mine
noncomputable def KeyEnd (h₀ : Heap) (L : Addr) (m : Str → Option Value) (need : List (Addr × Obj)) (C : Addr) (v : Value) (s₁ : Shared) (r : Value) (s₂ : Shared) : Prop :=
  ∃ (k d : Addr) (h' : Heap) (tk : Nat), r = .ref k ∧ s₂ = { s₁ with heap := h', toks := tk } ∧ Fr h₀ L h' m ∧ News h₀ L h' ((k, instO C d v) :: need) ∧ ∀ p ∈ need, p.1 ≠ k
noncomputable def LessEnd (h₀ : Heap) (L : Addr) (m : Str → Option Value) (need : List (Addr × Obj)) (b : Bool) (s₁ : Shared) (r : Value) (s₂ : Shared) : Prop :=
  ∃ (h' : Heap) (tk : Nat), r = .bool b ∧ s₂ = { s₁ with heap := h', toks := tk } ∧ Fr h₀ L h' m ∧ News h₀ L h' need
/-- the item that min keeps, from item j on, r items left -/
noncomputable def bestI (lt : Nat → Nat → Bool) (b j : Nat) : Nat → Nat
  | 0 => b
  | r + 1 => bestI lt (if lt (j + 1) b then j + 1 else b) (j + 1) r
theorem memLast {α : Type} {p k : α} {l r : List α} (h : p ∈ l ++ (r ++ [k])) : p ∈ k :: (l ++ r) := by
  rcases List.mem_append.mp h with h | h
  · exact .tail _ (List.mem_append_left _ h)
  rcases List.mem_append.mp h with h | h
  · exact .tail _ (List.mem_append_right _ h)
  · rw [List.mem_singleton.mp h]; exact .head _
theorem memWide {α : Type} {p : α} {l r k : List α} (h : p ∈ l ++ r) : p ∈ l ++ (r ++ k) := by
  rcases List.mem_append.mp h with h | h
  · exact List.mem_append_left _ h
  · exact List.mem_append_right _ (List.mem_append_left _ h)
section
variable {prog : Program} {w : World} {A : Around} {E : Value → Shared → Prop} {s : Shared} {h₀ : Heap} {L l q I S C : Addr} {m : Str → Option Value} {news : List (Addr × Obj)} {vs : List Value} {R : Result → Shared → Prop} {Q : Value → Shared → Prop}
noncomputable abbrev ledM (news : List (Addr × Obj)) (S I kb : Addr) (C db : Addr) (vb : Value) (c : Nat) (oI : Obj) : List (Addr × Obj) := news ++ [(S, seqObj "list" #[vb, .ref kb] c), (I, oI), (kb, instO C db vb)]
theorem mm_loop (lt : Nat → Nat → Bool) (hh : A.handled = none) (hl : ∀ h, Fr h₀ L h m → News h₀ L h news → h.IsList l vs.toArray) (hlI : l ≠ I) (hSI : S ≠ I) (hnS : ∀ p ∈ news, p.1 ≠ S) (hnI : ∀ p ∈ news, p.1 ≠ I)
    (turn : ∀ (i : Nat) (v : Value), vs[i]? = some v → ∀ (h : Heap) (tk : Nat) (own : List (Addr × Obj)), Fr h₀ L h m → News h₀ L h (news ++ own) →
      wpAny (model prog w) A.in1 (call (.ref q) [v]) (KeyEnd h₀ L m (news ++ own) C v { s with heap := h, toks := tk }) (fun _ _ => False) { s with heap := h, toks := tk })
    (less : ∀ (i j : Nat) (v1 v2 : Value), vs[i]? = some v1 → vs[j]? = some v2 → ∀ (h : Heap) (tk : Nat) (own : List (Addr × Obj)) (k1 d1 k2 d2 : Addr), Fr h₀ L h m → News h₀ L h (news ++ own) → (k1, instO C d1 v1) ∈ own → (k2, instO C d2 v2) ∈ own →
      wpAny (model prog w) A.in1 (richCompare .Lt (.ref k1) (.ref k2)) (LessEnd h₀ L m (news ++ own) (lt i j) { s with heap := h, toks := tk }) (fun _ _ => False) { s with heap := h, toks := tk })
    :
    ∀ (r j i : Nat) (h : Heap) (tk : Nat) (vb : Value) (kb db : Addr) (c : Nat) (oI : Obj), vs.length - (j + 1) = r → j + 1 ≤ vs.length → Fr h₀ L h m →
      News h₀ L h (ledM news S I kb C db vb c oI) → kb ≠ S → kb ≠ I → h.IsListIter I l (j + 1) → vs[i]? = some vb →
      (∀ v h' tk', vs[bestI lt i j r]? = some v → Fr h₀ L h' m → News h₀ L h' news → R (.ok (.ret v)) { s with heap := h', toks := tk' }) →
      codeAny (model prog w) A (.builtin "min.loop" ⟨[.ref I, .ref q, .ref S], []⟩) R { s with heap := h, toks := tk } := by
  have hname : (toString "min" ++ toString ".loop" : String) = "min.loop" := by decide
  have W := Walks.list (prog := prog) (w := w) (A := A.in1) hh I l hlI vs.toArray
  have hsz : vs.toArray.size = vs.length := List.size_toArray ..
  intro r
  induction r with
  | zero =>
    intro j i h tk vb kb db c oI hr hj F N hkS hkI hit hvb hR
    have hin : j + 1 = vs.length := by omega
    have nS := N (S, seqObj "list" #[vb, .ref kb] c) (List.mem_append_right _ (.head _))
    have nI := N (I, oI) (List.mem_append_right _ (.tail _ (.head _)))
    have Nn : News h₀ L h news := fun p hp => N p (List.mem_append_left _ hp)
    refine codeAny_builtin PySem.F.entry_min_loop ?_
    rw [Around.under_plainId PySem.F.plain_min_loop _]
    show wpAny _ A.in1 (seqItems? (.ref S) >>= _) _ _ _
    refine wpAny_bind (wpAny_seqItems nS.1 rfl ?_)
    show wpAny _ A.in1 (tryCatch (pyNext (.ref I)) _ >>= _) _ _ _
    refine wpAny_bind (wpAny_tryCatch (W.done _ _ _ ⟨by rw [hsz, ← hin]; exact hit, hl h F Nn⟩ fun h' tk' hk' => ?_))
    have F1 := kmk_fr F hk' nI.2.1 nI.2.2
    have N1 := kmk_news Nn hk' hnI
    have hS' := hk' S _ (by simpa using hSI) nS.1
    have s1 := Heap.SameBut.update h' S (Obj.mapSeq fun _ => (#[] : Array Value))
    show wpAny _ A.in1 (updateSeq S (fun _ => #[]) >>= _) _ _ _
    refine wpAny_bind ?_
    refine wpAny_updateSeq hS' rfl (wpAny_bind (wpAny_letGo (wpAny_pure ?_)))
    exact hR vb _ _ hvb (ksk_fr F1 s1 nS.2.1 nS.2.2) (ksk_news N1 s1 hnS)
  | succ r ih =>
    intro j i h tk vb kb db c oI hr hj F N hkS hkI hit hvb hR
    have hlt : j + 1 < vs.length := by omega
    have nS := N (S, seqObj "list" #[vb, .ref kb] c) (List.mem_append_right _ (.head _))
    have nI := N (I, oI) (List.mem_append_right _ (.tail _ (.head _)))
    have nK := N (kb, instO C db vb) (List.mem_append_right _ (.tail _ (.tail _ (.head _))))
    have Nn : News h₀ L h news := fun p hp => N p (List.mem_append_left _ hp)
    refine codeAny_builtin PySem.F.entry_min_loop ?_
    rw [Around.under_plainId PySem.F.plain_min_loop _]
    show wpAny _ A.in1 (seqItems? (.ref S) >>= _) _ _ _
    refine wpAny_bind (wpAny_seqItems nS.1 rfl ?_)
    show wpAny _ A.in1 (tryCatch (pyNext (.ref I)) _ >>= _) _ _ _
    refine wpAny_bind (wpAny_tryCatch (W.item (j + 1) _ _ _ (by rw [hsz]; exact hlt) ⟨hit, hl h F Nn⟩ fun v h' tk' hP hst' hk' => ?_))
    have hv : vs[j + 1]? = some v := by simpa using hP
    obtain ⟨oI', hoI', hoc, hod⟩ := id hst'.1
    have F1 := kmk_fr F hk' nI.2.1 nI.2.2
    have N1 : News h₀ L h' (ledM news S I kb C db vb c oI') := fun p hp => by
      rcases List.mem_append.mp hp with hp | hp
      · exact kmk_news Nn hk' hnI p hp
      · rcases List.mem_cons.mp hp with rfl | hp
        · exact ⟨hk' S _ (by simpa using hSI) nS.1, nS.2⟩
        rcases List.mem_cons.mp hp with rfl | hp
        · exact ⟨hoI', nI.2⟩
        · rw [List.mem_singleton.mp hp]
          exact ⟨hk' kb _ (by simpa using hkI) nK.1, nK.2⟩
    show wpAny _ A.in1 (tryCatch (holding [v] (call (.ref q) [v])) _ >>= _) _ _ _
    refine wpAny_bind (wpAny_tryCatch (wpAny_holding (wpAny_mono (turn (j + 1) v hv h' tk' _ F1 N1) (fun x s'' he => ?_) fun _ _ hF => hF.elim)))
    obtain ⟨k, d, h2, tk2, rfl, rfl, F2, N2, hk2⟩ := he
    have N3 : News h₀ L h2 (news ++ [(S, seqObj "list" #[vb, .ref kb] c), (I, oI'), (kb, instO C db vb), (k, instO C d v)]) := newsSub N2 fun p hp => memLast (r := [_, _, _]) hp
    have hkS2 : k ≠ S := fun e => hk2 (S, seqObj "list" #[vb, .ref kb] c) (List.mem_append_right _ (.head _)) e.symm
    have hkI2 : k ≠ I := fun e => hk2 (I, oI') (List.mem_append_right _ (.tail _ (.head _))) e.symm
    show wpAny _ A.in1 (tryCatch (holding [v, .ref k] (richCompare .Lt (.ref k) (.ref kb) >>= _)) _ >>= _) _ _ _
    refine wpAny_bind (wpAny_tryCatch (wpAny_holding (wpAny_bind (wpAny_mono (less (j + 1) i v vb hv hvb h2 tk2 _ k d kb db F2 N3 (.tail _ (.tail _ (.tail _ (.head _)))) (.tail _ (.tail _ (.head _)))) (fun x s'' he => ?_) fun _ _ hF => hF.elim))))
    obtain ⟨h3, tk3, rfl, rfl, F3, N4⟩ := he
    have nS3 := N4 (S, seqObj "list" #[vb, .ref kb] c) (List.mem_append_right _ (.head _))
    have nI3 := N4 (I, oI') (List.mem_append_right _ (.tail _ (.head _)))
    have nK3 := N4 (kb, instO C db vb) (List.mem_append_right _ (.tail _ (.tail _ (.head _))))
    have nk3 := N4 (k, instO C d v) (List.mem_append_right _ (.tail _ (.tail _ (.tail _ (.head _)))))
    have Nn3 : News h₀ L h3 news := fun p hp => N4 p (List.mem_append_left _ hp)
    have hit3 : h3.IsListIter I l (j + 1 + 1) := ⟨oI', nI3.1, hoc, hod⟩
    refine wpAny_bind (wpAny_holding (wpAny_truthy_bool ?_))
    refine wpAny_bind (wpAny_letGo (wpAny_pure ?_))
    rw [show bestI lt i j (r + 1) = bestI lt (if lt (j + 1) i then j + 1 else i) (j + 1) r from rfl] at hR
    cases hb' : lt (j + 1) i with
    | true =>
      rw [hb'] at hR
      have s1 := Heap.SameBut.update h3 S (Obj.mapSeq fun _ => #[v, .ref k])
      obtain ⟨c2, hc2⟩ : ∃ c2, (h3.update S (Obj.mapSeq fun _ => #[v, .ref k])).get? S = some (seqObj "list" #[v, .ref k] c2) := ⟨_, get?_update_seq nS3.1 fun _ => #[v, .ref k]⟩
      refine wpAny_ite_true rfl ?_
      refine wpAny_bind ?_
      refine wpAny_updateSeq nS3.1 rfl (wpAny_bind (wpAny_letGo ?_))
      rw [hname]
      refine wpAny_pure ⟨plainId_quiet PySem.F.plain_min_loop _, ih (j + 1) (j + 1) _ _ v k d c2 oI' (by omega) hlt (ksk_fr F3 s1 nS3.2.1 nS3.2.2) (fun p hp => ?_) hkS2 hkI2 ⟨oI', (s1.2 I hSI.symm).trans nI3.1, hoc, hod⟩ hv hR⟩
      rcases List.mem_append.mp hp with hp | hp
      · exact ksk_news Nn3 s1 hnS p hp
      · rcases List.mem_cons.mp hp with rfl | hp
        · exact ⟨hc2, nS3.2⟩
        rcases List.mem_cons.mp hp with rfl | hp
        · exact ⟨(s1.2 I hSI.symm).trans nI3.1, nI3.2⟩
        · rw [List.mem_singleton.mp hp]
          exact ⟨(s1.2 k hkS2).trans nk3.1, nk3.2⟩
    | false =>
      rw [hb'] at hR
      refine wpAny_ite_false rfl ?_
      refine wpAny_bind (wpAny_letGo ?_)
      rw [hname]
      refine wpAny_pure ⟨plainId_quiet PySem.F.plain_min_loop _, ih (j + 1) i _ _ vb kb db c oI' (by omega) hlt F3 (newsSub N4 fun p hp => memWide (r := [_, _, _]) (k := [_]) hp) hkS hkI hit3 hvb hR⟩
theorem mm_min (lt : Nat → Nat → Bool) (hh : A.handled = none) (F : Fr h₀ L s.heap m) (N : News h₀ L s.heap news) (hl : ∀ h, Fr h₀ L h m → News h₀ L h news → h.IsList l vs.toArray) (hne : 0 < vs.length)
    (turn : ∀ (i : Nat) (v : Value), vs[i]? = some v → ∀ (h : Heap) (tk : Nat) (own : List (Addr × Obj)), Fr h₀ L h m → News h₀ L h (news ++ own) →
      wpAny (model prog w) A.in1 (call (.ref q) [v]) (KeyEnd h₀ L m (news ++ own) C v { s with heap := h, toks := tk }) (fun _ _ => False) { s with heap := h, toks := tk })
    (less : ∀ (i j : Nat) (v1 v2 : Value), vs[i]? = some v1 → vs[j]? = some v2 → ∀ (h : Heap) (tk : Nat) (own : List (Addr × Obj)) (k1 d1 k2 d2 : Addr), Fr h₀ L h m → News h₀ L h (news ++ own) → (k1, instO C d1 v1) ∈ own → (k2, instO C d2 v2) ∈ own →
      wpAny (model prog w) A.in1 (richCompare .Lt (.ref k1) (.ref k2)) (LessEnd h₀ L m (news ++ own) (lt i j) { s with heap := h, toks := tk }) (fun _ _ => False) { s with heap := h, toks := tk })
    (hQ : ∀ v h' tk', vs[bestI lt 0 0 (vs.length - 1)]? = some v → Fr h₀ L h' m → News h₀ L h' news → Q v { s with heap := h', toks := tk' }) :
    wpAny (model prog w) A (call (.builtin "min") [.ref l] [(Str.ofString "key", .ref q)]) Q E s := by
  have hname : (toString "min" ++ toString ".loop" : String) = "min.loop" := by decide
  have hls := hl _ F N
  obtain ⟨ol, hol, _⟩ := id hls
  have hll : l < s.heap.objs.size := Heap.lt_size hol
  have hL : L < s.heap.objs.size := F.ns.lt
  refine kmk_tree PySem.F.kind_min PySem.F.plain_min PySem.F.entry_min (kmk_min_key _ _) ?_
  show wpAny _ A.in1 (Builtin.Builtins.bindParams "min" ["key", "default"] 0 ⟨[], [(Str.ofString "key", .ref q)]⟩ >>= _) _ _ s
  refine wpAny_bind (wpAny_of_eq (show Builtin.Builtins.bindParams "min" ["key", "default"] 0 ⟨[], [(Str.ofString "key", .ref q)]⟩ = pure [some (.ref q), none] from rfl) ?_)
  refine wpAny_bind (wpAny_pure ?_)
  refine wpAny_bind (wpAny_pyIter_list hls ?_)
  refine wpAny_bind (wpAny_newList ?_ (Nat.zero_le _))
  rw [hname]
  obtain ⟨oi, hoi⟩ : ∃ o : Obj, o = { cls := .type "list_iterator", data := .fields #[.ref l, .int 0 0] } := ⟨_, rfl⟩
  rw [← hoi]
  have hz : (s.heap.push oi).objs.size = s.heap.objs.size + 1 := size_push' ..
  obtain ⟨I, hI⟩ : ∃ x, x = s.heap.objs.size := ⟨_, rfl⟩
  obtain ⟨S, hS⟩ : ∃ x, x = (s.heap.push oi).objs.size := ⟨_, rfl⟩
  have FH : Fr h₀ L ((s.heap.push oi).push (seqObj "list" #[] 0)) m := (F.push _).push _
  have up : ∀ b x, s.heap.get? b = some x → ((s.heap.push oi).push (seqObj "list" #[] 0)).get? b = some x := fun b x e => Heap.get?_push_of_some _ (Heap.get?_push_of_some _ e)
  have NH : News h₀ L ((s.heap.push oi).push (seqObj "list" #[] 0)) news := N.grown up
  have gI : ((s.heap.push oi).push (seqObj "list" #[] 0)).get? I = some oi := by
    rw [hI]; exact Heap.get?_push_of_some _ (Heap.get?_push_size _ (by rw [hoi]; rfl))
  have gS : ((s.heap.push oi).push (seqObj "list" #[] 0)).get? S = some (seqObj "list" #[] 0) := by rw [hS]; exact Heap.get?_push_size _ rfl
  rw [← hI, ← hS]
  have hSI : S ≠ I := by rw [hS, hI, hz]; exact Nat.ne_of_gt (Nat.lt_succ_self _)
  have hlI : l ≠ I := by rw [hI]; exact Nat.ne_of_lt hll
  have hnI : ∀ p ∈ news, p.1 ≠ I := fun p hp => by rw [hI]; exact Nat.ne_of_lt (Heap.lt_size (N p hp).1)
  have hnS : ∀ p ∈ news, p.1 ≠ S := fun p hp => by rw [hS, hz]; exact Nat.ne_of_lt (Nat.lt_succ_of_lt (Heap.lt_size (N p hp).1))
  have aI : I ≠ L := by rw [hI]; exact Nat.ne_of_gt hL
  have aS : S ≠ L := by rw [hS, hz]; exact Nat.ne_of_gt (Nat.lt_succ_of_lt hL)
  have fresh : ∀ b, L < b → h₀.get? b = none := fun b hb => Heap.get?_none_of_le (Nat.le_trans F.above (Nat.le_of_lt hb))
  have zI : h₀.get? I = none := fresh _ (by rw [hI]; exact hL)
  have zS : h₀.get? S = none := fresh _ (by rw [hS, hz]; exact Nat.lt_succ_of_lt hL)
  refine wpAny_pure ⟨plainId_quiet PySem.F.plain_min_loop _, ?_⟩
  have W := Walks.list (prog := prog) (w := w) (A := A.in1) hh I l hlI vs.toArray
  have hsz : vs.toArray.size = vs.length := List.size_toArray ..
  refine codeAny_builtin PySem.F.entry_min_loop ?_
  rw [Around.under_plainId PySem.F.plain_min_loop _]
  show wpAny _ A.in1 (seqItems? (.ref _) >>= _) _ _ _
  refine wpAny_bind (wpAny_seqItems gS rfl ?_)
  show wpAny _ A.in1 (tryCatch (pyNext (.ref I)) _ >>= _) _ _ _
  refine wpAny_bind (wpAny_tryCatch (W.item 0 _ _ _ (by rw [hsz]; exact hne) ⟨⟨_, gI, by rw [hoi], by rw [hoi]; rfl⟩, hl _ FH NH⟩ fun v h' tk' hP hst' hk' => ?_))
  have hv : vs[0]? = some v := by simpa using hP
  obtain ⟨oI', hoI', hoc, hod⟩ := id hst'.1
  have F1 := kmk_fr FH hk' aI zI
  have N1 : News h₀ L h' (news ++ [(S, seqObj "list" #[] 0), (I, oI')]) := fun p hp => by
    rcases List.mem_append.mp hp with hp | hp
    · exact kmk_news NH hk' hnI p hp
    · rcases List.mem_cons.mp hp with rfl | hp
      · exact ⟨hk' _ _ (by simpa using hSI) gS, aS, zS⟩
      · rw [List.mem_singleton.mp hp]
        exact ⟨hoI', aI, zI⟩
  show wpAny _ A.in1 (tryCatch (holding [v] (call (.ref q) [v])) _ >>= _) _ _ _
  refine wpAny_bind (wpAny_tryCatch (wpAny_holding (wpAny_mono (turn 0 v hv h' tk' _ F1 N1) (fun x s'' he => ?_) fun _ _ hF => hF.elim)))
  obtain ⟨k, d, h2, tk2, rfl, rfl, F2, N2, hk2⟩ := he
  have nS2 := N2 (S, seqObj "list" #[] 0) (List.mem_cons_of_mem _ (List.mem_append_right _ (.head _)))
  have nI2 := N2 (I, oI') (List.mem_cons_of_mem _ (List.mem_append_right _ (.tail _ (.head _))))
  have nk2 := N2 (k, instO C d v) (.head _)
  have Nn2 : News h₀ L h2 news := fun p hp => N2 p (List.mem_cons_of_mem _ (List.mem_append_left _ hp))
  have hkS : k ≠ S := fun e => hk2 (S, seqObj "list" #[] 0) (List.mem_append_right _ (.head _)) e.symm
  have hkI : k ≠ I := fun e => hk2 (I, oI') (List.mem_append_right _ (.tail _ (.head _))) e.symm
  have s1 := Heap.SameBut.update h2 S (Obj.mapSeq fun _ => #[v, .ref k])
  obtain ⟨c2, hc2⟩ : ∃ c2, (h2.update S (Obj.mapSeq fun _ => #[v, .ref k])).get? S = some (seqObj "list" #[v, .ref k] c2) := ⟨_, get?_update_seq nS2.1 fun _ => #[v, .ref k]⟩
  show wpAny _ A.in1 (updateSeq S (fun _ => #[v, .ref k]) >>= _) _ _ _
  refine wpAny_bind ?_
  refine wpAny_updateSeq nS2.1 rfl ?_
  rw [hname]
  refine wpAny_pure ⟨plainId_quiet PySem.F.plain_min_loop _, mm_loop lt hh hl hlI hSI hnS hnI turn less (vs.length - 1) 0 0 _ _ v k d c2 oI' rfl hne (ksk_fr F2 s1 nS2.2.1 nS2.2.2) (fun p hp => ?_) hkS hkI ⟨oI', (s1.2 _ hSI.symm).trans nI2.1, hoc, hod⟩ hv hQ⟩
  rcases List.mem_append.mp hp with hp | hp
  · exact ksk_news Nn2 s1 hnS p hp
  · rcases List.mem_cons.mp hp with rfl | hp
    · exact ⟨hc2, nS2.2⟩
    rcases List.mem_cons.mp hp with rfl | hp
    · exact ⟨(s1.2 _ hSI.symm).trans nI2.1, nI2.2⟩
    · rw [List.mem_singleton.mp hp]
      exact ⟨(s1.2 k hkS).trans nk2.1, nk2.2⟩
/-- the item that min keeps is the one that the plain rule keeps -/
theorem best_eq {here : Pt} {lt : Nat → Nat → Bool} {ps : List Pt} (hlt : ∀ i j p q, ps[i]? = some p → ps[j]? = some q → lt i j = decide (cmpP here p q < 0)) :
    ∀ (r b j : Nat) (pb : Pt), ps.length = j + 1 + r → ps[b]? = some pb → ps[bestI lt b j r]? = some (bestP here pb (ps.drop (j + 1)))
  | 0, b, j, pb, h, hb => by
    rw [List.drop_of_length_le (by omega)]
    exact hb
  | r + 1, b, j, pb, h, hb => by
    have hj : j + 1 < ps.length := by omega
    rw [List.drop_eq_getElem_cons hj]
    have e := hlt (j + 1) b _ pb (List.getElem?_eq_getElem hj) hb
    rw [bestI, bestP, e]
    by_cases hc : cmpP here ps[j + 1] pb < 0
    · simp only [hc, decide_true, if_true]
      exact best_eq hlt r (j + 1) (j + 1) _ (by omega) (List.getElem?_eq_getElem hj)
    · simp only [hc, decide_false, Bool.false_eq_true, if_false]
      exact best_eq hlt r b (j + 1) _ (by omega) hb
end
end Mine
end

section
open PySem PySem.SeqAt PySem.Challenge PySem.W PySem.Spec PySem.Calls PyProof.Rows
namespace Mine
section
variable {prog : Program} {w : World} {A : Around} {E : Value → Shared → Prop} {s : Shared} {h₀ : Heap} {L l I S : Addr} {m : Str → Option Value} {news : List (Addr × Obj)} {vs : List Value} {R : Result → Shared → Prop} {Q : Value → Shared → Prop}
theorem m0_loop (lt : Nat → Nat → Bool) (hh : A.handled = none) (hl : ∀ h, Fr h₀ L h m → News h₀ L h news → h.IsList l vs.toArray) (hlI : l ≠ I) (hSI : S ≠ I) (hnS : ∀ p ∈ news, p.1 ≠ S) (hnI : ∀ p ∈ news, p.1 ≠ I)
    (less : ∀ (i j : Nat) (v1 v2 : Value), vs[i]? = some v1 → vs[j]? = some v2 → ∀ (h : Heap) (tk : Nat) (P : Value → Shared → Prop) (E' : Value → Shared → Prop), Fr h₀ L h m → News h₀ L h news → P (.bool (lt i j)) { s with heap := h, toks := tk } →
      wpAny (model prog w) A.in1 (richCompare .Lt v1 v2) P E' { s with heap := h, toks := tk }) :
    ∀ (r j i : Nat) (h : Heap) (tk : Nat) (vb : Value) (c : Nat) (oI : Obj), vs.length - (j + 1) = r → j + 1 ≤ vs.length → Fr h₀ L h m →
      News h₀ L h (news ++ [(S, seqObj "list" #[vb, vb] c), (I, oI)]) → h.IsListIter I l (j + 1) → vs[i]? = some vb →
      (∀ v h' tk', vs[bestI lt i j r]? = some v → Fr h₀ L h' m → News h₀ L h' news → R (.ok (.ret v)) { s with heap := h', toks := tk' }) →
      codeAny (model prog w) A (.builtin "min.loop" ⟨[.ref I, .none, .ref S], []⟩) R { s with heap := h, toks := tk } := by
  have hname : (toString "min" ++ toString ".loop" : String) = "min.loop" := by decide
  have W := Walks.list (prog := prog) (w := w) (A := A.in1) hh I l hlI vs.toArray
  have hsz : vs.toArray.size = vs.length := List.size_toArray ..
  intro r
  induction r with
  | zero =>
    intro j i h tk vb c oI hr hj F N hit hvb hR
    have hin : j + 1 = vs.length := by lia
    have nS := N (S, seqObj "list" #[vb, vb] c) (List.mem_append_right _ (.head _))
    have nI := N (I, oI) (List.mem_append_right _ (.tail _ (.head _)))
    have Nn : News h₀ L h news := fun p hp => N p (List.mem_append_left _ hp)
    refine codeAny_builtin PySem.F.entry_min_loop ?_
    rw [Around.under_plainId PySem.F.plain_min_loop _]
    show wpAny _ A.in1 (seqItems? (.ref S) >>= _) _ _ _
    refine wpAny_bind (wpAny_seqItems nS.1 rfl ?_)
    show wpAny _ A.in1 (tryCatch (pyNext (.ref I)) _ >>= _) _ _ _
    refine wpAny_bind (wpAny_tryCatch (W.done _ _ _ ⟨by rw [hsz, ← hin]; exact hit, hl h F Nn⟩ fun h' tk' hk' => ?_))
    have F1 := kmk_fr F hk' nI.2.1 nI.2.2
    have N1 := kmk_news Nn hk' hnI
    have hS' := hk' S _ (by simpa using hSI) nS.1
    have s1 := Heap.SameBut.update h' S (Obj.mapSeq fun _ => (#[] : Array Value))
    show wpAny _ A.in1 (updateSeq S (fun _ => #[]) >>= _) _ _ _
    refine wpAny_bind ?_
    refine wpAny_updateSeq hS' rfl (wpAny_bind (wpAny_letGo (wpAny_pure ?_)))
    exact hR vb _ _ hvb (ksk_fr F1 s1 nS.2.1 nS.2.2) (ksk_news N1 s1 hnS)
  | succ r ih =>
    intro j i h tk vb c oI hr hj F N hit hvb hR
    have hlt : j + 1 < vs.length := by lia
    have nS := N (S, seqObj "list" #[vb, vb] c) (List.mem_append_right _ (.head _))
    have nI := N (I, oI) (List.mem_append_right _ (.tail _ (.head _)))
    have Nn : News h₀ L h news := fun p hp => N p (List.mem_append_left _ hp)
    refine codeAny_builtin PySem.F.entry_min_loop ?_
    rw [Around.under_plainId PySem.F.plain_min_loop _]
    show wpAny _ A.in1 (seqItems? (.ref S) >>= _) _ _ _
    refine wpAny_bind (wpAny_seqItems nS.1 rfl ?_)
    show wpAny _ A.in1 (tryCatch (pyNext (.ref I)) _ >>= _) _ _ _
    refine wpAny_bind (wpAny_tryCatch (W.item (j + 1) _ _ _ (by rw [hsz]; exact hlt) ⟨hit, hl h F Nn⟩ fun v h' tk' hP hst' hk' => ?_))
    have hv : vs[j + 1]? = some v := by simpa using hP
    obtain ⟨oI', hoI', hoc, hod⟩ := id hst'.1
    have F1 := kmk_fr F hk' nI.2.1 nI.2.2
    have N1 : News h₀ L h' (news ++ [(S, seqObj "list" #[vb, vb] c), (I, oI')]) := fun p hp => by
      rcases List.mem_append.mp hp with hp | hp
      · exact kmk_news Nn hk' hnI p hp
      · rcases List.mem_cons.mp hp with rfl | hp
        · exact ⟨hk' S _ (by simpa using hSI) nS.1, nS.2⟩
        · rw [List.mem_singleton.mp hp]
          exact ⟨hoI', nI.2⟩
    have nS3 := N1 (S, seqObj "list" #[vb, vb] c) (List.mem_append_right _ (.head _))
    have nI3 := N1 (I, oI') (List.mem_append_right _ (.tail _ (.head _)))
    have Nn3 : News h₀ L h' news := fun p hp => N1 p (List.mem_append_left _ hp)
    have hit3 : h'.IsListIter I l (j + 1 + 1) := ⟨oI', nI3.1, hoc, hod⟩
    refine wpAny_bind (wpAny_pure ?_)
    show wpAny _ A.in1 (tryCatch (holding [v, v] (richCompare .Lt v vb >>= _)) _ >>= _) _ _ _
    refine wpAny_bind (wpAny_tryCatch (wpAny_holding (wpAny_bind (less (j + 1) i v vb hv hvb h' tk' _ _ F1 Nn3 ?_))))
    refine wpAny_bind (wpAny_holding (wpAny_truthy_bool ?_))
    refine wpAny_bind (wpAny_letGo (wpAny_pure ?_))
    rw [show bestI lt i j (r + 1) = bestI lt (if lt (j + 1) i then j + 1 else i) (j + 1) r from rfl] at hR
    cases hb' : lt (j + 1) i with
    | true =>
      rw [hb'] at hR
      have s1 := Heap.SameBut.update h' S (Obj.mapSeq fun _ => #[v, v])
      obtain ⟨c2, hc2⟩ : ∃ c2, (h'.update S (Obj.mapSeq fun _ => #[v, v])).get? S = some (seqObj "list" #[v, v] c2) := ⟨_, get?_update_seq nS3.1 fun _ => #[v, v]⟩
      refine wpAny_ite_true rfl ?_
      refine wpAny_bind ?_
      refine wpAny_updateSeq nS3.1 rfl (wpAny_bind (wpAny_letGo ?_))
      rw [hname]
      refine wpAny_pure ⟨plainId_quiet PySem.F.plain_min_loop _, ih (j + 1) (j + 1) _ _ v c2 oI' (by lia) hlt (ksk_fr F1 s1 nS3.2.1 nS3.2.2) (fun p hp => ?_) ⟨oI', (s1.2 I hSI.symm).trans nI3.1, hoc, hod⟩ hv hR⟩
      rcases List.mem_append.mp hp with hp | hp
      · exact ksk_news Nn3 s1 hnS p hp
      · rcases List.mem_cons.mp hp with rfl | hp
        · exact ⟨hc2, nS3.2⟩
        · rw [List.mem_singleton.mp hp]
          exact ⟨(s1.2 I hSI.symm).trans nI3.1, nI3.2⟩
    | false =>
      rw [hb'] at hR
      refine wpAny_ite_false rfl ?_
      refine wpAny_bind (wpAny_letGo ?_)
      rw [hname]
      exact wpAny_pure ⟨plainId_quiet PySem.F.plain_min_loop _, ih (j + 1) i _ _ vb c oI' (by lia) hlt F1 N1 hit3 hvb hR⟩
theorem m0_args (a : Value) : argsOk "min" ⟨[a], []⟩ := by unfold argsOk; kernel_rfl
theorem m0_min (lt : Nat → Nat → Bool) (hh : A.handled = none) (F : Fr h₀ L s.heap m) (N : News h₀ L s.heap news) (hl : ∀ h, Fr h₀ L h m → News h₀ L h news → h.IsList l vs.toArray) (hne : 0 < vs.length)
    (less : ∀ (i j : Nat) (v1 v2 : Value), vs[i]? = some v1 → vs[j]? = some v2 → ∀ (h : Heap) (tk : Nat) (P : Value → Shared → Prop) (E' : Value → Shared → Prop), Fr h₀ L h m → News h₀ L h news → P (.bool (lt i j)) { s with heap := h, toks := tk } →
      wpAny (model prog w) A.in1 (richCompare .Lt v1 v2) P E' { s with heap := h, toks := tk })
    (hQ : ∀ v h' tk', vs[bestI lt 0 0 (vs.length - 1)]? = some v → Fr h₀ L h' m → News h₀ L h' news → Q v { s with heap := h', toks := tk' }) :
    wpAny (model prog w) A (call (.builtin "min") [.ref l] []) Q E s := by
  have hname : (toString "min" ++ toString ".loop" : String) = "min.loop" := by decide
  have hls := hl _ F N
  obtain ⟨ol, hol, _⟩ := id hls
  have hll : l < s.heap.objs.size := Heap.lt_size hol
  have hL : L < s.heap.objs.size := F.ns.lt
  refine kmk_tree PySem.F.kind_min PySem.F.plain_min PySem.F.entry_min (m0_args _) ?_
  show wpAny _ A.in1 (Builtin.Builtins.bindParams "min" ["key", "default"] 0 ⟨[], []⟩ >>= _) _ _ s
  refine wpAny_bind (wpAny_of_eq (show Builtin.Builtins.bindParams "min" ["key", "default"] 0 ⟨[], []⟩ = pure [none, none] from rfl) ?_)
  refine wpAny_bind (wpAny_pure ?_)
  refine wpAny_bind (wpAny_pyIter_list hls ?_)
  refine wpAny_bind (wpAny_newList ?_ (Nat.zero_le _))
  rw [hname]
  obtain ⟨oi, hoi⟩ : ∃ o : Obj, o = { cls := .type "list_iterator", data := .fields #[.ref l, .int 0 0] } := ⟨_, rfl⟩
  rw [← hoi]
  have hz : (s.heap.push oi).objs.size = s.heap.objs.size + 1 := size_push' ..
  obtain ⟨I, hI⟩ : ∃ x, x = s.heap.objs.size := ⟨_, rfl⟩
  obtain ⟨S, hS⟩ : ∃ x, x = (s.heap.push oi).objs.size := ⟨_, rfl⟩
  have FH : Fr h₀ L ((s.heap.push oi).push (seqObj "list" #[] 0)) m := (F.push _).push _
  have up : ∀ b x, s.heap.get? b = some x → ((s.heap.push oi).push (seqObj "list" #[] 0)).get? b = some x := fun b x e => Heap.get?_push_of_some _ (Heap.get?_push_of_some _ e)
  have NH : News h₀ L ((s.heap.push oi).push (seqObj "list" #[] 0)) news := N.grown up
  have gI : ((s.heap.push oi).push (seqObj "list" #[] 0)).get? I = some oi := by
    rw [hI]; exact Heap.get?_push_of_some _ (Heap.get?_push_size _ (by rw [hoi]; rfl))
  have gS : ((s.heap.push oi).push (seqObj "list" #[] 0)).get? S = some (seqObj "list" #[] 0) := by rw [hS]; exact Heap.get?_push_size _ rfl
  rw [← hI, ← hS]
  have hSI : S ≠ I := by rw [hS, hI, hz]; exact Nat.ne_of_gt (Nat.lt_succ_self _)
  have hlI : l ≠ I := by rw [hI]; exact Nat.ne_of_lt hll
  have hnI : ∀ p ∈ news, p.1 ≠ I := fun p hp => by rw [hI]; exact Nat.ne_of_lt (Heap.lt_size (N p hp).1)
  have hnS : ∀ p ∈ news, p.1 ≠ S := fun p hp => by rw [hS, hz]; exact Nat.ne_of_lt (Nat.lt_succ_of_lt (Heap.lt_size (N p hp).1))
  have aI : I ≠ L := by rw [hI]; exact Nat.ne_of_gt hL
  have aS : S ≠ L := by rw [hS, hz]; exact Nat.ne_of_gt (Nat.lt_succ_of_lt hL)
  have fresh : ∀ b, L < b → h₀.get? b = none := fun b hb => Heap.get?_none_of_le (Nat.le_trans F.above (Nat.le_of_lt hb))
  have zI : h₀.get? I = none := fresh _ (by rw [hI]; exact hL)
  have zS : h₀.get? S = none := fresh _ (by rw [hS, hz]; exact Nat.lt_succ_of_lt hL)
  refine wpAny_pure ⟨plainId_quiet PySem.F.plain_min_loop _, ?_⟩
  have W := Walks.list (prog := prog) (w := w) (A := A.in1) hh I l hlI vs.toArray
  have hsz : vs.toArray.size = vs.length := List.size_toArray ..
  refine codeAny_builtin PySem.F.entry_min_loop ?_
  rw [Around.under_plainId PySem.F.plain_min_loop _]
  show wpAny _ A.in1 (seqItems? (.ref _) >>= _) _ _ _
  refine wpAny_bind (wpAny_seqItems gS rfl ?_)
  show wpAny _ A.in1 (tryCatch (pyNext (.ref I)) _ >>= _) _ _ _
  refine wpAny_bind (wpAny_tryCatch (W.item 0 _ _ _ (by rw [hsz]; exact hne) ⟨⟨_, gI, by rw [hoi], by rw [hoi]; rfl⟩, hl _ FH NH⟩ fun v h' tk' hP hst' hk' => ?_))
  have hv : vs[0]? = some v := by simpa using hP
  obtain ⟨oI', hoI', hoc, hod⟩ := id hst'.1
  have F1 := kmk_fr FH hk' aI zI
  have N1 : News h₀ L h' (news ++ [(S, seqObj "list" #[] 0), (I, oI')]) := fun p hp => by
    rcases List.mem_append.mp hp with hp | hp
    · exact kmk_news NH hk' hnI p hp
    · rcases List.mem_cons.mp hp with rfl | hp
      · exact ⟨hk' _ _ (by simpa using hSI) gS, aS, zS⟩
      · rw [List.mem_singleton.mp hp]
        exact ⟨hoI', aI, zI⟩
  refine wpAny_bind (wpAny_pure ?_)
  have nS2 := N1 (S, seqObj "list" #[] 0) (List.mem_append_right _ (.head _))
  have nI2 := N1 (I, oI') (List.mem_append_right _ (.tail _ (.head _)))
  have Nn2 : News h₀ L h' news := fun p hp => N1 p (List.mem_append_left _ hp)
  have s1 := Heap.SameBut.update h' S (Obj.mapSeq fun _ => #[v, v])
  obtain ⟨c2, hc2⟩ : ∃ c2, (h'.update S (Obj.mapSeq fun _ => #[v, v])).get? S = some (seqObj "list" #[v, v] c2) := ⟨_, get?_update_seq nS2.1 fun _ => #[v, v]⟩
  show wpAny _ A.in1 (updateSeq S (fun _ => #[v, v]) >>= _) _ _ _
  refine wpAny_bind ?_
  refine wpAny_updateSeq nS2.1 rfl ?_
  rw [hname]
  refine wpAny_pure ⟨plainId_quiet PySem.F.plain_min_loop _, m0_loop lt hh hl hlI hSI hnS hnI less (vs.length - 1) 0 0 _ _ v c2 oI' rfl hne (ksk_fr F1 s1 nS2.2.1 nS2.2.2) (fun p hp => ?_) ⟨oI', (s1.2 _ hSI.symm).trans nI2.1, hoc, hod⟩ hv hQ⟩
  rcases List.mem_append.mp hp with hp | hp
  · exact ksk_news Nn2 s1 hnS p hp
  · rcases List.mem_cons.mp hp with rfl | hp
    · exact ⟨hc2, nS2.2⟩
    · rw [List.mem_singleton.mp hp]
      exact ⟨(s1.2 _ hSI.symm).trans nI2.1, nI2.2⟩
/-- min of a list of points -/
theorem min_pts {n : Nat} {pn : List (Addr × Obj)} {ps : List Pt} (hh : A.handled = none) (hu : A.in1.units < cLine) (F : Fr h₀ L s.heap m) (N : News h₀ L s.heap news) (hl : (l, lstO vs n) ∈ news) (hs : ∀ q ∈ pn, q ∈ news) (hp : PtsIn pn vs ps) (hne : 0 < vs.length)
    (hQ : ∀ v p h' tk', PtIn pn v p → p ∈ ps → (∀ r ∈ ps, phi p ≤ phi r) → Fr h₀ L h' m → News h₀ L h' news → Q v { s with heap := h', toks := tk' }) :
    wpAny (model prog w) A (call (.builtin "min") [.ref l] []) Q E s := by
  have hlen := hp.length
  refine m0_min (vs := vs) (fun i j => ltP (ps.getD i (0, 0)) (ps.getD j (0, 0))) hh F N (fun h _ N' => isList_lst (s := { s with heap := h }) N' hl) hne ?_ ?_
  · intro i j v1 v2 e1 e2 h tk P E' F' N' hP
    obtain ⟨p1, g1, a1, t1, t2, n1, rfl, m1, _⟩ := hp.getV _ _ e1
    obtain ⟨p2, g2, a2, t3, t4, n2, rfl, m2, _⟩ := hp.getV _ _ e2
    have q1 : ps.getD i (0, 0) = p1 := by rw [List.getD_eq_getElem?_getD, g1]; rfl
    have q2 : ps.getD j (0, 0) = p2 := by rw [List.getD_eq_getElem?_getD, g2]; rfl
    rw [q1, q2] at hP
    exact lt_pts hu (N' _ (hs _ m1)).1 (N' _ (hs _ m2)).1 hP
  · intro v h' tk' e F' N'
    obtain ⟨p, g1, hv⟩ := hp.getV _ _ e
    refine hQ v p h' tk' hv (List.mem_of_getElem? g1) ?_ F' N'
    have hsm : ∀ r ∈ ps, Small r := fun r hr => by
      obtain ⟨i, hi, rfl⟩ := List.mem_iff_getElem.mp hr
      obtain ⟨_, _, a1, t1, t2, n1, _, _, h9⟩ := hp.get i _ (List.getElem?_eq_getElem hi)
      exact h9
    have key : ∀ (r b j : Nat), ps.length = j + 1 + r → b < ps.length → (∀ i, i ≤ j → phi (ps.getD b (0, 0)) ≤ phi (ps.getD i (0, 0))) → ∀ i, i < ps.length → phi (ps.getD (bestI (fun i j => ltP (ps.getD i (0, 0)) (ps.getD j (0, 0))) b j r) (0, 0)) ≤ phi (ps.getD i (0, 0)) := by
      intro r
      induction r with
      | zero => intro b j h hb hm i hi; exact hm i (by lia)
      | succ r ih =>
        intro b j h hb hm i hi
        rw [bestI]
        have gs : ∀ i, i < ps.length → Small (ps.getD i (0, 0)) := fun i hi => by
          rw [List.getD_eq_getElem?_getD, List.getElem?_eq_getElem hi]
          exact hsm _ (List.getElem_mem hi)
        have hlt := phi_lt (gs (j + 1) (by lia)) (gs b hb)
        cases e : ltP (ps.getD (j + 1) (0, 0)) (ps.getD b (0, 0)) with
        | true =>
          simp only [if_true]
          have h1 := hlt.mp e
          refine ih (j + 1) (j + 1) (by lia) (by lia) (fun i hi => ?_) i hi
          by_cases h2 : i = j + 1
          · rw [h2]; exact Int.le_refl _
          · have := hm i (by lia); lia
        | false =>
          simp only [Bool.false_eq_true, if_false]
          refine ih b (j + 1) (by lia) hb (fun i hi => ?_) i hi
          by_cases h2 : i = j + 1
          · rw [h2]
            rcases Int.lt_or_le (phi (ps.getD (j + 1) (0, 0))) (phi (ps.getD b (0, 0))) with h3 | h3
            · rw [hlt.mpr h3] at e; cases e
            · exact h3
          · exact hm i (by lia)
    intro r hr
    obtain ⟨i, hi, rfl⟩ := List.mem_iff_getElem.mp hr
    have := key (vs.length - 1) 0 0 (by lia) (by lia) (fun i hi => by rw [show i = 0 by lia]; exact Int.le_refl _) i hi
    rw [List.getD_eq_getElem?_getD, g1, List.getD_eq_getElem?_getD, List.getElem?_eq_getElem hi] at this
    exact this
end
end Mine
end

section
open PySem PySem.SeqAt PySem.Challenge PySem.W PySem.Spec PySem.Calls PyProof.Rows
namespace Mine
noncomputable abbrev qualW : Str := (Str.ofString "_law_walked" ++ Str.ofString ".<locals>.") ++ Str.ofString "<lambda>"
noncomputable abbrev tabW (c' : Addr) : Array Value := #[rawInt ((82 : Nat) : Int), rawInt ((29 : Nat) : Int), .ref c']
/-- the table of the codes in _law_walked: empty, or with the lambda's -/
noncomputable def TabW (tb : Array Value) (nw : List (Addr × Obj)) : Prop :=
  tb = #[] ∨ ∃ (c' : Addr) (oc : Obj) (fs : Array Value) (t : Tok), (c', oc) ∈ nw ∧ tb = tabW c' ∧ oc.data = .fields fs ∧ fs[1]? = some (.str qualW t)
section
variable {M : Model} {A : Around} {E : Value → Shared → Prop} {s : Shared} {h₀ : Heap} {L a c : Addr} {m mg mb : Str → Option Value} {cn : Str} {cs : Scope} {ccd : Value} {cl : List (Str × Addr)} {led : List (Addr × Obj)}
  {p : Program} {loose : List Str} {mean : ExcName → Option Value} {name : Str} {params : Arguments} {body : PySem.Expr} {scope : Scope} {tb : Array Value} {pos : Pos} {firstLine : Nat} {clos : List (Str × Addr)}
/-- the lambda made: its code is new, or there -/
theorem lam_any {Q : Value → Shared → Prop} (F : Fr h₀ L s.heap m) (N : News h₀ L s.heap ((78, tabObj tb) :: led)) (T : Top p loose mean mg mb h₀) (C : CodeHd h₀ c 78) (hcd : ccd = .ref c) {led0 : List (Addr × Obj)} (hT : TabW tb led0) (h0 : ∀ q ∈ led0, q ∈ led) (hne : ∀ p ∈ led, p.1 ≠ 78) (hl : pos.line = 82) (hc : pos.col = 29)
    (hcl : closureFor scope (envX cn cs L a ccd cl) = pure clos)
    (h : ∀ f c' oc fs t ctv h' tk, Fr h₀ L h' m →
      News h₀ L h' ((f, kla_obj name qualW params body scope clos ((mg "__name__").getD .none) c' ctv) :: (c', oc) :: (78, tabObj (tabW c')) :: led) →
      oc.data = .fields fs → fs[1]? = some (.str qualW t) → (∀ q ∈ (78, tabObj (tabW c')) :: led, q.1 ≠ f) → ((c', oc) ∈ led0 ∨ ∀ q ∈ (78, tabObj (tabW c')) :: led, q.1 ≠ c') → c' ≠ f → c' ≠ 78 → Q (.ref f) { s with heap := h', toks := tk }) :
    wpAny M A (makeFunction name qualW params (.expr body) scope (envX cn cs L a ccd cl) [] [] [] pos firstLine) Q E s := by
  rcases hT with rfl | ⟨c', oc, fs, t, h1, rfl, h2, h3⟩
  · refine kla_nest F N T C hcd (g := fun o => (78, o) :: led) (UpdF.head fun p hp => (hne p hp)) trivial rfl hcl fun f c' oc vs t ctv h' tk F' N' d1 d2 l1 l2 => ?_
    have e : (#[] : Array Value) ++ #[rawInt pos.line, rawInt pos.col, .ref c'] = tabW c' := by rw [hl, hc]; rfl
    rw [e] at N'
    have l3 : ∀ q ∈ (78, tabObj (tabW c')) :: led, q.1 < c' := fun q hq => by
      rcases List.mem_cons.mp hq with rfl | hq
      · exact l1 (78, tabObj #[]) (.head _)
      · exact l1 q (.tail _ hq)
    exact h f c' oc vs t ctv h' tk F' N' d1 d2 (fun q hq => Nat.ne_of_lt (Nat.lt_trans (l3 q hq) l2)) (.inr fun q hq => Nat.ne_of_lt (l3 q hq)) (Nat.ne_of_lt l2) (Nat.ne_of_gt (l1 (78, tabObj #[]) (.head _)))
  · refine kla_hit F N T C hcd (.head _) trivial (c' := c') ?_ hcl fun f ctv h' tk F' N' l1 => ?_
    · simp only [codeAmong, rawInt, hl, hc]
      simp
    · refine h f c' oc fs t ctv h' tk F' (newsSub N' fun q hq => ?_) h2 h3 (fun q hq => Nat.ne_of_lt (l1 q hq)) (.inl h1) (Nat.ne_of_lt (l1 _ (.tail _ (h0 _ h1)))) (hne _ (h0 _ h1))
      rcases List.mem_cons.mp hq with rfl | hq
      · exact .head _
      rcases List.mem_cons.mp hq with rfl | hq
      · exact .tail _ (.tail _ (h0 _ h1))
      · exact .tail _ hq
end
end Mine
end

section
open PySem PySem.SeqAt PySem.Challenge PySem.W PySem.Spec PySem.Calls PyProof.Rows
namespace Mine
section
variable {prog : Program} {w : World} {A : Around} {E : Value → Shared → Prop} {s : Shared}
theorem ptEq (p q : Pt) : (p.1 == q.1 && p.2 == q.2) = decide (p = q) := by
  obtain ⟨a, b⟩ := p
  obtain ⟨c, d⟩ := q
  rw [Bool.eq_iff_iff]
  simp
theorem rcNe_pts {a b : Addr} {x1 y1 x2 y2 : Int} {t1 t2 t3 t4 : Tok} {n1 n2 : Nat} (hu : A.units < cLine)
    (ha : s.heap.get? a = some (ptO x1 y1 t1 t2 n1)) (hb : s.heap.get? b = some (ptO x2 y2 t3 t4 n2)) : RcNeAt A s (.ref a) (.ref b) (!(x1 == x2 && y1 == y2)) := by
  have h := RcNeAt.tuples (A := A) (s := s) (e := fun j => if j = 0 then x1 == x2 else y1 == y2) (isTuple_pt ha) (isTuple_pt hb) hu (fun j h1 h2 => by
    match j, h1 with
    | 0, _ => exact EqAt.int_int _ _ _ _
    | 1, _ => exact EqAt.int_int _ _ _ _)
  have e : ((List.range (min (#[Value.int x1 t1, Value.int y1 t2]).size (#[Value.int x2 t3, Value.int y2 t4]).size)).all (fun j => if j = 0 then x1 == x2 else y1 == y2) && (#[Value.int x1 t1, Value.int y1 t2]).size == (#[Value.int x2 t3, Value.int y2 t4]).size) = (x1 == x2 && y1 == y2) := by
    show (List.all [0, 1] _ && _) = _
    simp
  rw [e] at h
  exact h
theorem eq_pts {h₀ : Heap} {L : Addr} {news pn : List (Addr × Obj)} {a b : Addr} {p q : Pt} {Q : Value → Shared → Prop} (hu : A.units < cLine) (N : News h₀ L s.heap news) (hs : ∀ x ∈ pn, x ∈ news) (ha : PtIn pn (.ref a) p) (hb : PtIn pn (.ref b) q) (h : Q (.bool (decide (p = q))) s) :
    wpAny (model prog w) A (compareOp .Eq (.ref a) (.ref b)) Q E s := by
  obtain ⟨a', t1, t2, n1, e1, m1, _⟩ := ha
  obtain ⟨b', t3, t4, n2, e2, m2, _⟩ := hb
  cases e1; cases e2
  exact rc_pts hu (N _ (hs _ m1)).1 (N _ (hs _ m2)).1 prog w E Q (by rw [ptEq]; exact h)
theorem ne_pts {h₀ : Heap} {L : Addr} {news pn : List (Addr × Obj)} {a b : Addr} {p q : Pt} {Q : Value → Shared → Prop} (hu : A.units < cLine) (N : News h₀ L s.heap news) (hs : ∀ x ∈ pn, x ∈ news) (ha : PtIn pn (.ref a) p) (hb : PtIn pn (.ref b) q) (h : Q (.bool (!decide (p = q))) s) :
    wpAny (model prog w) A (compareOp .NotEq (.ref a) (.ref b)) Q E s := by
  obtain ⟨a', t1, t2, n1, e1, m1, _⟩ := ha
  obtain ⟨b', t3, t4, n2, e2, m2, _⟩ := hb
  cases e1; cases e2
  exact rcNe_pts hu (N _ (hs _ m1)).1 (N _ (hs _ m2)).1 prog w E Q (by rw [ptEq]; exact h)
theorem eq_empty {h₀ : Heap} {L l e : Addr} {news : List (Addr × Obj)} {vs : List Value} {n n' : Nat} {Q : Value → Shared → Prop} (hu : A.units < cLine) (N : News h₀ L s.heap news) (hl : (l, lstO vs n) ∈ news) (he : (e, lstO [] n') ∈ news) (h : Q (.bool vs.isEmpty) s) :
    wpAny (model prog w) A (compareOp .Eq (.ref l) (.ref e)) Q E s := by
  have h1 := isList_lst N hl
  have h2 := isList_lst N he
  cases vs with
  | nil =>
    refine RcAt.lists (e := fun _ => true) h1 h2 rfl hu (fun j h1 => absurd h1 (Nat.not_lt_zero j)) prog w E Q ?_
    exact h
  | cons v r => exact RcAt.lists_lengths h1 h2 (by simp) hu prog w E Q h
end
end Mine
end

section
open PySem PySem.SeqAt PySem.Challenge PySem.W PySem.Spec PySem.Calls PyProof.Rows
namespace Mine
section
variable {w : World} {mean : ExcName → Option Value} {mg mb : Str → Option Value} {news : List (Addr × Obj)} {cn : Str} {sn : List (Str × NameKind)} {sg sc : Bool} {sm : List (Str × Const)} {a : Addr} {ccd : Value} {cl : List (Str × Addr)} {outer : List Env} {A₀ : Around} {base h₀ : Heap} {L : Addr} {m : Str → Option Value} {s : Shared} {Q : Value → Shared → Prop} {E : Value → Shared → Prop}
/-- min of a list of points by the class K over the turning order -/
theorem min_cmp {A : Around} {pn nw fl : List (Addr × Obj)} {l C fv : Addr} {us : List Value} {n : Nat} {here q0 : Pt} {qr : List Pt} {fc : Value} {fo : Option Addr} {fd : FuncData} {fs : Array (Option Value)}
    (hA : A.in1.frames = some (envX cn ⟨.function, sn, sg, sc, sm⟩ L a ccd cl :: outer)) (hh0 : A.handled = none) (hh : A.in1.handled = none) (hd : A.in1.depth ≤ 310 + 10 * 7) (hu : A.in1.units ≤ 1000 + 500 * 7)
    (B : Below A₀ base outer h₀) (F : Fr h₀ L s.heap m) (K : (Mine.hd.heap_39 w.params).In h₀) (N : News h₀ L s.heap news) (T : Top topProg LoB mean mg mb h₀)
    (hl : (l, lstO us n) ∈ news) (hnw : ∀ q ∈ nw, q ∈ news) (hpn : ∀ q ∈ pn, q ∈ news) (hfl : ∀ q ∈ fl, q ∈ news) (hp : PtsIn pn us (q0 :: qr)) (hN : KNew w C nw) (hL : KLess w C fv nw) (hfv : (fv, (⟨fc, fo, .func fd, fs⟩ : Obj)) ∈ news)
    (hcmp : ∀ va vb pa pb, PtIn pn (.ref va) pa → PtIn pn (.ref vb) pb → FnCmp w (.ref fv) (.ref va) (.ref vb) fl (cmpP here pa pb))
    (hQ : ∀ v h' tk', PtIn pn v (bestP here q0 qr) → Fr h₀ L h' m → News h₀ L h' news → Q v { s with heap := h', toks := tk' }) :
    wpAny (model rw_xi0007_01.prog w) A (call (.builtin "min") [.ref l] [(Str.ofString "key", .ref C)]) Q E s := by
  have hlen := hp.length
  have isref : ∀ (i : Nat) (v : Value), us[i]? = some v → ∃ (x : Addr) (p : Pt), v = .ref x ∧ (q0 :: qr)[i]? = some p ∧ PtIn pn (.ref x) p := fun i v e => by
    obtain ⟨p, g1, hv⟩ := hp.getV _ _ e
    obtain ⟨x, t1, t2, n1, rfl, r⟩ := hv
    exact ⟨x, p, rfl, g1, x, t1, t2, n1, rfl, r⟩
  refine mm_min (C := C) (vs := us) (fun i j => decide (cmpP here ((q0 :: qr).getD i (0, 0)) ((q0 :: qr).getD j (0, 0)) < 0)) hh0 F N (fun h _ N' => isList_lst (s := { s with heap := h }) N' hl) (by rw [hlen]; simp) ?_ ?_ ?_
  · intro i v e h tk own F' N'
    obtain ⟨x, p, rfl, _, _⟩ := isref i v e
    refine around 7 cn sn sg sc sm L a ccd cl outer hA hh hd hu (hN B F' K N' T (fun q hq => List.mem_append_left _ (hnw q hq)) ?_)
    intro k d h' tk' F2 N2 hk
    exact ⟨k, d, h', tk', rfl, rfl, F2, N2, hk⟩
  · intro i j v1 v2 e1 e2 h tk own k1 d1 k2 d2 F' N' hk1 hk2
    obtain ⟨x, p, rfl, g1, hx⟩ := isref i v1 e1
    obtain ⟨y, q, rfl, g2, hy⟩ := isref j v2 e2
    have q1 : (q0 :: qr).getD i (0, 0) = p := by rw [List.getD_eq_getElem?_getD, g1]; rfl
    have q2 : (q0 :: qr).getD j (0, 0) = q := by rw [List.getD_eq_getElem?_getD, g2]; rfl
    rw [q1, q2]
    refine around 7 cn sn sg sc sm L a ccd cl outer hA hh hd hu (hL B F' K N' T (fun z hz => List.mem_append_left _ (hnw z hz)) (fun z hz => List.mem_append_left _ (hfl z hz)) (List.mem_append_right _ hk1) (List.mem_append_right _ hk2) (List.mem_append_left _ hfv) (hcmp x y p q hx hy) ?_)
    intro h' tk' F2 N2
    exact ⟨h', tk', rfl, rfl, F2, N2⟩
  · intro v h' tk' e F' N'
    have hb := best_eq (here := here) (ps := q0 :: qr) (lt := fun i j => decide (cmpP here ((q0 :: qr).getD i (0, 0)) ((q0 :: qr).getD j (0, 0)) < 0)) (fun i j p q g1 g2 => by
      rw [show (q0 :: qr).getD i (0, 0) = p by rw [List.getD_eq_getElem?_getD, g1]; rfl, show (q0 :: qr).getD j (0, 0) = q by rw [List.getD_eq_getElem?_getD, g2]; rfl]) (us.length - 1) 0 0 q0 (by rw [← hlen, hlen]; simp; lia) rfl
    obtain ⟨p, g1, hv⟩ := hp.getV _ _ e
    rw [hb] at g1
    cases g1
    exact hQ v h' tk' hv F' N'
end
/-- what the walk goes along: one point, or the ring -/
noncomputable def HullOk (ps hull : List Pt) : Prop := (∃ p, ps = [p] ∧ hull = [p]) ∨ Ring ps hull
theorem HullOk.pos {ps hull : List Pt} (h : HullOk ps hull) : 0 < hull.length := by
  rcases h with ⟨p, _, rfl⟩ | R
  · simp
  · exact R.pos
theorem HullOk.mem {ps hull : List Pt} (h : HullOk ps hull) : ∀ q ∈ hull, q ∈ ps := by
  rcases h with ⟨p, rfl, rfl⟩ | R
  · exact fun q hq => hq
  · exact R.mem
theorem HullOk.first {ps hull : List Pt} (h : HullOk ps hull) {p : Pt} (hs : ∀ r ∈ ps, Small r) (hp : p ∈ ps) (hm : ∀ r ∈ ps, phi p ≤ phi r) : hull[0]? = some p := by
  rcases h with ⟨q, rfl, rfl⟩ | R
  · rw [List.mem_singleton.mp hp]; rfl
  · obtain ⟨y, t, e, hy⟩ := R.first
    have hyp : y ∈ ps := R.mem y (by rw [e]; simp)
    have : y = p := phi_inj (hs y hyp) (hs p hp) (by have := hm y hyp; have := hy p hp; lia)
    rw [e, ← this]; rfl
/-- the walk's turn: no other point, or the next corner -/
theorem HullOk.turn {ps hull : List Pt} (h : HullOk ps hull) {i : Nat} {here : Pt} (hi : hull[i]? = some here) :
    (ps.filter (fun p => !decide (p = here)) = [] ∧ hull = [here] ∧ i = 0) ∨
    (∃ q0 qr, ps.filter (fun p => !decide (p = here)) = q0 :: qr ∧ bestP here q0 qr = nxt hull i ∧ (nxt hull i = hull.getD 0 (0, 0) ↔ i + 1 = hull.length) ∧ (i + 1 < hull.length → hull[i + 1]? = some (nxt hull i))) := by
  obtain ⟨hlt, hg⟩ := List.getElem?_eq_some_iff.mp hi
  rcases h with ⟨p, rfl, rfl⟩ | R
  · left
    have : i = 0 := by simpa using hlt
    subst this
    simp at hg
    subst hg
    simp
  · right
    have e := R.next hlt
    rw [hg] at e
    have hm : nxt hull i ∈ ps.filter (fun p => !decide (p = here)) := List.mem_filter.mpr ⟨e.r, by simpa using fun h => e.ne h.symm⟩
    obtain ⟨q0, qr, hq⟩ : ∃ q0 qr, ps.filter (fun p => !decide (p = here)) = q0 :: qr := by
      cases hf : ps.filter (fun p => !decide (p = here)) with
      | nil => rw [hf] at hm; cases hm
      | cons q0 qr => exact ⟨q0, qr, rfl⟩
    have hsub : ∀ q ∈ q0 :: qr, q ∈ ps := fun q hq' => (List.mem_filter.mp (hq ▸ hq')).1
    refine ⟨q0, qr, hq, best_edge e (fun q h' => hsub q (.tail _ h')) (hsub q0 (.head _)) ?_, ?_, ?_⟩
    · rw [hq] at hm
      exact List.mem_cons.mp hm
    · have h0 : 0 < hull.length := by lia
      unfold nxt
      constructor
      · intro h1
        rcases Nat.lt_or_ge (i + 1) hull.length with h2 | h2
        · exfalso
          rw [if_pos h2, List.getD_eq_getElem?_getD, List.getD_eq_getElem?_getD, List.getElem?_eq_getElem h2, List.getElem?_eq_getElem h0] at h1
          have := (List.getElem_inj R.nodup).mp h1
          lia
        · lia
      · intro h1
        rw [if_neg (by lia)]
    · intro h2
      unfold nxt
      rw [if_pos h2, List.getD_eq_getElem?_getD, List.getElem?_eq_getElem h2]
      rfl
end Mine
end

section
open PySem PySem.SeqAt PySem.Challenge PySem.W PySem.Spec PySem.Calls PyProof.Rows
namespace Mine
section
variable {prog : Program} {w : World} {A : Around} {s : Shared} {h₀ : Heap} {L : Addr} {m : Str → Option Value} {env : Env}
open LCg in
theorem compRestT_inv {ct elt : PySem.Expr} {x : Str} {scope : Scope} {cl : List (Str × Addr)} {S : List (Addr × Obj) → Prop} {P : Nat → Value → Prop} {Fin : List Value → List (Addr × Obj) → Prop} {n : Nat} (J : Nat → List Value → List (Addr × Obj) → Prop)
    (fin : ∀ ys nw, J n ys nw → Fin ys nw)
    (turn : ∀ i v I oI C oC D m₂ h tk (E' : Value → Shared → Prop) ys nw, i < n → J i ys nw → P i v → NsObj oC m₂ → m₂ x = some v → Fr h₀ L h m → News h₀ L h ((I, oI) :: (C, oC) :: (D, lst ys) :: nw) → Off3 I C D nw → ((@Ne Nat I C) ∧ (@Ne Nat I D) ∧ (@Ne Nat C D)) →
      wpAny (model prog w) A (isTrue ct (compEnvC scope cl C env) (eval ct (compEnvC scope cl C env))) (fun ok s' => if ok = true then
        wpAny (model prog w) A (eval elt (compEnvC scope cl C env)) (CompEnd h₀ L m { s with heap := h, toks := tk } I oI C oC D (lst ys) S (fun y nw' => J (i + 1) (ys ++ [y]) nw')) E' s'
        else CompEnd h₀ L m { s with heap := h, toks := tk } I oI C oC D (lst ys) S (fun _ nw' => J (i + 1) ys nw') Value.none s') E' { s with heap := h, toks := tk }) :
    ∀ k i ys nw, i + k = n → J i ys nw → LCt.CompRestT prog w A h₀ L m env ct elt x scope cl s S P Fin k i ys nw := by
  intro k
  induction k with
  | zero => intro i ys nw e j; exact fin ys nw (by rw [← e]; exact j)
  | succ k ih =>
    intro i ys nw e j v I oI C oC D m₂ h tk E' h1 h2 h3 h4 h5 h6 h7
    refine wpAny_mono (turn i v I oI C oC D m₂ h tk E' ys nw (by lia) j h1 h2 h3 h4 h5 h6 h7) (fun ok s₂ e2 => ?_) fun _ _ e => e
    cases ok with
    | true =>
      simp only [if_true] at e2 ⊢
      refine wpAny_mono e2 (fun y s₃ e3 => ?_) fun _ _ e => e
      obtain ⟨h', tk', nw', e4, F', N', o', S', r⟩ := e3
      exact ⟨h', tk', nw', e4, F', N', o', S', ih (i + 1) _ _ (by lia) r⟩
    | false =>
      simp only [Bool.false_eq_true, if_false] at e2 ⊢
      obtain ⟨h', tk', nw', e4, F', N', o', S', r⟩ := e2
      exact ⟨h', tk', nw', e4, F', N', o', S', ih (i + 1) _ _ (by lia) r⟩
end
end Mine
end

section
open PySem PySem.SeqAt PySem.Challenge PySem.W PySem.Spec PySem.Calls PyProof.Rows
namespace Mine
theorem newsSame {g h : Heap} {L : Addr} {l : List (Addr × Obj)} {a : Addr} {o o' : Obj} (N : News g L h l) (h1 : (a, o) ∈ l) (h2 : (a, o') ∈ l) : o = o' :=
  Option.some.inj ((N _ h1).1.symm.trans (N _ h2).1)
/-- the ledger of the walk, laid anew -/
theorem re_led {g h : Heap} {L wl ce c' : Addr} {us : List Value} {n' : Nat} {tb : Array Value} {nw news : List (Addr × Obj)} {oh ocl : Obj} {co : Option Value} {fs : Array Value} {tq : Tok}
    (N : News g L h ((16, tabObj tb) :: nw)) (hw : (wl, lstO us n') ∈ nw) (h78 : (78, tabObj (tabW c')) ∈ nw) (hce : (ce, oh) ∈ nw) (hoh : oh.data = .cell co) (hcl : (c', ocl) ∈ nw) (d1 : ocl.data = .fields fs) (d2 : fs[1]? = some (.str qualW tq))
    (n16 : ∀ p ∈ nw, p.1 ≠ 16) (hT : TabK tb nw) (hsub : ∀ q ∈ news, q ∈ nw) (hne : ∀ q ∈ news, q.1 ≠ 78 ∧ q.1 ≠ wl ∧ q.1 ≠ ce) :
    ∃ nx, News g L h ((wl, lstO us n') :: (ce, oh) :: (78, tabObj (tabW c')) :: (16, tabObj tb) :: nx) ∧ (∀ q ∈ news, q ∈ nx) ∧ (∀ p ∈ nx, p.1 ≠ 16 ∧ p.1 ≠ 78 ∧ p.1 ≠ wl ∧ p.1 ≠ ce) ∧ TabK tb nx ∧ TabW (tabW c') nx := by
  have N' : News g L h nw := newsSub N fun q hq => .tail _ hq
  have hin : ∀ p ∈ nw, p.1 ≠ wl → p.1 ≠ 78 → p.1 ≠ ce → p ∈ nw.filter fun p => !(p.1 == wl) && !(p.1 == 78) && !(p.1 == ce) := fun p hp h1 h2 h3 =>
    List.mem_filter.mpr ⟨hp, by
      have e1 : (p.1 == wl) = false := beq_eq_false_iff_ne.mpr h1
      have e2 : (p.1 == 78) = false := beq_eq_false_iff_ne.mpr h2
      have e3 : (p.1 == ce) = false := beq_eq_false_iff_ne.mpr h3
      rw [e1, e2, e3]; rfl⟩
  have byObj : ∀ a o fs', (a, o) ∈ nw → o.data = .fields fs' → o ≠ tabObj (tabW c') → (a, o) ∈ nw.filter fun p => !(p.1 == wl) && !(p.1 == 78) && !(p.1 == ce) := fun a o fs' hm hd ht => hin _ hm
    (fun e => by dsimp only at e; subst e; rw [newsSame N' hm hw] at hd; cases hd)
    (fun e => by dsimp only at e; subst e; exact ht (newsSame N' hm h78))
    (fun e => by dsimp only at e; subst e; rw [newsSame N' hm hce, hoh] at hd; cases hd)
  refine ⟨nw.filter fun p => !(p.1 == wl) && !(p.1 == 78) && !(p.1 == ce), newsSub N fun q hq => ?_, fun q hq => hin q (hsub q hq) (hne q hq).2.1 (hne q hq).1 (hne q hq).2.2, fun p hp => ?_, ?_, .inr ⟨c', ocl, fs, tq, byObj _ _ _ hcl d1 (fun e => ?_), rfl, d1, d2⟩⟩
  · rcases List.mem_cons.mp hq with rfl | hq
    · exact .tail _ hw
    rcases List.mem_cons.mp hq with rfl | hq
    · exact .tail _ hce
    rcases List.mem_cons.mp hq with rfl | hq
    · exact .tail _ h78
    rcases List.mem_cons.mp hq with rfl | hq
    · exact .head _
    · exact .tail _ (List.mem_filter.mp hq).1
  · obtain ⟨h1, h2⟩ := List.mem_filter.mp hp
    simp only [Bool.and_eq_true, Bool.not_eq_true', beq_eq_false_iff_ne, ne_eq] at h2
    exact ⟨n16 p h1, h2.1.2, h2.1.1, h2.2⟩
  · rcases hT with h | ⟨cc, occ, P, ps, e1, m1, m2, m3, m4, m5⟩
    · exact .inl h
    · obtain ⟨vs9, _, _, _, _, _, _, _, k1, k2, _⟩ := id m2
      obtain ⟨cs, _, hl6, e5, hcs⟩ := id m5
      refine .inr ⟨cc, occ, P, ps, e1, byObj _ _ _ m1 k2 (fun e => by rw [e] at k1; simp at k1), m2, m3, byObj _ _ _ m4 rfl (fun e => ?_), cs, (fun e => nomatch e), hl6, e5, fun x hx => ?_⟩
      · have e6 : ps = tabW c' := by injection e with _ _ e; injection e
        have h6 := hl6 rfl
        match cs, h6 with
        | z :: r, _ =>
          rw [e6] at e5
          have := congrArg (fun a => a.toList.head?) e5
          simp [kDefs, triples, rawInt, kDef] at this
      · obtain ⟨oc, fs', t, q1, q2, q3, q4⟩ := hcs x hx
        exact ⟨oc, fs', t, byObj _ _ _ q1 q2 (fun e => by rw [e] at q4; simp at q4), q2, q3, q4⟩
  · rw [e] at d1
    cases d1
    simp [rawInt] at d2
theorem newsCons3 {g h : Heap} {L : Addr} {x y z : Addr × Obj} {news : List (Addr × Obj)} (N : News g L h news) (hx : x ∈ news) (hy : y ∈ news) (hz : z ∈ news) : News g L h (x :: y :: z :: news) := newsSub N fun q hq => by
  rcases List.mem_cons.mp hq with rfl | hq
  · exact hx
  rcases List.mem_cons.mp hq with rfl | hq
  · exact hy
  rcases List.mem_cons.mp hq with rfl | hq
  · exact hz
  · exact hq
theorem mem3 {q x y z : Addr × Obj} {l : List (Addr × Obj)} (h : q ∈ l) : q ∈ x :: y :: z :: l := .tail _ (.tail _ (.tail _ h))
section
variable {w : World} {mean : ExcName → Option Value} {mg mb : Str → Option Value} {news : List (Addr × Obj)} {cn : Str} {sn : List (Str × NameKind)} {sg sc : Bool} {sm : List (Str × Const)} {a : Addr} {ccd : Value} {cl : List (Str × Addr)} {outer : List Env} {A₀ : Around} {base h₀ : Heap} {L : Addr} {m : Str → Option Value} {s : Shared} {Q : Value → Shared → Prop} {E : Value → Shared → Prop}
theorem far_at {A : Around} {pn : List (Addr × Obj)} {va vb : Value} {pa pb : Pt} (hA : A.frames = some (envX cn ⟨.function, sn, sg, sc, sm⟩ L a ccd cl :: outer)) (hh : A.handled = none) (hd : A.depth ≤ 310 + 10 * 9) (hu : A.units ≤ 1000 + 500 * 9)
    (B : Below A₀ base outer h₀) (F : Fr h₀ L s.heap m) (K : (Mine.hd.heap_39 w.params).In h₀) (N : News h₀ L s.heap news) (T : Top topProg LoB mean mg mb h₀)
    (hs : ∀ q ∈ pn, q ∈ news) (ha : PtIn pn va pa) (hb : PtIn pn vb pb)
    (hret : ∀ (t : Tok) (h' : Heap) (tk' : Nat), Fr h₀ L h' m → News h₀ L h' news → Q (.int (far pa pb) t) { s with heap := h', toks := tk' }) :
    wpAny (model rw_xi0007_01.prog w) A (call (.ref 76) [va, vb]) Q E s :=
  around 9 cn sn sg sc sm L a ccd cl outer hA hh hd hu (far_call B F K N T (ha.mono hs) (hb.mono hs) hret)
end
theorem retStep {h₀ : Heap} {L : Addr} {s s₃ : Shared} {J : Nat → (Str → Option Value) → List (Addr × Obj) → Prop} {Q : Flow → Shared → Prop} {n : Nat} {v : Value} (h : Q (.ret v) s₃) : WhileStep2 h₀ L s J Q n (.ret v) s₃ := h
end Mine
end

section
open PySem PySem.SeqAt PySem.Challenge PySem.W PySem.Spec PySem.Calls PyProof.Rows
namespace Mine
theorem TabW.mono {tb : Array Value} {nw nw' : List (Addr × Obj)} (h : TabW tb nw) (hs : ∀ q ∈ nw, q ∈ nw') : TabW tb nw' := by
  rcases h with h | ⟨c', oc, fs, t, h1, h2⟩
  · exact .inl h
  · exact .inr ⟨c', oc, fs, t, hs _ h1, h2⟩
theorem newsW1 {g h : Heap} {L : Addr} {a b c d : Addr × Obj} {l : List (Addr × Obj)} (N : News g L h (a :: b :: c :: d :: l)) : News g L h (c :: a :: b :: d :: l) := newsSub N fun q hq => by
  simp only [List.mem_cons] at hq ⊢
  rcases hq with h | h | h | h | h <;> simp [h]
theorem newsW2 {g h : Heap} {L : Addr} {a b c d e f : Addr × Obj} {l : List (Addr × Obj)} (N : News g L h (a :: b :: c :: d :: e :: f :: l)) : News g L h (f :: a :: b :: c :: d :: e :: l) := newsSub N fun q hq => by
  simp only [List.mem_cons] at hq ⊢
  rcases hq with h | h | h | h | h | h | h <;> simp [h]
/-- the state of the walk, ahead of each turn -/
noncomputable def JWalk (wl ce : Addr) (ast l : Addr) (pn news : List (Addr × Obj)) (hull : List Pt) (k : Nat) (mm : Str → Option Value) (nwl : List (Addr × Obj)) : Prop :=
  ∃ (us : List Value) (n' : Nat) (tbk tbw : Array Value) (oc : Obj) (nx : List (Addr × Obj)) (i : Nat) (co : Option Value), nwl = (wl, lstO us n') :: (ce, oc) :: (78, tabObj tbw) :: (16, tabObj tbk) :: nx ∧ (∀ q ∈ news, q ∈ nx) ∧ (∀ p ∈ nx, p.1 ≠ 16 ∧ p.1 ≠ 78 ∧ p.1 ≠ wl ∧ p.1 ≠ ce) ∧
    TabK tbk nx ∧ TabW tbw nx ∧ PtsIn pn us (hull.take (i + 1)) ∧ i < hull.length ∧ k = hull.length - i ∧ oc.data = .cell co ∧ mm (Str.ofString "walk") = some (.ref wl) ∧ mm (Str.ofString "start") = some (.ref ast) ∧ mm (Str.ofString "points") = some (.ref l)
section
variable {w : World} {mean : ExcName → Option Value} {mg mb : Str → Option Value} {news : List (Addr × Obj)} {cn : Str} {sn : List (Str × NameKind)} {sg sc : Bool} {sm : List (Str × Const)} {a : Addr} {ccd : Value} {cl : List (Str × Addr)} {outer : List Env} {A₀ : Around} {base h₀ : Heap} {L : Addr} {m : Str → Option Value} {s : Shared} {Q : Value → Shared → Prop} {E : Value → Shared → Prop}
theorem regM36a : True := by
  k_with_none
  k_with "memK" => (first | assumption | exact List.Mem.head _ | (refine List.Mem.tail _ ?_; k_memK))
  k_with "call builtin:min" => ((k_here; refine stopW ?_))
  k_with "call builtin:len" => ((k_here; k_dflt (refine' len_lst (by (k_asm)) (by (k_memK)) (by (lia)) ?_; k_whole)))
  k_with "call ref" => ((k_here; refine stopW ?_))
  k_with "exec Assign cons ListComp" => ((k_here; lcg_calm; k_dflt (refine LCt.Assign_ListComp_T (F₀ := by k_asm) (by rfl) (by with_unfolding_all rfl) (by with_unfolding_all rfl) (by decide) (by rfl) (by decide) (by rfl) (by rfl) (by rfl) ?_); k_dflt lct_toSrc))
  k_with "CompEnd" => ((refine stopW ?_))
  k_with "CompSrcT" => ((k_here; refine stopW ?_))
  k_with "CompSrc" => ((k_here; refine stopW ?_))
  k_with "exec While" => ((k_here; refine stopW ?_))
  k_with "call builtin:list.append" => ((k_here; refine stopW ?_))
  k_with "eval Lambda" => ((k_here; k_dflt (refine' kla_eval (by (exact rfl)) ?_); refine stopW ?_))
  trivial
theorem regM36b : True := by
  k_with "storeName" => ((k_here; k_dflt (refine' storeT_C (by rfl) (by rfl) (by k_asm) (by k_asm) (by rfl) (by assumption) (by assumption) (by k_asm) ?_; k_whole); intro hZq oZq FZq NZq dZq))
  k_with "subscriptTail" => ((k_here; (with_reducible show wpAny _ _ (subscriptTail _ _ (Value.ref _) (Value.int _ _)) _ _ _); (k_dflt (refine' pt_item_any (by (k_asm)) (by (k_memK)) (by (with_reducible assumption)) (by (lia)) (by (lia)) (by (lia)) (by (with_unfolding_all rfl)) ?_); intro iaZ hiPZ)))
  k_with "compareOp Eq ref ref" => ((k_here; refine stopW ?_))
  k_with "compareOp NotEq ref ref" => ((k_here; refine stopW ?_))
  k_with "callWith ref" => ((k_here; k_dflt (refine' callWith_K (by (k_asm)) (by (k_is)) ?_; k_whole)))
  trivial
set_option maxRecDepth 100000 in
set_option maxHeartbeats 8000000 in
theorem walked_call {tbk tbw : Array Value} {l : Addr} {vs : List Value} {ps hull : List Pt} {n : Nat} {pn : List (Addr × Obj)}
    (B : Below A₀ base outer h₀) (F : Fr h₀ L s.heap m) (K : (Mine.hd.heap_39 w.params).In h₀) (N : News h₀ L s.heap ((78, tabObj tbw) :: (16, tabObj tbk) :: news)) (T : Top topProg LoB mean mg mb h₀)
    (hl : (l, lstO vs n) ∈ news) (hs : ∀ q ∈ pn, q ∈ news) (hp : PtsIn pn vs ps) (hf : vs.length ≤ 10) (hne : 0 < vs.length) (hH : HullOk ps hull) (hH10 : hull.length ≤ 10) (hsm : ∀ r ∈ ps, Small r) (hTK : TabK tbk news) (hTW : TabW tbw news) (hnx : ∀ p ∈ news, p.1 ≠ 16 ∧ p.1 ≠ 78)
    (hret : ∀ (l' : Addr) (us : List Value) (n' : Nat) (tbk' tbw' : Array Value) (nx : List (Addr × Obj)) (h' : Heap) (tk' : Nat), PtsIn pn us hull → Fr h₀ L h' m → News h₀ L h' ((78, tabObj tbw') :: (16, tabObj tbk') :: (l', lstO us n') :: nx) → (∀ q ∈ news, q ∈ nx) → (∀ p ∈ nx, p.1 ≠ 16 ∧ p.1 ≠ 78 ∧ p.1 ≠ l') → TabK tbk' nx → TabW tbw' nx → l' ≠ 16 → l' ≠ 78 → Q (.ref l') { s with heap := h', toks := tk' }) :
    wpAny (model rw_xi0007_01.prog w) (kTop 5 cn sn sg sc sm L a ccd cl outer) (call (.ref 81) [.ref l]) Q E s := by
  have C0 : CodeHd h₀ 80 78 := codeHd_of_K K (by kernel_rfl)
  revert K; k_fill; intro K
  refine wpAny_call ?_
  k_enter
  refine gen_qe ?_
  intro q9 gn9 dr9 os9 tk9 hgn9 hdr9 hos9 hq9
  rename Frag.In _ _ => X9
  have C9 := codeHd_of_K (c := 80) (P := 78) X9 (by kernel_rfl)
  k_steps
  unfold StopW
  (rename Fr _ _ _ _ => F1); (rename News _ _ _ _ => N1)
  refine min_pts (pn := pn) (n := n) rfl (Nat.le_of_ble_eq_true rfl) F1 N1 (.tail _ (.tail _ (.tail _ hl))) (fun q hq => .tail _ (.tail _ (.tail _ (hs q hq)))) hp hne ?_
  intro vst pst h1 tk1 hvst hst1 hst2 F2 N2
  have hfst := hH.first hsm hst1 hst2
  obtain ⟨ast, hast⟩ : ∃ x, vst = .ref x := by obtain ⟨xa, _, _, _, e, _⟩ := hvst; exact ⟨xa, e⟩
  subst hast
  clear F1 N1
  k_steps
  unfold StopW
  (rename Fr _ _ _ _ => F1); (rename News _ _ _ _ => N1)
  obtain ⟨wl, hwl⟩ := nameHead N1
  subst hwl
  obtain ⟨L1, hL1⟩ := frL F1
  subst hL1
  rename Obj => oc0
  have hoc0 := ‹oc0.data = Data.cell _›
  have l0 := (‹L1 + 1 < wl ∧ _ ∧ _ ∧ AllLt wl news› : L1 + 1 < wl ∧ 78 < wl ∧ 16 < wl ∧ AllLt wl news)
  have l00 := (‹78 < L1 ∧ _ ∧ AllLt L1 news› : 78 < L1 ∧ 16 < L1 ∧ AllLt L1 news)
  have lw := allLt l0.2.2.2
  have lL := allLt l00.2.2
  have hwc : wl ≠ L1 + 1 := Nat.ne_of_gt l0.1
  have hw78 : wl ≠ 78 := Nat.ne_of_gt l0.2.1
  have hw16 : wl ≠ 16 := Nat.ne_of_gt l0.2.2.1
  have hc78 : L1 + 1 ≠ 78 := Nat.ne_of_gt (Nat.lt_succ_of_lt l00.1)
  have hc16 : L1 + 1 ≠ 16 := Nat.ne_of_gt (Nat.lt_succ_of_lt l00.2.1)
  refine While_inv2 (JWalk wl (L1 + 1) ast l pn news hull) F1 N1 ⟨[.ref ast], _, tbk, tbw, oc0, news, 0, none, rfl, fun q hq => hq, fun p hp => ⟨(hnx p hp).1, (hnx p hp).2, Nat.ne_of_lt (lw p hp), Nat.ne_of_lt (Nat.lt_succ_of_lt (lL p hp))⟩, hTK, hTW, ?_, hH.pos, rfl, hoc0, by with_unfolding_all rfl, by with_unfolding_all rfl, by with_unfolding_all rfl⟩ ?_
  · obtain ⟨y, t, rfl⟩ : ∃ y t, hull = y :: t := by
      cases hull with
      | nil => simp at hfst
      | cons y t => exact ⟨y, t, rfl⟩
    cases hfst
    exact .cons hvst .nil
  clear F1 N1 hoc0 hTK hTW hnx
  rintro k m₂ nw h₂ tk₂ F4 N4 ⟨us, n', tbk', tbw', oc', nx, i, co, rfl, hsub, hnx, hTK, hTW, hus, hi, hk, hoc, hm1, hm2, hm3⟩
  have F5 := named [(Str.ofString "walk", .ref wl), (Str.ofString "start", .ref ast), (Str.ofString "points", .ref l)] F4 (by
    intro p hp
    simp only [List.mem_cons, List.not_mem_nil, or_false] at hp
    rcases hp with rfl | rfl | rfl <;> assumption)
  clear F4 hm1 hm2 hm3
  have hlen := hus.length
  have ht1 : (hull.take (i + 1)).length = i + 1 := by rw [List.length_take]; lia
  rw [ht1] at hlen
  have hcu : ∀ p ∈ (78, tabObj tbw') :: (16, tabObj tbk') :: nx, p.1 ≠ L1 + 1 := fun p hp => by
    rcases List.mem_cons.mp hp with rfl | hp
    · exact hc78.symm
    rcases List.mem_cons.mp hp with rfl | hp
    · exact hc16.symm
    · exact (hnx p hp).2.2.2
  k_steps
  unfold StopW
  (rename Fr _ _ _ _ => F6); (rename News _ _ _ _ => N6); (rename PtIn _ _ _ => hhere)
  rename Obj => oh
  have hoh := ‹oh.data = Data.cell (some _)›
  have hgi : hull[i]? = some hull[i] := List.getElem?_eq_getElem hi
  have ehere : ptAt (hull.take (i + 1)) ((us.length : Int) - 1) = hull[i] := by
    rw [hlen, show ((i + 1 : Nat) : Int) - 1 = (i : Int) by lia, ptAt_nat (by rw [ht1]; lia)]
    simp
  rw [ehere] at hhere
  refine lam_any (clos := [(Str.ofString "here", L1 + 1)]) F6 (newsW1 N6) (by assumption) C9 rfl hTW (fun q hq => .tail _ (.tail _ (.tail _ hq))) ?_ rfl rfl (by kernel_rfl) ?_
  · intro p hp
    rcases List.mem_cons.mp hp with rfl | hp
    · exact hw78
    rcases List.mem_cons.mp hp with rfl | hp
    · exact hc78
    rcases List.mem_cons.mp hp with rfl | hp
    · exact (show (16 : Nat) ≠ 78 by decide)
    · exact (hnx p hp).2.1
  intro f c' ocl fs tq ctv h5 tk5 F8 N8 d1 d2 nf hcc hcf hc78'
  clear F6 N6 F5 N4
  k_steps
  unfold StopW
  have hc16' : c' ≠ 16 := by
    rcases hcc with h | h
    · exact (hnx _ h).1
    · exact fun e => h (16, tabObj tbk') (.tail _ (.tail _ (.tail _ (.head _)))) e.symm
  have hf16 : f ≠ 16 := fun e => nf (16, tabObj tbk') (.tail _ (.tail _ (.tail _ (.head _)))) e.symm
  refine' around 6 _ _ _ _ _ _ _ _ _ _ ?hA ?hh ?hd ?hu ?_
  (case hA => exact rfl); (case hh => exact rfl); (case hd => exact Nat.le_of_ble_eq_true rfl); (case hu => exact Nat.le_of_ble_eq_true rfl)
  refine' cmp_call (tb := tbk') ?zB ?zF ?zK (newsW2 N8) ?zTB ?z16 ?zT ?_
  (case zB => k_asm); (case zF => k_asm); (case zK => k_asm); (case zT => k_asm)
  (case zTB => exact hTK.mono fun q hq => .tail _ (.tail _ (.tail _ (.tail _ (.tail _ hq)))))
  case z16 =>
    intro p hp
    rcases List.mem_cons.mp hp with rfl | hp
    · exact hf16
    rcases List.mem_cons.mp hp with rfl | hp
    · exact hc16'
    rcases List.mem_cons.mp hp with rfl | hp
    · exact (show (78 : Nat) ≠ 16 by decide)
    rcases List.mem_cons.mp hp with rfl | hp
    · exact hw16
    rcases List.mem_cons.mp hp with rfl | hp
    · exact hc16
    · exact (hnx p hp).1
  intro C tb2 nw2 h6 tk6 F9 N9 sub2 n16 hT2 mK mL
  clear F8 N8
  have ml2 : (l, lstO vs n) ∈ nw2 := sub2 _ (.tail _ (.tail _ (.tail _ (.tail _ (.tail _ (hsub _ hl))))))
  have mc2 : (L1 + 1, oh) ∈ nw2 := sub2 _ (.tail _ (.tail _ (.tail _ (.tail _ (.head _)))))
  have mw2 : (wl, lstO us n') ∈ nw2 := sub2 _ (.tail _ (.tail _ (.tail _ (.head _))))
  have mf2 := sub2 _ (.head _)
  have pn2 : ∀ q ∈ pn, q ∈ nw2 := fun q hq => sub2 _ (.tail _ (.tail _ (.tail _ (.tail _ (.tail _ (hsub _ (hs _ hq)))))))
  have m78 : (78, tabObj (tabW c')) ∈ nw2 := sub2 _ (.tail _ (.tail _ (.head _)))
  have mcl2 : (c', ocl) ∈ nw2 := sub2 _ (.tail _ (.head _))
  have hcmp : ∀ va vb pa pb, PtIn pn (.ref va) pa → PtIn pn (.ref vb) pb → FnCmp w (.ref f) (.ref va) (.ref vb) nw2 (cmpP hull[i] pa pb) := by
    intro va vb pa pb ha hb
    unfold FnCmp
    intro mean9 mg9 mb9 news9 cn9 sn9 sg9 sc9 sm9 a9 ccd9 cl9 outer9 A9 base9 h09 L9 m9 s9 Q9 E9 B9 F9' K9 N9' T9 hs9 hret9
    have N10 := newsCons3 N9' (hs9 _ mf2) (hs9 _ mcl2) (hs9 _ mc2)
    clear N9'
    revert K9; k_fill; intro K9
    refine wpAny_call ?_
    kla_enter
    k_steps
    unfold StopW
    refine' turn_at (pn := pn) ?tA ?th ?td ?tu ?tB ?tF ?tK ?tN ?tT hhere ha hb ?ts ?_
    (case tA => exact rfl); (case th => exact rfl); (case td => exact Nat.le_of_ble_eq_true rfl); (case tu => exact Nat.le_of_ble_eq_true rfl)
    (case tB => k_asm); (case tF => k_asm); (case tK => k_asm); (case tN => k_asm); (case tT => k_asm); (case ts => exact fun q hq => mem3 (hs9 _ (pn2 q hq)))
    intro t1 h1 tk1 F1 N1
    k_steps
    · unfold StopW
      refine' turn_at (pn := pn) ?tA1 ?th1 ?td1 ?tu1 ?tB1 ?tF1 ?tK1 ?tN1 ?tT1 hhere ha hb ?ts1 ?_
      (case tA1 => exact rfl); (case th1 => exact rfl); (case td1 => exact Nat.le_of_ble_eq_true rfl); (case tu1 => exact Nat.le_of_ble_eq_true rfl)
      (case tB1 => k_asm); (case tF1 => k_asm); (case tK1 => k_asm); (case tN1 => k_asm); (case tT1 => k_asm); (case ts1 => exact fun q hq => mem3 (hs9 _ (pn2 q hq)))
      intro t2 h2 tk2 F2 N2
      k_steps
      have ec : cmpP hull[i] pa pb = 0 - turn hull[i] pa pb := if_pos (by assumption)
      rw [ec] at hret9
      exact hret9 _ _ _ (by assumption) (newsSub (by assumption) fun q hq => mem3 hq)
    · unfold StopW
      refine' far_at (pn := pn) ?tA2 ?th2 ?td2 ?tu2 ?tB2 ?tF2 ?tK2 ?tN2 ?tT2 ?ts2 hhere hb ?_
      (case tA2 => exact rfl); (case th2 => exact rfl); (case td2 => exact Nat.le_of_ble_eq_true rfl); (case tu2 => exact Nat.le_of_ble_eq_true rfl)
      (case tB2 => k_asm); (case tF2 => k_asm); (case tK2 => k_asm); (case tN2 => k_asm); (case tT2 => k_asm); (case ts2 => exact fun q hq => mem3 (hs9 _ (pn2 q hq)))
      intro t2 h2 tk2 F2 N2
      k_steps
      unfold StopW
      refine' far_at (pn := pn) ?tA3 ?th3 ?td3 ?tu3 ?tB3 ?tF3 ?tK3 ?tN3 ?tT3 ?ts3 hhere ha ?_
      (case tA3 => exact rfl); (case th3 => exact rfl); (case td3 => exact Nat.le_of_ble_eq_true rfl); (case tu3 => exact Nat.le_of_ble_eq_true rfl)
      (case tB3 => k_asm); (case tF3 => k_asm); (case tK3 => k_asm); (case tN3 => k_asm); (case tT3 => k_asm); (case ts3 => exact fun q hq => mem3 (hs9 _ (pn2 q hq)))
      intro t3 h3 tk3 F3 N3
      k_steps
      have ec : cmpP hull[i] pa pb = far hull[i] pb - far hull[i] pa := if_neg (fun hz => hz (by assumption))
      rw [ec] at hret9
      exact hret9 _ _ _ (by assumption) (newsSub (by assumption) fun q hq => mem3 hq)
  replace N9 : News _ _ _ ((L1 + 1, oh) :: (16, tabObj tb2) :: nw2) := newsSub N9 fun q hq => by
    rcases List.mem_cons.mp hq with rfl | hq
    · exact .tail _ mc2
    · exact hq
  k_steps
  unfold StopW
  have hplen := hp.length
  refine LCt.CompSrcT.ledger (by rfl) (by k_asm) (by k_asm) (.tail _ (.tail _ ml2)) (by rw [sizeLine_eq]; simp; lia) ?_
  intro g'
  refine compRestT_inv (J := fun j ys nw => nw = (L1 + 1, oh) :: (16, tabObj tb2) :: nw2 ∧ PtsIn pn ys ((ps.take j).filter fun p => !decide (p = hull[i]))) ?_ ?_ _ 0 [] _ (Nat.zero_add _) ⟨rfl, .nil⟩
  · rintro ys nw ⟨rfl, hys⟩
    unfold LCg.FinA
    intro D h8 tk8 F10 N10 o10
    rw [List.take_of_length_le (show ps.length ≤ vs.toArray.size by simp; lia)] at hys
    k_steps
    unfold StopW
    (rename News _ _ _ _ => N11)
    refine eq_empty (vs := ys) (n := ys.length) (n' := 0) (Nat.le_of_ble_eq_true rfl) N11 (.tail _ (.head _)) (.head _) ?_
    rcases hH.turn hgi with ⟨hnil, hhull, hi0⟩ | ⟨q0, qr, hq, hb, hst, hnx2⟩
    · rw [hnil] at hys
      cases hys
      k_steps
      refine retStep ?_
      dsimp only
      subst hgn9 hdr9 hos9
      refine hq9 _ _ ?_
      k_steps
      (rename News h₀ L _ _ => N12)
      obtain ⟨nx', N13, s1, s2, s3, s4⟩ := re_led (news := news) (newsSub N12 fun q hq => .tail _ (.tail _ (.tail _ hq))) mw2 m78 mc2 hoh mcl2 d1 d2 n16 hT2 (fun q hq => sub2 _ (.tail _ (.tail _ (.tail _ (.tail _ (.tail _ (hsub q hq))))))) (fun q hq => (hnx _ (hsub q hq)).2)
      rw [List.take_of_length_le (by rw [hhull]; simp)] at hus
      refine hret wl us n' tb2 (tabW c') nx' _ _ hus (by assumption) (newsPick N13 [2, 3, 0] 4) s1 (fun p hp => ⟨(s2 p hp).1, (s2 p hp).2.1, (s2 p hp).2.2.1⟩) s3 s4 hw16 hw78
    · rw [hq] at hys
      have hyl := hys.length
      have hye : ys.isEmpty = false := by cases ys; (simp at hyl); rfl
      rw [hye]
      k_steps
      unfold StopW
      (rename Fr _ _ _ _ => F12); (rename News _ _ _ _ => N12)
      show wpAny _ _ (call (.builtin "min") [.ref D] [(Str.ofString "key", .ref C)]) _ _ _
      refine' min_cmp (pn := pn) (nw := nw2) (fl := nw2) (here := hull[i]) (q0 := q0) (qr := qr) (fv := f) (l := D) ?xA ?xh0 ?xh ?xd ?xu ?xB ?xF ?xK ?xN ?xT ?xl ?xnw ?xpn ?xfl hys mK mL ?xfv hcmp ?_
      (case xA => exact rfl); (case xh0 => exact rfl); (case xh => exact rfl); (case xd => exact Nat.le_of_ble_eq_true rfl); (case xu => exact Nat.le_of_ble_eq_true rfl)
      (case xB => k_asm); (case xF => exact F12); (case xK => k_asm); (case xN => exact N12); (case xT => k_asm)
      (case xl => exact .tail _ (.head _)); (case xnw => exact fun q hq => .tail _ (.tail _ (.tail _ (.tail _ hq)))); (case xpn => exact fun q hq => .tail _ (.tail _ (.tail _ (.tail _ (pn2 q hq))))); (case xfl => exact fun q hq => .tail _ (.tail _ (.tail _ (.tail _ hq)))); (case xfv => exact .tail _ (.tail _ (.tail _ (.tail _ mf2))))
      intro vb h9 tk9 hvb F13 N13
      rw [hb] at hvb
      obtain ⟨ab, hab⟩ : ∃ x, vb = .ref x := by obtain ⟨xa, _, _, _, e, _⟩ := hvb; exact ⟨xa, e⟩
      subst hab
      clear F12 N12
      k_steps
      unfold StopW
      (rename News _ _ _ _ => N14)
      have hp0 : hull.getD 0 (0, 0) = pst := by rw [List.getD_eq_getElem?_getD, hfst]; rfl
      refine eq_pts (pn := pn) (Nat.le_of_ble_eq_true rfl) N14 (fun q hq => .tail _ (.tail _ (.tail _ (.tail _ (pn2 q hq))))) hvb hvst ?_
      rw [hp0] at hst
      by_cases hlast : i + 1 = hull.length
      · rw [decide_eq_true (hst.mpr hlast)]
        k_steps
        refine retStep ?_
        dsimp only
        subst hgn9 hdr9 hos9
        refine hq9 _ _ ?_
        k_steps
        (rename News h₀ L _ _ => N12)
        obtain ⟨nx', N13', s1, s2, s3, s4⟩ := re_led (news := news) (newsSub N12 fun q hq => .tail _ (.tail _ (.tail _ hq))) mw2 m78 mc2 hoh mcl2 d1 d2 n16 hT2 (fun q hq => sub2 _ (.tail _ (.tail _ (.tail _ (.tail _ (.tail _ (hsub q hq))))))) (fun q hq => (hnx _ (hsub q hq)).2)
        rw [List.take_of_length_le (by lia)] at hus
        refine hret wl us n' tb2 (tabW c') nx' _ _ hus (by assumption) (newsPick N13' [2, 3, 0] 4) s1 (fun p hp => ⟨(s2 p hp).1, (s2 p hp).2.1, (s2 p hp).2.2.1⟩) s3 s4 hw16 hw78
      · rw [decide_eq_false (fun h => hlast (hst.mp h))]
        obtain ⟨nx', N16, s1, s2, s3, s4⟩ := re_led (news := news) (newsSub N14 fun q hq => .tail _ (.tail _ (.tail _ hq))) mw2 m78 mc2 hoh mcl2 d1 d2 n16 hT2 (fun q hq => sub2 _ (.tail _ (.tail _ (.tail _ (.tail _ (.tail _ (hsub q hq))))))) (fun q hq => (hnx _ (hsub q hq)).2)
        clear N14
        k_steps
        unfold StopW
        (rename Fr _ _ _ _ => F15); (rename News _ _ _ _ => N17)
        refine append_own F15 N17 ?_ (by lia) ?_
        · intro p hp
          rcases List.mem_cons.mp hp with rfl | hp
          · exact hwc.symm
          rcases List.mem_cons.mp hp with rfl | hp
          · exact hw78.symm
          rcases List.mem_cons.mp hp with rfl | hp
          · exact hw16.symm
          · exact (s2 p hp).2.2.1
        intro h10 F17 N18
        clear N17 F15
        k_steps
        refine ⟨_, _, _, _, hull.length - (i + 1), rfl, F17, N18, by lia, us ++ [.ref ab], _, tb2, tabW c', oh, nx', i + 1, _, rfl, s1, s2, s3, s4, ?_, by lia, rfl, hoh, by with_unfolding_all rfl, by with_unfolding_all rfl, by with_unfolding_all rfl⟩
        rw [List.take_add_one, hnx2 (by lia)]
        exact hus.snoc hvb
  · rintro j v I oI C2 oC D m3 h7 tk7 E' ys nw hj ⟨rfl, hys⟩ hv hC hx F10 N10 off ne
    obtain ⟨p, hpi, hpv⟩ := hp.getV j v (by simpa using hv)
    have hpv' := hpv
    obtain ⟨va, _, _, _, rfl, _⟩ := hpv'
    have e9 : (ps.take (j + 1)).filter (fun p => !decide (p = hull[i])) = (ps.take j).filter (fun p => !decide (p = hull[i])) ++ (if p = hull[i] then [] else [p]) := by
      rw [List.take_add_one, hpi, List.filter_append]
      by_cases hpe : p = hull[i] <;> simp [hpe]
    have hsrc : ∀ g0 : Heap, LCg.SrcAt g0 l vs.toArray ((L1 + 1, oh) :: (16, tabObj tb2) :: nw2) := fun _ => .inr ⟨_, .tail _ (.tail _ ml2), rfl, _, rfl⟩
    k_steps
    refine ne_pts (pn := pn) (Nat.le_of_ble_eq_true rfl) N10 (fun q hq => .tail _ (.tail _ (.tail _ (.tail _ (.tail _ (pn2 q hq)))))) hpv hhere ?_
    by_cases hpe : p = hull[i]
    · rw [if_pos hpe, List.append_nil] at e9
      rw [decide_eq_true hpe]
      k_steps
      unfold StopW
      exact LCg.CompEnd.intro (by assumption) (by assumption) ((L1 + 1, oh) :: (16, tabObj tb2) :: nw2) (fun p hp => hp) off (hsrc _) ⟨rfl, by rw [e9]; exact hys⟩
    · rw [if_neg hpe] at e9
      rw [decide_eq_false hpe]
      k_steps
      unfold StopW
      exact LCg.CompEnd.intro (by assumption) (by assumption) ((L1 + 1, oh) :: (16, tabObj tb2) :: nw2) (fun p hp => hp) off (hsrc _) ⟨rfl, by rw [e9]; exact hys.snoc hpv⟩
end
end Mine
end

section
open PySem PySem.SeqAt PySem.Challenge PySem.W PySem.Spec PySem.Calls PyProof.Rows
namespace Mine
section
variable {prog : Program} {w : World} {A : Around} {E : Value → Shared → Prop} {s : Shared}
theorem ptUniq {g h : Heap} {L : Addr} {news pn : List (Addr × Obj)} {v : Value} {p q : Pt} (N : News g L h news) (hs : ∀ x ∈ pn, x ∈ news) (hp : PtIn pn v p) (hq : PtIn pn v q) : p = q := by
  obtain ⟨a, t1, t2, n1, e1, m1, _⟩ := hp
  obtain ⟨b, t3, t4, n2, e2, m2, _⟩ := hq
  rw [e1] at e2
  cases e2
  have e := newsSame N (hs _ m1) (hs _ m2)
  have e3 : (Data.seq #[Value.int p.1 t1, Value.int p.2 t2] n1) = Data.seq #[Value.int q.1 t3, Value.int q.2 t4] n2 := congrArg Obj.data e
  simp only [Data.seq.injEq] at e3
  have e4 := e3.1
  simp only [Array.mk.injEq, List.cons.injEq, Value.int.injEq] at e4
  exact Prod.ext e4.1.1 e4.2.1.1
/-- two points of the ledger, compared as items -/
theorem eqAt_pts {g : Heap} {L : Addr} {news pn : List (Addr × Obj)} {v u : Value} {p q : Pt} (hu : A.units < cLine) (N : News g L s.heap news) (hs : ∀ x ∈ pn, x ∈ news) (hv : PtIn pn v p) (hq : PtIn pn u q) : EqAt A s v u (decide (p = q)) := by
  have hv' := hv
  have hq' := hq
  obtain ⟨a, t1, t2, n1, rfl, m1, _⟩ := hv'
  obtain ⟨b, t3, t4, n2, rfl, m2, _⟩ := hq'
  by_cases hab : a = b
  · subst hab
    rw [decide_eq_true (ptUniq N hs hv hq)]
    exact EqAt.same _
  · rw [← ptEq]
    exact EqAt.of_refs hab (rc_pts hu (N _ (hs _ m1)).1 (N _ (hs _ m2)).1)
open Classical in
/-- `point not in points` -/
theorem notin_pts {g : Heap} {L l : Addr} {v : Value} {news pn : List (Addr × Obj)} {us : List Value} {ps : List Pt} {n : Nat} {p : Pt} {Q : Value → Shared → Prop} (hu : A.in1.units < cLine) (N : News g L s.heap news) (hs : ∀ x ∈ pn, x ∈ news) (hl : (l, lstO us n) ∈ news) (hp : PtsIn pn us ps) (hb : PtIn pn v p)
    (h : Q (.bool (!decide (p ∈ ps))) s) : wpAny (model prog w) A (compareOp .NotIn v (.ref l)) Q E s := by
  have key : us.toArray.any (fun y => decide (PtIn pn y p)) = decide (p ∈ ps) := by
    rw [List.any_toArray]
    clear h hl
    induction hp with
    | nil => simp
    | @cons v' q us' ps' hv _ ih =>
      rw [List.any_cons, ih]
      have : decide (PtIn pn v' p) = decide (p = q) := by
        apply decide_eq_decide.mpr
        constructor
        · intro h; exact ptUniq N hs h hv
        · rintro rfl; exact hv
      rw [this]
      by_cases e1 : p = q <;> by_cases e2 : p ∈ ps' <;> simp [e1, e2]
  refine notIn_listAt (fun y => decide (PtIn pn y p)) (isList_lst N hl) (fun y hy => ?_) (by rw [key]; exact h)
  have hy' : y ∈ us := by simpa using hy
  obtain ⟨i, hi, rfl⟩ := List.mem_iff_getElem.mp hy'
  obtain ⟨q, _, hq⟩ := hp.getV i _ (List.getElem?_eq_getElem hi)
  have : decide (PtIn pn us[i] p) = decide (q = p) := by
    apply decide_eq_decide.mpr
    constructor
    · intro h; exact ptUniq N hs hq h
    · rintro rfl; exact hq
  rw [this]
  exact eqAt_pts hu N hs hq hb
/-- two lists of the same points are not unequal -/
theorem ne_lists {g : Heap} {L l1 l2 : Addr} {news pn : List (Addr × Obj)} {us vs : List Value} {ps : List Pt} {n1 n2 : Nat} {Q : Value → Shared → Prop} (hu0 : A.units < cLine) (hu : A.in1.units < cLine) (N : News g L s.heap news) (hs : ∀ x ∈ pn, x ∈ news) (h1 : (l1, lstO us n1) ∈ news) (h2 : (l2, lstO vs n2) ∈ news) (hp : PtsIn pn us ps) (hq : PtsIn pn vs ps)
    (h : Q (.bool false) s) : wpAny (model prog w) A (compareOp .NotEq (.ref l1) (.ref l2)) Q E s := by
  have e1 := hp.length
  have e2 := hq.length
  refine RcNeAt.lists (e := fun _ => true) (isList_lst N h1) (isList_lst N h2) (by simp; omega) hu0 (fun j g1 g2 => ?_) prog w E Q ?_
  · have j1 : j < us.length := by simpa using g1
    have j2 : j < vs.length := by simpa using g2
    obtain ⟨p, hp1, hp2⟩ := hp.getV j _ (List.getElem?_eq_getElem j1)
    obtain ⟨q, hq1, hq2⟩ := hq.getV j _ (List.getElem?_eq_getElem j2)
    rw [hp1] at hq1
    cases hq1
    have := eqAt_pts (A := A.in1) hu N hs hp2 hq2
    rw [decide_eq_true rfl] at this
    simpa using this
  · have : (List.range us.toArray.size).all (fun _ => true) = true := by simp
    rw [this]; exact h
end
end Mine
end

section
namespace Mine
theorem nodup_le {l : List Pt} : ∀ {k : List Pt}, l.Nodup → (∀ x ∈ l, x ∈ k) → l.length ≤ k.length := by
  induction l with
  | nil => intro k _ _; exact Nat.zero_le _
  | cons a l ih =>
    intro k hn hs
    have hn' := List.nodup_cons.mp hn
    obtain ⟨u, v, rfl⟩ := List.append_of_mem (hs a (.head _))
    have := ih (k := u ++ v) hn'.2 fun x hx => by
      have h1 := hs x (.tail _ hx)
      have hne : x ≠ a := fun e => hn'.1 (e ▸ hx)
      simp only [List.mem_append, List.mem_cons] at h1 ⊢
      rcases h1 with h1 | h1 | h1
      · exact .inl h1
      · exact absurd h1 hne
      · exact .inr h1
    simp only [List.length_append, List.length_cons] at this ⊢
    lia
theorem hullP_one (p : Pt) : hullP [p] = [p] := by
  have : sortP [p] = [p] := rfl
  rw [hullP, this, if_pos (by simp)]
theorem hullOk {ps : List Pt} (hn : ps.Nodup) (hs : ∀ r ∈ ps, Small r) (h0 : ps ≠ []) : HullOk ps (hullP ps) ∧ (hullP ps).length ≤ ps.length := by
  match ps, h0 with
  | [p], _ => exact ⟨.inl ⟨p, rfl, hullP_one p⟩, by rw [hullP_one]; exact Nat.le_refl _⟩
  | p :: q :: r, _ =>
    have R := ring hn hs (by simp)
    exact ⟨.inr R, nodup_le R.nodup R.mem⟩
/-- no point stands right of an edge of the hull -/
theorem hull_left {ps : List Pt} (hn : ps.Nodup) (hs : ∀ r ∈ ps, Small r) (h0 : ps ≠ []) {k : Nat} (hk : k < (hullP ps).length) {p : Pt} (hp : p ∈ ps) : 0 ≤ turn (ptAt (hullP ps) ((k : Int) - 1)) (ptAt (hullP ps) (k : Int)) p := by
  match ps, h0 with
  | [q], _ =>
    rw [hullP_one] at hk ⊢
    have : k = 0 := by simpa using hk
    subst this
    rw [List.mem_singleton.mp hp]
    simp [ptAt, wrapI, turn]
  | a :: q :: r, _ => exact turn_neg (((ring hn hs (by simp)).at_ hk).all p hp)
/-- the size is not negative, and nought just when no three points turn -/
theorem hull_size {ps : List Pt} (hn : ps.Nodup) (hs : ∀ r ∈ ps, Small r) (h0 : ps ≠ []) : 0 ≤ sizeP (hullP ps) ∧ (sizeP (hullP ps) = 0 ↔ ∀ p ∈ ps, ∀ q ∈ ps, ∀ r ∈ ps, turn p q r = 0) := by
  match ps, h0 with
  | [q], _ =>
    rw [hullP_one]
    have e : sizeP [q] = 0 := by
      simp [sizeP, sizeAcc, ptAt, wrapI]
      rw [Int.mul_comm]; lia
    refine ⟨by lia, fun _ p hp r hr t ht => ?_, fun _ => e⟩
    rw [List.mem_singleton.mp hp, List.mem_singleton.mp hr, List.mem_singleton.mp ht]
    simp [turn]
  | a :: q :: r, _ =>
    have R := ring hn hs (by simp)
    exact ⟨R.size_nn, R.size_zero⟩
/-- the mirror image's hull is the hull's mirror image -/
theorem hull_mirror {ps : List Pt} (hn : ps.Nodup) (hs : ∀ r ∈ ps, Small r) (h0 : ps ≠ []) :
    (∀ p, p ∈ (hullP (ps.map rho)).map rho ↔ p ∈ hullP ps) ∧ ((hullP (ps.map rho)).map rho).Nodup ∧ (hullP ps).Nodup ∧ sizeP (hullP (ps.map rho)) = sizeP (hullP ps) := by
  match ps, h0 with
  | [q], _ =>
    rw [List.map_singleton, hullP_one, hullP_one, List.map_singleton, rho_rho]
    refine ⟨fun p => Iff.rfl, by simp, by simp, ?_⟩
    have e : ∀ q : Pt, sizeP [q] = 0 := fun q => by
      simp [sizeP, sizeAcc, ptAt, wrapI]
      rw [Int.mul_comm]; lia
    rw [e, e]
  | a :: q :: r, _ =>
    have R := ring hn hs (by simp)
    have O := ring (ps := (a :: q :: r).map rho) (nodup_map_rho hn) (fun x hx => by
      obtain ⟨y, hy, rfl⟩ := List.mem_map.mp hx
      exact small_rho (hs y hy)) (by simp)
    exact ⟨fun p => rho_hull R O p, nodup_map_rho O.nodup, R.nodup, size_refl R O⟩
end Mine
end

section
open PySem PySem.W PySem.Spec PySem.Calls PyProof.Rows
namespace Mine
/-- the sort's questions, answered by the codes c -/
noncomputable def cmpS (c : Nat → Int) (n i j : Nat) (C : Bool → Shared → Prop) (s : Shared) : Prop := i < n ∧ j < n ∧ C (decide (c i < c j)) s
noncomputable def PermN (n : Nat) (p : Array Nat) : Prop := p.toList.Perm (List.range n)
noncomputable def KC (c : Nat → Int) (p : Array Nat) (i : Nat) : Int := c (p.getD i 0)
noncomputable def SdN (c : Nat → Int) (p : Array Nat) (k : Nat) : Prop := ∀ i j, i < j → j < k → KC c p i < KC c p j
noncomputable def DdN (c : Nat → Int) (p : Array Nat) (k : Nat) : Prop := ∀ i j, i < j → j < k → KC c p j < KC c p i
theorem PermN.size {n : Nat} {p : Array Nat} (h : PermN n p) : p.size = n := by
  have := h.length_eq
  simpa using this
theorem PermN.getD {n : Nat} {p : Array Nat} (h : PermN n p) {i : Nat} (hi : i < n) : p.getD i 0 < n := by
  have hs := h.size
  have e : p.getD i 0 = p[i] := by simp [Array.getD, hs, hi]
  rw [e]
  have : p[i] ∈ List.range n := h.mem_iff.mp (by rw [Array.mem_toList_iff]; exact Array.getElem_mem _)
  exact List.mem_range.mp this
theorem PermN.inj {n : Nat} {p : Array Nat} (h : PermN n p) {i j : Nat} (hi : i < n) (hj : j < n) (e : p.getD i 0 = p.getD j 0) : i = j := by
  have hs := h.size
  have nd : p.toList.Nodup := h.nodup_iff.mpr List.nodup_range
  have e1 : p.getD i 0 = p.toList[i]'(by simpa [hs] using hi) := by simp [Array.getD, hs, hi]
  have e2 : p.getD j 0 = p.toList[j]'(by simpa [hs] using hj) := by simp [Array.getD, hs, hj]
  rw [e1, e2] at e
  exact (List.getElem_inj nd).mp e
theorem PermN.of {n : Nat} {p q : Array Nat} (h : PermN n p) (e : q.Perm p) : PermN n q := (Array.perm_iff_toList_perm.mp e).trans h
theorem KC_congr {c : Nat → Int} {p q : Array Nat} {i j : Nat} (h : p[i]? = q[j]?) : KC c p i = KC c q j := by
  unfold KC
  rw [Array.getD_eq_getD_getElem?, Array.getD_eq_getD_getElem?, h]
theorem SdN.succ {c : Nat → Int} {p : Array Nat} {k : Nat} (h : SdN c p k) (h1 : 1 ≤ k) (hk : KC c p (k - 1) < KC c p k) : SdN c p (k + 1) := fun i j hij hj => by
  by_cases e : j = k
  · subst e
    by_cases e2 : i = j - 1
    · rw [e2]; exact hk
    · exact Int.lt_trans (h i (j - 1) (by lia) (by lia)) hk
  · exact h i j hij (by lia)
theorem DdN.succ {c : Nat → Int} {p : Array Nat} {k : Nat} (h : DdN c p k) (h1 : 1 ≤ k) (hk : KC c p k < KC c p (k - 1)) : DdN c p (k + 1) := fun i j hij hj => by
  by_cases e : j = k
  · subst e
    by_cases e2 : i = j - 1
    · rw [e2]; exact hk
    · exact Int.lt_trans hk (h i (j - 1) (by lia) (by lia))
  · exact h i j hij (by lia)
theorem kasP_mono {c : Nat → Int} {n : Nat} {α : Type} {t : KasT α} {Q Q' : α → Shared → Prop} {s : Shared} (h : t.kasWp (cmpS c n) Q s) (hq : ∀ a s', Q a s' → Q' a s') : t.kasWp (cmpS c n) Q' s := by
  induction t generalizing s with
  | ret a => exact hq _ _ h
  | ask i j k ih => exact ⟨h.1, h.2.1, ih _ h.2.2⟩
theorem askT {c : Nat → Int} {n i j : Nat} {α : Type} {k : Bool → KasT α} {Q : α → Shared → Prop} {s : Shared} (hi : i < n) (hj : j < n) (h : c i < c j) (r : (k true).kasWp (cmpS c n) Q s) : (KasT.ask i j k).kasWp (cmpS c n) Q s := by
  refine ⟨hi, hj, ?_⟩
  rw [decide_eq_true h]
  exact r
theorem askF {c : Nat → Int} {n i j : Nat} {α : Type} {k : Bool → KasT α} {Q : α → Shared → Prop} {s : Shared} (hi : i < n) (hj : j < n) (h : ¬ c i < c j) (r : (k false).kasWp (cmpS c n) Q s) : (KasT.ask i j k).kasWp (cmpS c n) Q s := by
  refine ⟨hi, hj, ?_⟩
  rw [decide_eq_false h]
  exact r
section
variable {c : Nat → Int} {n : Nat} (hc : ∀ i j, i < n → j < n → c i = c j → i = j)
include hc
theorem KC_ne {p : Array Nat} (hp : PermN n p) {i j : Nat} (hi : i < n) (hj : j < n) (h : i ≠ j) : KC c p i ≠ KC c p j := fun e =>
  h (hp.inj hi hj (hc _ _ (hp.getD hi) (hp.getD hj) e))
theorem asc_ok {p : Array Nat} (hp : PermN n p) : ∀ (f m : Nat) (s : Shared), 1 ≤ m → m + f = n → SdN c p m →
    (kas_asc p f m).kasWp (cmpS c n) (fun r s' => s' = s ∧ m ≤ r ∧ r ≤ n ∧ SdN c p r ∧ (r < n → KC c p r < KC c p (r - 1))) s
  | 0, m, s, h1, hf, hs => ⟨rfl, Nat.le_refl _, by lia, hs, fun h => by lia⟩
  | f + 1, m, s, h1, hf, hs => by
    by_cases h : KC c p m < KC c p (m - 1)
    · refine askT (hp.getD (by lia)) (hp.getD (by lia)) h ?_
      exact ⟨rfl, Nat.le_refl _, by lia, hs, fun _ => h⟩
    · have hne := KC_ne hc hp (i := m) (j := m - 1) (by lia) (by lia) (by lia)
      refine askF (hp.getD (by lia)) (hp.getD (by lia)) h ?_
      exact kasP_mono (asc_ok hp f (m + 1) s (by lia) (by lia) (hs.succ h1 (by lia))) fun r s' ⟨a, b, d⟩ => ⟨a, by lia, d⟩
theorem desc_ok {p : Array Nat} (hp : PermN n p) : ∀ (f m : Nat) (s : Shared), 1 ≤ m → m + f = n → DdN c p m →
    (kas_desc f p m 0).kasWp (cmpS c n) (fun r s' => s' = s ∧ r.1 = p ∧ r.2.2 = 0 ∧ m ≤ r.2.1 ∧ r.2.1 ≤ n ∧ DdN c p r.2.1) s
  | 0, m, s, h1, hf, hs => ⟨rfl, rfl, rfl, Nat.le_refl _, (by lia : m ≤ n), hs⟩
  | f + 1, m, s, h1, hf, hs => by
    by_cases h : KC c p m < KC c p (m - 1)
    · refine askT (hp.getD (by lia)) (hp.getD (by lia)) h ?_
      exact kasP_mono (desc_ok hp f (m + 1) s (by lia) (by lia) (hs.succ h1 h)) fun r s' ⟨a, b, d, e, g⟩ => ⟨a, b, d, by lia, g⟩
    · have hne := KC_ne hc hp (i := m) (j := m - 1) (by lia) (by lia) (by lia)
      refine askF (hp.getD (by lia)) (hp.getD (by lia)) h ?_
      refine askT (hp.getD (by lia)) (hp.getD (by lia)) (show KC c p (m - 1) < KC c p m by lia) ?_
      exact ⟨rfl, rfl, rfl, Nat.le_refl _, (by lia : m ≤ n), hs⟩
/-- what the count of the first run leaves -/
noncomputable def RunN (c : Nat → Int) (n : Nat) (s : Shared) (r : Nat × Array Nat) (s' : Shared) : Prop := s' = s ∧ PermN n r.2 ∧ 1 ≤ r.1 ∧ r.1 ≤ n ∧ SdN c r.2 r.1
theorem tail_ok {p : Array Nat} {m : Nat} {s : Shared} (hp : PermN n p) (h1 : 1 ≤ m) (hm : m ≤ n) (hd : DdN c p m) : (kas_tail3 m n p).kasWp (cmpS c n) (RunN c n s) s := by
  have hq : PermN n (kas_rev p 0 m) := hp.of (mirror_perm _ _ _ _)
  have hk : ∀ k, k < m → KC c (kas_rev p 0 m) k = KC c p (m - 1 - k) := fun k hk => by
    refine KC_congr ?_
    have := getElem?_mirror_all (xs := p) (i := 0) (j := m) (by rw [hp.size]; lia) k
    rw [if_pos ⟨Nat.zero_le _, hk⟩] at this
    unfold kas_rev
    rw [this]
    congr 1
    lia
  have hs : SdN c (kas_rev p 0 m) m := fun i j hij hj => by
    rw [hk i (by lia), hk j hj]
    exact hd _ _ (by lia) (by lia)
  unfold kas_tail3
  rw [KasT.kasWp_bind]
  exact kasP_mono (asc_ok hc hq (n - m) m s h1 (by lia) hs) fun r s' ⟨a, b, d, e, _⟩ => ⟨a, hq, Nat.le_trans h1 b, d, e⟩
theorem descPart_ok {p : Array Nat} {s : Shared} (hp : PermN n p) (hn : 2 ≤ n) (h : KC c p 1 < KC c p 0) : (kas_descPart 1 n p).kasWp (cmpS c n) (RunN c n s) s := by
  have hd : DdN c p 2 := fun i j hij hj => by
    have e1 : i = 0 := by lia
    have e2 : j = 1 := by lia
    subst e1 e2
    exact h
  unfold kas_descPart
  rw [KasT.kasWp_bind]
  refine kasP_mono (desc_ok hc hp (n - (1 + 1)) (1 + 1) s (by lia) (by lia) hd) ?_
  rintro ⟨p', m, q⟩ s' ⟨rfl, rfl, rfl, b, d, e⟩
  exact tail_ok hc hp (by dsimp only at b ⊢; lia) d e
theorem count_ok {p : Array Nat} {s : Shared} (hp : PermN n p) (hn : 2 ≤ n) : (kas_count n p).kasWp (cmpS c n) (RunN c n s) s := by
  unfold kas_count
  rw [KasT.kasWp_bind]
  refine kasP_mono (asc_ok hc hp (n - 1) 1 s (Nat.le_refl _) (by lia) fun i j _ _ => by lia) ?_
  rintro r s' ⟨rfl, b, d, e, g⟩
  by_cases h1 : r = n
  · rw [if_pos (beq_iff_eq.mpr h1)]
    exact ⟨rfl, hp, b, d, e⟩
  · rw [if_neg (by simpa using h1)]
    by_cases h2 : r > 1
    · rw [if_pos h2]
      refine askT (hp.getD (by lia)) (hp.getD (by lia)) (e 0 (r - 1) (by lia) (by lia)) ?_
      exact ⟨rfl, hp, b, d, e⟩
    · rw [if_neg h2]
      obtain rfl : r = 1 := by lia
      exact descPart_ok hc hp hn (g (by lia))
theorem place_ok {p : Array Nat} {k : Nat} (hp : PermN n p) (hk : k < n) (hs : SdN c p k) : ∀ (f l r : Nat) (s : Shared), r - l ≤ f → l ≤ r → r ≤ k → (∀ i, i < l → KC c p i < KC c p k) → (∀ i, r ≤ i → i < k → KC c p k < KC c p i) →
    (kas_place p k f l r).kasWp (cmpS c n) (fun x s' => s' = s ∧ x ≤ k ∧ (∀ i, i < x → KC c p i < KC c p k) ∧ (∀ i, x ≤ i → i < k → KC c p k < KC c p i)) s
  | 0, l, r, s, hf, hl, hr, h1, h2 => ⟨rfl, by lia, h1, fun i hi hj => h2 i (by lia) hj⟩
  | f + 1, l, r, s, hf, hl, hr, h1, h2 => by
    unfold kas_place
    by_cases hlr : l ≥ r
    · rw [if_pos hlr]
      exact ⟨rfl, by lia, h1, fun i hi hj => h2 i (by lia) hj⟩
    · rw [if_neg hlr]
      have hmid : (l + r) / 2 < k := by lia
      by_cases h : KC c p k < KC c p ((l + r) / 2)
      · refine askT (hp.getD (by lia)) (hp.getD (by lia)) h ?_
        refine place_ok hp hk hs f l ((l + r) / 2) s (by lia) (by lia) (by lia) h1 fun i hi hj => ?_
        by_cases e : i = (l + r) / 2
        · rw [e]; exact h
        · exact Int.lt_trans h (hs _ _ (by lia) hj)
      · have hne := KC_ne hc hp (i := k) (j := (l + r) / 2) (by lia) (by lia) (by lia)
        have h' : KC c p ((l + r) / 2) < KC c p k := by lia
        refine askF (hp.getD (by lia)) (hp.getD (by lia)) h ?_
        refine place_ok hp hk hs f ((l + r) / 2 + 1) r s (by lia) (by lia) (by lia) (fun i hi => ?_) h2
        by_cases e : i = (l + r) / 2
        · rw [e]; exact h'
        · exact Int.lt_trans (hs i ((l + r) / 2) (by lia) (by lia)) h'
theorem bin_ok : ∀ (f k : Nat) (p : Array Nat) (s : Shared), PermN n p → k + f = n → SdN c p k → (kas_bin f p k).kasWp (cmpS c n) (fun q s' => s' = s ∧ PermN n q ∧ SdN c q n) s
  | 0, k, p, s, hp, hf, hs => ⟨rfl, hp, by rw [← hf]; exact hs⟩
  | f + 1, k, p, s, hp, hf, hs => by
    unfold kas_bin
    rw [KasT.kasWp_bind]
    refine kasP_mono (place_ok hc hp (k := k) (by lia) hs k 0 k s (by lia) (Nat.zero_le _) (Nat.le_refl _) (fun i hi => by lia) (fun i hi hj => by lia)) ?_
    rintro x s' ⟨rfl, hx, h1, h2⟩
    refine bin_ok f (k + 1) _ s' (hp.of (bubble_perm _ _ _)) (by lia) ?_
    have hb : ∀ j, KC c (bubble p k (k - x)) j = if j = x then KC c p k else if x < j ∧ j ≤ k then KC c p (j - 1) else KC c p j := fun j => by
      have := getElem?_bubble (xs := p) (src := k) (by rw [hp.size]; lia) (k - x) (by lia) j
      rw [show k - (k - x) = x by lia] at this
      by_cases e1 : j = x
      · rw [if_pos e1] at this ⊢; exact KC_congr this
      · rw [if_neg e1] at this ⊢
        by_cases e2 : x < j ∧ j ≤ k
        · rw [if_pos e2] at this ⊢; exact KC_congr this
        · rw [if_neg e2] at this ⊢; exact KC_congr this
    intro i j hij hj
    rw [hb i, hb j]
    repeat' split
    all_goals first
      | (exfalso; lia)
      | exact h1 _ (by lia)
      | exact h2 _ (by lia) (by lia)
      | exact hs _ _ (by lia) (by lia)
/-- the sort of n items with different codes: a permutation along which the codes rise -/
theorem sort_ok {s : Shared} (hn : 2 ≤ n) : (kas_sort n).kasWp (cmpS c n) (fun q s' => s' = s ∧ PermN n q ∧ SdN c q n) s := by
  unfold kas_sort
  rw [KasT.kasWp_bind]
  have h0 : PermN n (List.toArray (List.range n)) := List.Perm.refl _
  refine kasP_mono (count_ok hc (s := s) h0 hn) ?_
  rintro ⟨m, p⟩ s' ⟨rfl, hp, b, d, e⟩
  dsimp only at *
  by_cases h : m < n
  · rw [if_pos h, Nat.max_eq_left b]
    exact bin_ok hc (n - m) m p s' hp (by lia) e
  · rw [if_neg h]
    obtain rfl : m = n := by lia
    exact ⟨rfl, hp, e⟩
end
end Mine
end

section
open PySem PySem.SeqAt PySem.Challenge PySem.W PySem.Spec PySem.Calls PyProof.Rows
namespace Mine
section
variable {prog : Program} {w : World} {A : Around} {E : Value → Shared → Prop} {s : Shared} {h₀ : Heap} {L : Addr} {m : Str → Option Value} {news pn : List (Addr × Obj)}
/-- the sort of a list of one item -/
theorem sort_one {a : Addr} {v : Value} {n : Nat} {P : PySem.Fin → Shared → Prop} (F : Fr h₀ L s.heap m) (N : News h₀ L s.heap news) (ho : s.heap.get? a = some (seqObj "list" #[v] n)) (haL : a ≠ L) (ha0 : h₀.get? a = none) (hna : ∀ p ∈ news, p.1 ≠ a)
    (h : ∀ c h', Fr h₀ L h' m → News h₀ L h' ((a, lstO [v] c) :: news) → P (.done (.ret .none)) { s with heap := h' }) :
    wpAny (model prog w) A (Builtin.«list.sort» ⟨[.ref a], []⟩) P E s := by
  have s1 := Heap.SameBut.update s.heap a (Obj.mapSeq fun _ => (#[] : Array Value))
  have ho1 := get?_update_seq ho fun _ => #[]
  have F3 := ((kas_fr F s1 haL ha0).push (seqObj "tuple" #[v] 0)).push (seqObj "list" #[] 0)
  have N3 := (kas_news N s1 hna).grown fun b x e => Heap.get?_push_of_some (seqObj "list" #[] 0) (Heap.get?_push_of_some (seqObj "tuple" #[v] 0) e)
  have ho3 := Heap.get?_push_of_some (seqObj "list" #[] 0) (Heap.get?_push_of_some (seqObj "tuple" #[v] 0) ho1)
  rw [list_sort_plain]
  refine wpAny_bind (listItems_at ho rfl ?_)
  refine wpAny_bind (listUpdate_at ho rfl ?_ (by rw [sizeLine_eq]; simp) (Nat.zero_le _))
  refine wpAny_bind (seqEpoch_at ho1 rfl ?_)
  refine wpAny_bind (wpAny_newTuple ?_ (by rw [sizeLine_eq]; simp))
  refine wpAny_bind (wpAny_newList ?_ (Nat.zero_le _))
  refine wpAny_holding ?_
  show wpAny (model prog w) A _ P E { s with heap := ((s.heap.update a (Obj.mapSeq fun _ => (#[] : Array Value))).push (seqObj "tuple" #[v] 0)).push (seqObj "list" #[] 0) }
  dsimp only
  have h2 : (#[v] : Array Value).size < 2 := by simp
  rw [if_pos h2, if_pos h2]
  refine wpAny_bind (wpAny_pure ?_)
  rw [StateT.run_pure]
  refine wpAny_bind (wpAny_pure ?_)
  have hout : (arrOf (SortSt.mk' general' ((#[v] : Array Value).zip #[v]) #[] 7 none)).map (·.2) = #[v] := by with_unfolding_all rfl
  dsimp only
  rw [hout]
  refine wpAny_bind (seqEpoch_at ho3 rfl ?_)
  refine wpAny_bind (listUpdate_at ho3 rfl ?_ (Nat.zero_le _) (by rw [sizeLine_eq]; simp))
  simp only [bne_self_eq_false, Bool.false_eq_true, if_false]
  have s2 := Heap.SameBut.update (((s.heap.update a (Obj.mapSeq fun _ => (#[] : Array Value))).push (seqObj "tuple" #[v] 0)).push (seqObj "list" #[] 0)) a (Obj.mapSeq fun _ => #[v])
  obtain ⟨c4, ho4⟩ : ∃ c, (((((s.heap.update a (Obj.mapSeq fun _ => (#[] : Array Value))).push (seqObj "tuple" #[v] 0)).push (seqObj "list" #[] 0)).update a (Obj.mapSeq fun _ => #[v])).get? a = some (seqObj "list" #[v] c)) := ⟨_, get?_update_seq ho3 fun _ => #[v]⟩
  refine wpAny_pure (h c4 _ (kas_fr F3 s2 haL ha0) fun p hp => ?_)
  rcases List.mem_cons.mp hp with rfl | hp
  · exact ⟨ho4, haL, ha0⟩
  · exact kas_news N3 s2 hna p hp
theorem sorted_one {l : Addr} {v : Value} {Q : Value → Shared → Prop} (F : Fr h₀ L s.heap m) (N : News h₀ L s.heap news) (hl : s.heap.IsList l #[v])
    (h : ∀ D c h', Fr h₀ L h' m → News h₀ L h' ((D, lstO [v] c) :: news) → (∀ q ∈ news, q.1 < D) → Q (.ref D) { s with heap := h' }) :
    wpAny (model prog w) A (call (.builtin "sorted") [.ref l]) Q E s := by
  refine Calls.call_function_entry kind_sorted plain_sorted entry_sorted (args_sorted1 _) ?_
  unfold Builtin.«sorted»
  refine wpAny_bind (m := checkCount "sorted" 1 1 _) (wpAny_pure ?_)
  refine wpAny_bind (collect_list (vs := [v]) hl ?_ (by rw [sizeLine_eq]; simp))
  refine wpAny_bind (wpAny_newList ?_ (by rw [sizeLine_eq]; simp))
  have hsz : ((s.heap.push (seqObj "list" #[] 0)).update s.heap.objs.size (Obj.mapSeq (· ++ [v].toArray))).objs.size = s.heap.objs.size + 1 := by
    rw [Heap.size_update, size_push']
  have hoL : (((s.heap.push (seqObj "list" #[] 0)).update s.heap.objs.size (Obj.mapSeq (· ++ [v].toArray))).push (seqObj "list" #[v] 0)).get? (s.heap.objs.size + 1) = some (seqObj "list" #[v] 0) := by
    rw [← hsz]; exact Heap.get?_push_size _ rfl
  have keep : ∀ b o, s.heap.get? b = some o → (((s.heap.push (seqObj "list" #[] 0)).update s.heap.objs.size (Obj.mapSeq (· ++ [v].toArray))).push (seqObj "list" #[v] 0)).get? b = some o := fun b o q => by
    have hlt : b < s.heap.objs.size := Heap.lt_size q
    rw [Heap.get?_push_ne _ _ _ (by rw [hsz]; exact Nat.ne_of_lt (Nat.lt_succ_of_lt hlt)), Heap.get?_update_ne _ _ _ _ (Nat.ne_of_lt hlt), Heap.get?_push_ne _ _ _ (Nat.ne_of_lt hlt)]
    exact q
  have hL : L < s.heap.objs.size := F.ns.lt
  show wpAny _ _ _ _ _ { s with heap := ((s.heap.push (seqObj "list" #[] 0)).update s.heap.objs.size (Obj.mapSeq (· ++ [v].toArray))).push (seqObj "list" #[v] 0) }
  rw [hsz]
  refine wpAny_bind (wpAny_holding (wpAny_call_entry slot_list_sort ⟨_, hoL, rfl⟩ entry_list_sort ?body (args_list_sort _)))
  case body =>
    exact sort_one (s := { s with heap := ((s.heap.push (seqObj "list" #[] 0)).update s.heap.objs.size (Obj.mapSeq (· ++ [v].toArray))).push (seqObj "list" #[v] 0) })
      (F.kept keep) (N.grown keep) hoL (Nat.ne_of_gt (Nat.lt_succ_of_lt hL)) (Heap.get?_none_of_le (Nat.le_trans F.above (Nat.le_succ_of_le (Nat.le_of_lt hL))))
      (fun p hp => Nat.ne_of_lt (Nat.lt_succ_of_lt (Heap.lt_size (N p hp).1))) fun c h' F' N' => ⟨_, rfl, wpAny_pure ⟨_, rfl, h _ c h' F' N' fun q hq => Nat.lt_succ_of_lt (Heap.lt_size (N q hq).1)⟩⟩
/-- one number for a point -/
noncomputable def codeP (p : Pt) : Int := p.1 * 17 + p.2
theorem codeP_lt {p q : Pt} (hp : Small p) (hq : Small q) : decide (codeP p < codeP q) = ltP p q := by
  obtain ⟨a, b⟩ := p
  obtain ⟨c, d⟩ := q
  obtain ⟨h1, h2, h3, h4⟩ := hp
  obtain ⟨h5, h6, h7, h8⟩ := hq
  dsimp only at *
  rw [Bool.eq_iff_iff]
  rw [decide_eq_true_eq]
  simp only [codeP, ltP, Bool.or_eq_true, Bool.and_eq_true, decide_eq_true_eq, beq_iff_eq]
  constructor
  · intro h
    lia
  · rintro (h | ⟨h, h'⟩) <;> lia
theorem codeP_inj {p q : Pt} (hp : Small p) (hq : Small q) (h : codeP p = codeP q) : p = q := by
  obtain ⟨a, b⟩ := p
  obtain ⟨c, d⟩ := q
  obtain ⟨h1, h2, h3, h4⟩ := hp
  obtain ⟨h5, h6, h7, h8⟩ := hq
  dsimp only at *
  unfold codeP at h
  dsimp only at h
  rw [Prod.mk.injEq]
  lia
/-- the sort's question at two points -/
theorem keyLt_pts {va vb : Value} {p q : Pt} {C : Bool → Shared → Prop} (N : News h₀ L s.heap news) (hs : ∀ x ∈ pn, x ∈ news) (ha : PtIn pn va p) (hb : PtIn pn vb q) (h : C (ltP p q) s) :
    wpAny (model prog w) A (keyLt' (tuples' true) va vb) C E s := by
  obtain ⟨x1, y1⟩ := p
  obtain ⟨x2, y2⟩ := q
  obtain ⟨a, t1, t2, n1, rfl, m1, _⟩ := ha
  obtain ⟨b, t3, t4, n2, rfl, m2, _⟩ := hb
  refine kat_lt (N _ (hs _ m1)).1 rfl (N _ (hs _ m2)).1 rfl ?_
  show KatLex prog w A true (decide (2 < 2)) C [(Value.int x1 t1, Value.int x2 t3), (Value.int y1 t2, Value.int y2 t4)] 0 s
  refine kat_cons (wpAny_eqBool_int ?_)
  unfold ltP at h
  dsimp only at h ⊢
  by_cases hx : x1 = x2
  · subst hx
    simp only [Int.lt_irrefl, decide_false, Bool.false_or, beq_self_eq_true, Bool.true_and] at h
    rw [beq_self_eq_true]
    refine kat_yes (kat_cons (wpAny_eqBool_int ?_))
    by_cases hy : y1 = y2
    · subst hy
      simp only [Int.lt_irrefl, decide_false] at h
      rw [beq_self_eq_true]
      exact kat_yes (kat_nil h)
    · rw [beq_eq_false_iff_ne.mpr hy]
      refine kat_no ?_
      show wpAny _ _ (oneLt' false _ _) _ _ _
      exact kat_one _ _ (PyProof.Rows.lt_int h)
  · rw [beq_eq_false_iff_ne.mpr hx] at h ⊢
    simp only [Bool.false_and, Bool.or_false] at h
    refine kat_no ?_
    show wpAny _ _ (oneLt' true _ _) _ _ _
    exact oneLt_int h
theorem kasP_to {c : Nat → Int} {n : Nat} {α : Type} {t : KasT α} {κ : SortKind} {vs : List Value} {Q : α → Shared → Prop}
    (ha : ∀ i j (C : Bool → Shared → Prop), i < n → j < n → C (decide (c i < c j)) s → kas_ask prog w A κ vs i j C s) (h : t.kasWp (cmpS c n) Q s) : t.kasWp (kas_ask prog w A κ vs) Q s := by
  induction t with
  | ret a => exact h
  | ask i j k ih => exact ha i j _ h.1 h.2.1 (ih _ h.2.2)
theorem PtsIn.katTups {h : Heap} {vs : List Value} {ps : List Pt} (hp : PtsIn pn vs ps) (hg : ∀ x ∈ pn, h.get? x.1 = some x.2) : ∃ fs : List Value, KatTups h vs fs ∧ fs.length = vs.length ∧ ∀ v ∈ fs, ∃ i t, v = .int i t := by
  induction hp with
  | nil => exact ⟨[], trivial, rfl, fun _ h => nomatch h⟩
  | @cons v p vs ps hv _ ih =>
    obtain ⟨fs, h1, h2, h3⟩ := ih
    obtain ⟨a, t1, t2, n, rfl, hm, _⟩ := hv
    exact ⟨.int p.1 t1 :: fs, KatTups.cons (hg _ hm) rfl rfl rfl h1, by simp [h2], fun v hv => by
      rcases List.mem_cons.mp hv with rfl | hv
      · exact ⟨_, _, rfl⟩
      · exact h3 v hv⟩
theorem PtsIn.getDs {vs : List Value} {ps : List Pt} (hp : PtsIn pn vs ps) {i : Nat} (hi : i < ps.length) : PtIn pn (vs.getD i .none) (ps.getD i (0, 0)) := by
  obtain ⟨v, hv, h⟩ := hp.get i _ (List.getElem?_eq_getElem hi)
  rw [List.getD_eq_getElem?_getD, List.getD_eq_getElem?_getD, hv, List.getElem?_eq_getElem hi]
  exact h
theorem PtsIn.pick {vs : List Value} {ps : List Pt} (hp : PtsIn pn vs ps) : ∀ l : List Nat, (∀ i ∈ l, i < ps.length) → PtsIn pn (l.map fun i => vs.getD i .none) (l.map fun i => ps.getD i (0, 0))
  | [], _ => .nil
  | i :: l, h => .cons (hp.getDs (h i (.head _))) (PtsIn.pick hp l fun j hj => h j (.tail _ hj))
theorem PtIn.small {v : Value} {p : Pt} (h : PtIn pn v p) : Small p := by
  obtain ⟨_, _, _, _, _, _, h⟩ := h
  exact h
/-- sorted, of a list of points of which no two are the same -/
theorem sorted_pts {l : Addr} {vs : List Value} {ps : List Pt} {n : Nat} {Q : Value → Shared → Prop} (F : Fr h₀ L s.heap m) (N : News h₀ L s.heap news) (hl : (l, lstO vs n) ∈ news) (hs : ∀ x ∈ pn, x ∈ news) (hp : PtsIn pn vs ps) (hnd : ps.Nodup) (h0 : 0 < ps.length) (h64 : ps.length < 64)
    (h : ∀ D us c h' qs, PtsIn pn us qs → qs.Perm ps → qs.Pairwise (fun p q => ltP p q = true) → Fr h₀ L h' m → News h₀ L h' ((D, lstO us c) :: news) → (∀ q ∈ news, q.1 < D) → Q (.ref D) { s with heap := h' }) :
    wpAny (model prog w) A (call (.builtin "sorted") [.ref l]) Q E s := by
  have hlen := hp.length
  by_cases h1 : ps.length = 1
  · obtain ⟨p, rfl⟩ := List.length_eq_one_iff.mp h1
    obtain ⟨v, rfl⟩ := List.length_eq_one_iff.mp (hlen.trans h1)
    exact sorted_one F N (isList_lst N hl) fun D c h' F' N' l1 => h D [v] c h' [p] hp (List.Perm.refl _) (by simp) F' N' l1
  · refine kat_sorted F N (isList_lst N hl) (by lia) (by lia) fun D e1 h' F' N' l1 => ?_
    obtain ⟨fs, t1, t2, t3⟩ := hp.katTups fun x hx => (N' _ (.tail _ (hs x hx))).1
    refine kat_kind (T := .type "int") t1 (by lia) (fun v hv => ?_) (by decide) ?_
    · obtain ⟨i, t, rfl⟩ := t3 v hv
      exact Looks.of_pure rfl
    have hT : ((Value.type "int") != Value.type "tuple") = true := by decide
    rw [hT]
    have hsm : ∀ i, i < ps.length → Small (ps.getD i (0, 0)) := fun i hi => (hp.getDs hi).small
    have hinj : ∀ i j, i < vs.length → j < vs.length → codeP (ps.getD i (0, 0)) = codeP (ps.getD j (0, 0)) → i = j := fun i j hi hj e => by
      have hi' : i < ps.length := by lia
      have hj' : j < ps.length := by lia
      have := codeP_inj (hsm i hi') (hsm j hj') e
      rw [List.getD_eq_getElem?_getD, List.getD_eq_getElem?_getD, List.getElem?_eq_getElem hi', List.getElem?_eq_getElem hj'] at this
      exact (List.getElem_inj hnd).mp this
    refine kasP_to (c := fun i => codeP (ps.getD i (0, 0))) (n := vs.length) (fun i j C hi hj hC => ?_) ?_
    · unfold kas_ask
      rw [codeP_lt (hsm i (by lia)) (hsm j (by lia))] at hC
      exact keyLt_pts N' (fun x hx => .tail _ (hs x hx)) (hp.getDs (by lia)) (hp.getDs (by lia)) hC
    · refine kasP_mono (sort_ok hinj (by lia)) ?_
      rintro p s' ⟨rfl, hpm, hsd⟩
      have hlt : ∀ i ∈ p.toList, i < ps.length := fun i hi => by
        have := List.mem_range.mp (hpm.mem_iff.mp hi)
        lia
      refine KasFin.intro F' N' (UpdF.head fun q hq => Nat.ne_of_lt (l1 q hq)) fun h2 c2 F2 N2 => h D _ c2 h2 _ (hp.pick _ hlt) ?_ ?_ F2 N2 l1
      · have e : (List.range vs.length).map (fun i => ps.getD i (0, 0)) = ps := by
          apply List.ext_getElem
          · simp [hlen]
          · intro i h1 h2
            simp [h2]
        have := hpm.map fun i => ps.getD i (0, 0)
        rw [e] at this
        exact this
      · rw [List.pairwise_map, List.pairwise_iff_getElem]
        intro i j hi hj hij
        have hz := hpm.size
        have hj' : j < vs.length := by rw [Array.length_toList] at hj; lia
        have := hsd i j hij hj'
        unfold KC at this
        have hi2 : i < p.size := by lia
        have hj2 : j < p.size := by lia
        have e1 : p.getD i 0 = p.toList[i] := by simp [Array.getD, hi2]
        have e2 : p.getD j 0 = p.toList[j] := by simp [Array.getD, hj2]
        rw [e1, e2] at this
        rw [← codeP_lt (hsm _ (hlt _ (List.getElem_mem _))) (hsm _ (hlt _ (List.getElem_mem _)))]
        exact decide_eq_true this
end
/-- two rising lists with the same points are the same -/
theorem sorted_uniq {a b : List Pt} (h : ∀ p, p ∈ a ↔ p ∈ b) (ha : a.Pairwise fun p q => ltP p q = true) (hb : b.Pairwise fun p q => ltP p q = true) (na : a.Nodup) (nb : b.Nodup) : a = b := by
  have hp : a.Perm b := (List.perm_ext_iff_of_nodup na nb).mpr h
  refine hp.eq_of_pairwise (fun x y _ _ h1 h2 => ?_) ha hb
  have := ltP_trans h1 h2
  obtain ⟨x1, x2⟩ := x
  simp [ltP] at this
end Mine
end

section
open PySem PySem.SeqAt PySem.Challenge PySem.W PySem.Spec PySem.Calls PyProof.Rows
namespace Mine
section
variable {prog : Program} {w : World} {A : Around} {E : Value → Shared → Prop} {R : Result → Shared → Prop} {s : Shared}
noncomputable abbrev NB (prog : Program) (w : World) (A : Around) (env : Env) (R : Result → Shared → Prop) : Value → Shared → Prop := notedBy (model prog w) A env fun e s' => R (.error e) s'
noncomputable abbrev testsOf (ifs : List PySem.Expr) (env : Env) : Sem Bool := forIn ifs true fun c r => if r = true then do let ok ← isTrue c env (eval c env); pure (ForInStep.yield ok) else pure (ForInStep.yield r)
/-- one level of a comprehension with several clauses -/
theorem codeAny_level {elt iter : PySem.Expr} {gens : List Comprehension} {scope : Scope} {pos px : Pos} {d : Nat} {it acc : Value} {env : Env} {x : Str} {ifs : List PySem.Expr} {tail : Sem PySem.Fin} (I : Nat → Shared → Prop)
    (heq : compTurn (.ListComp elt gens scope pos) d it acc env = (do
      standAt iter.pos
      match ← pyNext it with
      | none => pure (.done .next)
      | some v =>
        letOwnedTupleGo (.Name x px) it v
        assign (.Name x px) env v
        let mut ok := true
        for c in ifs do
          if ok then ok ← isTrue c env (eval c env)
        if ok then tail
        else again (.compLoop (.ListComp elt gens scope pos) d it acc env)))
    (turn : ∀ n s, I n s → wpAny (model prog w) A (pyNext it) (fun r s₁ => match r with
      | none => R (.ok .next) s₁
      | some v => wpAny (model prog w) A (assign (.Name x px) env v) (fun _ s₂ => wpAny (model prog w) A (testsOf ifs env) (fun ok s₃ =>
          if ok = true then wpAny (model prog w) A tail (fun f s₄ => f = .again (.compLoop (.ListComp elt gens scope pos) d it acc env) ∧ ∃ m, m < n ∧ I m s₄) (NB prog w A env R) s₃ else ∃ m, m < n ∧ I m s₃) (NB prog w A env R) s₂) (NB prog w A env R) s₁) (NB prog w A env R) s)
    (n : Nat) (h : I n s) : codeAny (model prog w) A (.compLoop (.ListComp elt gens scope pos) d it acc env) R s := by
  refine codeAny_loop rfl I (fun n s hI => ?_) n h
  show wpAny _ A ((compTurn (.ListComp elt gens scope pos) d it acc env).onRaise (fun x => do noteFrame x env; theTreesLotGoes x)) _ _ s
  refine wpAny_noted ?_
  rw [heq]
  refine wpAny_bind (wpAny_standAt (wpAny_bind (wpAny_mono (turn n s hI) (fun r s₁ h₁ => ?_) fun _ _ h' => h')))
  cases r with
  | none => exact wpAny_pure h₁
  | some v =>
    refine wpAny_bind (wpAny_pure ?_)
    refine wpAny_bind (wpAny_mono h₁ (fun _ s₂ h₂ => wpAny_bind (wpAny_mono h₂ (fun ok s₃ h₃ => ?_) fun _ _ h' => h')) fun _ _ h' => h')
    cases ok with
    | false => exact wpAny_pure ⟨rfl, h₃⟩
    | true => exact wpAny_mono h₃ (fun f s₄ h₄ => by obtain ⟨rfl, h₄⟩ := h₄; exact ⟨rfl, h₄⟩) fun _ _ h' => h'
/-- the start of a level -/
theorem codeAny_startAt {elt : PySem.Expr} {gens : List Comprehension} {scope : Scope} {pos : Pos} {d : Nat} {it acc : Value} {env : Env} {t iter : PySem.Expr} {ifs : List PySem.Expr} (hg : gens[d]? = some ⟨t, iter, ifs, 0⟩)
    (h0 : codeAny (model prog w) A (.compLoop (.ListComp elt gens scope pos) d it acc env) R s)
    (h : wpAny (model prog w) A (pyIter it) (fun it' s' => codeAny (model prog w) A (.compLoop (.ListComp elt gens scope pos) d it' acc env) R s') (NB prog w A env R) s) :
    codeAny (model prog w) A (.compStart (.ListComp elt gens scope pos) d it acc env) R s := by
  refine codeAny_of_tree ?_
  show wpAny _ _ ((compStart (.ListComp elt gens scope pos) d it acc env).onRaise (fun x => do noteFrame x env; standAt theWindowsPlace)) _ _ s
  refine wpAny_notedAt ?_
  unfold compStart
  show wpAny _ _ (if ((gens[d]?).elim false (·.is_async != 0)) = true then _ else _) _ _ s
  rw [hg]
  show wpAny _ _ (ask >>= _) _ _ s
  refine wpAny_bind (wpAny_askSetting (wpAny_ite ?_))
  split
  · first
      | exact wpAny_bind (wpAny_pure (wpAny_pure (And.intro rfl h0)))
      | exact wpAny_pure (And.intro rfl h0)
  · refine wpAny_bind (wpAny_rule ?_)
    have hg' : (clausesOf (PySem.Expr.ListComp elt gens scope pos))[d]? = some ⟨t, iter, ifs, 0⟩ := hg
    rw [hg']
    exact wpAny_bind (wpAny_standAt (wpAny_bind (wpAny_mono h (fun it' s' h' => wpAny_pure (And.intro rfl h')) fun _ _ x => x)))
end
section
variable {prog : Program} {w : World} {A : Around} {E : Value → Shared → Prop} {s : Shared} {h₀ : Heap} {L : Addr} {m : Str → Option Value} {env : Env}
open LCg
/-- the end of a level's turn -/
noncomputable def NextL (h₀ : Heap) (L : Addr) (m : Str → Option Value) (s : Shared) (I : Addr) (oI : Obj) (C D : Addr) (led : List (Addr × Obj)) (J : (Str → Option Value) → List Value → Prop) (s₄ : Shared) : Prop :=
  ∃ h' tk' m' ys' oC', s₄ = { s with heap := h', toks := tk' } ∧ Fr h₀ L h' m ∧ News h₀ L h' ((I, oI) :: (C, oC') :: (D, lst ys') :: led) ∧ NsObj oC' m' ∧ J m' ys'
/-- one level, over a list of the ledger -/
theorem level_lst {elt iter : PySem.Expr} {gens : List Comprehension} {scope : Scope} {cl : List (Str × Addr)} {pos px : Pos} {d : Nat} {x : Str} {ifs : List PySem.Expr} {tail : Sem PySem.Fin} {l C D I : Addr} {vs : List Value} {n : Nat} {led : List (Addr × Obj)} {R : Result → Shared → Prop}
    (J : Nat → (Str → Option Value) → List Value → Prop)
    (heq : compTurn (.ListComp elt gens scope pos) d (.ref I) (.ref D) (compEnvC scope cl C env) = (do
      standAt iter.pos
      match ← pyNext (.ref I) with
      | none => pure (.done .next)
      | some v =>
        letOwnedTupleGo (.Name x px) (.ref I) v
        assign (.Name x px) (compEnvC scope cl C env) v
        let mut ok := true
        for c in ifs do
          if ok then ok ← isTrue c (compEnvC scope cl C env) (eval c (compEnvC scope cl C env))
        if ok then tail
        else again (.compLoop (.ListComp elt gens scope pos) d (.ref I) (.ref D) (compEnvC scope cl C env))))
    (hh : A.handled = none) (hkind : scope.kind = .function) (hx : scope.names.lookup x = some .local) (hl : (l, lstO vs n) ∈ led)
    (hIC : I ≠ C) (hID : I ≠ D) (hCD : C ≠ D) (offI : ∀ p ∈ led, p.1 ≠ I) (offC : ∀ p ∈ led, p.1 ≠ C) (hIL : I ≠ L) (hI₀ : h₀.get? I = none)
    (turn : ∀ i v m₂ oI oC h tk ys (E' : Value → Shared → Prop), vs[i]? = some v → J i m₂ ys → NsObj oC (fun z => if z = x then some v else m₂ z) → Fr h₀ L h m → News h₀ L h ((I, oI) :: (C, oC) :: (D, lst ys) :: led) →
      wpAny (model prog w) A (testsOf ifs (compEnvC scope cl C env)) (fun ok s₃ => if ok = true then wpAny (model prog w) A tail (fun f s₄ => f = .again (.compLoop (.ListComp elt gens scope pos) d (.ref I) (.ref D) (compEnvC scope cl C env)) ∧ NextL h₀ L m s I oI C D led (J (i + 1)) s₄) E' s₃ else NextL h₀ L m s I oI C D led (J (i + 1)) s₃) E' { s with heap := h, toks := tk })
    (done : ∀ m₂ oC h tk ys, J vs.length m₂ ys → NsObj oC m₂ → Fr h₀ L h m → News h₀ L h ((C, oC) :: (D, lst ys) :: led) → R (.ok .next) { s with heap := h, toks := tk })
    {s₀ : Shared} (s0 : ∃ h tk m₂ ys oC, s₀ = { s with heap := h, toks := tk } ∧ Fr h₀ L h m ∧ News h₀ L h ((C, oC) :: (D, lst ys) :: led) ∧ NsObj oC m₂ ∧ h.IsListIter I l 0 ∧ J 0 m₂ ys) :
    codeAny (model prog w) A (.compLoop (.ListComp elt gens scope pos) d (.ref I) (.ref D) (compEnvC scope cl C env)) R s₀ := by
  have hlI : l ≠ I := offI _ hl
  have W := Walks.list (prog := prog) (w := w) hh I l hlI vs.toArray
  have hlen : vs.toArray.size = vs.length := by simp
  rw [hlen] at W
  refine codeAny_level (fun k s' => ∃ h tk i m₂ ys oC, s' = { s with heap := h, toks := tk } ∧ i ≤ vs.length ∧ k = vs.length + 1 - i ∧ Fr h₀ L h m ∧ News h₀ L h ((C, oC) :: (D, lst ys) :: led) ∧ NsObj oC m₂ ∧ h.IsListIter I l i ∧ J i m₂ ys) heq ?_ (vs.length + 1) ?_
  · rintro k s' ⟨h, tk, i, m₂, ys, oC, rfl, hi, rfl, F, N, hC, hit, hj⟩
    have hls : h.IsList l vs.toArray := ⟨_, (N _ (.tail _ (.tail _ hl))).1, rfl, n, rfl⟩
    have offAll : ∀ p ∈ (C, oC) :: (D, lst ys) :: led, p.1 ≠ I := fun p hp => by
      rcases List.mem_cons.mp hp with rfl | hp
      · exact hIC.symm
      rcases List.mem_cons.mp hp with rfl | hp
      · exact hID.symm
      · exact offI p hp
    by_cases hlt : i < vs.length
    · refine W.item i _ _ _ hlt ⟨hit, hls⟩ fun v h₂ tk₂ hPv hst₂ hk₂ => ?_
      have F₂ := fr_but F hk₂ hIL.symm hI₀
      have N₂ := news_but N hk₂ offAll
      have hn₂ := hC.ns (N₂ _ (.head _)).1
      have zC := N₂ _ (.head _)
      refine wpAny_assign_Name (wpAny_storeName_local (lookup_relabel_local hx) hn₂ (fun h₃ hn₃ hs₃ => ?_) (by simp [compEnvC, relabel, hkind]))
      obtain ⟨oC', heC, hoC⟩ := ns_obj hn₃
      obtain ⟨⟨oI, heI, hoI1, hoI2⟩, _⟩ := hst₂
      have F₃ := F₂.change hs₃ zC.2.1 zC.2.2
      have N₃ : News h₀ L h₃ ((I, oI) :: (C, oC') :: (D, lst ys) :: led) := fun p hp => by
        rcases List.mem_cons.mp hp with rfl | hp
        · exact ⟨hs₃.extBut _ _ hIC heI, hIL, hI₀⟩
        rcases List.mem_cons.mp hp with rfl | hp
        · exact ⟨heC, zC.2⟩
        rcases List.mem_cons.mp hp with rfl | hp
        · have z := N₂ _ (.tail _ (.head _))
          exact ⟨hs₃.extBut _ _ hCD.symm z.1, z.2⟩
        · have z := N₂ _ (.tail _ (.tail _ hp))
          exact ⟨hs₃.extBut _ _ (offC p hp) z.1, z.2⟩
      have hv : vs[i]? = some v := by simpa using hPv
      have fin : ∀ s₄, NextL h₀ L m s I oI C D led (J (i + 1)) s₄ → ∃ k, k < vs.length + 1 - i ∧ ∃ h tk i m₂ ys oC, s₄ = { s with heap := h, toks := tk } ∧ i ≤ vs.length ∧ k = vs.length + 1 - i ∧ Fr h₀ L h m ∧ News h₀ L h ((C, oC) :: (D, lst ys) :: led) ∧ NsObj oC m₂ ∧ h.IsListIter I l i ∧ J i m₂ ys := by
        rintro s₄ ⟨h', tk', m', ys', oC'', rfl, F', N', hC', hj'⟩
        exact ⟨vs.length + 1 - (i + 1), by omega, h', tk', i + 1, m', ys', oC'', rfl, hlt, rfl, F', fun p hp => N' p (.tail _ hp), hC', ⟨oI, (N' _ (.head _)).1, hoI1, hoI2⟩, hj'⟩
      refine wpAny_mono (turn i v m₂ oI oC' h₃ _ ys _ hv hj hoC F₃ N₃) (fun ok s₃ h3 => ?_) fun _ _ e => e
      cases ok with
      | true =>
        simp only [if_true] at h3 ⊢
        exact wpAny_mono h3 (fun _ s₄ h4 => ⟨h4.1, fin s₄ h4.2⟩) fun _ _ e => e
      | false =>
        simp only [Bool.false_eq_true, if_false] at h3 ⊢
        exact fin s₃ h3
    · obtain rfl : i = vs.length := Nat.le_antisymm hi (Nat.not_lt.mp hlt)
      refine W.done _ _ _ ⟨hit, hls⟩ fun h₂ tk₂ hk₂ => ?_
      exact done m₂ oC h₂ tk₂ ys hj hC (fr_but F hk₂ hIL.symm hI₀) (news_but N hk₂ offAll)
  · obtain ⟨h, tk, m₂, ys, oC, rfl, F, N, hC, hit, hj⟩ := s0
    exact ⟨h, tk, 0, m₂, ys, oC, rfl, Nat.zero_le _, rfl, F, N, hC, hit, hj⟩
end
end Mine
end

section
open PySem PySem.SeqAt PySem.Challenge PySem.W PySem.Spec PySem.Calls PyProof.Rows
namespace Mine
section
variable {prog : Program} {w : World} {A : Around} {E : Value → Shared → Prop} {s : Shared} {h₀ : Heap} {L : Addr} {m : Str → Option Value} {env : Env}
open LCg
/-- what a level does with an item when another level stands below -/
noncomputable def emitTo (e i2 : PySem.Expr) (d : Nat) (acc : Value) (env : Env) (k : Sem PySem.Fin) : Sem PySem.Fin := do
  let x ← eval i2 env
  standAt i2.pos
  let x ← foldedSetIterable i2 env x
  let _ ← runOwn (.compStart e d (← holding [x] (pyIter x)) acc env) env
  k
/-- a level is entered -/
theorem enter_level {elt i2 t : PySem.Expr} {gens : List Comprehension} {scope : Scope} {cl : List (Str × Addr)} {pos : Pos} {d : Nat} {ifs : List PySem.Expr} {l C D : Addr} {vs : List Value} {n : Nat} {led : List (Addr × Obj)} {h : Heap} {tk : Nat} {ys : List Value} {oC : Obj} {k : Sem PySem.Fin} {Q : PySem.Fin → Shared → Prop}
    (hg : gens[d]? = some ⟨t, i2, ifs, 0⟩) (hl : (l, lstO vs n) ∈ led) (hs2 : ∀ v, foldedSetIterable i2 (compEnvC scope cl C env) v = pure v)
    (src : ∀ E' : Value → Shared → Prop, wpAny (model prog w) A (eval i2 (compEnvC scope cl C env)) (fun v s' => v = .ref l ∧ s' = { s with heap := h, toks := tk }) E' { s with heap := h, toks := tk })
    (F : Fr h₀ L h m) (N : News h₀ L h ((C, oC) :: (D, lst ys) :: led))
    (loop : ∀ I h' (R : Result → Shared → Prop), I ≠ L → h₀.get? I = none → (∀ p ∈ (C, oC) :: (D, lst ys) :: led, p.1 ≠ I) → Fr h₀ L h' m → News h₀ L h' ((C, oC) :: (D, lst ys) :: led) → h'.IsListIter I l 0 → (∀ s', wpAny (model prog w) A k Q E s' → R (.ok .next) s') →
      codeAny (model prog w) A (.compLoop (.ListComp elt gens scope pos) d (.ref I) (.ref D) (compEnvC scope cl C env)) R { s with heap := h', toks := tk }) :
    wpAny (model prog w) A (emitTo (.ListComp elt gens scope pos) i2 d (.ref D) (compEnvC scope cl C env) k) Q E { s with heap := h, toks := tk } := by
  unfold emitTo
  refine wpAny_bind (wpAny_mono (src E) ?_ fun _ _ e => e)
  rintro v s' ⟨rfl, rfl⟩
  refine wpAny_bind (wpAny_standAt (wpAny_bind (wpAny_of_eq (hs2 _) (wpAny_bind (wpAny_holding ?_)))))
  have hls : h.IsList l vs.toArray := ⟨_, (N _ (.tail _ (.tail _ hl))).1, rfl, n, rfl⟩
  refine wpAny_pyIter_list hls ?_
  refine wpAny_bind (wpAny_runOwn (show codeAny (model prog w) A _ _ _ from ?_))
  have up : ∀ b o, h.get? b = some o → (h.push { cls := .type "list_iterator", data := .fields #[.ref l, .int 0 0] }).get? b = some o := fun b o e => Heap.get?_push_of_some _ e
  have hit : (h.push { cls := .type "list_iterator", data := .fields #[.ref l, .int 0 0] }).IsListIter h.objs.size l 0 := ⟨_, Heap.get?_push_size _ rfl, rfl, rfl⟩
  have lp := fun R hR => loop h.objs.size _ R (Nat.ne_of_gt F.ns.lt) (next_is_new F) (fun p hp => Nat.ne_of_lt (Heap.lt_size (N p hp).1)) (F.keeps up) (N.grown up) hit hR
  refine codeAny_startAt hg (lp _ fun s' hq => ?_) (wpAny_pyIter_listiter hit (lp _ fun s' hq => ?_))
  · exact hq
  · exact hq
/-- what the item of a turn leaves -/
noncomputable def EltOk (s₃ : Shared) (P : List Value → Prop) (ys : List Value) (y : Value) (s₄ : Shared) : Prop := (∃ tk, s₄ = { s₃ with toks := tk }) ∧ P (ys ++ [y])
/-- what the test of a turn leaves -/
noncomputable def TurnOk (prog : Program) (w : World) (A : Around) (h₀ : Heap) (L : Addr) (m : Str → Option Value) (s : Shared) (led : List (Addr × Obj)) (elt : PySem.Expr) (cenv : Env) (P : List Value → Prop) (ys : List Value) (ok : Bool) (s₃ : Shared) : Prop :=
  (∃ h' tk', s₃ = { s with heap := h', toks := tk' } ∧ Fr h₀ L h' m ∧ News h₀ L h' led) ∧ if ok = true then ∀ E' : Value → Shared → Prop, wpAny (model prog w) A (eval elt cenv) (EltOk s₃ P ys) E' s₃ else P ys
/-- a list comprehension with three clauses over one list of the ledger, a test in the last -/
theorem nest3 {elt ct i1 i2 i3 : PySem.Expr} {x1 x2 x3 : Str} {p1 p2 p3 : Pos} {scope : Scope} {cl : List (Str × Addr)} {pos : Pos} {l : Addr} {vs : List Value} {n : Nat} {news : List (Addr × Obj)} {Q : Value → Shared → Prop}
    (P : Nat → Nat → Nat → List Value → Prop) (_F : Fr h₀ L s.heap m)
    (hh : A.handled = none) (hclos : closureFor scope env = pure cl) (hcell : ∀ y ∈ scope.names, y.2 ≠ .cell) (hkind : scope.kind = .function)
    (hnames : ∀ y ∈ scope.names, y.2 = .local → scope.names.lookup y.1 = some .local) (hx1 : scope.names.lookup x1 = some .local) (hx2 : scope.names.lookup x2 = some .local) (hx3 : scope.names.lookup x3 = some .local)
    (h12 : x1 ≠ x2) (h13 : x1 ≠ x3) (h23 : x2 ≠ x3) (hl : (l, lstO vs n) ∈ news)
    (hs1 : ∀ v, foldedSetIterable i1 env v = pure v) (hs2 : ∀ env v, foldedSetIterable i2 env v = pure v) (hs3 : ∀ env v, foldedSetIterable i3 env v = pure v)
    (first : wpAny (model prog w) A (eval i1 env) (fun v s₁ => v = .ref l ∧ ∃ h tk, s₁ = { s with heap := h, toks := tk } ∧ Fr h₀ L h m ∧ News h₀ L h news) E s)
    (src2 : ∀ C oC h tk m₂ led (E' : Value → Shared → Prop), NsObj oC m₂ → Fr h₀ L h m → News h₀ L h ((C, oC) :: led) → (∀ p ∈ news, p ∈ led) → wpAny (model prog w) A (eval i2 (compEnvC scope cl C env)) (fun v s' => v = .ref l ∧ s' = { s with heap := h, toks := tk }) E' { s with heap := h, toks := tk })
    (src3 : ∀ C oC h tk m₂ led (E' : Value → Shared → Prop), NsObj oC m₂ → Fr h₀ L h m → News h₀ L h ((C, oC) :: led) → (∀ p ∈ news, p ∈ led) → wpAny (model prog w) A (eval i3 (compEnvC scope cl C env)) (fun v s' => v = .ref l ∧ s' = { s with heap := h, toks := tk }) E' { s with heap := h, toks := tk })
    (turn : ∀ i j k v1 v2 v3 C oC h tk m₂ ys q1 q2 q3 q4 (E' : Value → Shared → Prop), vs[i]? = some v1 → vs[j]? = some v2 → vs[k]? = some v3 → P i j k ys → NsObj oC m₂ → m₂ x1 = some v1 → m₂ x2 = some v2 → m₂ x3 = some v3 →
      Fr h₀ L h m → News h₀ L h ((C, oC) :: q1 :: q2 :: q3 :: q4 :: news) →
      wpAny (model prog w) A (isTrue ct (compEnvC scope cl C env) (eval ct (compEnvC scope cl C env))) (TurnOk prog w A h₀ L m s ((C, oC) :: q1 :: q2 :: q3 :: q4 :: news) elt (compEnvC scope cl C env) (P i j (k + 1)) ys) E' { s with heap := h, toks := tk })
    (hP : ∀ i j k ys, P i j k ys → ys.length ≤ sizeLine) (P0 : P 0 0 0 [])
    (P3 : ∀ i j ys, j < vs.length → P i j vs.length ys → P i (j + 1) 0 ys) (P2 : ∀ i ys, i < vs.length → P i vs.length 0 ys → P (i + 1) 0 0 ys)
    (fin : ∀ D h tk ys, P vs.length 0 0 ys → Fr h₀ L h m → News h₀ L h ((D, lst ys) :: news) → (∀ p ∈ news, p.1 ≠ D) → Q (.ref D) { s with heap := h, toks := tk }) :
    wpAny (model prog w) A (eval (.ListComp elt [⟨.Name x1 p1, i1, [], 0⟩, ⟨.Name x2 p2, i2, [], 0⟩, ⟨.Name x3 p3, i3, [ct], 0⟩] scope pos) env) Q E s := by
  rw [eval_ListComp]
  refine wpAny_comprehension_free (use := none) rfl hs1 hclos hkind hnames (wpAny_mono first (fun xv s₁ h₁ => ?_) fun _ _ e => e)
  obtain ⟨rfl, h1, tk1, rfl, F1, N1⟩ := h₁
  have hls : h1.IsList l vs.toArray := ⟨_, (N1 _ hl).1, rfl, n, rfl⟩
  refine wpAny_pyIter_list hls ?_
  have up1 : ∀ b o, h1.get? b = some o → (h1.push { cls := .type "list_iterator", data := .fields #[.ref l, .int 0 0] }).get? b = some o := fun b o e => Heap.get?_push_of_some _ e
  have F2 := F1.keeps up1
  have N2 := N1.grown up1
  have hit : (h1.push { cls := .type "list_iterator", data := .fields #[.ref l, .int 0 0] }).IsListIter h1.objs.size l 0 := ⟨_, Heap.get?_push_size _ rfl, rfl, rfl⟩
  have hI0 := next_is_new F1
  have hIL : h1.objs.size ≠ L := Nat.ne_of_gt F1.ns.lt
  have offI : ∀ p ∈ news, p.1 ≠ h1.objs.size := fun p hp => Nat.ne_of_lt (Heap.lt_size (N1 p hp).1)
  have hIlt : h1.objs.size < (h1.push { cls := .type "list_iterator", data := .fields #[.ref l, .int 0 0] }).objs.size := by rw [Heap.size_push]; exact Nat.lt_succ_self _
  generalize h1.push { cls := .type "list_iterator", data := .fields #[.ref l, .int 0 0] } = h2 at *
  generalize h1.objs.size = I at *
  refine wpAny_newObj_type (wpAny_newFunctionEnv hcell (by intro y hy; simp at hy) (fun h3 hns hsb => ?_) hkind)
  dsimp only at hns hsb ⊢
  have F3 := F2.push { cls := .type "list", dict := none, data := .seq ([] : List Value).toArray }
  have N3 := N2.grown fun b o e => Heap.get?_push_of_some { cls := .type "list", dict := none, data := .seq ([] : List Value).toArray } e
  have hD0 := next_is_new F2
  have hDL : h2.objs.size ≠ L := Nat.ne_of_gt F2.ns.lt
  have hC0 := next_is_new F3
  have hCL := Nat.ne_of_gt F3.ns.lt
  have hDC : h2.objs.size ≠ (h2.push { cls := .type "list", dict := none, data := .seq ([] : List Value).toArray }).objs.size := by rw [Heap.size_push]; exact Nat.ne_of_lt (Nat.lt_succ_self _)
  have hID : I ≠ h2.objs.size := Nat.ne_of_lt hIlt
  have hIC : I ≠ (h2.push { cls := .type "list", dict := none, data := .seq ([] : List Value).toArray }).objs.size := by rw [Heap.size_push]; exact Nat.ne_of_lt (Nat.lt_succ_of_lt hIlt)
  have offD : ∀ p ∈ news, p.1 ≠ h2.objs.size := fun p hp => Nat.ne_of_lt (Heap.lt_size (N2 p hp).1)
  have offC : ∀ p ∈ news, p.1 ≠ (h2.push { cls := .type "list", dict := none, data := .seq ([] : List Value).toArray }).objs.size := fun p hp => Nat.ne_of_lt (Heap.lt_size (N3 p hp).1)
  have hD : (h2.push { cls := .type "list", dict := none, data := .seq ([] : List Value).toArray }).get? h2.objs.size = some (lst []) := Heap.get?_push_size _ rfl
  have hit3 := hit.at (h' := h2.push { cls := .type "list", dict := none, data := .seq ([] : List Value).toArray }) fun o e => Heap.get?_push_of_some _ e
  generalize h2.push { cls := .type "list", dict := none, data := .seq ([] : List Value).toArray } = H2 at *
  have old : ∀ b o, b ≠ H2.objs.size → H2.get? b = some o → h3.get? b = some o := fun b o hb e => hsb.extBut b o hb (Heap.get?_push_of_some _ e)
  generalize hDn : h2.objs.size = D at *
  generalize hCn : H2.objs.size = C at *
  have F4 : Fr h₀ L h3 m := ⟨F3.ns.at' fun o e => old L o hCL.symm e, fun b o e => old b o (fun q => by rw [q, hC0] at e; cases e) (F3.keep b o e), F3.above⟩
  obtain ⟨oC, heC, hoC⟩ := ns_obj hns
  have N4 : News h₀ L h3 ((C, oC) :: (D, lst []) :: news) := fun p hp => by
    rcases List.mem_cons.mp hp with rfl | hp
    · exact ⟨heC, hCL, hC0⟩
    rcases List.mem_cons.mp hp with rfl | hp
    · exact ⟨old _ _ hDC hD, hDL, hD0⟩
    · exact ⟨old _ _ (offC p hp) (N3 p hp).1, (N3 p hp).2⟩
  have hit4 : h3.IsListIter I l 0 := hit3.at fun o e => old I o hIC e
  have lp : ∀ (E1 : Value → Shared → Prop), codeAny (model prog w) A (.compLoop (.ListComp elt [⟨.Name x1 p1, i1, [], 0⟩, ⟨.Name x2 p2, i2, [], 0⟩, ⟨.Name x3 p3, i3, [ct], 0⟩] scope pos) 0 (.ref I) (.ref D) (compEnvC scope cl C env))
      (compPost (model prog w) A E1 none Q (.ref D) C) { s with heap := h3, toks := tk1 } := fun E1 => by
    refine level_lst (led := news) (vs := vs) (fun i _ ys => P i 0 0 ys) (iter := i1) (px := p1) (ifs := []) (tail := emitTo (.ListComp elt [⟨.Name x1 p1, i1, [], 0⟩, ⟨.Name x2 p2, i2, [], 0⟩, ⟨.Name x3 p3, i3, [ct], 0⟩] scope pos) i2 1 (.ref D) (compEnvC scope cl C env) (again (.compLoop (.ListComp elt [⟨.Name x1 p1, i1, [], 0⟩, ⟨.Name x2 p2, i2, [], 0⟩, ⟨.Name x3 p3, i3, [ct], 0⟩] scope pos) 0 (.ref I) (.ref D) (compEnvC scope cl C env)))) rfl hh hkind hx1 hl hIC hID hDC.symm offI offC hIL hI0 ?_ ?_ ⟨h3, tk1, _, [], oC, rfl, F4, N4, hoC, hit4, P0⟩
    · intro i v1 m1 oI oC1 h5 tk5 ys E2 hv1 hj1 hoC1 F5 N5
      refine wpAny_tests_nil ?_
      rw [if_pos rfl]
      have N6 : News h₀ L h5 ((C, oC1) :: (D, lst ys) :: (I, oI) :: news) := newsPick N5 [1, 2, 0] 3
      refine enter_level (ifs := []) (t := .Name x2 p2) rfl (.tail _ hl) (hs2 _) (fun E' => src2 C oC1 h5 tk5 _ _ E' hoC1 F5 N6 fun p hp => .tail _ (.tail _ hp)) F5 N6 ?_
      intro I2 h6 R2 hI2L hI20 offI2 F6 N7 hit6 hR2
      have d2 := offI2 _ (.head _)
      have d3 := offI2 _ (.tail _ (.head _))
      refine level_lst (led := (I, oI) :: news) (vs := vs) (fun j m' ys => m' x1 = some v1 ∧ P i j 0 ys) (iter := i2) (px := p2) (ifs := []) (tail := emitTo (.ListComp elt [⟨.Name x1 p1, i1, [], 0⟩, ⟨.Name x2 p2, i2, [], 0⟩, ⟨.Name x3 p3, i3, [ct], 0⟩] scope pos) i3 2 (.ref D) (compEnvC scope cl C env) (again (.compLoop (.ListComp elt [⟨.Name x1 p1, i1, [], 0⟩, ⟨.Name x2 p2, i2, [], 0⟩, ⟨.Name x3 p3, i3, [ct], 0⟩] scope pos) 1 (.ref I2) (.ref D) (compEnvC scope cl C env)))) rfl hh hkind hx2 (.tail _ hl) d2.symm d3.symm hDC.symm (fun p hp => offI2 p (.tail _ (.tail _ hp)))
        (fun p hp => by
          rcases List.mem_cons.mp hp with rfl | hp
          · exact hIC
          · exact offC p hp) hI2L hI20 ?_ ?_ ⟨h6, tk5, _, ys, oC1, rfl, F6, N7, hoC1, hit6, by simp, hj1⟩
      · rintro j v2 m2 oI2 oC2 h7 tk7 ys2 E3 hv2 ⟨hm1, hj2⟩ hoC2 F7 N8
        refine wpAny_tests_nil ?_
        rw [if_pos rfl]
        have N9 : News h₀ L h7 ((C, oC2) :: (D, lst ys2) :: (I2, oI2) :: (I, oI) :: news) := newsPick N8 [1, 2, 0, 3] 4
        refine enter_level (ifs := [ct]) (t := .Name x3 p3) rfl (.tail _ (.tail _ hl)) (hs3 _) (fun E' => src3 C oC2 h7 tk7 _ _ E' hoC2 F7 N9 fun p hp => .tail _ (.tail _ (.tail _ hp))) F7 N9 ?_
        intro I3 h8 R3 hI3L hI30 offI3 F8 N10 hit8 hR3
        have e2 := offI3 _ (.head _)
        have e3 := offI3 _ (.tail _ (.head _))
        refine level_lst (led := (I2, oI2) :: (I, oI) :: news) (vs := vs) (fun k m' ys => m' x1 = some v1 ∧ m' x2 = some v2 ∧ P i j k ys) (iter := i3) (px := p3) (ifs := [ct]) (tail := do
          let __r ← (do let _ ← call (.builtin "list.append") [.ref D, ← eval elt (compEnvC scope cl C env)])
          again (.compLoop (.ListComp elt [⟨.Name x1 p1, i1, [], 0⟩, ⟨.Name x2 p2, i2, [], 0⟩, ⟨.Name x3 p3, i3, [ct], 0⟩] scope pos) 2 (.ref I3) (.ref D) (compEnvC scope cl C env))) rfl hh hkind hx3 (.tail _ (.tail _ hl)) e2.symm e3.symm hDC.symm (fun p hp => offI3 p (.tail _ (.tail _ hp)))
          (fun p hp => by
            rcases List.mem_cons.mp hp with rfl | hp
            · exact d2.symm
            rcases List.mem_cons.mp hp with rfl | hp
            · exact hIC
            · exact offC p hp) hI3L hI30 ?_ ?_ ⟨h8, tk7, _, ys2, oC2, rfl, F8, N10, hoC2, hit8, by simp [h12, hm1], by simp, hj2⟩
        · rintro k v3 m3 oI3 oC3 h9 tk9 ys3 E4 hv3 ⟨hm2, hm3, hj3⟩ hoC3 F9 N11
          refine wpAny_tests_one ?_
          have N12 : News h₀ L h9 ((C, oC3) :: (I3, oI3) :: (D, lst ys3) :: (I2, oI2) :: (I, oI) :: news) := newsPick N11 [1, 0, 2, 3, 4] 5
          refine wpAny_mono (turn i j k v1 v2 v3 C oC3 h9 tk9 _ ys3 _ _ _ _ E4 hv1 hv2 hv3 hj3 hoC3 (by simp [h13, hm2]) (by simp [h23, hm3]) (by simp) F9 N12) ?_ fun _ _ e => e
          rintro ok s3 ⟨⟨h10, tk10, rfl, F10, N13⟩, hok⟩
          cases ok with
          | true =>
            simp only [if_true] at hok ⊢
            refine wpAny_bind (wpAny_bind (wpAny_mono (hok _) ?_ fun _ _ e => e))
            rintro y' s4 ⟨⟨tk12, rfl⟩, hp⟩
            have zD := N13 _ (.tail _ (.tail _ (.head _)))
            refine wpAny_bind (append_at (hsz := by rw [List.size_toArray]; exact hP _ _ _ _ hj3) zD.1 fun h11 hs11 hD11 => ?_)
            refine wpAny_pure (wpAny_pure ⟨rfl, h11, tk12, _, ys3 ++ [y'], oC3, rfl, F10.change hs11 zD.2.1 zD.2.2, fun p hp => ?_, hoC3, by simp [h13, hm2], by simp [h23, hm3], hp⟩)
            have keep : ∀ p ∈ (C, oC3) :: (I3, oI3) :: (D, lst ys3) :: (I2, oI2) :: (I, oI) :: news, p.1 ≠ D → h11.get? p.1 = some p.2 ∧ p.1 ≠ L ∧ h₀.get? p.1 = none := fun p hp hd => ⟨hs11.extBut _ _ hd (N13 p hp).1, (N13 p hp).2⟩
            rcases List.mem_cons.mp hp with rfl | hp
            · exact keep _ (.tail _ (.head _)) e3.symm
            rcases List.mem_cons.mp hp with rfl | hp
            · exact keep _ (.head _) hDC.symm
            rcases List.mem_cons.mp hp with rfl | hp
            · exact ⟨hD11.trans (congrArg some (lst_snoc ys3 y')), zD.2⟩
            rcases List.mem_cons.mp hp with rfl | hp
            · exact keep _ (.tail _ (.tail _ (.tail _ (.head _)))) d3.symm
            rcases List.mem_cons.mp hp with rfl | hp
            · exact keep _ (.tail _ (.tail _ (.tail _ (.tail _ (.head _))))) hID
            · exact keep _ (.tail _ (.tail _ (.tail _ (.tail _ (.tail _ hp))))) (offD p hp)
          | false =>
            simp only [Bool.false_eq_true, if_false] at hok ⊢
            refine ⟨h10, tk10, _, ys3, oC3, rfl, F10, newsPick N13 [1, 0, 2, 3, 4] 5, hoC3, by simp [h13, hm2], by simp [h23, hm3], hok⟩
        · rintro m3 oC3 h9 tk9 ys3 ⟨hm2, hm3, hj3⟩ hoC3 F9 N11
          refine hR3 _ (wpAny_pure ⟨rfl, h9, tk9, _, ys3, oC3, rfl, F9, newsPick N11 [2, 0, 1, 3] 4, hoC3, hm2, P3 _ _ _ (List.getElem?_eq_some_iff.mp hv2).1 hj3⟩)
      · rintro m3 oC3 h9 tk9 ys3 ⟨hm2, hj3⟩ hoC3 F9 N11
        refine hR2 _ (wpAny_pure ⟨rfl, h9, tk9, _, ys3, oC3, rfl, F9, newsPick N11 [2, 0, 1] 3, hoC3, P2 _ _ (List.getElem?_eq_some_iff.mp hv1).1 hj3⟩)
    · intro m3 oC3 h9 tk9 ys3 hj3 hoC3 F9 N11
      refine ⟨m3, hoC3.ns (N11 _ (.head _)).1, fun h'' hs'' => fin D h'' tk9 ys3 hj3 (F9.change hs'' hCL hC0) (fun p hp => ?_) offD⟩
      refine ⟨hs''.extBut _ _ ?_ (N11 p (.tail _ hp)).1, (N11 p (.tail _ hp)).2⟩
      rcases List.mem_cons.mp hp with rfl | hp
      · exact hDC
      · exact offC p hp
  exact codeAny_startAt rfl (lp _) (wpAny_pyIter_listiter hit4 (lp _))
end
end Mine
end

section
open PySem PySem.SeqAt PySem.Challenge PySem.W PySem.Spec PySem.Calls PyProof.Rows
namespace Mine
section
variable {prog : Program} {w : World} {A : Around} {E : Value → Shared → Prop} {s : Shared} {h₀ : Heap} {L : Addr} {m : Str → Option Value} {nw : List (Addr × Obj)} {cn : Str} {cs : Scope} {a : Addr} {ccd : Value} {cl : List (Str × Addr)} {x : Str} {c r : Addr} {n : Nat} {t u v : Tok} {px : Pos} {body : List Stmt} {Q : Flow → Shared → Prop}
/-- the end of a turn of a for whose target is a cell -/
noncomputable def ForEndC (h₀ : Heap) (L : Addr) (m : Str → Option Value) (c I : Addr) (oI : Obj) (nw : List (Addr × Obj)) (s₁ : Shared) (Q : Flow → Shared → Prop) (f : Flow) (s₂ : Shared) : Prop :=
  match f with
  | .ret v => Q (.ret v) s₂
  | .brk => Q .next s₂
  | _ => ∃ h' tk oc v', s₂ = { s₁ with heap := h', toks := tk } ∧ Fr h₀ L h' m ∧ News h₀ L h' ((c, oc) :: (I, oI) :: nw) ∧ oc.data = .cell v'
/-- a for over range(n) whose target is a cell; the turns leave the names and the ledger as they are -/
theorem iter_cell {o0 : Obj} {v0 : Option Value} (hh : A.handled = none) (F : Fr h₀ L s.heap m) (N : News h₀ L s.heap ((c, o0) :: nw)) (hd : o0.data = .cell v0) (hr : (r, rngO n t u v) ∈ nw) (hn : n ≤ 1000) (offc : ∀ p ∈ nw, p.1 ≠ c)
    (hc : cl.lookup x = some c) (hk : cs.kind = .function) (hx : (envX cn cs L a ccd cl).kindOf x = some .cell)
    (turn : ∀ i t I oI oc h tk (E' : Value → Shared → Prop), i < n → oc.data = .cell (some (.int (i : Int) t)) → Fr h₀ L h m → News h₀ L h ((c, oc) :: (I, oI) :: nw) → (∀ p ∈ (c, oc) :: nw, p.1 ≠ I) →
      wpAny (model prog w) A (execs body (envX cn cs L a ccd cl)) (ForEndC h₀ L m c I oI nw { s with heap := h, toks := tk } Q) E' { s with heap := h, toks := tk })
    (done : ∀ oc v h tk, oc.data = .cell v → Fr h₀ L h m → News h₀ L h ((c, oc) :: nw) → Q .next { s with heap := h, toks := tk }) :
    wpAny (model prog w) A (pyIter (.ref r)) (fun it s₂ => codeAny (model prog w) A (.forLoop (.Name x px) it body [] (envX cn cs L a ccd cl)) (fun r s' => match r with | .ok f => Q f s' | .error e => cameBackBy (model prog w) A (envX cn cs L a ccd cl) E e s') s₂) E s := by
  refine wpAny_pyIter_range (N _ (.tail _ hr)).1 (PySem.small_one (by decide) (by decide) (by lia) (by lia)) ?_
  have e := rangeSize_nat n
  rw [e]
  have F1 := F.push (ritO 0 (n : Int))
  have N1 := N.grown fun b o e => Heap.get?_push_of_some (ritO 0 (n : Int)) e
  have hit : IsRangeIter (s.heap.push (ritO 0 (n : Int))) s.heap.objs.size (0 + ((0 : Nat) : Int) * 1) ((n : Int) - ((0 : Nat) : Int)) 1 := by
    show IsRangeIter _ _ _ _ _
    simpa using Heap.get?_push_size s.heap (o := ritO 0 (n : Int)) rfl
  have hI0 := next_is_new F
  have hIL : L ≠ s.heap.objs.size := Nat.ne_of_lt F.ns.lt
  have offI : ∀ p ∈ nw, p.1 ≠ s.heap.objs.size := fun p hp => Nat.ne_of_lt (Heap.lt_size (N p (.tail _ hp)).1)
  have hcI : c ≠ s.heap.objs.size := Nat.ne_of_lt (Heap.lt_size (N _ (.head _)).1)
  have W := LCg.range_walks (prog := prog) (w := w) (I := s.heap.objs.size) hh 0 n
  show codeAny (model prog w) A (.forLoop (.Name x px) (.ref s.heap.objs.size) body [] (envX cn cs L a ccd cl)) _ { s with heap := s.heap.push (ritO 0 (n : Int)) }
  generalize s.heap.push (ritO 0 (n : Int)) = h1 at *
  generalize s.heap.objs.size = I at *
  refine codeAny_forLoop (fun k s' => ∃ h tk i oc vc, s' = { s with heap := h, toks := tk } ∧ i ≤ n ∧ k = n + 1 - i ∧ Fr h₀ L h m ∧ News h₀ L h ((c, oc) :: nw) ∧ oc.data = .cell vc ∧ IsRangeIter h I (0 + (i : Nat) * 1) ((n : Int) - (i : Nat)) 1) ?_ (n + 1)
    ⟨h1, s.toks, 0, o0, v0, rfl, Nat.zero_le _, rfl, F1, N1, hd, hit⟩
  rintro k s' ⟨h, tk, i, oc, vc, rfl, hi, rfl, F2, N2, hd2, hit2⟩
  have offAll : ∀ o, ∀ p ∈ (c, o) :: nw, p.1 ≠ I := fun o p hp => by
    rcases List.mem_cons.mp hp with rfl | hp
    · exact hcI
    · exact offI p hp
  by_cases hlt : i < n
  · refine W.item i _ _ _ hlt hit2 fun v h2 tk2 hP hst2 hk2 => ?_
    obtain ⟨t', rfl⟩ := hP
    have F3 := LCg.fr_but F2 hk2 hIL hI0
    have N3 := LCg.news_but N2 hk2 (offAll _)
    have N3' : News h₀ L h2 ((c, oc) :: (I, ritO (0 + ((i + 1 : Nat) : Int) * 1) ((n : Int) - ((i + 1 : Nat) : Int))) :: nw) := fun p hp => by
      rcases List.mem_cons.mp hp with rfl | hp
      · exact N3 _ (.head _)
      rcases List.mem_cons.mp hp with rfl | hp
      · exact ⟨hst2, hIL.symm, hI0⟩
      · exact N3 _ (.tail _ hp)
    refine wpAny_assign_Name (storeX_C F3 N3' hc (UpdF.head fun p hp => ?_) hd2 (fun h3 oc3 F4 N4 hd4 => ?_) hk hx)
    · rcases List.mem_cons.mp hp with rfl | hp
      · exact hcI.symm
      · exact offc p hp
    have e0 : (0 : Int) + (i : Int) = (i : Int) := Int.zero_add _
    rw [e0] at hd4
    refine wpAny_mono (turn i t' I _ oc3 h3 _ _ hlt hd4 F4 N4 (offAll _)) (fun f s4 hf => ?_) fun _ _ e => e
    have nxt : (∃ h' tk oc v', s4 = { s with heap := h', toks := tk } ∧ Fr h₀ L h' m ∧ News h₀ L h' ((c, oc) :: (I, ritO (0 + ((i + 1 : Nat) : Int) * 1) ((n : Int) - ((i + 1 : Nat) : Int))) :: nw) ∧ oc.data = .cell v') →
        ∃ k, k < n + 1 - i ∧ ∃ h tk i oc vc, s4 = { s with heap := h, toks := tk } ∧ i ≤ n ∧ k = n + 1 - i ∧ Fr h₀ L h m ∧ News h₀ L h ((c, oc) :: nw) ∧ oc.data = .cell vc ∧ IsRangeIter h I (0 + (i : Nat) * 1) ((n : Int) - (i : Nat)) 1 := by
      rintro ⟨h', tk', oc', v', rfl, F5, N5, hd5⟩
      refine ⟨n + 1 - (i + 1), by lia, h', tk', i + 1, oc', v', rfl, hlt, rfl, F5, fun p hp => ?_, hd5, (N5 _ (.tail _ (.head _))).1⟩
      rcases List.mem_cons.mp hp with rfl | hp
      · exact N5 _ (.head _)
      · exact N5 _ (.tail _ (.tail _ hp))
    cases f with
    | ret v => exact hf
    | brk => exact hf
    | next => exact nxt hf
    | cont => exact nxt hf
  · obtain rfl : i = n := Nat.le_antisymm hi (Nat.not_lt.mp hlt)
    refine W.done _ _ _ hit2 fun h2 tk2 hk2 => ?_
    exact wpAny_pure (done oc vc h2 tk2 hd2 (LCg.fr_but F2 hk2 hIL hI0) (LCg.news_but N2 hk2 (offAll _)))
end
end Mine
end

section
open PySem PySem.SeqAt PySem.Challenge PySem.W PySem.Spec PySem.Calls PyProof.Rows
namespace Mine
section
variable {prog : Program} {w : World} {A : Around} {s : Shared} {h₀ : Heap} {L : Addr} {m : Str → Option Value} {env : Env}
open LCg in
theorem compRestP_inv {elt : PySem.Expr} {x x2 : Str} {scope : Scope} {cl : List (Str × Addr)} {S : List (Addr × Obj) → Prop} {P : Nat → Value → Prop} {Fin : List Value → List (Addr × Obj) → Prop} {n : Nat} (J : Nat → List Value → List (Addr × Obj) → Prop)
    (fin : ∀ ys nw, J n ys nw → Fin ys nw)
    (turn : ∀ i v ys nw, i < n → J i ys nw → P i v → ∃ (t : Addr) (ot : Obj) (v1 v2 : Value) (nt : Nat), v = .ref t ∧ (t, ot) ∈ nw ∧ ot.cls = .type "tuple" ∧ ot.data = .seq #[v1, v2] nt ∧
      ∀ I oI C oC D m₂ h tk (E' : Value → Shared → Prop), NsObj oC m₂ → m₂ x = some v1 → m₂ x2 = some v2 → Fr h₀ L h m → News h₀ L h ((I, oI) :: (C, oC) :: (D, lst ys) :: nw) → Off3 I C D nw → ((@Ne Nat I C) ∧ (@Ne Nat I D) ∧ (@Ne Nat C D)) →
        wpAny (model prog w) A (eval elt (compEnvC scope cl C env)) (CompEnd h₀ L m { s with heap := h, toks := tk } I oI C oC D (lst ys) S (fun y nw' => J (i + 1) (ys ++ [y]) nw')) E' { s with heap := h, toks := tk }) :
    ∀ k i ys nw, i + k = n → J i ys nw → LCp.CompRestP prog w A h₀ L m env elt x x2 scope cl s S P Fin k i ys nw := by
  intro k
  induction k with
  | zero => intro i ys nw e j; exact fin ys nw (by rw [← e]; exact j)
  | succ k ih =>
    intro i ys nw e j v hv
    obtain ⟨t, ot, v1, v2, nt, e1, e2, e3, e4, go⟩ := turn i v ys nw (by lia) j hv
    refine ⟨t, ot, v1, v2, nt, e1, e2, e3, e4, fun I oI C oC D m₂ h tk E' a1 a2 a3 a4 a5 a6 a7 => ?_⟩
    refine wpAny_mono (go I oI C oC D m₂ h tk E' a1 a2 a3 a4 a5 a6 a7) (fun y s₂ e9 => ?_) fun _ _ e => e
    obtain ⟨h', tk', nw', e10, F', N', o', S', r⟩ := e9
    exact ⟨h', tk', nw', e10, F', N', o', S', ih (i + 1) _ _ (by lia) r⟩
end
theorem ptAt_mem {news : List (Addr × Obj)} {vs : List Value} {ps : List Pt} (h : PtsIn news vs ps) {i : Nat} {v : Value} (hv : vs[i]? = some v) : ∃ p, p ∈ ps ∧ PtIn news v p := by
  obtain ⟨p, h1, h2⟩ := h.getV i v hv
  exact ⟨p, List.mem_of_getElem? h1, h2⟩
/-- the triples that come ahead of (i, j, k) -/
noncomputable def Ahead (n i j k a b c : Nat) : Prop := a < n ∧ b < n ∧ c < n ∧ (a < i ∨ (a = i ∧ (b < j ∨ (b = j ∧ c < k))))
/-- what the list of the triple comprehension holds so far -/
noncomputable def PTri (ps : List Pt) (i j k : Nat) (ys : List Value) : Prop :=
  ys.length ≤ (i * ps.length + j) * ps.length + k ∧ i ≤ ps.length ∧ j ≤ ps.length ∧ k ≤ ps.length ∧ (ys = [] ↔ ∀ a b c, Ahead ps.length i j k a b c → turn (ps.getD a (0, 0)) (ps.getD b (0, 0)) (ps.getD c (0, 0)) = 0)
theorem PTri.zero {ps : List Pt} : PTri ps 0 0 0 [] := ⟨by simp, Nat.zero_le _, Nat.zero_le _, Nat.zero_le _, by
  simp only [true_iff]
  rintro a b c ⟨_, _, _, h⟩
  lia⟩
theorem PTri.size {ps : List Pt} {i j k : Nat} {ys : List Value} (hn : ps.length ≤ 10) (h : PTri ps i j k ys) : ys.length ≤ sizeLine := by
  obtain ⟨h1, h2, h3, h4, _⟩ := h
  have a1 : i * ps.length ≤ 10 * 10 := Nat.mul_le_mul (by lia) hn
  have a2 : (i * ps.length + j) * ps.length ≤ 110 * 10 := Nat.mul_le_mul (by lia) hn
  rw [sizeLine_eq]
  lia
theorem PTri.next3 {ps : List Pt} {i j : Nat} {ys : List Value} (hj : j < ps.length) (h : PTri ps i j ps.length ys) : PTri ps i (j + 1) 0 ys := by
  obtain ⟨h1, h2, h3, h4, h5⟩ := h
  refine ⟨?_, h2, hj, Nat.zero_le _, h5.trans ?_⟩
  · rw [← Nat.add_assoc, Nat.succ_mul]; lia
  · constructor
    · rintro H a b c ⟨x1, x2, x3, x4⟩
      exact H a b c ⟨x1, x2, x3, by lia⟩
    · rintro H a b c ⟨x1, x2, x3, x4⟩
      exact H a b c ⟨x1, x2, x3, by lia⟩
theorem PTri.next2 {ps : List Pt} {i : Nat} {ys : List Value} (hi : i < ps.length) (h : PTri ps i ps.length 0 ys) : PTri ps (i + 1) 0 0 ys := by
  obtain ⟨h1, h2, h3, h4, h5⟩ := h
  refine ⟨?_, hi, Nat.zero_le _, Nat.zero_le _, h5.trans ?_⟩
  · rw [Nat.succ_mul]; lia
  · constructor
    · rintro H a b c ⟨x1, x2, x3, x4⟩
      exact H a b c ⟨x1, x2, x3, by lia⟩
    · rintro H a b c ⟨x1, x2, x3, x4⟩
      exact H a b c ⟨x1, x2, x3, by lia⟩
theorem PTri.yes {ps : List Pt} {i j k : Nat} {ys : List Value} {y : Value} (hi : i < ps.length) (hj : j < ps.length) (hk : k < ps.length) (h : PTri ps i j k ys) (ht : turn (ps.getD i (0, 0)) (ps.getD j (0, 0)) (ps.getD k (0, 0)) ≠ 0) : PTri ps i j (k + 1) (ys ++ [y]) := by
  obtain ⟨h1, h2, h3, h4, h5⟩ := h
  refine ⟨by rw [List.length_append, List.length_singleton]; lia, h2, h3, hk, ?_⟩
  constructor
  · intro e; simp at e
  · intro H
    exact absurd (H i j k ⟨hi, hj, hk, by lia⟩) ht
theorem PTri.no {ps : List Pt} {i j k : Nat} {ys : List Value} (hk : k < ps.length) (h : PTri ps i j k ys) (ht : turn (ps.getD i (0, 0)) (ps.getD j (0, 0)) (ps.getD k (0, 0)) = 0) : PTri ps i j (k + 1) ys := by
  obtain ⟨h1, h2, h3, h4, h5⟩ := h
  refine ⟨by lia, h2, h3, hk, h5.trans ?_⟩
  constructor
  · rintro H a b c ⟨x1, x2, x3, x4⟩
    by_cases e : a = i ∧ b = j ∧ c = k
    · obtain ⟨rfl, rfl, rfl⟩ := e; exact ht
    · exact H a b c ⟨x1, x2, x3, by lia⟩
  · rintro H a b c ⟨x1, x2, x3, x4⟩
    exact H a b c ⟨x1, x2, x3, by lia⟩
theorem PTri.fin {ps : List Pt} {ys : List Value} (h : PTri ps ps.length 0 0 ys) : ys = [] ↔ ∀ p ∈ ps, ∀ q ∈ ps, ∀ r ∈ ps, turn p q r = 0 := by
  refine h.2.2.2.2.trans ?_
  constructor
  · intro H p hp q hq r hr
    obtain ⟨a, ha, rfl⟩ := List.mem_iff_getElem.mp hp
    obtain ⟨b, hb, rfl⟩ := List.mem_iff_getElem.mp hq
    obtain ⟨c, hc, rfl⟩ := List.mem_iff_getElem.mp hr
    have := H a b c ⟨ha, hb, hc, .inl ha⟩
    simpa [ha, hb, hc] using this
  · rintro H a b c ⟨ha, hb, hc, _⟩
    have e : ∀ {a : Nat}, a < ps.length → ps.getD a (0, 0) ∈ ps := fun {a} ha => by
      rw [List.getD_eq_getElem?_getD, List.getElem?_eq_getElem ha]
      exact List.getElem_mem _
    exact H _ (e ha) _ (e hb) _ (e hc)
end Mine
end

section
open PySem PySem.SeqAt PySem.Challenge PySem.W PySem.Spec PySem.Calls PyProof.Rows
namespace Mine
/-- an entry that is no point bears none -/
theorem PtIn.strip {a : Addr} {o : Obj} {r : List (Addr × Obj)} {v : Value} {p : Pt} (ho : ∀ x y t1 t2 n, o ≠ ptO x y t1 t2 n) (h : PtIn ((a, o) :: r) v p) : PtIn r v p := by
  obtain ⟨b, t1, t2, n, rfl, hm, hs⟩ := h
  rcases List.mem_cons.mp hm with e | hm
  · exact absurd (congrArg Prod.snd e).symm (ho _ _ _ _ _)
  · exact ⟨b, t1, t2, n, rfl, hm, hs⟩
theorem PtsIn.strip {a : Addr} {o : Obj} {r : List (Addr × Obj)} {vs : List Value} {ps : List Pt} (ho : ∀ x y t1 t2 n, o ≠ ptO x y t1 t2 n) (h : PtsIn ((a, o) :: r) vs ps) : PtsIn r vs ps := by
  induction h with
  | nil => exact .nil
  | cons h _ ih => exact .cons (h.strip ho) ih
theorem tab_no {tb : Array Value} : ∀ x y t1 t2 n, tabObj tb ≠ ptO x y t1 t2 n := fun _ _ _ _ _ e => nomatch (congrArg Obj.cls e : Value.none = Value.type "tuple")
theorem lst_no {vs : List Value} {k : Nat} : ∀ x y t1 t2 n, lstO vs k ≠ ptO x y t1 t2 n := fun _ _ _ _ _ e => absurd (Value.type.inj (congrArg Obj.cls e)) (by decide)
theorem cell_no {o : Obj} {v : Option Value} (h : o.data = .cell v) : ∀ x y t1 t2 n, o ≠ ptO x y t1 t2 n := fun _ _ _ _ _ e => by
  rw [e] at h
  cases h
section
variable {prog : Program} {w : World} {A : Around} {E : Value → Shared → Prop} {s : Shared}
/-- two lists of the same points are equal -/
theorem eq_lists {g : Heap} {L l1 l2 : Addr} {news pn : List (Addr × Obj)} {us vs : List Value} {ps : List Pt} {n1 n2 : Nat} {Q : Value → Shared → Prop} (hu0 : A.units < cLine) (hu : A.in1.units < cLine) (N : News g L s.heap news) (hs : ∀ x ∈ pn, x ∈ news) (h1 : (l1, lstO us n1) ∈ news) (h2 : (l2, lstO vs n2) ∈ news) (hp : PtsIn pn us ps) (hq : PtsIn pn vs ps)
    (h : Q (.bool true) s) : wpAny (model prog w) A (compareOp .Eq (.ref l1) (.ref l2)) Q E s := by
  have e1 := hp.length
  have e2 := hq.length
  refine RcAt.lists (e := fun _ => true) (isList_lst N h1) (isList_lst N h2) (by simp; lia) hu0 (fun j g1 g2 => ?_) prog w E Q ?_
  · have j1 : j < us.length := by simpa using g1
    have j2 : j < vs.length := by simpa using g2
    obtain ⟨p, hp1, hp2⟩ := hp.getV j _ (List.getElem?_eq_getElem j1)
    obtain ⟨q, hq1, hq2⟩ := hq.getV j _ (List.getElem?_eq_getElem j2)
    rw [hp1] at hq1
    cases hq1
    have := eqAt_pts (A := A.in1) hu N hs hp2 hq2
    rw [decide_eq_true rfl] at this
    simpa using this
  · have : (List.range us.toArray.size).all (fun _ => true) = true := by simp
    rw [this]; exact h
end
theorem isNot_bools {M : Model} {A : Around} {E : Value → Shared → Prop} {s : Shared} {a b : Bool} {Q : Value → Shared → Prop} (e : a = b) (h : Q (.bool false) s) : wpAny M A (compareOp .IsNot (.bool a) (.bool b)) Q E s := by
  subst e
  exact wpAny_isNot_self (by cases a <;> rfl) h
theorem TabS.mono {tb : Array Value} {nw nw' : List (Addr × Obj)} (h : TabS tb nw) (hs : ∀ q ∈ nw, q ∈ nw') : TabS tb nw' := by
  rcases h with h | ⟨c', oc, fs, t, h1, h2, h3, h4⟩
  · exact .inl h
  · exact .inr ⟨c', oc, fs, t, hs _ h1, h2, h3, h4⟩
theorem ForEndC.nxt {h₀ h' : Heap} {L c I : Addr} {m : Str → Option Value} {oI oc : Obj} {v' : Option Value} {nw : List (Addr × Obj)} {s₁ : Shared} {Q : Flow → Shared → Prop} {tk : Nat}
    (F : Fr h₀ L h' m) (N : News h₀ L h' ((c, oc) :: (I, oI) :: nw)) (hd : oc.data = .cell v') : ForEndC h₀ L m c I oI nw s₁ Q .next { s₁ with heap := h', toks := tk } := ⟨h', tk, oc, v', rfl, F, N, hd⟩
end Mine
end

section
open PySem PySem.SeqAt PySem.Challenge PySem.W PySem.Spec PySem.Calls PyProof.Rows
namespace Mine
/-- the end of a turn of the mirror's comprehension -/
theorem mirror_end {h₀ h' : Heap} {L T I C D l z : Addr} {m : Str → Option Value} {s : Shared} {tk : Nat} {oI oC oz : Obj} {ys us : List Value} {n' n i : Nat} {ex B : List (Addr × Obj)} {ps : List Pt} {p : Pt} {t1 t2 : Tok}
    (F : Fr h₀ L h' m) (N : News h₀ L h' ((T, ptO (0 - p.1) p.2 t1 t2 n) :: (I, oI) :: (C, oC) :: (D, LCg.lst ys) :: (ex ++ B))) (hlt : I < T ∧ C < T ∧ D < T ∧ AllLt T (ex ++ B)) (off : LCg.Off3 I C D (ex ++ B))
    (hm : (l, lstO us n') ∈ B) (hz : (z, oz) ∈ B) (hx : ∀ q ∈ ex, q.1 ≠ z) (hys : PtsIn ex ys ((ps.take i).map rho)) (hpi : ps[i]? = some p) (hsm : Small p) :
    LCg.CompEnd h₀ L m s I oI C oC D (LCg.lst ys) (LCg.SrcAt h₀ l us.toArray) (fun y nw' => ∃ ex, nw' = ex ++ B ∧ (∀ q ∈ ex, q.1 ≠ z) ∧ PtsIn ex (ys ++ [y]) ((ps.take (i + 1)).map rho)) (.ref T) { s with heap := h', toks := tk } := by
  refine LCg.CompEnd.intro F N ((T, ptO (0 - p.1) p.2 t1 t2 n) :: (ex ++ B)) (fun q hq => ?_) ⟨⟨Nat.ne_of_gt hlt.1, Nat.ne_of_gt hlt.2.1, Nat.ne_of_gt hlt.2.2.1⟩, off⟩ (.inr ⟨_, .tail _ (List.mem_append_right _ hm), rfl, _, rfl⟩) ⟨(T, ptO (0 - p.1) p.2 t1 t2 n) :: ex, rfl, fun q hq => ?_, ?_⟩
  · rcases List.mem_cons.mp hq with rfl | hq
    · exact .tail _ (.head _)
    rcases List.mem_cons.mp hq with rfl | hq
    · exact .tail _ (.tail _ (.head _))
    rcases List.mem_cons.mp hq with rfl | hq
    · exact .tail _ (.tail _ (.tail _ (.head _)))
    rcases List.mem_cons.mp hq with rfl | hq
    · exact .head _
    · exact .tail _ (.tail _ (.tail _ (.tail _ hq)))
  · rcases List.mem_cons.mp hq with rfl | hq
    · exact Nat.ne_of_gt (allLt hlt.2.2.2 _ (List.mem_append_right _ hz))
    · exact hx q hq
  · rw [List.take_add_one, hpi, List.map_append]
    exact (hys.mono fun q hq => .tail _ hq).snoc ⟨T, t1, t2, n, rfl, .head _, small_rho hsm⟩
theorem off1_mem {D : Addr} : ∀ {l : List (Addr × Obj)}, LCg.Off1 D l → ∀ p ∈ l, p.1 ≠ D
  | [], _, _, h => nomatch h
  | _ :: _, x, p, h => by
    rcases List.mem_cons.mp h with rfl | h
    · exact x.1
    · exact off1_mem x.2 p h
end Mine
end

section
open PySem PySem.SeqAt PySem.Challenge PySem.W PySem.Spec PySem.Calls PyProof.Rows
namespace Mine
theorem objHead {g h : Heap} {L a : Addr} {o : Obj} {r : List (Addr × Obj)} (_ : News g L h ((a, o) :: r)) : ∃ x, x = o := ⟨_, rfl⟩
theorem newsT {g h : Heap} {L : Addr} {x : Addr × Obj} {r : List (Addr × Obj)} (N : News g L h (x :: r)) : News g L h r := newsSub N fun q hq => .tail _ hq
theorem newsW7 {g h : Heap} {L : Addr} {a b c d e f x y : Addr × Obj} (N : News g L h [a, b, c, d, e, f, x, y]) : News g L h [b, c, d, e, f, x, y, a] := newsPick N [1, 2, 3, 4, 5, 6, 7, 0] 8
theorem intsAt {vs : List Value} {ns : List Int} (h : IntsAre vs ns) : ∀ (i : Nat) (v : Value), vs[i]? = some v → ∃ x t, v = .int x t := by
  induction h with
  | nil => intro i v e; simp at e
  | cons n t _ ih =>
    intro i v e
    cases i with
    | zero => simp at e; exact ⟨n, t, e.symm⟩
    | succ i => exact ih i v (by simpa using e)
theorem ptNew {g h : Heap} {L tp : Addr} {x y : Int} {t1 t2 : Tok} {n : Nat} {r : List (Addr × Obj)} (_ : News g L h ((tp, ptO x y t1 t2 n) :: r)) (hs : Small (x, y)) : ∃ e : Addr × Obj, e = (tp, ptO x y t1 t2 n) ∧ e.1 = tp ∧ PtIn [e] (.ref tp) (x, y) :=
  ⟨_, rfl, rfl, tp, t1, t2, n, rfl, .head _, hs⟩
theorem newsL9 {g h : Heap} {L : Addr} {e l c3 c2 c1 t95 t16 t78 D : Addr × Obj} {nx : List (Addr × Obj)} (N : News g L h (e :: l :: c3 :: c2 :: c1 :: t95 :: t16 :: t78 :: D :: nx)) : News g L h (t78 :: t16 :: t95 :: l :: c3 :: c2 :: c1 :: D :: e :: nx) := newsPick N [7, 6, 5, 1, 2, 3, 4, 8, 0] 9
noncomputable def Sm8 (p : Pt) : Prop := 0 ≤ p.1 ∧ p.1 ≤ 8 ∧ 0 ≤ p.2 ∧ p.2 ≤ 8
theorem sm8_small {p : Pt} (h : Sm8 p) : Small p := by
  obtain ⟨h1, h2, h3, h4⟩ := h
  exact ⟨by lia, h2, by lia, h4⟩
theorem nameRng {g h : Heap} {L a : Addr} {n : Nat} {t u v : Tok} {r : List (Addr × Obj)} (_ : News g L h ((a, rngO n t u v) :: r)) : ∃ t' u' v', t' = t ∧ u' = u ∧ v' = v := ⟨_, _, _, rfl, rfl, rfl⟩
/-- the points gathered so far -/
noncomputable def JPts (D l L : Addr) (oD ok oh oc : Obj) (i : Nat) (nw : List (Addr × Obj)) : Prop :=
  ∃ (us : List Value) (n' : Nat) (nx : List (Addr × Obj)) (ps : List Pt), nw = (l, lstO us n') :: (L + 1 + 1 + 1, ok) :: (L + 1 + 1, oh) :: (L + 1, oc) :: (95, tabObj #[]) :: (16, tabObj #[]) :: (78, tabObj #[]) :: (D, oD) :: nx ∧
    PtsIn nx us ps ∧ ps.Nodup ∧ (∀ p ∈ ps, Sm8 p) ∧ us.length ≤ i ∧ ∀ p ∈ nx, D < p.1
theorem regT60a : True := by
  k_with_none
  k_with "memK" => (first | assumption | exact List.Mem.head _ | (refine List.Mem.tail _ ?_; k_memK))
  k_with "call builtin:len" => ((k_here; k_dflt (refine' len_lst (by (k_asm)) (by (k_memK)) (by (lia)) ?_; k_whole)))
  k_with "call ref" => ((k_here; refine stopW ?_))
  k_with "CompSrc" => ((k_here; refine stopW ?_))
  k_with "CompSrcT" => ((k_here; refine stopW ?_))
  k_with "CompEnd" => ((refine stopW ?_))
  k_with "exec For Name Name cons nil" => ((k_here; refine stopW ?_))
  k_with "exec For" => ((k_here; refine stopW ?_))
  k_with "exec For Name Subscript cons nil" => ((k_here; refine stopW ?_))
  k_with "call builtin:list.append" => ((k_here; refine stopW ?_))
  k_with "compareOp Eq ref ref" => ((k_here; refine stopW ?_))
  k_with "compareOp NotEq ref ref" => ((k_here; refine stopW ?_))
  k_with "compareOp NotIn ref ref" => ((k_here; refine stopW ?_))
  k_with "pyIter ref" => ((k_here; refine stopW ?_))
  k_with "call type:range" => ((k_here; k_dflt (refine' range_own (by (k_asm)) (by (k_asm)) ?_); intro rZq hZq tkZq t1Zq u1Zq v1Zq FZq NZq l1Zq))
  k_with "subscriptTail" => ((k_here; (with_reducible show wpAny _ _ (subscriptTail _ _ (Value.ref _) (Value.int _ _)) _ _ _); k_dflt (refine' pt_item_any (by (k_asm)) (by (k_memK)) (by (with_reducible assumption)) (by (lia)) (by (lia)) (by (lia)) (by (with_unfolding_all rfl)) ?_); intro iaZ hiPZ))
  k_with "eval ListComp" => ((k_here; (with_reducible show wpAny _ _ (eval (Expr.ListComp _ [_, _, _] _ _) _) _ _ _); refine stopW ?_))
  k_with "compareOp IsNot bool bool" => ((k_here; refine stopW ?_))
  k_with "SrcLP" => ((k_here; refine stopW ?_))
  k_with "call builtin:sorted" => ((k_here; refine stopW ?_))
  k_with "callWith ref" => ((k_here; k_dflt (refine' callWith_K (by (k_asm)) (by (k_is)) ?_; k_whole)))
  trivial
set_option maxRecDepth 100000 in
set_option maxHeartbeats 8000000 in
theorem law_holds : PySem.Challenge.rw_xi0007_01.Holds := hd (by
  clear law_holds
  k_go0
  (all_goals try k_fold)
  refine gen_qe ?_
  intro q9 gn9 dr9 os9 tk9 hgn9 hdr9 hos9 hq9
  (rename Shared => s1)
  generalize hG9 : ghostOf s1.heap [(99, 95), (20, 16), (80, 78)] = G9 at *
  generalize hL9 : s1.heap.objs.size = L9 at *
  clear hG9 hL9
  k_steps
  unfold StopW
  (rename Fr _ _ _ _ => F1); (rename News _ _ _ _ => N1)
  obtain ⟨g1, hg1⟩ := frG F1
  obtain ⟨L1, hL1⟩ := frL F1
  refine For_invVF F1 rfl rfl ?_
  k_steps
  unfold StopW
  (try clear N1)
  (rename Fr _ _ _ _ => F1); (rename News _ _ _ _ => N1)
  obtain ⟨D, hD⟩ := nameHead N1
  subst hD
  obtain ⟨l, hl⟩ := nameHead (newsPerm N1)
  subst hl
  rename IntsAre _ _ => hI
  rename List Value => ws
  obtain ⟨wsn, hwsn⟩ : ∃ x, x = ws := ⟨_, rfl⟩
  subst hwsn
  obtain ⟨ok, hok⟩ := objHead (newsT (newsT N1))
  subst hok
  obtain ⟨oh, hoh⟩ := objHead (newsT (newsT (newsT N1)))
  subst hoh
  obtain ⟨oc, hoc⟩ := objHead (newsT (newsT (newsT (newsT N1))))
  subst hoc
  have hwl : wsn.length ≤ 10 := by
    have := hI.length
    rw [this, List.length_take]; lia
  have hcell := ‹oc.data = Data.cell (some (Value.ref l))›
  have l9 := (‹l < D ∧ _ ∧ _ ∧ _ ∧ _ ∧ _ ∧ _› : l < D ∧ L9 + 1 + 1 + 1 < D ∧ L9 + 1 + 1 < D ∧ L9 + 1 < D ∧ 95 < D ∧ 16 < D ∧ 78 < D)
  have l8 := (‹L9 + 1 + 1 + 1 < l ∧ _ ∧ _ ∧ _ ∧ _ ∧ _› : L9 + 1 + 1 + 1 < l ∧ L9 + 1 + 1 < l ∧ L9 + 1 < l ∧ 95 < l ∧ 16 < l ∧ 78 < l)
  have N2 := newsW7 N1
  clear N1
  refine for_lst (vs := wsn) (n := 0) (fun i m nw => JPts D l L9 (lstO wsn 0) ok oh oc i nw) rfl (.tail _ (.tail _ (.tail _ (.tail _ (.tail _ (.tail _ (.tail _ (.head _)))))))) F1 N2 ⟨[], _, [], [], rfl, .nil, List.nodup_nil, (fun p hp => by cases hp), Nat.le_refl _, (fun p hp => by cases hp)⟩ (fun i m nw h => by
    obtain ⟨us, n', nx, ps, rfl, _⟩ := h
    exact .tail _ (.tail _ (.tail _ (.tail _ (.tail _ (.tail _ (.tail _ (.head _)))))))) ?_ ?_
  · rintro i v m₁ nw h tk I oI hv ⟨us, n', nx, ps, rfl, hus, hnd, hsm, hle, hnx⟩ offI hcI F3 N3
    obtain ⟨num, tnum, rfl⟩ := intsAt hI i v hv
    have F4 := named [(Str.ofString "number", .int num tnum)] F3 (by
      intro p hp
      simp only [List.mem_cons, List.not_mem_nil, or_false] at hp
      rcases hp with rfl
      with_unfolding_all rfl)
    clear F3
    have N4 := newsPerm N3
    clear N3
    k_steps
    unfold StopW
    (rename News _ _ _ _ => N5)
    obtain ⟨tp, htp⟩ := nameHead N5
    subst htp
    have hi10 : i < wsn.length := (List.getElem?_eq_some_iff.mp hv).1
    have hfm : ∀ z : Int, 0 ≤ z.fmod 9 ∧ z.fmod 9 ≤ 8 := fun z => ⟨Int.fmod_nonneg_of_pos _ (by decide), by have := Int.fmod_lt_of_pos z (b := 9) (by decide); lia⟩
    have hb1 := hfm num
    have hb2 := hfm (num.fdiv 9)
    have hDt : D < tp := (‹l < tp ∧ I < tp ∧ _ ∧ _ ∧ _ ∧ _ ∧ _ ∧ _ ∧ D < tp ∧ _› : l < tp ∧ I < tp ∧ _ ∧ _ ∧ _ ∧ _ ∧ _ ∧ _ ∧ D < tp ∧ _).2.2.2.2.2.2.2.2.1
    have hIt : I < tp := (‹l < tp ∧ I < tp ∧ _› : l < tp ∧ I < tp ∧ _).2.1
    obtain ⟨e, he, he1, hpt⟩ := ptNew (n := 0) N5 (by simp only [Small]; lia)
    have N6 : News _ _ _ (e :: _) := he ▸ N5
    have hesub : ∀ q ∈ [e], q ∈ e :: nx := fun q hq => by rw [List.mem_singleton.mp hq]; exact .head _
    refine notin_pts (pn := e :: nx) (Nat.le_of_ble_eq_true rfl) N6 ?_ (.tail _ (.head _)) (hus.mono fun q hq => .tail _ hq) (hpt.mono hesub) ?_
    · intro q hq
      rcases List.mem_cons.mp hq with rfl | hq
      · exact .head _
      · exact .tail _ (.tail _ (.tail _ (.tail _ (.tail _ (.tail _ (.tail _ (.tail _ (.tail _ (.tail _ hq)))))))))
    clear N5
    by_cases hmem : (num.fmod 9, (num.fdiv 9).fmod 9) ∈ ps
    · rw [decide_eq_true hmem]
      k_steps
      (rename News _ _ _ _ => N8)
      refine ⟨_, _, _, _, rfl, by assumption, newsPick N8 [2, 1, 3, 4, 5, 6, 7, 8, 9] 10, offI, us, n', nx, ps, rfl, hus, hnd, hsm, by lia, hnx⟩
    · rw [decide_eq_false hmem]
      k_steps
      unfold StopW
      (rename Fr _ _ _ _ => F7); (rename News _ _ _ _ => N7)
      refine append_own F7 (newsPerm N7) ?_ (by lia) ?_
      · have hlD := l9.1
        intro p hp
        simp only [List.mem_cons] at hp
        rcases hp with rfl | rfl | rfl | rfl | rfl | rfl | rfl | rfl | rfl | hp
        · rw [he1]; exact Nat.ne_of_gt (Nat.lt_trans hlD hDt)
        · exact (offI _ (.head _)).symm
        · exact Nat.ne_of_lt l8.1
        · exact Nat.ne_of_lt l8.2.1
        · exact Nat.ne_of_lt l8.2.2.1
        · exact Nat.ne_of_lt l8.2.2.2.1
        · exact Nat.ne_of_lt l8.2.2.2.2.1
        · exact Nat.ne_of_lt l8.2.2.2.2.2
        · exact Nat.ne_of_gt hlD
        · exact Nat.ne_of_gt (Nat.lt_trans hlD (hnx p hp))
      intro h9 F8 N8
      k_steps
      refine ⟨_, _, _, (l, lstO (us ++ [.ref tp]) (n' + 1)) :: (L9 + 1 + 1 + 1, ok) :: (L9 + 1 + 1, oh) :: (L9 + 1, oc) :: (95, tabObj #[]) :: (16, tabObj #[]) :: (78, tabObj #[]) :: (D, lstO wsn 0) :: e :: nx, rfl, F8, ?_, fun q hq => ?_, us ++ [.ref tp], n' + 1, e :: nx, ps ++ [(num.fmod 9, (num.fdiv 9).fmod 9)], rfl, (hus.mono fun q hq => .tail _ hq).snoc (hpt.mono hesub), ?_, ?_, by simp; lia, ?_⟩
      · exact newsPick N8 [2, 0, 3, 4, 5, 6, 7, 8, 9, 1] 10
      · simp only [List.mem_cons] at hq
        rcases hq with rfl | h | h | h | h | h | h | h | h | h
        · exact (offI (l, lstO us n') (.head _) : l ≠ I)
        · exact offI q (by simp [h])
        · exact offI q (by simp [h])
        · exact offI q (by simp [h])
        · exact offI q (by simp [h])
        · exact offI q (by simp [h])
        · exact offI q (by simp [h])
        · exact offI q (by simp [h])
        · rw [h, he1]; exact Nat.ne_of_gt hIt
        · exact offI q (by simp [h])
      · refine List.nodup_append.mpr ⟨hnd, by simp, fun x hx y hy => ?_⟩
        rw [List.mem_singleton.mp hy]
        rintro rfl
        exact hmem hx
      · intro p hp
        rcases List.mem_append.mp hp with hp | hp
        · exact hsm p hp
        · rw [List.mem_singleton.mp hp]; exact ⟨hb1.1, hb1.2, hb2.1, hb2.2⟩
      · intro p hp
        rcases List.mem_cons.mp hp with rfl | hp
        · rw [he1]; exact hDt
        · exact hnx p hp
  · rintro m₁ nw h tk ⟨us, n', nx, ps, rfl, hus, hnd, hsm, hle, hnx⟩ F3 N3
    clear F1 N2
    (rename CellsAre _ _ _ => hX0); clear hX0
    obtain ⟨voh, hohd⟩ : ∃ v, oh.data = Data.cell v := ⟨_, ‹oh.data = Data.cell _›⟩
    obtain ⟨vok, hokd⟩ : ∃ v, ok.data = Data.cell v := ⟨_, ‹ok.data = Data.cell _›⟩
    (rename oh.data = Data.cell (bindC _ _ _ _) => hX1); clear hX1
    (rename ok.data = Data.cell (bindC _ _ _ _) => hX2); clear hX2
    have F4 := named [] F3 (by
      intro p hp
      cases hp)
    clear F3
    have hul := hus.length
    have hu10 : us.length ≤ 10 := by lia
    have hle' := hle
    k_steps
    unfold StopW
    (rename News _ _ _ _ => N4)
    refine eq_empty (vs := us) (n := n') (n' := 0) (Nat.le_of_ble_eq_true rfl) N4 (.tail _ (.head _)) (.head _) ?_
    by_cases hnil : us = []
    · subst hnil
      k_steps
      subst hgn9 hdr9 hos9
      refine hq9 _ _ ?_
      k_steps
    · have hemp : us.isEmpty = false := by cases us; exact absurd rfl hnil; rfl
      rw [hemp]
      k_steps
      unfold StopW
      (rename Fr _ _ _ _ => F5); (rename News _ _ _ _ => N5)
      obtain ⟨le, hle0⟩ := nameHead N5
      subst hle0
      have N6 : News _ _ _ _ := newsL9 N5
      clear N5
      refine' around 6 _ _ _ _ _ _ _ _ _ _ ?hA ?hh ?hd ?hu ?_
      (case hA => exact rfl); (case hh => exact rfl); (case hd => exact Nat.le_of_ble_eq_true rfl); (case hu => exact Nat.le_of_ble_eq_true rfl)
      refine' chained_call (l := l) (vs := us) (ps := ps) (n := n') ?zB ?zF ?zK N6 ?zT (.tail _ (.tail _ (.tail _ (.head _)))) (hus.mono fun q hq => ?zs) hu10 hnd ?_
      (case zB => k_asm); (case zF => exact F5); (case zK => k_asm); (case zT => k_asm)
      (case zs => exact .tail _ (.tail _ (.tail _ (.tail _ (.tail _ (.tail _ (.tail _ (.tail _ (.tail _ hq)))))))))
      intro hl2 us2 n2 h2 tk2 hus2 hl20 hlt2 F6 N7
      k_steps
      obtain ⟨q95, q16, q78⟩ := (‹95 < L9 ∧ 16 < L9 ∧ 78 < L9› : 95 < L9 ∧ 16 < L9 ∧ 78 < L9)
      have hle1 : L9 + 1 + 1 < le := by
        have := (‹l < le ∧ _› : l < le ∧ _).1
        exact Nat.lt_trans l8.2.1 this
      have hcu : ∀ p ∈ (hl2, lstO us2 n2) :: (78, tabObj #[]) :: (16, tabObj #[]) :: (95, tabObj #[]) :: (l, lstO us n') :: (L9 + 1 + 1 + 1, ok) :: (L9 + 1, oc) :: (D, lstO wsn 0) :: (le, lstO [] 0) :: nx, p.1 ≠ L9 + 1 + 1 := by
        intro p hp
        simp only [List.mem_cons] at hp
        rcases hp with rfl | rfl | rfl | rfl | rfl | rfl | rfl | rfl | rfl | hp
        · exact Nat.ne_of_gt (hlt2 (L9 + 1 + 1, oh) (by simp))
        · exact Nat.ne_of_lt (Nat.lt_succ_of_lt (Nat.lt_succ_of_lt q78))
        · exact Nat.ne_of_lt (Nat.lt_succ_of_lt (Nat.lt_succ_of_lt q16))
        · exact Nat.ne_of_lt (Nat.lt_succ_of_lt (Nat.lt_succ_of_lt q95))
        · exact Nat.ne_of_gt l8.2.1
        · exact Nat.succ_ne_self _
        · exact (Nat.succ_ne_self _).symm
        · exact Nat.ne_of_gt l9.2.2.1
        · exact Nat.ne_of_gt hle1
        · exact Nat.ne_of_gt (Nat.lt_trans l9.2.2.1 (hnx p hp))
      have N8 : News _ _ _ ((L9 + 1 + 1, oh) :: (hl2, lstO us2 n2) :: (78, tabObj #[]) :: (16, tabObj #[]) :: (95, tabObj #[]) :: (l, lstO us n') :: (L9 + 1 + 1 + 1, ok) :: (L9 + 1, oc) :: (D, lstO wsn 0) :: (le, lstO [] 0) :: nx) := newsPick N7 [6, 0, 1, 2, 3, 4, 5, 7, 8, 9] 10
      clear N7
      refine' storeX_C ?sF N8 ?sc (UpdF.head hcu) ?sd ?_ ?sa ?sb
      (case sa => rfl); (case sb => rfl); (case sF => exact F6); (case sc => rfl); (case sd => k_asm)
      intro h' o' F7 N9 d9
      k_steps
      unfold StopW
      (rename Fr _ _ _ _ => F8)
      have hsmall : ∀ r ∈ ps, Small r := fun r hr => sm8_small (hsm r hr)
      have hps0 : ps ≠ [] := by
        rintro rfl
        exact hnil (List.length_eq_zero_iff.mp (by rw [hul]; rfl))
      have hok := hullOk hnd hsmall hps0
      have N10 : News _ _ _ ((78, tabObj #[]) :: (16, tabObj #[]) :: (l, lstO us n') :: (95, tabObj #[]) :: (L9 + 1 + 1, o') :: (hl2, lstO us2 n2) :: (L9 + 1 + 1 + 1, ok) :: (L9 + 1, oc) :: (D, lstO wsn 0) :: (le, lstO [] 0) :: nx) := newsPick N9 [2, 3, 5, 4, 0, 1, 6, 7, 8, 9] 10
      clear N9
      have big : ∀ p ∈ (l, lstO us n') :: (95, tabObj #[]) :: (L9 + 1 + 1, o') :: (hl2, lstO us2 n2) :: (L9 + 1 + 1 + 1, ok) :: (L9 + 1, oc) :: (D, lstO wsn 0) :: (le, lstO [] 0) :: nx, p.1 ≠ 16 ∧ p.1 ≠ 78 := by
        intro p hp
        simp only [List.mem_cons] at hp
        rcases hp with rfl | rfl | rfl | rfl | rfl | rfl | rfl | rfl | hp
        · exact ⟨Nat.ne_of_gt l8.2.2.2.2.1, Nat.ne_of_gt l8.2.2.2.2.2⟩
        · exact ⟨by decide, by decide⟩
        · exact ⟨Nat.ne_of_gt (Nat.lt_succ_of_lt (Nat.lt_succ_of_lt q16)), Nat.ne_of_gt (Nat.lt_succ_of_lt (Nat.lt_succ_of_lt q78))⟩
        · exact ⟨Nat.ne_of_gt (hlt2 (16, tabObj #[]) (by simp)), Nat.ne_of_gt (hlt2 (78, tabObj #[]) (by simp))⟩
        · exact ⟨Nat.ne_of_gt (Nat.lt_succ_of_lt (Nat.lt_succ_of_lt (Nat.lt_succ_of_lt q16))), Nat.ne_of_gt (Nat.lt_succ_of_lt (Nat.lt_succ_of_lt (Nat.lt_succ_of_lt q78)))⟩
        · exact ⟨Nat.ne_of_gt (Nat.lt_succ_of_lt q16), Nat.ne_of_gt (Nat.lt_succ_of_lt q78)⟩
        · exact ⟨Nat.ne_of_gt l9.2.2.2.2.2.1, Nat.ne_of_gt l9.2.2.2.2.2.2⟩
        · exact ⟨Nat.ne_of_gt (Nat.lt_trans (Nat.lt_succ_of_lt (Nat.lt_succ_of_lt q16)) hle1), Nat.ne_of_gt (Nat.lt_trans (Nat.lt_succ_of_lt (Nat.lt_succ_of_lt q78)) hle1)⟩
        · exact ⟨Nat.ne_of_gt (Nat.lt_trans l9.2.2.2.2.2.1 (hnx p hp)), Nat.ne_of_gt (Nat.lt_trans l9.2.2.2.2.2.2 (hnx p hp))⟩
      refine' around 5 _ _ _ _ _ _ _ _ _ _ ?rA ?rh ?rd ?ru ?_
      (case rA => exact rfl); (case rh => exact rfl); (case rd => exact Nat.le_of_ble_eq_true rfl); (case ru => exact Nat.le_of_ble_eq_true rfl)
      refine' walked_call (l := l) (vs := us) (ps := ps) (hull := hullP ps) (n := n') (pn := nx) ?rB F8 ?rK N10 ?rT (.head _) (fun q hq => .tail _ (.tail _ (.tail _ (.tail _ (.tail _ (.tail _ (.tail _ (.tail _ hq)))))))) hus hu10 (List.length_pos_iff.mpr hnil) hok.1 (by have := hok.2; lia) hsmall (.inl rfl) (.inl rfl) big ?_
      (case rB => k_asm); (case rK => k_asm); (case rT => k_asm)
      intro wl us3 n3 tbk tbw nx3 h11 tk11 hus3 F9 N11 s1' s2' hTK hTW w16 w78
      have N12 : News _ _ _ ((78, tabObj tbw) :: (16, tabObj tbk) :: (wl, lstO us3 n3) :: (L9 + 1 + 1, o') :: (hl2, lstO us2 n2) :: (L9 + 1 + 1 + 1, ok) :: (L9 + 1, oc) :: (95, tabObj #[]) :: (l, lstO us n') :: nx) := newsPickT N11 [0, 1, 2] (subPick (fun p hp => .tail _ (.tail _ (.tail _ (s1' p hp)))) (fun p hp => .tail _ (.tail _ (.tail _ (s1' p (.tail _ (.tail _ (.tail _ (.tail _ (.tail _ (.tail _ (.tail _ (.tail _ hp)))))))))))) [2, 3, 4, 5, 1, 0])
      have hus2p : PtsIn nx us2 (hullP ps) := (((((((((hus2.strip tab_no).strip tab_no).strip tab_no).strip lst_no).strip (cell_no ‹ok.data = Data.cell _›)).strip (cell_no ‹oh.data = Data.cell _›)).strip (cell_no hcell)).strip lst_no).strip lst_no)
      clear N11 hus2 s1' s2' hTK hTW big hcu
      k_steps
      unfold StopW
      (rename News _ _ _ _ => N13)
      refine ne_lists (pn := nx) (Nat.le_of_ble_eq_true rfl) (Nat.le_of_ble_eq_true rfl) N13 (fun q hq => .tail _ (.tail _ (.tail _ (.tail _ (.tail _ (.tail _ (.tail _ (.tail _ (.tail _ hq))))))))) (.tail _ (.tail _ (.head _))) (.tail _ (.tail _ (.tail _ (.tail _ (.head _))))) hus3 hus2p ?_
      k_steps
      unfold StopW
      refine wpAny_For ?_
      have hl2u := hus2p.length
      have hh2 := hullOk hnd hsmall hps0
      k_steps
      unfold StopW
      (rename Fr _ _ _ _ => F11); (rename News _ _ _ _ => N14)
      obtain ⟨r, hr⟩ := nameHead N14
      subst hr
      obtain ⟨tr, ur, vr, rfl, rfl, rfl⟩ := nameRng N14
      have hr1 : ∀ p ∈ (r, rngO us2.length tr ur vr) :: (78, tabObj tbw) :: (16, tabObj tbk) :: (95, tabObj #[]) :: (L9 + 1 + 1, o') :: (L9 + 1, oc) :: (l, lstO us n') :: (hl2, lstO us2 n2) :: nx, p.1 ≠ L9 + 1 + 1 + 1 := by
        intro p hp
        rcases List.mem_cons.mp hp with rfl | hp
        · exact Nat.ne_of_gt (‹∀ (p : Addr × Obj), p ∈ _ → p.1 < r› (L9 + 1 + 1 + 1, ok) (List.Mem.tail _ (List.Mem.tail _ (List.Mem.tail _ (List.Mem.tail _ (List.Mem.tail _ (List.Mem.head _)))))))
        rcases List.mem_cons.mp hp with rfl | hp
        · exact Nat.ne_of_lt (Nat.lt_succ_of_lt (Nat.lt_succ_of_lt (Nat.lt_succ_of_lt q78)))
        rcases List.mem_cons.mp hp with rfl | hp
        · exact Nat.ne_of_lt (Nat.lt_succ_of_lt (Nat.lt_succ_of_lt (Nat.lt_succ_of_lt q16)))
        rcases List.mem_cons.mp hp with rfl | hp
        · exact Nat.ne_of_lt (Nat.lt_succ_of_lt (Nat.lt_succ_of_lt (Nat.lt_succ_of_lt q95)))
        rcases List.mem_cons.mp hp with rfl | hp
        · exact (Nat.succ_ne_self _).symm
        rcases List.mem_cons.mp hp with rfl | hp
        · exact Nat.ne_of_lt (Nat.lt_succ_of_lt (Nat.lt_succ_self _))
        rcases List.mem_cons.mp hp with rfl | hp
        · exact Nat.ne_of_gt l8.1
        rcases List.mem_cons.mp hp with rfl | hp
        · exact Nat.ne_of_gt (hlt2 (L9 + 1 + 1 + 1, ok) (.tail _ (.tail _ (.tail _ (.tail _ (.head _))))))
        · exact Nat.ne_of_gt (Nat.lt_trans l9.2.1 (hnx p hp))
      have N15 : News _ _ _ ((L9 + 1 + 1 + 1, ok) :: (r, rngO us2.length tr ur vr) :: (78, tabObj tbw) :: (16, tabObj tbk) :: (95, tabObj #[]) :: (L9 + 1 + 1, o') :: (L9 + 1, oc) :: (l, lstO us n') :: (hl2, lstO us2 n2) :: nx) := newsPick N14 [6, 0, 1, 2, 8, 4, 7, 9, 5] 10
      clear N14
      refine iter_cell (n := us2.length) rfl F11 N15 hokd (.head _) (by lia) hr1 rfl rfl rfl ?_ ?_
      · clear N15 F11
        intro i ti I oI oc2 h12 tk12 E' hi hd2 F12 N16 offI
        k_steps
        unfold StopW
        have hle20 : us2.length ≤ 10 := by have := hh2.2; lia
        refine LCt.CompSrcT.ledger (by rfl) F12 N16 (.tail _ (.tail _ (.tail _ (.tail _ (.tail _ (.tail _ (.tail _ (.tail _ (.head _)))))))) ) (by rw [sizeLine_eq]; simp; lia) ?_
        intro g'
        refine compRestT_inv (J := fun j ys nw => nw = (L9 + 1 + 1 + 1, oc2) :: (I, oI) :: (r, rngO us2.length tr ur vr) :: (78, tabObj tbw) :: (16, tabObj tbk) :: (95, tabObj #[]) :: (L9 + 1 + 1, o') :: (L9 + 1, oc) :: (l, lstO us n') :: (hl2, lstO us2 n2) :: nx ∧ ys = []) ?_ ?_ _ 0 [] _ (Nat.zero_add _) ⟨rfl, rfl⟩
        · clear N16 F12
          rintro ys nw ⟨rfl, rfl⟩
          unfold LCg.FinE
          intro D9 h13 tk13 F13 N17 o13
          k_steps
          unfold StopW
          (rename Fr _ _ _ _ => F14); (rename News _ _ _ _ => N18)
          refine ne_lists (pn := []) (us := []) (vs := []) (ps := []) (Nat.le_of_ble_eq_true rfl) (Nat.le_of_ble_eq_true rfl) N18 (fun q hq => by cases hq) (.tail _ (.head _)) (.head _) .nil .nil ?_
          k_steps
          exact ForEndC.nxt F14 (newsSub N18 fun q hq => .tail _ (.tail _ hq)) hd2
        · clear N16 F12
          rintro j v I2 oI2 C2 oC2 D9 m3 h13 tk13 E2 ys nw hj ⟨rfl, rfl⟩ hv hC hx F13 N17 off ne
          obtain ⟨p, hpm, hpv⟩ := ptAt_mem hus (i := j) (v := v) (by simpa using hv)
          have hpv' := hpv
          obtain ⟨va, _, _, _, rfl, _⟩ := hpv'
          have hleft := hull_left hnd hsmall hps0 (k := i) (by lia) hpm
          have hsrc : ∀ g0 : Heap, LCg.SrcAt g0 l us.toArray ((L9 + 1 + 1 + 1, oc2) :: (I, oI) :: (r, rngO us2.length tr ur vr) :: (78, tabObj tbw) :: (16, tabObj tbk) :: (95, tabObj #[]) :: (L9 + 1 + 1, o') :: (L9 + 1, oc) :: (l, lstO us n') :: (hl2, lstO us2 n2) :: nx) := fun _ => .inr ⟨_, .tail _ (.tail _ (.tail _ (.tail _ (.tail _ (.tail _ (.tail _ (.tail _ (.head _)))))))), rfl, _, rfl⟩
          k_steps
          unfold StopW
          (rename PtIn nx _ (ptAt (hullP ps) ((i : Int) - 1)) => hq1)
          (rename PtIn nx _ (ptAt (hullP ps) (i : Int)) => hq0)
          (rename News _ _ _ _ => N18)
          refine' turn_at (pn := nx) ?tA ?th ?td ?tu ?tB ?tF ?tK ?tN ?tT hq1 hq0 hpv ?ts ?_
          (case tA => exact rfl); (case th => exact rfl); (case td => exact Nat.le_of_ble_eq_true rfl); (case tu => exact Nat.le_of_ble_eq_true rfl)
          (case tB => k_asm); (case tF => k_asm); (case tK => k_asm); (case tN => exact N18); (case tT => k_asm)
          (case ts => exact fun q hq => .tail _ (.tail _ (.tail _ (.tail _ (.tail _ (.tail _ (.tail _ (.tail _ (.tail _ (.tail _ (.tail _ (.tail _ (.tail _ hq)))))))))))))
          intro t1 h14 tk14 F15 N19
          clear F13 N18
          k_steps
          unfold StopW
          exact LCg.CompEnd.intro F15 N19 ((L9 + 1 + 1 + 1, oc2) :: (I, oI) :: (r, rngO us2.length tr ur vr) :: (78, tabObj tbw) :: (16, tabObj tbk) :: (95, tabObj #[]) :: (L9 + 1 + 1, o') :: (L9 + 1, oc) :: (l, lstO us n') :: (hl2, lstO us2 n2) :: nx) (fun p hp => hp) off (hsrc _) ⟨rfl, rfl⟩
      · clear N15 F11
        intro oc2 v2 h12 tk12 hd2 F12 N16
        k_steps
        unfold StopW
        have hps10 : ps.length ≤ 10 := by lia
        have hgp : ∀ {a : Nat} {v : Value}, us[a]? = some v → a < ps.length ∧ PtIn nx v (ps.getD a (0, 0)) := fun {a v} hv => by
          obtain ⟨p, e1, e2⟩ := hus.getV a v hv
          rw [List.getD_eq_getElem?_getD, e1]
          exact ⟨(List.getElem?_eq_some_iff.mp e1).1, e2⟩
        refine' nest3 (news := (L9 + 1 + 1 + 1, oc2) :: (r, rngO us2.length tr ur vr) :: (78, tabObj tbw) :: (16, tabObj tbk) :: (95, tabObj #[]) :: (L9 + 1 + 1, o') :: (L9 + 1, oc) :: (l, lstO us n') :: (hl2, lstO us2 n2) :: nx) (l := l) (vs := us) (n := n') (PTri ps) F12 rfl ?c1 ?c2 ?c3 ?c4 ?c5 ?c6 ?c7 ?c8 ?c9 ?c10 ?hl ?s1 ?s2 ?s3 ?first ?src2 ?src3 ?turn ?hP PTri.zero ?P3 ?P2 ?fin
        (case c1 => with_unfolding_all rfl); (case c2 => decide); (case c3 => rfl); (case c4 => decide); (case c5 => rfl); (case c6 => rfl); (case c7 => rfl); (case c8 => decide); (case c9 => decide); (case c10 => decide)
        case first =>
          exact wpAny_Name (wpAny_loadName_cell rfl rfl rfl ⟨oc, (N16 _ (.tail _ (.tail _ (.tail _ (.tail _ (.tail _ (.tail _ (.head _)))))))).1, hcell⟩ ⟨rfl, _, _, rfl, F12, N16⟩) (by decide)
        case hl => exact .tail _ (.tail _ (.tail _ (.tail _ (.tail _ (.tail _ (.tail _ (.head _)))))))
        (case s1 => intro _; rfl); (case s2 => intro _ _; rfl); (case s3 => intro _ _; rfl)
        case src2 =>
          intro C oC h tk m2 led E' hC F N hsub
          exact lcf_cell N rfl (.tail _ (hsub _ (.tail _ (.tail _ (.tail _ (.tail _ (.tail _ (.tail _ (.head _)))))))) ) hcell ⟨rfl, rfl⟩ rfl rfl
        case src3 =>
          intro C oC h tk m2 led E' hC F N hsub
          exact lcf_cell N rfl (.tail _ (hsub _ (.tail _ (.tail _ (.tail _ (.tail _ (.tail _ (.tail _ (.head _)))))))) ) hcell ⟨rfl, rfl⟩ rfl rfl
        case hP => exact fun i j k ys h => h.size hps10
        case P3 =>
          intro i j ys hj h
          rw [hul] at hj h
          exact h.next3 hj
        case P2 =>
          intro i ys hi h
          rw [hul] at hi h
          exact h.next2 hi
        case turn =>
          clear N16 F12
          intro i j k v1 v2 v3 C oC h13 tk13 m2 ys q1 q2 q3 q4 E' hv1 hv2 hv3 hp hC hx1 hx2 hx3 F13 N17
          obtain ⟨hi1, hp1⟩ := hgp hv1
          obtain ⟨hj1, hp2⟩ := hgp hv2
          obtain ⟨hk1, hp3⟩ := hgp hv3
          k_steps
          unfold StopW
          (rename News _ _ _ _ => N18)
          refine' turn_at (pn := nx) ?tA ?th ?td ?tu ?tB ?tF ?tK ?tN ?tT hp1 hp2 hp3 ?ts ?_
          (case tA => exact rfl); (case th => exact rfl); (case td => exact Nat.le_of_ble_eq_true rfl); (case tu => exact Nat.le_of_ble_eq_true rfl)
          (case tB => k_asm); (case tF => k_asm); (case tK => k_asm); (case tN => exact N18); (case tT => k_asm)
          (case ts => exact fun q hq => .tail _ (.tail _ (.tail _ (.tail _ (.tail _ (.tail _ (.tail _ (.tail _ (.tail _ (.tail _ (.tail _ (.tail _ (.tail _ (.tail _ hq))))))))))))))
          intro t1 h14 tk14 F15 N19
          clear N18 F13
          k_steps
          refine ⟨⟨_, _, rfl, F15, N19⟩, ?_⟩
          by_cases ht : turn (ps.getD i (0, 0)) (ps.getD j (0, 0)) (ps.getD k (0, 0)) = 0
          · rw [if_neg (by rw [ht]; decide)]
            exact hp.no hk1 ht
          · rw [if_pos (bne_iff_ne.mpr ht)]
            intro E5
            k_steps
            exact ⟨⟨_, rfl⟩, hp.yes hi1 hj1 hk1 ht⟩
        case fin =>
          clear N16 F12
          intro D9 h13 tk13 ys hp F13 N17 offD
          rw [hul] at hp
          k_steps
          unfold StopW
          (rename News _ _ _ _ => N18)
          refine eq_empty (vs := ys) (n := ys.length) (n' := 0) (Nat.le_of_ble_eq_true rfl) N18 (.tail _ (.head _)) (.head _) ?_
          have hsz := hull_size hnd hsmall hps0
          have hline : (sizeP (hullP ps) == 0) = ys.isEmpty := by
            rw [Bool.eq_iff_iff, beq_iff_eq, List.isEmpty_iff]
            exact hsz.2.trans hp.fin.symm
          have hszn := hsz.1
          clear hsz
          generalize ys.isEmpty = bl at *
          k_steps
          unfold StopW
          (rename Fr _ _ _ _ => F14); (rename News _ _ _ _ => N19)
          have big95 : ∀ p ∈ (16, tabObj tbk) :: (78, tabObj tbw) :: (L9 + 1 + 1, o') :: (L9 + 1 + 1 + 1, oc2) :: (L9 + 1, oc) :: (l, lstO us n') :: (hl2, lstO us2 n2) :: nx, p.1 ≠ 95 := by
            intro p hq
            rcases List.mem_cons.mp hq with rfl | hq
            · exact (by decide : (16 : Nat) ≠ 95)
            rcases List.mem_cons.mp hq with rfl | hq
            · exact (by decide : (78 : Nat) ≠ 95)
            rcases List.mem_cons.mp hq with rfl | hq
            · exact Nat.ne_of_gt (Nat.lt_succ_of_lt (Nat.lt_succ_of_lt q95))
            rcases List.mem_cons.mp hq with rfl | hq
            · exact Nat.ne_of_gt (Nat.lt_succ_of_lt (Nat.lt_succ_of_lt (Nat.lt_succ_of_lt q95)))
            rcases List.mem_cons.mp hq with rfl | hq
            · exact Nat.ne_of_gt (Nat.lt_succ_of_lt q95)
            rcases List.mem_cons.mp hq with rfl | hq
            · exact Nat.ne_of_gt l8.2.2.2.1
            rcases List.mem_cons.mp hq with rfl | hq
            · exact Nat.ne_of_gt (hlt2 (95, tabObj #[]) (List.Mem.tail _ (List.Mem.tail _ (List.Mem.head _))))
            · exact Nat.ne_of_gt (Nat.lt_trans l9.2.2.2.2.1 (hnx p hq))
          have N20 : News _ _ _ ((95, tabObj #[]) :: (16, tabObj tbk) :: (78, tabObj tbw) :: (L9 + 1 + 1, o') :: (L9 + 1 + 1 + 1, oc2) :: (L9 + 1, oc) :: (l, lstO us n') :: (hl2, lstO us2 n2) :: nx) := newsPick N19 [6, 5, 4, 7, 2, 8, 9, 10] 11
          clear N19
          refine' around 6 _ _ _ _ _ _ _ _ _ _ ?uA ?uh ?ud ?uu ?_
          (case uA => exact rfl); (case uh => exact rfl); (case ud => exact Nat.le_of_ble_eq_true rfl); (case uu => exact Nat.le_of_ble_eq_true rfl)
          refine' size_call (l := hl2) (vs := us2) (ps := hullP ps) (n := n2) ?uB F14 ?uK N20 ?uT (.inl rfl) big95 (.tail _ (.tail _ (.tail _ (.tail _ (.tail _ (.tail _ (.head _))))))) (hus2p.mono fun q hq => (.tail _ (.tail _ (.tail _ (.tail _ (.tail _ (.tail _ (.tail _ hq)))))))) hl20 ?_
          (case uB => k_asm); (case uK => k_asm); (case uT => k_asm)
          intro tb5 nw5 t5 h15 tk15 hTS5 hsub5 hne5 F15 N21
          have N22 : News _ _ _ ((95, tabObj tb5) :: (16, tabObj tbk) :: (78, tabObj tbw) :: (L9 + 1 + 1, o') :: (L9 + 1 + 1 + 1, oc2) :: (L9 + 1, oc) :: (l, lstO us n') :: (hl2, lstO us2 n2) :: nw5) := newsIns N21 hsub5 [0, 1, 2, 3, 4, 5, 6]
          clear N21 N20 F14
          have hTS5' : TabS tb5 ((16, tabObj tbk) :: (78, tabObj tbw) :: (L9 + 1 + 1, o') :: (L9 + 1 + 1 + 1, oc2) :: (L9 + 1, oc) :: (l, lstO us n') :: (hl2, lstO us2 n2) :: nw5) := hTS5.mono fun q hq => (.tail _ (.tail _ (.tail _ (.tail _ (.tail _ (.tail _ (.tail _ hq)))))))
          have hne5' : ∀ p ∈ (16, tabObj tbk) :: (78, tabObj tbw) :: (L9 + 1 + 1, o') :: (L9 + 1 + 1 + 1, oc2) :: (L9 + 1, oc) :: (l, lstO us n') :: (hl2, lstO us2 n2) :: nw5, p.1 ≠ 95 := allPick big95 hne5 [0, 1, 2, 3, 4, 5, 6]
          have hsx5 : ∀ q ∈ nx, q ∈ nw5 := fun q hq => hsub5 _ (.tail _ (.tail _ (.tail _ (.tail _ (.tail _ (.tail _ (.tail _ hq)))))))
          clear big95 hTS5 hsub5 hne5
          k_steps
          unfold StopW
          refine' around 6 _ _ _ _ _ _ _ _ _ _ ?vA ?vh ?vd ?vu ?_
          (case vA => exact rfl); (case vh => exact rfl); (case vd => exact Nat.le_of_ble_eq_true rfl); (case vu => exact Nat.le_of_ble_eq_true rfl)
          refine' size_call (l := hl2) (vs := us2) (ps := hullP ps) (n := n2) ?vB F15 ?vK N22 ?vT hTS5' hne5' (.tail _ (.tail _ (.tail _ (.tail _ (.tail _ (.tail _ (.head _))))))) (hus2p.mono fun q hq => (.tail _ (.tail _ (.tail _ (.tail _ (.tail _ (.tail _ (.tail _ (hsx5 q hq))))))))) hl20 ?_
          (case vB => k_asm); (case vK => k_asm); (case vT => k_asm)
          intro tb6 nw6 t6 h16 tk16 hTS6 hsub6 hne6 F16 N23
          have N24 : News _ _ _ ((95, tabObj tb6) :: (16, tabObj tbk) :: (78, tabObj tbw) :: (L9 + 1 + 1, o') :: (L9 + 1 + 1 + 1, oc2) :: (L9 + 1, oc) :: (l, lstO us n') :: (hl2, lstO us2 n2) :: nw6) := newsIns N23 hsub6 [0, 1, 2, 3, 4, 5, 6]
          clear N23 N22 F15 hTS5'
          have hne6' : ∀ p ∈ (16, tabObj tbk) :: (78, tabObj tbw) :: (L9 + 1 + 1, o') :: (L9 + 1 + 1 + 1, oc2) :: (L9 + 1, oc) :: (l, lstO us n') :: (hl2, lstO us2 n2) :: nw6, p.1 ≠ 95 := allPick hne5' hne6 [0, 1, 2, 3, 4, 5, 6]
          have hsx6 : ∀ q ∈ nx, q ∈ nw6 := fun q hq => hsub6 _ (.tail _ (.tail _ (.tail _ (.tail _ (.tail _ (.tail _ (.tail _ (hsx5 q hq))))))))
          clear hne5' hsx5 hsub6 hne6
          k_steps
          unfold StopW
          refine isNot_bools hline ?_
          k_steps
          unfold StopW
          (rename Fr _ _ _ _ => F17); (rename News _ _ _ _ => N25)
          refine LCp.SrcLP.ledger (by rfl) F17 N25 (.tail _ (.tail _ (.tail _ (.tail _ (.tail _ (.tail _ (.head _))))))) (by rw [sizeLine_eq]; simp; lia) ?_
          intro g'
          refine compRestP_inv (J := fun i ys nw => ∃ ex, nw = ex ++ ((95, tabObj tb6) :: (16, tabObj tbk) :: (78, tabObj tbw) :: (L9 + 1 + 1, o') :: (L9 + 1 + 1 + 1, oc2) :: (L9 + 1, oc) :: (l, lstO us n') :: (hl2, lstO us2 n2) :: nw6) ∧ (∀ q ∈ ex, q.1 ≠ 95) ∧ PtsIn ex ys ((ps.take i).map rho)) ?_ ?_ _ 0 [] _ (Nat.zero_add _) ⟨[], rfl, (fun q hq => by cases hq), .nil⟩
          · clear N25 F17
            rintro ys nw ⟨ex, rfl, hex, hys⟩
            rw [List.take_of_length_le (show ps.length ≤ us.toArray.size by simp; lia)] at hys
            unfold LCg.FinE
            intro Dm h17 tk17 F18 N26 oDm
            k_steps
            unfold StopW
            (rename News _ _ _ _ => N27); (rename Fr _ _ _ _ => F19)
            have hyl := hys.length
            rw [List.length_map] at hyl
            have N28 : News _ _ _ ((95, tabObj tb6) :: (16, tabObj tbk) :: (78, tabObj tbw) :: (L9 + 1 + 1, o') :: (L9 + 1 + 1 + 1, oc2) :: (L9 + 1, oc) :: (l, lstO us n') :: (hl2, lstO us2 n2) :: (Dm, LCg.lst ys) :: (ex ++ nw6)) := newsMid N27 [0, 1, 2, 3, 4, 5, 6, 7] 8
            clear N27
            refine' around 6 _ _ _ _ _ _ _ _ _ _ ?wA ?wh ?wd ?wu ?_
            (case wA => exact rfl); (case wh => exact rfl); (case wd => exact Nat.le_of_ble_eq_true rfl); (case wu => exact Nat.le_of_ble_eq_true rfl)
            refine' chained_call (l := Dm) (vs := ys) (ps := ps.map rho) (n := ys.length) ?wB F19 ?wK N28 ?wT (.tail _ (.tail _ (.tail _ (.tail _ (.tail _ (.tail _ (.tail _ (.tail _ (.head _))))))))) (hys.mono fun q hq => (.tail _ (.tail _ (.tail _ (.tail _ (.tail _ (.tail _ (.tail _ (.tail _ (.tail _ (List.mem_append_left _ hq))))))))))) (by lia) (nodup_map_rho hnd) ?_
            (case wB => k_asm); (case wK => k_asm); (case wT => k_asm)
            intro hl3 us5 n5 h18 tk18 hus5 hl50 hlt5 F20 N29
            have hus5p := hus5.strip tab_no
            have hl395 : hl3 ≠ 95 := Nat.ne_of_gt (hlt5 (95, tabObj tb6) (List.Mem.head _))
            obtain ⟨nw7, hnw7⟩ : ∃ x, x = (Dm, LCg.lst ys) :: (ex ++ nw6) := ⟨_, rfl⟩
            have hsub67 : ∀ q ∈ nw6, q ∈ nw7 := fun q hq => by rw [hnw7]; exact .tail _ (List.mem_append_right _ hq)
            have hne7 : ∀ p ∈ nw7, p.1 ≠ 95 := fun p hq => by
              rw [hnw7] at hq
              rcases List.mem_cons.mp hq with rfl | hq
              · exact (off1_mem oDm (95, tabObj tb6) (List.mem_append_right _ (.head _))).symm
              rcases List.mem_append.mp hq with hq | hq
              · exact hex p hq
              · exact hne6' p (.tail _ (.tail _ (.tail _ (.tail _ (.tail _ (.tail _ (.tail _ hq)))))))
            rw [← hnw7] at N29 hus5p
            have hsx7 : ∀ q ∈ nx, q ∈ nw7 := fun q hq => hsub67 q (hsx6 q hq)
            have hTS7 : TabS tb6 nw7 := hTS6.mono hsub67
            have hne7' : ∀ p ∈ (hl3, lstO us5 n5) :: (16, tabObj tbk) :: (78, tabObj tbw) :: (L9 + 1 + 1, o') :: (L9 + 1 + 1 + 1, oc2) :: (L9 + 1, oc) :: (l, lstO us n') :: (hl2, lstO us2 n2) :: nw7, p.1 ≠ 95 := fun p hq => by
              rcases List.mem_cons.mp hq with rfl | hq
              · exact hl395
              exact allPick hne6' hne7 [0, 1, 2, 3, 4, 5, 6] p hq
            have N30 : News _ _ _ ((95, tabObj tb6) :: (hl3, lstO us5 n5) :: (16, tabObj tbk) :: (78, tabObj tbw) :: (L9 + 1 + 1, o') :: (L9 + 1 + 1 + 1, oc2) :: (L9 + 1, oc) :: (l, lstO us n') :: (hl2, lstO us2 n2) :: nw7) := newsPick N29 [1, 0, 2, 3, 4, 5, 6, 7, 8] 9
            clear N29 N28 F19 hus5 hnw7 hlt5 hsub67 hne7 hne6' hTS6 hsx6 oDm hys hex
            have hmm := hull_mirror hnd hsmall hps0
            have hps3 : ps.map rho ≠ [] := fun e => hps0 (List.map_eq_nil_iff.mp e)
            have hok3 := hullOk (nodup_map_rho hnd) (fun x hx => by
              obtain ⟨y, hy, rfl⟩ := List.mem_map.mp hx
              exact small_rho (hsmall y hy)) hps3
            have hlen3 : (hullP (ps.map rho)).length ≤ 10 := by
              have := hok3.2
              rw [List.length_map] at this
              lia
            have hpos3 : 0 < (hullP (ps.map rho)).length := hok3.1.pos
            have hu5 := hus5p.length
            k_steps
            unfold StopW
            (rename Fr _ _ _ _ => F21); (rename News _ _ _ _ => N31)
            refine LCp.SrcLP.ledger (by rfl) F21 N31 (.tail _ (.head _)) (by rw [sizeLine_eq]; simp; lia) ?_
            intro g2
            refine compRestP_inv (J := fun i ys nw => ∃ ex, nw = ex ++ ((95, tabObj tb6) :: (hl3, lstO us5 n5) :: (16, tabObj tbk) :: (78, tabObj tbw) :: (L9 + 1 + 1, o') :: (L9 + 1 + 1 + 1, oc2) :: (L9 + 1, oc) :: (l, lstO us n') :: (hl2, lstO us2 n2) :: nw7) ∧ (∀ q ∈ ex, q.1 ≠ 95) ∧ PtsIn ex ys (((hullP (ps.map rho)).take i).map rho)) ?_ ?_ _ 0 [] _ (Nat.zero_add _) ⟨[], rfl, (fun q hq => by cases hq), .nil⟩
            · clear N31 F21
              rintro ys2 nw ⟨ex2, rfl, hex2, hys2⟩
              rw [List.take_of_length_le (show (hullP (ps.map rho)).length ≤ us5.toArray.size by simp; lia)] at hys2
              unfold LCg.FinE
              intro D2 h19 tk19 F22 N32 oD2
              have N33 : News _ _ _ ((95, tabObj tb6) :: (hl3, lstO us5 n5) :: (16, tabObj tbk) :: (78, tabObj tbw) :: (L9 + 1 + 1, o') :: (L9 + 1 + 1 + 1, oc2) :: (L9 + 1, oc) :: (l, lstO us n') :: (hl2, lstO us2 n2) :: (D2, LCg.lst ys2) :: (ex2 ++ nw7)) := newsMid N32 [0, 1, 2, 3, 4, 5, 6, 7, 8] 9
              clear N32
              k_steps
              unfold StopW
              refine sorted_pts (pn := ex2) (vs := ys2) (n := ys2.length) F22 N33 (.tail _ (.tail _ (.tail _ (.tail _ (.tail _ (.tail _ (.tail _ (.tail _ (.tail _ (.head _)))))))))) (fun q hq => (.tail _ (.tail _ (.tail _ (.tail _ (.tail _ (.tail _ (.tail _ (.tail _ (.tail _ (.tail _ (List.mem_append_left _ hq)))))))))))) hys2 hmm.2.1 (by rw [List.length_map]; exact hpos3) (by rw [List.length_map]; lia) ?_
              intro D3 us6 c6 h20 qs6 hqs6 hpe6 hso6 F23 N34 lt6
              clear N33 F22 lt6
              k_steps
              unfold StopW
              (rename Fr _ _ _ _ => F24); (rename News _ _ _ _ => N35)
              have hl2pos : 0 < (hullP ps).length := hh2.1.pos
              refine sorted_pts (pn := nx) (vs := us2) (n := n2) F24 N35 (.tail _ (.tail _ (.tail _ (.tail _ (.tail _ (.tail _ (.tail _ (.tail _ (.tail _ (.head _)))))))))) (fun q hq => (.tail _ (.tail _ (.tail _ (.tail _ (.tail _ (.tail _ (.tail _ (.tail _ (.tail _ (.tail _ (.tail _ (List.mem_append_right _ (hsx7 q hq)))))))))))))) hus2p hmm.2.2.1 hl2pos (by lia) ?_
              intro D4 us7 c7 h21 qs7 hqs7 hpe7 hso7 F25 N36 lt7
              clear N35 F24 lt7
              have hqq : qs7 = qs6 := sorted_uniq (fun p => (hpe7.mem_iff.trans (hmm.1 p).symm).trans hpe6.mem_iff.symm) hso7 hso6 (hpe7.nodup_iff.mpr hmm.2.2.1) (hpe6.nodup_iff.mpr hmm.2.1)
              rw [hqq] at hqs7
              clear hpe6 hpe7 hso6 hso7 hqq
              k_steps
              unfold StopW
              (rename Fr _ _ _ _ => F26); (rename News _ _ _ _ => N37)
              refine eq_lists (pn := ex2 ++ nx) (us := us6) (vs := us7) (ps := qs6) (Nat.le_of_ble_eq_true rfl) (Nat.le_of_ble_eq_true rfl) N37 (fun q hq => by
                refine (.tail _ (.tail _ (.tail _ (.tail _ (.tail _ (.tail _ (.tail _ (.tail _ (.tail _ (.tail _ (.tail _ (.tail _ ?_))))))))))))
                rcases List.mem_append.mp hq with hq | hq
                · exact List.mem_append_left _ hq
                · exact List.mem_append_right _ (hsx7 q hq)) (.tail _ (.head _)) (.head _) (hqs6.mono fun q hq => List.mem_append_left _ hq) (hqs7.mono fun q hq => List.mem_append_right _ hq) ?_
              have N38 : News _ _ _ ((95, tabObj tb6) :: (hl3, lstO us5 n5) :: (16, tabObj tbk) :: (78, tabObj tbw) :: (L9 + 1 + 1, o') :: (L9 + 1 + 1 + 1, oc2) :: (L9 + 1, oc) :: (l, lstO us n') :: (hl2, lstO us2 n2) :: nw7) := newsPickT N37 [2, 3, 4, 5, 6, 7, 8, 9, 10] fun q hq => (.tail _ (.tail _ (.tail _ (.tail _ (.tail _ (.tail _ (.tail _ (.tail _ (.tail _ (.tail _ (.tail _ (.tail _ (List.mem_append_right _ hq)))))))))))))
              clear N37 hqs6 hqs7
              k_steps
              unfold StopW
              (rename Fr _ _ _ _ => F27); (rename News _ _ _ _ => N39)
              refine' around 6 _ _ _ _ _ _ _ _ _ _ ?xA ?xh ?xd ?xu ?_
              (case xA => exact rfl); (case xh => exact rfl); (case xd => exact Nat.le_of_ble_eq_true rfl); (case xu => exact Nat.le_of_ble_eq_true rfl)
              refine' size_call (l := hl3) (vs := us5) (ps := hullP (ps.map rho)) (n := n5) ?xB F27 ?xK N39 ?xT (hTS7.mono fun q hq => (.tail _ (.tail _ (.tail _ (.tail _ (.tail _ (.tail _ (.tail _ (.tail _ hq))))))))) hne7' (.head _) (hus5p.mono fun q hq => .tail _ hq) hl50 ?_
              (case xB => k_asm); (case xK => k_asm); (case xT => k_asm)
              intro tb8 nw8 t8 h22 tk22 hTS8 hsub8 hne8 F28 N40
              rw [hmm.2.2.2]
              have N41 : News _ _ _ ((95, tabObj tb8) :: (16, tabObj tbk) :: (78, tabObj tbw) :: (L9 + 1 + 1, o') :: (L9 + 1 + 1 + 1, oc2) :: (L9 + 1, oc) :: (l, lstO us n') :: (hl2, lstO us2 n2) :: nw8) := newsIns N40 hsub8 [1, 2, 3, 4, 5, 6, 7]
              have hne8' : ∀ p ∈ (16, tabObj tbk) :: (78, tabObj tbw) :: (L9 + 1 + 1, o') :: (L9 + 1 + 1 + 1, oc2) :: (L9 + 1, oc) :: (l, lstO us n') :: (hl2, lstO us2 n2) :: nw8, p.1 ≠ 95 := allPick hne7' hne8 [1, 2, 3, 4, 5, 6, 7]
              have hsx8 : ∀ q ∈ nx, q ∈ nw8 := fun q hq => hsub8 _ (.tail _ (.tail _ (.tail _ (.tail _ (.tail _ (.tail _ (.tail _ (.tail _ (hsx7 q hq)))))))))
              clear N40 N39 F27 hne8
              k_steps
              unfold StopW
              (rename Fr _ _ _ _ => F29); (rename News _ _ _ _ => N42)
              refine' around 6 _ _ _ _ _ _ _ _ _ _ ?yA ?yh ?yd ?yu ?_
              (case yA => exact rfl); (case yh => exact rfl); (case yd => exact Nat.le_of_ble_eq_true rfl); (case yu => exact Nat.le_of_ble_eq_true rfl)
              refine' size_call (l := hl2) (vs := us2) (ps := hullP ps) (n := n2) ?yB F29 ?yK N42 ?yT (hTS8.mono fun q hq => (.tail _ (.tail _ (.tail _ (.tail _ (.tail _ (.tail _ (.tail _ hq)))))))) hne8' (.tail _ (.tail _ (.tail _ (.tail _ (.tail _ (.tail _ (.head _))))))) (hus2p.mono fun q hq => (.tail _ (.tail _ (.tail _ (.tail _ (.tail _ (.tail _ (.tail _ (hsx8 q hq))))))))) hl20 ?_
              (case yB => k_asm); (case yK => k_asm); (case yT => k_asm)
              intro tb9 nw9 t9 h23 tk23 hTS9 hsub9 hne9 F30 N43
              have N44 : News _ _ _ ((95, tabObj tb9) :: (16, tabObj tbk) :: (78, tabObj tbw) :: nw9) := newsIns N43 hsub9 [0, 1]
              clear N43 N42 F29
              have hbb : (sizeP (hullP ps) == sizeP (hullP ps)) = true := beq_self_eq_true _
              k_steps
              subst hgn9 hdr9 hos9
              refine hq9 _ _ ?_
              k_steps
            · clear N31 F21
              rintro i v ys2 nw hi ⟨ex2, rfl, hex2, hys2⟩ hv
              obtain ⟨p, hpi, hpv⟩ := hus5p.getV i v (by simpa using hv)
              obtain ⟨ap, tp1, tp2, np, rfl, hpm, hpsm⟩ := hpv
              refine ⟨ap, ptO p.1 p.2 tp1 tp2 np, .int p.1 tp1, .int p.2 tp2, np, rfl, List.mem_append_right _ (.tail _ (.tail _ hpm)), rfl, rfl, ?_⟩
              intro I oI C oC D2 m2 h19 tk19 E' hC hx1 hx2 F22 N32 off ne
              k_steps
              unfold StopW
              exact mirror_end (by assumption) (by assumption) (by assumption) off (.tail _ (.head _)) (.head _) hex2 hys2 hpi hpsm
          · clear N25 F17
            rintro i v ys nw hi ⟨ex, rfl, hex, hys⟩ hv
            obtain ⟨p, hpi, hpv⟩ := hus.getV i v (by simpa using hv)
            obtain ⟨ap, tp1, tp2, np, rfl, hpm, hpsm⟩ := hpv
            refine ⟨ap, ptO p.1 p.2 tp1 tp2 np, .int p.1 tp1, .int p.2 tp2, np, rfl, List.mem_append_right _ ((.tail _ (.tail _ (.tail _ (.tail _ (.tail _ (.tail _ (.tail _ (.tail _ (hsx6 _ hpm)))))))))), rfl, rfl, ?_⟩
            intro I oI C oC Dm m2 h17 tk17 E' hC hx1 hx2 F18 N26 off ne
            k_steps
            unfold StopW
            exact mirror_end (by assumption) (by assumption) (by assumption) off (.tail _ (.tail _ (.tail _ (.tail _ (.tail _ (.tail _ (.head _))))))) (.head _) hex hys hpi hpsm)
end Mine
end

theorem PySem.Challenge.cw_xi0007_01_holds : PySem.Challenge.rw_xi0007_01.Holds :=
  Mine.law_holds
