import PyProof.Rows.All
import Wide.All
import OpenK.AllK
import Wide.FinOn
import Lean
import PySem.Challenge.RW_mq0143_01
set_option Elab.async false
set_option linter.unusedVariables false

section Mhead
open PySem PySem.W PyProof.Rows
namespace Mine
set_option maxRecDepth 100000 in
set_option maxHeartbeats 8000000 in
open_top hd for PySem.Challenge.rw_mq0143_01
end Mine
end Mhead

section Mbase
open PySem PySem.W PySem.Calls PyProof.Rows
namespace Mine
abbrev PR : Program := PySem.Challenge.rw_mq0143_01.row.prog
abbrev TR (mg mb : Str → Option Value) (h : Heap) : Prop := TopRead hd.view_39 (looseW hd.view_39 []) mg mb h
noncomputable def Keep (h h' : Heap) : Prop := ∀ b o, h.get? b = some o → h'.get? b = some o
theorem Keep.refl (h : Heap) : Keep h h := fun _ _ e => e
theorem Keep.trans {a b c : Heap} (x : Keep a b) (y : Keep b c) : Keep a c := fun d o e => y d o (x d o e)

theorem enterP {w : World} {A : Around} {s : Shared} {K : Frag} {mg mb : Str → Option Value} {p : Program} {loose : List Str} {Q E : Value → Shared → Prop} {name qual : Str} {params : Arguments} {body : List Stmt} {scope : Scope} {dV kV doc pm cdv ct oc : Value} {an od : Option Addr} {osl : Array (Option Value)} {f : Addr} {pos : List Value} {kw : List (Str × Value)} {binds : List (Str × Value)}
    (X : K.In s.heap) (T : TopRead p loose mg mb s.heap)
    (ho : K.lookup f = some ⟨oc, od, .func (fnOf name qual params body scope dV kV doc pm an cdv ct), osl⟩) (hcd : codeIn K cdv qual = true) (hroom : A.depth < recursionLimit)
    (hbind : BindsTo s (fnOf name qual params body scope dV kV doc pm an cdv ct) ⟨pos, kw⟩ binds) (hloc : ∀ y ∈ binds, scope.names.lookup y.1 = some .local)
    (h : ∀ L' h₁, Fr s.heap L' h₁ (fun y => binds.reverse.lookup y) → News s.heap L' h₁ [] →
      wpAny (model PR w) (A.deeper (envOf qual scope L' f cdv)) (execs body (envOf qual scope L' f cdv))
        (fun fl s' => Q (match fl with | .ret v => v | _ => .none) s') (fun _ _ => False)
        { s with heap := h₁, toks := s.toks + binds.length })
    (hco : scope.isCoroutine = false) (hgen : scope.isGenerator = false) (hk : scope.kind = .function)
    (hcell : ∀ x ∈ scope.names, x.2 ≠ .cell) : wpAny (model PR w) A (call (.ref f) pos kw) Q E s := by
  refine wpAny_call (codeAny_call_def (fd := fnOf name qual params body scope dV kV doc pm an cdv ct) (body := body) (binds := binds) hroom (X _ _ ho) rfl T.nolimit (codeRec_of X hcd) rfl hbind hcell hloc (fun h₁ hns hk₁ => ?_) hco hgen hk)
  exact wpAny_mono (h s.heap.objs.size h₁ ⟨hns, hk₁, Nat.le_refl _⟩ News.nil) (fun _ _ x => x) (fun _ _ x => x.elim)

theorem enterC {w : World} {A : Around} {s : Shared} {K : Frag} {mg mb : Str → Option Value} {p : Program} {loose : List Str} {Q E : Value → Shared → Prop} {name qual : Str} {params : Arguments} {body : List Stmt} {scope : Scope} {dV kV doc pm cdv ct oc : Value} {an od : Option Addr} {osl : Array (Option Value)} {f : Addr} {pos : List Value} {kw : List (Str × Value)} {binds : List (Str × Value)}
    (X : K.In s.heap) (T : TopRead p loose mg mb s.heap)
    (ho : K.lookup f = some ⟨oc, od, .func (fnOf name qual params body scope dV kV doc pm an cdv ct), osl⟩) (hcd : codeIn K cdv qual = true) (hroom : A.depth < recursionLimit)
    (hbind : BindsTo s (fnOf name qual params body scope dV kV doc pm an cdv ct) ⟨pos, kw⟩ binds) (hkind : (binds.all fun y => scope.names.lookup y.1 == some .local || scope.names.lookup y.1 == some .cell) = true)
    (hnd : ((cellsFrom 0 scope.names []).map (·.1)).Nodup)
    (h : ∀ L' h₁ tk cells, Fr s.heap L' h₁ (bindL (envOfC qual scope L' f cdv).kindOf binds fun _ => none) → News s.heap L' h₁ cells →
      CellsAre (bindC (envOfC qual scope L' f cdv).kindOf binds fun _ => none) (cellsFrom (L' + 1) scope.names []) cells →
      wpAny (model PR w) (A.deeper (envOfC qual scope L' f cdv)) (execs body (envOfC qual scope L' f cdv))
        (fun fl s' => Q (match fl with | .ret v => v | _ => .none) s') (fun _ _ => False)
        { s with heap := h₁, toks := tk })
    (hco : scope.isCoroutine = false) (hgen : scope.isGenerator = false) (hk : scope.kind = .function) : wpAny (model PR w) A (call (.ref f) pos kw) Q E s := by
  refine wpAny_call (codeAny_call_function hroom (X _ _ ho) rfl hco hgen rfl (codeRec_of X hcd) (hbind _ _ _ _ ?_))
  refine wpAny_newFunctionEnv_cells hk (kindsX hkind _) fun env' he s' x => ?_
  subst he
  refine ⟨T.nolimit.keeps x.toInCall.keep, codeAny_func ?_⟩
  obtain ⟨h₁, tk, rfl, _⟩ := x.done
  have hk₁ := x.toInCall.keep
  obtain ⟨cells, NC, Y⟩ := Cl.news (h₀ := s.heap) (Nat.le_refl _) fun n c hm => ⟨x.cell n c (lookup_of_mem_nodup (cellsFrom_names scope.names 0 (s.heap.objs.size + 1) [] [] rfl ▸ hnd) hm), x.above n c hm⟩
  exact wpAny_mono (h s.heap.objs.size h₁ tk cells ⟨x.toInCall.ns, hk₁, Nat.le_refl _⟩ NC Y) (fun _ _ x => x) (fun _ _ x => x.elim)
end Mine
end Mbase

section Mpiece
open PySem PySem.W PySem.Calls PyProof.Rows
namespace Mine
theorem fill (w : World) : hd.heap_39 w.params = hd.heap_39 w.params ∧ PySem.Challenge.rw_mq0143_01 = PySem.Challenge.rw_mq0143_01 := by
  k_fill
  exact ⟨rfl, rfl⟩
noncomputable def pieceF (x : Int) (b : Bool) : Str :=
  if x.fmod 16 = 10 then Txt.item (Str.ofString "\t\n\r") ((x.fdiv 16).fmod 3)
  else if x.fmod 16 = 11 then Txt.item (Str.ofString "/\\:;\"()") ((x.fdiv 16).fmod 7)
  else if x.fmod 16 = 15 then (if b = true then Str.ofString "..." else Str.ofString "5.1")
  else ([Str.ofString "", Str.ofString "a", Str.ofString "b", Str.ofString "", Str.ofString "a", Str.ofString "unknown", Str.ofString "un", Str.ofString "known", Str.ofString "-", Str.ofString " ", Str.ofString "", Str.ofString "", Str.ofString "a", Str.ofString "b", Str.ofString "b-a"] : List Str).getD (x.fmod 16).toNat Str.empty
theorem endS {Q : Value → Shared → Prop} {a b : Str} {t : Tok} {s : Shared} (h : Q (.str b t) s) (e : a = b) : Q (.str a t) s := e ▸ h
set_option maxRecDepth 100000 in
set_option maxHeartbeats 8000000 in
theorem piece_spec {w : World} {mg mb : Str → Option Value} {e1 e2 : Env} {s : Shared} {x : Int} {t : Tok} {b : Bool} {Q E : Value → Shared → Prop}
    (X : (hd.heap_39 w.params).In s.heap) (T : TR mg mb s.heap)
    (h : ∀ h' tk t', Keep s.heap h' → Q (.str (pieceF x b) t') { s with heap := h', toks := tk }) :
    wpAny (model PR w) ((callerA.deeper e1).deeper e2) (call (.ref 35) [.int x t, .bool b]) Q E s := by
  k_with_none
  refine' enterP (binds := [(Str.ofString "x", .int x t), (Str.ofString "hidden", .bool b)]) X T ?k6 ?k7 ?k8 ?k9 ?kB ?_ ?c2 ?c3 ?c4 ?c5
  (case k6 => k_is); (case k7 => k_is); (case k8 => k_room); (case k9 => exact BindsTo.of_eq rfl); (case c5 => decide); (case kB => exact locs rfl); (case c2 => exact rfl); (case c3 => exact rfl); (case c4 => exact rfl); 
  k_whole
  intro L' h' F' N'
  try dsimp only
  try k_fold
  k_steps
  all_goals (try dsimp only)
  all_goals (try k_unfold)
  all_goals (try dsimp only)
  all_goals (refine endS (h _ _ _ (Fr.keep (by assumption))) ?_; simp only [pieceF, *, if_true, if_false, reduceIte]; try rfl)
end Mine
end Mpiece

section Mrules
open PySem PySem.W PySem.Calls PyProof.Rows
namespace Mine
section
variable {prog : Program} {w : World} {A : Around} {E : Value → Shared → Prop} {s : Shared} {h₀ : Heap} {L D a b : Addr} {m : Str → Option Value} {news news' : List (Addr × Obj)} {vs : List Value} {xs : List Str} {n : Nat}
theorem eq_nil {Q : Value → Shared → Prop} (ha : s.heap.IsList a vs.toArray) (hb : s.heap.IsList b (#[] : Array Value)) (hu : A.units < cLine) (h : Q (.bool (decide (vs = []))) s) :
    wpAny (model prog w) A (compareOp .Eq (.ref a) (.ref b)) Q E s := by
  cases vs with
  | nil => exact SeqAt.eq_listAt (e := fun _ => true) ha hb rfl hu (fun j h1 _ => absurd h1 (Nat.not_lt_zero _)) h
  | cons v r => exact SeqAt.eq_list_lengthsAt ha hb (by simp) hu h
theorem ne_nil {Q : Value → Shared → Prop} (ha : s.heap.IsList a vs.toArray) (hb : s.heap.IsList b (#[] : Array Value)) (hu : A.units < cLine) (h : Q (.bool (!decide (vs = []))) s) :
    wpAny (model prog w) A (compareOp .NotEq (.ref a) (.ref b)) Q E s := by
  cases vs with
  | nil => exact SeqAt.RcNeAt.lists (e := fun _ => true) ha hb rfl hu (fun j h1 _ => absurd h1 (Nat.not_lt_zero _)) prog w E Q h
  | cons v r => exact SeqAt.RcNeAt.lists_lengths ha hb (by simp) hu prog w E Q h
theorem strs_nil_iff : ∀ {vs : List Value} {xs : List Str}, StrsAre vs xs → (vs = [] ↔ xs = [])
  | _, _, .nil => by simp
  | _, _, .cons _ _ _ => by simp
theorem strs_dropLast : ∀ {vs : List Value} {xs : List Str}, StrsAre vs xs → StrsAre vs.dropLast xs.dropLast
  | _, _, .nil => .nil
  | _, _, .cons _ _ .nil => .nil
  | _, _, .cons y t (.cons y' t' r) => by
    have := strs_dropLast (StrsAre.cons y' t' r)
    simpa [List.dropLast] using StrsAre.cons y t this
theorem strs_setLast {vs : List Value} {xs : List Str} {y : Str} {t : Tok} (h : StrsAre vs xs) : StrsAre (vs.dropLast ++ [.str y t]) (xs.dropLast ++ [y]) := (strs_dropLast h).append' (.cons _ _ .nil)
theorem strs_app {vs : List Value} {xs : List Str} {y : Str} {t : Tok} (h : StrsAre vs xs) : StrsAre (vs ++ [.str y t]) (xs ++ [y]) := h.append' (.cons _ _ .nil)
theorem strs_last {vs : List Value} {xs : List Str} (h : StrsAre vs xs) (hne : xs ≠ []) : ∃ t, vs[vs.length - 1]? = some (.str (xs.getLastD Str.empty) t) := by
  obtain ⟨t, ht⟩ := h.get (xs.length - 1) (xs.getLastD Str.empty) (by
    have e := List.getLast?_eq_getElem? (l := xs)
    rw [← e]
    cases xs with
    | nil => exact absurd rfl hne
    | cons a r => simp [List.getLastD, List.getLast?])
  rw [h.length]
  exact ⟨t, ht⟩
theorem eq_nilS {Q : Value → Shared → Prop} (ha : s.heap.IsList a vs.toArray) (hb : s.heap.IsList b (#[] : Array Value)) (hS : StrsAre vs xs) (hu : A.units < cLine) (h : Q (.bool (decide (xs = []))) s) :
    wpAny (model prog w) A (compareOp .Eq (.ref a) (.ref b)) Q E s := eq_nil ha hb hu (by rw [decide_eq_decide.mpr (strs_nil_iff hS)]; exact h)
theorem item_lastS {value slice : PySem.Expr} {u : Tok} {Q : Value → Shared → Prop} (hl : s.heap.IsList a vs.toArray) (hS : StrsAre vs xs) (hne : xs ≠ []) (h : ∀ t, Q (.str (xs.getLastD Str.empty) t) s)
    (hs : subscripted slice false (.ref a) (.int (-1) u) = operate [.ref a, .int (-1) u] (getItem (.ref a) (.int (-1) u)) := by with_unfolding_all rfl) (hg : ∀ r, letTemporaryGo value (.ref a) r = pure () := by intro _; with_unfolding_all rfl) :
    wpAny (model prog w) A (subscriptTail value slice (.ref a) (.int (-1) u)) Q E s := by
  obtain ⟨t, ht⟩ := strs_last hS hne
  have hlen : 0 < vs.length := by rw [hS.length]; exact List.length_pos_iff.mpr hne
  exact subscriptTail_builtin hl.typeIs slot_list_getitem.lookup (wpAny_getItem_list_neg hl (by decide) (by rw [List.size_toArray]; omega) (by decide) (by
    rw [List.size_toArray]
    have e : ((-1 : Int) + (vs.length : Int)).toNat = vs.length - 1 := by omega
    rw [e]; simpa using ht) (h t)) hs hg
theorem set_last {u : Tok} {v : Value} {Q : Unit → Shared → Prop} (F : Fr h₀ L s.heap m) (N : News h₀ L s.heap news) (U : Upd D (listOf vs.toArray n) (listOf (vs.dropLast ++ [v]).toArray n) news news') (hne : vs ≠ [])
    (h : ∀ h', Fr h₀ L h' m → News h₀ L h' news' → Q () { s with heap := h' }) : wpAny (model prog w) A (setItem (.ref D) (.int (-1) u) v) Q E s := by
  obtain ⟨pre, post, rfl, rfl, a, b⟩ := U.split
  have z := N (D, listOf vs.toArray n) (List.mem_append.mpr (.inr (.head _)))
  have hlen : 0 < vs.length := List.length_pos_iff.mpr hne
  refine ki_setBack z.1 (by decide) (by rw [List.size_toArray]; omega) (by decide) (h _ (F.change (Heap.SameBut.update ..) z.2.1 z.2.2) (ki_turn _ N a b ?_ ?_))
  · show vs.toArray.setIfInBounds ((-1 : Int) + (vs.toArray.size : Int)).toNat v = (vs.dropLast ++ [v]).toArray
    apply Array.toList_inj.mp
    have e : ((-1 : Int) + (vs.toArray.size : Int)).toNat = vs.length - 1 := by rw [List.size_toArray]; omega
    rw [e]
    simp only [Array.toList_setIfInBounds]
    have e2 : vs = vs.dropLast ++ [vs.getLast hne] := (List.dropLast_concat_getLast hne).symm
    have e3 : vs.length - 1 = vs.dropLast.length := by rw [List.length_dropLast]
    rw [e3]
    conv => lhs; arg 1; rw [e2]
    simp
  · have : (vs.dropLast ++ [v]).toArray.size = vs.toArray.size := by simp; omega
    rw [this]; simp
theorem append_L {x : Value} {Q : Value → Shared → Prop} (F : Fr h₀ L s.heap m) (N : News h₀ L s.heap news) (U : Upd D (listOf vs.toArray n) (listOf (vs ++ [x]).toArray (n + 1)) news news')
    (h : ∀ h', Fr h₀ L h' m → News h₀ L h' news' → Q .none { s with heap := h' }) (hsz : vs.length ≤ sizeLine) : wpAny (model prog w) A (call (.builtin "list.append") [.ref D, x]) Q E s := by
  have U' : Upd D (listOf vs.toArray n) (listOf (vs.toArray.push x) (n + 1)) news news' := by rw [List.push_toArray]; exact U
  exact append_K F N U' h (by rw [List.size_toArray]; exact hsz)
end
end Mine
end Mrules

section Mrows
open PySem PySem.W PySem.Calls PyProof.Rows
namespace Mine
theorem fill2 (w : World) : hd.heap_39 w.params = hd.heap_39 w.params ∧ PySem.Challenge.rw_mq0143_01 = PySem.Challenge.rw_mq0143_01 := by
  k_fill
  exact ⟨rfl, rfl⟩
theorem piece_call {w : World} {mg mb m : Str → Option Value} {e1 e2 : Env} {s : Shared} {x : Int} {t : Tok} {b : Bool} {Q E : Value → Shared → Prop} {h₀ : Heap} {L : Addr} {news : List (Addr × Obj)}
    (F : Fr h₀ L s.heap m) (N : News h₀ L s.heap news) (X : (hd.heap_39 w.params).In h₀) (T : TR mg mb h₀)
    (h : ∀ h' tk t', Fr h₀ L h' m → News h₀ L h' news → Q (.str (pieceF x b) t') { s with heap := h', toks := tk }) :
    wpAny (model PR w) ((callerA.deeper e1).deeper e2) (call (.ref 35) [.int x t, .bool b]) Q E s :=
  piece_spec (X.keeps F.keep) (T.keeps F.keep) fun h' tk t' k => h h' tk t' (F.kept k) (N.keepsAll k)
noncomputable def masksL : List Str := [Str.ofString "...", Str.ofString " ... ", Str.ofString "(...)", Str.ofString "unknown...", Str.ofString "", Str.ofString "unknown", Str.ofString "a"]
noncomputable def maskF (x : Int) : Str := masksL.getD ((x.fdiv 16).fmod 7).toNat Str.empty
noncomputable def hidF (x : Int) : Bool := [3, 4].any fun y => y == x.fmod 16
abbrev RowSt := List Str × List Str × Bool
noncomputable def rowsNew (x : Int) (st : RowSt) : RowSt := (st.1 ++ [Str.ofString ""], st.2.1 ++ [if hidF x = true then maskF x else Str.ofString ""], hidF x)
noncomputable def rowsAdd (x : Int) (st : RowSt) : RowSt := (st.1.dropLast ++ [st.1.getLastD Str.empty ++ pieceF x st.2.2], if st.2.2 = true then st.2.1 else st.2.1.dropLast ++ [st.2.1.getLastD Str.empty ++ pieceF x st.2.2], st.2.2)
noncomputable def rowsStep (st : RowSt) (x : Int) : RowSt := rowsAdd x (if x.fmod 16 < 5 ∨ st.1 = [] then rowsNew x st else st)
noncomputable def rowsF (ns : List Int) : RowSt := ns.foldl rowsStep ([], [], false)
theorem rows_snoc (pre : List Int) (n : Int) : rowsF (pre ++ [n]) = rowsStep (rowsF pre) n := by simp [rowsF, List.foldl_append]
theorem rows_len2 (ns : List Int) : (rowsF ns).2.1.length = (rowsF ns).1.length := by
  suffices h : ∀ st : RowSt, st.2.1.length = st.1.length → ∀ ns : List Int, (ns.foldl rowsStep st).2.1.length = (ns.foldl rowsStep st).1.length from h _ rfl ns
  intro st hst ns
  induction ns generalizing st with
  | nil => exact hst
  | cons n r ih =>
    refine ih _ ?_
    unfold rowsStep rowsAdd
    split <;> dsimp only [rowsNew] <;> split <;> simp [hst] <;> rename_i h1 _ <;> (have : st.1 ≠ [] := fun e => h1 (.inr e)) <;> (have := List.length_pos_iff.mpr this) <;> omega
theorem rows_mne {pre : List Int} {row masked : List Str} {hidden : Bool} (e : rowsF pre = (row, masked, hidden)) (h : row ≠ []) : masked ≠ [] := by
  have := rows_len2 pre
  rw [e] at this
  intro e2
  subst e2
  exact h (List.length_eq_zero_iff.mp this.symm)

theorem fmod16 (x : Int) : ∃ k : Fin 16, x.fmod 16 = (k.val : Int) := by
  have h1 : 0 ≤ x.fmod 16 := Int.fmod_nonneg_of_pos x (by decide)
  have h2 : x.fmod 16 < 16 := Int.fmod_lt_of_pos x (by decide)
  exact ⟨⟨(x.fmod 16).toNat, by omega⟩, by simp; omega⟩
theorem fmodN (x : Int) (n : Nat) (hn : 0 < n) : ∃ k : Fin n, x.fmod (n : Int) = (k.val : Int) := by
  have h1 : 0 ≤ x.fmod n := Int.fmod_nonneg_of_pos x (by omega)
  have h2 : x.fmod n < n := Int.fmod_lt_of_pos x (by omega)
  exact ⟨⟨(x.fmod n).toNat, by omega⟩, by simp; omega⟩
theorem piece_len (x : Int) (b : Bool) : (pieceF x b).length ≤ 7 := by
  unfold pieceF
  obtain ⟨k, hk⟩ := fmodN x 16 (by decide)
  obtain ⟨i, hi⟩ := fmodN (x.fdiv 16) 3 (by decide)
  obtain ⟨j, hj⟩ := fmodN (x.fdiv 16) 7 (by decide)
  rw [show x.fmod 16 = (k.val : Int) from hk, show (x.fdiv 16).fmod 3 = (i.val : Int) from hi, show (x.fdiv 16).fmod 7 = (j.val : Int) from hj]
  clear hk hi hj
  revert k i j b
  decide +kernel
theorem mask_len (x : Int) : (maskF x).length ≤ 10 := by
  unfold maskF
  obtain ⟨j, hj⟩ := fmodN (x.fdiv 16) 7 (by decide)
  rw [show (x.fdiv 16).fmod 7 = (j.val : Int) from hj]
  clear hj
  revert j
  decide +kernel
theorem lastD_le {xs : List Str} {c : Nat} (h : ∀ t ∈ xs, t.length ≤ c) : (xs.getLastD Str.empty).length ≤ c := by
  cases xs with
  | nil => exact Nat.zero_le _
  | cons a r => exact h _ (List.getLast_mem (l := a :: r) (by simp))
theorem rows_sizes (ns : List Int) : (∀ t ∈ (rowsF ns).1, t.length ≤ 10 * ns.length) ∧ ∀ t ∈ (rowsF ns).2.1, t.length ≤ 10 * ns.length := by
  suffices h : ∀ (st : RowSt) (c : Nat), (∀ t ∈ st.1, t.length ≤ c) → (∀ t ∈ st.2.1, t.length ≤ c) → ∀ ns : List Int, (∀ t ∈ (ns.foldl rowsStep st).1, t.length ≤ c + 10 * ns.length) ∧ ∀ t ∈ (ns.foldl rowsStep st).2.1, t.length ≤ c + 10 * ns.length by
    have := h ([], [], false) 0 (by simp) (by simp) ns
    simpa [rowsF] using this
  intro st c h1 h2 ns
  induction ns generalizing st c with
  | nil => exact ⟨by simpa using h1, by simpa using h2⟩
  | cons n r ih =>
    have add : ∀ st : RowSt, (∀ t ∈ st.1, t.length ≤ c + 3) → (∀ t ∈ st.2.1, t.length ≤ c + 3 ∨ (st.2.2 = true ∧ t.length ≤ c + 10)) → (∀ t ∈ (rowsAdd n st).1, t.length ≤ c + 10) ∧ ∀ t ∈ (rowsAdd n st).2.1, t.length ≤ c + 10 := by
      intro st a b
      have p := piece_len n st.2.2
      refine ⟨fun t ht => ?_, fun t ht => ?_⟩
      · rcases List.mem_append.mp ht with ht | ht
        · have := a t (List.dropLast_subset _ ht); omega
        · rw [List.mem_singleton.mp ht, Str.length_append]
          have := lastD_le a; omega
      · unfold rowsAdd at ht
        dsimp only at ht
        split at ht
        · rcases b t ht with q | q <;> omega
        · rename_i hf
          have b' : ∀ t ∈ st.2.1, t.length ≤ c + 3 := fun t ht => (b t ht).elim id fun q => absurd q.1 hf
          rcases List.mem_append.mp ht with ht | ht
          · have := b' t (List.dropLast_subset _ ht); omega
          · rw [List.mem_singleton.mp ht, Str.length_append]
            have := lastD_le b'; omega
    have step : (∀ t ∈ (rowsStep st n).1, t.length ≤ c + 10) ∧ ∀ t ∈ (rowsStep st n).2.1, t.length ≤ c + 10 := by
      unfold rowsStep
      split
      · refine add _ (fun t ht => ?_) (fun t ht => ?_)
        · rcases List.mem_append.mp ht with ht | ht
          · have := h1 t ht; omega
          · rw [List.mem_singleton.mp ht]; exact Nat.zero_le _
        · rcases List.mem_append.mp ht with ht | ht
          · have := h2 t ht; exact .inl (by omega)
          · rw [List.mem_singleton.mp ht]
            show _ ∨ (hidF n = true ∧ _)
            split
            · rename_i q; exact .inr ⟨q, by have := mask_len n; omega⟩
            · exact .inl (Nat.zero_le _)
      · exact add _ (fun t ht => by have := h1 t ht; omega) (fun t ht => .inl (by have := h2 t ht; omega))
    have := ih (rowsStep st n) (c + 10) step.1 step.2
    refine ⟨fun t ht => ?_, fun t ht => ?_⟩
    · have := this.1 t ht; rw [List.length_cons]; omega
    · have := this.2 t ht; rw [List.length_cons]; omega
end Mine
end Mrows

section Mrows2
open PySem PySem.W PySem.Calls PyProof.Rows
namespace Mine
theorem fill3 (w : World) : hd.heap_39 w.params = hd.heap_39 w.params ∧ PySem.Challenge.rw_mq0143_01 = PySem.Challenge.rw_mq0143_01 := by
  k_fill
  exact ⟨rfl, rfl⟩
theorem rows_sz1 {pre : List Int} {row masked : List Str} {hidden : Bool} {n : Int} {b : Bool} (e : rowsF pre = (row, masked, hidden)) (hl : pre.length ≤ 12) : (row.getLastD Str.empty).length + (pieceF n b).length ≤ sizeLine ∧ (masked.getLastD Str.empty).length + (pieceF n b).length ≤ sizeLine := by
  have h := rows_sizes pre
  rw [e] at h
  dsimp only at h
  have p := piece_len n b
  have h1 := lastD_le h.1
  have h2 := lastD_le h.2
  rw [sizeLine_eq]
  omega
theorem sz_new {xs : List Str} {n : Int} {b : Bool} : ((xs ++ [Str.ofString ""]).getLastD Str.empty).length + (pieceF n b).length ≤ sizeLine := by
  have p := piece_len n b
  rw [List.getLastD_concat, sizeLine_eq]
  have : (Str.ofString "").length = 0 := by decide
  omega
local macro_rules | `(tactic| walk_at $s:str) => `(tactic| k_extra $s)
local macro_rules | `(tactic| walk_at "my strs") => `(tactic| first | (with_reducible assumption) | ((with_reducible refine' strs_setLast ?a1); (case a1 => walk_at "my strs")) | ((with_reducible refine' strs_app ?a1); (case a1 => walk_at "my strs")) | exact StrsAre.nil)
theorem rows_p1 {pre : List Int} {n : Int} {row masked : List Str} {hidden : Bool} (e : rowsF pre = (row, masked, hidden)) : rowsF (pre ++ [n]) = rowsStep (row, masked, hidden) n := by rw [rows_snoc, e]
set_option maxRecDepth 100000 in
set_option maxHeartbeats 8000000 in
theorem rows_spec {w : World} {mg mb : Str → Option Value} {e1 : Env} {s : Shared} {l : Addr} {vs : List Value} {ns : List Int} {Q E : Value → Shared → Prop}
    (X : (hd.heap_39 w.params).In s.heap) (T : TR mg mb s.heap) (hl : s.heap.IsList l vs.toArray) (hi : IntsAre vs ns) (hlen : ns.length ≤ 12)
    (h : ∀ h' tk at' (lr lm : Addr) (vr vm : List Value) (nr nm : Nat), Keep s.heap h' → h'.get? at' = some { cls := .type "tuple", data := .seq #[.ref lr, .ref lm] } → h'.get? lr = some (listOf vr.toArray nr) → h'.get? lm = some (listOf vm.toArray nm) →
      s.heap.get? at' = none → s.heap.get? lr = none → s.heap.get? lm = none → StrsAre vr (rowsF ns).1 → StrsAre vm (rowsF ns).2.1 → Q (.ref at') { s with heap := h', toks := tk }) :
    wpAny (model PR w) (callerA.deeper e1) (call (.ref 42) [.ref l]) Q E s := by
  k_with_none
  k_with "my size" => first | exact sz_new | exact (rows_sz1 (by assumption) (by omega)).1 | exact (rows_sz1 (by assumption) (by omega)).2
  k_with "binaryOp Add str str" => (k_here; k_dflt (refine' PyProof.Rows.add_str ?_ (by walk_at "my size"); k_whole); intro _ _)
  k_with "call ref" => (k_here; (with_reducible show wpAny _ _ (call (Value.ref 35) _) _ _ _); k_dflt (refine' piece_call (by k_asm) (by k_asm) (by k_asm) (by k_asm) ?_; k_whole); intro h' tk' t' F' N'; (try k_sweep))
  k_with "compareOp Eq ref ref" => (k_here; k_dflt (refine' eq_nilS (by is_list) (by is_list) (by walk_at "my strs") (by k_units) ?_; k_whole))
  k_with "my ne" => first | assumption | (simp; done) | exact fun e => absurd ((strs_nil_iff (by assumption)).mp e) (by assumption) | exact rows_mne (by assumption) (by assumption) | exact fun e => absurd ((strs_nil_iff (by assumption)).mp e) (rows_mne (by assumption) (by assumption))
  k_with "subscriptTail" => (k_here; (with_reducible show wpAny _ _ (subscriptTail _ _ (Value.ref _) (Value.int (-1) _)) _ _ _); k_dflt (refine' item_lastS (by is_list) (by walk_at "my strs") (by walk_at "my ne") ?_; k_whole); intro _)
  k_with "setItem ref int" => (k_here; (with_reducible show wpAny _ _ (setItem (Value.ref _) (Value.int (-1) _) _) _ _ _); k_dflt (refine' set_last (by k_asm) (by k_asm) (by k_upd) (by walk_at "my ne") ?_; k_whole); intro h' F' N'; (try k_sweep))
  k_with "call builtin:list.append" => (k_here; (with_reducible show wpAny _ _ (call (Value.builtin _) [Value.ref _, _]) _ _ _); k_dflt (refine' append_L (by k_asm) (by k_asm) (by k_upd) ?_ (by size_fits); k_whole); intro h' F' N'; (try k_sweep))
  k_with "my p" => (refine ⟨(rows_p1 (by assumption)).trans (by (simp only [rowsStep, rowsAdd, rowsNew, hidF, maskF, masksL, *, true_or, or_true, or_self, if_true, if_false, Bool.false_eq_true, reduceIte, List.getLastD_concat]; done)), ?_, ?_, ?_⟩; all_goals (simp only [List.length_append, List.length_cons, List.length_nil, List.length_dropLast]; omega))
  k_with "InvEndN" => ((rename News _ _ _ _ => nE'); (refine' kst_end ⟨_, _, _, _, _, _, _⟩ (by assumption) nE' (by kst_in) (by (intro p hp; kst_mem)) (by rfl) (by (dsimp only; refine And.intro (by walk_at "my strs") (by walk_at "my strs"))) (by kst_all) (by kst_same) (by (dsimp only; walk_at "my p"))))
  k_with "table" => skip
  k_with "pyIter ref" => k_state (fun pre hidden row masked => rowsF pre = (row, masked, hidden) ∧ row.length ≤ pre.length ∧ masked.length ≤ pre.length ∧ pre.length ≤ 12) "hidden" "row$" "masked$"
  refine' enterP (binds := [(Str.ofString "numbers", .ref l)]) X T ?k6 ?k7 ?k8 ?k9 ?kB ?_ ?c2 ?c3 ?c4 ?c5
  (case k6 => k_is); (case k7 => k_is); (case k8 => k_room); (case k9 => exact BindsTo.of_eq rfl); (case c5 => decide); (case kB => exact locs rfl); (case c2 => exact rfl); (case c3 => exact rfl); (case c4 => exact rfl); 
  k_whole
  intro L' h' F' N'
  try dsimp only
  try k_fold
  k_steps
  all_goals (try dsimp only)
  (rename Fr _ _ _ _ => qF)
  (rename News _ _ _ _ => qN)
  (rename rowsF ns = _ => qR)
  repeat' (first | k_unfold | dsimp only)
  refine h _ _ _ _ _ _ _ _ _ qF.keep (qN _ (.head _)).1 (qN _ (.tail _ (.tail _ (.head _)))).1 (qN _ (.tail _ (.head _))).1 (qN _ (.head _)).2.2 (qN _ (.tail _ (.tail _ (.head _)))).2.2 (qN _ (.tail _ (.head _))).2.2 ?_ ?_
  · rw [qR]; assumption
  · rw [qR]; assumption
end Mine
end Mrows2

section Mloop
open PySem PySem.W PySem.Calls PyProof.Rows
namespace Mine
/-- what stands between two turns: a state of mine, the ledger and the names it tells -/
noncomputable def LSt {σ : Type} (Led : σ → List (Addr × Obj)) (ps : σ → List (Str × Value)) (stored : List Str) (m₀ : Str → Option Value) (P : Nat → σ → Prop) (i : Nat) (m : Str → Option Value) (nx : List (Addr × Obj)) : Prop :=
  ∃ c : σ, nx = Led c ∧ (∀ p ∈ ps c, m p.1 = some p.2) ∧ (∀ z, (∀ p ∈ ps c, z ≠ p.1) → stored.contains z = false → m z = m₀ z) ∧ P i c
abbrev Between (stored : List Str) (u m₀ : Str → Option Value) : Str → Option Value := fun z => if stored.contains z then u z else m₀ z
theorem LSt.fr {ps : List (Str × Value)} {stored : List Str} {m₀ m₁ : Str → Option Value} {h₀ h : Heap} {L : Addr} (h1 : ∀ p ∈ ps, m₁ p.1 = some p.2) (h2 : ∀ z, (∀ p ∈ ps, z ≠ p.1) → stored.contains z = false → m₁ z = m₀ z)
    (F : Fr h₀ L h m₁) : Fr h₀ L h (kstB (Between stored m₁ m₀) ps) := by
  have e : kstB (Between stored m₁ m₀) ps = m₁ := funext fun z => kstB_eq h1 fun hn => by
    show (if stored.contains z = true then m₁ z else m₀ z) = m₁ z
    split
    · rfl
    · rename_i hc; exact (h2 z hn (by simpa using hc)).symm
  rw [e]; exact F
section
variable {prog : Program} {w : World} {A : Around} {E : Value → Shared → Prop} {s : Shared} {env : Env} {h₀ : Heap} {target : Expr} {body : List Stmt} {Q : Flow → Shared → Prop} {l : Addr} {vs : List Value}
/-- a for over a list of the base heap, any target -/
theorem for_base {σ : Type} {m₀ : Str → Option Value} (Led : σ → List (Addr × Obj)) (ps : σ → List (Str × Value)) (stored : List Str) (P : Nat → σ → Prop) (c₀ : σ)
    (hh : A.handled = none) (hl : h₀.IsList l vs.toArray) (F : Fr h₀ env.locals s.heap m₀) (N : News h₀ env.locals s.heap (Led c₀)) (hk : ∀ p ∈ ps c₀, m₀ p.1 = some p.2) (hp : P 0 c₀)
    (turn : ∀ (c : σ) i v (u : Str → Option Value) h tk own, vs[i]? = some v → OwnOff own ((Led c₀).map (·.1)) → (Led c).map (·.1) = (Led c₀).map (·.1) → P i c →
      Fr h₀ env.locals h (kstB (Between stored u m₀) (ps c)) → News h₀ env.locals h (Led c ++ own) →
      wpAny (model prog w) A (assign target env v) (fun _ s₃ => wpAny (model prog w) A (execs body env) (InvPostN h₀ env.locals (LSt Led ps stored m₀ P (i + 1)) own ((Led c₀).map (·.1)) { s with heap := h, toks := tk } Q) E s₃) E { s with heap := h, toks := tk })
    (done : ∀ (c : σ) (u : Str → Option Value) h tk, P vs.length c → Fr h₀ env.locals h (kstB (Between stored u m₀) (ps c)) → News h₀ env.locals h (Led c) → Q .next { s with heap := h, toks := tk }) :
    wpAny (model prog w) A (pyIter (.ref l)) (fun it s₂ => TurnsAt prog w A h₀ env target body Q E it s₂) E s := by
  have hls : s.heap.IsList l vs.toArray := hl.at fun o e => F.keep l o e
  obtain ⟨ol, hol, _⟩ := id hl
  have hlt : l < h₀.objs.size := Heap.lt_size hol
  have hne : l ≠ s.heap.objs.size := Nat.ne_of_lt (Nat.lt_trans (Nat.lt_of_lt_of_le hlt F.above) F.ns.lt)
  refine wpAny_pyIter_list hls ?_
  have W := KTurns.ofWalks (target := target) (Walks.list (prog := prog) (w := w) hh s.heap.objs.size l hne vs.toArray) (fun i v s Q E st q => letGo_listiter st.1 q)
  have hlen : vs.toArray.size = vs.length := List.size_toArray
  rw [hlen] at W
  refine ⟨_, _, _, vs.length, _, _, _, m₀, Led c₀, (fun i m nx => nx.map (·.1) = (Led c₀).map (·.1) ∧ LSt Led ps stored m₀ P i m nx), rfl, W, ?_, ?_, ?_, ⟨⟨_, Heap.get?_push_size _ rfl, rfl, rfl⟩, hls.at fun o e => Heap.get?_push_of_some _ e⟩, F.push _, (fun p hp => ⟨Heap.get?_push_of_some _ (N p hp).1, (N p hp).2⟩), ⟨rfl, c₀, rfl, hk, fun _ _ _ => rfl, hp⟩, ?_, ?_⟩
  · intro hm
    rcases List.mem_cons.mp hm with e | hm
    · exact absurd F.ns.lt (e ▸ Nat.lt_irrefl _)
    · exact absurd (Nat.lt_of_lt_of_le hlt F.above) ((List.mem_singleton.mp hm) ▸ Nat.lt_irrefl _)
  · intro b hb
    rw [List.mem_singleton.mp hb]
    exact next_is_new F
  · intro p hp hI
    exact absurd (Heap.lt_size (N p hp).1) ((List.mem_singleton.mp hI) ▸ Nat.lt_irrefl _)
  · rintro i v m₁ nx h tk own hin hP ⟨hadr, c, rfl, h1, h2, hp'⟩ hoff hown _ _ _ F₁ N₁
    have hsep : OwnOff own ((Led c₀).map (·.1)) := by
      intro p hp b hb e
      obtain ⟨q, hq, rfl⟩ := List.mem_map.mp hb
      rcases List.mem_cons.mp (hown p hp) with h1 | h1
      · exact absurd (Heap.lt_size (N q hq).1) (by rw [← e, h1]; exact Nat.lt_irrefl _)
      · have h2 := List.mem_singleton.mp h1
        have h3 := (N q hq).2.2
        rw [← e, h2, hol] at h3
        cases h3
    have N₂ : News h₀ env.locals h (Led c ++ own) := fun p hp => N₁ p ((List.mem_append.mp hp).elim (fun h => List.mem_append.mpr (.inr h)) fun h => List.mem_append.mpr (.inl h))
    refine wpAny_mono (turn c i v m₁ h tk own (by simpa using hP) hsep hadr hp' (LSt.fr h1 h2 F₁) N₂) (fun _ s₂ q => wpAny_mono q (fun f s₃ p => ?_) fun _ _ e => e) fun _ _ e => e
    have fin : InvEndN h₀ env.locals (LSt Led ps stored m₀ P (i + 1)) own ((Led c₀).map (·.1)) { s with heap := h, toks := tk } s₃ →
        LoopStepU h₀ env.locals [s.heap.objs.size] own (fun m nx => nx.map (·.1) = (Led c₀).map (·.1) ∧ LSt Led ps stored m₀ P (i + 1) m nx) { s with heap := h, toks := tk } .next s₃ := by
      rintro ⟨h', tk', m', news', nx, e, F', N', hn, ho, ha, hm⟩
      refine ⟨rfl, h', tk', m', nx, e, F', fun p hp => N' p ((List.mem_append.mp hp).elim (ho p) (hn p)), fun p hp hq => ?_, ha, hm⟩
      have h1 : p.1 ∈ nx.map (·.1) := List.mem_map.mpr ⟨p, hp, rfl⟩
      rw [ha, ← hadr] at h1
      obtain ⟨q, hq1, hq2⟩ := List.mem_map.mp h1
      exact hoff q hq1 (by rw [hq2]; exact hq)
    cases f with
    | ret v => exact p
    | brk => exact p
    | next => exact fin p
    | cont => exact fin p
  · rintro h' tk m' news' F' N' _ ⟨_, c, rfl, h1, h2, hp'⟩
    exact done c m' h' tk hp' (LSt.fr h1 h2 F') N'
/-- a for over a list of the ledger, any target -/
theorem for_led {σ : Type} {m₀ : Str → Option Value} {nn : Nat} (Led : σ → List (Addr × Obj)) (ps : σ → List (Str × Value)) (stored : List Str) (P : Nat → σ → Prop) (c₀ : σ)
    (hh : A.handled = none) (hl : ∀ c : σ, (l, listOf vs.toArray nn) ∈ Led c) (F : Fr h₀ env.locals s.heap m₀) (N : News h₀ env.locals s.heap (Led c₀)) (hk : ∀ p ∈ ps c₀, m₀ p.1 = some p.2) (hp : P 0 c₀)
    (turn : ∀ (c : σ) i v (u : Str → Option Value) h tk own, vs[i]? = some v → OwnOff own ((Led c₀).map (·.1)) → (Led c).map (·.1) = (Led c₀).map (·.1) → P i c →
      Fr h₀ env.locals h (kstB (Between stored u m₀) (ps c)) → News h₀ env.locals h (Led c ++ own) →
      wpAny (model prog w) A (assign target env v) (fun _ s₃ => wpAny (model prog w) A (execs body env) (InvPostN h₀ env.locals (LSt Led ps stored m₀ P (i + 1)) own ((Led c₀).map (·.1)) { s with heap := h, toks := tk } Q) E s₃) E { s with heap := h, toks := tk })
    (done : ∀ (c : σ) (u : Str → Option Value) h tk, P vs.length c → Fr h₀ env.locals h (kstB (Between stored u m₀) (ps c)) → News h₀ env.locals h (Led c) → Q .next { s with heap := h, toks := tk }) :
    wpAny (model prog w) A (pyIter (.ref l)) (fun it s₂ => TurnsAt prog w A h₀ env target body Q E it s₂) E s := by
  have hol : s.heap.get? l = some (listOf vs.toArray nn) := (N _ (hl c₀)).1
  have hls : s.heap.IsList l vs.toArray := ⟨_, hol, rfl, nn, rfl⟩
  have hne : l ≠ s.heap.objs.size := Nat.ne_of_lt (Heap.lt_size hol)
  refine wpAny_pyIter_list hls ?_
  have W := KTurns.ofWalks (target := target) (Walks.list (prog := prog) (w := w) hh s.heap.objs.size l hne vs.toArray) (fun i v s Q E st q => letGo_listiter st.1 q)
  have hlen : vs.toArray.size = vs.length := List.size_toArray
  rw [hlen] at W
  refine ⟨_, _, _, vs.length, _, _, _, m₀, Led c₀, (fun i m nx => nx.map (·.1) = (Led c₀).map (·.1) ∧ LSt Led ps stored m₀ P i m nx), rfl, W, ?_, ?_, ?_, ⟨⟨_, Heap.get?_push_size _ rfl, rfl, rfl⟩, hls.at fun o e => Heap.get?_push_of_some _ e⟩, F.push _, (fun p hp => ⟨Heap.get?_push_of_some _ (N p hp).1, (N p hp).2⟩), ⟨rfl, c₀, rfl, hk, fun _ _ _ => rfl, hp⟩, ?_, ?_⟩
  · intro hm
    rcases List.mem_cons.mp hm with e | hm
    · exact absurd F.ns.lt (e ▸ Nat.lt_irrefl _)
    · exact (N _ (hl c₀)).2.1 ((List.mem_singleton.mp hm).symm)
  · intro b hb
    rw [List.mem_singleton.mp hb]
    exact next_is_new F
  · intro p hp hI
    exact absurd (Heap.lt_size (N p hp).1) ((List.mem_singleton.mp hI) ▸ Nat.lt_irrefl _)
  · rintro i v m₁ nx h tk own hin hP ⟨hadr, c, rfl, h1, h2, hp'⟩ hoff hown hget _ _ F₁ N₁
    have hsep : OwnOff (own.filter fun p => decide (p.1 = s.heap.objs.size)) ((Led c₀).map (·.1)) := by
      intro p hp b hb e
      obtain ⟨q, hq, rfl⟩ := List.mem_map.mp hb
      have h1 : p.1 = s.heap.objs.size := by simpa using (List.mem_filter.mp hp).2
      exact absurd (Heap.lt_size (N q hq).1) (by rw [← e, h1]; exact Nat.lt_irrefl _)
    have N₂ : News h₀ env.locals h (Led c ++ own.filter fun p => decide (p.1 = s.heap.objs.size)) := fun p hp => N₁ p ((List.mem_append.mp hp).elim (fun h => List.mem_append.mpr (.inr h)) fun h => List.mem_append.mpr (.inl ((List.mem_filter.mp h).1)))
    have hlo : h.get? l = some (listOf vs.toArray nn) := (N₁ _ (List.mem_append.mpr (.inr (hl c)))).1
    refine wpAny_mono (turn c i v m₁ h tk _ (by simpa using hP) hsep hadr hp' (LSt.fr h1 h2 F₁) N₂) (fun _ s₂ q => wpAny_mono q (fun f s₃ p => ?_) fun _ _ e => e) fun _ _ e => e
    have fin : InvEndN h₀ env.locals (LSt Led ps stored m₀ P (i + 1)) (own.filter fun p => decide (p.1 = s.heap.objs.size)) ((Led c₀).map (·.1)) { s with heap := h, toks := tk } s₃ →
        LoopStepU h₀ env.locals [s.heap.objs.size] own (fun m nx => nx.map (·.1) = (Led c₀).map (·.1) ∧ LSt Led ps stored m₀ P (i + 1) m nx) { s with heap := h, toks := tk } .next s₃ := by
      rintro ⟨h', tk', m', news', nx, e, F', N', hn, ho, ha, c', rfl, hm⟩
      refine ⟨rfl, h', tk', m', _, e, F', fun p hp => ?_, fun p hp => ?_, ha, c', rfl, hm⟩
      · rcases List.mem_append.mp hp with hq | hq
        · by_cases hI : p.1 = s.heap.objs.size
          · exact N' p (ho p (List.mem_filter.mpr ⟨hq, by simpa using hI⟩))
          · have h1 : p.1 = l := by
              rcases List.mem_cons.mp (hown p hq) with h2 | h2
              · exact absurd h2 hI
              · exact List.mem_singleton.mp h2
            have h2 : h.get? p.1 = some p.2 := hget p hq
            rw [h1, hlo] at h2
            have h3 : p = (l, listOf vs.toArray nn) := Prod.ext h1 (Option.some.inj h2).symm
            rw [h3]
            exact N' _ (hn _ (hl c'))
        · exact N' p (hn p hq)
      · have h1 : p.1 ∈ (Led c').map (·.1) := List.mem_map.mpr ⟨p, hp, rfl⟩
        rw [ha] at h1
        obtain ⟨q, hq, e⟩ := List.mem_map.mp h1
        intro hI
        exact absurd (Heap.lt_size (N q hq).1) (by rw [e, List.mem_singleton.mp hI]; exact Nat.lt_irrefl _)
    cases f with
    | ret v => exact p
    | brk => exact p
    | next => exact fin p
    | cont => exact fin p
  · rintro h' tk m' news' F' N' _ ⟨_, c, rfl, h1, h2, hp'⟩
    exact done c m' h' tk hp' (LSt.fr h1 h2 F') N'
theorem ls_end {σ : Type} {Led : σ → List (Addr × Obj)} {ps : σ → List (Str × Value)} {stored : List Str} {m₀ : Str → Option Value} {P : Nat → σ → Prop} {i : Nat} (c : σ) {L : Addr} {m' : Str → Option Value} {own news' : List (Addr × Obj)} {adr : List Addr} {s₁ : Shared} {h' : Heap} {tk : Nat}
    (F : Fr h₀ L h' m') (N : News h₀ L h' news') (hn : ∀ p ∈ Led c, p ∈ news') (ho : ∀ p ∈ own, p ∈ news') (ha : (Led c).map (·.1) = adr) (hk : ∀ p ∈ ps c, m' p.1 = some p.2) (hr : ∀ z, (∀ p ∈ ps c, z ≠ p.1) → stored.contains z = false → m' z = m₀ z) (hp : P i c) :
    InvEndN h₀ L (LSt Led ps stored m₀ P i) own adr s₁ { s₁ with heap := h', toks := tk } :=
  InvEndN.intro F N ⟨c, rfl, hk, hr, hp⟩ ha hn ho
end
end Mine
end Mloop

section Mmrules
open PySem PySem.W PySem.Calls PyProof.Rows PySem.Builtin PySem.Builtin.Str
namespace Mine
noncomputable def find4 (x y : Str) (i j : Int) : Int := match occurrences x y (fromIndex x.length i) (min (fromIndex x.length j) x.length) 1 with | k :: _ => (k : Int) | [] => -1
noncomputable def loopF (got : Str) (e : Int) : List Str → Int → Bool
  | [], _ => true
  | w :: r, p => if find4 got w p e < 0 then false else loopF got e r (find4 got w p e + (w.length : Int))
theorem gives_find4 (x y : Str) (i j : Int) (t u v v' : Tok) : Gives («str.find» ⟨[.str x t, .str y u, .int i v, .int j v'], []⟩) (.int (find4 x y i j)) := by
  show Gives (match occurrences x y (fromIndex x.length i) (min (fromIndex x.length j) x.length) 1 with | k :: _ => retInt k | [] => (do rule "str.find.not-found"; retInt (-1))) _
  unfold find4
  cases occurrences x y (fromIndex x.length i) (min (fromIndex x.length j) x.length) 1 with
  | nil => exact .rule (.of_eq rfl)
  | cons k _ => exact .of_eq rfl
section
variable {prog : Program} {w : World} {A : Around} {E : Value → Shared → Prop} {s : Shared} {h₀ : Heap} {L D a b : Addr} {m : Str → Option Value} {news news' : List (Addr × Obj)} {vs : List Value} {xs : List Str} {n : Nat}
theorem call_find4 {x y : Str} {i j : Int} {t u v v' : Tok} {Q : Value → Shared → Prop} (hq : Q (.int (find4 x y i j) s.toks) { s with toks := s.toks + 1 }) : wpAny (model prog w) A (call (.builtin "str.find") [.str x t, .str y u, .int i v, .int j v']) Q E s :=
  call_gives F.slot_str_find (typeIs_str _ _ _) F.entry_str_find (F.args_str_find_4 _ _ _ _) (gives_find4 x y i j t u v v') hq
theorem occ_at (x y : Str) (lo hi : Nat) :
    (occurrences x y lo hi 1 = [] ∧ ∀ i, lo ≤ i → ¬ StrLaws.At x y hi i) ∨
    ∃ i r, occurrences x y lo hi 1 = i :: r ∧ lo ≤ i ∧ StrLaws.At x y hi i ∧ ∀ k, lo ≤ k → k < i → ¬ StrLaws.At x y hi k := by
  rw [StrLaws.occ_eq]
  rcases StrLaws.occ_first x y hi 1 (Nat.le_refl _) (List.range' lo (hi + 1 - lo)) lo (fun i hi' => by have := List.mem_range'_1.mp hi'; omega) with ⟨h0, hn⟩ | ⟨pre, a, post, e, h0, ha, hn⟩
  · refine .inl ⟨by rw [h0], fun i hlo hi' => ?_⟩
    exact hn i (by have := hi'.1; rw [List.mem_range'_1]; omega) hi'
  · have hs := StrLaws.range'_split_from e
    refine .inr ⟨a, ((forIn (List.range' lo (hi + 1 - lo)) ((#[] : Array Nat), lo) (StrLaws.occBody x y hi 1)).run.fst.toList).tail, ?_, hs.1, ha, fun k hk0 hk => hn k (hs.2 k hk0 hk)⟩
    generalize (forIn (List.range' lo (hi + 1 - lo)) ((#[] : Array Nat), lo) (StrLaws.occBody x y hi 1)).run.fst = arr at h0
    have h1 : arr.toList[0]? = some a := by simpa using h0
    cases hL : arr.toList with
    | nil => rw [hL] at h1; cases h1
    | cons b t => rw [hL] at h1; simp at h1; rw [h1]; rfl
theorem find4_spec (x y : Str) (p e : Nat) (he : e ≤ x.length) :
    (find4 x y p e = -1 ∧ ∀ i, p ≤ i → ¬ StrLaws.At x y e i) ∨ ∃ i : Nat, find4 x y p e = (i : Int) ∧ p ≤ i ∧ StrLaws.At x y e i ∧ ∀ k, p ≤ k → k < i → ¬ StrLaws.At x y e k := by
  have e1 : fromIndex x.length (p : Int) = p := by unfold fromIndex; split <;> omega
  have e2 : min (fromIndex x.length (e : Int)) x.length = e := by unfold fromIndex; split <;> omega
  unfold find4
  rw [e1, e2]
  rcases occ_at x y p e with ⟨h0, h⟩ | ⟨i, r, h0, h1, h2, h3⟩
  · rw [h0]; exact .inl ⟨rfl, h⟩
  · rw [h0]; exact .inr ⟨i, rfl, h1, h2, h3⟩
theorem find4_le {x y : Str} {p e : Int} (hp : 0 ≤ p) (he : 0 ≤ e) (he2 : e ≤ x.length) (h : ¬ find4 x y p e < 0) : find4 x y p e + (y.length : Int) ≤ e ∧ 0 ≤ find4 x y p e := by
  obtain ⟨p, rfl⟩ := Int.eq_ofNat_of_zero_le hp
  obtain ⟨e, rfl⟩ := Int.eq_ofNat_of_zero_le he
  rcases find4_spec x y p e (by omega) with ⟨h0, _⟩ | ⟨i, h0, _, h2, _⟩
  · rw [h0] at h; exact absurd (by decide) h
  · rw [h0]; have := h2.1; omega
theorem splitR {x y : Str} {t u : Tok} {Q : Value → Shared → Prop} (hF : Fr h₀ L s.heap m) (hN : News h₀ L s.heap news) (hy : (y.length == 0) = false)
    (h : ∀ D vs h' k, StrsAre vs (Txt.split x y) → Fr h₀ L h' m → News h₀ L h' ((D, listOf vs.toArray 0) :: news) → (∀ p ∈ news, p.1 < D) → Q (.ref D) { s with heap := h', toks := k }) (hsz : x.length + 2 ≤ sizeLine) :
    wpAny (model prog w) A (call (.builtin "str.split") [.str x t, .str y u]) Q E s := KSpl.split1 hF hN hy (fun D l h' k e a F N lt => h D _ h' k (e ▸ a) F N lt) hsz
theorem del_first_L : ∀ (vs : List Value), vs ≠ [] → ki_delL vs 0 = some vs.tail
  | _ :: _, _ => rfl
theorem del_last_L : ∀ (vs : List Value), vs ≠ [] → ki_delL vs (vs.length - 1) = some vs.dropLast
  | [_], _ => rfl
  | a :: b :: r, _ => by
    have := del_last_L (b :: r) (by simp)
    have e : (a :: b :: r).length - 1 = ((b :: r).length - 1) + 1 := by simp
    rw [e, ki_delL, this]; rfl
theorem del_first {u : Tok} {Q : Unit → Shared → Prop} (F : Fr h₀ L s.heap m) (N : News h₀ L s.heap news) (U : Upd D (listOf vs.toArray n) (listOf vs.tail.toArray (n + 1)) news news') (hne : vs ≠ []) (hz : vs.length ≤ sizeLine)
    (h : ∀ h', Fr h₀ L h' m → News h₀ L h' news' → Q () { s with heap := h' }) : wpAny (model prog w) A (delItem (.ref D) (.int 0 u)) Q E s := by
  have hlen := List.length_pos_iff.mpr hne
  exact ki_del F N (by decide) (k := 0) (by rw [List.size_toArray]; exact seqIndex_of (by decide) (by omega)) (del_first_L vs hne) U hz h
theorem del_last {u : Tok} {Q : Unit → Shared → Prop} (F : Fr h₀ L s.heap m) (N : News h₀ L s.heap news) (U : Upd D (listOf vs.toArray n) (listOf vs.dropLast.toArray (n + 1)) news news') (hne : vs ≠ []) (hz : vs.length ≤ sizeLine)
    (h : ∀ h', Fr h₀ L h' m → News h₀ L h' news' → Q () { s with heap := h' }) : wpAny (model prog w) A (delItem (.ref D) (.int (-1) u)) Q E s := by
  have hlen := List.length_pos_iff.mpr hne
  refine ki_del F N (by decide) (k := vs.length - 1) ?_ (del_last_L vs hne) U hz h
  rw [List.size_toArray, PySem.seqIndex_neg (by decide) (by omega)]
  congr 1
  omega
theorem strs_tail : ∀ {vs : List Value} {xs : List Str}, StrsAre vs xs → StrsAre vs.tail xs.tail
  | _, _, .nil => .nil
  | _, _, .cons _ _ h => h
theorem item_firstS {value slice : PySem.Expr} {u : Tok} {Q : Value → Shared → Prop} (hl : s.heap.IsList a vs.toArray) (hS : StrsAre vs xs) (hne : xs ≠ []) (h : ∀ t, Q (.str (xs.headD Str.empty) t) s)
    (hs : subscripted slice false (.ref a) (.int 0 u) = operate [.ref a, .int 0 u] (getItem (.ref a) (.int 0 u)) := by with_unfolding_all rfl) (hg : ∀ r, letTemporaryGo value (.ref a) r = pure () := by intro _; with_unfolding_all rfl) :
    wpAny (model prog w) A (subscriptTail value slice (.ref a) (.int 0 u)) Q E s := by
  cases hS with
  | nil => exact absurd rfl hne
  | cons y t r => exact item_listL hl (by decide) (by decide) (x := .str y t) rfl (h t) hs hg
theorem len_strs {Q : Value → Shared → Prop} (hl : s.heap.IsList a vs.toArray) (hS : StrsAre vs xs) (hfit : xs.length < 2 ^ 62) (h : ∀ t k, Q (.int (xs.length : Int) t) { s with toks := k }) : wpAny (model prog w) A (call (.builtin "len") [.ref a]) Q E s := by
  have e2 : vs.toArray.size = xs.length := by rw [List.size_toArray, hS.length]
  exact len_list hl (by rw [e2]; omega) (by rw [e2]; exact h _ _)
theorem split_len2 {x : Str} (h : (occurrences x (Str.ofString "...") 0 x.length 1).isEmpty = false) : 2 ≤ (Txt.split x (Str.ofString "...")).length := by
  have k1 : Builtin.Str.strKind (Str.ofString "...") = 1 := by decide +kernel
  have k2 : 1 ≤ Builtin.Str.strKind x := by unfold Builtin.Str.strKind; split; exact Nat.le_refl _; split <;> decide
  have hf := (StrLaws.found_iff x (Str.ofString "...")).mp (by rw [h]; rfl)
  obtain ⟨i, hi, hs⟩ := hf
  unfold Txt.split
  rw [if_neg (by simp only [Bool.or_eq_true, decide_eq_true_eq]; omega)]
  obtain ⟨f, hc, hn⟩ := StrLaws.occ_tight x (Str.ofString "...") (by decide)
  have hne : occurrences x (Str.ofString "...") 0 x.length (x.length + 1) ≠ [] := by
    intro e
    rw [e] at hc
    cases hc
    exact hn i (Nat.zero_le _) ⟨hi, hs⟩
  rw [if_neg (by simpa using hne)]
  rw [StrLaws.partsBetween_eq]
  cases ho : occurrences x (Str.ofString "...") 0 x.length (x.length + 1) with
  | nil => exact absurd ho hne
  | cons a r =>
    obtain ⟨p, q, e⟩ := StrLaws.partsFrom_ne x (Str.ofString "...").length (a + (Str.ofString "...").length) r
    unfold StrLaws.partsFrom
    rw [e]
    simp
end
end Mine
end Mmrules

section Mmatch
open PySem PySem.W PySem.Calls PyProof.Rows PySem.Builtin PySem.Builtin.Str
namespace Mine
theorem fill4 (w : World) : hd.heap_39 w.params = hd.heap_39 w.params ∧ PySem.Challenge.rw_mq0143_01 = PySem.Challenge.rw_mq0143_01 := by
  k_fill
  exact ⟨rfl, rfl⟩
noncomputable def dots : Str := Str.ofString "..."
noncomputable def matchC (got : Str) (xs : List Str) (p e : Int) : Bool := if e < p then false else loopF got e xs p
noncomputable def matchB (got : Str) (xs : List Str) (p : Int) : Bool :=
  if ((xs.getLastD Str.empty).length : Int) = 0 then matchC got xs p (got.length : Int)
  else if Txt.endswith got (xs.getLastD Str.empty) = true then matchC got xs.dropLast p ((got.length : Int) - ((xs.getLastD Str.empty).length : Int)) else false
noncomputable def matchA (got : Str) (xs : List Str) : Bool :=
  if ((xs.headD Str.empty).length : Int) = 0 then matchB got xs 0
  else if Txt.startswith got (xs.headD Str.empty) = true then matchB got xs.tail ((xs.headD Str.empty).length : Int) else false
noncomputable def matchF (want got : Str) : Bool :=
  if (occurrences want (Str.ofString "...") 0 want.length 1).isEmpty = true then want == got else matchA got (Txt.split want (Str.ofString "..."))
theorem endB {Q : Value → Shared → Prop} {a b : Bool} {s : Shared} (h : Q (.bool b) s) (e : b = a) : Q (.bool a) s := e ▸ h
theorem parts_count (x y : Str) : (Txt.split x y).length ≤ x.length + 2 := by
  unfold Txt.split
  split
  · simp
  · split
    · simp
    · rw [StrLaws.partsBetween_eq]
      have h1 := StrLaws.occ_length_le x y 0 x.length (x.length + 1)
      have h2 : ∀ (cuts : List Nat) (a : Nat), (StrLaws.partsFrom x y.length a cuts).length = cuts.length + 1 := by
        intro cuts
        induction cuts with
        | nil => intro a; rfl
        | cons c r ih => intro a; unfold StrLaws.partsFrom; simp [ih]
      rw [h2]; omega
theorem splitR2 {prog : Program} {w : World} {A : Around} {E : Value → Shared → Prop} {s : Shared} {h₀ : Heap} {L : Addr} {m : Str → Option Value} {news : List (Addr × Obj)} {x : Str} {t u : Tok} {Q : Value → Shared → Prop} (hF : Fr h₀ L s.heap m) (hN : News h₀ L s.heap news)
    (hc : (occurrences x (Str.ofString "...") 0 x.length 1).isEmpty = false) (hx : x.length ≤ 1000)
    (h : ∀ D vs xs h' k, Txt.split x (Str.ofString "...") = xs → StrsAre vs xs → 2 ≤ xs.length → xs.length ≤ 1002 → (∀ a ∈ xs, a.length ≤ 1000) → Fr h₀ L h' m → News h₀ L h' ((D, listOf vs.toArray 0) :: news) → (∀ p ∈ news, p.1 < D) → Q (.ref D) { s with heap := h', toks := k }) :
    wpAny (model prog w) A (call (.builtin "str.split") [.str x t, .str (Str.ofString "...") u]) Q E s :=
  splitR hF hN (by decide) (fun D vs h' k S F N lt => h D vs _ h' k rfl S (split_len2 hc) (by have := parts_count x (Str.ofString "..."); omega) (fun a ha => Nat.le_trans (part_short ha) hx) F N lt) (by rw [sizeLine_eq]; omega)
theorem headD_le {xs : List Str} {c : Nat} (h : ∀ t ∈ xs, t.length ≤ c) : (xs.headD Str.empty).length ≤ c := by
  cases xs with
  | nil => exact Nat.zero_le _
  | cons a r => exact h _ (.head _)
theorem lastD_le' {xs : List Str} {c : Nat} (h : ∀ t ∈ xs, t.length ≤ c) : (xs.getLastD Str.empty).length ≤ c := by
  cases xs with
  | nil => exact Nat.zero_le _
  | cons a r => exact h _ (List.getLast_mem (l := a :: r) (by simp))
theorem all_tail {xs : List Str} {c : Nat} (h : ∀ t ∈ xs, t.length ≤ c) : ∀ t ∈ xs.tail, t.length ≤ c := fun t ht => h t (List.mem_of_mem_tail ht)
theorem all_dropLast {xs : List Str} {c : Nat} (h : ∀ t ∈ xs, t.length ≤ c) : ∀ t ∈ xs.dropLast, t.length ≤ c := fun t ht => h t (List.dropLast_subset _ ht)
theorem tail_ne {xs : List Str} (h : 2 ≤ xs.length) : xs.tail ≠ [] := by
  intro e
  have := congrArg List.length e
  simp at this
  omega
theorem ne_of2 {xs : List Str} (h : 2 ≤ xs.length) : xs ≠ [] := by
  intro e
  rw [e] at h
  simp at h
theorem truthyL {prog : Program} {w : World} {A : Around} {E : Value → Shared → Prop} {s : Shared} {x : Str} {t : Tok} {Q : Bool → Shared → Prop} (hl : x.length ≤ 1000) (h : Q ((x.length : Int) != 0) { s with toks := s.toks + 1 + 1 }) : wpAny (model prog w) A (PySem.truthy (.str x t)) Q E s :=
  SBL.truthy (by omega) h
theorem lenL {prog : Program} {w : World} {A : Around} {E : Value → Shared → Prop} {s : Shared} {x : Str} {t : Tok} {Q : Value → Shared → Prop} (hl : x.length ≤ 1000) (h : ∀ t' k, Q (.int (x.length : Int) t') { s with toks := k }) : wpAny (model prog w) A (call (.builtin "len") [.str x t]) Q E s :=
  PyProof.Rows.len_str (by omega) (h _ _)
theorem vlen0 {vs : List Value} {xs : List Str} (S : StrsAre vs xs) (h : xs.length ≤ 1002) : vs.length ≤ sizeLine := by rw [S.length, sizeLine_eq]; omega
theorem vlen1 {vs : List Value} {xs : List Str} (S : StrsAre vs xs) (h : xs.length ≤ 1002) : vs.tail.length ≤ sizeLine := by rw [List.length_tail, S.length, sizeLine_eq]; omega
noncomputable def PF (got : Str) (e : Int) (xs : List Str) (p0 : Int) (i : Nat) (c : Int × Tok) : Prop := 0 ≤ c.1 ∧ c.1 ≤ 1000 ∧ loopF got e (xs.drop i) c.1 = loopF got e xs p0
theorem pf_step {got wd : Str} {e p p0 : Int} {xs : List Str} {i : Nat} {t : Tok} (h : loopF got e (wd :: xs.drop (i + 1)) p = loopF got e xs p0) (hn : ¬ find4 got wd p e < 0) (hp : 0 ≤ p) (he : 0 ≤ e) (he2 : e ≤ got.length) (hg : got.length ≤ 1000) : PF got e xs p0 (i + 1) (find4 got wd p e + (wd.length : Int), t) := by
  have q := find4_le hp he he2 hn
  refine ⟨by dsimp only; omega, by dsimp only; omega, ?_⟩
  rw [← h, loopF, if_neg hn]
theorem pf_out {got wd : Str} {e p p0 : Int} {xs : List Str} {i : Nat} (h : loopF got e (wd :: xs.drop (i + 1)) p = loopF got e xs p0) (hn : find4 got wd p e < 0) : loopF got e xs p0 = false := by
  rw [← h, loopF, if_pos hn]
section
variable {prog : Program} {w : World} {A : Around} {E : Value → Shared → Prop} {s : Shared} {env : Env} {h₀ : Heap} {target : Expr} {body : List Stmt} {Q : Flow → Shared → Prop} {l : Addr} {vs : List Value} {xs : List Str}
theorem for_find {m₀ : Str → Option Value} {news : List (Addr × Obj)} {nn : Nat} {p0 e : Int} {t0 te tg : Tok} {got : Str}
    (hh : A.handled = none) (hl : (l, listOf vs.toArray nn) ∈ news) (S : StrsAre vs xs) (hB : ∀ a ∈ xs, a.length ≤ 1000) (F : Fr h₀ env.locals s.heap m₀) (N : News h₀ env.locals s.heap news) (hp : m₀ (Str.ofString "startpos") = some (.int p0 t0)) (he : m₀ (Str.ofString "endpos") = some (.int e te)) (hg : m₀ (Str.ofString "got") = some (.str got tg))
    (hp0 : 0 ≤ p0) (hp1 : p0 ≤ 1000)
    (turn : ∀ wd t i p tp (u : Str → Option Value) h tk own, wd.length ≤ 1000 → OwnOff own (news.map (·.1)) → 0 ≤ p → p ≤ 1000 → loopF got e (wd :: xs.drop (i + 1)) p = loopF got e xs p0 →
      Fr h₀ env.locals h (kstB (Between [Str.ofString "w"] u m₀) [(Str.ofString "startpos", .int p tp)]) → News h₀ env.locals h (news ++ own) →
      wpAny (model prog w) A (assign target env (.str wd t)) (fun _ s₃ => wpAny (model prog w) A (execs body env) (InvPostN h₀ env.locals (LSt (fun _ => news) (fun c : Int × Tok => [(Str.ofString "startpos", .int c.1 c.2)]) [Str.ofString "w"] m₀ (PF got e xs p0) (i + 1)) own (news.map (·.1)) { s with heap := h, toks := tk } Q) E s₃) E { s with heap := h, toks := tk })
    (done : ∀ p tp (u : Str → Option Value) h tk, loopF got e xs p0 = true → Fr h₀ env.locals h (kstB (Between [Str.ofString "w"] u m₀) [(Str.ofString "startpos", .int p tp)]) → News h₀ env.locals h news → Q .next { s with heap := h, toks := tk }) :
    wpAny (model prog w) A (pyIter (.ref l)) (fun it s₂ => TurnsAt prog w A h₀ env target body Q E it s₂) E s := by
  refine for_led (σ := Int × Tok) (fun _ => news) (fun c => [(Str.ofString "startpos", .int c.1 c.2)]) [Str.ofString "w"] (PF got e xs p0) (p0, t0) hh (fun _ => hl) F N (by simpa using hp) ⟨hp0, hp1, rfl⟩ ?_ ?_
  · rintro ⟨p, tp⟩ i v u h tk own hv hoff _ ⟨h1, h2, h3⟩ F₁ N₁
    have hlt : i < xs.length := by rw [← S.length]; exact (List.getElem?_eq_some_iff.mp hv).1
    obtain ⟨t, ht⟩ := S.get i xs[i] (List.getElem?_eq_getElem hlt)
    rw [hv] at ht
    cases ht
    refine turn xs[i] t i p tp u h tk own (hB _ (List.getElem_mem hlt)) hoff h1 h2 ?_ F₁ N₁
    rw [← h3, List.drop_eq_getElem_cons hlt]
  · rintro ⟨p, tp⟩ u h tk ⟨_, _, h3⟩ F₁ N₁
    refine done p tp u h tk ?_ F₁ N₁
    rw [S.length, List.drop_length] at h3
    exact h3.symm
end
local macro_rules | `(tactic| walk_at "my strs") => `(tactic| first | (with_reducible assumption) | ((with_reducible refine' strs_dropLast ?a1); (case a1 => walk_at "my strs")) | ((with_reducible refine' strs_tail ?a1); (case a1 => walk_at "my strs")))
local macro_rules | `(tactic| walk_at "my bound") => `(tactic| first | (with_reducible assumption) | ((with_reducible refine' all_dropLast ?a1); (case a1 => walk_at "my bound")) | ((with_reducible refine' all_tail ?a1); (case a1 => walk_at "my bound")))
local macro_rules | `(tactic| walk_at "my ne") => `(tactic| first | exact tail_ne (by assumption) | exact ne_of2 (by assumption))
local macro_rules | `(tactic| walk_at "my vne") => `(tactic| exact fun e9 => absurd ((strs_nil_iff (by walk_at "my strs")).mp e9) (by walk_at "my ne"))
local macro_rules | `(tactic| walk_at "call builtin:str.split") => `(tactic| (k_here; k_dflt (refine' splitR2 ?k1 ?k2 ?k3 ?k4 ?_; (case k1 => k_asm); (case k2 => k_asm); (case k3 => assumption); (case k4 => assumption); k_whole); intro D' vs' xs' h' k' e' a' b1' b2' b3' F' N' l1; (try k_lt l1); (try k_sweep)))
local macro_rules | `(tactic| walk_at "call builtin:len") => `(tactic| (k_here; (with_reducible show wpAny _ _ (call (Value.builtin "len") [Value.ref _]) _ _ _); k_dflt (refine' len_strs ?k1 ?k2 ?k3 ?_; (case k1 => is_list); (case k2 => walk_at "my strs"); (case k3 => omega); k_whole); intro _ _))
local macro_rules | `(tactic| walk_at "subscriptTail Name UnaryOp ref int") => `(tactic| (k_here; (with_reducible show wpAny _ _ (subscriptTail _ _ (Value.ref _) (Value.int (-1) _)) _ _ _); k_dflt (refine' item_lastS ?a ?b ?c ?_; (case a => is_list); (case b => walk_at "my strs"); (case c => walk_at "my ne"); k_whole); intro _))
local macro_rules | `(tactic| walk_at "subscriptTail Name Constant ref int") => `(tactic| (k_here; (with_reducible show wpAny _ _ (subscriptTail _ _ (Value.ref _) (Value.int 0 _)) _ _ _); k_dflt (refine' item_firstS ?a ?b ?c ?_; (case a => is_list); (case b => walk_at "my strs"); (case c => walk_at "my ne"); k_whole); intro _))
local macro_rules | `(tactic| walk_at "my len") => `(tactic| first | exact headD_le (by walk_at "my bound") | exact lastD_le' (by walk_at "my bound") | assumption)
local macro_rules | `(tactic| walk_at "call builtin:len") => `(tactic| (k_here; (with_reducible show wpAny _ _ (call (Value.builtin "len") [Value.str _ _]) _ _ _); k_dflt (refine' lenL ?k1 ?_; (case k1 => walk_at "my len"); k_whole); intro _ _))
local macro_rules | `(tactic| walk_at "my nat") => `(tactic| first | omega | exact Int.natCast_nonneg _ | (have q9 := headD_le (by walk_at "my bound"); omega))
local macro_rules | `(tactic| walk_at "truthy str") => `(tactic| (k_here; k_dflt (refine' truthyL ?k1 ?_; (case k1 => walk_at "my len"); k_whole)))
local macro_rules | `(tactic| walk_at "delItem ref int") => `(tactic| (k_here; (with_reducible show wpAny _ _ (delItem (Value.ref _) (Value.int 0 _)) _ _ _); k_dflt (refine' del_first ?F ?N ?U ?c ?z ?_; (case F => k_asm); (case N => k_asm); (case U => k_upd); (case c => walk_at "my vne"); (case z => exact (by walk_at "my vlen")); k_whole); intro h' F' N'; (try k_sweep)))
local macro_rules | `(tactic| walk_at "delItem ref int") => `(tactic| (k_here; (with_reducible show wpAny _ _ (delItem (Value.ref _) (Value.int (-1) _)) _ _ _); k_dflt (refine' del_last ?F ?N ?U ?c ?z ?_; (case F => k_asm); (case N => k_asm); (case U => k_upd); (case c => walk_at "my vne"); (case z => exact (by walk_at "my vlen")); k_whole); intro h' F' N'; (try k_sweep)))
local macro_rules | `(tactic| walk_at "my vlen") => `(tactic| first | exact vlen0 (by assumption) (by assumption) | exact vlen1 (by assumption) (by assumption))
local macro_rules | `(tactic| walk_at "call builtin:str.find") => `(tactic| (k_here; refine call_find4 ?_))
local macro_rules | `(tactic| walk_at "exec For Name Name cons nil") => `(tactic| (k_here; (rename Fr _ _ _ _ => lF'); (with_unfolding_all refine' For_turns lF' ?_; k_whole)))
local macro_rules | `(tactic| walk_at "pyIter ref") => `(tactic| (k_here; (with_reducible show wpAny _ _ (pyIter (Value.ref _)) (fun it s₂ => TurnsAt _ _ _ _ _ _ _ _ _ it s₂) _ _); k_dflt (focus (refine' for_find ?k1 ?k2 ?k3 ?k4 ?k5 ?k6 ?k7 ?k8 ?kg ?k9 ?k10 ?_ ?_; (case k1 => rfl); (case k5 => k_asm); (case k6 => k_asm); (case k2 => k_mem); (case k3 => walk_at "my strs"); (case k4 => walk_at "my bound"); (case k7 => rfl); (case k8 => rfl); (case kg => rfl); (case k9 => walk_at "my nat"); (case k10 => walk_at "my nat"); all_goals (first | ((intro wd' t' i' p' tp' u' h' tk' own' hw' hoff' hp1' hp2' hloop' F' N'); (try dsimp only [List.map] at hoff'); (try simp only [List.cons_append, List.nil_append] at N'); (try k_sweep); (try k_fold)) | ((intro p' tp' u' h' tk' hloop' F' N'); (try k_sweep)))))))
local macro_rules | `(tactic| walk_at "InvEndN") => `(tactic| ((rename News _ _ _ _ => nE'); (refine' ls_end (_, _) (by assumption) nE' ?qn1 ?qn2 ?qa ?qk1 ?qk2 ?qp); (case qn1 => kst_in); (case qn2 => (intro p hp; kst_mem)); (case qa => rfl); (case qk1 => kst_all); (case qk2 => walk_at "my same"); (case qp => exact pf_step (by assumption) (by assumption) (by assumption) (by walk_at "my nat") (by omega) (by assumption))))
local macro_rules | `(tactic| walk_at "my same") => `(tactic| (intro z h2 h3; (simp only [List.forall_mem_cons, List.not_mem_nil, false_implies, implies_true, and_true, ne_eq] at h2); (simp only [List.contains_cons, List.contains_nil, Bool.or_false, Bool.or_eq_false_iff, beq_eq_false_iff_ne, ne_eq] at h3); (simp [kstB, Between, h2, h3]; done)))
set_option maxRecDepth 100000 in
set_option maxHeartbeats 1500000 in
theorem match_spec {w : World} {mg mb : Str → Option Value} {e1 : Env} {s : Shared} {want got : Str} {t1 t2 : Tok} {Q E : Value → Shared → Prop}
    (X : (hd.heap_39 w.params).In s.heap) (T : TR mg mb s.heap) (hw : want.length ≤ 1000) (hg : got.length ≤ 1000)
    (h : ∀ h' tk, Keep s.heap h' → Q (.bool (matchF want got)) { s with heap := h', toks := tk }) :
    wpAny (model PR w) (callerA.deeper e1) (call (.ref 21) [.str want t1, .str got t2]) Q E s := by
  k_with_none
  refine' enterP (binds := [(Str.ofString "want", .str want t1), (Str.ofString "got", .str got t2)]) X T ?k6 ?k7 ?k8 ?k9 ?kB ?_ ?c2 ?c3 ?c4 ?c5
  (case k6 => k_is); (case k7 => k_is); (case k8 => k_room); (case k9 => exact BindsTo.of_eq rfl); (case c5 => decide); (case kB => exact locs rfl); (case c2 => exact rfl); (case c3 => exact rfl); (case c4 => exact rfl); 
  k_whole
  intro L' h' F' N'
  try dsimp only
  try k_fold
  k_steps
  all_goals (repeat' (first | k_unfold | dsimp only))
  all_goals (refine endB (h _ _ (Fr.keep (by assumption))) ?_)
  all_goals (have q8 : ¬ ((got.length : Int) < 0) := Int.not_lt.mpr (Int.natCast_nonneg _))
  all_goals (first | (simp only [matchF, matchA, matchB, matchC, *, if_true, if_false, Bool.false_eq_true]; done) | ((have q9 := pf_out (by assumption) (by assumption)); (rename loopF _ _ (_ :: _) _ = _ => q7); (clear q7); (simp only [matchF, matchA, matchB, matchC, *, if_true, if_false, Bool.false_eq_true]; done)))
end Mine
end Mmatch

section Mloop2
open PySem PySem.W PySem.Calls PyProof.Rows
namespace Mine
noncomputable def InvEndG (h₀ : Heap) (L : Addr) (J : (Str → Option Value) → List (Addr × Obj) → Prop) (own : List (Addr × Obj)) (s₁ s₂ : Shared) : Prop :=
  ∃ h' tk m' news' nx, s₂ = { s₁ with heap := h', toks := tk } ∧ Fr h₀ L h' m' ∧ News h₀ L h' news' ∧ (∀ p ∈ nx, p ∈ news') ∧ (∀ p ∈ own, p ∈ news') ∧ OwnOff own (nx.map (·.1)) ∧ J m' nx
noncomputable def InvPostG (h₀ : Heap) (L : Addr) (J : (Str → Option Value) → List (Addr × Obj) → Prop) (own : List (Addr × Obj)) (s₁ : Shared) (Q : Flow → Shared → Prop) (f : Flow) (s₂ : Shared) : Prop :=
  match f with
  | .ret v => Q (.ret v) s₂
  | .brk => Q .next s₂
  | _ => InvEndG h₀ L J own s₁ s₂
section
variable {prog : Program} {w : World} {A : Around} {E : Value → Shared → Prop} {s : Shared} {env : Env} {h₀ : Heap} {target : Expr} {body : List Stmt} {Q : Flow → Shared → Prop} {l : Addr} {vs : List Value}
/-- a for over a list of the base heap, any target, a ledger whose addresses may change -/
theorem for_base2 {σ : Type} {m₀ : Str → Option Value} (Led : σ → List (Addr × Obj)) (ps : σ → List (Str × Value)) (stored : List Str) (P : Nat → σ → Prop) (c₀ : σ)
    (hh : A.handled = none) (hl : h₀.IsList l vs.toArray) (F : Fr h₀ env.locals s.heap m₀) (N : News h₀ env.locals s.heap (Led c₀)) (hk : ∀ p ∈ ps c₀, m₀ p.1 = some p.2) (hp : P 0 c₀)
    (turn : ∀ (c : σ) i v (u : Str → Option Value) h tk own, vs[i]? = some v → OwnOff own ((Led c).map (·.1)) → P i c →
      Fr h₀ env.locals h (kstB (Between stored u m₀) (ps c)) → News h₀ env.locals h (Led c ++ own) →
      wpAny (model prog w) A (assign target env v) (fun _ s₃ => wpAny (model prog w) A (execs body env) (InvPostG h₀ env.locals (LSt Led ps stored m₀ P (i + 1)) own { s with heap := h, toks := tk } Q) E s₃) E { s with heap := h, toks := tk })
    (done : ∀ (c : σ) (u : Str → Option Value) h tk, P vs.length c → Fr h₀ env.locals h (kstB (Between stored u m₀) (ps c)) → News h₀ env.locals h (Led c) → Q .next { s with heap := h, toks := tk }) :
    wpAny (model prog w) A (pyIter (.ref l)) (fun it s₂ => TurnsAt prog w A h₀ env target body Q E it s₂) E s := by
  have hls : s.heap.IsList l vs.toArray := hl.at fun o e => F.keep l o e
  obtain ⟨ol, hol, _⟩ := id hl
  have hlt : l < h₀.objs.size := Heap.lt_size hol
  have hne : l ≠ s.heap.objs.size := Nat.ne_of_lt (Nat.lt_trans (Nat.lt_of_lt_of_le hlt F.above) F.ns.lt)
  refine wpAny_pyIter_list hls ?_
  have W := KTurns.ofWalks (target := target) (Walks.list (prog := prog) (w := w) hh s.heap.objs.size l hne vs.toArray) (fun i v s Q E st q => letGo_listiter st.1 q)
  have hlen : vs.toArray.size = vs.length := List.size_toArray
  rw [hlen] at W
  refine ⟨_, _, _, vs.length, _, _, _, m₀, Led c₀, (fun i m nx => LSt Led ps stored m₀ P i m nx), rfl, W, ?_, ?_, ?_, ⟨⟨_, Heap.get?_push_size _ rfl, rfl, rfl⟩, hls.at fun o e => Heap.get?_push_of_some _ e⟩, F.push _, (fun p hp => ⟨Heap.get?_push_of_some _ (N p hp).1, (N p hp).2⟩), ⟨c₀, rfl, hk, fun _ _ _ => rfl, hp⟩, ?_, ?_⟩
  · intro hm
    rcases List.mem_cons.mp hm with e | hm
    · exact absurd F.ns.lt (e ▸ Nat.lt_irrefl _)
    · exact absurd (Nat.lt_of_lt_of_le hlt F.above) ((List.mem_singleton.mp hm) ▸ Nat.lt_irrefl _)
  · intro b hb
    rw [List.mem_singleton.mp hb]
    exact next_is_new F
  · intro p hp hI
    exact absurd (Heap.lt_size (N p hp).1) ((List.mem_singleton.mp hI) ▸ Nat.lt_irrefl _)
  · rintro i v m₁ nx h tk own hin hP ⟨c, rfl, h1, h2, hp'⟩ hoff hown hget hall hst F₁ N₁
    have hsep : OwnOff own ((Led c).map (·.1)) := by
      intro p hp b hb e
      obtain ⟨q, hq, rfl⟩ := List.mem_map.mp hb
      rcases List.mem_cons.mp (hown p hp) with h1 | h1
      · exact hoff q hq (by rw [← e, h1]; exact .head _)
      · have h2 := List.mem_singleton.mp h1
        have h3 := (N₁ q (List.mem_append.mpr (.inr hq))).2.2
        rw [← e, h2, hol] at h3
        cases h3
    obtain ⟨oi, hoi⟩ : ∃ oi, (s.heap.objs.size, oi) ∈ own := by
      obtain ⟨⟨oi, hoi, _⟩, _⟩ := hst
      exact ⟨oi, hall _ (.head _) (next_is_new F) oi hoi⟩
    have N₂ : News h₀ env.locals h (Led c ++ own) := fun p hp => N₁ p ((List.mem_append.mp hp).elim (fun h => List.mem_append.mpr (.inr h)) fun h => List.mem_append.mpr (.inl h))
    refine wpAny_mono (turn c i v m₁ h tk own (by simpa using hP) hsep hp' (LSt.fr h1 h2 F₁) N₂) (fun _ s₂ q => wpAny_mono q (fun f s₃ p => ?_) fun _ _ e => e) fun _ _ e => e
    have fin : InvEndG h₀ env.locals (LSt Led ps stored m₀ P (i + 1)) own { s with heap := h, toks := tk } s₃ →
        LoopStepU h₀ env.locals [s.heap.objs.size] own (fun m nx => LSt Led ps stored m₀ P (i + 1) m nx) { s with heap := h, toks := tk } .next s₃ := by
      rintro ⟨h', tk', m', news', nx, e, F', N', hn, ho, ha, hm⟩
      refine ⟨rfl, h', tk', m', nx, e, F', fun p hp => N' p ((List.mem_append.mp hp).elim (ho p) (hn p)), fun p hp hq => ?_, hm⟩
      exact ha _ hoi p.1 (List.mem_map.mpr ⟨p, hp, rfl⟩) (List.mem_singleton.mp hq).symm
    cases f with
    | ret v => exact p
    | brk => exact p
    | next => exact fin p
    | cont => exact fin p
  · rintro h' tk m' news' F' N' _ ⟨c, rfl, h1, h2, hp'⟩
    exact done c m' h' tk hp' (LSt.fr h1 h2 F') N'
theorem lsg_end {σ : Type} {Led : σ → List (Addr × Obj)} {ps : σ → List (Str × Value)} {stored : List Str} {m₀ : Str → Option Value} {P : Nat → σ → Prop} {i : Nat} (c : σ) {L : Addr} {m' : Str → Option Value} {own news' : List (Addr × Obj)} {s₁ : Shared} {h' : Heap} {tk : Nat}
    (F : Fr h₀ L h' m') (N : News h₀ L h' news') (hn : ∀ p ∈ Led c, p ∈ news') (ho : ∀ p ∈ own, p ∈ news') (ha : OwnOff own ((Led c).map (·.1))) (hk : ∀ p ∈ ps c, m' p.1 = some p.2) (hr : ∀ z, (∀ p ∈ ps c, z ≠ p.1) → stored.contains z = false → m' z = m₀ z) (hp : P i c) :
    InvEndG h₀ L (LSt Led ps stored m₀ P i) own s₁ { s₁ with heap := h', toks := tk } :=
  ⟨h', tk, m', news', Led c, rfl, F, N, hn, ho, ha, c, rfl, hk, hr, hp⟩
end
end Mine
end Mloop2

section Mcomp
open PySem PySem.W PySem.Calls PyProof.Rows PyProof.Rows.LCg PyProof.Rows.LCt
namespace Mine
noncomputable def CEnd (h₀ : Heap) (L : Addr) (m : Str → Option Value) (s₁ : Shared) (led : List (Addr × Obj)) (K : Value → Prop) (y : Value) (s₂ : Shared) : Prop :=
  ∃ h' tk, s₂ = { s₁ with heap := h', toks := tk } ∧ Fr h₀ L h' m ∧ News h₀ L h' led ∧ K y
theorem cend_intro {h₀ : Heap} {L : Addr} {m : Str → Option Value} {s₁ : Shared} {led all : List (Addr × Obj)} {K : Value → Prop} {y : Value} {h' : Heap} {tk : Nat} (F : Fr h₀ L h' m) (N : News h₀ L h' all) (sub : ∀ p ∈ led, p ∈ all) (k : K y) :
    CEnd h₀ L m s₁ led K y { s₁ with heap := h', toks := tk } := ⟨h', tk, rfl, F, fun p hp => N p (sub p hp), k⟩
section
variable {prog : Program} {w : World} {A : Around} {E : Value → Shared → Prop} {h₀ : Heap} {L : Addr} {m : Str → Option Value} {env : Env} {ct elt : Expr} {x : Str} {scope : Scope} {cl : List (Str × Addr)} {s : Shared} {S : List (Addr × Obj) → Prop} {P : Nat → Value → Prop} {Fin : List Value → List (Addr × Obj) → Prop} {news : List (Addr × Obj)}
theorem comp_filter {α β : Type} {n : Nat} (ks : List α) (p : α → Bool) (f : α → β) (vin : α → Tok → Value) (vout : β → Tok → Value) (Rel : List Value → List β → Prop) (hnil : Rel [] []) (hsnoc : ∀ ys l b t, Rel ys l → Rel (ys ++ [vout b t]) (l ++ [b]))
    (hn : ks.length = n) (hP : ∀ i v, i < n → P i v → ∃ k t, ks[i]? = some k ∧ v = vin k t) (hS : S news)
    (turn : ∀ k t I oI C oC D m₂ ys h tk (E' : Value → Shared → Prop), k ∈ ks → NsObj oC m₂ → m₂ x = some (vin k t) → Fr h₀ L h m → News h₀ L h ((I, oI) :: (C, oC) :: (D, lst ys) :: news) → Off3 I C D news → ((@Ne Nat I C) ∧ (@Ne Nat I D) ∧ (@Ne Nat C D)) →
      wpAny (model prog w) A (isTrue ct (compEnvC scope cl C env) (eval ct (compEnvC scope cl C env))) (fun b s' => if b = true then
        wpAny (model prog w) A (eval elt (compEnvC scope cl C env)) (CEnd h₀ L m { s with heap := h, toks := tk } ((I, oI) :: (C, oC) :: (D, lst ys) :: news) (fun y => p k = true ∧ ∃ t, y = vout (f k) t)) E' s'
        else CEnd h₀ L m { s with heap := h, toks := tk } ((I, oI) :: (C, oC) :: (D, lst ys) :: news) (fun _ => p k = false) Value.none s') E' { s with heap := h, toks := tk })
    (fin : ∀ ys, Rel ys ((ks.filter p).map f) → Fin ys news) : CompRestT prog w A h₀ L m env ct elt x scope cl s S P Fin n 0 [] news := by
  have key : ∀ (j i : Nat) (ys : List Value), i + j = n → Rel ys (((ks.take i).filter p).map f) → CompRestT prog w A h₀ L m env ct elt x scope cl s S P Fin j i ys news := by
    intro j
    induction j with
    | zero =>
      intro i ys hi hy
      have e : i = ks.length := by omega
      subst e
      rw [List.take_length] at hy
      exact CompRestT.zero (fin ys hy)
    | succ j ih =>
      intro i ys hi hy
      refine CompRestT.succ ?_
      intro v I oI C oC D m₂ h tk E' hv hC hx F N off ne
      obtain ⟨k, t, hk, hv'⟩ := hP i v (by omega) hv
      rw [hv'] at hx
      have hs : ks.take (i + 1) = ks.take i ++ [k] := by rw [List.take_add_one, hk]; rfl
      refine wpAny_mono (turn k t I oI C oC D m₂ ys h tk E' (List.mem_of_getElem? hk) hC hx F N off ne) (fun b s₂ hq => ?_) fun _ _ e => e
      cases b with
      | true =>
        simp only [if_true] at hq ⊢
        refine wpAny_mono hq (fun y s₃ hr => ?_) fun _ _ e => e
        obtain ⟨h', tk', e, F', N', hp, t', hy'⟩ := hr
        refine ⟨h', tk', news, e, F', N', off, hS, ?_⟩
        rw [hy']
        refine ih (i + 1) _ (by omega) ?_
        rw [hs, List.filter_append, List.map_append]
        have : List.filter p [k] = [k] := by simp [hp]
        rw [this]
        exact hsnoc _ _ _ _ hy
      | false =>
        simp only [Bool.false_eq_true, if_false] at hq ⊢
        obtain ⟨h', tk', e, F', N', hp⟩ := hq
        refine ⟨h', tk', news, e, F', N', off, hS, ih (i + 1) _ (by omega) ?_⟩
        rw [hs, List.filter_append, List.map_append]
        have : List.filter p [k] = [] := by simp [hp]
        rw [this]
        simpa using hy
  exact key n 0 [] (by omega) (by simpa using hnil)
theorem ints_snoc (ys : List Value) (l : List Int) (b : Int) (t : Tok) (h : IntsAre ys l) : IntsAre (ys ++ [.int b t]) (l ++ [b]) := IntsAre.append h (.cons b t .nil)
theorem strs_snoc (ys : List Value) (l : List Str) (b : Str) (t : Tok) (h : StrsAre ys l) : StrsAre (ys ++ [.str b t]) (l ++ [b]) := h.append' (.cons b t .nil)
theorem ints_at {vs : List Value} {ns : List Int} (hi : IntsAre vs ns) (i : Nat) (v : Value) (hv : vs.toArray[i]? = some v) : ∃ k t, ns[i]? = some k ∧ v = Value.int k t := by
  obtain ⟨k, t, e, hk⟩ := IntsAre.at hi i v (by simpa using hv)
  exact ⟨k, t, hk, e⟩
theorem strs_at {vs : List Value} {ns : List Str} (hi : StrsAre vs ns) (i : Nat) (v : Value) (hv : vs.toArray[i]? = some v) : ∃ k t, ns[i]? = some k ∧ v = Value.str k t := by
  have hv' : vs[i]? = some v := by simpa using hv
  have hlt : i < ns.length := by rw [← hi.length]; exact (List.getElem?_eq_some_iff.mp hv').1
  obtain ⟨t, ht⟩ := hi.get i ns[i] (List.getElem?_eq_getElem hlt)
  rw [hv'] at ht
  exact ⟨ns[i], t, List.getElem?_eq_getElem hlt, Option.some.inj ht⟩
end
end Mine
end Mcomp

section Mfits
open PySem PySem.W PySem.Calls PyProof.Rows PySem.Builtin PySem.Builtin.Str PyProof.Rows.LCg PyProof.Rows.LCt
namespace Mine
theorem fill5 (w : World) : hd.heap_39 w.params = hd.heap_39 w.params ∧ PySem.Challenge.rw_mq0143_01 = PySem.Challenge.rw_mq0143_01 := by
  k_fill
  exact ⟨rfl, rfl⟩
structure Mark (α : Type) (x : α) : Prop where
  mk ::
noncomputable def rangeL (a b : Int) : List Int := rangeKs a (b - a).toNat
noncomputable def fitsStep (parts : List Str) (mark : Str) (pn : List Int) : List Int :=
  if mark = Str.ofString "..." then rangeL (pn.headD 0 + 1) ((parts.length : Int) + 1)
  else (pn.filter fun k => decide (k < (parts.length : Int)) && (parts.getD k.toNat Str.empty == mark)).map (· + 1)
noncomputable def fitsL (parts : List Str) : List Str → List Int → Bool
  | [], pn => pn.any fun x => x == (parts.length : Int)
  | mark :: r, pn => if pn = [] then false else fitsL parts r (fitsStep parts mark pn)
structure FitSt where
  a : Addr
  pv : List Value
  pn : List Int
  n : Nat
  o : Obj
  v : Option Value
noncomputable def FitOk (parts marks : List Str) (i : Nat) (c : FitSt) : Prop :=
  IntsAre c.pv c.pn ∧ (∀ k ∈ c.pn, 0 ≤ k ∧ k ≤ (parts.length : Int)) ∧ c.pn.length ≤ 1001 ∧ c.o.data = .cell c.v ∧ fitsL parts (marks.drop i) c.pn = fitsL parts marks [0]
abbrev FitLed (cm cp : Addr) (o2 : Obj) (c : FitSt) : List (Addr × Obj) := [(c.a, listOf c.pv.toArray c.n), (cm, c.o), (cp, o2)]
abbrev FitPs (c : FitSt) : List (Str × Value) := [(Str.ofString "places", .ref c.a)]
section
variable {prog : Program} {w : World} {A : Around} {E : Value → Shared → Prop} {s : Shared} {env : Env} {h₀ : Heap} {target : Expr} {body : List Stmt} {Q : Flow → Shared → Prop}
theorem for_fits {m₀ : Str → Option Value} {a cm cp lm : Addr} {o o2 : Obj} {t : Tok} {v0 v2 : Option Value} {vm : List Value} {marks parts : List Str} (hMk : Mark (List Str) parts)
    (hh : A.handled = none) (hl : h₀.IsList lm vm.toArray) (S : StrsAre vm marks) (F : Fr h₀ env.locals s.heap m₀) (N : News h₀ env.locals s.heap [(a, listOf #[.int 0 t] 0), (cm, o), (cp, o2)]) (hm : m₀ (Str.ofString "places") = some (.ref a)) (hc : o.data = .cell v0) (hc2 : o2.data = .cell v2)
    (turn : ∀ mark tm i (a : Addr) pv pn n (o : Obj) v0 (u : Str → Option Value) h tk own, OwnOff own [a, cm, cp] → @Ne Nat a cm → @Ne Nat a cp → IntsAre pv pn → (∀ k ∈ pn, 0 ≤ k ∧ k ≤ (parts.length : Int)) → pn.length ≤ 1001 → o.data = .cell v0 → fitsL parts (mark :: marks.drop (i + 1)) pn = fitsL parts marks [0] →
      Fr h₀ env.locals h (kstB (Between [] u m₀) [(Str.ofString "places", .ref a)]) → News h₀ env.locals h ((a, listOf pv.toArray n) :: (cm, o) :: (cp, o2) :: own) →
      wpAny (model prog w) A (assign target env (.str mark tm)) (fun _ s₃ => wpAny (model prog w) A (execs body env) (InvPostG h₀ env.locals (LSt (FitLed cm cp o2) FitPs [] m₀ (FitOk parts marks) (i + 1)) own { s with heap := h, toks := tk } Q) E s₃) E { s with heap := h, toks := tk })
    (done : ∀ (a : Addr) pv pn n (o : Obj) v0 (u : Str → Option Value) h tk, IntsAre pv pn → pn.length ≤ 1001 → o.data = .cell v0 → (pn.any fun x => x == (parts.length : Int)) = fitsL parts marks [0] →
      Fr h₀ env.locals h (kstB (Between [] u m₀) [(Str.ofString "places", .ref a)]) → News h₀ env.locals h [(a, listOf pv.toArray n), (cm, o), (cp, o2)] → Q .next { s with heap := h, toks := tk }) :
    wpAny (model prog w) A (pyIter (.ref lm)) (fun it s₂ => TurnsAt prog w A h₀ env target body Q E it s₂) E s := by
  refine for_base2 (σ := FitSt) (FitLed cm cp o2) FitPs [] (FitOk parts marks) ⟨a, [.int 0 t], [0], 0, o, v0⟩ hh hl F N (by simpa [FitPs] using hm) ⟨.cons 0 t .nil, by simp, by simp, hc, rfl⟩ ?_ ?_
  · rintro ⟨a, pv, pn, n, o, v0⟩ i v u h tk own hv hoff ⟨h1, h2, h3, h4, h5⟩ F₁ N₁
    have hlt : i < marks.length := by rw [← S.length]; exact (List.getElem?_eq_some_iff.mp hv).1
    obtain ⟨t, ht⟩ := S.get i marks[i] (List.getElem?_eq_getElem hlt)
    rw [hv] at ht
    cases ht
    refine turn marks[i] t i a pv pn n o v0 u h tk own hoff (fun e => ?_) (fun e => ?_) h1 h2 h3 h4 ?_ F₁ N₁
    · have q1 := (N₁ _ (List.mem_append.mpr (.inl (.head _)))).1
      have q2 := (N₁ _ (List.mem_append.mpr (.inl (.tail _ (.head _))))).1
      have e' : a = cm := e
      dsimp only at q1 q2 h4
      rw [e', q2] at q1
      rw [Option.some.inj q1] at h4
      cases h4
    · have q1 := (N₁ _ (List.mem_append.mpr (.inl (.head _)))).1
      have q2 := (N₁ _ (List.mem_append.mpr (.inl (.tail _ (.tail _ (.head _)))))).1
      have e' : a = cp := e
      dsimp only at q1 q2
      rw [e', q2] at q1
      rw [Option.some.inj q1] at hc2
      cases hc2
    · rw [← h5, List.drop_eq_getElem_cons hlt]
  · rintro ⟨a, pv, pn, n, o, v0⟩ u h tk ⟨h1, h2, h3, h4, h5⟩ F₁ N₁
    refine done a pv pn n o v0 u h tk h1 h3 h4 ?_ F₁ N₁
    rw [S.length, List.drop_length] at h5
    exact h5
end
noncomputable def fitsP (parts : List Str) (mark : Str) (k : Int) : Bool := decide (k < (parts.length : Int)) && (parts.getD k.toNat Str.empty == mark)
theorem fits_src {prog : Program} {w : World} {A : Around} {h₀ : Heap} {L : Addr} {m : Str → Option Value} {env : Env} {ct elt : Expr} {x : Str} {scope : Scope} {cl : List (Str × Addr)} {Fin : Shared → List Value → List (Addr × Obj) → Prop} {ax : Addr} {pv : List Value} {pn : List Int} {k : Nat} {news : List (Addr × Obj)} {s₁ : Shared} {parts rest : List Str} {mark : Str} {R0 : Bool}
    (hloop : fitsL parts (mark :: rest) pn = R0) (hh : A.handled = none) (F : Fr h₀ L s₁.heap m) (N : News h₀ L s₁.heap news) (hm : (ax, listOf pv.toArray k) ∈ news) (hi : IntsAre pv pn) (hn : pn.length ≤ 1001)
    (turn : ∀ (g : Heap) k t I oI C oC D m₂ ys h tk (E' : Value → Shared → Prop), k ∈ pn → NsObj oC m₂ → m₂ x = some (.int k t) → Fr h₀ L h m → News h₀ L h ((I, oI) :: (C, oC) :: (D, lst ys) :: news) → Off3 I C D news → ((@Ne Nat I C) ∧ (@Ne Nat I D) ∧ (@Ne Nat C D)) →
      wpAny (model prog w) A (isTrue ct (compEnvC scope cl C env) (eval ct (compEnvC scope cl C env))) (fun b s' => if b = true then
        wpAny (model prog w) A (eval elt (compEnvC scope cl C env)) (CEnd h₀ L m { s₁ with heap := h, toks := tk } ((I, oI) :: (C, oC) :: (D, lst ys) :: news) (fun y => fitsP parts mark k = true ∧ ∃ t, y = .int (k + 1) t)) E' s'
        else CEnd h₀ L m { s₁ with heap := h, toks := tk } ((I, oI) :: (C, oC) :: (D, lst ys) :: news) (fun _ => fitsP parts mark k = false) Value.none s') E' { s₁ with heap := h, toks := tk })
    (fin : ∀ g ys, IntsAre ys ((pn.filter (fitsP parts mark)).map (· + 1)) → Fin { s₁ with heap := g } ys news) :
    CompSrcT prog w A h₀ L m env ct elt x scope cl Fin (.ref ax) s₁ := by
  have hs : pv.toArray.size = pn.length := by rw [List.size_toArray, hi.length]
  refine CompSrcT.ledger hh F N (its := pv.toArray) (k := k) hm (by rw [hs, sizeLine_eq]; omega) fun g => ?_
  refine comp_filter pn (fitsP parts mark) (· + 1) Value.int Value.int IntsAre .nil ints_snoc hs.symm (fun i v _ hv => ints_at hi i v hv) (.inr ⟨_, hm, rfl, _, rfl⟩) (fun k t I oI C oC D m₂ ys h tk E' hk hC hx F N off ne => turn g k t I oI C oC D m₂ ys h tk E' hk hC hx F N off ne) (fun ys hy => fin g ys hy)
theorem item_firstI {prog : Program} {w : World} {A : Around} {E : Value → Shared → Prop} {s : Shared} {a : Addr} {vs : List Value} {ns : List Int} {value slice : PySem.Expr} {u : Tok} {Q : Value → Shared → Prop} (hl : s.heap.IsList a vs.toArray) (hS : IntsAre vs ns) {c : Int} (hb : ∀ k ∈ ns, 0 ≤ k ∧ k ≤ c) (hne : decide (ns = []) = false) (h : ∀ t, 0 ≤ ns.headD 0 → ns.headD 0 ≤ c → Q (.int (ns.headD 0) t) s)
    (hs : subscripted slice false (.ref a) (.int 0 u) = operate [.ref a, .int 0 u] (getItem (.ref a) (.int 0 u)) := by with_unfolding_all rfl) (hg : ∀ r, letTemporaryGo value (.ref a) r = pure () := by intro _; with_unfolding_all rfl) :
    wpAny (model prog w) A (subscriptTail value slice (.ref a) (.int 0 u)) Q E s := by
  cases hS with
  | nil => exact absurd hne (by decide)
  | cons y t r => exact item_listL hl (by decide) (by decide) (x := .int y t) rfl (h t (hb y (.head _)).1 (hb y (.head _)).2) hs hg
theorem item_atS {prog : Program} {w : World} {A : Around} {E : Value → Shared → Prop} {s : Shared} {a : Addr} {vs : List Value} {xs : List Str} {k : Int} {value slice : PySem.Expr} {u : Tok} {Q : Value → Shared → Prop} (hl : s.heap.IsList a vs.toArray) (hS : StrsAre vs xs) {pn : List Int} {c : Int} (hk : k ∈ pn) (hpn : ∀ k ∈ pn, 0 ≤ k ∧ k ≤ c) (h1 : k < (xs.length : Int)) (hb : xs.length ≤ 1000) (h : ∀ t, Q (.str (xs.getD k.toNat Str.empty) t) s)
    (hs : subscripted slice false (.ref a) (.int k u) = operate [.ref a, .int k u] (getItem (.ref a) (.int k u)) := by with_unfolding_all rfl) (hg : ∀ r, letTemporaryGo value (.ref a) r = pure () := by intro _; with_unfolding_all rfl) :
    wpAny (model prog w) A (subscriptTail value slice (.ref a) (.int k u)) Q E s := by
  have h0 := (hpn k hk).1
  have hlt : k.toNat < xs.length := by omega
  obtain ⟨t, ht⟩ := hS.get k.toNat (xs.getD k.toNat Str.empty) (by rw [List.getD_eq_getElem?_getD, List.getElem?_eq_getElem hlt]; rfl)
  exact item_listL hl h0 (by omega) ht (h t) hs hg
theorem ld_builtR {M : Model} {A : Around} {E : Value → Shared → Prop} {s : Shared} {K : Frag} {h₀ : Heap} {L C : Addr} {m mg mb : Str → Option Value} {scope : Scope} {cl : List (Str × Addr)} {env : Env} {p : Program} {loose : List Str} {x : Str} {pos : Pos} {v : Value} {Q : Value → Shared → Prop}
    (F : Fr h₀ L s.heap m) (X : K.In h₀) (T : TopRead p loose mg mb h₀) (e : nsIn K mainGlobals x = some none) (hv : bootBuiltins x = some v) (hn : x ≠ "__name__") (h : Q v s) (hg : env.globals = mainGlobals := by rfl) (hb : env.builtins = builtinsNs := by rfl)
    (hk : (compEnvC scope cl C env).scope.kind = .function := by rfl) (hx : (compEnvC scope cl C env).kindOf x = some .globalImplicit := by rfl) (hd : (x == ("__debug__" : Str)) = false := by decide) :
    wpAny M A (eval (.Name x pos) (compEnvC scope cl C env)) Q E s := by
  have T' := T.keeps F.keep
  have e1 : mg x = none := mg_none_of X T.g e
  have e2 : mb x = some v := by rw [T.builtins x hn]; exact hv
  refine Name_function_global hk hx ?_ hd
  refine loadGlobal_builtin (mg := mg) (mb := mb) ?_ e1 ?_ e2 h
  · show s.heap.Ns env.globals mg
    rw [hg]; exact T'.g
  · show s.heap.Ns env.builtins mb
    rw [hb]; exact T'.b
theorem ownoff_lt {own news : List (Addr × Obj)} {a cm cp D : Addr} (hoff : OwnOff own [a, cm, cp]) (hl : ∀ p ∈ news, p.1 < D) (hs : ∀ p ∈ own, p ∈ news) : OwnOff own [D, cm, cp] := by
  intro p hp b hb
  rcases List.mem_cons.mp hb with rfl | hb
  · exact Nat.ne_of_lt (hl p (hs p hp))
  · exact hoff p hp b (.tail _ hb)
theorem ownoff_ne {own news : List (Addr × Obj)} {a cm cp D : Addr} (hoff : OwnOff own [a, cm, cp]) (hl : Off1 D news) (hs : ∀ p ∈ own, p ∈ news) : OwnOff own [D, cm, cp] := by
  intro p hp b hb
  rcases List.mem_cons.mp hb with rfl | hb
  · have key : ∀ (l : List (Addr × Obj)), Off1 b l → ∀ p ∈ l, p.1 ≠ b := by
      intro l
      induction l with
      | nil => intro _ p hp; cases hp
      | cons q r ih => intro hq p hp; rcases List.mem_cons.mp hp with rfl | hp; exact hq.1; exact ih hq.2 p hp
    exact key _ hl p (hs p hp)
  · exact hoff p hp b (.tail _ hb)
theorem fits_next1 {parts marks : List Str} {mark : Str} {i : Nat} {pn : List Int} {D : Addr} {us : List Value} {c : Nat} {o : Obj} {v : Option Value} (hloop : fitsL parts (mark :: marks.drop (i + 1)) pn = fitsL parts marks [0]) (hne : decide (pn = []) = false) (hm : (mark == Str.ofString "...") = true)
    (h0 : 0 ≤ pn.headD 0) (hp : parts.length ≤ 1000) (hI : IntsAre us (rangeKs (pn.headD 0 + 1) (((parts.length : Int) + 1) - (pn.headD 0 + 1)).toNat)) (ho : o.data = .cell v) : FitOk parts marks (i + 1) ⟨D, us, rangeKs (pn.headD 0 + 1) (((parts.length : Int) + 1) - (pn.headD 0 + 1)).toNat, c, o, v⟩ := by
  refine ⟨hI, fun k hk => ?_, ?_, ho, ?_⟩
  · have := mem_rangeKs hk
    omega
  · show (rangeKs _ _).length ≤ _; rw [rangeKs_length]; omega
  · have e : mark = Str.ofString "..." := by simpa using hm
    dsimp only
    rw [← hloop, fitsL, if_neg (by simpa using hne), fitsStep, if_pos e]; rfl
theorem fits_next2 {parts marks : List Str} {mark : Str} {i : Nat} {pn : List Int} {D : Addr} {us : List Value} {c : Nat} {o : Obj} {v : Option Value} (hloop : fitsL parts (mark :: marks.drop (i + 1)) pn = fitsL parts marks [0]) (hne : decide (pn = []) = false) (hm : (mark == Str.ofString "...") = false)
    (hb : ∀ k ∈ pn, 0 ≤ k ∧ k ≤ (parts.length : Int)) (hn : pn.length ≤ 1001) (hI : IntsAre us ((pn.filter (fitsP parts mark)).map (· + 1))) (ho : o.data = .cell v) : FitOk parts marks (i + 1) ⟨D, us, (pn.filter (fitsP parts mark)).map (· + 1), c, o, v⟩ := by
  refine ⟨hI, fun k hk => ?_, ?_, ho, ?_⟩
  · obtain ⟨q, hq, rfl⟩ := List.mem_map.mp hk
    obtain ⟨hq1, hq2⟩ := List.mem_filter.mp hq
    have := hb q hq1
    simp only [fitsP, Bool.and_eq_true, decide_eq_true_eq] at hq2
    omega
  · dsimp only; rw [List.length_map]; exact Nat.le_trans (List.length_filter_le _ _) hn
  · have e : ¬ mark = Str.ofString "..." := by simpa using hm
    dsimp only
    rw [← hloop, fitsL, if_neg (by simpa using hne), fitsStep, if_neg e]; rfl
theorem fitsP_no1 {parts : List Str} {mark : Str} {k : Int} (h : ¬ k < (parts.length : Int)) : fitsP parts mark k = false := by simp [fitsP, h]
theorem fitsP_no2 {parts : List Str} {mark : Str} {k : Int} (h : (parts.getD k.toNat Str.empty == mark) = false) : fitsP parts mark k = false := by unfold fitsP; rw [h, Bool.and_false]
theorem fitsP_yes {parts : List Str} {mark : Str} {k : Int} (h : k < (parts.length : Int)) (h2 : (parts.getD k.toNat Str.empty == mark) = true) : fitsP parts mark k = true := by unfold fitsP; rw [h2, Bool.and_true]; exact decide_eq_true h
theorem fits_out {parts marks : List Str} {mark : Str} {i : Nat} {pn : List Int} (hloop : fitsL parts (mark :: marks.drop (i + 1)) pn = fitsL parts marks [0]) (hne : decide (pn = []) = true) : fitsL parts marks [0] = false := by
  rw [← hloop, fitsL, if_pos (by simpa using hne)]
local macro_rules | `(tactic| walk_at $s:str) => `(tactic| k_extra $s)
set_option maxRecDepth 100000 in
set_option maxHeartbeats 1500000 in
theorem fits_spec {w : World} {mg mb : Str → Option Value} {e1 : Env} {s : Shared} {lm lp : Addr} {vm vp : List Value} {marks parts : List Str} {Q E : Value → Shared → Prop}
    (X : (hd.heap_39 w.params).In s.heap) (T : TR mg mb s.heap) (hlm : s.heap.IsList lm vm.toArray) (hlp : s.heap.IsList lp vp.toArray) (Sm : StrsAre vm marks) (Sp : StrsAre vp parts) (hbm : marks.length ≤ 1000) (hbp : parts.length ≤ 1000)
    (h : ∀ h' tk, Keep s.heap h' → Q (.bool (fitsL parts marks [0])) { s with heap := h', toks := tk }) :
    wpAny (model PR w) (callerA.deeper e1) (call (.ref 52) [.ref lm, .ref lp]) Q E s := by
  k_with_none
  k_with "subscriptTail Name Constant ref int" => (k_here; (with_reducible show wpAny _ _ (subscriptTail _ _ (Value.ref _) (Value.int 0 _)) _ _ _); k_dflt (refine' item_firstI (by is_list) (by assumption) (by assumption) (by assumption) ?_; k_whole); intro _ _ _)
  k_with "subscriptTail Name Name ref int" => (k_here; k_dflt (refine' item_atS (by first | is_list | exact Fr.lst (by k_asm) (by assumption)) (by assumption) (by assumption) (by assumption) (by assumption) (by assumption) ?_; k_whole); intro _)
  k_with "eval Name" => (k_here; (with_reducible show wpAny _ _ (eval (Expr.Name _ _) (compEnvC _ _ _ _)) _ _ _); k_dflt (refine ld_builtR (by k_asm) (by k_asm) (by k_asm) (by k_is) (by boot_by_name) (by decide) ?_))
  k_with "CEnd" => ((rename News _ _ _ _ => nE'); (refine' cend_intro (by k_asm) nE' (by (first | exact fun _ h9 => h9 | kst_in | (intro p9 h9; kst_mem))) (by ((try dsimp only); first | exact fitsP_no1 (by assumption) | exact fitsP_no2 (by assumption) | exact ⟨fitsP_yes (by assumption) (by assumption), _, rfl⟩))))
  k_with "InvEndG" => ((rename News _ _ _ _ => nE'); (refine' lsg_end ⟨_, _, _, _, _, _⟩ (by k_asm) nE' (by kst_in) (by (intro p hp; kst_mem)) (by first | exact ownoff_lt (by assumption) (by assumption) (by (intro p hp; kst_mem)) | exact ownoff_ne (by assumption) (by assumption) (by (intro p hp; kst_mem))) (by kst_all) (by walk_at "my same") (by first | exact fits_next1 (by assumption) (by assumption) (by assumption) (by assumption) (by assumption) (by assumption) (by assumption) | exact fits_next2 (by assumption) (by assumption) (by assumption) (by assumption) (by assumption) (by assumption) (by assumption))))
  k_with "my same" => (intro z h2 h3; (simp only [List.forall_mem_cons, List.not_mem_nil, false_implies, implies_true, and_true, ne_eq] at h2); (simp [kstB, Between, h2]; done))
  k_with "call type:list" => (k_here; (with_reducible show wpAny _ _ (call (Value.type _) [Value.ref _]) _ _ _); (rename IsRange _ _ _ _ _ _ _ _ => rgX); (k_dflt (refine' kll_range (by rfl) (by k_asm) (by k_asm) (by exact rgX) (by exact small_one (by omega) (by omega) (by omega) (by omega)) (by exact rangeSize_nat _ _) (by omega) ?_; k_whole)); intro D' vs' c' h' tk' F' N' l1 hI'; (have l2 := l1); (try k_lt l1); (try k_sweep))
  k_with "CompSrcT" => (k_here; k_dflt (focus (refine' fits_src (by assumption) (by rfl) (by k_asm) (by k_asm) (by k_mem) (by assumption) (by assumption) ?_ ?_; all_goals (first | ((intro g' k' t' I' oI' C' oC' D' m' ys' h' tk' E' hk' hC' hx' F' N' off' ne'); (try (simp only [LCg.Off3, and_true] at off')); (try k_sweep); (try k_fold)) | ((intro g' ys' hI'); (try dsimp only [LCg.FinA]); (intro D' h' tk' F' N' off'); (have off2' := off'); (try simp only [LCg.Off1, and_true] at off'); (try k_sweep))))))
  k_with "exec For Name Name cons nil" => (k_here; (rename Fr _ _ _ _ => lF'); (with_unfolding_all refine' For_turns lF' ?_; k_whole))
  k_with "pyIter ref" => (k_here; (with_reducible show wpAny _ _ (pyIter (Value.ref _)) (fun it s₂ => TurnsAt _ _ _ _ _ _ _ _ _ it s₂) _ _); k_dflt (focus (refine' for_fits (by k_asm) (by rfl) (by k_asm) (by k_asm) (by k_asm) (by k_asm) (by rfl) (by k_asm) (by k_asm) ?_ ?_; all_goals (first | ((intro mark' tm' i' a' pv' pn' n' o' v0' u' h' tk' own' hoff' ne1' ne2' hi' hb' hn' hc' hloop' F' N'); (try k_sweep); (try k_fold)) | ((intro a' pv' pn' n' o' v0' u' h' tk' hi' hn' hc' hloop' F' N'); (try k_sweep))))))
  k_with "InvPostG" => (dsimp only [InvPostG])
  refine' enterC (binds := [(Str.ofString "marks", .ref lm), (Str.ofString "parts", .ref lp)]) X T ?k6 ?k7 ?k8 ?k9 ?kB ?kD ?_ ?c2 ?c3 ?c4
  (case k6 => k_is); (case k7 => k_is); (case k8 => k_room); (case k9 => exact BindsTo.of_eq rfl); (case kB => exact rfl); (case kD => decide +kernel); (case c2 => exact rfl); (case c3 => exact rfl); (case c4 => exact rfl); 
  k_whole
  intro L' h' tk' cells' F' N' Y'
  have hMk : Mark (List Str) parts := ⟨⟩
  k_cells Y'
  try simp only [List.cons_append, List.nil_append] at N'
  try dsimp only
  try k_fold
  k_steps
  all_goals (repeat' (first | k_unfold | dsimp only))
  all_goals (refine endB (h _ _ (Fr.keep (by assumption))) ?_)
  · exact fits_out (by assumption) (by assumption)
  · symm; assumption
end Mine
end Mfits

section Mparts0
open PySem PySem.W PySem.Calls PyProof.Rows PySem.Builtin PySem.Builtin.Str PyProof.Rows.LCg PyProof.Rows.LCt
namespace Mine
theorem fill6 (w : World) : hd.heap_39 w.params = hd.heap_39 w.params ∧ PySem.Challenge.rw_mq0143_01 = PySem.Challenge.rw_mq0143_01 := by
  k_fill
  exact ⟨rfl, rfl⟩
noncomputable def notWhite (text : Str) (k : Int) : Bool := (occurrences (Str.ofString " \t\n\r") (Txt.item text k) 0 (Str.ofString " \t\n\r").length 1).isEmpty
noncomputable def placesF (text : Str) : List Int := (rangeKs 0 text.length).filter (notWhite text)
noncomputable def keptF (text : Str) : Str := if placesF text = [] then Str.ofString "" else Txt.slice text (some ((placesF text).headD 0)) (some ((placesF text).getLastD 0 + 1))
noncomputable def isSep (c : Str) : Bool := !(occurrences (Str.ofString "-/\\:;\"()") c 0 (Str.ofString "-/\\:;\"()").length 1).isEmpty
noncomputable def scanC (xs : List Str) (c : Str) : List Str := if isSep c = true then xs ++ [Str.ofString ""] else xs.dropLast ++ [xs.getLastD Str.empty ++ (if (c == Str.ofString " ") = true then Str.ofString "_" else c)]
noncomputable def scanN (kept : Str) : Nat → Int → List Str → List Str
  | 0, _, xs => xs
  | f + 1, k, xs => if k < (kept.length : Int) then (if (Txt.slice kept (some k) (some (k + 7)) == Str.ofString "unknown") = true then scanN kept f (k + 7) xs else scanN kept f (k + 1) (scanC xs (Txt.item kept k))) else xs
noncomputable def partsStep (xs : List Str) (text : Str) : List Str := if text = Str.ofString "" then xs else scanN (keptF text) (keptF text).length 0 (xs ++ [Str.ofString ""])
noncomputable def partsL (texts : List Str) : List Str := texts.foldl partsStep []
noncomputable def partsF (texts : List Str) : List Str := if partsL texts = [] then [Str.ofString ""] else (partsL texts).take 1 ++ ((partsL texts).drop 1).filter fun t => !(t == Str.ofString "")
theorem partsL_snoc (l : List Str) (t : Str) : partsL (l ++ [t]) = partsStep (partsL l) t := by simp [partsL, List.foldl_append]
structure PartSt where
  pv : List Value
  xs : List Str
  n : Nat
  o : Obj
  v : Option Value
noncomputable def PartOk (texts : List Str) (i : Nat) (c : PartSt) : Prop :=
  StrsAre c.pv c.xs ∧ c.xs.length ≤ 200 * i ∧ c.o.data = .cell c.v ∧ partsL (texts.take i) = c.xs
abbrev PartLed (lp cm : Addr) (c : PartSt) : List (Addr × Obj) := [(lp, listOf c.pv.toArray c.n), (cm, c.o)]
abbrev PartPs (c : PartSt) : List (Str × Value) := []
abbrev partStored : List Str := [Str.ofString "places", Str.ofString "kept", Str.ofString "k"]
section
variable {prog : Program} {w : World} {A : Around} {E : Value → Shared → Prop} {s : Shared} {env : Env} {h₀ : Heap} {target : Expr} {body : List Stmt} {Q : Flow → Shared → Prop}
theorem for_parts {m₀ : Str → Option Value} {lp cm lt : Addr} {o : Obj} {v0 : Option Value} {vt : List Value} {texts : List Str}
    (hh : A.handled = none) (hl : h₀.IsList lt vt.toArray) (S : StrsAre vt texts) (hlen : ∀ t ∈ texts, t.length ≤ 150) (hcount : texts.length ≤ 12) (F : Fr h₀ env.locals s.heap m₀) (N : News h₀ env.locals s.heap [(lp, listOf #[] 0), (cm, o)]) (hc : o.data = .cell v0)
    (turn : ∀ text tt i pv xs n (o : Obj) v0 (u : Str → Option Value) h tk own, OwnOff own [lp, cm] → @Ne Nat lp cm → StrsAre pv xs → xs.length ≤ 200 * i → i < 12 → o.data = .cell v0 → partsL (texts.take i) = xs → text.length ≤ 150 → texts.take (i + 1) = texts.take i ++ [text] →
      Fr h₀ env.locals h (kstB (Between partStored u m₀) []) → News h₀ env.locals h ((lp, listOf pv.toArray n) :: (cm, o) :: own) →
      wpAny (model prog w) A (assign target env (.str text tt)) (fun _ s₃ => wpAny (model prog w) A (execs body env) (InvPostG h₀ env.locals (LSt (PartLed lp cm) PartPs partStored m₀ (PartOk texts) (i + 1)) own { s with heap := h, toks := tk } Q) E s₃) E { s with heap := h, toks := tk })
    (done : ∀ pv xs n (o : Obj) v0 (u : Str → Option Value) h tk, StrsAre pv xs → xs.length ≤ 2400 → o.data = .cell v0 → partsL texts = xs →
      Fr h₀ env.locals h (kstB (Between partStored u m₀) []) → News h₀ env.locals h [(lp, listOf pv.toArray n), (cm, o)] → Q .next { s with heap := h, toks := tk }) :
    wpAny (model prog w) A (pyIter (.ref lt)) (fun it s₂ => TurnsAt prog w A h₀ env target body Q E it s₂) E s := by
  refine for_base2 (σ := PartSt) (PartLed lp cm) PartPs partStored (PartOk texts) ⟨[], [], 0, o, v0⟩ hh hl F N (by simp) ⟨.nil, by simp, hc, rfl⟩ ?_ ?_
  · rintro ⟨pv, xs, n, o, v0⟩ i v u h tk own hv hoff ⟨h1, h2, h3, h4⟩ F₁ N₁
    have hlt : i < texts.length := by rw [← S.length]; exact (List.getElem?_eq_some_iff.mp hv).1
    obtain ⟨t, ht⟩ := S.get i texts[i] (List.getElem?_eq_getElem hlt)
    rw [hv] at ht
    cases ht
    refine turn texts[i] t i pv xs n o v0 u h tk own hoff (fun e => ?_) h1 h2 (by omega) h3 h4 (hlen _ (List.getElem_mem hlt)) (by rw [List.take_add_one, List.getElem?_eq_getElem hlt]; rfl) F₁ N₁
    have q1 := (N₁ _ (List.mem_append.mpr (.inl (.head _)))).1
    have q2 := (N₁ _ (List.mem_append.mpr (.inl (.tail _ (.head _))))).1
    have e' : lp = cm := e
    dsimp only at q1 q2 h3
    rw [e', q2] at q1
    rw [Option.some.inj q1] at h3
    cases h3
  · rintro ⟨pv, xs, n, o, v0⟩ u h tk ⟨h1, h2, h3, h4⟩ F₁ N₁
    have hl := S.length
    refine done pv xs n o v0 u h tk h1 (by dsimp only at h2; omega) h3 ?_ F₁ N₁
    rw [S.length, List.take_length] at h4
    exact h4
end
section
variable {prog : Program} {w : World} {A : Around} {E : Value → Shared → Prop} {h₀ : Heap} {L : Addr} {m : Str → Option Value} {env : Env} {ct elt : Expr} {x : Str} {scope : Scope} {cl : List (Str × Addr)} {Fin : Shared → List Value → List (Addr × Obj) → Prop} {news : List (Addr × Obj)} {s₁ : Shared}
theorem parts_src {r : Addr} {t u v : Tok} {text : Str} (htl : text.length ≤ 150)
    (hh : A.handled = none) (F : Fr h₀ L s₁.heap m) (N : News h₀ L s₁.heap news) (hr : IsRange s₁.heap r 0 (text.length : Int) 1 t u v)
    (turn : ∀ (g : Heap) k t I oI C oC D m₂ ys h tk (E' : Value → Shared → Prop), 0 ≤ k → k < (text.length : Int) → NsObj oC m₂ → m₂ x = some (.int k t) → Fr h₀ L h m → News h₀ L h ((I, oI) :: (C, oC) :: (D, lst ys) :: news) → Off3 I C D news → ((@Ne Nat I C) ∧ (@Ne Nat I D) ∧ (@Ne Nat C D)) →
      wpAny (model prog w) A (isTrue ct (compEnvC scope cl C env) (eval ct (compEnvC scope cl C env))) (fun b s' => if b = true then
        wpAny (model prog w) A (eval elt (compEnvC scope cl C env)) (CEnd h₀ L m { s₁ with heap := h, toks := tk } ((I, oI) :: (C, oC) :: (D, lst ys) :: news) (fun y => notWhite text k = true ∧ ∃ t, y = .int k t)) E' s'
        else CEnd h₀ L m { s₁ with heap := h, toks := tk } ((I, oI) :: (C, oC) :: (D, lst ys) :: news) (fun _ => notWhite text k = false) Value.none s') E' { s₁ with heap := h, toks := tk })
    (fin : ∀ g ys, IntsAre ys (placesF text) → Fin { s₁ with heap := g } ys news) :
    CompSrcT prog w A h₀ L m env ct elt x scope cl Fin (.ref r) s₁ := by
  refine CompSrcT.range hh F N hr (small_one (by decide) (by decide) (by omega) (by omega)) (n := text.length) (by have := rangeSize_nat 0 (text.length : Int); simpa using this) (by rw [sizeLine_eq]; omega) fun g => ?_
  refine comp_filter (rangeKs 0 text.length) (notWhite text) id Value.int Value.int IntsAre .nil ints_snoc (rangeKs_length _ _) (fun i v hi hv => ?_) trivial (fun k t I oI C oC D m₂ ys h tk E' hk hC hx F N off ne => ?_) (fun ys hy => fin g ys (by simpa [placesF] using hy))
  · obtain ⟨t, e⟩ := hv
    exact ⟨0 + (i : Int), t, by simp [rangeKs, hi], e⟩
  · have := mem_rangeKs hk
    exact turn g k t I oI C oC D m₂ ys h tk E' (by omega) (by omega) hC hx F N off ne
theorem parts_src2 {ax : Addr} {pv : List Value} {ps : List Str} {k : Nat}
    (hh : A.handled = none) (F : Fr h₀ L s₁.heap m) (N : News h₀ L s₁.heap news) (hm : (ax, listOf pv.toArray k) ∈ news) (hi : StrsAre pv ps) (hn : ps.length ≤ 2400)
    (turn : ∀ (g : Heap) k t I oI C oC D m₂ ys h tk (E' : Value → Shared → Prop), k ∈ ps → NsObj oC m₂ → m₂ x = some (.str k t) → Fr h₀ L h m → News h₀ L h ((I, oI) :: (C, oC) :: (D, lst ys) :: news) → Off3 I C D news → ((@Ne Nat I C) ∧ (@Ne Nat I D) ∧ (@Ne Nat C D)) →
      wpAny (model prog w) A (isTrue ct (compEnvC scope cl C env) (eval ct (compEnvC scope cl C env))) (fun b s' => if b = true then
        wpAny (model prog w) A (eval elt (compEnvC scope cl C env)) (CEnd h₀ L m { s₁ with heap := h, toks := tk } ((I, oI) :: (C, oC) :: (D, lst ys) :: news) (fun y => (!(k == Str.ofString "")) = true ∧ ∃ t, y = .str k t)) E' s'
        else CEnd h₀ L m { s₁ with heap := h, toks := tk } ((I, oI) :: (C, oC) :: (D, lst ys) :: news) (fun _ => (!(k == Str.ofString "")) = false) Value.none s') E' { s₁ with heap := h, toks := tk })
    (fin : ∀ g ys, StrsAre ys (ps.filter fun t => !(t == Str.ofString "")) → Fin { s₁ with heap := g } ys news) :
    CompSrcT prog w A h₀ L m env ct elt x scope cl Fin (.ref ax) s₁ := by
  have hs : pv.toArray.size = ps.length := by rw [List.size_toArray, hi.length]
  refine CompSrcT.ledger hh F N (its := pv.toArray) (k := k) hm (by rw [hs, sizeLine_eq]; omega) fun g => ?_
  refine comp_filter ps (fun t => !(t == Str.ofString "")) id Value.str Value.str StrsAre .nil strs_snoc hs.symm (fun i v _ hv => strs_at hi i v hv) (.inr ⟨_, hm, rfl, _, rfl⟩) (fun k t I oI C oC D m₂ ys h tk E' hk hC hx F N off ne => turn g k t I oI C oC D m₂ ys h tk E' hk hC hx F N off ne) (fun ys hy => fin g ys (by simpa using hy))
end
section
variable {prog : Program} {w : World} {A : Around} {E : Value → Shared → Prop} {s : Shared} {h₀ : Heap} {L l : Addr} {m : Str → Option Value} {news : List (Addr × Obj)} {value slice : PySem.Expr} {vs : List Value} {xs : List Str} {vl vu : Value} {x y : Int} {Q : Value → Shared → Prop}
theorem pick_upto (vs : List Value) (h : 0 ≤ y) : slicePick vs.toArray none (some y) none = (vs.take y.toNat).toArray := by
  have e : sliceBounds none (some y) none vs.toArray.size = (((0 : Nat) : Int), ((min y.toNat vs.toArray.size : Nat) : Int), 1) := by
    simp only [sliceBounds, Option.getD_none, show (1 : Int) > 0 by decide, if_true, if_neg (show ¬ (y < 0) by omega)]
    congr 1
    congr 1
    omega
  rw [kmk_pick_nat _ e]
  show ((vs.drop 0).take (min y.toNat vs.toArray.size - 0)).toArray = _
  rw [List.drop_zero, Nat.sub_zero, List.size_toArray, kmk_take_min]
theorem pick_from (vs : List Value) (h : 0 ≤ x) : slicePick vs.toArray (some x) none none = (vs.drop x.toNat).toArray := by
  have e : sliceBounds (some x) none none vs.toArray.size = (((min x.toNat vs.toArray.size : Nat) : Int), ((vs.toArray.size : Nat) : Int), 1) := by
    simp only [sliceBounds, Option.getD_none, show (1 : Int) > 0 by decide, if_true, if_neg (show ¬ (x < 0) by omega)]
    congr 1
    omega
  rw [kmk_pick_nat _ e]
  show ((vs.drop (min x.toNat vs.toArray.size)).take (vs.toArray.size - min x.toNat vs.toArray.size)).toArray = _
  rw [List.size_toArray, kmk_drop_min, List.take_of_length_le (by rw [List.length_drop]; omega)]
theorem slice_upto (F : Fr h₀ L s.heap m) (N : News h₀ L s.heap news) (hl : s.heap.IsList l vs.toArray) (S : StrsAre vs xs) (pl : IsPart vl none) (pu : IsPart vu (some y)) (hy : 0 ≤ y)
    (h : ∀ D ws h', Fr h₀ L h' m → News h₀ L h' ((D, listOf (List.toArray ws) 0) :: news) → (∀ p ∈ news, p.1 < D) → StrsAre ws (xs.take y.toNat) → Q (.ref D) { s with heap := h' })
    (hs : subscripted slice false (.ref l) (.ref s.heap.objs.size) = operate [.ref s.heap.objs.size, .ref l] (getItem (.ref l) (.ref s.heap.objs.size))) (ht : ∀ r, letTemporaryGo value (.ref l) r = pure ()) (hz : xs.length ≤ 2400) :
    wpAny (model prog w) A (subscriptTail value slice (.ref l) (.ref s.heap.objs.size)) Q E { s with heap := s.heap.push { cls := .type "slice", data := .fields #[vl, vu, .none] } } :=
  kmk_slice F N hl pl pu (fun D h' F' N' l1 => h D (vs.take y.toNat) h' F' (pick_upto vs hy ▸ N') l1 (S.take' _)) hs ht (by rw [List.size_toArray, S.length, sizeLine_eq]; omega)
theorem slice_from (F : Fr h₀ L s.heap m) (N : News h₀ L s.heap news) (hl : s.heap.IsList l vs.toArray) (S : StrsAre vs xs) (pl : IsPart vl (some x)) (pu : IsPart vu none) (hy : 0 ≤ x)
    (h : ∀ D ws h', Fr h₀ L h' m → News h₀ L h' ((D, listOf (List.toArray ws) 0) :: news) → (∀ p ∈ news, p.1 < D) → StrsAre ws (xs.drop x.toNat) → (xs.drop x.toNat).length ≤ 2400 → Q (.ref D) { s with heap := h' })
    (hs : subscripted slice false (.ref l) (.ref s.heap.objs.size) = operate [.ref s.heap.objs.size, .ref l] (getItem (.ref l) (.ref s.heap.objs.size))) (ht : ∀ r, letTemporaryGo value (.ref l) r = pure ()) (hz : xs.length ≤ 2400) :
    wpAny (model prog w) A (subscriptTail value slice (.ref l) (.ref s.heap.objs.size)) Q E { s with heap := s.heap.push { cls := .type "slice", data := .fields #[vl, vu, .none] } } :=
  kmk_slice F N hl pl pu (fun D h' F' N' l1 => h D (vs.drop x.toNat) h' F' (pick_from vs hy ▸ N') l1 (S.drop' _) (by rw [List.length_drop]; omega)) hs ht (by rw [List.size_toArray, S.length, sizeLine_eq]; omega)
theorem item_lastI {a : Addr} {ns : List Int} {u : Tok} {c : Int} (hl : s.heap.IsList a vs.toArray) (hS : IntsAre vs ns) (hb : ∀ k ∈ ns, 0 ≤ k ∧ k ≤ c) (hne : decide (ns = []) = false) (h : ∀ t, 0 ≤ ns.getLastD 0 → ns.getLastD 0 ≤ c → Q (.int (ns.getLastD 0) t) s)
    (hs : subscripted slice false (.ref a) (.int (-1) u) = operate [.ref a, .int (-1) u] (getItem (.ref a) (.int (-1) u)) := by with_unfolding_all rfl) (hg : ∀ r, letTemporaryGo value (.ref a) r = pure () := by intro _; with_unfolding_all rfl) :
    wpAny (model prog w) A (subscriptTail value slice (.ref a) (.int (-1) u)) Q E s := by
  have hne' : ns ≠ [] := by simpa using hne
  have hlen : 0 < vs.length := by rw [hS.length]; exact List.length_pos_iff.mpr hne'
  have hm : ns.getLastD 0 ∈ ns := by
    cases ns with
    | nil => exact absurd rfl hne'
    | cons a r => exact List.getLast_mem (l := a :: r) (by simp)
  obtain ⟨t, ht⟩ := hS.get (ns.length - 1) (ns.getLastD 0) (by
    have e := List.getLast?_eq_getElem? (l := ns)
    rw [← e]
    cases ns with
    | nil => exact absurd rfl hne'
    | cons a r => simp [List.getLastD, List.getLast?])
  exact subscriptTail_builtin hl.typeIs slot_list_getitem.lookup (wpAny_getItem_list_neg hl (by decide) (by rw [List.size_toArray]; omega) (by decide) (by
    rw [List.size_toArray]
    have e : ((-1 : Int) + (vs.length : Int)).toNat = ns.length - 1 := by rw [hS.length]; omega
    rw [e]; simpa using ht) (h t (hb _ hm).1 (hb _ hm).2)) hs hg
end
theorem places_bound {text : Str} : ∀ k ∈ placesF text, 0 ≤ k ∧ k ≤ (text.length : Int) - 1 := by
  intro k hk
  have := mem_rangeKs (List.mem_filter.mp hk).1
  omega
structure ScanSt where
  k : Int
  t : Tok
  pv : List Value
  xs : List Str
  n : Nat
  fuel : Nat
noncomputable def ScanOk (kept : Str) (B : Nat) (R : List Str) (c : ScanSt) : Prop :=
  StrsAre c.pv c.xs ∧ 0 ≤ c.k ∧ c.xs ≠ [] ∧ ((c.xs.getLastD Str.empty).length : Int) ≤ c.k ∧ (c.xs.length : Int) ≤ (B : Int) + c.k ∧ (kept.length : Int) - c.k ≤ (c.fuel : Int) ∧ c.k ≤ (kept.length : Int) + 6 ∧ scanN kept c.fuel c.k c.xs = R
abbrev ScanLed (lp cm : Addr) (o : Obj) (own : List (Addr × Obj)) (c : ScanSt) : List (Addr × Obj) := (lp, listOf c.pv.toArray c.n) :: (cm, o) :: own
abbrev ScanPs (c : ScanSt) : List (Str × Value) := [(Str.ofString "k", .int c.k c.t)]
noncomputable def scanMu (kept : Str) (c : ScanSt) : Nat := ((kept.length : Int) - c.k).toNat
section
variable {prog : Program} {w : World} {A : Around} {E : Value → Shared → Prop} {s : Shared} {env : Env} {h₀ : Heap} {L : Addr} {Q : Flow → Shared → Prop} {test : Expr} {body : List Stmt} {pos : Pos}
theorem while_scan {m₂ m₀ : Str → Option Value} {news own : List (Addr × Obj)} {lp cm : Addr} {o : Obj} {pv : List Value} {xs : List Str} {n : Nat} {kept : Str} {tk0 tk1 tq : Tok} {i : Nat}
    (hoff : OwnOff own [lp, cm]) (F : Fr h₀ L s.heap fun y => if y = Str.ofString "k" then some (.int 0 tk0) else if y = Str.ofString "kept" then some (.str kept tk1) else m₂ y) (N : News h₀ L s.heap news) (hm : (lp, listOf (pv ++ [Value.str (Str.ofString "") tq]).toArray n) ∈ news) (hm2 : (cm, o) ∈ news) (hown : ∀ p ∈ own, p ∈ news) (S : StrsAre pv xs)
    (hm₀ : m₀ = fun y => if y = Str.ofString "k" then some (.int 0 tk0) else if y = Str.ofString "kept" then some (.str kept tk1) else m₂ y) (hB : xs.length ≤ 200 * i)
    (turn : ∀ k t pv xs' n (fuel : Nat) (u : Str → Option Value) h tk, StrsAre pv xs' → 0 ≤ k → xs' ≠ [] → ((xs'.getLastD Str.empty).length : Int) ≤ k → (xs'.length : Int) ≤ ((200 * i + 1 : Nat) : Int) + k → (kept.length : Int) - k ≤ (fuel : Int) → k ≤ (kept.length : Int) + 6 → scanN kept fuel k xs' = scanN kept kept.length 0 (xs ++ [Str.ofString ""]) →
      Fr h₀ L h (kstB (fun z => if ([] : List Str).contains z then u z else m₀ z) [(Str.ofString "k", .int k t)]) → News h₀ L h ((lp, listOf pv.toArray n) :: (cm, o) :: own) →
      wpAny (model prog w) A (isTrue test env (eval test env)) (fun b s₂ =>
        if b = true then wpAny (model prog w) A (execs body env) (KswPost h₀ L s (ScanLed lp cm o own) ScanPs (fun _ => True) [] m₀ (ScanOk kept (200 * i + 1) (scanN kept kept.length 0 (xs ++ [Str.ofString ""]))) (scanMu kept) Q ⟨k, t, pv, xs', n, fuel⟩) E s₂ else Q .next s₂) E { s with heap := h, toks := tk })
    (hE : PassesOwn (model prog w) A env E := by passes_own) :
    wpAny (model prog w) A (exec (.While test body [] pos) env) Q E s := by
  subst hm₀
  refine ksw_while (σ := ScanSt) (ScanLed lp cm o own) ScanPs (fun _ => True) [] (ScanOk kept (200 * i + 1) (scanN kept kept.length 0 (xs ++ [Str.ofString ""]))) (scanMu kept) ⟨0, tk0, pv ++ [Value.str (Str.ofString "") tq], xs ++ [Str.ofString ""], n, kept.length⟩ F ?_ trivial (by simp) ?_ ?_ hE
  · intro p hp
    rcases List.mem_cons.mp hp with rfl | hp
    · exact N _ hm
    · rcases List.mem_cons.mp hp with rfl | hp
      · exact N _ hm2
      · exact N _ (hown p hp)
  · refine ⟨strs_app S, Int.le_refl _, by simp, ?_, ?_, by simp, by dsimp only; omega, rfl⟩
    · dsimp only; rw [List.getLastD_concat]; exact Int.le_refl _
    · dsimp only; rw [List.length_append, List.length_singleton]; omega
  · rintro ⟨k, t, pv', xs', n', fuel⟩ u h tk _ ⟨h1, h2, h3, h4, h5, h6, h7, h8⟩ F₁ N₁
    exact turn k t pv' xs' n' fuel u h tk h1 h2 h3 h4 h5 h6 h7 h8 F₁ N₁
end
theorem scan_step {kept : Str} {fuel : Nat} {k : Int} (xs : List Str) (w5 : (kept.length : Int) - k ≤ (fuel : Int)) (hk : k < (kept.length : Int)) :
    scanN kept fuel k xs = if (Txt.slice kept (some k) (some (k + 7)) == Str.ofString "unknown") = true then scanN kept (fuel - 1) (k + 7) xs else scanN kept (fuel - 1) (k + 1) (scanC xs (Txt.item kept k)) := by
  cases fuel with
  | zero => omega
  | succ f => rw [scanN, if_pos hk]; rfl
section
variable {kept : Str} {pv : List Value} {xs : List Str} {n n' fuel B : Nat} {k : Int} {t tq : Tok} {R : List Str}
theorem scan_n1 (hS : StrsAre pv xs) (w1 : 0 ≤ k) (w2 : xs ≠ []) (w3 : ((xs.getLastD Str.empty).length : Int) ≤ k) (w4 : (xs.length : Int) ≤ (B : Int) + k) (w5 : (kept.length : Int) - k ≤ (fuel : Int)) (w6 : k ≤ (kept.length : Int) + 6) (w7 : scanN kept fuel k xs = R)
    (hk : k < (kept.length : Int)) (hu : (Txt.slice kept (some k) (some (k + 7)) == Str.ofString "unknown") = true) : ScanOk kept B R ⟨k + 7, t, pv, xs, n, fuel - 1⟩ := by
  refine ⟨hS, by dsimp only; omega, w2, by dsimp only; omega, by dsimp only; omega, by dsimp only; omega, by dsimp only; omega, ?_⟩
  rw [scan_step xs w5 hk, if_pos hu] at w7
  exact w7
theorem scan_n2 (hS : StrsAre pv xs) (w1 : 0 ≤ k) (w2 : xs ≠ []) (w3 : ((xs.getLastD Str.empty).length : Int) ≤ k) (w4 : (xs.length : Int) ≤ (B : Int) + k) (w5 : (kept.length : Int) - k ≤ (fuel : Int)) (w6 : k ≤ (kept.length : Int) + 6) (w7 : scanN kept fuel k xs = R)
    (hk : k < (kept.length : Int)) (hu : (Txt.slice kept (some k) (some (k + 7)) == Str.ofString "unknown") = false) (hs : (occurrences (Str.ofString "-/\\:;\"()") (Txt.item kept k) 0 (Str.ofString "-/\\:;\"()").length 1).isEmpty = false) : ScanOk kept B R ⟨k + 1, t, pv ++ [Value.str (Str.ofString "") tq], xs ++ [Str.ofString ""], n, fuel - 1⟩ := by
  have e : Str.ofString "" = Str.empty := by decide +kernel
  refine ⟨strs_app hS, by dsimp only; omega, by simp, ?_, ?_, by dsimp only; omega, by dsimp only; omega, ?_⟩
  · dsimp only; rw [List.getLastD_concat, e]; show ((0 : Nat) : Int) ≤ _; omega
  · dsimp only; rw [List.length_append, List.length_singleton]; omega
  · rw [scan_step xs w5 hk, if_neg (by rw [hu]; decide), scanC, if_pos (by rw [isSep, hs]; rfl)] at w7
    exact w7
theorem scan_n3 {c : Str} (hS : StrsAre pv xs) (w1 : 0 ≤ k) (w2 : xs ≠ []) (w3 : ((xs.getLastD Str.empty).length : Int) ≤ k) (w4 : (xs.length : Int) ≤ (B : Int) + k) (w5 : (kept.length : Int) - k ≤ (fuel : Int)) (w6 : k ≤ (kept.length : Int) + 6) (w7 : scanN kept fuel k xs = R)
    (hk : k < (kept.length : Int)) (hu : (Txt.slice kept (some k) (some (k + 7)) == Str.ofString "unknown") = false) (hs : (occurrences (Str.ofString "-/\\:;\"()") (Txt.item kept k) 0 (Str.ofString "-/\\:;\"()").length 1).isEmpty = true)
    (hc : c = if (Txt.item kept k == Str.ofString " ") = true then Str.ofString "_" else Txt.item kept k) (hl : (xs.getLastD Str.empty ++ c).length ≤ (xs.getLastD Str.empty).length + 1) : ScanOk kept B R ⟨k + 1, t, pv.dropLast ++ [Value.str (xs.getLastD Str.empty ++ c) tq], xs.dropLast ++ [xs.getLastD Str.empty ++ c], n, fuel - 1⟩ := by
  refine ⟨strs_setLast hS, by dsimp only; omega, by simp, ?_, ?_, by dsimp only; omega, by dsimp only; omega, ?_⟩
  · dsimp only; rw [List.getLastD_concat]; omega
  · dsimp only; rw [List.length_append, List.length_singleton, List.length_dropLast]; have := List.length_pos_iff.mpr w2; omega
  · rw [scan_step xs w5 hk, if_neg (by rw [hu]; decide), scanC, if_neg (by rw [isSep, hs]; decide), ← hc] at w7
    exact w7
theorem part_n1 {texts : List Str} {i : Nat} {text : Str} {o : Obj} {v : Option Value} (hS : StrsAre pv xs) (hn : xs.length ≤ 200 * i) (hc : o.data = .cell v) (hl : partsL (texts.take i) = xs) (ht : texts.take (i + 1) = texts.take i ++ [text]) (h0 : (text == Str.ofString "") = true) : PartOk texts (i + 1) ⟨pv, xs, n, o, v⟩ := by
  refine ⟨hS, by dsimp only; omega, hc, ?_⟩
  rw [ht, partsL_snoc, hl, partsStep, if_pos (by simpa using h0)]
theorem part_n3 {texts : List Str} {i : Nat} {text : Str} {o : Obj} {v : Option Value} {xs0 : List Str} (hl : partsL (texts.take i) = xs0) (ht : texts.take (i + 1) = texts.take i ++ [text]) (h0 : (text == Str.ofString "") = false)
    (hS : StrsAre pv xs) (w4 : (xs.length : Int) ≤ ((200 * i + 1 : Nat) : Int) + k) (w6 : k ≤ (kept.length : Int) + 6)
    (w7 : scanN kept fuel k xs = scanN kept kept.length 0 (xs0 ++ [Str.ofString ""]))
    (hk : ¬ k < (kept.length : Int)) (hc : o.data = .cell v) (hkept : keptF text = kept) (hkl : kept.length ≤ 150) : PartOk texts (i + 1) ⟨pv, xs, n, o, v⟩ := by
  refine ⟨hS, by dsimp only; omega, hc, ?_⟩
  rw [ht, partsL_snoc, hl, partsStep, if_neg (by simpa using h0), hkept, ← w7]
  dsimp only
  cases fuel with
  | zero => rfl
  | succ f => rw [scanN, if_neg hk]
end
theorem kept_nil {text : Str} (hp : decide (placesF text = []) = true) : keptF text = Str.ofString "" := by rw [keptF, if_pos (by simpa using hp)]
theorem nil_done {k : Int} (w1 : 0 ≤ k) : ¬ k < ((Str.ofString "").length : Int) := by
  have e : (Str.ofString "").length = 0 := by decide +kernel
  rw [e]; omega
theorem kept_slice {text : Str} (hp : decide (placesF text = []) = false) : keptF text = Txt.slice text (some ((placesF text).headD 0)) (some ((placesF text).getLastD 0 + 1)) := by rw [keptF, if_neg (by simpa using hp)]
theorem notWhite_of {text : Str} {k : Int} {b : Bool} (h : (occurrences (Str.ofString " \t\n\r") (Txt.item text k) 0 (Str.ofString " \t\n\r").length 1).isEmpty = b) : notWhite text k = b := h
theorem parts_end1 {texts xs : List Str} (h : partsL texts = xs) (e : xs = []) {tq : Tok} : StrsAre [Value.str (Str.ofString "") tq] (partsF texts) := by
  rw [partsF, if_pos (h.trans e)]; exact .cons _ _ .nil
theorem parts_end2 {texts xs : List Str} (h : partsL texts = xs) (e : ¬ xs = []) {va vb : List Value} (ha : StrsAre va (xs.take (Int.toNat 1))) (hb : StrsAre vb ((xs.drop (Int.toNat 1)).filter fun a => a != Str.ofString "")) : StrsAre (va ++ vb) (partsF texts) := by
  rw [partsF, if_neg (by rw [h]; exact e), h]; exact ha.append' hb
end Mine
end Mparts0

section Mparts
open PySem PySem.W PySem.Calls PyProof.Rows PySem.Builtin PySem.Builtin.Str PyProof.Rows.LCg PyProof.Rows.LCt
namespace Mine
theorem fill7 (w : World) : hd.heap_39 w.params = hd.heap_39 w.params ∧ PySem.Challenge.rw_mq0143_01 = PySem.Challenge.rw_mq0143_01 := by
  k_fill
  exact ⟨rfl, rfl⟩
local macro_rules | `(tactic| walk_at $s:str) => `(tactic| k_extra $s)
local macro_rules | `(tactic| walk_at "my strs") => `(tactic| first | (with_reducible assumption) | ((with_reducible refine' strs_setLast ?a1); (case a1 => walk_at "my strs")) | ((with_reducible refine' strs_app ?a1); (case a1 => walk_at "my strs")) | exact StrsAre.nil)
set_option maxRecDepth 100000 in
set_option maxHeartbeats 1500000 in
theorem parts_spec {w : World} {mg mb : Str → Option Value} {e1 : Env} {s : Shared} {lt : Addr} {vt : List Value} {texts : List Str} {Q E : Value → Shared → Prop}
    (X : (hd.heap_39 w.params).In s.heap) (T : TR mg mb s.heap) (hlt : s.heap.IsList lt vt.toArray) (St : StrsAre vt texts) (hlen : ∀ t ∈ texts, t.length ≤ 150) (hcount : texts.length ≤ 12)
    (h : ∀ h' tk (D : Addr) (vs : List Value) (n : Nat), Keep s.heap h' → h'.get? D = some (listOf vs.toArray n) → s.heap.get? D = none → StrsAre vs (partsF texts) → Q (.ref D) { s with heap := h', toks := tk }) :
    wpAny (model PR w) (callerA.deeper e1) (call (.ref 47) [.ref lt]) Q E s := by
  k_with_none
  k_with "eval Name" => (k_here; (with_reducible show wpAny _ _ (eval (Expr.Name _ _) (compEnvC _ _ _ _)) _ _ _); k_dflt (refine ld_builtR (by k_asm) (by k_asm) (by k_asm) (by k_is) (by boot_by_name) (by decide) ?_))
  k_with "my mem" => first | with_reducible exact List.mem_cons_self | ((with_reducible refine' List.mem_cons_of_mem _ (by walk_at "my mem")))
  k_with "my tl" => first | assumption | ((with_reducible refine' List.mem_cons_of_mem _ (by walk_at "my tl")))
  k_with "exec While Compare cons nil" => (k_here; k_dflt (focus (refine' while_scan (by assumption) (by k_asm) (by k_asm) (by walk_at "my mem") (by walk_at "my mem") (by (intro p9 h9; walk_at "my tl")) (by assumption) (by rfl) (by assumption) ?_ (by passes_own); (intro k' t' pv' xs' n' fuel' u' h' tk' hS' w1' w2' w3' w4' w5' w6' w7' F' N'); (try k_sweep); (try k_fold))))
  k_with "KswPost" => (dsimp only [KswPost])
  k_with "subscriptTail Name Constant ref int" => (k_here; (with_reducible show wpAny _ _ (subscriptTail _ _ (Value.ref _) (Value.int 0 _)) _ _ _); k_dflt (refine' item_firstI (by is_list) (by assumption) (by exact places_bound) (by assumption) ?_; k_whole); intro _ _ _)
  k_with "subscriptTail Name UnaryOp ref int" => (k_here; (with_reducible show wpAny _ _ (subscriptTail _ _ (Value.ref _) (Value.int (-1) _)) _ _ _); k_dflt (refine' item_lastI (by is_list) (by assumption) (by exact places_bound) (by assumption) ?_; k_whole); intro _ _ _)
  k_with "my ne" => first | assumption | (simp; done) | exact fun e => absurd ((strs_nil_iff (by assumption)).mp e) (by assumption)
  k_with "subscriptTail Name UnaryOp ref int" => (k_here; (with_reducible show wpAny _ _ (subscriptTail _ _ (Value.ref _) (Value.int (-1) _)) _ _ _); k_dflt (refine' item_lastS (by is_list) (by walk_at "my strs") (by walk_at "my ne") ?_; k_whole); intro _)
  k_with "setItem ref int" => (k_here; (with_reducible show wpAny _ _ (setItem (Value.ref _) (Value.int (-1) _) _) _ _ _); k_dflt (refine' set_last (by k_asm) (by k_asm) (by k_upd) (by walk_at "my ne") ?_; k_whole); intro h' F' N'; (try k_sweep))
  k_with "call builtin:list.append" => (k_here; (with_reducible show wpAny _ _ (call (Value.builtin _) [Value.ref _, _]) _ _ _); k_dflt (refine' append_L (by k_asm) (by k_asm) (by k_upd) ?_ (by (rw [StrsAre.length (by walk_at "my strs"), sizeLine_eq]; omega)); k_whole); intro h' F' N'; (try k_sweep))
  k_with "compareOp Eq ref ref" => (k_here; k_dflt (refine' eq_nilS (by is_list) (by is_list) (by walk_at "my strs") (by k_units) ?_; k_whole))
  k_with "CompSrcT" => (k_here; k_dflt (focus (refine' parts_src2 (by rfl) (by k_asm) (by k_asm) (by k_mem) (by assumption) (by assumption) ?_ ?_; all_goals (first | ((intro g' k' t' I' oI' C' oC' D' m' ys' h' tk' E' hk' hC' hx' F' N' off' ne'); (try (simp only [LCg.Off3, and_true] at off')); (try k_sweep); (try k_fold)) | ((intro g' ys' hI'); (try dsimp only [LCg.FinE]); (intro D' h' tk' F' N' off'); (have off2' := off'); (try simp only [LCg.Off1, and_true] at off'); (try k_sweep))))))
  k_with "CompSrcT" => (k_here; (rename IsRange _ _ _ _ _ _ _ _ => rgX); k_dflt (focus (refine' parts_src (by assumption) (by rfl) (by k_asm) (by k_asm) (by exact rgX) ?_ ?_; all_goals (first | ((intro g' k' t' I' oI' C' oC' D' m' ys' h' tk' E' hk1' hk2' hC' hx' F' N' off' ne'); (try (simp only [LCg.Off3, and_true] at off')); (try k_sweep); (try k_fold)) | ((intro g' ys' hI'); (try dsimp only [LCg.FinA]); (intro D' h' tk' F' N' off'); (have off2' := off'); (try simp only [LCg.Off1, and_true] at off'); (try k_sweep))))))
  k_with "subscriptTail Name Slice ref ref" => (k_here; (with_reducible show wpAny _ _ (subscriptTail _ (PySem.Expr.Slice _ _ none _) (Value.ref _) (Value.ref _)) _ _ _); k_dflt (refine' slice_upto (by k_asm) (by k_asm) (by kmk_list) (by assumption) (by kmk_part) (by kmk_part) (by decide) ?_ (by with_unfolding_all rfl) (by kmk_pure) (by assumption); k_whole); intro D' ws' h' F' N' l1 hS'; (try k_lt l1); (try k_sweep))
  k_with "subscriptTail Name Slice ref ref" => (k_here; (with_reducible show wpAny _ _ (subscriptTail _ (PySem.Expr.Slice _ _ none _) (Value.ref _) (Value.ref _)) _ _ _); k_dflt (refine' slice_from (by k_asm) (by k_asm) (by kmk_list) (by assumption) (by kmk_part) (by kmk_part) (by decide) ?_ (by with_unfolding_all rfl) (by kmk_pure) (by assumption); k_whole); intro D' ws' h' F' N' l1 hS' hz'; (try k_lt l1); (try k_sweep))
  k_with "exec For Name Name cons nil" => (k_here; (rename Fr _ _ _ _ => lF'); (with_unfolding_all refine' For_turns lF' ?_; k_whole))
  k_with "pyIter ref" => (k_here; (with_reducible show wpAny _ _ (pyIter (Value.ref _)) (fun it s₂ => TurnsAt _ _ _ _ _ _ _ _ _ it s₂) _ _); k_dflt (focus (refine' for_parts (by rfl) (by k_asm) (by k_asm) (by k_asm) (by k_asm) (by k_asm) (by k_asm) (by k_asm) ?_ ?_; all_goals (first | ((intro text' tt' i' pv' xs' n' o' v0' u' h' tk' own' hoff' ne1' hS' hn' hi' hc' hloop' ht' htake' F' N'); (try k_sweep); (try k_fold)) | ((intro pv' xs' n' o' v0' u' h' tk' hS' hn' hc' hloop' F' N'); (try k_sweep))))))
  k_with "InvPostG" => (dsimp only [InvPostG])
  k_with "my same" => (intro z h2 h3; (have h4 : ¬ z = Str.ofString "places" ∧ ¬ z = Str.ofString "kept" ∧ ¬ z = Str.ofString "k" := (by simpa [partStored] using h3)); (simp [kstB, Between, h4]; done))
  k_with "my same2" => (intro z h2 h3; (simp only [List.forall_mem_cons, List.not_mem_nil, false_implies, implies_true, and_true, ne_eq] at h2); (simp [kstB, Between, h2]; done))
  k_with "my scan" => first
    | exact scan_n1 (by assumption) (by assumption) (by assumption) (by assumption) (by assumption) (by assumption) (by assumption) (by assumption) (by assumption) (by assumption)
    | exact scan_n2 (by assumption) (by assumption) (by assumption) (by assumption) (by assumption) (by assumption) (by assumption) (by assumption) (by assumption) (by assumption) (by assumption)
    | exact scan_n3 (by assumption) (by assumption) (by assumption) (by assumption) (by assumption) (by assumption) (by assumption) (by assumption) (by assumption) (by assumption) (by assumption) (by rw [if_pos (by assumption)]) (And.right (by assumption))
    | exact scan_n3 (by assumption) (by assumption) (by assumption) (by assumption) (by assumption) (by assumption) (by assumption) (by assumption) (by assumption) (by assumption) (by assumption) (by rw [if_neg (Bool.eq_false_iff.mp (by assumption))]) (by omega)
  k_with "KswEnd" => ((rename News _ _ _ _ => nE'); (refine' ksw_end ⟨_, _, _, _, _, _⟩ (by k_asm) nE' (by kst_in) trivial (by kst_all) (by walk_at "my same2") (by walk_at "my scan") (by (dsimp only [scanMu]; omega))))
  k_with "CEnd" => ((rename News _ _ _ _ => nE'); (refine' cend_intro (by k_asm) nE' (by (first | exact fun _ h9 => h9 | kst_in | (intro p9 h9; kst_mem))) (by ((try dsimp only); first | exact notWhite_of (by assumption) | exact ⟨notWhite_of (by assumption), _, rfl⟩))))
  k_with "InvEndG" => ((rename News _ _ _ _ => nE'); (refine' lsg_end ⟨_, _, _, _, _⟩ (by k_asm) nE' (by kst_in) (by (intro p hp; walk_at "my tl")) (by assumption) (by kst_all) (by walk_at "my same") (by first | exact part_n1 (by assumption) (by assumption) (by assumption) (by assumption) (by assumption) (by assumption) | exact part_n3 (by assumption) (by assumption) (by assumption) (by assumption) (by assumption) (by assumption) (by assumption) (by assumption) (by assumption) (kept_slice (by assumption)) (by omega) | exact part_n3 (by assumption) (by assumption) (by assumption) (by assumption) (by assumption) (by assumption) (by assumption) (nil_done (by assumption)) (by assumption) (kept_nil (by assumption)) (by decide +kernel))))
  k_with "binaryOp Add ref ref" => (k_here; (rename CarriedAll _ _ => hca'); (have hcs' := StrsAre.ofCarried hca'); (k_dflt (refine' add_lists (by k_asm) (by k_asm) (by is_list) (by assumption) ?_ (by (have z1 := hcs'.length; rw [StrsAre.length (by assumption), z1, sizeLine_eq]; refine Nat.le_trans (Nat.add_le_add (List.length_take_le _ _) (List.length_filter_le _ _)) ?_; (have z2 : (Int.toNat 1) = 1 := rfl); omega)); k_whole)); intro h' F' N'; (try k_sweep))
  refine' enterC (binds := [(Str.ofString "texts", .ref lt)]) X T ?k6 ?k7 ?k8 ?k9 ?kB ?kD ?_ ?c2 ?c3 ?c4
  (case k6 => k_is); (case k7 => k_is); (case k8 => k_room); (case k9 => exact BindsTo.of_eq rfl); (case kB => exact rfl); (case kD => decide +kernel); (case c2 => exact rfl); (case c3 => exact rfl); (case c4 => exact rfl); 
  k_whole
  intro L' h' tk' cells' F' N' Y'
  k_cells Y'
  try simp only [List.cons_append, List.nil_append] at N'
  try dsimp only
  try k_fold
  k_steps
  all_goals (try dsimp only)
  · rename News _ _ _ _ => qN
    have q := qN _ List.mem_cons_self
    exact h _ _ _ [_] 0 (Fr.keep (by assumption)) q.1 q.2.2 (parts_end1 (by assumption) (by assumption))
  · rename News _ _ _ _ => qN
    have q := qN _ List.mem_cons_self
    exact h _ _ _ _ 0 (Fr.keep (by assumption)) q.1 q.2.2 (parts_end2 (by assumption) (by assumption) (by assumption) (by assumption))
end Mine
end Mparts

section Mfilter
open PySem PySem.W PySem.Calls PyProof.Rows PySem.Builtin PySem.Builtin.Str
namespace Mine
set_option maxRecDepth 100000
theorem owner_filter : Manifest.owners.lookup (String.ofList ['r', 'e', 't', 'l', 'i', 'f'].reverse) = some Manifest.sig_filter := by kernel_rfl
theorem slot_filter_init : Slot "filter" "__init__" "object.__init__" :=
  .of (owner := "object") (n := "__init__") (by rw [typeLookup_type, builtinLookup_eq_fast]; kernel_rfl) (by decide +kernel) (by decide +kernel) (by decide +kernel)
    (by first | exact .inl (by decide +kernel) | exact .inr (by decide +kernel)) (by rw [isSubtype_type]; kernel_rfl)
theorem slot_filter_iter : Slot "filter" "__iter__" "filter.__iter__" :=
  .of (owner := "filter") (n := "__iter__") (by rw [typeLookup_type, builtinLookup_eq_fast]; kernel_rfl) (by decide +kernel) (by decide +kernel) (by decide +kernel)
    (by first | exact .inl (by decide +kernel) | exact .inr (by decide +kernel)) (by rw [isSubtype_type]; kernel_rfl)
theorem slot_filter_next : Slot "filter" "__next__" "filter.__next__" :=
  .of (owner := "filter") (n := "__next__") (by rw [typeLookup_type, builtinLookup_eq_fast]; kernel_rfl) (by decide +kernel) (by decide +kernel) (by decide +kernel)
    (by first | exact .inl (by decide +kernel) | exact .inr (by decide +kernel)) (by rw [isSubtype_type]; kernel_rfl)
theorem args_filter_iter_1 (a : Value) : argsOk "filter.__iter__" ⟨[a], []⟩ := by
  unfold argsOk; rw [signature?_of (id := "filter.__iter__") (n := ['_', '_', 'r', 'e', 't', 'i', '_', '_']) (o := ['r', 'e', 't', 'l', 'i', 'f']) (by kernel_rfl) owner_filter]; kernel_rfl
theorem args_filter_next_1 (a : Value) : argsOk "filter.__next__" ⟨[a], []⟩ := by
  unfold argsOk; rw [signature?_of (id := "filter.__next__") (n := ['_', '_', 't', 'x', 'e', 'n', '_', '_']) (o := ['r', 'e', 't', 'l', 'i', 'f']) (by kernel_rfl) owner_filter]; kernel_rfl
theorem entry_filter_next : entryFor table "filter.__next__" = some Builtin.«filter.__next__» := entryFor_of_tree (by kernel_rfl)
theorem entry_filter_iter : entryFor table "filter.__iter__" = some Builtin.«dict_keyiterator.__iter__» :=
  entryFor_alias (id' := "dict_keyiterator.__iter__") (by kernel_rfl) (by first | rfl | decide +kernel | (unfold String.splitOn; simp +decide [String.splitOnAux])) (by decide +kernel) (by kernel_rfl)
theorem mro_filter : mroOf (.type "filter") = pure [.type "filter", .type "object"] := by rw [mroOf_type]; kernel_rfl
theorem lookup_filter_new : typeLookup (.type "filter") "__new__" = pure (some (.builtin "filter.__new__")) := by rw [typeLookup_type, builtinLookup_eq_fast]; kernel_rfl
theorem called_filter : TypeCalled "filter" "filter.__new__" "object.__init__" :=
  ⟨by decide +kernel, by decide +kernel, ⟨_, _, mro_filter⟩, madeBy_type mro_filter lookup_filter_new (by decide +kernel), by decide +kernel, by rw [isSubtype_type]; kernel_rfl, slot_filter_init⟩
theorem typeCall_filter_2 (a b : Value) : checkTypeCall "filter" ⟨[a, b], []⟩ = pure () := by kernel_rfl
theorem newCall_filter_2 (a b : Value) : checkBuiltinCall "filter.__new__" ⟨[.type "filter", a, b], []⟩ = pure () := by kernel_rfl
theorem entry_filter_new : entryFor table "filter.__new__" = some Builtin.«filter.__new__» := entryFor_of_tree (by kernel_rfl)
theorem sub_filter : isSubtype (.type "filter") (.type "filter") = pure true := by rw [isSubtype_type]; kernel_rfl
abbrev IsFilter (h : Heap) (z it : Addr) (f : Value) : Prop :=
  h.get? z = some { cls := .type "filter", dict := none, data := .fields #[f, .ref it], slots := #[] }
theorem meets_filter_new (f : Value) (t : Addr) (xs : Array Value) :
    Meets (Builtin.«filter.__new__» ⟨[.type "filter", f, .ref t], []⟩) (fun _ R s => s.heap.IsTuple t xs ∧
      R (.ok (.ret (.ref (s.heap.push { cls := .type "tuple_iterator", data := .fields #[.ref t, .int 0 0] }).objs.size)))
        { s with heap := (s.heap.push { cls := .type "tuple_iterator", data := .fields #[.ref t, .int 0 0] }).push { cls := .type "filter", data := .fields #[f, .ref s.heap.objs.size] } }) :=
  .of_wp fun prog w A R s h => by
    obtain ⟨hp, g, d, tk, os⟩ := s; obtain ⟨hl, h⟩ := h
    have hsub := sub_filter
    have hL : Heap.IsTuple (Shared.heap ⟨hp, g, d, tk, os⟩) t xs := hl
    wp_walk using wpAny_pyIter_tuple hL
    exact ⟨_, rfl, h⟩
section
variable {prog : Program} {w : World} {A : Around} {E : Value → Shared → Prop} {s : Shared}
theorem call_filter {t : Addr} {f : Value} {xs : Array Value} {Q : Value → Shared → Prop} (ht : s.heap.IsTuple t xs)
    (h : ∀ h' I, IsFilter h' (I + 1) I f → h'.IsTupleIter I t 0 → h'.IsTuple t xs → I = s.heap.objs.size → h'.objs.size = s.heap.objs.size + 2 → (∀ c o, s.heap.get? c = some o → h'.get? c = some o) → Q (.ref (I + 1)) { s with heap := h' }) :
    wpAny (model prog w) A (call (.type "filter") [f, .ref t]) Q E s := by
  refine callType_new called_filter (by decide) (typeCall_filter_2 _ _) (newCall_filter_2 _ _) (fun obj => F.args_object_init_3 obj _ _) entry_filter_new (meets_filter_new f t xs) ⟨ht, ?_⟩
  have z1 : (s.heap.push { cls := .type "tuple_iterator", data := .fields #[.ref t, .int 0 0] }).objs.size = s.heap.objs.size + 1 := Heap.size_push ..
  have g5 : ((s.heap.push { cls := .type "tuple_iterator", data := .fields #[.ref t, .int 0 0] }).push { cls := .type "filter", data := .fields #[f, .ref s.heap.objs.size] }).get? (s.heap.push { cls := .type "tuple_iterator", data := .fields #[.ref t, .int 0 0] }).objs.size = some { cls := .type "filter", data := .fields #[f, .ref s.heap.objs.size] } := Heap.get?_push_size _ rfl
  show _ ∧ _
  rw [z1] at g5 ⊢
  exact ⟨⟨_, g5, rfl⟩, h _ s.heap.objs.size g5 ⟨_, Heap.get?_push_of_some _ (Heap.get?_push_size _ rfl), rfl, rfl⟩ ((ht.push _).push _) rfl (by rw [Heap.size_push, z1]) fun c o e => Heap.get?_push_of_some _ (Heap.get?_push_of_some _ e)⟩
theorem cs_tuple_item {it t : Addr} {i : Nat} {items} {x : Value} {Q : Option Value → Shared → Prop} (hit : s.heap.IsTupleIter it t i)
    (ht : s.heap.IsTuple t items) (hx : items[i]? = some x)
    (hQ : ∀ h', h'.IsTupleIter it t (i + 1) → Heap.SameBut it s.heap h' → Q (some x) { s with heap := h' }) :
    wpAny (model prog w) A (callSpecial? (.ref it) "__next__") Q E s := by
  obtain ⟨o, ho, hc, hd⟩ := id hit
  obtain ⟨ol, hol, _, nl, hdl⟩ := ht
  refine wpAny_callSpecial?_slot (name := Str.ofString "__next__") hit.typeIs F.slot_tuple_iterator_next
    (wpAny_call_entry F.slot_tuple_iterator_next hit.typeIs F.entry_tuple_iterator_next ?_ (F.args_tuple_iterator_next_1 _))
  show wpAny _ _ (field (.ref it) 0 >>= _) _ _ s
  refine wpAny_bind (wpAny_field ho hd (x := .ref t) rfl ?_)
  show wpAny _ _ (if (Value.ref t == Value.none) = true then _ else _) _ _ s
  rw [if_neg (show ¬ ((Value.ref t == Value.none) = true) from Bool.false_ne_true)]
  show wpAny _ _ (field (.ref it) 1 >>= _) _ _ s
  refine wpAny_bind (wpAny_field ho hd (x := .int i 0) rfl ?_)
  show wpAny _ _ (seqItems? (.ref t) >>= _) _ _ s
  refine wpAny_bind (wpAny_seqItems hol hdl ?_)
  simp only [Int.toNat_natCast, hx]
  refine wpAny_bind (wpAny_setField ho hd (by simp) (wpAny_pure ⟨x, rfl, hQ _ ?_ (Heap.SameBut.update ..)⟩))
  exact ⟨_, Heap.get?_update_self _ ho (Obj.isFreed_of_fields (Obj.data_mapFields hd _)), (Obj.cls_mapFields ..).trans hc, by
    rw [Obj.data_mapFields hd]; simp [rawInt]⟩
theorem cs_tuple_end {it t : Addr} {i : Nat} {items} {Q : Option Value → Shared → Prop} (hh : A.handled = none)
    (hit : s.heap.IsTupleIter it t i) (ht : s.heap.IsTuple t items) (hx : items[i]? = none)
    (hE : ∀ h' e, Heap.ExtBut it s.heap h' → (∃ o, h'.get? e = some o ∧ o.cls = .type "StopIteration") → E (.ref e) { s with heap := h' }) : wpAny (model prog w) A (callSpecial? (.ref it) "__next__") Q E s := by
  obtain ⟨o, ho, hc, hd⟩ := id hit
  obtain ⟨ol, hol, _, nl, hdl⟩ := ht
  refine wpAny_callSpecial?_slot (name := Str.ofString "__next__") hit.typeIs F.slot_tuple_iterator_next
    (wpAny_call_entry F.slot_tuple_iterator_next hit.typeIs F.entry_tuple_iterator_next ?_ (F.args_tuple_iterator_next_1 _))
  show wpAny _ _ (field (.ref it) 0 >>= _) _ _ s
  refine wpAny_bind (wpAny_field ho hd (x := .ref t) rfl ?_)
  show wpAny _ _ (if (Value.ref t == Value.none) = true then _ else _) _ _ s
  rw [if_neg (show ¬ ((Value.ref t == Value.none) = true) from Bool.false_ne_true)]
  show wpAny _ _ (field (.ref it) 1 >>= _) _ _ s
  refine wpAny_bind (wpAny_field ho hd (x := .int i 0) rfl ?_)
  show wpAny _ _ (seqItems? (.ref t) >>= _) _ _ s
  refine wpAny_bind (wpAny_seqItems hol hdl ?_)
  simp only [Int.toNat_natCast, hx]
  refine wpAny_bind (wpAny_rule (wpAny_bind (wpAny_setField ho hd (by simp) ?_)))
  show wpAny _ _ (newExc (.type "StopIteration") [] >>= _) _ _ _
  refine wpAny_bind ?_
  simp only [newExc, newTuple]
  refine wpAny_bind (wpAny_newObj_type ?_ (by size_fits))
  refine wpAny_bind (m := firstArgMember _ _) (wpAny_of_eq (a := Value.none) (by first | rfl | (simp only [firstArgMember]; rfl)) ?_)
  refine wpAny_newObj_type ?_ (by size_fits)
  simp only [raiseNew]
  refine wpAny_bind (wpAny_handled ?_)
  first | rw [show A.in1.handled = none from hh] | rw [hh]
  refine wpAny_bind (wpAny_pure (wpAny_throw ?_))
  exact hE _ _ (((Heap.SameBut.update ..).extBut.push _).push _) ⟨_, Heap.get?_push_size _ rfl, rfl⟩
end
abbrev ne0 (x : Str) : Bool := x.length != 0
theorem plain_filter_next : plainId "filter.__next__" = true := by decide +kernel
noncomputable def FPost (prog : Program) (w : World) (A : Around) (R : Result → Shared → Prop) (fin : Fin) (s' : Shared) : Prop :=
  match fin with | .done f => R (.ok f) s' | .again c' => c'.quiet = true ∧ codeAny (model prog w) A c' R s'
section
variable {prog : Program} {w : World} {A : Around} {vals : List Value} {xs : List Str} {z it t : Addr}
theorem filt_head {Q : Fin → Shared → Prop} {E : Value → Shared → Prop} {s : Shared} {j : Nat} {x : Str} {u : Tok} (hz : IsFilter s.heap z it (.builtin "len")) (hit : s.heap.IsTupleIter it t j) (ht : s.heap.IsTuple t vals.toArray) (hzi : z ≠ it) (hx : vals[j]? = some (.str x u)) (hl : x.length ≤ 1000)
    (hQ : ∀ h' tk, h'.IsTupleIter it t (j + 1) → Heap.SameBut it s.heap h' → Q (if ne0 x then .done (.ret (.str x u)) else .again (.builtin "filter.__next__" ⟨[.ref z], []⟩)) { s with heap := h', toks := tk }) :
    wpAny (model prog w) A (Builtin.«filter.__next__» ⟨[.ref z], []⟩) Q E s := by
  show wpAny _ _ (field (.ref z) 0 >>= _) _ _ _
  refine wpAny_bind (wpAny_field hz rfl (x := .builtin "len") rfl ?_)
  show wpAny _ _ (field (.ref z) 1 >>= _) _ _ _
  refine wpAny_bind (wpAny_field hz rfl (x := .ref it) rfl ?_)
  refine wpAny_bind (cs_tuple_item hit ht (x := .str x u) (by simpa using hx) fun h₁ hit₁ hs₁ => ?_)
  refine wpAny_bind (wpAny_holding ?_)
  rw [if_neg (show ¬ ((Value.builtin "len" == Value.none || Value.builtin "len" == Value.type "bool") = true) by decide +kernel)]
  refine wpAny_bind (P.len_str (by omega) ?_)
  refine wpAny_holding (P.truthy_int ?_)
  have e : (((x.length : Nat) : Int) != 0) = ne0 x := by
    unfold ne0
    cases h : (x.length != 0) <;> simp_all <;> omega
  have := hQ h₁ (s.toks + 1 + 1) hit₁ hs₁
  rw [e]
  cases h : ne0 x with
  | true => rw [h] at this; exact wpAny_pure this
  | false => rw [h] at this; exact wpAny_pure this
end
end Mine
end Mfilter

section Mfilter2
open PySem PySem.W PySem.Calls PyProof.Rows PySem.Builtin PySem.Builtin.Str
namespace Mine
set_option maxRecDepth 100000
section
variable {prog : Program} {w : World} {A : Around} {vals : List Value} {xs : List Str} {z it t : Addr}
theorem filt_again {R : Result → Shared → Prop} {s : Shared}
    (h : wpAny (model prog w) A.in1 (Builtin.«filter.__next__» ⟨[.ref z], []⟩) (FPost prog w A R) (fun e s' => R (.error e) s') s) :
    FPost prog w A R (.again (.builtin "filter.__next__" ⟨[.ref z], []⟩)) s := by
  refine ⟨Code.quiet_builtin _ (by decide +kernel), codeAny_builtin entry_filter_next ?_⟩
  rw [Around.under_plainId plain_filter_next]
  exact h
theorem filt_item (hzi : z ≠ it) (hti : t ≠ it) (S : StrsAre vals xs) (hl : ∀ x ∈ xs, x.length ≤ 1000) {R : Result → Shared → Prop} {x : Str} {rest : List Str} : ∀ (d j : Nat) (s : Shared), d = xs.length - j →
    IsFilter s.heap z it (.builtin "len") → s.heap.IsTupleIter it t j → s.heap.IsTuple t vals.toArray → (xs.drop j).filter ne0 = x :: rest →
    (∀ h' tk u j', IsFilter h' z it (.builtin "len") → h'.IsTupleIter it t j' → h'.IsTuple t vals.toArray → (xs.drop j').filter ne0 = rest → Heap.SameBut it s.heap h' → R (.ok (.ret (.str x u))) { s with heap := h', toks := tk }) →
    wpAny (model prog w) A.in1 (Builtin.«filter.__next__» ⟨[.ref z], []⟩) (FPost prog w A R) (fun e s' => R (.error e) s') s
  | 0, j, s, hd, hz, hit, ht, hf, hQ => by
    rw [List.drop_eq_nil_of_le (by omega)] at hf
    cases hf
  | d + 1, j, s, hd, hz, hit, ht, hf, hQ => by
    have hj : j < xs.length := by omega
    obtain ⟨u, hu⟩ := S.get j xs[j] (List.getElem?_eq_getElem hj)
    refine filt_head hz hit ht hzi hu (hl _ (List.getElem_mem hj)) fun h₁ tk hit₁ hs₁ => ?_
    have hz₁ : IsFilter h₁ z it (.builtin "len") := hs₁.extBut _ _ hzi hz
    have ht₁ : h₁.IsTuple t vals.toArray := ht.extBut hs₁.extBut hti
    rw [List.drop_eq_getElem_cons hj, List.filter_cons] at hf
    cases hn : ne0 xs[j] with
    | true =>
      rw [hn] at hf
      simp only [if_true] at hf
      injection hf with e1 e2
      simp only [if_true]
      rw [e1]
      exact hQ h₁ tk u (j + 1) hz₁ hit₁ ht₁ e2 hs₁
    | false =>
      rw [hn] at hf
      simp only [Bool.false_eq_true, if_false] at hf ⊢
      exact filt_again (filt_item hzi hti S hl d (j + 1) _ (by omega) hz₁ hit₁ ht₁ hf fun h' tk' u j' a1 a2 a3 a4 a5 => hQ h' tk' u j' a1 a2 a3 a4 (hs₁.trans a5))
theorem filt_end (hzi : z ≠ it) (hti : t ≠ it) (S : StrsAre vals xs) (hl : ∀ x ∈ xs, x.length ≤ 1000) {R : Result → Shared → Prop} (hh : A.handled = none) : ∀ (d j : Nat) (s : Shared), d = xs.length - j →
    IsFilter s.heap z it (.builtin "len") → s.heap.IsTupleIter it t j → s.heap.IsTuple t vals.toArray → (xs.drop j).filter ne0 = [] →
    (∀ h' tk e, Heap.ExtBut it s.heap h' → (∃ o, h'.get? e = some o ∧ o.cls = .type "StopIteration") → R (.error (.ref e)) { s with heap := h', toks := tk }) →
    wpAny (model prog w) A.in1 (Builtin.«filter.__next__» ⟨[.ref z], []⟩) (FPost prog w A R) (fun e s' => R (.error e) s') s
  | 0, j, s, hd, hz, hit, ht, hf, hQ => by
    show wpAny _ _ (field (.ref z) 0 >>= _) _ _ _
    refine wpAny_bind (wpAny_field hz rfl (x := .builtin "len") rfl ?_)
    show wpAny _ _ (field (.ref z) 1 >>= _) _ _ _
    refine wpAny_bind (wpAny_field hz rfl (x := .ref it) rfl ?_)
    refine wpAny_bind (cs_tuple_end hh hit ht ?_ fun h' e he ho => hQ h' s.toks e he ho)
    rw [List.getElem?_toArray]
    exact List.getElem?_eq_none (by rw [S.length]; omega)
  | d + 1, j, s, hd, hz, hit, ht, hf, hQ => by
    have hj : j < xs.length := by omega
    obtain ⟨u, hu⟩ := S.get j xs[j] (List.getElem?_eq_getElem hj)
    refine filt_head hz hit ht hzi hu (hl _ (List.getElem_mem hj)) fun h₁ tk hit₁ hs₁ => ?_
    have hz₁ : IsFilter h₁ z it (.builtin "len") := hs₁.extBut _ _ hzi hz
    have ht₁ : h₁.IsTuple t vals.toArray := ht.extBut hs₁.extBut hti
    rw [List.drop_eq_getElem_cons hj, List.filter_cons] at hf
    cases hn : ne0 xs[j] with
    | true =>
      rw [hn] at hf
      cases hf
    | false =>
      rw [hn] at hf
      simp only [Bool.false_eq_true, if_false] at hf ⊢
      exact filt_again (filt_end hzi hti S hl hh d (j + 1) _ (by omega) hz₁ hit₁ ht₁ hf fun h' tk' e a1 a2 => hQ h' tk' e (fun b o hb he => a1 b o hb (hs₁.extBut b o hb he)) a2)
theorem call_filt {Q E : Value → Shared → Prop} {s : Shared} (hT : s.TypeIs (.ref z) "filter")
    (h : wpAny (model prog w) A.in1 (Builtin.«filter.__next__» ⟨[.ref z], []⟩) (FPost prog w A (wants Q E)) (fun e s' => wants Q E (.error e) s') s) : wpAny (model prog w) A (call (.builtin "filter.__next__") [.ref z]) Q E s :=
  wpAny_call (codeAny_call_builtin slot_filter_next.plain entry_filter_next (slot_filter_next.check _ _ _ _ _ _ _ _ hT (args_filter_next_1 _) h))
noncomputable def FiltSt (vals : List Value) (xs : List Str) (z it t : Addr) (i : Nat) (h : Heap) : Prop :=
  IsFilter h z it (.builtin "len") ∧ h.IsTuple t vals.toArray ∧ ∃ j, h.IsTupleIter it t j ∧ (xs.drop j).filter ne0 = (xs.filter ne0).drop i
theorem Walks_filter (hh : A.handled = none) (hzi : z ≠ it) (hti : t ≠ it) (S : StrsAre vals xs) (hl : ∀ x ∈ xs, x.length ≤ 1000) :
    Walks prog w A z [z, it, t] [it] (xs.filter ne0).length (fun i v => ∃ x u, (xs.filter ne0)[i]? = some x ∧ v = .str x u) (FiltSt vals xs z it t) where
  sub := fun b hb => by simp at hb; simp [hb]
  frame := fun i h h' st hk => by
    obtain ⟨h1, h2, j, h3, h4⟩ := st
    exact ⟨hk z (by simp) _ h1, h2.at fun o e => hk t (by simp) o e, j, h3.at fun o e => hk it (by simp) o e, h4⟩
  item := fun i s Q E hi st hQ => by
    obtain ⟨h1, h2, j, h3, h4⟩ := st
    have hT : s.TypeIs (.ref z) "filter" := ⟨_, h1, rfl⟩
    rw [List.drop_eq_getElem_cons hi] at h4
    unfold pyNext
    refine wpAny_bind (wpAny_attempt (wpAny_callSpecial?_slot (name := Str.ofString "__next__") hT slot_filter_next (call_filt hT ?_)))
    refine filt_item hzi hti S hl _ j s rfl h1 h3 h2 h4 fun h' tk u j' a1 a2 a3 a4 a5 => ?_
    refine wpAny_pure (hQ _ h' tk ⟨_, u, List.getElem?_eq_getElem hi, rfl⟩ ⟨a1, a3, j', a2, a4⟩ fun b o hb e => a5.extBut b o (fun h => hb (by simp [h])) e)
  done := fun s Q E st hQ => by
    obtain ⟨h1, h2, j, h3, h4⟩ := st
    have hT : s.TypeIs (.ref z) "filter" := ⟨_, h1, rfl⟩
    rw [List.drop_length] at h4
    unfold pyNext
    refine wpAny_bind (wpAny_attempt (wpAny_callSpecial?_slot (name := Str.ofString "__next__") hT slot_filter_next (call_filt hT ?_)))
    refine filt_end hzi hti S hl hh _ j s rfl h1 h3 h2 h4 fun h' tk e a1 a2 => ?_
    obtain ⟨o, ho, hc⟩ := a2
    refine wpAny_bind (wpAny_isInstance (T := "StopIteration") (b := true) ⟨o, ho, hc⟩ isSubtype_stop ?_)
    exact wpAny_pure (hQ _ tk fun b o hb e => a1 b o (fun h => hb (by simp [h])) e)
  self := fun i s Q E st hQ => by
    obtain ⟨h1, h2, j, h3, h4⟩ := st
    have hT : s.TypeIs (.ref z) "filter" := ⟨_, h1, rfl⟩
    refine wpAny_pyIter_slot hT slot_filter_iter (wpAny_call_entry slot_filter_iter hT entry_filter_iter ?_ (args_filter_iter_1 _))
    show wpAny _ _ (ret (.ref z)) _ _ s
    exact wpAny_pure ⟨_, rfl, "filter", _, hT, slot_filter_next.lookup, hQ⟩
end
end Mine
end Mfilter2

section Mplat0
open PySem PySem.W PySem.Calls PyProof.Rows PySem.Builtin PySem.Builtin.Str
namespace Mine
section
variable {prog : Program} {w : World} {A : Around} {E : Value → Shared → Prop} {s : Shared}
theorem gen_code {env : Env} {c P : Addr} {ps : Array Value} {pos : Pos} {qual : Str} {scope : Scope} {Q : Value → Shared → Prop} (hc : env.code = .ref c) (C : CodeHd s.heap c P) (hP : s.heap.get? P = some (tabObj ps)) (ht : TriplesOk ps.toList)
    (hQ : ∀ c' h' tk ps', Heap.ExtBut P s.heap h' → s.heap.objs.size ≤ h'.objs.size → h'.get? P = some (tabObj ps') → TriplesOk ps'.toList → Q c' { s with heap := h', toks := tk }) :
    wpAny (model prog w) A (genexprCode env pos qual scope) Q E s := by
  cases hf : codeAmong pos ps.toList with
  | none =>
    refine wpAny_genexprCodeX hc (C.code hP ht) (C.tab hP) hf fun c' h' tk hx h1 h2 hcode _ htab _ => ?_
    obtain ⟨o, vs, file, tf, flags, tg, inF, text, tt, op, ho, hd, h11, e2, e7, e9, e10, hop, hpd, htr, hne⟩ := hcode
    exact hQ _ h' tk _ hx (Nat.le_trans h1 (Nat.le_of_lt h2)) htab.2 htr
  | some v =>
    exact wpAny_genexprCode_hit hc (C.code hP ht) hf (hQ v s.heap s.toks ps (fun b o _ e => e) (Nat.le_refl _) hP ht)
noncomputable def StripOf (xs : List Str) (j : Nat) (y : Value) : Prop := ∃ x u, (xs.filter ne0)[j]? = some x ∧ y = .str (Txt.strip x) u
noncomputable def PlatPost (prog : Program) (w : World) (A : Around) (h₀ : Heap) (P L : Addr) (m : Str → Option Value) (Q : Value → Shared → Prop) (xv : Value) (s₁ : Shared) : Prop :=
  ∃ z it t vals xs ps, xv = .ref z ∧ FiltSt vals xs z it t 0 s₁.heap ∧ z ≠ it ∧ t ≠ it ∧ L < it ∧ StrsAre vals xs ∧ (∀ x ∈ xs, x.length ≤ 1000) ∧ Fr h₀ L s₁.heap m ∧ s₁.heap.get? P = some (tabObj ps) ∧ TriplesOk ps.toList ∧ AllBare s₁.gens ∧
    ∀ a s₅ ps', Fr h₀ L s₅.heap m → s₅.heap.get? P = some (tabObj ps') → TriplesOk ps'.toList → AllBare s₅.gens → s₅.os = s₁.os → Gen prog w A L a (xs.filter ne0).length (StripOf xs) s₅ → Q (.ref a) s₅
theorem passing_all (n : Nat) : passing (fun _ => true) n 0 = List.range n := by simp [passing]
theorem Keeps_toks (s : Shared) (tk : Nat) : Keeps s { s with toks := tk } := ⟨s.heap, tk, rfl, fun _ _ e => e⟩
theorem quiet_strip {xs : List Str} {scope : Scope} {cl : List (Str × Addr)} {C : Addr} {code : Value} {env : Env} {x : Str} {p1 p2 p3 : Pos} {fp wr : List Addr} {href : Heap}
    (hl : ∀ x ∈ xs, x.length ≤ 1000) (hkind : scope.kind = .function) (hx : scope.names.lookup x = some .local) (hd : (x == ("__debug__" : Str)) = false)
    (hbase : ∀ env', attributeBase (.Name x p1) (Str.ofString "strip") env' (eval (.Name x p1) env') = eval (.Name x p1) env') (hline : (p2.endLine == p3.line) = true) :
    QuietGen prog w (genEnv scope cl C code builtinsNs env) x [] (.Call (.Attribute (.Name x p1) (Str.ofString "strip") p2) [] [] p3) fp wr (fun i v => ∃ y u, (xs.filter ne0)[i]? = some y ∧ v = .str y u) (fun _ => true) (StripOf xs) href where
  tests := fun A' E' i v s₂ m₂ _ _ _ _ _ => by
    show wpAny _ _ (pure true) _ _ _
    exact wpAny_pure ⟨rfl, s₂.heap, s₂.toks, rfl, fun _ _ e => e⟩
  elt := fun A' E' i v s₂ m₂ _ hP _ hns hm _ => by
    obtain ⟨y, u, hy, rfl⟩ := hP
    refine wpAny_Call_method_lateS (hbase _) (by rfl) hline (wpAny_Name (wpAny_loadName_local hkind hx hns hm ?_) hd)
    have hm : y ∈ xs := (List.mem_filter.mp (List.mem_of_getElem? hy)).1
    exact SB.strip (fun t' k => ⟨⟨y, t', hy, rfl⟩, Keeps_toks _ _⟩) (by have := hl y hm; rw [sizeLine_eq]; omega)
theorem gen_plat {env : Env} {iter : Expr} {x : Str} {px p1 p2 p3 : Pos} {scope : Scope} {pos : Pos} {Q : Value → Shared → Prop} {h₀ : Heap} {c P L : Addr} {m mg : Str → Option Value} {bm : Addr} {ob : Obj}
    (C : CodeHd h₀ c P) (M : BMod h₀ env.globals mg bm ob) (hP0 : h₀.get? P = none) (hPL : P < L) (hlim : h₀.NoLimit) (hcode : env.code = .ref c)
    (hh : A.handled = none) (hco : scope.isCoroutine = false) (hclos : closureFor scope env = pure []) (hcell : ∀ y ∈ scope.names, y.2 ≠ .cell) (h0 : scope.names.lookup (".0" : Str) = some NameKind.local)
    (hx : scope.names.lookup x = some .local) (hkind : scope.kind = .function) (hroom : A.depth < recursionLimit) (hdb : (x == ("__debug__" : Str)) = false)
    (hbase : ∀ env', attributeBase (.Name x p1) (Str.ofString "strip") env' (eval (.Name x p1) env') = eval (.Name x p1) env') (hline : (p2.endLine == p3.line) = true)
    (h : wpAny (model prog w) A (eval iter env) (PlatPost prog w A h₀ P L m Q) E s)
    (hs : ∀ x, genFold iter env x = pure x) :
    wpAny (model prog w) A (eval (.GeneratorExp (.Call (.Attribute (.Name x p1) (Str.ofString "strip") p2) [] [] p3) [⟨.Name x px, iter, [], 0⟩] scope pos) env) Q E s := by
  refine wpAny_GeneratorExp_walksQ hh hco hclos hcell h0 hx hkind hroom (wpAny_mono h (fun xv s₁ h₁ => ?_) fun _ _ e => e) hs
  obtain ⟨z, it, t, vals, xs, ps, rfl, hst, hzi, hti, hLi, S, hl, F, hP, hT, G, hQ⟩ := h₁
  refine (Walks_filter hh hzi hti S hl).self 0 s₁ _ _ hst ⟨hlim.keeps F.keep, gen_code hcode (C.keeps F.keep) hP hT fun c' h₃ tk₃ ps' hx₃ hsz hP₃ hT₃ => ?_⟩
  have hPLn : L ≠ P := (Nat.ne_of_lt hPL).symm
  have F₃ : Fr h₀ L h₃ m := ⟨F.ns.at' fun o e => hx₃ _ _ hPLn e, fun b o e => hx₃ b o (fun e' => by rw [e', hP0] at e; cases e) (F.keep b o e), F.above⟩
  have M₃ := M.keeps F₃.keep
  refine wpAny_builtinsFor M₃.ns M₃.name M₃.ne M₃.obj M₃.cls M₃.dict M₃.data ?_
  have hst' := hst
  obtain ⟨hz, ht, j, hit, hj⟩ := hst'
  have hzP : z ≠ P := fun e => by have hz2 : s₁.heap.get? z = some _ := hz; rw [e, hP] at hz2; cases hz2
  have htP : t ≠ P := fun e => by obtain ⟨o, ho, hc, _⟩ := ht; rw [e, hP] at ho; cases ho; exact absurd hc (by simp)
  have hiP : it ≠ P := Nat.ne_of_gt (Nat.lt_trans hPL hLi)
  have hst₃ : FiltSt vals xs z it t 0 h₃ := (Walks_filter (prog := prog) (w := w) hh hzi hti S hl).frame 0 _ _ hst fun b hb o e => hx₃ b o (by
    simp only [List.mem_cons, List.not_mem_nil, or_false] at hb
    rcases hb with rfl | rfl | rfl
    · exact hzP
    · exact hiP
    · exact htP) e
  have hfp : ∀ b ∈ [z, it, t], b < h₃.objs.size := by
    intro b hb
    obtain ⟨hz', ht', j', hit', _⟩ := hst₃
    simp only [List.mem_cons, List.not_mem_nil, or_false] at hb
    rcases hb with rfl | rfl | rfl
    · exact Heap.lt_size hz'
    · obtain ⟨_, e, _⟩ := hit'; exact Heap.lt_size e
    · obtain ⟨_, e, _⟩ := ht'; exact Heap.lt_size e
  have hl₃ : h₃.NoLimit := hlim.keeps F₃.keep
  have hcw : cStatics ∉ [it] := fun hm => by
    have e : cStatics = it := by simpa using hm
    obtain ⟨mc, hns, _⟩ := hlim
    have h1 : cStatics < L := Nat.lt_of_lt_of_le hns.lt F.above
    exact absurd (e ▸ h1) (Nat.lt_asymm hLi)
  refine ⟨z, [z, it, t], [it], (xs.filter ne0).length, _, _, (fun _ => true), StripOf xs, rfl, (fun A' hA => Walks_filter hA hzi hti S hl), hst₃, hfp, hl₃, hcw, (fun href hhref => quiet_strip hl hkind hx hdb hbase hline), fun a h₅ tk gs hgb hag hsz₅ hk₅ W hat => ?_⟩
  have hkP : h₅.get? P = some (tabObj ps') := hk₅ _ _ hP₃
  have hLlt : L < h₃.objs.size := F₃.ns.lt
  refine hQ a _ ps' (F₃.keeps hk₅) hkP hT₃ (G.push hgb) rfl ?_
  rw [passing_all, List.length_range] at W
  refine ⟨_, _, _, _, ⟨W.sub, W.grefl, W.gtrans, W.frame, fun j s Q E hj st hq => W.item j s Q E hj st fun v h' hv => hq v h' ?_, W.done, W.self⟩, hat, (fun i s' st => st.1.typeIs), List.mem_cons_self, ?_, ?_⟩
  · obtain ⟨i, hi, hv⟩ := hv
    have e : i = j := by
      rw [List.getElem?_range hj] at hi
      exact (Option.some.inj hi).symm
    exact e ▸ hv
  · intro b hb
    show b < h₅.objs.size
    rw [hsz₅]
    rcases List.mem_cons.mp hb with rfl | hb
    · exact Nat.lt_succ_self _
    · rcases List.mem_cons.mp hb with rfl | hb
      · exact Nat.lt_succ_of_lt hag
      · exact Nat.lt_succ_of_lt (Nat.lt_trans (List.mem_range.mp hb) hag)
  · intro b hb
    rcases List.mem_cons.mp hb with rfl | hb
    · exact hLlt
    · have e : b = it := by simpa using hb
      exact e ▸ hLi
theorem join_plat {sep : Str} {t : Tok} {a P L : Addr} {h₀ : Heap} {m : Str → Option Value} {ps : Array Value} {xs : List Str} {Q : Value → Shared → Prop} (Fh : Fr h₀ L s.heap m) (hP : s.heap.get? P = some (tabObj ps)) (hPL : P < L) (G : AllBare s.gens) (X : Gen prog w A L a (xs.filter ne0).length (StripOf xs) s)
    (hok : JoinOk sep ((xs.filter ne0).map Txt.strip) = true)
    (hQ : ∀ s' t', Fr h₀ L s'.heap m → s'.heap.get? P = some (tabObj ps) → AllBare s'.gens → s'.os = s.os → Q (.str (Txt.join sep ((xs.filter ne0).map Txt.strip)) t') s')
    (hsz : (xs.filter ne0).length ≤ sizeLine) : wpAny (model prog w) A (call (.builtin "str.join") [.str sep t, .ref a]) Q E s := by
  obtain ⟨fp, wr, g, St, W, hst, hT, ha, hfp, hwr⟩ := X
  refine SC.joinGen W.in4_2 hT hst hfp ha (fun j v ⟨x, u, _, e⟩ => ⟨_, u, e⟩) (fun s' lt hm hacc => ?_) hsz
  have hl : lt.map (·.1) = (xs.filter ne0).map Txt.strip := by
    have hlen : lt.length = (xs.filter ne0).length := by simpa [strValues] using hacc.1
    refine List.ext_getElem (by simp [hlen]) fun j h1 h2 => ?_
    have hj : j < lt.length := by simpa using h1
    obtain ⟨x, u, hx, hv⟩ := hacc.2 j (.str lt[j].1 lt[j].2) (by simp [strValues, List.getElem?_eq_getElem hj])
    injection hv with h3 _
    rw [List.getElem_map, List.getElem_map, h3]
    congr 1
    rw [List.getElem?_eq_getElem (by omega)] at hx
    exact (Option.some.inj hx).symm
  rw [hl]
  have f1 := Fh.moved hm hwr
  have g1 := G.movedS hm
  have o1 := hm.os
  have p1 := hm.heap _ _ (fun hb => Nat.lt_asymm hPL (hwr _ hb)) hP
  exact ⟨hok, fun t' k => hQ { s' with toks := k } t' f1 p1 g1 o1⟩
end
end Mine
end Mplat0

section Mplat1
open PySem PySem.W PySem.Calls PyProof.Rows PySem.Builtin PySem.Builtin.Str
namespace Mine
theorem join_le {y z : Str} (h : z.length ≤ y.length) : ∀ ps : List Str, (Str.join z ps).length ≤ (Str.join y ps).length
  | [] => Nat.le_refl _
  | [x] => Nat.le_refl _
  | x :: x' :: r => by
    have ih := join_le h (x' :: r)
    have e : ∀ q : Str, (Str.join q (x :: x' :: r)).length = x.length + q.length + (Str.join q (x' :: r)).length := fun q => by
      show (x ++ q ++ Str.join q (x' :: r)).length = _
      simp [Str.length_append]
    rw [e, e]; omega
theorem rep_len {x y z : Str} (h : z.length ≤ y.length) : (Txt.replace x y z).length ≤ x.length := by
  unfold Txt.replace
  split
  · exact Nat.le_refl _
  · have e := StrLaws.glued_between_self x y (x.length + 1)
    have := join_le h (partsBetween x (occurrences x y 0 x.length (x.length + 1)) y.length)
    rw [← StrLaws.glued_eq_join, ← StrLaws.glued_eq_join, e] at this
    exact this
theorem join_lt {y z : Str} (h : z.length < y.length) (a b : Str) (r : List Str) : (Str.join z (a :: b :: r)).length < (Str.join y (a :: b :: r)).length := by
  have ih := join_le (Nat.le_of_lt h) (b :: r)
  have e : ∀ q : Str, (Str.join q (a :: b :: r)).length = a.length + q.length + (Str.join q (b :: r)).length := fun q => by
    show (a ++ q ++ Str.join q (b :: r)).length = _
    simp [Str.length_append]
  rw [e, e]; omega
theorem rep_lt {x y z : Str} (h : z.length < y.length) (hne : (Txt.replace x y z == x) = false) : (Txt.replace x y z).length < x.length := by
  unfold Txt.replace at hne ⊢
  split
  · rename_i h1; rw [if_pos h1] at hne; simp at hne
  · rename_i h1
    have e := StrLaws.glued_between_self x y (x.length + 1)
    cases hc : occurrences x y 0 x.length (x.length + 1) with
    | nil => rw [hc] at h1; simp at h1
    | cons c r =>
      rw [hc] at e
      rw [StrLaws.glued_eq_join, StrLaws.partsBetween_eq] at *
      obtain ⟨p, q, e2⟩ := StrLaws.partsFrom_ne x y.length (c + y.length) r
      have e3 : StrLaws.partsFrom x y.length 0 (c :: r) = strSub x 0 c :: p :: q := by
        show strSub x 0 c :: StrLaws.partsFrom x y.length (c + y.length) r = _
        rw [e2]
      rw [e3] at e ⊢
      have := join_lt h (strSub x 0 c) p q
      rw [e] at this
      exact this
noncomputable def dash2 : Str := Str.ofString "--"
noncomputable def dash1 : Str := Str.ofString "-"
noncomputable def dashN : Nat → Str → Str
  | 0, p => p
  | f + 1, p => if (Txt.replace p (Str.ofString "--") (Str.ofString "-") == p) = true then p else dashN f (Txt.replace p (Str.ofString "--") (Str.ofString "-"))
noncomputable def trimN : Nat → Str → Str
  | 0, p => p
  | f + 1, p => if ne0 p = true ∧ (Txt.item p (-1) == Str.ofString "-") = true then trimN f (Txt.slice p none (some (-1))) else p
structure PlatSt where
  p : Str
  t : Tok
  fuel : Nat
noncomputable def DashOk (R : Str) (c : PlatSt) : Prop := c.p.length ≤ 1000 ∧ c.p.length ≤ c.fuel ∧ dashN c.fuel c.p = R
noncomputable def TrimOk (R : Str) (c : PlatSt) : Prop := c.p.length ≤ 1000 ∧ c.p.length ≤ c.fuel ∧ trimN c.fuel c.p = R
abbrev PlatPs (c : PlatSt) : List (Str × Value) := [(Str.ofString "platform", .str c.p c.t)]
theorem dash_next {R p : Str} {t' : Tok} {fuel : Nat} (h1 : p.length ≤ 1000) (h2 : p.length ≤ fuel) (h3 : dashN fuel p = R) (hne : (Txt.replace p (Str.ofString "--") (Str.ofString "-") == p) = false) :
    DashOk R ⟨Txt.replace p (Str.ofString "--") (Str.ofString "-"), t', fuel - 1⟩ ∧ (Txt.replace p (Str.ofString "--") (Str.ofString "-")).length < p.length := by
  have hlt := rep_lt (x := p) (y := Str.ofString "--") (z := Str.ofString "-") (by decide +kernel) hne
  refine ⟨⟨by dsimp only; omega, by dsimp only; omega, ?_⟩, hlt⟩
  cases fuel with
  | zero => omega
  | succ f => rw [dashN, if_neg (by rw [hne]; decide)] at h3; exact h3
theorem dash_end {R p : Str} {fuel : Nat} (h2 : p.length ≤ fuel) (h3 : dashN fuel p = R) (he : (Txt.replace p (Str.ofString "--") (Str.ofString "-") == p) = true) : R = p := by
  cases fuel with
  | zero => exact h3.symm
  | succ f => rw [dashN, if_pos he] at h3; exact h3.symm
theorem init_len {p : Str} (h : ne0 p = true) : (Txt.slice p none (some (-1))).length < p.length := by
  have h0 : 0 < p.length := by unfold ne0 at h; simp at h; omega
  unfold Txt.slice
  have e : (strSliceIndices none (some (-1)) 1 p.length).length = p.length - 1 := by
    unfold strSliceIndices sliceRange
    simp only [show (1 : Int) > 0 by decide, if_true, List.length_map, List.length_range]
    (try simp only [Int.ediv_one])
    (repeat (split))
    all_goals (try omega)
  rw [if_neg (by rw [e]; simp; omega)]
  show (List.filterMap _ (strSliceIndices none (some (-1)) 1 p.length)).toArray.size < p.length
  rw [List.size_toArray]
  exact Nat.lt_of_le_of_lt (List.length_filterMap_le _ _) (by rw [e]; omega)
theorem trim_next {R p : Str} {t' : Tok} {fuel : Nat} (h1 : p.length ≤ 1000) (h2 : p.length ≤ fuel) (h3 : trimN fuel p = R) (h4' : ((p.length : Nat) : Int) ≠ 0) (h5 : (Txt.item p (-1) == Str.ofString "-") = true) :
    TrimOk R ⟨Txt.slice p none (some (-1)), t', fuel - 1⟩ ∧ (Txt.slice p none (some (-1))).length < p.length := by
  have h4 : ne0 p = true := by unfold ne0; simp; omega
  have hlt := init_len h4
  refine ⟨⟨by dsimp only; omega, by dsimp only; omega, ?_⟩, hlt⟩
  cases fuel with
  | zero => omega
  | succ f => rw [trimN, if_pos ⟨h4, h5⟩] at h3; exact h3
theorem trim_end1 {R p : Str} {fuel : Nat} (h3 : trimN fuel p = R) (h4' : ((p.length : Nat) : Int) = 0) : R = p := by
  have h4 : ne0 p = false := by unfold ne0; simp; omega
  cases fuel with
  | zero => exact h3.symm
  | succ f => rw [trimN, if_neg (fun h => by rw [h4] at h; exact absurd h.1 (by decide))] at h3; exact h3.symm
theorem trim_end2 {R p : Str} {fuel : Nat} (h3 : trimN fuel p = R) (h5 : (Txt.item p (-1) == Str.ofString "-") = false) : R = p := by
  cases fuel with
  | zero => exact h3.symm
  | succ f => rw [trimN, if_neg (fun h => by rw [h5] at h; exact absurd h.2 (by decide))] at h3; exact h3.symm
theorem dash_n1 {R p : Str} {t' : Tok} {fuel : Nat} (h1 : p.length ≤ 1000) (h2 : p.length ≤ fuel) (h3 : dashN fuel p = R) (hne : (Txt.replace p (Str.ofString "--") (Str.ofString "-") == p) = false) :
    DashOk R ⟨Txt.replace p (Str.ofString "--") (Str.ofString "-"), t', fuel - 1⟩ := (dash_next h1 h2 h3 hne).1
theorem dash_n2 {p : Str} (hne : (Txt.replace p (Str.ofString "--") (Str.ofString "-") == p) = false) : (Txt.replace p (Str.ofString "--") (Str.ofString "-")).length < p.length :=
  rep_lt (x := p) (y := Str.ofString "--") (z := Str.ofString "-") (by decide +kernel) hne
theorem trim_n1 {R p : Str} {t' : Tok} {fuel : Nat} (h1 : p.length ≤ 1000) (h2 : p.length ≤ fuel) (h3 : trimN fuel p = R) (h4' : ((p.length : Nat) : Int) ≠ 0) (h5 : (Txt.item p (-1) == Str.ofString "-") = true) :
    TrimOk R ⟨Txt.slice p none (some (-1)), t', fuel - 1⟩ := (trim_next h1 h2 h3 h4' h5).1
theorem trim_n2 {p : Str} (h4' : ((p.length : Nat) : Int) ≠ 0) : (Txt.slice p none (some (-1))).length < p.length := init_len (by unfold ne0; simp; omega)
noncomputable def repsF (p : Str) : Str :=
  Txt.replace (Txt.replace (Txt.replace (Txt.replace (Txt.replace (Txt.replace (Txt.replace (Txt.replace (Txt.replace p (Str.ofString " ") (Str.ofString "_")) (Str.ofString "/") (Str.ofString "-")) (Str.ofString "\\") (Str.ofString "-")) (Str.ofString ":") (Str.ofString "-")) (Str.ofString ";") (Str.ofString "-")) (Str.ofString "\"") (Str.ofString "-")) (Str.ofString "(") (Str.ofString "-")) (Str.ofString ")") (Str.ofString "-")) (Str.ofString "unknown") (Str.ofString "")
noncomputable def joinedF (xs : List Str) : Str := Txt.join (Str.ofString "-") ((xs.filter ne0).map Txt.strip)
noncomputable def platF (xs : List Str) : Str := trimN 1000 (dashN 1000 (repsF (joinedF xs)))
section
variable {prog : Program} {w : World} {A : Around} {E : Value → Shared → Prop} {s : Shared} {x y z : Str} {t u v : Tok} {Q : Value → Shared → Prop}
theorem rep_call (htk : 1 ≤ s.toks) (hu : u ≠ 0) (hv : v ≠ 0) (huv : u ≠ v) (hyz : (y == z) = false) (hx : x.length ≤ 1000) (hz : z.length ≤ y.length) (hz2 : z.length ≤ 14)
    (hq : ∀ t' k, 1 ≤ k → (Txt.replace x y z).length ≤ 1000 → Q (.str (Txt.replace x y z) t') { s with toks := k }) : wpAny (model prog w) A (call (.builtin "str.replace") [.str x t, .str y u, .str z v]) Q E s :=
  wpAny_with_toks htk (SC.replaceW hu hv huv hyz (by omega) hz2 fun t' k hk => hq t' k hk (Nat.le_trans (rep_len hz) hx))
end
section
variable {prog : Program} {w : World} {A : Around} {E : Value → Shared → Prop} {Q : Flow → Shared → Prop} {s : Shared} {env : Env} {h₀ : Heap} {L : Addr}
theorem while_t {σ : Type} {test : Expr} {body : List Stmt} {pos : Pos} {m₀ : Str → Option Value} (Led : List (Addr × Obj)) (ps : σ → List (Str × Value)) (stored : List Str) (P : σ → Prop) (μ : σ → Nat) (c₀ : σ)
    (htk : 1 ≤ s.toks) (F : Fr h₀ L s.heap m₀) (N : News h₀ L s.heap Led) (hk : ∀ p ∈ ps c₀, m₀ p.1 = some p.2) (hp : P c₀)
    (turn : ∀ (c : σ) (u : Str → Option Value) h tk, 1 ≤ tk → P c → Fr h₀ L h (kstB (fun z => if stored.contains z then u z else m₀ z) (ps c)) → News h₀ L h Led →
      wpAny (model prog w) A (isTrue test env (eval test env)) (fun b s₂ =>
        if b = true then wpAny (model prog w) A (execs body env) (KswPost h₀ L s (fun _ => Led) ps (fun _ => True) stored m₀ P μ Q c) E s₂ else Q .next s₂) E { s with heap := h, toks := tk })
    (hE : PassesOwn (model prog w) A env E := by passes_own) :
    wpAny (model prog w) A (exec (.While test body [] pos) env) Q E s := by
  refine wpAny_While (codeAny_whileLoop (fun n s' => ∃ (c : σ) (h₁ : Heap) (tk₁ : Nat) (m₁ : Str → Option Value), s' = { s with heap := h₁, toks := tk₁ } ∧ 1 ≤ tk₁ ∧ Fr h₀ L h₁ m₁ ∧ News h₀ L h₁ Led ∧ μ c = n ∧ (∀ p ∈ ps c, m₁ p.1 = some p.2) ∧ (∀ z, (∀ p ∈ ps c, z ≠ p.1) → stored.contains z = false → m₁ z = m₀ z) ∧ P c) ?_ (μ c₀) ⟨c₀, s.heap, s.toks, m₀, rfl, htk, F, N, rfl, hk, fun _ _ _ => rfl, hp⟩)
  rintro n s' ⟨c, h₁, tk₁, m₁, rfl, htk₁, F₁, N₁, hn, k1, k2, hp₁⟩
  refine wpAny_with_toks (n := 1) htk₁ (wpAny_mono (turn c m₁ h₁ tk₁ htk₁ hp₁ (ksw_fr k1 k2 F₁) N₁) (fun b s₂ h₂ htk₂ => ?_) fun e s' he _ => hE e s' he)
  cases b with
  | false =>
    simp only [Bool.false_eq_true, if_false] at h₂ ⊢
    exact wpAny_execs_nil h₂
  | true =>
    simp only [if_true] at h₂ ⊢
    refine wpAny_with_toks (n := 1) htk₂ (wpAny_mono h₂ (fun f s₃ h₃ htk₃ => ?_) fun e s' he _ => hE e s' he)
    cases f with
    | brk => exact h₃
    | ret v => exact h₃
    | next =>
      obtain ⟨c', h', tk', m', news', rfl, F', N', hn', hf9, hk9, hr9, hp9, hm9⟩ := h₃
      exact ⟨_, hn ▸ hm9, c', h', tk', m', rfl, htk₃, F', fun p hp => N' p (hn' p hp), rfl, hk9, hr9, hp9⟩
    | cont =>
      obtain ⟨c', h', tk', m', news', rfl, F', N', hn', hf9, hk9, hr9, hp9, hm9⟩ := h₃
      exact ⟨_, hn ▸ hm9, c', h', tk', m', rfl, htk₃, F', fun p hp => N' p (hn' p hp), rfl, hk9, hr9, hp9⟩
theorem while_dash {test : Expr} {body : List Stmt} {pos : Pos} {m₂ m₀ : Str → Option Value} {news : List (Addr × Obj)} {p : Str} {t0 : Tok} (htk : 1 ≤ s.toks) (F : Fr h₀ L s.heap fun y => if y = Str.ofString "platform" then some (.str p t0) else m₂ y) (N : News h₀ L s.heap news)
    (hm₀ : m₀ = fun y => if y = Str.ofString "platform" then some (.str p t0) else m₂ y) (hp : p.length ≤ 1000)
    (turn : ∀ p' t fuel (u : Str → Option Value) h tk, 1 ≤ tk → p'.length ≤ 1000 → p'.length ≤ fuel → dashN fuel p' = dashN 1000 p → Fr h₀ L h (kstB (fun z => if [Str.ofString "cleaned"].contains z then u z else m₀ z) [(Str.ofString "platform", .str p' t)]) → News h₀ L h news →
      wpAny (model prog w) A (isTrue test env (eval test env)) (fun b s₂ =>
        if b = true then wpAny (model prog w) A (execs body env) (KswPost h₀ L s (fun _ => news) PlatPs (fun _ => True) [Str.ofString "cleaned"] m₀ (DashOk (dashN 1000 p)) (fun c => c.p.length) Q ⟨p', t, fuel⟩) E s₂ else Q .next s₂) E { s with heap := h, toks := tk })
    (hE : PassesOwn (model prog w) A env E := by passes_own) :
    wpAny (model prog w) A (exec (.While test body [] pos) env) Q E s := by
  subst hm₀
  refine while_t (σ := PlatSt) news PlatPs [Str.ofString "cleaned"] (DashOk (dashN 1000 p)) (fun c => c.p.length) ⟨p, t0, 1000⟩ htk F N (by simp) ⟨hp, hp, rfl⟩ ?_ hE
  rintro ⟨p', t, fuel⟩ u h tk htk' ⟨h1, h2, h3⟩ F₁ N₁
  exact turn p' t fuel u h tk htk' h1 h2 h3 F₁ N₁
theorem while_trim {test : Expr} {body : List Stmt} {pos : Pos} {m₀ : Str → Option Value} {news : List (Addr × Obj)} {p : Str} {t0 : Tok} (htk : 1 ≤ s.toks) (F : Fr h₀ L s.heap m₀) (N : News h₀ L s.heap news)
    (hm₀ : ∀ q ∈ PlatPs ⟨p, t0, 1000⟩, m₀ q.1 = some q.2) (hp : p.length ≤ 1000)
    (turn : ∀ p' t fuel (u : Str → Option Value) h tk, 1 ≤ tk → p'.length ≤ 1000 → p'.length ≤ fuel → trimN fuel p' = trimN 1000 p → Fr h₀ L h (kstB (fun z => if ([] : List Str).contains z then u z else m₀ z) [(Str.ofString "platform", .str p' t)]) → News h₀ L h news →
      wpAny (model prog w) A (isTrue test env (eval test env)) (fun b s₂ =>
        if b = true then wpAny (model prog w) A (execs body env) (KswPost h₀ L s (fun _ => news) PlatPs (fun _ => True) [] m₀ (TrimOk (trimN 1000 p)) (fun c => c.p.length) Q ⟨p', t, fuel⟩) E s₂ else Q .next s₂) E { s with heap := h, toks := tk })
    (hE : PassesOwn (model prog w) A env E := by passes_own) :
    wpAny (model prog w) A (exec (.While test body [] pos) env) Q E s := by
  refine while_t (σ := PlatSt) news PlatPs [] (TrimOk (trimN 1000 p)) (fun c => c.p.length) ⟨p, t0, 1000⟩ htk F N hm₀ ⟨hp, hp, rfl⟩ ?_ hE
  rintro ⟨p', t, fuel⟩ u h tk htk' ⟨h1, h2, h3⟩ F₁ N₁
  exact turn p' t fuel u h tk htk' h1 h2 h3 F₁ N₁
end
end Mine
end Mplat1

section Mplat2
open PySem PySem.W PySem.Calls PyProof.Rows PySem.Builtin PySem.Builtin.Str
namespace Mine
theorem fill8 (w : World) : hd.heap_39 w.params = hd.heap_39 w.params ∧ PySem.Challenge.rw_mq0143_01 = PySem.Challenge.rw_mq0143_01 := by
  k_fill
  exact ⟨rfl, rfl⟩
abbrev tupObj (vs : List Value) : Obj := { cls := .type "tuple", data := .seq vs.toArray }
theorem bind_star {pA : Arg} {vs : List Value} {name qual : Str} {body : List Stmt} {scope : Scope} {doc pm cdv ct : Value} {an : Option Addr} :
   bindArgs (fnOf name qual ⟨[], [], some pA, [], [], none, []⟩ body scope .none .none doc pm an cdv ct) ⟨vs, []⟩ = (newTuple vs >>= fun d => pure [(pA.arg, d)]) := by
  cases vs with
  | nil => rfl
  | cons a r => rfl
theorem enterV {w : World} {A : Around} {s : Shared} {K : Frag} {mg mb : Str → Option Value} {p : Program} {loose : List Str} {Q E : Value → Shared → Prop} {name qual : Str} {pA : Arg} {body : List Stmt} {scope : Scope} {doc pm cdv ct oc : Value} {an od : Option Addr} {osl : Array (Option Value)} {f : Addr} {vs : List Value} (P : Addr)
    (X : K.In s.heap) (T : TopRead p loose mg mb s.heap)
    (ho : K.lookup f = some ⟨oc, od, .func (fnOf name qual ⟨[], [], some pA, [], [], none, []⟩ body scope .none .none doc pm an cdv ct), osl⟩) (hcd : codeIn K cdv qual = true) (hroom : A.depth < recursionLimit)
    (hloc : scope.names.lookup pA.arg = some .local) (hsz : vs.length ≤ sizeLine)
    (h : ∀ D L' h₁, Fr (s.heap.hide P) L' h₁ (fun y => [(pA.arg, Value.ref D)].reverse.lookup y) → News (s.heap.hide P) L' h₁ [(D, tupObj vs)] → Keep s.heap h₁ → s.heap.objs.size ≤ L' →
      wpAny (model PR w) (A.deeper (envOf qual scope L' f cdv)) (execs body (envOf qual scope L' f cdv))
        (fun fl s' => Q (match fl with | .ret v => v | _ => .none) s') (fun _ _ => False)
        { s with heap := h₁, toks := s.toks + 1 })
    (hco : scope.isCoroutine = false) (hgen : scope.isGenerator = false) (hk : scope.kind = .function)
    (hcell : ∀ x ∈ scope.names, x.2 ≠ .cell) : wpAny (model PR w) A (call (.ref f) vs) Q E s := by
  refine wpAny_call (codeAny_call_function (fd := fnOf name qual ⟨[], [], some pA, [], [], none, []⟩ body scope .none .none doc pm an cdv ct) (body := body) hroom (X _ _ ho) rfl hco hgen rfl (codeRec_of X hcd) ?_)
  rw [bind_star]
  refine wpAny_bind (wpAny_newTuple (wpAny_pure ?_) hsz)
  have kp : Keep s.heap (s.heap.push (tupObj vs)) := fun b o e => Heap.get?_push_of_some _ e
  have hz : (s.heap.push (tupObj vs)).objs.size = s.heap.objs.size + 1 := Heap.size_push ..
  refine wpAny_newFunctionEnv hcell (fun y hy => ?_) (fun h₁ hns hsb => ⟨(T.nolimit.keeps kp).fresh _ hsb, codeAny_func ?_⟩) hk
  · rw [List.mem_singleton] at hy; rw [hy]; exact hloc
  · have hk₁ : Keep (s.heap.push (tupObj vs)) h₁ := fun b o e => hsb.extBut b o (Nat.ne_of_lt (Heap.lt_size e)) (Heap.get?_push_of_some _ e)
    have hkk : Keep s.heap h₁ := kp.trans hk₁
    refine wpAny_mono (h s.heap.objs.size (s.heap.push (tupObj vs)).objs.size h₁ ⟨hns, fun b o e => hkk b o (Heap.of_hide e), by rw [Heap.hide_size, hz]; omega⟩ ?_ hkk (by rw [hz]; omega)) (fun _ _ x => x) (fun _ _ x => x.elim)
    intro q hq
    rw [List.mem_singleton] at hq
    subst hq
    refine ⟨hk₁ _ _ (Heap.get?_push_size _ rfl), by dsimp only; rw [hz]; exact Nat.ne_of_lt (Nat.lt_succ_self _), ?_⟩
    dsimp only
    cases e : (s.heap.hide P).get? s.heap.objs.size with
    | none => rfl
    | some o => exact absurd (Heap.lt_size (Heap.of_hide e)) (Nat.lt_irrefl _)
section
variable {prog : Program} {w : World} {A : Around} {E : Value → Shared → Prop} {s : Shared} {Q : Value → Shared → Prop} {h₀ : Heap} {L D : Addr} {m : Str → Option Value} {news : List (Addr × Obj)} {ps : Array Value} {vs : List Value} {xs : List Str}
theorem plat_filter {P : Addr} (F : Fr h₀ L s.heap m) (N : News h₀ L s.heap [(D, tupObj vs)]) (hP : s.heap.get? P = some (tabObj ps)) (hT : TriplesOk ps.toList) (G : AllBare s.gens) (S : StrsAre vs xs) (hl : ∀ x ∈ xs, x.length ≤ 1000)
    (hq : ∀ a s₅ ps', Fr h₀ L s₅.heap m → s₅.heap.get? P = some (tabObj ps') → TriplesOk ps'.toList → AllBare s₅.gens → s₅.os = s.os → Gen prog w A L a (xs.filter ne0).length (StripOf xs) s₅ → Q (.ref a) s₅) :
    wpAny (model prog w) A (call (.type "filter") [.builtin "len", .ref D]) (PlatPost prog w A h₀ P L m Q) E s := by
  have hD : s.heap.IsTuple D vs.toArray := ⟨_, (N _ (.head _)).1, rfl, 0, rfl⟩
  have hDs : D < s.heap.objs.size := Heap.lt_size (N _ (.head _)).1
  refine call_filter hD fun h' I hz hit ht hI hsz hk => ?_
  subst hI
  exact ⟨_, s.heap.objs.size, D, vs, xs, ps, rfl, ⟨hz, ht, 0, hit, rfl⟩, Nat.succ_ne_self _, Nat.ne_of_lt hDs, F.ns.lt, S, hl, F.keeps hk, hk _ _ hP, hT, G, hq⟩
theorem gen_plat2 {env : Env} {iter : Expr} {x : Str} {px p1 p2 p3 : Pos} {scope : Scope} {pos : Pos} {c P : Addr} {mg : Str → Option Value} {bm : Addr} {ob : Obj}
    (htk : 1 ≤ s.toks) (F0 : Fr h₀ L s.heap m) (C : CodeHd h₀ c P) (M : BMod h₀ env.globals mg bm ob) (hP0 : h₀.get? P = none) (hPL : P < L) (hlim : h₀.NoLimit) (hcode : env.code = .ref c)
    (hh : A.handled = none) (hco : scope.isCoroutine = false) (hclos : closureFor scope env = pure []) (hcell : ∀ y ∈ scope.names, y.2 ≠ .cell) (h0 : scope.names.lookup (".0" : Str) = some NameKind.local)
    (hx : scope.names.lookup x = some .local) (hkind : scope.kind = .function) (hroom : A.depth < recursionLimit) (hdb : (x == ("__debug__" : Str)) = false)
    (hbase : ∀ env', attributeBase (.Name x p1) (Str.ofString "strip") env' (eval (.Name x p1) env') = eval (.Name x p1) env') (hline : (p2.endLine == p3.line) = true)
    (hs : ∀ x, genFold iter env x = pure x)
    (h : wpAny (model prog w) A (eval iter env) (PlatPost prog w A h₀ P L m fun v s' => 1 ≤ s'.toks → Q v s') E s) :
    wpAny (model prog w) A (eval (.GeneratorExp (.Call (.Attribute (.Name x p1) (Str.ofString "strip") p2) [] [] p3) [⟨.Name x px, iter, [], 0⟩] scope pos) env) Q E s :=
  wpAny_with_toks htk (wpAny_mono (gen_plat C M hP0 hPL hlim hcode hh hco hclos hcell h0 hx hkind hroom hdb hbase hline h hs) (fun _ _ x => x) fun _ _ x _ => x)
theorem join_plat2 {sep : Str} {t : Tok} {a P : Addr} (htk : 1 ≤ s.toks) (Fh : Fr h₀ L s.heap m) (hP : s.heap.get? P = some (tabObj ps)) (hP0 : h₀.get? P = none) (hPL : P < L) (G : AllBare s.gens) (X : Gen prog w A L a (xs.filter ne0).length (StripOf xs) s)
    (hok : JoinOk sep ((xs.filter ne0).map Txt.strip) = true) (hsz : xs.length ≤ 1000)
    (hQ : ∀ s' t', 1 ≤ s'.toks → Fr h₀ L s'.heap m → News h₀ L s'.heap [(P, tabObj ps)] → AllBare s'.gens → s'.os = s.os → Q (.str (Txt.join sep ((xs.filter ne0).map Txt.strip)) t') s') :
    wpAny (model prog w) A (call (.builtin "str.join") [.str sep t, .ref a]) Q E s := by
  refine wpAny_with_toks htk (join_plat Fh hP hPL G X hok (fun s' t' F' hP' G' ho' htk' => hQ s' t' htk' F' (fun q hq => ?_) G' ho') ?_)
  · rw [List.mem_singleton] at hq; subst hq; exact ⟨hP', Nat.ne_of_lt hPL, hP0⟩
  · rw [sizeLine_eq]; have := List.length_filter_le ne0 xs; omega
end
theorem noTab {K : Frag} {h : Heap} {P : Addr} {ps : Array Value} (X : K.In h) (hP : h.get? P = some (tabObj ps)) (hK : noTabs K = true) : K.In (h.hide P) := fun a o e => by
  rw [Heap.hide_ne _ (fun ea => ?_)]
  · exact X a o e
  · have h1 := X a o e
    rw [ea, hP] at h1
    have h2 := mem_of_lookupK e
    unfold noTabs at hK
    have h3 := List.all_eq_true.mp hK _ h2
    rw [← Option.some.inj h1] at h3
    exact absurd (show false = true from h3) Bool.false_ne_true
theorem hide_top {h : Heap} {mg mb : Str → Option Value} {p : Program} {loose : List Str} (T : TopRead p loose mg mb h) : TopRead p loose mg mb (h.hide 23) := by
  have key : ∀ (a : Addr) (m : Str → Option Value), a ≠ 23 → h.Ns a m → (h.hide 23).Ns a m := fun a m ha hn => hn.at' fun o e => by rw [Heap.hide_ne _ ha]; exact e
  obtain ⟨mc, h1, h2⟩ := T.nolimit
  exact ⟨key _ _ (by decide) T.g, key _ _ (by decide) T.b, ⟨mc, key _ _ (by decide) h1, h2⟩, T.builtins, T.free⟩
theorem hide_bmod {h : Heap} {mg : Str → Option Value} {bm : Addr} {ob : Obj} {ps : Array Value} (M : BMod h mainGlobals mg bm ob) (hP : h.get? 23 = some (tabObj ps)) : BMod (h.hide 23) mainGlobals mg bm ob := by
  have hb : bm ≠ 23 := fun e => by have h1 := M.obj; rw [e, hP] at h1; have h2 := M.cls; rw [← Option.some.inj h1] at h2; cases h2
  exact ⟨M.ns.at' fun o e => by rw [Heap.hide_ne _ (by decide)]; exact e, M.name, M.ne, by rw [Heap.hide_ne _ hb]; exact M.obj, M.cls, M.dict, M.data⟩
theorem hide_code {h : Heap} (C : CodeHd h 27 23) : CodeHd (h.hide 23) 27 23 := by
  obtain ⟨o, vs, file, tf, flags, tg, inF, text, tt, e1, r⟩ := C
  exact ⟨o, vs, file, tf, flags, tg, inF, text, tt, by rw [Heap.hide_ne _ (by decide)]; exact e1, r⟩
end Mine
end Mplat2

section Mplat
open PySem PySem.W PySem.Calls PyProof.Rows PySem.Builtin PySem.Builtin.Str PyProof.Rows.LCg PyProof.Rows.LCt
namespace Mine
theorem fill9 (w : World) : hd.heap_39 w.params = hd.heap_39 w.params ∧ PySem.Challenge.rw_mq0143_01 = PySem.Challenge.rw_mq0143_01 := by
  k_fill
  exact ⟨rfl, rfl⟩
theorem ld_builtE {M : Model} {A : Around} {E : Value → Shared → Prop} {s : Shared} {K : Frag} {h₀ : Heap} {L : Addr} {m mg mb : Str → Option Value} {env : Env} {p : Program} {loose : List Str} {x : Str} {pos : Pos} {v : Value} {Q : Value → Shared → Prop}
    (F : Fr h₀ L s.heap m) (X : K.In h₀) (T : TopRead p loose mg mb h₀) (e : nsIn K mainGlobals x = some none) (hv : bootBuiltins x = some v) (hn : x ≠ "__name__") (h : Q v s) (hg : env.globals = mainGlobals := by rfl) (hb : env.builtins = builtinsNs := by rfl)
    (hk : env.scope.kind = .function := by rfl) (hx : env.kindOf x = some .globalImplicit := by rfl) (hd : (x == ("__debug__" : Str)) = false := by decide) :
    wpAny M A (eval (.Name x pos) env) Q E s :=
  Name_function_global hk hx (loadGlobal_builtin (env := env) (show s.heap.Ns env.globals mg from hg ▸ (T.keeps F.keep).g) (mg_none_of X T.g e) (show s.heap.Ns env.builtins mb from hb ▸ (T.keeps F.keep).b) ((T.builtins x hn).trans hv) h) hd
theorem gen_toks {M : Model} {A : Around} {α : Type} {t : Sem α} {Q : α → Shared → Prop} {E : Value → Shared → Prop} {hp : Heap} {g : Array GenState} {d : _} {o : _} {X : Nat} (h1 : 1 ≤ X) (h : ∀ tk, 1 ≤ tk → wpAny M A t Q E (Shared.mk hp g d tk o)) : wpAny M A t Q E (Shared.mk hp g d X o) := h X h1
theorem plat_end {Q : Value → Shared → Prop} {a b : Str} {t : Tok} {s : Shared} (h : Q (.str b t) s) (e : b = a) : Q (.str a t) s := e ▸ h
theorem plat_fin {xs : List Str} {p q r : Str} {fuel : Nat} (he : (Txt.replace p (Str.ofString "--") (Str.ofString "-") == p) = true) (h3 : dashN fuel p = dashN 1000 r) (h2 : p.length ≤ fuel) (h4 : trimN 1000 p = q) (hr : repsF (joinedF xs) = r) : platF xs = q := by
  rw [platF, hr, dash_end h2 h3 he]; exact h4
theorem fr_ext {h : Heap} {L : Addr} {h' : Heap} {m : Str → Option Value} (F : Fr (h.hide 23) L h' m) : Heap.ExtBut 23 h h' := fun b o hb e => F.keep b o (by rw [Heap.hide_ne _ hb]; exact e)
local macro_rules | `(tactic| walk_at $s:str) => `(tactic| k_extra $s)
set_option maxRecDepth 100000 in
set_option maxHeartbeats 1500000 in
theorem platform_spec {w : World} {mg mb : Str → Option Value} {e1 : Env} {s : Shared} {vs : List Value} {xs : List Str} {ps : Array Value} {bm : Addr} {ob : Obj} {Q E : Value → Shared → Prop}
    (X : (hd.heap_39 w.params).In s.heap) (T : TR mg mb s.heap) (M : BMod s.heap mainGlobals mg bm ob) (C : CodeHd s.heap 27 23) (hP : s.heap.get? 23 = some (tabObj ps)) (ht : TriplesOk ps.toList) (G : AllBare s.gens)
    (S : StrsAre vs xs) (hl : ∀ x ∈ xs, x.length ≤ 1000) (hn : xs.length ≤ 1000) (hj : JoinOk (Str.ofString "-") ((xs.filter ne0).map Txt.strip) = true) (hjl : (Txt.join (Str.ofString "-") ((xs.filter ne0).map Txt.strip)).length ≤ 1000)
    (h : ∀ s' t ps', Heap.ExtBut 23 s.heap s'.heap → s'.heap.get? 23 = some (tabObj ps') → TriplesOk ps'.toList → AllBare s'.gens → s'.os = s.os → Q (.str (platF xs) t) s') :
    wpAny (model PR w) (callerA.deeper e1) (call (.ref 28) vs) Q E s := by
  k_with_none
  k_with "eval Name" => (k_here; (with_reducible show wpAny _ _ (eval (Expr.Name (Str.ofString "filter") _) _) _ _ _); k_dflt (refine ld_builtE (by k_asm) (by k_asm) (by k_asm) (by k_is) PyProof.Rows.boot_filter (by decide) ?_))
  k_with "eval Name" => (k_here; (with_reducible show wpAny _ _ (eval (Expr.Name (Str.ofString "len") _) _) _ _ _); k_dflt (refine ld_builtE (by k_asm) (by k_asm) (by k_asm) (by k_is) (by boot_by_name) (by decide) ?_))
  k_with "my one" => ((try dsimp only); first | assumption | omega | (show @Ne Nat _ _; omega))
  k_with "my toks" => (k_here; (try dsimp only); (first | (with_reducible show wpAny _ _ _ _ _ (Shared.mk _ _ _ (_ + _) _)) | (with_reducible show wpAny _ _ _ _ _ (Shared.mk _ _ _ (Shared.toks _) _))); (refine' gen_toks (by walk_at "my one") ?_; intro tk' htk'))
  k_with "execs cons" => walk_at "my toks"
  k_with "execs nil" => walk_at "my toks"
  k_with "eval GeneratorExp" => (k_here; k_dflt (refine' gen_plat2 (by walk_at "my one") (by k_asm) (by assumption) (by assumption) (by assumption) (by assumption) (by assumption) (by rfl) (by rfl) (by rfl) (by rfl) (by decide) (by decide +kernel) (by decide +kernel) (by rfl) (by k_room) (by decide +kernel) (by (intro _; rfl)) (by rfl) (by (intro _; rfl)) ?_; k_whole))
  k_with "call type:filter" => (k_here; k_dflt (refine' plat_filter (by k_asm) (by k_asm) (by assumption) (by assumption) (by assumption) (by assumption) (by assumption) ?_; k_whole); (intro a' s5' ps' F' hP' hT' G' hos' X' htk'); (try k_sweep))
  k_with "call builtin:str.join" => (k_here; k_dflt (refine' join_plat2 (by walk_at "my one") (by k_asm) (by assumption) (by assumption) (by assumption) (by assumption) (by assumption) (by assumption) (by assumption) ?_; k_whole); (intro s6' t' htk' F' N' G' hos'); (try k_sweep))
  k_with "call builtin:str.replace" => (k_here; k_dflt (refine' rep_call (by walk_at "my one") (by walk_at "my one") (by walk_at "my one") (by walk_at "my one") (by decide +kernel) (by assumption) (by decide +kernel) (by decide +kernel) ?_; k_whole); (intro t' k' htk' hlen'); (try k_sweep))
  k_with "exec While Constant cons nil" => (k_here; k_dflt (focus (refine' while_dash (by walk_at "my one") (by k_asm) (by k_asm) (by rfl) (by assumption) ?_ (by passes_own); (intro p' t' fuel' u' h' tk' htk' w1' w2' w3' F' N'); (try k_sweep); (try k_fold))))
  k_with "exec While BoolOp cons nil" => (k_here; k_dflt (focus (refine' while_trim (by walk_at "my one") (by k_asm) (by k_asm) (by kst_all) (by assumption) ?_ (by passes_own); (intro p' t' fuel' u' h' tk' htk' w1' w2' w3' F' N'); (try k_sweep); (try k_fold))))
  k_with "my same" => (intro z h2 h3; (simp only [List.forall_mem_cons, List.not_mem_nil, false_implies, implies_true, and_true, ne_eq] at h2); (try (have h4 : ¬ z = Str.ofString "cleaned" := (by simpa using h3); simp [kstB, Between, h2, h4]; done)); (try (simp [kstB, Between, h2]; done)))
  k_with "KswEnd" => fail "left"
  k_with "KswPost" => (dsimp only [KswPost])
  refine' enterV 23 X T ?k6 ?k7 ?k8 ?k9 ?kB ?_ ?c2 ?c3 ?c4 ?c5
  (case k6 => k_is); (case k7 => k_is); (case k8 => k_room); (case k9 => decide +kernel); (case kB => (rw [S.length, sizeLine_eq]; omega)); (case c5 => decide); (case c2 => exact rfl); (case c3 => exact rfl); (case c4 => exact rfl)
  k_whole
  intro D' L' h' F' N' hk' hL'
  have Xb := noTab X hP rfl
  have Tb : TR mg mb (s.heap.hide 23) := hide_top T
  have Mb := hide_bmod M hP
  have Cb := hide_code C
  have hb : (s.heap.hide 23).get? 23 = none := Heap.hide_self _ _
  have hlimb : (s.heap.hide 23).NoLimit := Tb.nolimit
  have hPL : 23 < L' := Nat.lt_of_lt_of_le (Heap.lt_size hP) hL'
  have hP' : h'.get? 23 = some (tabObj ps) := hk' _ _ hP
  clear X T M C hlimb
  have hlimb : (s.heap.hide 23).NoLimit := Tb.nolimit
  try dsimp only
  try k_fold
  k_steps
  all_goals (try dsimp only)
  · rename News _ _ _ _ => nE'
    refine' ksw_end ⟨_, _, _⟩ ?q0 nE' ?q1 trivial ?q3 ?q4 ?q5 ?q6
    (case q0 => k_asm)
    (case q3 => kst_all)
    (case q1 => exact fun _ h9 => h9)
    (case q4 => walk_at "my same")
    (case q5 =>
      (refine' trim_n1 ?a ?b ?c ?d ?e)
      (case e => assumption)
      (case d => assumption)
      (case a => assumption)
      (case c => assumption)
      (case b => assumption))
    (case q6 => exact trim_n2 (by assumption))
  · rename News _ _ _ _ => qN
    have q := qN _ List.mem_cons_self
    refine plat_end (h _ _ _ (fr_ext (by assumption)) q.1 (by assumption) (by assumption) (Eq.trans (by assumption) (by assumption))) ?_
    refine' plat_fin ?f1 ?f2 ?f3 ?f4 ?f5
    (case f1 => assumption)
    (case f2 => assumption)
    (case f3 => assumption)
    (case f4 => exact trim_end2 (by assumption) (by assumption))
    (case f5 => rfl)
  · rename News _ _ _ _ => qN
    have q := qN _ List.mem_cons_self
    refine plat_end (h _ _ _ (fr_ext (by assumption)) q.1 (by assumption) (by assumption) (Eq.trans (by assumption) (by assumption))) ?_
    refine' plat_fin ?f1 ?f2 ?f3 ?f4 ?f5
    (case f1 => assumption)
    (case f2 => assumption)
    (case f3 => assumption)
    (case f4 => exact trim_end1 (by assumption) (by assumption))
    (case f5 => rfl)
  · rename News _ _ _ _ => nE'
    refine' ksw_end ⟨_, _, _⟩ ?q0 nE' ?q1 trivial ?q3 ?q4 ?q5 ?q6
    (case q0 => k_asm)
    (case q3 => kst_all)
    (case q1 => exact fun _ h9 => h9)
    (case q4 => walk_at "my same")
    (case q5 =>
      (refine' dash_n1 ?a ?b ?c ?d)
      (case d => assumption)
      (case a => assumption)
      (case c => assumption)
      (case b => assumption))
    (case q6 => exact dash_n2 (by assumption))
end Mine
end Mplat

section Mlaw0
open PySem PySem.W PySem.Calls PyProof.Rows PySem.Builtin PySem.Builtin.Str
namespace Mine
structure HalfOk (xs : List Str) : Prop where
  each : ∀ t ∈ xs, t.length ≤ 150
  each2 : ∀ t ∈ xs, t.length ≤ 1000
  count : xs.length ≤ 12
  count2 : xs.length ≤ 1000
  jok : JoinOk (Str.ofString "-") ((xs.filter ne0).map Txt.strip) = true
  jlen : (Txt.join (Str.ofString "-") ((xs.filter ne0).map Txt.strip)).length ≤ 1000
  plen : (platF xs).length ≤ 1000
  parts : (partsF xs).length ≤ 1000
  pjok : JoinOk (Str.ofString "-") (partsF xs) = true
  eq : platF xs = Txt.join (Str.ofString "-") (partsF xs)
structure PlainOk (row masked : List Str) : Prop where
  okR : HalfOk row
  okM : HalfOk masked
  eq : matchF (platF masked) (platF row) = fitsL (partsF row) (partsF masked) [0]
inductive Cut : List (Addr × Obj) → List (Addr × Obj) → Prop
  | nil : Cut [] []
  | keep {p : Addr × Obj} {r r' : List (Addr × Obj)} : p.2.cls ≠ .none → Cut r r' → Cut (p :: r) (p :: r')
  | skip {p : Addr × Obj} {r r' : List (Addr × Obj)} : Cut r r' → Cut (p :: r) r'
theorem Cut.mem {r r' : List (Addr × Obj)} (c : Cut r r') : ∀ p ∈ r', p ∈ r ∧ p.2.cls ≠ .none := by
  induction c with
  | nil => intro p hp; cases hp
  | keep h _ ih =>
    intro p hp
    rcases List.mem_cons.mp hp with rfl | hp
    · exact ⟨List.mem_cons_self, h⟩
    · exact ⟨List.mem_cons_of_mem _ (ih p hp).1, (ih p hp).2⟩
  | skip _ ih => intro p hp; exact ⟨List.mem_cons_of_mem _ (ih p hp).1, (ih p hp).2⟩
section
variable {w : World} {mg mb m : Str → Option Value} {e1 : Env} {s : Shared} {h₀ : Heap} {L : Addr} {news : List (Addr × Obj)} {Q E : Value → Shared → Prop}
theorem news_keep {h h' : Heap} (N : News h₀ L h news) (k : Keep h h') : News h₀ L h' news := fun p hp => ⟨k _ _ (N p hp).1, (N p hp).2⟩
theorem news_fresh {h h' : Heap} {a : Addr} {o : Obj} (F : Fr h₀ L h m) (e : h'.get? a = some o) (n : h.get? a = none) : h'.get? a = some o ∧ a ≠ L ∧ h₀.get? a = none := by
  refine ⟨e, fun ea => ?_, ?_⟩
  · obtain ⟨_, _, _, hL, _⟩ := F.ns
    rw [ea, hL] at n; cases n
  · cases h1 : h₀.get? a with
    | none => rfl
    | some o' => rw [F.keep _ _ h1] at n; cases n
theorem rows_call {l : Addr} {vs : List Value} {ns : List Int} (F : Fr h₀ L s.heap m) (N : News h₀ L s.heap news) (X : (hd.heap_39 w.params).In h₀) (T : TR mg mb h₀) (hl : s.heap.IsList l vs.toArray) (hi : IntsAre vs ns) (hlen : ns.length ≤ 12)
    (h : ∀ h' tk at' (lr lm : Addr) (vr vm : List Value) (nr nm : Nat), Fr h₀ L h' m → News h₀ L h' ((at', tupObj [.ref lr, .ref lm]) :: (lr, listOf vr.toArray nr) :: (lm, listOf vm.toArray nm) :: news) → StrsAre vr (rowsF ns).1 → StrsAre vm (rowsF ns).2.1 → Q (.ref at') { s with heap := h', toks := tk }) :
    wpAny (model PR w) (callerA.deeper e1) (call (.ref 42) [.ref l]) Q E s :=
  rows_spec (X.keeps F.keep) (T.keeps F.keep) hl hi hlen fun h' tk at' lr lm vr vm nr nm k e1 e2 e3 n1 n2 n3 S1 S2 => h h' tk at' lr lm vr vm nr nm (F.keeps k) (fun p hp => by
    rcases List.mem_cons.mp hp with rfl | hp
    · exact news_fresh F e1 n1
    · rcases List.mem_cons.mp hp with rfl | hp
      · exact news_fresh F e2 n2
      · rcases List.mem_cons.mp hp with rfl | hp
        · exact news_fresh F e3 n3
        · exact news_keep N k p hp) S1 S2
theorem parts_call {l : Addr} {vs : List Value} {xs : List Str} (F : Fr h₀ L s.heap m) (N : News h₀ L s.heap news) (X : (hd.heap_39 w.params).In h₀) (T : TR mg mb h₀) (hl : s.heap.IsList l vs.toArray) (hi : StrsAre vs xs) (hlen : ∀ t ∈ xs, t.length ≤ 150) (hn : xs.length ≤ 12)
    (h : ∀ h' tk (D : Addr) (vs : List Value) (n : Nat), Fr h₀ L h' m → News h₀ L h' ((D, listOf vs.toArray n) :: news) → StrsAre vs (partsF xs) → Q (.ref D) { s with heap := h', toks := tk }) :
    wpAny (model PR w) (callerA.deeper e1) (call (.ref 47) [.ref l]) Q E s :=
  parts_spec (X.keeps F.keep) (T.keeps F.keep) hl hi hlen hn fun h' tk D vs n k e1 n1 S1 => h h' tk D vs n (F.keeps k) (fun p hp => by
    rcases List.mem_cons.mp hp with rfl | hp
    · exact news_fresh F e1 n1
    · exact news_keep N k p hp) S1
theorem plat_call {vs : List Value} {xs : List Str} {ps : Array Value} {bm : Addr} {ob : Obj} {news2 : List (Addr × Obj)} (F : Fr h₀ L s.heap m) (N : News h₀ L s.heap news) (X : (hd.heap_39 w.params).In h₀) (T : TR mg mb h₀) (M : BMod h₀ mainGlobals mg bm ob) (C : CodeHd h₀ 27 23) (h0 : h₀.get? 23 = none)
    (hP : (23, tabObj ps) ∈ news) (ht : TriplesOk ps.toList) (G : AllBare s.gens) (hc : Cut news news2) (S : StrsAre vs xs) (hl : ∀ x ∈ xs, x.length ≤ 1000) (hn : xs.length ≤ 1000) (hj : JoinOk (Str.ofString "-") ((xs.filter ne0).map Txt.strip) = true) (hjl : (Txt.join (Str.ofString "-") ((xs.filter ne0).map Txt.strip)).length ≤ 1000)
    (h : ∀ s' t ps', Fr h₀ L s'.heap m → News h₀ L s'.heap ((23, tabObj ps') :: news2) → TriplesOk ps'.toList → AllBare s'.gens → s'.os = s.os → Q (.str (platF xs) t) s') :
    wpAny (model PR w) (callerA.deeper e1) (call (.ref 28) vs) Q E s := by
  have hP1 := N _ hP
  refine platform_spec (X.keeps F.keep) (T.keeps F.keep) (M.keeps F.keep) (C.keeps F.keep) hP1.1 ht G S hl hn hj hjl fun s' t ps' hx e1 t1 g1 o1 => h s' t ps' ⟨F.ns.at' fun o e => hx _ _ (fun e2 => hP1.2.1 e2.symm) e, fun b o e => hx b o (fun e2 => by rw [e2, h0] at e; cases e) (F.keep b o e), F.above⟩ (fun p hp => ?_) t1 g1 o1
  rcases List.mem_cons.mp hp with rfl | hp
  · exact ⟨e1, hP1.2⟩
  · obtain ⟨m1, m2⟩ := hc.mem p hp
    have n1 := N p m1
    refine ⟨hx _ _ (fun e2 => ?_) n1.1, n1.2⟩
    have n2 := n1.1
    rw [e2, hP1.1] at n2
    rw [← Option.some.inj n2] at m2
    exact m2 rfl
theorem match_call {want got : Str} {t u : Tok} (F : Fr h₀ L s.heap m) (N : News h₀ L s.heap news) (X : (hd.heap_39 w.params).In h₀) (T : TR mg mb h₀) (h1 : want.length ≤ 1000) (h2 : got.length ≤ 1000)
    (h : ∀ h' tk, Fr h₀ L h' m → News h₀ L h' news → Q (.bool (matchF want got)) { s with heap := h', toks := tk }) :
    wpAny (model PR w) (callerA.deeper e1) (call (.ref 21) [.str want t, .str got u]) Q E s :=
  match_spec (X.keeps F.keep) (T.keeps F.keep) h1 h2 fun h' tk k => h h' tk (F.keeps k) (news_keep N k)
theorem fits_call {lm lp : Addr} {vm vp : List Value} {marks parts : List Str} (F : Fr h₀ L s.heap m) (N : News h₀ L s.heap news) (X : (hd.heap_39 w.params).In h₀) (T : TR mg mb h₀) (hlm : s.heap.IsList lm vm.toArray) (hlp : s.heap.IsList lp vp.toArray) (Sm : StrsAre vm marks) (Sp : StrsAre vp parts) (hbm : marks.length ≤ 1000) (hbp : parts.length ≤ 1000)
    (h : ∀ h' tk, Fr h₀ L h' m → News h₀ L h' news → Q (.bool (fitsL parts marks [0])) { s with heap := h', toks := tk }) :
    wpAny (model PR w) (callerA.deeper e1) (call (.ref 52) [.ref lm, .ref lp]) Q E s :=
  fits_spec (X.keeps F.keep) (T.keeps F.keep) hlm hlp Sm Sp hbm hbp fun h' tk k => h h' tk (F.keeps k) (news_keep N k)
end
end Mine
end Mlaw0

section Mp1
namespace Mine
/-! Plain lists of numbers: joins, cuts at a text, fields between hyphens. -/
noncomputable def jn (s : List Nat) : List (List Nat) → List Nat
  | [] => []
  | [x] => x
  | x :: y :: r => x ++ s ++ jn s (y :: r)
theorem jn_cons {s x : List Nat} {r : List (List Nat)} (h : r ≠ []) : jn s (x :: r) = x ++ s ++ jn s r := by
  cases r with
  | nil => exact absurd rfl h
  | cons y r => rfl
theorem jn_nil_cons (x : List Nat) (r : List (List Nat)) : jn [] (x :: r) = x ++ jn [] r := by
  cases r with
  | nil => simp [jn]
  | cons y r => simp [jn]
inductive Cuts (y : List Nat) : List Nat → List (List Nat) → Prop
  | last {x : List Nat} : (∀ k, ¬ y <+: x.drop k) → Cuts y x [x]
  | cons {p r : List Nat} {ps : List (List Nat)} : (∀ k, k < p.length → ¬ y <+: (p ++ (y ++ r)).drop k) → Cuts y r ps → Cuts y (p ++ (y ++ r)) (p :: ps)
theorem Cuts.ne {y x : List Nat} {ps : List (List Nat)} (c : Cuts y x ps) : ps ≠ [] := by
  cases c <;> simp
theorem Cuts.join {y x : List Nat} {ps : List (List Nat)} (c : Cuts y x ps) : jn y ps = x := by
  induction c with
  | last _ => rfl
  | cons _ c ih => rw [jn_cons c.ne, ih]; simp
theorem drop_app_len (p q : List Nat) : (p ++ q).drop p.length = q := by simp
theorem Cuts.unique {y x : List Nat} {ps : List (List Nat)} (c : Cuts y x ps) : ∀ {x' : List Nat} {qs : List (List Nat)}, Cuts y x' qs → x = x' → ps = qs := by
  induction c with
  | last h =>
    intro x' qs d e
    cases d with
    | last _ => rw [e]
    | @cons p r qs h2 d => exact absurd (by rw [e, drop_app_len]; exact List.prefix_append _ _) (h p.length)
  | @cons p r ps h c ih =>
    intro x' qs d e
    cases d with
    | last h2 => exact absurd (by rw [← e, drop_app_len]; exact List.prefix_append _ _) (h2 p.length)
    | @cons p' r' qs h2 d =>
      have e1 : p.length = p'.length := by
        rcases Nat.lt_trichotomy p.length p'.length with lt | e1 | lt
        · exact absurd (by rw [← e, drop_app_len]; exact List.prefix_append _ _) (h2 p.length lt)
        · exact e1
        · exact absurd (by rw [e, drop_app_len]; exact List.prefix_append _ _) (h p'.length lt)
      obtain ⟨e2, e3⟩ := List.append_inj e e1
      subst e2
      rw [ih d (List.append_cancel_left e3)]
/-- one sign for another -/
noncomputable def sw (c d a : Nat) : Nat := if a = c then d else a
theorem sw_none {c d : Nat} {x : List Nat} (h : c ∉ x) : x.map (sw c d) = x := by
  induction x with
  | nil => rfl
  | cons a r ih =>
    rw [List.map_cons, ih (fun m => h (List.mem_cons_of_mem _ m)), sw, if_neg (fun e => h (by rw [e]; exact List.mem_cons_self))]
theorem pre_one {c : Nat} {x : List Nat} : ([c] <+: x) ↔ x.head? = some c := by
  cases x with
  | nil => simp
  | cons a r => simp [List.cons_prefix_cons, eq_comm]
theorem cuts_one_free {c : Nat} {x : List Nat} (h : ∀ k, k < x.length → ¬ [c] <+: x.drop k) : c ∉ x := by
  intro m
  obtain ⟨j, hj, e⟩ := List.getElem_of_mem m
  refine h j hj ?_
  rw [pre_one, List.head?_drop, List.getElem?_eq_getElem hj, e]
theorem cuts_sw {c d : Nat} {x : List Nat} {ps : List (List Nat)} (k : Cuts [c] x ps) : jn [d] ps = x.map (sw c d) := by
  induction k with
  | last h => exact (sw_none (cuts_one_free fun k _ => h k)).symm
  | @cons p r ps h k ih =>
    rw [jn_cons k.ne, ih]
    have hp : c ∉ p := cuts_one_free fun j hj hpre => h j hj (by
      rw [List.drop_append_of_le_length (Nat.le_of_lt hj)]
      exact hpre.trans (List.prefix_append _ _))
    simp [sw_none hp, sw]
/-- a text without the word y, from the left -/
noncomputable def del (y : List Nat) : Nat → List Nat → List Nat
  | _, [] => []
  | k + 1, _ :: r => del y k r
  | 0, c :: r => if y.isPrefixOf (c :: r) = true then del y (y.length - 1) r else c :: del y 0 r
theorem del_drop (y : List Nat) : ∀ (k : Nat) (x : List Nat), del y k x = del y 0 (x.drop k)
  | 0, x => rfl
  | k + 1, [] => by simp [del]
  | k + 1, c :: r => by rw [del, del_drop y k r]; rfl
theorem del_yes {y x : List Nat} (hy : y ≠ []) (h : y <+: x) : del y 0 x = del y 0 (x.drop y.length) := by
  cases x with
  | nil => exact absurd (List.prefix_nil.mp h) hy
  | cons c r =>
    rw [del, if_pos (List.isPrefixOf_iff_prefix.mpr h), del_drop]
    obtain ⟨n, e⟩ : ∃ n, y.length = n + 1 := ⟨y.length - 1, by have := List.length_pos_iff.mpr hy; omega⟩
    rw [e]; rfl
theorem del_no {y : List Nat} {c : Nat} {r : List Nat} (h : ¬ y <+: (c :: r)) : del y 0 (c :: r) = c :: del y 0 r := by
  rw [del, if_neg (fun e => h (List.isPrefixOf_iff_prefix.mp e))]
theorem del_none {y : List Nat} : ∀ {x : List Nat}, (∀ k, ¬ y <+: x.drop k) → del y 0 x = x
  | [], _ => rfl
  | c :: r, h => by rw [del_no (h 0), del_none (fun k => h (k + 1))]
theorem del_pre {y : List Nat} (q : List Nat) : ∀ (p : List Nat), (∀ k, k < p.length → ¬ y <+: (p ++ q).drop k) → del y 0 (p ++ q) = p ++ del y 0 q
  | [], _ => rfl
  | c :: p, h => by
    have h0 : ¬ y <+: c :: (p ++ q) := h 0 (by simp)
    rw [List.cons_append, del_no h0, del_pre q p (fun k hk => h (k + 1) (by simpa using hk))]
    rfl
theorem cuts_del {y x : List Nat} {ps : List (List Nat)} (hy : y ≠ []) (k : Cuts y x ps) : jn [] ps = del y 0 x := by
  induction k with
  | last h => exact (del_none h).symm
  | @cons p r ps h k ih =>
    rw [jn_nil_cons, ih, del_pre _ p h, del_yes hy (List.prefix_append _ _), drop_app_len]
theorem pre_short {y : List Nat} {z : Nat} (hz : z ∉ y) : ∀ {a b : List Nat}, y <+: a ++ z :: b → y <+: a := by
  induction y with
  | nil => intro a b _; exact List.nil_prefix
  | cons u y ih =>
    intro a b h
    cases a with
    | nil =>
      rw [List.nil_append, List.cons_prefix_cons] at h
      exact absurd (by rw [h.1]; exact List.mem_cons_self) hz
    | cons v a =>
      rw [List.cons_append, List.cons_prefix_cons] at h
      rw [List.cons_prefix_cons]
      exact ⟨h.1, ih (fun m => hz (List.mem_cons_of_mem _ m)) h.2⟩
theorem del_hyph {y : List Nat} {z : Nat} (hy : y ≠ []) (hz : z ∉ y) : ∀ (n : Nat) (a b : List Nat), a.length ≤ n → del y 0 (a ++ z :: b) = del y 0 a ++ z :: del y 0 b
  | _, [], b, _ => by
    rw [List.nil_append, del_no (fun h => by have := pre_short hz (a := []) h; exact hy (List.prefix_nil.mp this))]
    rfl
  | 0, c :: a, b, h => by simp at h
  | n + 1, c :: a, b, h => by
    have hl := List.length_pos_iff.mpr hy
    by_cases hp : y <+: c :: a
    · have hp2 : y <+: (c :: a) ++ z :: b := hp.trans (List.prefix_append _ _)
      rw [del_yes hy hp2, del_yes hy hp, List.drop_append_of_le_length hp.length_le]
      exact del_hyph hy hz n _ b (by simp at h ⊢; omega)
    · have h0 : ¬ y <+: c :: (a ++ z :: b) := fun q => hp (pre_short hz (a := c :: a) q)
      rw [del_no hp, List.cons_append, del_no h0, del_hyph hy hz n a b (by simpa using h)]
      rfl
/-- the fields between the hyphens -/
noncomputable def sp : List Nat → List (List Nat)
  | [] => [[]]
  | c :: r => if c = 45 then [] :: sp r else (c :: (sp r).headD []) :: (sp r).tail
theorem sp_ne (x : List Nat) : sp x ≠ [] := by
  cases x with
  | nil => simp [sp]
  | cons c r => unfold sp; split <;> simp
theorem headD_tail {α : Type} {l : List α} {d : α} (h : l ≠ []) : l.headD d :: l.tail = l := by
  cases l with
  | nil => exact absurd rfl h
  | cons a r => rfl
theorem sp_join (x : List Nat) : jn [45] (sp x) = x := by
  induction x with
  | nil => rfl
  | cons c r ih =>
    unfold sp
    split
    · rename_i h; rw [jn_cons (sp_ne r), ih, h]; rfl
    · have e := headD_tail (d := ([] : List Nat)) (sp_ne r)
      generalize (sp r).headD [] = a at e ⊢
      generalize (sp r).tail = t at e ⊢
      rw [← e] at ih
      cases t with
      | nil => simp [jn] at ih ⊢; exact ih
      | cons b t => simp only [jn] at ih ⊢; rw [← ih]; simp
theorem sp_free (x : List Nat) : ∀ f ∈ sp x, 45 ∉ f := by
  induction x with
  | nil => intro f hf; simp [sp] at hf; simp [hf]
  | cons c r ih =>
    unfold sp
    split
    · intro f hf
      rcases List.mem_cons.mp hf with rfl | hf
      · simp
      · exact ih f hf
    · rename_i h
      intro f hf
      rcases List.mem_cons.mp hf with rfl | hf
      · intro m
        rcases List.mem_cons.mp m with e | m
        · exact h e.symm
        · have e := headD_tail (d := ([] : List Nat)) (sp_ne r)
          exact ih _ (by rw [← e]; exact List.mem_cons_self) m
      · exact ih f (List.mem_of_mem_tail hf)
theorem sp_app (a b : List Nat) : sp (a ++ 45 :: b) = sp a ++ sp b := by
  induction a with
  | nil => simp [sp]
  | cons c r ih =>
    rw [List.cons_append, sp, sp, ih]
    split
    · simp
    · have e := headD_tail (d := ([] : List Nat)) (sp_ne r)
      rw [← e]; simp
theorem sp_one {f : List Nat} (h : 45 ∉ f) : sp f = [f] := by
  induction f with
  | nil => rfl
  | cons c r ih =>
    rw [sp, ih (fun m => h (List.mem_cons_of_mem _ m)), if_neg (fun e => h (by rw [e]; exact List.mem_cons_self))]
    rfl
theorem sp_jn : ∀ {fs : List (List Nat)}, fs ≠ [] → (∀ f ∈ fs, 45 ∉ f) → sp (jn [45] fs) = fs
  | [], h, _ => absurd rfl h
  | [f], _, h => sp_one (h f List.mem_cons_self)
  | f :: g :: r, _, h => by
    show sp (f ++ [45] ++ jn [45] (g :: r)) = _
    rw [List.append_assoc, List.singleton_append, sp_app, sp_one (h f List.mem_cons_self), sp_jn (by simp) (fun q m => h q (List.mem_cons_of_mem _ m))]
    rfl
end Mine
end Mp1

section Mp2
open PySem PySem.W PySem.Calls PyProof.Rows PySem.Builtin PySem.Builtin.Str
namespace Mine
noncomputable def cs (x : Str) : List Nat := x.cps.toList
theorem cs_len (x : Str) : (cs x).length = x.length := by simp [cs, Str.length]
theorem cs_app (a b : Str) : cs (a ++ b) = cs a ++ cs b := by
  show (a.cps ++ b.cps).toList = _
  simp [cs]
theorem cs_inj {a b : Str} (h : cs a = cs b) : a = b := Str.ext' (Array.toList_inj.mp h)
theorem cs_mk (l : List Nat) : cs ⟨l.toArray⟩ = l := by simp [cs]
theorem cs_join (s : Str) : ∀ l : List Str, cs (Str.join s l) = jn (cs s) (l.map cs)
  | [] => rfl
  | [x] => rfl
  | x :: y :: r => by
    show cs (x ++ s ++ Str.join s (y :: r)) = _
    rw [cs_app, cs_app, cs_join s (y :: r)]
    rfl
theorem cs_tjoin (s : Str) (l : List Str) : cs (Txt.join s l) = jn (cs s) (l.map cs) := by
  show cs (glued s l) = _
  rw [StrLaws.glued_eq_join, cs_join]
theorem at_pre {x y : Str} (hy : 1 ≤ y.length) (k : Nat) : StrLaws.At x y x.length k ↔ cs y <+: (cs x).drop k := by
  unfold StrLaws.At
  rw [StrLaws.subAt_eq]
  show (_ ∧ (((cs x).drop k).take y.length == cs y) = true) ↔ _
  rw [beq_iff_eq, List.prefix_iff_eq_take, cs_len]
  constructor
  · intro h; exact h.2.symm
  · intro h
    refine ⟨?_, h.symm⟩
    have h1 := congrArg List.length h
    simp only [cs_len, List.length_take, List.length_drop] at h1
    omega
theorem cuts_chain {x y : Str} (hy : 1 ≤ y.length) {f : Nat} (hn : ∀ k, f ≤ k → ¬ StrLaws.At x y x.length k) : ∀ (cuts : List Nat) (a : Nat), StrLaws.ChainG x y x.length a cuts f →
    Cuts (cs y) ((cs x).drop a) ((StrLaws.partsFrom x y.length a cuts).map cs)
  | [], a, h => by
    have e : f = a := h
    subst e
    have e1 : cs (strSub x f x.length) = (cs x).drop f := by
      show (strSub x f x.length).cps.toList = _
      rw [StrLaws.strSub_toList, List.take_of_length_le]
      · rfl
      · rw [List.length_drop]; show (cs x).length - f ≤ _; rw [cs_len]; exact Nat.le_refl _
    show Cuts _ _ [cs (strSub x f x.length)]
    rw [e1]
    refine .last fun k hk => ?_
    rw [List.drop_drop] at hk
    exact hn (f + k) (by omega) ((at_pre hy _).mpr hk)
  | c :: r, a, h => by
    obtain ⟨h1, h2, h3, h4⟩ := h
    have ih := cuts_chain hy hn r (c + y.length) h4
    have e1 : cs (strSub x a c) = ((cs x).drop a).take (c - a) := StrLaws.strSub_toList x a c
    have hp := (at_pre hy _).mp h2
    have e2 : (cs x).drop c = cs y ++ (cs x).drop (c + y.length) := by
      obtain ⟨t, ht⟩ := hp
      rw [← ht]
      congr 1
      rw [← List.drop_drop, ← ht, ← cs_len, drop_app_len]
    have hcl : c + y.length ≤ x.length := h2.1
    have e3 : (cs x).drop a = ((cs x).drop a).take (c - a) ++ (cs y ++ (cs x).drop (c + y.length)) := by
      rw [← e2]
      have e4 : (cs x).drop c = ((cs x).drop a).drop (c - a) := by rw [List.drop_drop]; congr 1; omega
      rw [e4, List.take_append_drop]
    show Cuts _ _ (cs (strSub x a c) :: _)
    rw [e1, e3]
    have e5 : ((((cs x).drop a).take (c - a) ++ (cs y ++ (cs x).drop (c + y.length))).take (c - a)) = ((cs x).drop a).take (c - a) := by rw [← e3]
    rw [e5]
    refine .cons (fun k hk hpre => ?_) ih
    rw [← e3, List.drop_drop] at hpre
    have hkl : k < c - a := by
      have := hk
      simp only [List.length_take] at this
      omega
    exact h3 (a + k) (by omega) (by omega) ((at_pre hy _).mpr hpre)
theorem occ_cuts {x y : Str} (hy : 1 ≤ y.length) : Cuts (cs y) (cs x) ((StrLaws.partsFrom x y.length 0 (occurrences x y 0 x.length (x.length + 1))).map cs) := by
  obtain ⟨f, h1, h2⟩ := StrLaws.occ_tight x y hy
  have := cuts_chain hy h2 _ _ h1
  rwa [List.drop_zero] at this
theorem parts_nil (x : Str) (n : Nat) : (StrLaws.partsFrom x n 0 []).map cs = [cs x] := by
  show [cs (strSub x 0 x.length)] = _
  rw [StrLaws.sub_whole]
theorem rep_cuts {x y z : Str} (hy : 1 ≤ y.length) : ∃ ps, Cuts (cs y) (cs x) ps ∧ cs (Txt.replace x y z) = jn (cs z) ps := by
  refine ⟨_, occ_cuts hy, ?_⟩
  have h0 : (y.length == 0) = false := by simp; omega
  unfold Txt.replace
  rw [h0, Bool.false_and, Bool.or_false]
  cases he : occurrences x y 0 x.length (x.length + 1) with
  | nil => simp only [List.isEmpty_nil, if_true]; rw [parts_nil]; rfl
  | cons i r =>
    rw [if_neg (by simp)]
    rw [StrLaws.glued_eq_join, cs_join, StrLaws.partsBetween_eq]
theorem split_cuts {x y : Str} (hy : 1 ≤ y.length) (hk : PySem.Builtin.Str.strKind y = 1) : Cuts (cs y) (cs x) ((Txt.split x y).map cs) := by
  have hc := occ_cuts (x := x) hy
  have hkx : 1 ≤ PySem.Builtin.Str.strKind x := by unfold PySem.Builtin.Str.strKind; split <;> (try split) <;> decide
  unfold Txt.split
  have e0 : decide (PySem.Builtin.Str.strKind x < PySem.Builtin.Str.strKind y) = false := decide_eq_false (by omega)
  rw [e0, Bool.or_false]
  by_cases hl : x.length < y.length
  · rw [if_pos (decide_eq_true hl)]
    refine .last fun k hp => ?_
    have := hp.length_le
    simp only [List.length_drop, cs_len] at this
    omega
  · rw [if_neg (by simpa using hl)]
    cases he : occurrences x y 0 x.length (x.length + 1) with
    | nil =>
      simp only [List.isEmpty_nil, if_true]
      rw [he, parts_nil] at hc
      exact hc
    | cons i r =>
      rw [if_neg (by simp), StrLaws.partsBetween_eq, ← he]
      exact hc
theorem rep_one (x : Str) (c d : Nat) : cs (Txt.replace x ⟨#[c]⟩ ⟨#[d]⟩) = (cs x).map (sw c d) := by
  obtain ⟨ps, h1, h2⟩ := rep_cuts (x := x) (y := ⟨#[c]⟩) (z := ⟨#[d]⟩) (Nat.le_refl 1)
  rw [h2]
  exact cuts_sw h1
noncomputable def U : List Nat := [117, 110, 107, 110, 111, 119, 110]
theorem rep_del (x : Str) : cs (Txt.replace x (Str.ofString "unknown") (Str.ofString "")) = del U 0 (cs x) := by
  obtain ⟨ps, h1, h2⟩ := rep_cuts (x := x) (y := Str.ofString "unknown") (z := Str.ofString "") (by decide +kernel)
  have e1 : cs (Str.ofString "unknown") = U := by decide +kernel
  have e2 : cs (Str.ofString "") = [] := by decide +kernel
  rw [e1] at h1
  rw [h2, e2]
  exact cuts_del (by decide) h1
noncomputable def sig (a : Nat) : Nat := sw 41 45 (sw 40 45 (sw 34 45 (sw 59 45 (sw 58 45 (sw 92 45 (sw 47 45 (sw 32 95 a)))))))
noncomputable def seps : List Nat := [45, 47, 92, 58, 59, 34, 40, 41]
theorem sig_sep {a : Nat} (h : a ∈ seps) : sig a = 45 := by
  simp only [seps, List.mem_cons, List.not_mem_nil, or_false] at h
  rcases h with rfl | rfl | rfl | rfl | rfl | rfl | rfl | rfl <;> decide
theorem sig_else {a : Nat} (h : a ∉ seps) : sig a = if a = 32 then 95 else a := by
  simp only [seps, List.mem_cons, List.not_mem_nil, or_false, not_or] at h
  obtain ⟨h1, h2, h3, h4, h5, h6, h7, h8⟩ := h
  by_cases e : a = 32
  · subst e; decide
  · rw [if_neg e]; unfold sig sw; simp [e, h1, h2, h3, h4, h5, h6, h7, h8]
theorem reps_cs (p : Str) : cs (repsF p) = del U 0 ((cs p).map sig) := by
  unfold repsF
  rw [rep_del]
  have e : ∀ (s : String) (c : Nat), Str.ofString s = ⟨#[c]⟩ → True := fun _ _ _ => trivial
  rw [show Str.ofString " " = ⟨#[32]⟩ by decide +kernel, show Str.ofString "_" = ⟨#[95]⟩ by decide +kernel, show Str.ofString "/" = ⟨#[47]⟩ by decide +kernel, show Str.ofString "-" = ⟨#[45]⟩ by decide +kernel, show Str.ofString "\\" = ⟨#[92]⟩ by decide +kernel,
    show Str.ofString ":" = ⟨#[58]⟩ by decide +kernel, show Str.ofString ";" = ⟨#[59]⟩ by decide +kernel, show Str.ofString "\"" = ⟨#[34]⟩ by decide +kernel, show Str.ofString "(" = ⟨#[40]⟩ by decide +kernel, show Str.ofString ")" = ⟨#[41]⟩ by decide +kernel]
  simp only [rep_one, List.map_map]
  rfl
end Mine
end Mp2

section Mp3
open PySem PySem.W PySem.Calls PyProof.Rows PySem.Builtin PySem.Builtin.Str
namespace Mine
abbrev full (f : List Nat) : Bool := !(f == [])
noncomputable def nf : List (List Nat) → List (List Nat)
  | [] => [[]]
  | h :: t => h :: t.filter full
theorem nf_app {a : List (List Nat)} (b : List (List Nat)) (h : a ≠ []) : nf (a ++ b) = nf a ++ b.filter full := by
  cases a with
  | nil => exact absurd rfl h
  | cons x r => simp [nf]
theorem full_nil : [([] : List Nat)].filter full = [] := rfl
theorem dd_fields {x : List Nat} {ps : List (List Nat)} (k : Cuts [45, 45] x ps) : (sp (jn [45] ps)).filter full = (sp x).filter full ∧ nf (sp (jn [45] ps)) = nf (sp x) := by
  induction k with
  | last _ => exact ⟨rfl, rfl⟩
  | @cons p r ps h k ih =>
    rw [jn_cons k.ne, List.append_assoc, List.singleton_append, sp_app]
    have e : p ++ ([45, 45] ++ r) = p ++ 45 :: ([] ++ 45 :: r) := rfl
    rw [e, sp_app, sp_app, nf_app _ (sp_ne p), nf_app _ (sp_ne p), List.filter_append, List.filter_append, List.filter_append, ih.1]
    exact ⟨rfl, rfl⟩
theorem dd_len {x : List Nat} {ps : List (List Nat)} (k : Cuts [45, 45] x ps) : (jn [45] ps).length + ps.length = x.length + 1 := by
  induction k with
  | last _ => rfl
  | @cons p r ps h k ih =>
    rw [jn_cons k.ne]
    simp only [List.length_append, List.length_cons, List.length_nil] at ih ⊢
    omega
noncomputable def NoDD (x : List Nat) : Prop := ∀ k, ¬ [45, 45] <+: x.drop k
theorem dd_same {x : List Nat} {ps : List (List Nat)} (k : Cuts [45, 45] x ps) (h : jn [45] ps = x) : NoDD x := by
  have h1 := dd_len k
  rw [h] at h1
  cases k with
  | last h2 => exact h2
  | @cons p r ps h k =>
    have := List.length_pos_iff.mpr k.ne
    simp only [List.length_cons] at h1
    omega
theorem nodd_nil : NoDD [] := fun k h => by simp at h
theorem cs_nil_of {p : Str} (h : p.length ≤ 0) : cs p = [] := List.eq_nil_of_length_eq_zero (by rw [cs_len]; omega)
theorem rep_dd (p : Str) : ∃ ps, Cuts [45, 45] (cs p) ps ∧ cs (Txt.replace p (Str.ofString "--") (Str.ofString "-")) = jn [45] ps := by
  have h := rep_cuts (x := p) (y := Str.ofString "--") (z := Str.ofString "-") (by decide +kernel)
  rw [show cs (Str.ofString "--") = [45, 45] by decide +kernel, show cs (Str.ofString "-") = [45] by decide +kernel] at h
  exact h
theorem dashN_ok : ∀ (n : Nat) (p : Str), p.length ≤ n → NoDD (cs (dashN n p)) ∧ nf (sp (cs (dashN n p))) = nf (sp (cs p)) ∧ (dashN n p).length ≤ p.length
  | 0, p, h => by
    rw [dashN, cs_nil_of h]
    exact ⟨nodd_nil, rfl, Nat.le_refl _⟩
  | n + 1, p, h => by
    obtain ⟨ps, h1, h2⟩ := rep_dd p
    rw [dashN]
    split
    · rename_i e
      rw [beq_iff_eq] at e
      rw [e] at h2
      exact ⟨dd_same h1 h2.symm, rfl, Nat.le_refl _⟩
    · rename_i e
      have hlt := rep_lt (x := p) (y := Str.ofString "--") (z := Str.ofString "-") (by decide +kernel) (by simpa using e)
      have ih := dashN_ok n (Txt.replace p (Str.ofString "--") (Str.ofString "-")) (by omega)
      refine ⟨ih.1, ?_, by omega⟩
      rw [ih.2.1, h2]
      exact (dd_fields h1).2
theorem slice_init {p : Str} (h : 1 ≤ p.length) : cs (Txt.slice p none (some (-1))) = (cs p).dropLast := by
  have e : Txt.slice p none (some (-1)) = StrLaws.sliceText p none (some (-1)) := rfl
  rw [e, StrLaws.sliceText_to_neg (by decide) (by omega), cs_mk, List.dropLast_eq_take]
  show List.take _ (List.drop 0 (cs p)) = _
  rw [List.drop_zero]
  congr 1
  have := cs_len p
  omega
theorem item_last {p : Str} (h : 1 ≤ p.length) : ∃ q c, cs p = q ++ [c] ∧ Txt.item p (-1) = ⟨#[c]⟩ := by
  have hne : cs p ≠ [] := fun e => by have := cs_len p; rw [e] at this; simp at this; omega
  have e0 := (List.dropLast_concat_getLast hne).symm
  generalize (cs p).dropLast = q at e0
  generalize (cs p).getLast hne = c at e0
  refine ⟨q, c, e0, ?_⟩
  unfold Txt.item Txt.charAt
  have hq := congrArg List.length e0
  rw [cs_len, List.length_append, List.length_singleton] at hq
  have e := StrLaws.at_neg (x := p) (i := -1) (n := c) (by decide) (by omega) (by
    rw [← Array.getElem?_toList]
    show (cs p)[_]? = _
    rw [e0, show ((-1 : Int) + (p.length : Int)).toNat = q.length by omega]
    simp)
  rw [e]; rfl
theorem nodd_init {q : List Nat} {c : Nat} (h : NoDD (q ++ [c])) : NoDD q := by
  intro k hk
  by_cases hl : k ≤ q.length
  · refine h k ?_
    rw [List.drop_append_of_le_length hl]
    exact hk.trans (List.prefix_append _ _)
  · rw [List.drop_of_length_le (by omega)] at hk
    simp at hk
theorem trimN_ok : ∀ (n : Nat) (p : Str), p.length ≤ n → NoDD (cs p) → NoDD (cs (trimN n p)) ∧ nf (sp (cs (trimN n p))) = nf (sp (cs p)) ∧ (∀ q, cs (trimN n p) ≠ q ++ [45])
  | 0, p, h, hd => by
    rw [trimN, cs_nil_of h]
    exact ⟨nodd_nil, rfl, fun q e => by simp at e⟩
  | n + 1, p, h, hd => by
    rw [trimN]
    by_cases h0 : p.length = 0
    · rw [if_neg (fun e => by have := e.1; unfold ne0 at this; simp [h0] at this)]
      refine ⟨hd, rfl, fun q e => ?_⟩
      rw [cs_nil_of (by omega)] at e
      simp at e
    · have hl : 1 ≤ p.length := by omega
      obtain ⟨q, c, e1, e2⟩ := item_last hl
      have e3 : Str.ofString "-" = ⟨#[45]⟩ := by decide +kernel
      rw [e2, e3]
      by_cases hc : c = 45
      · subst hc
        rw [if_pos ⟨by unfold ne0; simp; omega, by simp⟩]
        have e4 := slice_init hl
        rw [e1, List.dropLast_concat] at e4
        have hlen : (Txt.slice p none (some (-1))).length ≤ n := by
          rw [← cs_len, e4]
          have := cs_len p
          rw [e1] at this
          simp at this; omega
        have ih := trimN_ok n (Txt.slice p none (some (-1))) hlen (by rw [e4]; rw [e1] at hd; exact nodd_init hd)
        refine ⟨ih.1, ?_, ih.2.2⟩
        rw [ih.2.1, e4, e1]
        have e5 : q ++ [45] = q ++ 45 :: [] := rfl
        rw [e5, sp_app, nf_app _ (sp_ne q)]
        show _ = nf (sp q) ++ [([] : List Nat)].filter full
        rw [full_nil, List.append_nil]
      · rw [if_neg (fun e => hc (by
          have := e.2
          rw [beq_iff_eq] at this
          injection this with this
          have := congrArg Array.toList this
          simpa using this))]
        refine ⟨hd, rfl, fun q' e => ?_⟩
        rw [e1] at e
        have := List.append_inj_right' e rfl
        simp at this
        exact hc this
theorem tight : ∀ (fs : List (List Nat)) (h : List Nat), NoDD (jn [45] (h :: fs)) → (∀ q, jn [45] (h :: fs) ≠ q ++ [45]) → fs.filter full = fs
  | [], h, _, _ => rfl
  | g :: r, h, hd, hl => by
    have e : jn [45] (h :: g :: r) = h ++ ([45] ++ jn [45] (g :: r)) := by rw [jn_cons (by simp), List.append_assoc]
    rw [e] at hd hl
    have hg : g ≠ [] := by
      intro eg
      subst eg
      cases r with
      | nil => exact hl h (by simp [jn])
      | cons g' r =>
        refine hd h.length ?_
        rw [drop_app_len, jn_cons (by simp)]
        exact ⟨jn [45] (g' :: r), by simp⟩
    have ih := tight r g (fun k hk => hd (h.length + (1 + k)) (by rw [← List.drop_drop, drop_app_len, ← List.drop_drop]; exact hk)) (fun q eq => hl (h ++ ([45] ++ q)) (by rw [eq]; simp))
    rw [List.filter_cons, ih, if_pos (by unfold full; simp [hg])]
theorem fields_tight {x : List Nat} (h1 : NoDD x) (h2 : ∀ q, x ≠ q ++ [45]) : nf (sp x) = sp x := by
  have e := headD_tail (d := ([] : List Nat)) (sp_ne x)
  have ej := sp_join x
  rw [← e] at ej ⊢
  show _ :: _ = _
  rw [tight _ _ (by rw [ej]; exact h1) (by rw [ej]; exact h2)]
theorem plat_cs {xs : List Str} (h : (repsF (joinedF xs)).length ≤ 1000) : cs (platF xs) = jn [45] (nf (sp (del U 0 ((cs (joinedF xs)).map sig)))) := by
  have h1 := dashN_ok 1000 _ h
  have h2 := trimN_ok 1000 (dashN 1000 (repsF (joinedF xs))) (by omega) h1.1
  rw [← reps_cs, ← h1.2.1, ← h2.2.1, fields_tight h2.1 h2.2.2, sp_join]
  rfl
end Mine
end Mp3

section Mp4
open PySem PySem.W PySem.Calls PyProof.Rows PySem.Builtin PySem.Builtin.Str
namespace Mine
/-- the fields of a stripped text -/
noncomputable def Fd (k : List Nat) : List (List Nat) := sp (del U 0 (k.map sig))
noncomputable def app (l : List Nat) (fs : List (List Nat)) : List (List Nat) := (l ++ fs.headD []) :: fs.tail
theorem app_nil {fs : List (List Nat)} (h : fs ≠ []) : app [] fs = fs := by unfold app; rw [List.nil_append, headD_tail h]
theorem Fd_ne (k : List Nat) : Fd k ≠ [] := sp_ne _
theorem Fd_app (a b : List Nat) : Fd (a ++ 45 :: b) = Fd a ++ Fd b := by
  unfold Fd
  rw [List.map_append, List.map_cons, show sig 45 = 45 by decide, del_hyph (by decide) (by decide) _ _ _ (Nat.le_refl _), sp_app]
theorem Fd_join : ∀ {ts : List (List Nat)}, ts ≠ [] → Fd (jn [45] ts) = ts.flatMap Fd
  | [], h => absurd rfl h
  | [t], _ => by simp [jn]
  | t :: u :: r, _ => by
    show Fd (t ++ [45] ++ jn [45] (u :: r)) = _
    rw [List.append_assoc, List.singleton_append, Fd_app, Fd_join (by simp)]
    rfl
theorem sig_U {a x : Nat} (hx : x ∈ U) (h : sig a = x) : a = x := by
  by_cases ha : a ∈ seps
  · rw [sig_sep ha] at h
    subst h
    exact absurd hx (by decide)
  · rw [sig_else ha] at h
    split at h
    · subst h; exact absurd hx (by decide)
    · exact h
theorem pre_map : ∀ {u y : List Nat}, (∀ x ∈ u, x ∈ U) → u <+: y.map sig → u <+: y
  | [], y, _, _ => List.nil_prefix
  | a :: u, [], _, h => by simp at h
  | a :: u, b :: y, hu, h => by
    rw [List.map_cons, List.cons_prefix_cons] at h
    rw [List.cons_prefix_cons]
    exact ⟨(sig_U (hu a List.mem_cons_self) h.1.symm).symm, pre_map (fun x m => hu x (List.mem_cons_of_mem _ m)) h.2⟩
theorem Fd_word {t : List Nat} (h : U <+: t) : Fd t = Fd (t.drop 7) := by
  obtain ⟨r, rfl⟩ := h
  unfold Fd
  rw [List.map_append, show U.map sig = U by decide, del_yes (by decide) (List.prefix_append _ _), show (7 : Nat) = U.length by decide, drop_app_len, drop_app_len]
theorem Fd_cons {c : Nat} {t : List Nat} (h : ¬ U <+: c :: t) : Fd (c :: t) = sp (sig c :: del U 0 (t.map sig)) := by
  have h0 : ¬ U <+: sig c :: t.map sig := fun q => h (pre_map (y := c :: t) (fun x m => m) q)
  unfold Fd
  rw [List.map_cons, del_no h0]
theorem Fd_sep {c : Nat} {t : List Nat} (h : ¬ U <+: c :: t) (hc : c ∈ seps) : Fd (c :: t) = [] :: Fd t := by
  rw [Fd_cons h, sig_sep hc]; rfl
theorem Fd_chr {c : Nat} {t : List Nat} (h : ¬ U <+: c :: t) (hc : c ∉ seps) (l : List Nat) : app l (Fd (c :: t)) = app (l ++ [if c = 32 then 95 else c]) (Fd t) := by
  rw [Fd_cons h, sig_else hc, sp, if_neg]
  · unfold app Fd; simp
  · split
    · decide
    · intro e; subst e; exact hc (by decide)
theorem item_cs {x : Str} {k c : Nat} (h : (cs x)[k]? = some c) : Txt.item x (k : Int) = ⟨#[c]⟩ := by
  unfold Txt.item Txt.charAt
  rw [StrLaws.at_nonneg (x := x) (i := (k : Int)) (n := c) (by omega) (by rw [← Array.getElem?_toList]; exact h)]
  rfl
theorem isSep_one (c : Nat) : isSep ⟨#[c]⟩ = decide (c ∈ seps) := by
  unfold isSep
  rw [StrLaws.found_one]
  have e : (Str.ofString "-/\\:;\"()").cps.toList = seps := by decide +kernel
  rw [e]
theorem sliceText_clamp (x : Str) (l : Option Int) {j : Int} (h0 : 0 ≤ j) : StrLaws.sliceText x l (some j) = StrLaws.sliceText x l (some (min j (x.length : Int))) := by
  have e : strSliceIndices l (some j) 1 x.length = strSliceIndices l (some (min j (x.length : Int))) 1 x.length := by
    have h1 : ¬ j < 0 := by omega
    have h2 : ¬ min j (x.length : Int) < 0 := by omega
    have h3 : min (min j (x.length : Int)) (x.length : Int) = min j (x.length : Int) := by omega
    simp [strSliceIndices, h1, h2, h3]
  unfold StrLaws.sliceText
  rw [e]
theorem slice_cs (x : Str) {a b : Nat} (hab : a ≤ b) (ha : a ≤ x.length) : cs (Txt.slice x (some (a : Int)) (some (b : Int))) = ((cs x).drop a).take (b - a) := by
  have e : Txt.slice x (some (a : Int)) (some (b : Int)) = StrLaws.sliceText x (some (a : Int)) (some (b : Int)) := rfl
  rw [e, sliceText_clamp x _ (by omega)]
  have e2 : min (b : Int) (x.length : Int) = ((min b x.length : Nat) : Int) := by omega
  rw [e2, StrLaws.sliceText_nat x (by omega) (by omega), cs_mk]
  show List.take _ (List.drop a (cs x)) = _
  rw [List.take_eq_take_iff, List.length_drop, cs_len]
  omega
theorem scan_ok (kept : Str) : ∀ (f k : Nat) (X : List Str) (l : Str), k ≤ kept.length → kept.length - k ≤ f → (scanN kept f (k : Int) (X ++ [l])).map cs = X.map cs ++ app (cs l) (Fd ((cs kept).drop k)) := by
  have stop : ∀ (k : Nat) (X : List Str) (l : Str), kept.length ≤ k → (X ++ [l]).map cs = X.map cs ++ app (cs l) (Fd ((cs kept).drop k)) := by
    intro k X l h
    rw [List.drop_of_length_le (by rw [cs_len]; exact h), List.map_append, show Fd [] = [[]] by decide]
    simp [app]
  intro f
  induction f with
  | zero => intro k X l h1 h2; rw [scanN]; exact stop k X l (by omega)
  | succ f ih =>
    intro k X l h1 h2
    rw [scanN]
    by_cases hk : k < kept.length
    · rw [if_pos (by omega)]
      have e7 : ((k : Int) + 7) = ((k + 7 : Nat) : Int) := by omega
      have e1 : ((k : Int) + 1) = ((k + 1 : Nat) : Int) := by omega
      rw [e7, e1]
      have es := slice_cs kept (a := k) (b := k + 7) (by omega) h1
      rw [show k + 7 - k = 7 by omega] at es
      have eU : cs (Str.ofString "unknown") = U := by decide +kernel
      by_cases hU : U <+: (cs kept).drop k
      · rw [if_pos (by
          rw [beq_iff_eq]
          apply cs_inj
          rw [es, eU]
          exact (List.prefix_iff_eq_take.mp hU).symm)]
        have h7 := hU.length_le
        rw [List.length_drop, cs_len, show U.length = 7 by decide] at h7
        rw [ih (k + 7) X l (by omega) (by omega), Fd_word hU, List.drop_drop]
      · rw [if_neg (fun e => hU (by
          rw [beq_iff_eq] at e
          rw [e, eU] at es
          rw [List.prefix_iff_eq_take]
          exact es))]
        obtain ⟨c, hc⟩ : ∃ c, (cs kept)[k]? = some c := ⟨_, List.getElem?_eq_getElem (by rw [cs_len]; exact hk)⟩
        have hd : (cs kept).drop k = c :: (cs kept).drop (k + 1) := by
          obtain ⟨hl, e⟩ := List.getElem?_eq_some_iff.mp hc
          rw [List.drop_eq_getElem_cons hl, e]
        rw [hd] at hU ⊢
        rw [item_cs hc, scanC, isSep_one]
        by_cases hs : c ∈ seps
        · rw [if_pos (decide_eq_true hs), ih (k + 1) (X ++ [l]) (Str.ofString "") (by omega) (by omega), Fd_sep hU hs, show cs (Str.ofString "") = [] by decide +kernel, app_nil (Fd_ne _)]
          simp [app]
        · rw [if_neg (by simpa using hs), List.dropLast_concat, show (X ++ [l]).getLastD Str.empty = l by simp, ih (k + 1) X _ (by omega) (by omega), Fd_chr hU hs, cs_app]
          have e32 : (((⟨#[c]⟩ : Str) == Str.ofString " ") = true) ↔ c = 32 := by
            rw [beq_iff_eq, show Str.ofString " " = ⟨#[32]⟩ by decide +kernel]
            constructor
            · intro e
              injection e with e
              have := congrArg Array.toList e
              simpa using this
            · intro e; rw [e]
          by_cases h32 : c = 32
          · rw [if_pos (e32.mpr h32), if_pos h32, show cs (Str.ofString "_") = [95] by decide +kernel]
          · rw [if_neg (fun e => h32 (e32.mp e)), if_neg h32]
            rfl
    · rw [if_neg (by omega)]
      exact stop k X l (by omega)
theorem empty_iff (t : Str) : t = Str.ofString "" ↔ ne0 t = false := by
  rw [show Str.ofString "" = ⟨#[]⟩ by decide +kernel]
  unfold ne0
  constructor
  · intro e; rw [e]; rfl
  · intro h
    have h1 : t.length = 0 := by simpa using h
    apply cs_inj
    rw [cs_nil_of (by omega)]
    rfl
theorem step_cs (xs : List Str) (t : Str) (h : ne0 t = true) : (partsStep xs t).map cs = xs.map cs ++ Fd (cs (keptF t)) := by
  unfold partsStep
  rw [if_neg (fun e => by rw [empty_iff] at e; rw [h] at e; cases e)]
  have := scan_ok (keptF t) (keptF t).length 0 xs (Str.ofString "") (Nat.zero_le _) (by omega)
  rw [List.drop_zero, show cs (Str.ofString "") = [] by decide +kernel, app_nil (Fd_ne _)] at this
  exact this
theorem partsL_cs : ∀ (texts xs : List Str), (texts.foldl partsStep xs).map cs = xs.map cs ++ (texts.filter ne0).flatMap fun t => Fd (cs (keptF t))
  | [], xs => by simp
  | t :: r, xs => by
    rw [List.foldl_cons, partsL_cs r, List.filter_cons]
    by_cases h : ne0 t = true
    · rw [step_cs xs t h, if_pos h]; simp
    · have e : partsStep xs t = xs := by
        unfold partsStep
        rw [if_pos ((empty_iff t).mpr (by simpa using h))]
      rw [e, if_neg h]
theorem full_cs (t : Str) : full (cs t) = !(t == Str.ofString "") := by
  unfold full
  congr 1
  rw [Bool.eq_iff_iff, beq_iff_eq, beq_iff_eq]
  constructor
  · intro e; apply cs_inj; rw [e]; decide +kernel
  · intro e; rw [e]; decide +kernel
theorem partsF_cs (texts : List Str) : (partsF texts).map cs = nf ((partsL texts).map cs) := by
  unfold partsF
  cases h : partsL texts with
  | nil => simp only [if_true, List.map_cons, List.map_nil]; rw [show cs (Str.ofString "") = [] by decide +kernel]; rfl
  | cons a r =>
    rw [if_neg (by simp)]
    simp only [List.take_succ_cons, List.take_zero, List.drop_succ_cons, List.drop_zero, List.singleton_append, List.map_cons, nf]
    congr 1
    rw [List.filter_map]
    congr 2
    funext t
    exact (full_cs t).symm
end Mine
end Mp4

section Mp5
open PySem PySem.W PySem.Calls PyProof.Rows PySem.Builtin PySem.Builtin.Str
namespace Mine
noncomputable def wht : List Nat := [32, 9, 10, 13]
/-- the model's white signs are the law's, in this text -/
noncomputable def Wok (x : List Nat) : Prop := ∀ c ∈ x, Unicode.isSpace c = decide (c ∈ wht)
theorem Wok.app {a b : List Nat} (h1 : Wok a) (h2 : Wok b) : Wok (a ++ b) := fun c m => (List.mem_append.mp m).elim (h1 c) (h2 c)
theorem getD_cs (t : Str) (k : Nat) : t.cps.getD k 0 = (cs t).getD k 0 := by
  unfold cs
  simp [List.getD, Array.getD]
  by_cases h : k < t.cps.size <;> simp [h]
theorem notWhite_at {t : Str} {k : Nat} (h : k < t.length) : notWhite t (k : Int) = !decide ((cs t).getD k 0 ∈ wht) := by
  have hc : (cs t)[k]? = some ((cs t).getD k 0) := by
    have hk : k < (cs t).length := by rw [cs_len]; exact h
    simp [List.getD, List.getElem?_eq_getElem hk]
  unfold notWhite
  rw [item_cs hc]
  have e := StrLaws.found_one (Str.ofString " \t\n\r") ((cs t).getD k 0)
  rw [show (Str.ofString " \t\n\r").cps.toList = wht by decide +kernel] at e
  rw [← e, Bool.not_not]
theorem mem_places {t : Str} {k : Nat} : (k : Int) ∈ placesF t ↔ k < t.length ∧ (cs t).getD k 0 ∉ wht := by
  unfold placesF rangeKs
  rw [List.mem_filter, List.mem_map]
  constructor
  · rintro ⟨⟨i, hi, e⟩, h2⟩
    have e2 : i = k := by omega
    subst e2
    have hl := List.mem_range.mp hi
    rw [notWhite_at hl] at h2
    exact ⟨hl, by simpa using h2⟩
  · rintro ⟨h1, h2⟩
    refine ⟨⟨k, List.mem_range.mpr h1, by omega⟩, ?_⟩
    rw [notWhite_at h1]
    simpa using h2
theorem places_nat {t : Str} {k : Int} (h : k ∈ placesF t) : ∃ n : Nat, k = (n : Int) := by
  unfold placesF rangeKs at h
  obtain ⟨h1, _⟩ := List.mem_filter.mp h
  obtain ⟨i, _, e⟩ := List.mem_map.mp h1
  exact ⟨i, by omega⟩
theorem places_sorted (t : Str) : (placesF t).Pairwise (· ≤ ·) := by
  unfold placesF rangeKs
  refine List.Pairwise.filter _ ?_
  rw [List.pairwise_map]
  exact List.pairwise_lt_range.imp fun h => by omega
theorem head_min {l : List Int} (h : l.Pairwise (· ≤ ·)) (hne : l ≠ []) : l.headD 0 ∈ l ∧ ∀ k ∈ l, l.headD 0 ≤ k := by
  cases l with
  | nil => exact absurd rfl hne
  | cons a r =>
    refine ⟨List.mem_cons_self, fun k hk => ?_⟩
    rcases List.mem_cons.mp hk with rfl | hk
    · exact Int.le_refl _
    · exact (List.pairwise_cons.mp h).1 k hk
theorem last_max : ∀ {l : List Int}, l.Pairwise (· ≤ ·) → l ≠ [] → l.getLastD 0 ∈ l ∧ ∀ k ∈ l, k ≤ l.getLastD 0
  | [], _, hne => absurd rfl hne
  | [a], _, _ => ⟨by simp, fun k hk => by simp at hk; simp [hk]⟩
  | a :: b :: r, h, _ => by
    have h1 := List.pairwise_cons.mp h
    have ih := last_max h1.2 (by simp)
    have e : (a :: b :: r).getLastD 0 = (b :: r).getLastD 0 := by simp [List.getLastD]
    rw [e]
    refine ⟨List.mem_cons_of_mem _ ih.1, fun k hk => ?_⟩
    rcases List.mem_cons.mp hk with rfl | hk
    · exact h1.1 _ ih.1
    · exact ih.2 k hk
theorem kept_strip {t : Str} (hw : Wok (cs t)) : cs (keptF t) = cs (Txt.strip t) := by
  have hwk : ∀ k, k < t.length → Unicode.isSpace (t.cps.getD k 0) = decide ((cs t).getD k 0 ∈ wht) := by
    intro k hk
    rw [getD_cs]
    have hk' : k < (cs t).length := by rw [cs_len]; exact hk
    refine hw _ ?_
    simp [List.getD, List.getElem?_eq_getElem hk', List.getElem_mem]
  unfold Txt.strip
  rw [PyProof.Rows.stripBy_eq]
  obtain ⟨a1, a2, a3⟩ := lo_facts Unicode.isSpace t
  obtain ⟨b1, b2, b3, b4⟩ := hi_facts Unicode.isSpace t _ a1
  generalize stripHi Unicode.isSpace true t (stripLo Unicode.isSpace true t) = hi at b1 b2 b3 b4 ⊢
  generalize stripLo Unicode.isSpace true t = lo at a1 a2 a3 b1 b4 ⊢
  have hS : cs (strSub t lo hi) = ((cs t).drop lo).take (hi - lo) := StrLaws.strSub_toList t lo hi
  have inP : ∀ k, k < t.length → Unicode.isSpace (t.cps.getD k 0) = false → (k : Int) ∈ placesF t := by
    intro k hk h
    rw [hwk k hk] at h
    exact mem_places.mpr ⟨hk, by simpa using h⟩
  have ofP : ∀ k : Nat, (k : Int) ∈ placesF t → k < t.length ∧ Unicode.isSpace (t.cps.getD k 0) = false := by
    intro k h
    obtain ⟨h1, h2⟩ := mem_places.mp h
    refine ⟨h1, ?_⟩
    rw [hwk k h1]
    simpa using h2
  unfold keptF
  by_cases hp : placesF t = []
  · rw [if_pos hp, hS]
    have hl : lo = t.length := by
      rcases a3 with h | h
      · exact h
      · by_cases hlt : lo < t.length
        · have := inP lo hlt h
          rw [hp] at this
          cases this
        · omega
    rw [show cs (Str.ofString "") = [] by decide +kernel, List.drop_of_length_le (by rw [cs_len]; omega)]
    simp
  · rw [if_neg hp]
    obtain ⟨m1, m2⟩ := head_min (places_sorted t) hp
    obtain ⟨n1, n2⟩ := last_max (places_sorted t) hp
    obtain ⟨a, ha⟩ := places_nat m1
    obtain ⟨b, hb⟩ := places_nat n1
    rw [ha] at m1 m2 ⊢
    rw [hb] at n1 n2 ⊢
    obtain ⟨p1, p2⟩ := ofP a m1
    obtain ⟨q1, q2⟩ := ofP b n1
    have hab := m2 _ n1
    have e1 : lo = a := by
      have h1 : lo ≤ a := by
        rcases Nat.lt_or_ge a lo with h | h
        · have := a2 a h
          rw [p2] at this; cases this
        · exact h
      have h2 : a ≤ lo := by
        rcases a3 with h | h
        · omega
        · have := m2 _ (inP lo (by omega) h)
          omega
      omega
    have e2 : hi = b + 1 := by
      have h1 : b < hi := by
        rcases Nat.lt_or_ge b hi with h | h
        · exact h
        · have := b3 b h q1
          rw [q2] at this; cases this
      have h2 : hi - 1 ≤ b := by
        rcases b4 with h | h
        · omega
        · have := n2 _ (inP (hi - 1) (by omega) h)
          omega
      omega
    have e3 : (b : Int) + 1 = ((b + 1 : Nat) : Int) := by omega
    rw [e3, slice_cs t (by omega) (by omega), hS, e1, e2]
/-- (A): the name is the parts with a hyphen between -/
theorem plat_parts {xs : List Str} (hw : ∀ t ∈ xs, Wok (cs t)) (hl : (repsF (joinedF xs)).length ≤ 1000) : platF xs = Txt.join (Str.ofString "-") (partsF xs) := by
  apply cs_inj
  rw [plat_cs hl, cs_tjoin, partsF_cs]
  have e0 : cs (Str.ofString "-") = [45] := by decide +kernel
  rw [e0]
  congr 1
  unfold partsL joinedF
  rw [partsL_cs, cs_tjoin, e0, List.map_nil, List.nil_append]
  show nf (Fd (jn [45] (((xs.filter ne0).map Txt.strip).map cs))) = _
  by_cases h : xs.filter ne0 = []
  · rw [h]; decide
  · rw [Fd_join (by simpa using h)]
    congr 1
    rw [List.map_map, List.flatMap_map]
    rw [List.flatMap_def, List.flatMap_def]
    congr 1
    refine List.map_congr_left fun t ht => ?_
    show Fd (cs (Txt.strip t)) = Fd (cs (keptF t))
    rw [kept_strip (hw t (List.mem_filter.mp ht).1)]
end Mine
end Mp5

section Mp6
open PySem PySem.W PySem.Calls PyProof.Rows PySem.Builtin PySem.Builtin.Str
namespace Mine
/-- each dot has a 1 behind it -/
noncomputable def okD : List Nat → Bool
  | [] => true
  | c :: r => (c != 46 || r.head? == some 49) && okD r
theorem okD_app : ∀ {a b : List Nat}, okD a = true → okD b = true → okD (a ++ b) = true
  | [], b, _, h => h
  | c :: r, b, h1, h2 => by
    rw [okD, Bool.and_eq_true] at h1
    rw [List.cons_append, okD, Bool.and_eq_true]
    refine ⟨?_, okD_app h1.2 h2⟩
    cases r with
    | nil => have := h1.1; simp at this; simp [this]
    | cons d r => exact h1.1
/-- behind a dot: nothing, or a 1 -/
noncomputable def okW : List Nat → Prop
  | [] => True
  | c :: r => (c = 46 → ∀ d, r.head? = some d → d = 49) ∧ okW r
theorem okW_of : ∀ {a : List Nat}, okD a = true → okW a
  | [], _ => trivial
  | c :: r, h => by
    rw [okD, Bool.and_eq_true] at h
    refine ⟨fun e d hd => ?_, okW_of h.2⟩
    have := h.1
    rw [e, hd] at this
    simpa using this
theorem okW_drop : ∀ (n : Nat) {a : List Nat}, okW a → okW (a.drop n)
  | 0, a, h => h
  | n + 1, [], _ => by simp [okW]
  | n + 1, c :: r, h => okW_drop n h.2
theorem okW_take : ∀ (n : Nat) {a : List Nat}, okW a → okW (a.take n)
  | 0, a, h => by simp [okW]
  | n + 1, [], _ => by simp [okW]
  | n + 1, c :: r, h => by
    rw [List.take_succ_cons]
    refine ⟨fun e d hd => h.1 e d ?_, okW_take n h.2⟩
    cases n with
    | zero => simp at hd
    | succ n =>
      cases r with
      | nil => simp at hd
      | cons u r => simpa using hd
theorem sig46 {c : Nat} (h : sig c = 46) : c = 46 := by
  by_cases hc : c ∈ seps
  · rw [sig_sep hc] at h; cases h
  · rw [sig_else hc] at h
    split at h
    · cases h
    · exact h
theorem okW_map : ∀ {a : List Nat}, okW a → okW (a.map sig)
  | [], _ => trivial
  | c :: r, h => by
    refine ⟨fun e d hd => ?_, okW_map h.2⟩
    have h1 := h.1 (sig46 e)
    cases r with
    | nil => simp at hd
    | cons u r =>
      have := h1 u rfl
      subst this
      simp at hd
      rw [← hd]
      decide
theorem U_first {c : Nat} {r : List Nat} (hc : c ≠ 117) : ¬ U <+: c :: r := fun h => hc (by
  have : (117 : Nat) = c := (List.cons_prefix_cons.mp h).1
  exact this.symm)
theorem okW_del : ∀ (n : Nat) {a : List Nat}, a.length ≤ n → okW a → okW (del U 0 a)
  | _, [], _, _ => trivial
  | 0, c :: r, h, _ => by simp at h
  | n + 1, c :: r, h, hk => by
    by_cases hU : U <+: c :: r
    · rw [del_yes (by decide) hU]
      refine okW_del n ?_ (okW_drop _ hk)
      rw [List.length_drop, show U.length = 7 by decide]
      simp at h ⊢; omega
    · rw [del_no hU]
      refine ⟨fun e d hd => ?_, okW_del n (by simpa using h) hk.2⟩
      have h1 := hk.1 e
      cases r with
      | nil => simp [del] at hd
      | cons u r =>
        have := h1 u rfl
        subst this
        rw [del_no (U_first (by decide))] at hd
        simpa using hd.symm
theorem sp_head {r : List Nat} {d : Nat} (h : ((sp r).headD []).head? = some d) : r.head? = some d := by
  cases r with
  | nil => simp [sp] at h
  | cons c r =>
    unfold sp at h
    split at h
    · simp at h
    · simpa using h
theorem okW_sp : ∀ {a : List Nat}, okW a → ∀ f ∈ sp a, okW f
  | [], _, f, hf => by simp [sp] at hf; subst hf; trivial
  | c :: r, h, f, hf => by
    have ih := okW_sp h.2
    unfold sp at hf
    split at hf
    · rcases List.mem_cons.mp hf with rfl | hf
      · trivial
      · exact ih f hf
    · rcases List.mem_cons.mp hf with rfl | hf
      · refine ⟨fun e d hd => h.1 e d (sp_head hd), ih _ ?_⟩
        have e := headD_tail (d := ([] : List Nat)) (sp_ne r)
        rw [← e]; simp
      · exact ih f (List.mem_of_mem_tail hf)
noncomputable def D3 : List Nat := [46, 46, 46]
noncomputable def NoD (x : List Nat) : Prop := ∀ k, ¬ D3 <+: x.drop k
theorem noD_okW {x : List Nat} (h : okW x) : NoD x := by
  intro k hp
  have hk := okW_drop k h
  generalize x.drop k = y at hp hk
  obtain ⟨t, rfl⟩ := hp
  have := hk.1 rfl 46 rfl
  cases this
theorem noD_free {x : List Nat} (h : 46 ∉ x) : NoD x := by
  intro k hp
  obtain ⟨t, ht⟩ := hp
  refine h (List.mem_of_mem_drop (i := k) ?_)
  rw [← ht]
  exact List.mem_cons_self
theorem kept_sub {t : Str} (hw : Wok (cs t)) : ∃ a b, cs (keptF t) = ((cs t).drop a).take b := by
  rw [kept_strip hw]
  unfold Txt.strip
  rw [PyProof.Rows.stripBy_eq]
  exact ⟨_, _, StrLaws.strSub_toList t _ _⟩
theorem noD_shown {t : Str} (hw : Wok (cs t)) (h : okD (cs t) = true) : ∀ m ∈ Fd (cs (keptF t)), NoD m := by
  obtain ⟨a, b, e⟩ := kept_sub hw
  intro m hm
  rw [e] at hm
  exact noD_okW (okW_sp (okW_del _ (Nat.le_refl _) (okW_map (okW_take b (okW_drop a (okW_of h))))) m hm)
theorem mask_fields : ∀ t ∈ masksL, ∀ m ∈ Fd (cs (keptF t)), m = D3 ∨ 46 ∉ m := by decide +kernel
theorem marks_ok {xs : List Str} (hw : ∀ t ∈ xs, Wok (cs t)) (hm : ∀ t ∈ xs, t ∈ masksL ∨ okD (cs t) = true) : ∀ m ∈ (partsF xs).map cs, 45 ∉ m ∧ (m = D3 ∨ NoD m) := by
  intro m hmem
  rw [partsF_cs] at hmem
  have key : m = [] ∨ m ∈ (partsL xs).map cs := by
    generalize (partsL xs).map cs = L at hmem ⊢
    cases L with
    | nil => simp [nf] at hmem; exact .inl hmem
    | cons h t =>
      rcases List.mem_cons.mp hmem with rfl | h2
      · exact .inr List.mem_cons_self
      · exact .inr (List.mem_cons_of_mem _ (List.mem_filter.mp h2).1)
  rcases key with rfl | h
  · exact ⟨by simp, .inr (noD_free (by simp))⟩
  · unfold partsL at h
    rw [partsL_cs, List.map_nil, List.nil_append, List.mem_flatMap] at h
    obtain ⟨t, ht, hf⟩ := h
    have ht' := (List.mem_filter.mp ht).1
    refine ⟨sp_free _ m hf, ?_⟩
    rcases hm t ht' with h1 | h1
    · rcases mask_fields t h1 m hf with h2 | h2
      · exact .inl h2
      · exact .inr (noD_free h2)
    · exact .inr (noD_shown (hw t ht') h1 m hf)
theorem parts_free {xs : List Str} : ∀ m ∈ (partsF xs).map cs, 45 ∉ m := by
  intro m hmem
  rw [partsF_cs] at hmem
  have key : m = [] ∨ m ∈ (partsL xs).map cs := by
    generalize (partsL xs).map cs = L at hmem ⊢
    cases L with
    | nil => simp [nf] at hmem; exact .inl hmem
    | cons h t =>
      rcases List.mem_cons.mp hmem with rfl | h2
      · exact .inr List.mem_cons_self
      · exact .inr (List.mem_cons_of_mem _ (List.mem_filter.mp h2).1)
  rcases key with rfl | h
  · simp
  · unfold partsL at h
    rw [partsL_cs, List.map_nil, List.nil_append, List.mem_flatMap] at h
    obtain ⟨t, ht, hf⟩ := h
    exact sp_free _ m hf
theorem parts_ne {xs : List Str} : partsF xs ≠ [] := by
  intro e
  have := partsF_cs xs
  rw [e] at this
  generalize (partsL xs).map cs = L at this
  cases L <;> simp [nf] at this
/-! the rows -/
theorem piece_ok (x : Int) (b : Bool) : Wok (cs (pieceF x b)) := by
  unfold pieceF Wok
  obtain ⟨k, hk⟩ := fmodN x 16 (by decide)
  obtain ⟨i, hi⟩ := fmodN (x.fdiv 16) 3 (by decide)
  obtain ⟨j, hj⟩ := fmodN (x.fdiv 16) 7 (by decide)
  rw [show x.fmod 16 = (k.val : Int) from hk, show (x.fdiv 16).fmod 3 = (i.val : Int) from hi, show (x.fdiv 16).fmod 7 = (j.val : Int) from hj]
  clear hk hi hj
  revert k i j b
  decide +kernel
theorem piece_dots (x : Int) : okD (cs (pieceF x false)) = true := by
  unfold pieceF
  obtain ⟨k, hk⟩ := fmodN x 16 (by decide)
  obtain ⟨i, hi⟩ := fmodN (x.fdiv 16) 3 (by decide)
  obtain ⟨j, hj⟩ := fmodN (x.fdiv 16) 7 (by decide)
  rw [show x.fmod 16 = (k.val : Int) from hk, show (x.fdiv 16).fmod 3 = (i.val : Int) from hi, show (x.fdiv 16).fmod 7 = (j.val : Int) from hj]
  clear hk hi hj
  revert k i j
  decide +kernel
theorem mask_mem (x : Int) : maskF x ∈ masksL := by
  unfold maskF
  obtain ⟨j, hj⟩ := fmodN (x.fdiv 16) 7 (by decide)
  rw [show (x.fdiv 16).fmod 7 = (j.val : Int) from hj]
  clear hj
  revert j
  decide +kernel
theorem masks_wok : ∀ t ∈ masksL, Wok (cs t) := by
  unfold Wok
  decide +kernel
abbrev slen (l : List Str) : Nat := (l.map (·.length)).sum
structure RI (B : Nat) (st : RowSt) : Prop where
  w1 : ∀ t ∈ st.1, Wok (cs t)
  w2 : ∀ t ∈ st.2.1, Wok (cs t)
  m2 : ∀ t ∈ st.2.1, t ∈ masksL ∨ okD (cs t) = true
  lst : st.2.2 = false → st.2.1 ≠ [] → okD (cs (st.2.1.getLastD Str.empty)) = true
  s1 : slen st.1 ≤ B
  s2 : slen st.2.1 ≤ B
structure RM (B : Nat) (st : RowSt) : Prop where
  n1 : st.1 ≠ []
  n2 : st.2.1 ≠ []
  w1 : ∀ t ∈ st.1, Wok (cs t)
  w2 : ∀ t ∈ st.2.1, Wok (cs t)
  m2 : ∀ t ∈ st.2.1, t ∈ masksL ∨ okD (cs t) = true
  lst : st.2.2 = false → okD (cs (st.2.1.getLastD Str.empty)) = true
  s1 : slen st.1 ≤ B
  s2 : slen st.2.1 ≤ B + 10
  s3 : st.2.2 = false → slen st.2.1 ≤ B
theorem split_last {l : List Str} (h : l ≠ []) : ∃ q a, l = q ++ [a] := ⟨_, _, (List.dropLast_concat_getLast h).symm⟩
theorem add_ok {B : Nat} {x : Int} {st : RowSt} (h : RM B st) : RI (B + 10) (rowsAdd x st) := by
  obtain ⟨l1, l2, hid⟩ := st
  obtain ⟨n1, n2, w1, w2, m2, lst, s1, s2, s3⟩ := h
  dsimp only at n1 n2 w1 w2 m2 lst s1 s2 s3
  obtain ⟨q, a, rfl⟩ := split_last n1
  obtain ⟨q2, b, rfl⟩ := split_last n2
  have hp := piece_len x hid
  have e1 : (q ++ [a]).getLastD Str.empty = a := by simp
  have e2 : (q2 ++ [b]).getLastD Str.empty = b := by simp
  rw [e2] at lst
  unfold rowsAdd
  dsimp only
  rw [List.dropLast_concat, List.dropLast_concat, e1, e2]
  have wA : ∀ t ∈ q ++ [a ++ pieceF x hid], Wok (cs t) := by
    intro t ht
    rcases List.mem_append.mp ht with ht | ht
    · exact w1 t (List.mem_append.mpr (.inl ht))
    · rw [List.mem_singleton] at ht
      subst ht
      rw [cs_app]
      exact (w1 a (by simp)).app (piece_ok x hid)
  have sA : slen (q ++ [a ++ pieceF x hid]) ≤ B + 10 := by
    simp only [slen, List.map_append, List.sum_append, List.map_cons, List.map_nil, List.sum_cons, List.sum_nil, Str.length_append] at s1 ⊢
    omega
  cases hid with
  | true =>
    rw [if_pos rfl]
    exact ⟨wA, w2, m2, fun e => (by cases e), sA, s2⟩
  | false =>
    rw [if_neg (by decide)]
    refine ⟨wA, fun t ht => ?_, fun t ht => ?_, fun _ _ => ?_, sA, ?_⟩
    · rcases List.mem_append.mp ht with ht | ht
      · exact w2 t (List.mem_append.mpr (.inl ht))
      · rw [List.mem_singleton] at ht
        subst ht
        rw [cs_app]
        exact (w2 b (by simp)).app (piece_ok x false)
    · rcases List.mem_append.mp ht with ht | ht
      · exact m2 t (List.mem_append.mpr (.inl ht))
      · rw [List.mem_singleton] at ht
        subst ht
        rw [cs_app]
        exact .inr (okD_app (lst rfl) (piece_dots x))
    · dsimp only
      rw [show (q2 ++ [b ++ pieceF x false]).getLastD Str.empty = b ++ pieceF x false by simp, cs_app]
      exact okD_app (lst rfl) (piece_dots x)
    · have := s3 rfl
      dsimp only
      simp only [slen, List.map_append, List.sum_append, List.map_cons, List.map_nil, List.sum_cons, List.sum_nil, Str.length_append] at this ⊢
      omega
theorem new_ok {B : Nat} {x : Int} {st : RowSt} (h : RI B st) : RM B (rowsNew x st) := by
  obtain ⟨l1, l2, hid⟩ := st
  obtain ⟨w1, w2, m2, lst, s1, s2⟩ := h
  dsimp only at w1 w2 m2 lst s1 s2
  have e0 : Str.ofString "" = ⟨#[]⟩ := by decide +kernel
  have hm := mask_len x
  unfold rowsNew
  have wE : Wok (cs (Str.ofString "")) := by rw [e0]; intro c hc; cases hc
  have lE : (Str.ofString "").length = 0 := by rw [e0]; rfl
  refine ⟨by simp, by simp, fun t ht => ?_, fun t ht => ?_, fun t ht => ?_, fun hh => ?_, ?_, ?_, fun hh => ?_⟩
  · rcases List.mem_append.mp ht with ht | ht
    · exact w1 t ht
    · rw [List.mem_singleton] at ht; subst ht; exact wE
  · rcases List.mem_append.mp ht with ht | ht
    · exact w2 t ht
    · rw [List.mem_singleton] at ht
      subst ht
      split
      · exact masks_wok _ (mask_mem x)
      · exact wE
  · rcases List.mem_append.mp ht with ht | ht
    · exact m2 t ht
    · rw [List.mem_singleton] at ht
      subst ht
      split
      · exact .inl (mask_mem x)
      · right; rw [e0]; rfl
  · dsimp only at hh ⊢
    rw [hh]
    simp only [Bool.false_eq_true, if_false]
    rw [List.getLastD_concat, e0]
    rfl
  · dsimp only
    simp only [slen, List.map_append, List.sum_append, List.map_cons, List.map_nil, List.sum_cons, List.sum_nil, lE] at s1 ⊢
    omega
  · dsimp only
    simp only [slen, List.map_append, List.sum_append, List.map_cons, List.map_nil, List.sum_cons, List.sum_nil] at s2 ⊢
    split
    · omega
    · rw [lE]; omega
  · dsimp only at hh ⊢
    rw [hh]
    simp only [slen, List.map_append, List.sum_append, List.map_cons, List.map_nil, List.sum_cons, List.sum_nil, Bool.false_eq_true, if_false, lE] at s2 ⊢
    omega
theorem keep_ok {B : Nat} {st : RowSt} (h : RI B st) (h1 : st.1 ≠ []) (h2 : st.2.1 ≠ []) : RM B st :=
  ⟨h1, h2, h.w1, h.w2, h.m2, fun e => h.lst e h2, h.s1, Nat.le_trans h.s2 (by omega), fun _ => h.s2⟩
theorem rows_ok : ∀ (ns : List Int) (B : Nat) (st : RowSt), st.2.1.length = st.1.length → RI B st → RI (B + 10 * ns.length) (ns.foldl rowsStep st) ∧ (ns.foldl rowsStep st).1.length ≤ st.1.length + ns.length ∧ (ns.foldl rowsStep st).2.1.length ≤ st.1.length + ns.length
  | [], B, st, hl, h => ⟨h, Nat.le_refl _, Nat.le_of_eq hl⟩
  | x :: r, B, st, hl, h => by
    have hs : RI (B + 10) (rowsStep st x) ∧ (rowsStep st x).2.1.length = (rowsStep st x).1.length ∧ (rowsStep st x).1.length ≤ st.1.length + 1 := by
      unfold rowsStep
      by_cases hc : x.fmod 16 < 5 ∨ st.1 = []
      · rw [if_pos hc]
        refine ⟨add_ok (new_ok h), ?_, ?_⟩
        · unfold rowsAdd rowsNew
          dsimp only
          split <;> simp [hl]
        · unfold rowsAdd rowsNew
          simp
      · rw [if_neg hc]
        have n1 : st.1 ≠ [] := fun e => hc (.inr e)
        have n2 : st.2.1 ≠ [] := fun e => n1 (by
          rw [e] at hl
          exact List.eq_nil_of_length_eq_zero hl.symm)
        have p1 := List.length_pos_iff.mpr n1
        have p2 := List.length_pos_iff.mpr n2
        refine ⟨add_ok (keep_ok h n1 n2), ?_, ?_⟩
        · unfold rowsAdd
          dsimp only
          split <;> simp <;> omega
        · unfold rowsAdd
          simp
          try omega
    have ih := rows_ok r (B + 10) (rowsStep st x) hs.2.1 hs.1
    rw [List.foldl_cons]
    refine ⟨?_, ?_, ?_⟩
    · have := ih.1
      rw [List.length_cons, show B + 10 * (r.length + 1) = B + 10 + 10 * r.length by omega]
      exact this
    · rw [List.length_cons]; have := ih.2.1; omega
    · rw [List.length_cons]; have := ih.2.2; omega
theorem rows_inv {ns : List Int} (h : ns.length ≤ 12) : RI 120 (rowsF ns) ∧ (rowsF ns).1.length ≤ 12 ∧ (rowsF ns).2.1.length ≤ 12 := by
  have h0 : RI 0 (([], [], false) : RowSt) := ⟨fun t ht => (List.not_mem_nil ht).elim, fun t ht => (List.not_mem_nil ht).elim, fun t ht => (List.not_mem_nil ht).elim, fun _ e => absurd rfl e, Nat.le_refl _, Nat.le_refl _⟩
  obtain ⟨h1, h2, h3⟩ := rows_ok ns 0 ([], [], false) rfl h0
  refine ⟨⟨h1.w1, h1.w2, h1.m2, h1.lst, Nat.le_trans h1.s1 (by omega), Nat.le_trans h1.s2 (by omega)⟩, ?_, ?_⟩
  · have : (rowsF ns).1.length ≤ 0 + ns.length := h2
    omega
  · have : (rowsF ns).2.1.length ≤ 0 + ns.length := h3
    omega
/-! sizes -/
theorem del_len (y : List Nat) : ∀ (x : List Nat) (k : Nat), (del y k x).length ≤ x.length
  | [], k => by cases k <;> simp [del]
  | c :: r, 0 => by
    rw [del]
    split
    · exact Nat.le_trans (del_len y r _) (by simp)
    · simpa using del_len y r 0
  | c :: r, k + 1 => by rw [del]; exact Nat.le_trans (del_len y r k) (by simp)
theorem reps_len (p : Str) : (repsF p).length ≤ p.length := by
  rw [← cs_len, reps_cs, ← cs_len p]
  exact Nat.le_trans (del_len _ _ _) (by simp)
theorem trim_len : ∀ (n : Nat) (p : Str), (trimN n p).length ≤ p.length
  | 0, p => Nat.le_refl _
  | n + 1, p => by
    rw [trimN]
    split
    · rename_i h
      exact Nat.le_trans (trim_len n _) (Nat.le_of_lt (init_len h.1))
    · exact Nat.le_refl _
theorem strip_len (t : Str) : (Txt.strip t).length ≤ t.length := by
  unfold Txt.strip
  rw [PyProof.Rows.stripBy_eq, ← cs_len, ← cs_len t]
  show (strSub t _ _).cps.toList.length ≤ _
  rw [StrLaws.strSub_toList]
  show (List.take _ (List.drop _ (cs t))).length ≤ _
  rw [List.length_take, List.length_drop]
  omega
theorem sum_strip : ∀ (xs : List Str), slen ((xs.filter ne0).map Txt.strip) ≤ slen xs ∧ ((xs.filter ne0).map Txt.strip).length ≤ xs.length
  | [] => ⟨Nat.le_refl _, Nat.le_refl _⟩
  | t :: r => by
    have ih := sum_strip r
    have := strip_len t
    rw [List.filter_cons]
    split
    · simp only [slen, List.map_cons, List.sum_cons, List.length_cons] at ih ⊢
      omega
    · simp only [slen, List.map_cons, List.sum_cons, List.length_cons] at ih ⊢
      omega
theorem len_le_sum : ∀ {xs : List Str} {t : Str}, t ∈ xs → t.length ≤ slen xs
  | a :: r, t, h => by
    simp only [slen, List.map_cons, List.sum_cons]
    rcases List.mem_cons.mp h with rfl | h
    · omega
    · have := len_le_sum h
      simp only [slen] at this
      omega
theorem joinOk_of {sep : Str} {l : List Str} (h : slen l + l.length * sep.length ≤ 100000) : JoinOk sep l = true := by
  unfold JoinOk
  rw [StrLaws.joinTotal, Bool.not_eq_true']
  have : (2 : Nat) ^ 24 = 16777216 := by decide
  unfold tooLong sizeLine
  exact decide_eq_false (by simp only [slen] at h; omega)
theorem jn_len : ∀ (fs : List Str), slen fs + fs.length ≤ (jn [45] (fs.map cs)).length + 1
  | [] => by simp [slen, jn]
  | [f] => by simp [slen, jn, cs_len]
  | f :: g :: r => by
    have ih := jn_len (g :: r)
    rw [List.map_cons, jn_cons (by simp)]
    simp only [slen, List.map_cons, List.sum_cons, List.length_cons, List.length_append, List.length_nil, cs_len] at ih ⊢
    omega
theorem half_ok {xs : List Str} (hw : ∀ t ∈ xs, Wok (cs t)) (hs : slen xs ≤ 120) (hc : xs.length ≤ 12) : HalfOk xs := by
  have s1 := sum_strip xs
  have l1 : (Str.ofString "-").length = 1 := by decide +kernel
  have hj : (joinedF xs).length ≤ 132 := by
    unfold joinedF
    show (glued _ _).length ≤ _
    rw [StrLaws.glued_eq_join]
    refine Nat.le_trans (StrLaws.join_length_le _ _) ?_
    rw [l1]
    have := s1.1
    simp only [slen] at this hs
    omega
  have hr : (repsF (joinedF xs)).length ≤ 132 := Nat.le_trans (reps_len _) hj
  have he := plat_parts hw (by omega)
  have hp : (platF xs).length ≤ 132 := by
    unfold platF
    refine Nat.le_trans (trim_len _ _) ?_
    exact Nat.le_trans (dashN_ok 1000 _ (by omega)).2.2 hr
  have hq := jn_len (partsF xs)
  rw [show [45] = cs (Str.ofString "-") by decide +kernel, ← cs_tjoin, ← he, cs_len] at hq
  exact {
    each := fun t ht => Nat.le_trans (len_le_sum ht) (by omega)
    each2 := fun t ht => Nat.le_trans (len_le_sum ht) (by omega)
    count := hc
    count2 := by omega
    jok := joinOk_of (by rw [l1]; have := s1.1; omega)
    jlen := Nat.le_trans hj (by omega)
    plen := by omega
    parts := by omega
    pjok := joinOk_of (by rw [l1]; omega)
    eq := he }
end Mine
end Mp6

section Mp7
open PySem PySem.W PySem.Calls PyProof.Rows PySem.Builtin PySem.Builtin.Str
namespace Mine
/-- the pieces, in their order, the first at the front, the last at the end -/
noncomputable def Gm : List (List Nat) → List Nat → Prop
  | [], _ => False
  | [w], g => g = w
  | w :: v :: r, g => ∃ X R, g = w ++ (X ++ R) ∧ Gm (v :: r) R
noncomputable def Seq : List (List Nat) → List Nat → Prop
  | [], _ => True
  | w :: r, g => ∃ A B, g = A ++ (w ++ B) ∧ Seq r B
theorem Seq.more : ∀ {l : List (List Nat)} {g : List Nat} (C : List Nat), Seq l g → Seq l (C ++ g)
  | [], _, _, _ => trivial
  | w :: r, g, C, ⟨A, B, e, h⟩ => ⟨C ++ A, B, by rw [e]; simp, h⟩
theorem seq_nil_cons {l : List (List Nat)} {g : List Nat} : Seq ([] :: l) g ↔ Seq l g := by
  constructor
  · rintro ⟨A, B, e, h⟩
    rw [e]
    exact (h.more []).more A
  · intro h; exact ⟨[], g, rfl, h⟩
theorem seq_snoc_nil : ∀ {l : List (List Nat)} {g : List Nat}, Seq (l ++ [[]]) g ↔ Seq l g
  | [], g => ⟨fun _ => trivial, fun _ => ⟨g, [], by simp, trivial⟩⟩
  | w :: r, g => by
    constructor
    · rintro ⟨A, B, e, h⟩; exact ⟨A, B, e, seq_snoc_nil.mp h⟩
    · rintro ⟨A, B, e, h⟩; exact ⟨A, B, e, seq_snoc_nil.mpr h⟩
theorem gm_seq : ∀ (mid : List (List Nat)) (w0 wl g : List Nat), Gm (w0 :: (mid ++ [wl])) g ↔ ∃ X, g = w0 ++ (X ++ wl) ∧ Seq mid X
  | [], w0, wl, g => by
    constructor
    · rintro ⟨X, R, e, h⟩
      have h' : R = wl := h
      subst h'
      exact ⟨X, e, trivial⟩
    · rintro ⟨X, e, _⟩; exact ⟨X, wl, e, rfl⟩
  | m :: r, w0, wl, g => by
    constructor
    · rintro ⟨X, R, e, h⟩
      obtain ⟨Y, e2, h2⟩ := (gm_seq r m wl R).mp h
      exact ⟨X ++ (m ++ Y), by rw [e, e2]; simp, X, Y, rfl, h2⟩
    · rintro ⟨Z, e, A, B, e2, h2⟩
      exact ⟨A, m ++ (B ++ wl), by rw [e, e2]; simp, (gm_seq r m wl _).mpr ⟨B, rfl, h2⟩⟩
/-! the loop -/
theorem at_take {got w : Str} {e i : Nat} (he : e ≤ got.length) (hi : i ≤ e) : StrLaws.At got w e i ↔ cs w <+: ((cs got).take e).drop i := by
  unfold StrLaws.At
  rw [StrLaws.subAt_eq]
  show (_ ∧ (((cs got).drop i).take w.length == cs w) = true) ↔ _
  rw [beq_iff_eq, List.prefix_iff_eq_take, cs_len]
  have key : i + w.length ≤ e → (((cs got).take e).drop i).take w.length = ((cs got).drop i).take w.length := by
    intro h
    rw [List.drop_take, List.take_take]
    congr 1
    omega
  constructor
  · rintro ⟨h1, h2⟩; rw [key h1]; exact h2.symm
  · intro h
    have h1 := congrArg List.length h
    simp only [cs_len, List.length_take, List.length_drop] at h1
    have h3 : i + w.length ≤ e := by omega
    rw [key h3] at h
    exact ⟨h3, h.symm⟩
theorem loop_ok (got : Str) (e : Nat) (he : e ≤ got.length) : ∀ (xs : List Str) (p : Nat), p ≤ e → (loopF got (e : Int) xs (p : Int) = true ↔ Seq (xs.map cs) (((cs got).take e).drop p))
  | [], p, hp => by simp [loopF, Seq]
  | w :: r, p, hp => by
    rw [loopF]
    have hT : ((cs got).take e).length = e := by rw [List.length_take, cs_len]; omega
    rcases find4_spec got w p e he with ⟨h0, hn⟩ | ⟨i, h0, h1, h2, h3⟩
    · rw [h0, if_pos (by decide)]
      constructor
      · intro h; cases h
      · rintro ⟨A, B, e2, _⟩
        exfalso
        have hl := congrArg List.length e2
        simp only [List.length_drop, hT, List.length_append] at hl
        refine hn (p + A.length) (by omega) ((at_take he (by omega)).mpr ?_)
        rw [← List.drop_drop, e2, drop_app_len]
        exact List.prefix_append _ _
    · rw [h0, if_neg (by omega), show (i : Int) + (w.length : Int) = ((i + w.length : Nat) : Int) by omega]
      have hiw := h2.1
      rw [loop_ok got e he r (i + w.length) (by omega)]
      have hpre := (at_take he (by omega)).mp h2
      have hd : ((cs got).take e).drop i = cs w ++ ((cs got).take e).drop (i + w.length) := by
        obtain ⟨t, ht⟩ := hpre
        rw [← List.drop_drop, ← ht, ← cs_len w, drop_app_len]
      constructor
      · intro h
        refine ⟨(((cs got).take e).drop p).take (i - p), ((cs got).take e).drop (i + w.length), ?_, h⟩
        rw [← hd, show ((cs got).take e).drop i = (((cs got).take e).drop p).drop (i - p) by rw [List.drop_drop]; congr 1; omega, List.take_append_drop]
      · rintro ⟨A, B, e2, h⟩
        have hl := congrArg List.length e2
        simp only [List.length_drop, hT, List.length_append, cs_len] at hl
        have hA : StrLaws.At got w e (p + A.length) := (at_take he (by omega)).mpr (by
          rw [← List.drop_drop, e2, drop_app_len]
          exact List.prefix_append _ _)
        have hmin : i ≤ p + A.length := by
          rcases Nat.lt_or_ge (p + A.length) i with lt | ge
          · exact absurd hA (h3 _ (by omega) lt)
          · exact ge
        have hB : B = ((cs got).take e).drop (p + A.length + w.length) := by
          rw [← List.drop_drop, ← List.drop_drop, e2, drop_app_len, ← cs_len w, drop_app_len]
        have hsuf : ((cs got).take e).drop (i + w.length) = (((cs got).take e).drop (i + w.length)).take (p + A.length - i) ++ B := by
          rw [hB, show ((cs got).take e).drop (p + A.length + w.length) = (((cs got).take e).drop (i + w.length)).drop (p + A.length - i) by rw [List.drop_drop]; congr 1; omega, List.take_append_drop]
        rw [hsuf]
        exact h.more _
theorem starts_iff {x y : Str} : Txt.startswith x y = true ↔ cs y <+: cs x := by
  unfold Txt.startswith
  rw [StrLaws.subAt_eq, Bool.and_eq_true, decide_eq_true_eq]
  show (_ ∧ (((cs x).drop 0).take y.length == cs y) = true) ↔ _
  rw [beq_iff_eq, List.prefix_iff_eq_take, cs_len, List.drop_zero]
  constructor
  · intro h; exact h.2.symm
  · intro h
    refine ⟨?_, h.symm⟩
    have h1 := congrArg List.length h
    simp only [cs_len, List.length_take] at h1
    omega
theorem ends_iff {x y : Str} : Txt.endswith x y = true ↔ cs y <:+ cs x := by
  unfold Txt.endswith
  rw [StrLaws.subAt_eq, Bool.and_eq_true, decide_eq_true_eq]
  show (_ ∧ (((cs x).drop (x.length - y.length)).take y.length == cs y) = true) ↔ _
  rw [beq_iff_eq, List.suffix_iff_eq_drop, cs_len, cs_len]
  constructor
  · rintro ⟨h1, h2⟩
    rw [← h2, List.take_of_length_le]
    rw [List.length_drop, cs_len]; omega
  · intro h
    have h1 := congrArg List.length h
    simp only [cs_len, List.length_drop] at h1
    refine ⟨by omega, ?_⟩
    rw [← h, ← cs_len y, List.take_length]
theorem matchC_ok {got : Str} {xs : List Str} {p e : Nat} (he : e ≤ got.length) : matchC got xs (p : Int) (e : Int) = true ↔ p ≤ e ∧ Seq (xs.map cs) (((cs got).take e).drop p) := by
  unfold matchC
  by_cases h : e < p
  · rw [if_pos (by omega)]
    constructor
    · intro h; cases h
    · rintro ⟨h1, _⟩; omega
  · rw [if_neg (by omega), loop_ok got e he xs p (by omega)]
    exact ⟨fun q => ⟨by omega, q⟩, fun q => q.2⟩
theorem cs_zero {w : Str} (h : ((w.length : Nat) : Int) = 0) : cs w = [] := cs_nil_of (by omega)
theorem matchB_ok {got : Str} (ys : List Str) (wl : Str) (p : Nat) : matchB got (ys ++ [wl]) (p : Int) = true ↔ ∃ Y, Y ++ cs wl = cs got ∧ p ≤ Y.length ∧ Seq (ys.map cs) (Y.drop p) := by
  unfold matchB
  rw [show (ys ++ [wl]).getLastD Str.empty = wl by simp, List.dropLast_concat]
  by_cases h : ((wl.length : Nat) : Int) = 0
  · rw [if_pos h, matchC_ok (Nat.le_refl _), List.map_append, List.map_singleton, cs_zero h, seq_snoc_nil, ← cs_len, List.take_length]
    constructor
    · rintro ⟨h1, h2⟩; exact ⟨cs got, by simp, h1, h2⟩
    · rintro ⟨Y, e, h1, h2⟩
      rw [List.append_nil] at e
      subst e
      exact ⟨h1, h2⟩
  · rw [if_neg h]
    by_cases hw : Txt.endswith got wl = true
    · rw [if_pos hw]
      obtain ⟨Y, e⟩ := ends_iff.mp hw
      have hl := congrArg List.length e
      rw [List.length_append, cs_len, cs_len] at hl
      rw [show (got.length : Int) - (wl.length : Int) = ((Y.length : Nat) : Int) by omega, matchC_ok (by omega), ← e, List.take_left]
      constructor
      · rintro ⟨h1, h2⟩; exact ⟨Y, rfl, h1, h2⟩
      · rintro ⟨Z, e2, h1, h2⟩
        have := List.append_cancel_right e2
        subst this
        exact ⟨h1, h2⟩
    · rw [if_neg hw]
      constructor
      · intro q; cases q
      · rintro ⟨Y, e, _⟩
        exact absurd (ends_iff.mpr ⟨Y, e⟩) hw
theorem matchA_ok {got : Str} (w0 : Str) (mid : List Str) (wl : Str) : matchA got (w0 :: (mid ++ [wl])) = true ↔ Gm (cs w0 :: (mid.map cs ++ [cs wl])) (cs got) := by
  rw [gm_seq]
  unfold matchA
  show (if ((w0.length : Nat) : Int) = 0 then matchB got (w0 :: (mid ++ [wl])) 0 else if Txt.startswith got w0 = true then matchB got (mid ++ [wl]) ((w0.length : Nat) : Int) else false) = true ↔ _
  by_cases h : ((w0.length : Nat) : Int) = 0
  · rw [if_pos h, ← List.cons_append]
    have := matchB_ok (got := got) (w0 :: mid) wl 0
    rw [show ((0 : Nat) : Int) = 0 from rfl] at this
    rw [this, List.map_cons, cs_zero h]
    constructor
    · rintro ⟨Y, e, _, h2⟩
      exact ⟨Y, e.symm, seq_nil_cons.mp h2⟩
    · rintro ⟨X, e, h2⟩
      exact ⟨X, e.symm, Nat.zero_le _, seq_nil_cons.mpr h2⟩
  · rw [if_neg h]
    by_cases hw : Txt.startswith got w0 = true
    · rw [if_pos hw, matchB_ok]
      obtain ⟨Z, e⟩ := starts_iff.mp hw
      constructor
      · rintro ⟨Y, e2, h1, h2⟩
        have hp : cs w0 <+: Y := by
          have q1 : cs w0 <+: cs got := ⟨Z, e⟩
          have q2 : Y <+: cs got := ⟨_, e2⟩
          exact List.prefix_of_prefix_length_le q1 q2 (by rw [cs_len]; exact h1)
        obtain ⟨X, rfl⟩ := hp
        rw [← cs_len, drop_app_len] at h2
        exact ⟨X, by rw [← e2]; simp, h2⟩
      · rintro ⟨X, e2, h2⟩
        refine ⟨cs w0 ++ X, by rw [e2]; simp, by rw [List.length_append, cs_len]; omega, ?_⟩
        rw [← cs_len, drop_app_len]
        exact h2
    · rw [if_neg hw]
      constructor
      · intro q; cases q
      · rintro ⟨X, e2, _⟩
        exact absurd (starts_iff.mpr ⟨_, e2.symm⟩) hw
theorem cs_dots : cs (Str.ofString "...") = D3 := by decide +kernel
theorem matchF_ok {want got : Str} {ps : List (List Nat)} (h : Cuts D3 (cs want) ps) : matchF want got = true ↔ Gm ps (cs got) := by
  have l3 : (Str.ofString "...").length = 3 := by decide +kernel
  have hs := split_cuts (x := want) (y := Str.ofString "...") (by rw [l3]; decide) (by decide +kernel)
  rw [cs_dots] at hs
  have ep := hs.unique h rfl
  unfold matchF
  by_cases hc : (occurrences want (Str.ofString "...") 0 want.length 1).isEmpty = true
  · rw [if_pos hc]
    have hno : ∀ i, ¬ StrLaws.At want (Str.ofString "...") want.length i := by
      intro i hi
      have := (StrLaws.found_iff want (Str.ofString "...")).mpr ⟨i, hi.1, hi.2⟩
      rw [hc] at this
      cases this
    have hcut : Cuts D3 (cs want) [cs want] := .last fun k hk => by
      rw [← cs_dots] at hk
      exact hno k ((at_pre (by rw [l3]; decide) k).mpr hk)
    rw [hcut.unique h rfl |>.symm]
    show (want == got) = true ↔ cs got = cs want
    rw [beq_iff_eq]
    exact ⟨fun e => by rw [e], fun e => (cs_inj e).symm⟩
  · rw [if_neg hc, ← ep]
    have h2 := split_len2 (x := want) (by simpa using hc)
    generalize Txt.split want (Str.ofString "...") = xs at h2
    cases xs with
    | nil => simp at h2
    | cons w0 r =>
      have hr : r ≠ [] := fun e => by rw [e] at h2; simp at h2
      obtain ⟨mid, wl, rfl⟩ := split_last hr
      rw [matchA_ok]
      simp
/-! the marks -/
noncomputable def pre (a : List Nat) : List (List Nat) → List (List Nat)
  | [] => [a]
  | w :: ws => (a ++ w) :: ws
noncomputable def G : List (List Nat) → List (List Nat)
  | [] => [[]]
  | [m] => if m = D3 then [[], []] else [m]
  | m :: n :: r => if m = D3 then [] :: pre [45] (G (n :: r)) else pre (m ++ [45]) (G (n :: r))
theorem pre_ne (a : List Nat) (l : List (List Nat)) : pre a l ≠ [] := by cases l <;> simp [pre]
theorem G_ne : ∀ l, G l ≠ []
  | [] => by simp [G]
  | [m] => by unfold G; split <;> simp
  | m :: n :: r => by
    unfold G
    split
    · simp
    · exact pre_ne _ _
theorem noD_hyph {m : List Nat} {x : List Nat} {N : Nat} (hm : NoD m) (hx : ∀ k, k < N → ¬ D3 <+: x.drop k) : ∀ k, k < m.length + 1 + N → ¬ D3 <+: (m ++ 45 :: x).drop k := by
  intro k hk hp
  by_cases h : k ≤ m.length
  · rw [List.drop_append_of_le_length h] at hp
    exact hm k (pre_short (by decide) hp)
  · have e : (m ++ 45 :: x).drop k = x.drop (k - m.length - 1) := by
      rw [show k = m.length + (1 + (k - m.length - 1)) by omega, ← List.drop_drop, drop_app_len, ← List.drop_drop]
      simp
    rw [e] at hp
    exact hx _ (by omega) hp
theorem cuts_pre {m x : List Nat} {ps : List (List Nat)} (hm : NoD m) (c : Cuts D3 x ps) : Cuts D3 (m ++ 45 :: x) (pre (m ++ [45]) ps) := by
  cases c with
  | last h =>
    show Cuts D3 (m ++ 45 :: x) [m ++ [45] ++ x]
    have e : m ++ [45] ++ x = m ++ 45 :: x := by simp
    rw [e]
    refine .last fun k => ?_
    exact noD_hyph (N := k + 1) hm (fun j _ => h j) k (by omega)
  | @cons p r ps h c =>
    show Cuts D3 (m ++ 45 :: (p ++ (D3 ++ r))) ((m ++ [45] ++ p) :: ps)
    have e : m ++ 45 :: (p ++ (D3 ++ r)) = (m ++ [45] ++ p) ++ (D3 ++ r) := by simp
    rw [e]
    refine .cons (fun k hk => ?_) c
    rw [← e]
    exact noD_hyph (N := p.length) hm h k (by simp at hk; omega)
theorem noD_nil : NoD [] := noD_free (by simp)
theorem cuts_G : ∀ {marks : List (List Nat)}, marks ≠ [] → (∀ m ∈ marks, 45 ∉ m ∧ (m = D3 ∨ NoD m)) → Cuts D3 (jn [45] marks) (G marks)
  | [], h, _ => absurd rfl h
  | [m], _, h => by
    unfold G
    split
    · rename_i e
      subst e
      have : Cuts D3 ([] ++ (D3 ++ [])) ([] :: [[]]) := .cons (fun k hk => by simp at hk) (.last noD_nil)
      exact this
    · rename_i e
      rcases (h m List.mem_cons_self).2 with h2 | h2
      · exact absurd h2 e
      · exact .last h2
  | m :: n :: r, _, h => by
    have ih := cuts_G (marks := n :: r) (by simp) (fun q hq => h q (List.mem_cons_of_mem _ hq))
    show Cuts D3 (m ++ [45] ++ jn [45] (n :: r)) _
    rw [List.append_assoc, List.singleton_append]
    unfold G
    split
    · rename_i e
      subst e
      have := cuts_pre noD_nil ih
      exact .cons (p := []) (fun k hk => by simp at hk) this
    · rename_i e
      rcases (h m List.mem_cons_self).2 with h2 | h2
      · exact absurd h2 e
      · exact cuts_pre h2 ih
noncomputable def Tm : List (List Nat) → List Nat → Prop
  | [], _ => False
  | [m], g => if m = D3 then True else g = m
  | m :: n :: r, g => if m = D3 then ∃ X R, g = X ++ 45 :: R ∧ Tm (n :: r) R else ∃ R, g = m ++ 45 :: R ∧ Tm (n :: r) R
theorem gm_cons {w g : List Nat} {l : List (List Nat)} (h : l ≠ []) : Gm (w :: l) g ↔ ∃ X R, g = w ++ (X ++ R) ∧ Gm l R := by
  cases l with
  | nil => exact absurd rfl h
  | cons v r => exact Iff.rfl
theorem gm_pre {a : List Nat} {ps : List (List Nat)} {g : List Nat} (h : ps ≠ []) : Gm (pre a ps) g ↔ ∃ R, g = a ++ R ∧ Gm ps R := by
  cases ps with
  | nil => exact absurd rfl h
  | cons w l =>
    cases l with
    | nil => exact ⟨fun e => ⟨w, e, rfl⟩, fun ⟨R, e, h⟩ => by have h' : R = w := h; subst h'; exact e⟩
    | cons v r =>
      constructor
      · rintro ⟨X, R, e, h⟩; exact ⟨w ++ (X ++ R), by rw [e]; simp, X, R, rfl, h⟩
      · rintro ⟨S, e, X, R, e2, h⟩; exact ⟨X, R, by rw [e, e2]; simp, h⟩
theorem gm_G : ∀ {marks : List (List Nat)} {g : List Nat}, marks ≠ [] → (Gm (G marks) g ↔ Tm marks g)
  | [], _, h => absurd rfl h
  | [m], g, _ => by
    unfold G Tm
    by_cases e : m = D3
    · rw [if_pos e, if_pos e]
      exact ⟨fun _ => trivial, fun _ => ⟨g, [], by simp, rfl⟩⟩
    · rw [if_neg e, if_neg e]
      exact Iff.rfl
  | m :: n :: r, g, _ => by
    unfold G Tm
    by_cases e : m = D3
    · rw [if_pos e, if_pos e, gm_cons (pre_ne _ _)]
      constructor
      · rintro ⟨X, R, e1, h⟩
        obtain ⟨S, e2, h2⟩ := (gm_pre (G_ne _)).mp h
        exact ⟨X, S, by rw [e1, e2]; simp, (gm_G (by simp)).mp h2⟩
      · rintro ⟨X, R, e1, h⟩
        exact ⟨X, 45 :: R, by rw [e1]; simp, (gm_pre (G_ne _)).mpr ⟨R, rfl, (gm_G (by simp)).mpr h⟩⟩
    · rw [if_neg e, if_neg e, gm_pre (G_ne _)]
      constructor
      · rintro ⟨R, e1, h⟩; exact ⟨R, by rw [e1]; simp, (gm_G (by simp)).mp h⟩
      · rintro ⟨R, e1, h⟩; exact ⟨R, by rw [e1]; simp, (gm_G (by simp)).mpr h⟩
/-- the parts read as the marks -/
noncomputable def Fits : List (List Nat) → List (List Nat) → Prop
  | [], ps => ps = []
  | m :: r, ps => if m = D3 then ∃ A B, A ≠ [] ∧ ps = A ++ B ∧ Fits r B else ∃ B, ps = m :: B ∧ Fits r B
theorem fits_ne {m : List Nat} {r : List (List Nat)} : ¬ Fits (m :: r) [] := by
  unfold Fits
  split
  · rintro ⟨A, B, h1, h2, _⟩
    exact h1 (List.append_eq_nil_iff.mp h2.symm).1
  · rintro ⟨B, h, _⟩; cases h
theorem jn_app {A B : List (List Nat)} (hA : A ≠ []) (hB : B ≠ []) : jn [45] (A ++ B) = jn [45] A ++ 45 :: jn [45] B := by
  induction A with
  | nil => exact absurd rfl hA
  | cons a A ih =>
    cases A with
    | nil => rw [List.singleton_append, jn_cons hB]; simp [jn]
    | cons b A =>
      rw [List.cons_append, jn_cons (x := a) (r := b :: A ++ B) (by simp), ih (by simp), jn_cons (x := a) (r := b :: A) (by simp)]
      simp
theorem tm_fits : ∀ {marks ps : List (List Nat)}, marks ≠ [] → ps ≠ [] → (∀ m ∈ marks, 45 ∉ m) → (∀ p ∈ ps, 45 ∉ p) → (Tm marks (jn [45] ps) ↔ Fits marks ps)
  | [], _, h, _, _, _ => absurd rfl h
  | [m], ps, _, hps, hm, hp => by
    unfold Tm Fits
    by_cases e : m = D3
    · rw [if_pos e, if_pos e]
      exact ⟨fun _ => ⟨ps, [], hps, by simp, rfl⟩, fun _ => trivial⟩
    · rw [if_neg e, if_neg e]
      constructor
      · intro h
        have := sp_jn hps hp
        rw [h, sp_one (hm m List.mem_cons_self)] at this
        exact ⟨[], this.symm, rfl⟩
      · rintro ⟨B, e1, h⟩
        have h' : B = [] := h
        subst h'
        rw [e1]; rfl
  | m :: n :: r, ps, _, hps, hm, hp => by
    have hsp := sp_jn hps hp
    unfold Tm
    show _ ↔ (if m = D3 then ∃ A B, A ≠ [] ∧ ps = A ++ B ∧ Fits (n :: r) B else ∃ B, ps = m :: B ∧ Fits (n :: r) B)
    have hm' : ∀ q ∈ n :: r, 45 ∉ q := fun q hq => hm q (List.mem_cons_of_mem _ hq)
    by_cases e : m = D3
    · rw [if_pos e, if_pos e]
      constructor
      · rintro ⟨X, R, e1, h⟩
        rw [e1, sp_app] at hsp
        refine ⟨sp X, sp R, sp_ne X, hsp.symm, (tm_fits (by simp) (sp_ne R) hm' (sp_free R)).mp ?_⟩
        rw [sp_join]; exact h
      · rintro ⟨A, B, h1, h2, h3⟩
        have hB : B ≠ [] := fun q => by rw [q] at h3; exact fits_ne h3
        subst h2
        exact ⟨jn [45] A, jn [45] B, jn_app h1 hB, (tm_fits (by simp) hB hm' (fun p q => hp p (List.mem_append.mpr (.inr q)))).mpr h3⟩
    · rw [if_neg e, if_neg e]
      constructor
      · rintro ⟨R, e1, h⟩
        rw [e1, sp_app, sp_one (hm m List.mem_cons_self)] at hsp
        refine ⟨sp R, hsp.symm, (tm_fits (by simp) (sp_ne R) hm' (sp_free R)).mp ?_⟩
        rw [sp_join]; exact h
      · rintro ⟨B, h2, h3⟩
        have hB : B ≠ [] := fun q => by rw [q] at h3; exact fits_ne h3
        subst h2
        refine ⟨jn [45] B, ?_, (tm_fits (by simp) hB hm' (fun p q => hp p (List.mem_cons_of_mem _ q))).mpr h3⟩
        rw [jn_cons hB]; simp
/-! the law's own reading -/
theorem mem_rangeL {a b k : Int} : k ∈ rangeL a b ↔ a ≤ k ∧ k < b := by
  unfold rangeL rangeKs
  rw [List.mem_map]
  constructor
  · rintro ⟨i, hi, e⟩
    have := List.mem_range.mp hi
    omega
  · rintro ⟨h1, h2⟩
    exact ⟨(k - a).toNat, List.mem_range.mpr (by omega), by omega⟩
theorem rangeL_sorted (a b : Int) : (rangeL a b).Pairwise (· ≤ ·) := by
  unfold rangeL rangeKs
  rw [List.pairwise_map]
  exact List.pairwise_lt_range.imp fun h => by omega
theorem fitsL_ok (parts : List Str) : ∀ (marks : List Str) (pn : List Int), pn.Pairwise (· ≤ ·) → (∀ k ∈ pn, 0 ≤ k ∧ k ≤ (parts.length : Int)) →
    (fitsL parts marks pn = true ↔ ∃ k : Nat, (k : Int) ∈ pn ∧ Fits (marks.map cs) ((parts.map cs).drop k))
  | [], pn, hs, hb => by
    unfold fitsL
    rw [List.any_eq_true]
    constructor
    · rintro ⟨k, hk, e⟩
      rw [beq_iff_eq] at e
      subst e
      refine ⟨parts.length, hk, ?_⟩
      show List.drop _ _ = []
      exact List.drop_of_length_le (by simp)
    · rintro ⟨k, hk, e⟩
      have e' : (parts.map cs).drop k = [] := e
      have h1 := congrArg List.length e'
      simp only [List.length_drop, List.length_map, List.length_nil] at h1
      have h2 := hb _ hk
      exact ⟨(k : Int), hk, by rw [beq_iff_eq]; omega⟩
  | mark :: r, pn, hs, hb => by
    unfold fitsL
    by_cases hpn : pn = []
    · rw [if_pos hpn]
      constructor
      · intro h; cases h
      · rintro ⟨k, hk, _⟩; rw [hpn] at hk; cases hk
    · rw [if_neg hpn]
      obtain ⟨m1, m2⟩ := head_min hs hpn
      show _ ↔ ∃ k : Nat, (k : Int) ∈ pn ∧ (if cs mark = D3 then ∃ A B, A ≠ [] ∧ (parts.map cs).drop k = A ++ B ∧ Fits (r.map cs) B else ∃ B, (parts.map cs).drop k = cs mark :: B ∧ Fits (r.map cs) B)
      unfold fitsStep
      by_cases e : mark = Str.ofString "..."
      · have e3 : cs mark = D3 := by rw [e, cs_dots]
        rw [if_pos e]
        simp only [if_pos e3]
        obtain ⟨h01, h02⟩ := hb _ m1
        obtain ⟨p0, hp0⟩ := Int.eq_ofNat_of_zero_le h01
        rw [hp0] at m1 m2 h02 ⊢
        rw [fitsL_ok parts r _ (rangeL_sorted _ _) (fun k hk => by have := mem_rangeL.mp hk; omega)]
        constructor
        · rintro ⟨k, hk, h⟩
          have hk' := mem_rangeL.mp hk
          refine ⟨p0, m1, ((parts.map cs).drop p0).take (k - p0), (parts.map cs).drop k, ?_, ?_, h⟩
          · intro q
            have := congrArg List.length q
            simp only [List.length_take, List.length_drop, List.length_map, List.length_nil] at this
            omega
          · rw [show (parts.map cs).drop k = ((parts.map cs).drop p0).drop (k - p0) by rw [List.drop_drop]; congr 1; omega, List.take_append_drop]
        · rintro ⟨k, hk, A, B, hA, eAB, h⟩
          have h1 := m2 _ hk
          have hl := congrArg List.length eAB
          simp only [List.length_drop, List.length_map, List.length_append] at hl
          have hA' := List.length_pos_iff.mpr hA
          refine ⟨k + A.length, mem_rangeL.mpr (by omega), ?_⟩
          rw [← List.drop_drop, eAB, show (A ++ B).drop A.length = B by simp]
          exact h
      · have e3 : cs mark ≠ D3 := fun q => e (cs_inj (by rw [q, cs_dots]))
        rw [if_neg e]
        simp only [if_neg e3]
        rw [fitsL_ok parts r _ (by
            rw [List.pairwise_map]
            exact (hs.filter _).imp fun h => by omega) (fun k hk => by
            obtain ⟨j, hj, ej⟩ := List.mem_map.mp hk
            obtain ⟨hj1, hj2⟩ := List.mem_filter.mp hj
            have h1 := hb _ hj1
            rw [Bool.and_eq_true, decide_eq_true_eq] at hj2
            omega)]
        have key : ∀ k : Nat, k < parts.length → (parts.map cs).drop k = cs (parts.getD k Str.empty) :: (parts.map cs).drop (k + 1) := by
          intro k hk
          have hk' : k < (parts.map cs).length := by simpa using hk
          rw [List.drop_eq_getElem_cons hk']
          simp [List.getD, List.getElem?_eq_getElem hk]
        constructor
        · rintro ⟨k, hk, h⟩
          obtain ⟨j, hj, ej⟩ := List.mem_map.mp hk
          obtain ⟨hj1, hj2⟩ := List.mem_filter.mp hj
          rw [Bool.and_eq_true, decide_eq_true_eq, beq_iff_eq] at hj2
          have h1 := hb _ hj1
          obtain ⟨i, rfl⟩ := Int.eq_ofNat_of_zero_le h1.1
          have hik : k = i + 1 := by omega
          subst hik
          refine ⟨i, hj1, (parts.map cs).drop (i + 1), ?_, h⟩
          rw [key i (by omega)]
          have := hj2.2
          rw [Int.toNat_natCast] at this
          rw [this]
        · rintro ⟨k, hk, B, eB, h⟩
          have hl := congrArg List.length eB
          simp only [List.length_drop, List.length_map, List.length_cons] at hl
          rw [key k (by omega)] at eB
          injection eB with e4 e5
          refine ⟨k + 1, List.mem_map.mpr ⟨(k : Int), List.mem_filter.mpr ⟨hk, ?_⟩, by omega⟩, ?_⟩
          · rw [Bool.and_eq_true, decide_eq_true_eq, beq_iff_eq, Int.toNat_natCast]
            exact ⟨by omega, cs_inj e4⟩
          · rw [e5]; exact h
theorem match_fits {row masked : List Str} (er : platF row = Txt.join (Str.ofString "-") (partsF row)) (em : platF masked = Txt.join (Str.ofString "-") (partsF masked))
    (hm : ∀ m ∈ (partsF masked).map cs, 45 ∉ m ∧ (m = D3 ∨ NoD m)) : matchF (platF masked) (platF row) = fitsL (partsF row) (partsF masked) [0] := by
  have e0 : cs (Str.ofString "-") = [45] := by decide +kernel
  have n1 : (partsF masked).map cs ≠ [] := by simpa using parts_ne
  have n2 : (partsF row).map cs ≠ [] := by simpa using parts_ne
  have c1 : cs (platF masked) = jn [45] ((partsF masked).map cs) := by rw [em, cs_tjoin, e0]
  have c2 : cs (platF row) = jn [45] ((partsF row).map cs) := by rw [er, cs_tjoin, e0]
  rw [Bool.eq_iff_iff, matchF_ok (by rw [c1]; exact cuts_G n1 hm), gm_G n1, c2, tm_fits n1 n2 (fun m q => (hm m q).1) parts_free,
    fitsL_ok _ _ _ (by simp) (fun k hk => by simp at hk; omega)]
  constructor
  · intro h; exact ⟨0, by simp, by simpa using h⟩
  · rintro ⟨k, hk, h⟩
    have : k = 0 := by simp at hk; omega
    subst this
    simpa using h
theorem plain_ok (ns : List Int) (h : ns.length ≤ 12) : PlainOk (rowsF ns).1 (rowsF ns).2.1 := by
  obtain ⟨I, c1, c2⟩ := rows_inv h
  have h1 := half_ok I.w1 I.s1 c1
  have h2 := half_ok I.w2 I.s2 c2
  exact ⟨h1, h2, match_fits h1.eq h2.eq (marks_ok I.w2 I.m2)⟩
end Mine
end Mp7

section Mlaw
open PySem PySem.W PySem.Calls PyProof.Rows PySem.Builtin PySem.Builtin.Str PyProof.Rows.LCg PyProof.Rows.LCt
namespace Mine
theorem fill10 (w : World) : hd.heap_39 w.params = hd.heap_39 w.params ∧ PySem.Challenge.rw_mq0143_01 = PySem.Challenge.rw_mq0143_01 := by
  k_fill
  exact ⟨rfl, rfl⟩
theorem enterL {w : World} {A : Around} {s : Shared} {K : Frag} {mg mb : Str → Option Value} {p : Program} {loose : List Str} {R : Result → Shared → Prop} {name qual : Str} {params : Arguments} {body : List Stmt} {scope : Scope} {dV kV doc pm cdv ct oc : Value} {an od : Option Addr} {osl : Array (Option Value)} {f : Addr} {pos : List Value} {kw : List (Str × Value)} {binds : List (Str × Value)} {ps : Array Value}
    (X : K.In s.heap) (T : TopRead p loose mg mb s.heap) (hP : s.heap.get? 23 = some (tabObj ps))
    (ho : K.lookup f = some ⟨oc, od, .func (fnOf name qual params body scope dV kV doc pm an cdv ct), osl⟩) (hcd : codeIn K cdv qual = true) (hroom : A.depth < recursionLimit)
    (hbind : BindsTo s (fnOf name qual params body scope dV kV doc pm an cdv ct) ⟨pos, kw⟩ binds) (hloc : ∀ y ∈ binds, scope.names.lookup y.1 = some .local)
    (h : ∀ L' h₁, Fr (s.heap.hide 23) L' h₁ (fun y => binds.reverse.lookup y) → News (s.heap.hide 23) L' h₁ [(23, tabObj ps)] → Keep s.heap h₁ →
      wpAny (model PR w) (A.deeper (envOf qual scope L' f cdv)) (execs body (envOf qual scope L' f cdv))
        (fun fl s' => R (.ok (.ret (match fl with | .ret v => v | _ => .none))) s') (fun _ _ => False)
        { s with heap := h₁, toks := s.toks + binds.length })
    (hco : scope.isCoroutine = false) (hgen : scope.isGenerator = false) (hk : scope.kind = .function)
    (hcell : ∀ x ∈ scope.names, x.2 ≠ .cell) : codeAny (model PR w) A (.call (.ref f) ⟨pos, kw⟩) R s := by
  refine codeAny_call_def (fd := fnOf name qual params body scope dV kV doc pm an cdv ct) (body := body) (binds := binds) hroom (X _ _ ho) rfl T.nolimit (codeRec_of X hcd) rfl hbind hcell hloc (fun h₁ hns hk₁ => ?_) hco hgen hk
  refine wpAny_mono (h s.heap.objs.size h₁ ⟨hns, fun b o e => hk₁ b o (Heap.of_hide e), Nat.le_of_eq (Heap.hide_size _ _)⟩ (fun q hq => ?_) hk₁) (fun _ _ x => x) (fun _ _ x => x.elim)
  rw [List.mem_singleton] at hq
  subst hq
  exact ⟨hk₁ _ _ hP, Nat.ne_of_lt (Heap.lt_size hP), Heap.hide_self _ _⟩
theorem rows_call2 {w : World} {mg mb m : Str → Option Value} {e1 : Env} {s : Shared} {h₀ : Heap} {L : Addr} {news : List (Addr × Obj)} {Q E : Value → Shared → Prop} {l : Addr} {vs : List Value} {ns : List Int} (F : Fr h₀ L s.heap m) (N : News h₀ L s.heap news) (X : (hd.heap_39 w.params).In h₀) (T : TR mg mb h₀) (hl : s.heap.IsList l vs.toArray) (hi : IntsAre vs ns) (hlen : ns.length ≤ 12)
    (h : ∀ h' tk at' (lr lm : Addr) (vr vm : List Value) (nr nm : Nat) row masked, Fr h₀ L h' m → News h₀ L h' ((at', tupObj [.ref lr, .ref lm]) :: (lr, listOf vr.toArray nr) :: (lm, listOf vm.toArray nm) :: news) → StrsAre vr row → StrsAre vm masked → HalfOk row → HalfOk masked → matchF (platF masked) (platF row) = fitsL (partsF row) (partsF masked) [0] → Q (.ref at') { s with heap := h', toks := tk }) :
    wpAny (model PR w) (callerA.deeper e1) (call (.ref 42) [.ref l]) Q E s :=
  rows_call F N X T hl hi hlen fun h' tk at' lr lm vr vm nr nm F' N' S1 S2 => h h' tk at' lr lm vr vm nr nm _ _ F' N' S1 S2 (plain_ok ns hlen).okR (plain_ok ns hlen).okM (plain_ok ns hlen).eq
local macro_rules | `(tactic| walk_at $s:str) => `(tactic| k_extra $s)
local macro_rules | `(tactic| walk_at "my cut") => `(tactic| first | exact Cut.nil | ((refine' Cut.keep ?cc1 ?cc2); (case cc1 => (intro e9; cases e9; done)); (case cc2 => walk_at "my cut")) | ((refine' Cut.skip ?cc2); (case cc2 => walk_at "my cut")))
theorem star_strs {prog : Program} {w : World} {A : Around} {E : Value → Shared → Prop} {s : Shared} {h₀ : Heap} {L a : Addr} {m : Str → Option Value} {news : List (Addr × Obj)} {vs : List Value} {n : Nat} {xs : List Str} {Q : List Value → Shared → Prop} (F : Fr h₀ L s.heap m) (N : News h₀ L s.heap news) (ha : (a, listOf vs.toArray n) ∈ news) (S : StrsAre vs xs) (hx : HalfOk xs)
    (h : ∀ h', Fr h₀ L h' m → News h₀ L h' news → Q vs { s with heap := h' }) : StarOf (model prog w) A E (.ref a) Q s :=
  star_seq F N ha rfl rfl (.inl rfl) rfl (by rw [List.size_toArray, S.length, sizeLine_eq]; have := hx.count2; omega) h
theorem strs_values : ∀ {vs : List Value} {xs : List Str}, StrsAre vs xs → ∃ l : List (Str × Tok), vs = strValues l ∧ l.map (·.1) = xs
  | _, _, .nil => ⟨[], rfl, rfl⟩
  | _, _, .cons y t r => let ⟨l, e1, e2⟩ := strs_values r; ⟨(y, t) :: l, by rw [e1]; rfl, by rw [← e2]; rfl⟩
theorem join_strs {prog : Program} {w : World} {A : Around} {E : Value → Shared → Prop} {s : Shared} {a : Addr} {vs : List Value} {xs : List Str} {sep : Str} {t : Tok} {Q : Value → Shared → Prop} (hl : s.heap.IsList a vs.toArray) (S : StrsAre vs xs) (hok : JoinOk sep xs = true)
    (h : ∀ t' k, Q (.str (Txt.join sep xs) t') { s with toks := k }) : wpAny (model prog w) A (call (.builtin "str.join") [.str sep t, .ref a]) Q E s := by
  obtain ⟨l, e1, e2⟩ := strs_values S
  subst e1
  exact SC.join hl e2 hok h
noncomputable def LawPost (s : Shared) (R : Result → Shared → Prop) : Prop := ∀ s' ps', Heap.ExtBut 23 s.heap s'.heap → s'.heap.get? 23 = some (tabObj ps') → AllBare s'.gens → s'.os = s.os → R (.ok (.ret (.bool true))) s'
theorem no_ne {xs : List Str} (h : HalfOk xs) (e : (platF xs != Txt.join (Str.ofString "-") (partsF xs)) = true) : False := by
  rw [h.eq] at e; simp at e
theorem no_ne2 {xs : List Str} (e : (platF xs != Txt.join (Str.ofString "-") (partsF xs)) = true) (h : HalfOk xs) : False := no_ne h e
theorem law_end {R : Result → Shared → Prop} {s' : Shared} {a b : Bool} (e : a = b) (h : R (.ok (.ret (.bool true))) s') : R (.ok (.ret (.bool (a == b)))) s' := by
  subst e; simpa using h
set_option maxRecDepth 100000 in
set_option maxHeartbeats 1500000 in
theorem law_spec {w : World} {mg mb : Str → Option Value} {s : Shared} {l : Addr} {vs : List Value} {ns : List Int} {bm : Addr} {ob : Obj} {R : Result → Shared → Prop}
    (X : (hd.heap_39 w.params).In s.heap) (T : TR mg mb s.heap) (M : BMod s.heap mainGlobals mg bm ob) (C : CodeHd s.heap 27 23) (hP : s.heap.get? 23 = some (tabObj #[])) (G : AllBare s.gens)
    (hl : s.heap.IsList l vs.toArray) (hi : IntsAre vs ns) (hlen : ns.length ≤ 63) (h : LawPost s R) :
    codeAny (model PR w) callerA (.call (.ref 57) ⟨[.ref l], []⟩) R s := by
  k_with_none
  k_with "call ref" => (k_here; (with_reducible show wpAny _ _ (call (Value.ref 42) _) _ _ _); k_dflt (refine' rows_call2 (by k_asm) (by k_asm) (by k_asm) (by k_asm) (by is_list) (by first | assumption | ints_lit) (by first | decide | (simp; omega)) ?_; k_whole); intro h' tk' at' lr' lm' vr' vm' nr' nm' row' masked' F' N' S1' S2' ok1' ok2' eq'; (try k_sweep))
  k_with "call ref" => (k_here; (with_reducible show wpAny _ _ (call (Value.ref 47) _) _ _ _); k_dflt (refine' parts_call (by k_asm) (by k_asm) (by k_asm) (by k_asm) (by is_list) (by assumption) (by exact HalfOk.each (by assumption)) (by exact HalfOk.count (by assumption)) ?_; k_whole); intro h' tk' D' vs' n' F' N' S1'; (try k_sweep))
  k_with "call ref" => (k_here; (with_reducible show wpAny _ _ (call (Value.ref 28) _) _ _ _); k_dflt (refine' plat_call (by k_asm) (by k_asm) (by k_asm) (by k_asm) (by assumption) (by assumption) (by assumption) (by k_mem) (by assumption) (by assumption) (by walk_at "my cut") (by assumption) (by exact HalfOk.each2 (by assumption)) (by exact HalfOk.count2 (by assumption)) (by exact HalfOk.jok (by assumption)) (by exact HalfOk.jlen (by assumption)) ?_; k_whole); intro s' t' ps' F' N' tr' G' os'; (try k_sweep))
  k_with "call ref" => (k_here; (with_reducible show wpAny _ _ (call (Value.ref 21) _) _ _ _); k_dflt (refine' match_call (by k_asm) (by k_asm) (by k_asm) (by k_asm) (by exact HalfOk.plen (by assumption)) (by exact HalfOk.plen (by assumption)) ?_; k_whole); intro h' tk' F' N'; (try k_sweep))
  k_with "call ref" => (k_here; (with_reducible show wpAny _ _ (call (Value.ref 52) _) _ _ _); k_dflt (refine' fits_call (by k_asm) (by k_asm) (by k_asm) (by k_asm) (by is_list) (by is_list) (by assumption) (by assumption) (by exact HalfOk.parts (by assumption)) (by exact HalfOk.parts (by assumption)) ?_; k_whole); intro h' tk' F' N'; (try k_sweep))
  k_with "StarOf ref" => (k_here; k_dflt (refine' star_strs (by k_asm) (by k_asm) (by k_mem) (by assumption) (by assumption) ?_; k_whole); intro h' F' N'; (try k_sweep); (try dsimp only [List.nil_append]))
  k_with "call builtin:str.join" => (k_here; k_dflt (refine' join_strs (by is_list) (by assumption) (by exact HalfOk.pjok (by assumption)) ?_; k_whole); intro t' k'; (try k_sweep))
  refine' enterL (binds := [(Str.ofString "script", .ref l)]) X T hP ?k6 ?k7 ?k8 ?k9 ?kB ?_ ?c2 ?c3 ?c4 ?c5
  (case k6 => k_is); (case k7 => k_is); (case k8 => k_room); (case k9 => exact BindsTo.of_eq rfl); (case c5 => decide); (case kB => exact locs rfl); (case c2 => exact rfl); (case c3 => exact rfl); (case c4 => exact rfl)
  k_whole
  intro L' h' F' N' hk'
  have Xb := noTab X hP rfl
  have Tb : TR mg mb (s.heap.hide 23) := hide_top T
  have Mb := hide_bmod M hP
  have Cb := hide_code C
  have hb : (s.heap.hide 23).get? 23 = none := Heap.hide_self _ _
  have htr : TriplesOk (#[] : Array Value).toList := by exact True.intro
  have hlb : (s.heap.hide 23).IsList l vs.toArray := hl.at fun o e => by
    rw [Heap.hide_ne _ (fun ea => ?_)]
    · exact e
    · obtain ⟨o', e1, e2, _⟩ := hl
      rw [ea, hP] at e1
      rw [← Option.some.inj e1] at e2
      cases e2
  clear X T M C hl
  try dsimp only
  try k_fold
  k_steps
  all_goals (try dsimp only)
  all_goals first
    | exact (no_ne2 (by assumption) (by assumption)).elim
    | (refine law_end ?_ ?_
       · assumption
       · rename News _ _ _ _ => qN
         have q := qN _ List.mem_cons_self
         refine h _ _ (fr_ext (by assumption)) q.1 ?_ ?_
         · assumption
         · exact Eq.trans (by assumption) (by assumption))
end Mine
end Mlaw

section Mfin
open PySem PySem.W PySem.Calls PyProof.Rows
namespace Mine
theorem old_of {h h' : Heap} {ps : Array Value} (C : CodeHd h 27 23) (hP : h.get? 23 = some (tabObj #[])) (hx : Heap.ExtBut 23 h h') (h1 : h'.get? 23 = some (tabObj ps)) : OldK h h' := by
  refine ⟨fun b o e => ?_, fun b o e => ?_⟩
  · by_cases hb : b = 23
    · subst hb
      rw [hP] at e
      cases e
      exact .inr (.inl ⟨(C.tab hP).isCodeTable, rfl, #[], ps, rfl, by rw [Array.empty_append]; exact h1⟩)
    · exact .inl (hx b o hb e)
  · by_cases hb : b = 23
    · subst hb; exact ⟨_, h1⟩
    · exact ⟨o, hx b o hb e⟩
set_option maxRecDepth 100000 in
set_option maxHeartbeats 4000000 in
theorem law_t : PySem.Challenge.rw_mq0143_01.Holds := by
  k_with_none
  refine Mine.hd ?_
  k_fill
  intro w s₀ s₁ mg mb G Y fa o pm cd doc dV kV ho hd hcd hD hmg hg args vals as hpre hlay hrd hwl hlo
  have KX := kIn_of Y
  have X := (Ground.X G).1
  have V := (Ground.X G).2
  refine Ground.open G ?_
  intro T B D TE TW
  try (refine guard_noD D (by decide +kernel) ?_; clear D)
  obtain ⟨_, _, M⟩ := bmod_of_top T
  have TA := at_of_top T
  have TB := tab_of (x := PySem.Str.ofString "_platform") (c := 27) (P := 23) T KX rfl (by kernel_rfl)
  have e57 : mg (PySem.Str.ofString "law") = some (Value.ref 57) := mg_of KX T.g (by kernel_rfl)
  have efa : fa = 57 := by
    have e2 : mg (PySem.Str.ofString "law") = some (Value.ref fa) := hmg
    rw [e57] at e2
    exact (Value.ref.inj (Option.some.inj e2)).symm
  subst efa
  wrow_args hpre hlay hrd hwl hlo
  all_goals (
    first | refine callC_kw (enter_call ?_) | refine enter_call ?_ | refine callC_kw (enter_callW ?_) | refine enter_callW ?_ | w_how)
  have TRd : TR mg mb s₁.heap := topRead_of T
  refine law_spec KX TRd (by assumption) TB.1 TB.2 (AllBare.of_eq hg) (by assumption) (by assumption) (by omega) ?_
  · intro s' ps' hx h1 hG hos
    refine ⟨.inl ⟨.bool true, .bool true, [], rfl, fun _ => rfl, .bool _, ?_, ?_⟩, old_of TB.1 TB.2 hx h1, hos, hG⟩
    · exact postW_of (by wrow_shape) (by wtm_val) (by str_meet; first | done | w_fin)
    · intro _; exact ⟨List.nodup_nil, by simp⟩
end Mine
end Mfin

set_option maxRecDepth 100000 in
set_option maxHeartbeats 8000000 in
theorem PySem.Challenge.cw_mq0143_01_holds : PySem.Challenge.rw_mq0143_01.Holds := by
  exact Mine.law_t
