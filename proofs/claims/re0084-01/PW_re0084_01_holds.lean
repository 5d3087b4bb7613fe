import PyProof.Rows.All
import Wide.All
import OpenK.AllK
import Wide.FinOn
import Lean
import PySem.Challenge.RW_re0084_01
set_option Elab.async false
set_option linter.all false
set_option compiler.extract_closed false
section
open PySem PySem.W PyProof.Rows
set_option maxRecDepth 100000
set_option maxHeartbeats 8000000
namespace Mine
-- the same arithmetic by a prover whose proofs are shorter
local macro_rules | `(tactic| omega) => `(tactic| first | lia | omega +splitDisjunctions)
open_top hd for PySem.Challenge.rw_re0084_01
/-- the head leaves the walker's mode on; the contracts are walked with it off -/
theorem mode_off : True := by
  w_top off
  trivial
end Mine
end
namespace Mine
section
open PySem PySem.W PySem.Calls PyProof.Rows
-- the same arithmetic by a prover whose proofs are shorter
local macro_rules | `(tactic| omega) => `(tactic| first | lia | omega +splitDisjunctions)
section
set_option maxRecDepth 100000
set_option maxHeartbeats 8000000

/-- keeps what was generalized apart in the proof term -/
theorem barrier {p : Prop} (h : p) : p := h
theorem wpAny_wk {α : Type} {M : Model} {A A' : Around} {t : Sem α} {Q : α → Shared → Prop} {E : Value → Shared → Prop} {s : Shared}
    (h : wpAny M A' t Q E s) (hh : A.handled = A'.handled) (hd : A.depth ≤ A'.depth) (hf : A'.frames = none) (hg : A'.guards = none) (hu : A.units ≤ A'.units) : wpAny M A t Q E s :=
  fun Γ p hΓ => h Γ p ⟨hΓ.1.trans hh, Nat.le_trans hΓ.2.1 hd, (fun l hl => by rw [hf] at hl; cases hl), (fun g hl => by rw [hg] at hl; cases hl), Nat.le_trans hΓ.2.2.2.2 hu⟩

noncomputable abbrev AA (d u : Nat) : Around := { handled := none, depth := d, frames := none, guards := none, units := u }

theorem enter {prog : Program} {w : World} {A : Around} {s : Shared} {K : Frag} {p : Program} {loose : List Str} {mean : ExcName → Option Value} {mg mb : Str → Option Value}
    {Q E : Value → Shared → Prop} {name qual : Str} {params : Arguments} {body : List Stmt} {scope : Scope} {dV kV doc pm cdv ct oc : Value} {an od : Option Addr} {osl : Array (Option Value)} {f : Addr} {vs : List Value} {binds : List (Str × Value)}
    (X : K.In s.heap) (T : Top p loose mean mg mb s.heap)
    (ho : K.lookup f = some ⟨oc, od, .func (fnOf name qual params body scope dV kV doc pm an cdv ct), osl⟩) (hcd : codeIn K cdv qual = true) (hroom : A.depth < recursionLimit)
    (hbind : BindsTo s (fnOf name qual params body scope dV kV doc pm an cdv ct) ⟨vs, []⟩ binds) (hloc : ∀ y ∈ binds, scope.names.lookup y.1 = some .local)
    (h : ∀ L' h₁, Fr s.heap L' h₁ (fun y => binds.reverse.lookup y) → News s.heap L' h₁ [] →
      wpAny (model prog w) (A.deeper (envOf qual scope L' f cdv)) (execs body (envOf qual scope L' f cdv))
        (fun fl s' => Q (match fl with | .ret v => v | _ => .none) s')
        (fun _ _ => False)
        { s with heap := h₁, toks := s.toks + binds.length })
    (hco : scope.isCoroutine = false) (hgen : scope.isGenerator = false) (hk : scope.kind = .function)
    (hcell : ∀ x ∈ scope.names, x.2 ≠ .cell) : wpAny (model prog w) A (call (.ref f) vs) Q E s := by
  refine wpAny_call ?_
  refine codeAny_call_def (fd := fnOf name qual params body scope dV kV doc pm an cdv ct) (body := body) (binds := binds) hroom (X _ _ ho) rfl T.nolimit (codeRec_of X hcd) rfl hbind hcell hloc (fun h₁ hns hk₁ => ?_) hco hgen hk
  exact wpAny_mono (h s.heap.objs.size h₁ ⟨hns, hk₁, Nat.le_refl _⟩ News.nil) (fun _ _ x => x) (fun _ _ x => x.elim)

/-- a call that keeps all that stands -/
noncomputable def Ctr (w : World) (f : Addr) (d u : Nat) (vs : List Value) (post : Heap → Value → Heap → Prop) : Prop :=
  ∀ (mean : ExcName → Option Value) (mg mb : Str → Option Value) (s : Shared) (Q E : Value → Shared → Prop),
    (hd.heap_39 w.params).In s.heap → Top hd.view_39 (looseW hd.view_39 []) mean mg mb s.heap →
    (∀ v h' tk', (∀ b o, s.heap.get? b = some o → h'.get? b = some o) → post s.heap v h' → Q v { s with heap := h', toks := tk' }) →
    wpAny (model Challenge.rw_re0084_01.prog w) (AA d u) (call (.ref f) vs) Q E s

noncomputable def withK : List (Str × Value) → (Str → Option Value) → Str → Option Value
  | [], m => m
  | (x, v) :: r, m => fun y => if y = x then some v else withK r m y
theorem withK_eq : ∀ (l : List (Str × Value)) (m : Str → Option Value), (∀ p ∈ l, m p.1 = some p.2) → withK l m = m
  | [], _, _ => rfl
  | (x, v) :: r, m, h => by
    funext y
    have ih := withK_eq r m fun p hp => h p (.tail _ hp)
    show (if y = x then some v else withK r m y) = m y
    rw [ih]
    split
    · next e => rw [e]; exact (h (x, v) (.head _)).symm
    · rfl
theorem fr_with {B h : Heap} {L : Addr} {m : Str → Option Value} (F : Fr B L h m) (l : List (Str × Value)) (hl : ∀ p ∈ l, m p.1 = some p.2) : Fr B L h (withK l m) := by rw [withK_eq l m hl]; exact F
/-- the frame's first map is put out of sight, but for the names that are said -/
theorem hide_map {B h : Heap} {L : Addr} {m : Str → Option Value} (F : Fr B L h m) (l : List (Str × Value)) (hl : ∀ p ∈ l, m p.1 = some p.2) : ∃ m0, Fr B L h (withK l m0) := ⟨m, fr_with F l hl⟩
end
local macro_rules | `(tactic| cell_enter) => `(tactic| (refine' enter ?k3 ?k5 ?k6 ?k7 ?k8 ?k9 ?kB ?_ ?c2 ?c3 ?c4 ?c5; (case k3 => k_asm); (case k5 => k_asm); (case k6 => k_is); (case k7 => k_is); (case k8 => decide); (case k9 => exact BindsTo.of_eq rfl); (case c5 => decide); (case kB => exact locs rfl); (case c2 => exact rfl); (case c3 => exact rfl); (case c4 => exact rfl); k_whole; intro L' h' F' N'; (try dsimp only); (try k_fold)))
section
set_option maxRecDepth 100000
set_option maxHeartbeats 8000000
local macro_rules | `(tactic| walk_at "call builtin:list.pop") => `(tactic| k_extra "call builtin:list.pop")
local macro_rules | `(tactic| walk_at "getMethod ref") => `(tactic| k_extra "getMethod ref")
local macro_rules | `(tactic| walk_at "call builtin:list.index") => `(tactic| k_extra "call builtin:list.index")

noncomputable def costI (a b : Str) : Int := if a = b then 0 else if Txt.lower a = Txt.lower b then 1 else 2
theorem cost_ctr (w : World) (a b : Str) (ta tb : Tok) (ha : a.length = 1) (hb : b.length = 1) :
   Ctr w 56 330 60 [.str a ta, .str b tb] (fun _ v _ => ∃ t, v = .int (costI a b) t) := by
  unfold Ctr
  k_fill
  intro mean mg mb s Q E hK hT hret
  k_dflt cell_enter
  rename Fr _ _ _ _ => Fa
  obtain ⟨m0, Fb⟩ := hide_map Fa [(Str.ofString "ch_a", Value.str a ta), (Str.ofString "ch_b", Value.str b tb)] (by simp only [List.forall_mem_cons]; exact ⟨rfl, rfl, fun _ h => nomatch h⟩)
  clear Fa
  dsimp only [withK] at Fb
  k_steps
  all_goals dsimp only
  all_goals refine hret _ _ _ (Fr.keep (by assumption)) ⟨_, congrArg (fun x => Value.int x _) ?_⟩
  all_goals simp_all [costI]

/-- a new list of ints -/
noncomputable def NewInts (h : Heap) (P : List Int → Prop) (v : Value) (h' : Heap) : Prop :=
  ∃ a us l n, v = .ref a ∧ h'.get? a = some (W.listOf us.toArray n) ∧ h.get? a = none ∧ IntsAre us l ∧ P l

theorem sums_ctr (w : World) (l : Addr) (vs : List Value) (ns : List Int) (hI : IntsAre vs ns) (hn : ns.length ≤ 63) (mean : ExcName → Option Value) (mg mb : Str → Option Value) (s : Shared) (Q E : Value → Shared → Prop)
    (hl : s.heap.IsList l vs.toArray) (hK : (hd.heap_39 w.params).In s.heap) (hT : Top hd.view_39 (looseW hd.view_39 []) mean mg mb s.heap)
    (hret : ∀ v h' tk', (∀ b o, s.heap.get? b = some o → h'.get? b = some o) → NewInts s.heap (fun l => l.length = 8) v h' → Q v { s with heap := h', toks := tk' }) :
    wpAny (model Challenge.rw_re0084_01.prog w) (AA 330 60) (call (.ref 70) [.ref l]) Q E s := by
  revert hK
  k_fill
  intro hK
  k_dflt cell_enter
  rename Fr _ _ _ _ => Fa
  obtain ⟨m0, Fb⟩ := hide_map Fa [(Str.ofString "script", Value.ref l)] (by simp only [List.forall_mem_cons]; exact ⟨rfl, fun _ h => nomatch h⟩)
  clear Fa
  dsimp only [withK] at Fb
  (k_with "pyIter ref" => k_state (fun pre sums => sums.length = 8) "sums")
  k_steps
  all_goals dsimp only
  rename News _ _ _ _ => N9
  rename Fr _ _ _ _ => F9
  exact hret _ _ _ F9.keep ⟨_, _, _, _, rfl, N9.get (List.Mem.head _), N9.fresh (List.Mem.head _), by assumption, by assumption⟩

theorem ints_erase {us : List Value} {l : List Int} (hi : IntsAre us l) : ∀ i, IntsAre (us.eraseIdx i) (l.eraseIdx i) := by
  induction hi with
  | nil => intro i; exact .nil
  | cons n t r ih => intro i; cases i with
    | zero => exact r
    | succ i => exact .cons n t (ih i)
theorem ints_cut {us : List Value} {l : List Int} (hi : IntsAre us l) : ∀ i, i < l.length → ∃ p q t, kl_cut us i = some (p, .int (l.getD i 0) t, q) ∧ p ++ q = us.eraseIdx i := by
  induction hi with
  | nil => intro i h; exact absurd h (Nat.not_lt_zero _)
  | cons n t r ih => intro i h; cases i with
    | zero => exact ⟨_, _, t, rfl, rfl⟩
    | succ i =>
      obtain ⟨p, q, t', e, e2⟩ := ih i (Nat.lt_of_succ_lt_succ h)
      refine ⟨.int n t :: p, q, t', ?_, ?_⟩
      · show (match kl_cut _ i with | some (p, y, q) => some (Value.int n t :: p, y, q) | none => none) = _
        rw [e]; simp
      · simp [e2]
theorem pop_ints {prog : Program} {w : World} {A : Around} {E : Value → Shared → Prop} {s : Shared} {h₀ : Heap} {L D : Addr} {m : Str → Option Value} {news news' : List (Addr × Obj)} {n : Nat} {us : List Value} {l : List Int} {i : Int} {u : Tok} {Q : Value → Shared → Prop}
    (F : Fr h₀ L s.heap m) (N : News h₀ L s.heap news) (U : Upd D (W.listOf us.toArray n) (W.listOf (us.eraseIdx i.toNat).toArray (n + 1)) news news') (hi : IntsAre us l) (h0 : 0 ≤ i) (h1 : i < l.length) (hz : l.length ≤ 1000)
    (h : ∀ h' t, Fr h₀ L h' m → News h₀ L h' news' → IntsAre (us.eraseIdx i.toNat) (l.eraseIdx i.toNat) → i.toNat < l.length → Q (.int (l.getD i.toNat 0) t) { s with heap := h' }) :
    wpAny (model prog w) A (call (.builtin "list.pop") [.ref D, .int i u]) Q E s := by
  obtain ⟨p, q, t, e, e2⟩ := ints_cut hi i.toNat (by omega)
  have hlen := hi.length
  refine kl_popAt F N (k := i.toNat) (p := p) (q := q) ?_ ?_ (by simpa using e) (by rw [e2]; exact U) (by rw [PySem.sizeLine_eq]; show us.length ≤ _; omega) fun h' F' N' => h h' t F' N' (ints_erase hi _) (by omega)
  · simp [Builtin.List.listFitsIndex]; omega
  · unfold seqIndex?; rw [List.size_toArray]; have h9 : ¬ i < 0 := by omega
    simp only [h9, if_false]; rw [if_pos (by simp; omega)]
theorem fmod_in (a : Int) {b : Int} (h : 0 < b) : 0 ≤ a.fmod b ∧ a.fmod b < b := ⟨Int.fmod_nonneg_of_pos a h, Int.fmod_lt_of_pos a h⟩
theorem rowsA10 : True := by
  k_with_none
  k_with "call builtin:list.pop" => (k_here; (with_reducible show wpAny _ _ (call (Value.builtin _) [Value.ref _, Value.int _ _]) _ _ _); k_dflt (refine' pop_ints ?F ?N ?U ?i ?h0 ?h1 ?z ?_; (case F => k_asm); (case N => k_asm); (case U => k_upd); (case i => with_reducible assumption); (case h0 => exact (fmod_in _ (by omega)).1); (case h1 => refine Int.lt_of_lt_of_le (fmod_in _ (by omega)).2 (by omega)); (case z => omega)); (intro h' t' F' N' hI' hlt'; (try dsimp only [List.nil_append, List.cons_append] at N')))
  trivial
theorem perm_nil {a b X : List Int} (h : (a ++ b).Perm X) (hb : b.length = 0) : a.Perm X := by
  rw [List.eq_nil_of_length_eq_zero hb, List.append_nil] at h; exact h
theorem getElem_cons_erase : ∀ (l : List Int) (i : Nat) (h : i < l.length), (l[i] :: l.eraseIdx i).Perm l
  | _ :: _, 0, _ => List.Perm.refl _
  | a :: l, i + 1, h => (List.Perm.swap _ _ _).trans ((getElem_cons_erase l i (Nat.lt_of_succ_lt_succ h)).cons a)
theorem ends_turn {pre things ends X : List Int} {kN : Int} {i : Nat} (h1 : ends.length = pre.length) (h2 : things.length + ends.length = 8) (h3 : (ends ++ things).Perm X) (hi : i < things.length) :
    (ends ++ [things.getD i 0]).length = (pre ++ [kN]).length ∧ (things.eraseIdx i).length + (ends ++ [things.getD i 0]).length = 8 ∧ ((ends ++ [things.getD i 0]) ++ things.eraseIdx i).Perm X := by
  refine ⟨by simp [h1], ?_, ?_⟩
  · rw [List.length_eraseIdx_of_lt hi, List.length_append, List.length_singleton]; omega
  · refine List.Perm.trans ?_ h3
    rw [List.append_assoc]
    refine List.Perm.append_left _ ?_
    have e : things.getD i 0 = things[i] := by simp [hi]
    rw [e]
    show (things[i] :: things.eraseIdx i).Perm things
    exact getElem_cons_erase things i hi
theorem ends_ctr (w : World) (l : Addr) (vs : List Value) (ns : List Int) (hI : IntsAre vs ns) (hn : ns.length = 8) (mean : ExcName → Option Value) (mg mb : Str → Option Value) (s : Shared) (Q E : Value → Shared → Prop)
    (hl : s.heap.IsList l vs.toArray) (hK : (hd.heap_39 w.params).In s.heap) (hT : Top hd.view_39 (looseW hd.view_39 []) mean mg mb s.heap)
    (hret : ∀ v h' tk', (∀ b o, s.heap.get? b = some o → h'.get? b = some o) → NewInts s.heap (fun l => l.Perm [0,1,2,3,4,5,6,7]) v h' → Q v { s with heap := h', toks := tk' }) :
    wpAny (model Challenge.rw_re0084_01.prog w) (AA 330 60) (call (.ref 77) [.ref l]) Q E s := by
  revert hK
  k_fill
  intro hK
  k_dflt cell_enter
  rename Fr _ _ _ _ => Fa
  obtain ⟨m0, Fb⟩ := hide_map Fa [(Str.ofString "sums", Value.ref l)] (by simp only [List.forall_mem_cons]; exact ⟨rfl, fun _ h => nomatch h⟩)
  clear Fa
  dsimp only [withK] at Fb
  (k_with "exec For Name Call cons nil" => kpr_for)
  (k_with "pyIter ref" => k_state_short (fun pre things ends => ends.length = pre.length ∧ things.length + ends.length = 8 ∧ (ends ++ things).Perm [0,1,2,3,4,5,6,7]) "things" "ends")
  (k_with "state" => exact ends_turn (by assumption) (by assumption) (by assumption) (by assumption))
  k_steps
  all_goals dsimp only
  rename News _ _ _ _ => N9
  rename Fr _ _ _ _ => F9
  rename List.Perm _ _ => hp9
  rename _ + _ = 8 => hs9
  rename _ = List.length (rangeKs _ _) => hr9
  rw [show (rangeKs 0 (8 - 0 : Int).toNat).length = 8 from rfl] at hr9
  exact hret _ _ _ F9.keep ⟨_, _, _, _, rfl, N9.get (List.Mem.head _), N9.fresh (List.Mem.head _), by assumption, perm_nil hp9 (by omega)⟩

theorem index_ints {prog : Program} {w : World} {A : Around} {E : Value → Shared → Prop} {s : Shared} {l : Addr} {n : Nat} {vs : List Value} {ns : List Int} {k : Int} {t : Tok} {Q : Value → Shared → Prop} (ho : s.heap.get? l = some (W.listOf vs.toArray n)) (hi : IntsAre vs ns)
    (hb : ns.length ≤ 1000) (hk : k ∈ ns) (h : Q (.int (ns.idxOf k : Nat) s.toks) { s with toks := s.toks + 1 }) :
    wpAny (model prog w) A (call (.builtin "list.index") [.ref l, .int k t]) Q E s := by
  have hj : ns.idxOf k < ns.length := List.idxOf_lt_length_iff.mpr hk
  have hlen := hi.length
  refine call_meets PySem.F.slot_list_index ⟨_, ho, rfl⟩ PySem.F.entry_list_index (PySem.F.args_list_index_2 _ _)
    (SeqAt.list_indexAt l vs.toArray n none #[] (.int k t) (isInt k) (ns.idxOf k) (by simpa [hlen] using hj) (by omega) ?_ ?_) ⟨ho, fun y hy => (eq_isInt k t hi y (by simpa using hy)).at _ _, h⟩
  · show isInt k vs[ns.idxOf k] = true
    rw [isInt_at k hi _ (by omega) hj]
    simp
  · intro j hjs hlt
    show isInt k vs[j] = false
    rw [isInt_at k hi j (by simpa using hjs) (by omega)]
    exact ne_of_lt_idxOf hlt _
theorem list_meth {prog : Program} {w : World} {A : Around} {E : Value → Shared → Prop} {s : Shared} {D : Addr} {its : Array Value} {n : Nat} {name : Str} {id : String} {pl : Sem Bool} {Q : Value × List Value → Shared → Prop} (ho : s.heap.get? D = some (W.listOf its n)) (slot : Slot "list" name id) (hty : typeOf (.builtin id) = pure (.type "method_descriptor"))
    (h : Q (.builtin id, [.ref D]) s) : wpAny (model prog w) A (getMethod (.ref D) name pl) Q E s :=
  getMethod_builtin ⟨_, ho, rfl⟩ PySem.F.plainAttrs_list slot hty (fun a e => by cases e; exact ⟨_, ho, rfl⟩) h
theorem rowsA11 : True := by
  k_with "getMethod ref" => (k_here; (with_reducible show wpAny _ _ (getMethod (Value.ref _) (PySem.Str.ofString "index") _) _ _ _); k_dflt (refine' list_meth (Fr.keep (by k_asm) _ _ (by with_reducible assumption)) PySem.F.slot_list_index PySem.F.type_list_index ?_))
  trivial
theorem perm_mem {ns : List Int} (hn : ns.Perm [0,1,2,3,4,5,6,7]) (k : Int) (h : 0 ≤ k) (h' : k < 8) : k ∈ ns := by
  refine hn.mem_iff.mpr ?_
  have : k = 0 ∨ k = 1 ∨ k = 2 ∨ k = 3 ∨ k = 4 ∨ k = 5 ∨ k = 6 ∨ k = 7 := by omega
  rcases this with h | h | h | h | h | h | h | h <;> subst h <;> decide
theorem rowsA12 : True := by
  k_with "call builtin:list.index" => (k_here; k_dflt (refine' index_ints (Fr.keep (by k_asm) _ _ (by with_reducible assumption)) (by with_reducible assumption) ?hb ?hk ?_; (case hb => omega); (case hk => exact perm_mem (by assumption) _ (by omega) (by omega))))
  trivial
noncomputable def bump (o : List Int) (i : Int) : List Int := o.set (i.fmod 8).toNat (o.getD (i.fmod 8).toNat 0 + 1)
theorem bump_length (o : List Int) (i : Int) : (bump o i).length = o.length := by simp [bump]


noncomputable def overTurn (ns : List Int) (o : List Int) (sp : Int) : List Int :=
  (rangeKs 1 (((ns.idxOf (2 * sp + 1) : Int) - (ns.idxOf (2 * sp) : Int)).fmod 8 + 1 - 1).toNat).foldl (fun o wy => bump o ((ns.idxOf (2 * sp) : Int) + wy)) o
theorem over_in {b : Int} {o₀ fst pre : List Int} {kN : Int} (h : fst = pre.foldl (fun o wy => bump o (b + wy)) o₀) (hl : fst.length = 8) :
    fst.set ((b + kN).fmod 8).toNat (fst.getD ((b + kN).fmod 8).toNat 0 + 1) = (pre ++ [kN]).foldl (fun o wy => bump o (b + wy)) o₀ ∧ (fst.set ((b + kN).fmod 8).toNat (fst.getD ((b + kN).fmod 8).toNat 0 + 1)).length = 8 := by
  refine ⟨?_, by simpa using hl⟩
  rw [List.foldl_append, ← h]; rfl
theorem over_out {ns o₁ o₂ pre : List Int} {kN : Int} (h : o₁ = pre.foldl (overTurn ns) (List.replicate 8 0)) (h2 : o₂ = (rangeKs 1 (((ns.idxOf (2 * kN + 1) : Int) - (ns.idxOf (2 * kN) : Int)).fmod 8 + 1 - 1).toNat).foldl (fun o wy => bump o ((ns.idxOf (2 * kN) : Int) + wy)) o₁) (hl : o₂.length = 8) :
    o₂ = (pre ++ [kN]).foldl (overTurn ns) (List.replicate 8 0) ∧ o₂.length = 8 := by
  refine ⟨?_, hl⟩
  rw [List.foldl_append, ← h, h2]; rfl
noncomputable def overF (ns : List Int) : List Int := (rangeKs 0 (4 - 0 : Int).toNat).foldl (overTurn ns) (List.replicate 8 0)
theorem over_ctr (w : World) (l : Addr) (n : Nat) (vs : List Value) (ns : List Int) (hI : IntsAre vs ns) (hn : ns.Perm [0,1,2,3,4,5,6,7]) (mean : ExcName → Option Value) (mg mb : Str → Option Value) (s : Shared) (Q E : Value → Shared → Prop)
    (hl : s.heap.get? l = some (W.listOf vs.toArray n)) (hK : (hd.heap_39 w.params).In s.heap) (hT : Top hd.view_39 (looseW hd.view_39 []) mean mg mb s.heap)
    (hret : ∀ v h' tk', (∀ b o, s.heap.get? b = some o → h'.get? b = some o) → NewInts s.heap (fun l => l = overF ns ∧ l.length = 8) v h' → Q v { s with heap := h', toks := tk' }) :
    wpAny (model Challenge.rw_re0084_01.prog w) (AA 330 60) (call (.ref 84) [.ref l]) Q E s := by
  have hlen : ns.length = 8 := hn.length_eq
  revert hK
  k_fill
  intro hK
  k_dflt cell_enter
  rename Fr _ _ _ _ => Fa
  obtain ⟨m0, Fb⟩ := hide_map Fa [(Str.ofString "ends", Value.ref l)] (by simp only [List.forall_mem_cons]; exact ⟨rfl, fun _ h => nomatch h⟩)
  clear Fa
  dsimp only [withK] at Fb
  (k_with "exec For Name Call cons nil" => kpr_for)
  (k_with "pyIter ref" => (k_of "span" => k_state_short (fun pre over => over = pre.foldl (overTurn ns) (List.replicate 8 0) ∧ over.length = 8) "over"))
  (k_with "pyIter ref" => (k_of "way" => k_state_given ["begin", "over!"] (fun b o₀ pre over => over = pre.foldl (fun o wy => bump o (b + wy)) o₀ ∧ over.length = 8) "over"))
  (k_with "state" => first | exact ⟨rfl, rfl⟩ | exact ⟨rfl, by assumption⟩ | exact over_in (by assumption) (by assumption) | exact over_out (by assumption) (by assumption) (by assumption))
  k_steps
  all_goals dsimp only
  rename News _ _ _ _ => N9
  rename Fr _ _ _ _ => F9
  exact hret _ _ _ F9.keep ⟨_, _, _, _, rfl, N9.get (List.Mem.head _), N9.fresh (List.Mem.head _), by assumption, by assumption, by assumption⟩
end
-- rows of one's own (k_with) are asked first from here on
local macro_rules | `(tactic| walk_at $s:str) => `(tactic| k_extra $s)
section
set_option maxRecDepth 100000
set_option maxHeartbeats 8000000
noncomputable def CutV (h₀ : Heap) (L : Addr) (news : List (Addr × Obj)) (s : Shared) (x : Str) (V : Value → Prop) (m : Str → Option Value) (f : Flow) (s' : Shared) : Prop :=
  f = .next ∧ ∃ h' tk m' v, s' = { s with heap := h', toks := tk } ∧ Fr h₀ L h' m' ∧ News h₀ L h' news ∧ m' x = some v ∧ V v ∧ ∀ z, z ≠ x → m' z = m z
theorem CutV.mk' {h₀ h' : Heap} {L : Addr} {news : List (Addr × Obj)} {s : Shared} {x : Str} {V : Value → Prop} {m m' : Str → Option Value} {tk' : Nat} {v : Value} (F : Fr h₀ L h' m') (N : News h₀ L h' news) (hx : m' x = some v) (hv : V v) (hz : ∀ z, z ≠ x → m' z = m z) :
    CutV h₀ L news s x V m .next { s with heap := h', toks := tk' } := ⟨rfl, h', tk', m', v, rfl, F, N, hx, hv, hz⟩
theorem CutV.mkS {h₀ h' : Heap} {L : Addr} {news : List (Addr × Obj)} {s : Shared} {x : Str} {m m' : Str → Option Value} {tk' : Nat} {y v : Str} {t : Tok} (F : Fr h₀ L h' m') (N : News h₀ L h' news) (hx : m' x = some (.str y t)) (hy : y = v) (hz : ∀ z, z ≠ x → m' z = m z) :
    CutV h₀ L news s x (fun z => ∃ t, z = .str v t) m .next { s with heap := h', toks := tk' } := CutV.mk' F N hx ⟨t, by rw [hy]⟩ hz
theorem cutV {prog : Program} {w : World} {A : Around} {E : Value → Shared → Prop} {Q : Flow → Shared → Prop} {s : Shared} {env : Env} {h₀ : Heap} {L : Addr} {m : Str → Option Value} {news : List (Addr × Obj)} {st : Stmt} (x : Str) (V : Value → Prop)
    (_F : Fr h₀ L s.heap m) (_N : News h₀ L s.heap news) (h1 : wpAny (model prog w) A (exec st env) (CutV h₀ L news s x V m) (fun _ _ => False) s)
    (h2 : ∀ h' tk v, V v → Fr h₀ L h' (fun y => if y = x then some v else m y) → News h₀ L h' news → Q .next { s with heap := h', toks := tk }) : wpAny (model prog w) A (exec st env) Q E s := by
  refine wpAny_mono h1 (fun f s' h => ?_) fun _ _ h => h.elim
  obtain ⟨rfl, h', tk, m', v, rfl, F', N', hx, hv, hm⟩ := h
  refine h2 h' tk v hv ?_ N'
  have e : (fun y => if y = x then some v else m y) = m' := by
    funext y
    by_cases hy : y = x
    · subst hy; simp [hx]
    · simp only [if_neg hy]; exact (hm y hy).symm
  rw [e]; exact F'
theorem cutI {prog : Program} {w : World} {A : Around} {E : Value → Shared → Prop} {Q : Flow → Shared → Prop} {s : Shared} {env : Env} {h₀ : Heap} {L : Addr} {m : Str → Option Value} {news : List (Addr × Obj)} {st : Stmt} (x : Str) (v : Int)
    (F : Fr h₀ L s.heap m) (N : News h₀ L s.heap news) (h1 : wpAny (model prog w) A (exec st env) (CutV h₀ L news s x (fun y => ∃ t, y = .int v t) m) (fun _ _ => False) s)
    (h2 : ∀ h' tk t, Fr h₀ L h' (fun y => if y = x then some (.int v t) else m y) → News h₀ L h' news → Q .next { s with heap := h', toks := tk }) : wpAny (model prog w) A (exec st env) Q E s :=
  cutV x _ F N h1 fun h' tk v hv => by obtain ⟨t, rfl⟩ := hv; exact h2 h' tk t
theorem cutS {prog : Program} {w : World} {A : Around} {E : Value → Shared → Prop} {Q : Flow → Shared → Prop} {s : Shared} {env : Env} {h₀ : Heap} {L : Addr} {m : Str → Option Value} {news : List (Addr × Obj)} {st : Stmt} (x : Str) (v : Str)
    (F : Fr h₀ L s.heap m) (N : News h₀ L s.heap news) (h1 : wpAny (model prog w) A (exec st env) (CutV h₀ L news s x (fun y => ∃ t, y = .str v t) m) (fun _ _ => False) s)
    (h2 : ∀ h' tk t, Fr h₀ L h' (fun y => if y = x then some (.str v t) else m y) → News h₀ L h' news → Q .next { s with heap := h', toks := tk }) : wpAny (model prog w) A (exec st env) Q E s :=
  cutV x _ F N h1 fun h' tk v hv => by obtain ⟨t, rfl⟩ := hv; exact h2 h' tk t
structure NoHold : Prop where
noncomputable def WTurn (h₀ : Heap) (L : Addr) (news : List (Addr × Obj)) (s : Shared) (x : Str) (P : Int → Prop) (μ : Int → Nat) (v : Int) (m : Str → Option Value) (f : Flow) (s₃ : Shared) : Prop :=
  f = .next ∧ ∃ h' tk' m' v' t', s₃ = { s with heap := h', toks := tk' } ∧ Fr h₀ L h' m' ∧ News h₀ L h' news ∧ m' x = some (.int v' t') ∧ (∀ z, z ≠ x → m' z = m z) ∧ P v' ∧ μ v' < μ v
theorem WTurn.mk' {h₀ h' : Heap} {L : Addr} {news : List (Addr × Obj)} {s : Shared} {x : Str} {P : Int → Prop} {μ : Int → Nat} {v : Int} {m m' : Str → Option Value} {tk' : Nat} {t' : Tok} (v' : Int) (F : Fr h₀ L h' m') (N : News h₀ L h' news) (hx : m' x = some (.int v' t')) (hz : ∀ z, z ≠ x → m' z = m z) (hP : P v') (hμ : μ v' < μ v) :
    WTurn h₀ L news s x P μ v m .next { s with heap := h', toks := tk' } := ⟨rfl, h', tk', m', v', t', rfl, F, N, hx, hz, hP, hμ⟩
theorem while_int {prog : Program} {w : World} {A : Around} {Q : Flow → Shared → Prop} {s : Shared} {env : Env} {h₀ : Heap} {L : Addr} {test : Expr} {body : List Stmt} {pos : Pos} {m : Str → Option Value} {news : List (Addr × Obj)} (x : Str) (P : Int → Prop) (μ : Int → Nat) {v₀ : Int}
    (F : Fr h₀ L s.heap m) (N : News h₀ L s.heap news) (hx : ∃ t, m x = some (.int v₀ t)) (hp : P v₀)
    (turn : ∀ v t h tk, P v → Fr h₀ L h (fun z => if z = x then some (.int v t) else m z) → News h₀ L h news →
      wpAny (model prog w) A (isTrue test env (eval test env)) (fun b s₂ => if b = true then wpAny (model prog w) A (execs body env) (WTurn h₀ L news s x P μ v m) (fun _ _ => False) s₂ else Q .next s₂) (fun _ _ => False) { s with heap := h, toks := tk })
    (hE : PassesOwn (model prog w) A env (fun _ _ => False) := by passes_own) : wpAny (model prog w) A (exec (.While test body [] pos) env) Q (fun _ _ => False) s := by
  obtain ⟨t₀, hx⟩ := hx
  refine ksw_while (σ := Int × Tok) (fun _ => news) (fun c => [(x, .int c.1 c.2)]) (fun _ => True) [] (fun c => P c.1) (fun c => μ c.1) (v₀, t₀) F N trivial (List.forall_mem_singleton.mpr hx) hp (fun c u h tk _ hP F1 N1 => ?_) hE
  have em : kstB (fun z => if ([] : List Str).contains z then u z else m z) [(x, Value.int c.1 c.2)] = fun z => if z = x then some (.int c.1 c.2) else m z := by
    funext z
    simp [kstB]
  rw [em] at F1
  refine wpAny_mono (turn c.1 c.2 h tk hP F1 N1) (fun b s₂ hb => ?_) fun _ _ e => e
  cases b with
  | false => simpa using hb
  | true =>
    simp only [if_true] at hb ⊢
    refine wpAny_mono hb (fun f s₃ q => ?_) fun _ _ e => e
    obtain ⟨rfl, h', tk', m', v', t', rfl, F', N', hm, hz, hP', hμ⟩ := q
    exact ⟨(v', t'), h', tk', m', _, rfl, F', N', fun p hp => hp, trivial, List.forall_mem_singleton.mpr hm, fun z h2 _ => hz z (h2 _ (List.Mem.head _)), hP', hμ⟩
noncomputable def Hold (p : Prop) : Prop := p
theorem hold {p : Prop} (h : Hold p) : p := h
theorem range2_size (n : Nat) : Builtin.Range.rangeSize 2 (2 * ((n : Int) + 1)) 2 = (n : Int) := by
  unfold Builtin.Range.rangeSize
  rw [if_pos (by decide)]
  split <;> omega
theorem range2_small {n : Nat} (hn : n ≤ 1000) : Builtin.Range.small 2 (2 * ((n : Int) + 1)) 2 = true := by
  have e := range2_size n
  unfold Builtin.Range.small
  rw [e]
  simp [Builtin.Range.rangeFitsLong]
  omega
theorem slice_neg (x : Str) (q : Int) (h : q < 0) : Txt.slice x none (some q) = Txt.slice x none (some (max 0 ((x.length : Int) + q))) := by
  have e : Builtin.Str.strSliceIndices none (some q) 1 x.length = Builtin.Str.strSliceIndices none (some (max 0 ((x.length : Int) + q))) 1 x.length := by
    unfold Builtin.Str.strSliceIndices
    simp only [show (1 : Int) > 0 by decide, if_true]
    congr 1
    rw [if_pos h, if_neg (by omega)]
    omega
  unfold Txt.slice
  rw [e]
theorem slice_neg_len (x : Str) (q : Int) : q < 0 → ((Txt.slice x none (some q)).length : Int) = max 0 ((x.length : Int) + q) := fun h => by
  rw [slice_neg x q h]
  exact (fact_slice_ns x _).1 (by omega) (by omega)
theorem slice_nn (x : Str) : Txt.slice x none none = x := by
  unfold Txt.slice
  rw [if_pos]
  unfold Builtin.Str.strSliceIndices sliceRange
  simp only [show (1 : Int) > 0 by decide, if_true]
  simp
  split <;> omega
theorem slice_self {prog : Program} {w : World} {A : Around} {E : Value → Shared → Prop} {s : Shared} {h₀ : Heap} {L : Addr} {m : Str → Option Value} {news : List (Addr × Obj)} {value slice : Expr} {x : Str} {t : Tok} {Q : Value → Shared → Prop} (hF : Fr h₀ L s.heap m) (hN : News h₀ L s.heap news) (h : ∀ h' t' k, Fr h₀ L h' m → News h₀ L h' news → Q (.str x t') { s with heap := h', toks := k })
    (hs : subscripted slice false (.str x t) (.ref s.heap.objs.size) = operate [.ref s.heap.objs.size, .str x t] (getItem (.str x t) (.ref s.heap.objs.size)) := by with_unfolding_all rfl)
    (ht : ∀ r, letTemporaryGo value (.str x t) r = pure () := by intro _; with_unfolding_all rfl) (hsz : x.length ≤ sizeLine := by size_fits) :
    wpAny (model prog w) A (subscriptTail value slice (.str x t) (.ref s.heap.objs.size)) Q E { s with heap := s.heap.push { cls := .type "slice", data := .fields #[.none, .none, .none] } } :=
  slice_strN_nn hF hN (fun h' t' k a b => by rw [slice_nn]; exact h h' t' k a b) hs ht hsz
noncomputable def row0 (n : Nat) : List Int := (List.range n).map fun (i : Nat) => 2 + (i : Int) * 2
theorem ints_of_get : ∀ (us : List Value) (l : List Int), us.length = l.length → (∀ j v, us[j]? = some v → ∃ t, v = Value.int (l.getD j 0) t) → IntsAre us l
  | [], [], _, _ => .nil
  | u :: us, x :: l, h, g => by
    obtain ⟨t, e⟩ := g 0 u rfl
    have e' : u = Value.int x t := e
    subst e'
    exact .cons x t (ints_of_get us l (Nat.succ.inj h) fun j v hv => g (j + 1) v hv)
theorem list_range2 {prog : Program} {w : World} {A : Around} {E : Value → Shared → Prop} {s : Shared} {h₀ : Heap} {L : Addr} {m : Str → Option Value} {news : List (Addr × Obj)} {Q : Value → Shared → Prop} {r : Addr} {b : Int} {t u v : Tok} {n : Nat} (hh : A.handled = none)
    (F : Fr h₀ L s.heap m) (N : News h₀ L s.heap news) (hr : IsRange s.heap r 2 b 2 t u v) (hb : b = 2 * ((n : Int) + 1)) (hn : n ≤ 1000)
    (h : ∀ l' h' tk us c, Fr h₀ L h' m → News h₀ L h' ((l', W.listOf (List.toArray us) c) :: news) → (∀ p ∈ news, p.1 < l') → IntsAre us (row0 n) → Q (.ref l') { s with heap := h', toks := tk }) :
    wpAny (model prog w) A (call (.type "list") [.ref r]) Q E s := by
  subst hb
  refine call_list_range (n := n) hh hr (range2_small hn) (range2_size n) (by omega) fun h' tk acc' c' hk hS hacc => ?_
  refine h _ h' tk acc'.toList c' (F.keeps hk) ?_ (fun p hp => Heap.lt_size (N p hp).1) ?_
  · intro p hp
    rcases List.mem_cons.mp hp with rfl | hp
    · refine ⟨by simpa using hS, fun e => ?_, ?_⟩
      · exact absurd F.ns.lt (by rw [← e]; exact Nat.lt_irrefl _)
      · cases e : h₀.get? s.heap.objs.size with
        | none => rfl
        | some o => exact absurd (Heap.lt_size (F.keep _ _ e)) (Nat.lt_irrefl _)
    · exact ⟨hk _ _ (N p hp).1, (N p hp).2⟩
  · refine ints_of_get _ _ (by simp [hacc.1, row0]) fun j v hv => ?_
    obtain ⟨t', rfl⟩ := hacc.2 j v (by simpa using hv)
    refine ⟨t', ?_⟩
    have hj : j < n := by
      have := (Array.getElem?_eq_some_iff.mp (show acc'[j]? = some _ by simpa using hv)).1
      rw [hacc.1] at this; exact this
    simp [row0, hj]
noncomputable def preGo (a b : Str) : Nat → Int → Int
  | 0, i => i
  | n + 1, i => if i < a.length ∧ i < b.length ∧ (Txt.item a i == Txt.item b i) = true then preGo a b n (i + 1) else i
noncomputable def preF (a b : Str) : Int := preGo a b 41 0
theorem preGo_on {a b : Str} {i : Int} (h0 : 0 ≤ i) (h1 : i < 41) (ha : i < a.length) (hb : i < b.length) (he : (Txt.item a i == Txt.item b i) = true) (h : preGo a b (41 - i.toNat) i = preF a b) : preGo a b (41 - (i + 1).toNat) (i + 1) = preF a b := by
  rw [← h, show 41 - i.toNat = (41 - (i + 1).toNat) + 1 by omega]
  exact (if_pos ⟨ha, hb, he⟩).symm
theorem preGo_off {a b : Str} {i : Int} (h0 : 0 ≤ i) (h1 : i < 41) (hn : ¬ (i < a.length ∧ i < b.length ∧ (Txt.item a i == Txt.item b i) = true)) (h : preGo a b (41 - i.toNat) i = preF a b) : preF a b = i := by
  rw [← h, show 41 - i.toNat = (41 - (i + 1).toNat) + 1 by omega]
  exact if_neg hn
noncomputable def postGo (a b : Str) : Nat → Int → Int
  | 0, i => i
  | n + 1, i => if 0 < a.length + i ∧ 0 < b.length + i ∧ (Txt.item a (i - 1) == Txt.item b (i - 1)) = true then postGo a b n (i - 1) else i
noncomputable def postF (a b : Str) : Int := postGo a b 41 0
theorem postGo_on {a b : Str} {i : Int} (h0 : i ≤ 0) (h1 : -41 < i) (ha : 0 < a.length + i) (hb : 0 < b.length + i) (he : (Txt.item a (i - 1) == Txt.item b (i - 1)) = true) (h : postGo a b (41 - (-i).toNat) i = postF a b) : postGo a b (41 - (-(i - 1)).toNat) (i - 1) = postF a b := by
  rw [← h, show 41 - (-i).toNat = (41 - (-(i - 1)).toNat) + 1 by omega]
  exact (if_pos ⟨ha, hb, he⟩).symm
theorem postGo_off {a b : Str} {i : Int} (h0 : i ≤ 0) (h1 : -41 < i) (hn : ¬ (0 < a.length + i ∧ 0 < b.length + i ∧ (Txt.item a (i - 1) == Txt.item b (i - 1)) = true)) (h : postGo a b (41 - (-i).toNat) i = postF a b) : postF a b = i := by
  rw [← h, show 41 - (-i).toNat = (41 - (-(i - 1)).toNat) + 1 by omega]
  exact if_neg hn
noncomputable def tailF (a : Str) (q : Int) : Str := if q = 0 then a else Txt.slice a none (some q)
noncomputable def minI (x y : Int) : Int := if y < x then y else x
noncomputable def levStep (a : Str) (bc : Str) (st : List Int × Int × Int × Int) (i : Int) : List Int × Int × Int × Int :=
  (st.1.set i.toNat (minI (minI st.2.2.1 (st.1.getD i.toNat 0) + 2) (st.2.1 + costI bc (Txt.item a i))), st.1.getD i.toNat 0, minI (minI st.2.2.1 (st.1.getD i.toNat 0) + 2) (st.2.1 + costI bc (Txt.item a i)),
    if minI (minI st.2.2.1 (st.1.getD i.toNat 0) + 2) (st.2.1 + costI bc (Txt.item a i)) < st.2.2.2 then minI (minI st.2.2.1 (st.1.getD i.toNat 0) + 2) (st.2.1 + costI bc (Txt.item a i)) else st.2.2.2)
noncomputable def levRow (a b : Str) (row : List Int) (j : Int) : List Int × Int × Int × Int := (rangeKs 0 ((a.length : Int) - 0).toNat).foldl (levStep a (Txt.item b j)) (row, j * 2, j * 2, 9223372036854775807)
noncomputable def levGo (a b : Str) (m : Int) : List Int → List Int × Int → Int
  | [], st => st.2
  | j :: js, st => if m < (levRow a b st.1 j).2.2.2 then m + 1 else levGo a b m js ((levRow a b st.1 j).1, (levRow a b st.1 j).2.2.1)
theorem lev_start (a b : Str) (m : Int) : (row0 a.length).length = a.length ∧ ([] : List Int) = rangeKs 0 ([] : List Int).length ∧ ∀ rest, levGo a b m ([] ++ rest) (row0 a.length, 0) = levGo a b m rest (row0 a.length, 0) := ⟨by simp [row0], rfl, fun _ => rfl⟩
theorem lev_inA {a bc : Str} {n : Nat} {init : List Int × Int × Int × Int} {row : List Int} {dist res mn : Int} {pre : List Int} {k : Int} (h1 : row.length = n) (h2 : (row, dist, res, mn) = pre.foldl (levStep a bc) init)
    (hlt : minI (minI res (row.getD k.toNat 0) + 2) (dist + costI bc (Txt.item a k)) < mn) :
    (row.set k.toNat (minI (minI res (row.getD k.toNat 0) + 2) (dist + costI bc (Txt.item a k)))).length = n ∧
    (row.set k.toNat (minI (minI res (row.getD k.toNat 0) + 2) (dist + costI bc (Txt.item a k))), row.getD k.toNat 0, minI (minI res (row.getD k.toNat 0) + 2) (dist + costI bc (Txt.item a k)), minI (minI res (row.getD k.toNat 0) + 2) (dist + costI bc (Txt.item a k))) = (pre ++ [k]).foldl (levStep a bc) init := by
  refine ⟨by simpa using h1, ?_⟩
  rw [List.foldl_append, ← h2]
  simp only [List.foldl_cons, List.foldl_nil, levStep, if_pos hlt]
theorem lev_inB {a bc : Str} {n : Nat} {init : List Int × Int × Int × Int} {row : List Int} {dist res mn : Int} {pre : List Int} {k : Int} (h1 : row.length = n) (h2 : (row, dist, res, mn) = pre.foldl (levStep a bc) init)
    (hlt : ¬ minI (minI res (row.getD k.toNat 0) + 2) (dist + costI bc (Txt.item a k)) < mn) :
    (row.set k.toNat (minI (minI res (row.getD k.toNat 0) + 2) (dist + costI bc (Txt.item a k)))).length = n ∧
    (row.set k.toNat (minI (minI res (row.getD k.toNat 0) + 2) (dist + costI bc (Txt.item a k))), row.getD k.toNat 0, minI (minI res (row.getD k.toNat 0) + 2) (dist + costI bc (Txt.item a k)), mn) = (pre ++ [k]).foldl (levStep a bc) init := by
  refine ⟨by simpa using h1, ?_⟩
  rw [List.foldl_append, ← h2]
  simp only [List.foldl_cons, List.foldl_nil, levStep, if_neg hlt]
theorem rangeKs_succ (n : Nat) : rangeKs 0 (n + 1) = rangeKs 0 n ++ [0 + (n : Int)] := by simp [rangeKs, List.range_succ]
theorem rangeKs_split {n : Nat} : ∀ k : Nat, k < n → ∃ rest, rangeKs 0 n = rangeKs 0 k ++ (0 + (k : Int)) :: rest := by
  induction n with
  | zero => intro k h; exact absurd h (Nat.not_lt_zero _)
  | succ n ih =>
    intro k h
    rw [rangeKs_succ]
    by_cases hk : k = n
    · subst hk; exact ⟨[], rfl⟩
    · obtain ⟨rest, e⟩ := ih k (by omega)
      exact ⟨rest ++ [0 + (n : Int)], by rw [e]; simp⟩
noncomputable def levCore (a b : Str) (m : Int) : Int := levGo a b m (rangeKs 0 ((b.length : Int) - 0).toNat) (row0 a.length, 0)
theorem lev_out {a b : Str} {m d res mn : Int} {row row' pre : List Int} {res₀ kN : Int} (hl : row'.length = a.length) (hpre : pre = rangeKs 0 pre.length) (hk : kN = 0 + (pre.length : Int))
    (hall : ∀ rest, levGo a b m (pre ++ rest) (row0 a.length, 0) = levGo a b m rest (row, res₀))
    (h : (row', d, res, mn) = (rangeKs 0 ((a.length : Int) - 0).toNat).foldl (levStep a (Txt.item b kN)) (row, kN * 2, kN * 2, 9223372036854775807)) (hm : ¬ m < mn) :
    row'.length = a.length ∧ pre ++ [kN] = rangeKs 0 (pre ++ [kN]).length ∧ ∀ rest, levGo a b m ((pre ++ [kN]) ++ rest) (row0 a.length, 0) = levGo a b m rest (row', res) := by
  refine ⟨hl, ?_, fun rest => ?_⟩
  · rw [List.length_append, List.length_singleton, rangeKs_succ, ← hpre, hk]
  · rw [List.append_assoc, hall]
    show (if m < (levRow a b row kN).2.2.2 then m + 1 else _) = _
    have e : levRow a b row kN = (row', d, res, mn) := h.symm
    rw [e, if_neg hm]
    rfl
theorem lev_exit {a b : Str} {m d res mn : Int} {row row' pre : List Int} {res₀ kN : Int} (hpre : pre = rangeKs 0 pre.length) (hk : kN = 0 + (pre.length : Int)) (hlt : pre.length < ((b.length : Int) - 0).toNat)
    (hall : ∀ rest, levGo a b m (pre ++ rest) (row0 a.length, 0) = levGo a b m rest (row, res₀))
    (h : (row', d, res, mn) = (rangeKs 0 ((a.length : Int) - 0).toNat).foldl (levStep a (Txt.item b kN)) (row, kN * 2, kN * 2, 9223372036854775807)) (hm : m < mn) : levCore a b m = m + 1 := by
  obtain ⟨rest, e⟩ := rangeKs_split pre.length hlt
  unfold levCore
  rw [e, ← hpre, ← hk, hall]
  show (if m < (levRow a b row kN).2.2.2 then m + 1 else _) = _
  have e : levRow a b row kN = (row', d, res, mn) := h.symm
  rw [e, if_pos hm]
theorem lev_end {a b : Str} {m res : Int} {row : List Int} (hall : ∀ rest, levGo a b m (rangeKs 0 ((b.length : Int) - 0).toNat ++ rest) (row0 a.length, 0) = levGo a b m rest (row, res)) : levCore a b m = res := by
  have := hall []
  rw [List.append_nil] at this
  exact this
noncomputable def levA (a b : Str) : Str := tailF (Txt.slice a (some (preF a b)) none) (postF (Txt.slice a (some (preF a b)) none) (Txt.slice b (some (preF a b)) none))
noncomputable def levB (a b : Str) : Str := tailF (Txt.slice b (some (preF a b)) none) (postF (Txt.slice a (some (preF a b)) none) (Txt.slice b (some (preF a b)) none))
noncomputable def levOk (a b : Str) (m : Int) : Bool := decide (a.length ≤ 40) && decide (b.length ≤ 40) && !(a == b) && decide ((levA a b).length = (levB a b).length) && decide ((levA a b).length ≠ 0) && decide ((levA a b).length ≤ 40) && decide (0 ≤ m)
theorem rowsL10 : True := by
  k_with_none
  k_with "subscriptTail Name Slice str ref" => ((with_reducible show wpAny _ _ (subscriptTail _ (Expr.Slice none (some _) none _) _ _) _ _ ⟨Heap.push _ ⟨_, _, Data.fields #[Value.none, Value.none, Value.none], _⟩, _, _, _, _⟩); (with_reducible rename Fr _ _ _ _ => F'); (with_reducible rename News _ _ _ _ => N'); (refine slice_self (hsz := ?hsz) (s := ⟨_, _, _, _, _⟩) F' N' ?_); (case hsz => size_fits); intro _ _ _ _ _; (try dsimp only))
  k_with "isTrue BoolOp" => (dsimp only)
  k_with "isTrue Compare" => (dsimp only)
  k_with "exec While BoolOp cons nil" => ((fail_if_success (have nh9 : NoHold := by assumption)); refine hold ?_)
  k_with "exec Assign" => ((with_reducible show wpAny _ _ (exec (Stmt.Assign [Expr.Name _ _] (Expr.Subscript (Expr.Name _ _) (Expr.Slice none _ _ _) _) _) _) _ _ _); (fail_if_success (have nh9 : NoHold := by assumption)); refine hold ?_)
  k_with "exec For Name Call cons nil" => ((with_reducible show wpAny _ _ (exec (Stmt.For (Expr.Name (Str.ofString "index") _) _ _ _ _) _) _ _ _); (fail_if_success (have nh9 : NoHold := by assumption)); refine hold ?_)
  k_with "call type:list" => (k_here; (with_reducible show wpAny _ _ (call (Value.type _) [Value.ref _]) _ _ _); (rename IsRange _ _ _ _ _ _ _ _ => R'); (rename Fr _ _ _ _ => F'); (rename News _ _ _ _ => N'); k_dflt (refine list_range2 rfl F' N' R' rfl (by omega) ?_); clear F' N' R'; (intro l' h' tk' us' c' F' N' l1 hI'); (try k_lt l1))
  k_with "call ref" => (k_here; (with_reducible show wpAny _ _ (call (Value.ref _) [Value.str _ _, Value.str _ _]) _ _ _); (rename Fr _ _ _ _ => F'); (rename News _ _ _ _ => N'); k_dflt (refine wpAny_wk (cost_ctr _ _ _ _ _ (by omega) (by omega) _ _ _ _ _ _ (Frag.In.keeps (by k_asm) F'.keep) (Top.keeps (by k_asm) F'.keep) ?_) rfl (Nat.le_of_ble_eq_true rfl) rfl rfl (Nat.le_of_ble_eq_true rfl)); (intro v' h' tk' hk' hp'; obtain ⟨t', e'⟩ := hp'; subst e'; (replace F' := Fr.grownK F' hk'); (replace N' := News.grown N' hk'); clear hk'; try dsimp only))
  trivial
theorem lev_ctr (w : World) (a b : Str) (m : Int) (th ts tv : Tok) (ok : levOk a b m = true) :
   Ctr w 63 320 40 [.str a th, .str b ts, .int m tv] (fun _ v _ => ∃ t, v = .int (levCore (levA a b) (levB a b) m) t) := by
  simp only [levOk, Bool.and_eq_true, Bool.not_eq_true', decide_eq_true_eq] at ok
  obtain ⟨⟨⟨⟨⟨⟨ha, hb⟩, hne⟩, ok1⟩, ok2⟩, ok3⟩, ok4⟩ := ok
  unfold Ctr
  k_fill
  intro mean mg mb s Q E hK hT hret
  unfold levA levB at *
  k_dflt cell_enter
  rename Fr _ _ _ _ => Fa
  obtain ⟨m0, Fb⟩ := hide_map Fa [(Str.ofString "a", Value.str a th), (Str.ofString "b", Value.str b ts), (Str.ofString "max_cost", Value.int m tv)] (by simp only [List.forall_mem_cons]; exact ⟨rfl, rfl, rfl, fun _ h => nomatch h⟩)
  clear Fa
  dsimp only [withK] at Fb
  k_steps
  unfold Hold
  rename Fr _ _ _ _ => F0
  rename News _ _ _ _ => N0
  refine cutI (Str.ofString "pre") (preF a b) F0 N0 ?_ ?_
  · refine while_int (Str.ofString "pre") (fun c => 0 ≤ c ∧ c ≤ 40 ∧ preGo a b (41 - c.toNat) c = preF a b) (fun c => 50 - c.toNat) F0 N0 ⟨_, if_pos rfl⟩ ⟨Int.le_refl _, (by decide : (0:Int) ≤ 40), rfl⟩ ?turn
    case turn =>
      clear F0 N0 ok1 ok2 ok3 hret
      intro c ct h tk hP F1 N1
      obtain ⟨hc0, hc1, hc2⟩ := hP
      k_steps
      all_goals (rename Fr _ _ _ _ => F9; rename News _ _ _ _ => N9)
      all_goals first
        | (refine WTurn.mk' (c + 1) F9 N9 (if_pos rfl) (fun z hz => by simp [hz]) ?_ ?_
           · refine ⟨by omega, by omega, ?_⟩
             refine preGo_on hc0 (by omega) (by omega) (by omega) (by assumption) hc2
           · omega)
        | (refine CutV.mk' F9 N9 (if_pos rfl) ⟨ct, congrArg (Value.int · ct) (preGo_off hc0 (by omega) ?_ hc2).symm⟩ (fun z hz => by simp [hz])
           rintro ⟨_, _, h9⟩
           first | omega | exact absurd (h9.symm.trans (show _ = false by assumption)) (by decide))
  · clear F0 N0
    intro h' tk t F1 N1
    (try dsimp only)
    k_steps
    unfold Hold
    have hl1 := Txt.slice_le a (some (preF a b)) none
    have hl2 := Txt.slice_le b (some (preF a b)) none
    generalize Txt.slice a (some (preF a b)) none = a1 at *
    generalize Txt.slice b (some (preF a b)) none = b1 at *
    rename Fr _ _ _ _ => F0
    rename News _ _ _ _ => N0
    refine cutI (Str.ofString "post") (postF a1 b1) F0 N0 ?_ ?_
    · refine while_int (Str.ofString "post") (fun c => c ≤ 0 ∧ -40 ≤ c ∧ postGo a1 b1 (41 - (-c).toNat) c = postF a1 b1) (fun c => 50 - (-c).toNat) F0 N0 ⟨_, if_pos rfl⟩ ⟨Int.le_refl _, (by decide : (-40:Int) ≤ 0), rfl⟩ ?turn
      case turn =>
        clear F0 N0 ok1 ok2 ok3 hret
        intro c ct h tk hP F1 N1
        obtain ⟨hc0, hc1, hc2⟩ := hP
        by_cases hq : c = 0
        · subst hq
          k_steps
          all_goals (rename Fr _ _ _ _ => F9; rename News _ _ _ _ => N9)
          all_goals first
            | (refine WTurn.mk' (-1) F9 N9 (if_pos rfl) (fun z hz => by simp [hz]) ⟨by decide, by decide, ?_⟩ (by decide)
               refine postGo_on hc0 (by omega) (by omega) (by omega) (by assumption) hc2)
            | (refine CutV.mk' F9 N9 (if_pos rfl) ⟨ct, congrArg (Value.int · ct) (postGo_off hc0 (by omega) ?_ hc2).symm⟩ (fun z hz => by simp [hz])
               rintro ⟨_, _, h9⟩
               first | omega | exact absurd (h9.symm.trans (show _ = false by assumption)) (by decide))
        · have hlt : c < 0 := by omega
          have hs1 := slice_neg_len a1 c hlt
          have hs2 := slice_neg_len b1 c hlt
          k_steps
          all_goals (rename Fr _ _ _ _ => F9; rename News _ _ _ _ => N9)
          all_goals first
            | (exfalso; omega)
            | (refine WTurn.mk' (c - 1) F9 N9 (if_pos rfl) (fun z hz => by simp [hz]) ⟨by omega, by omega, ?_⟩ (by omega)
               refine postGo_on hc0 (by omega) (by omega) (by omega) (by assumption) hc2)
            | (refine CutV.mk' F9 N9 (if_pos rfl) ⟨ct, congrArg (Value.int · ct) (postGo_off hc0 (by omega) ?_ hc2).symm⟩ (fun z hz => by simp [hz])
               rintro ⟨_, _, h9⟩
               first | omega | exact absurd (h9.symm.trans (show _ = false by assumption)) (by decide))
    · clear F0 N0
      intro h' tk t F1 N1
      (try dsimp only)
      generalize postF a1 b1 = q at *
      k_steps
      unfold Hold
      rename Fr _ _ _ _ => F0
      rename News _ _ _ _ => N0
      refine cutS (Str.ofString "a") (tailF a1 q) F0 N0 ?_ ?_
      · have nh : NoHold := ⟨⟩
        clear ok1 ok2 ok3 hret
        k_steps
        all_goals (rename Fr _ _ _ _ => F9)
        all_goals refine CutV.mkS F9 News.nil (if_pos rfl) ?_ (fun z hz => if_neg hz)
        all_goals unfold tailF
        all_goals first | rw [if_pos (by assumption)] | rw [if_neg (by assumption)]
      · clear F0 N0
        intro h' tk t F1 N1
        (try dsimp only)
        k_steps
        unfold Hold
        rename Fr _ _ _ _ => F0
        rename News _ _ _ _ => N0
        refine cutS (Str.ofString "b") (tailF b1 q) F0 N0 ?_ ?_
        · have nh : NoHold := ⟨⟩
          clear ok1 ok2 ok3 hret
          k_steps
          all_goals (rename Fr _ _ _ _ => F9)
          all_goals refine CutV.mkS F9 News.nil (if_pos rfl) ?_ (fun z hz => if_neg hz)
          all_goals unfold tailF
          all_goals first | rw [if_pos (by assumption)] | rw [if_neg (by assumption)]
        · clear F0 N0
          intro h' tk t F1 N1
          (try dsimp only)
          generalize tailF a1 q = a2 at *
          generalize tailF b1 q = b2 at *
          (k_with "pyIter ref" => (k_of "bindex" => k_state (fun pre row result => row.length = a2.length ∧ pre = rangeKs 0 pre.length ∧ ∀ rest, levGo a2 b2 m (pre ++ rest) (row0 a2.length, 0) = levGo a2 b2 m rest (row, result)) "row" "result"))
          (k_with "pyIter ref" => (k_of "index" => k_state_given ["bchar", "row!", "distance!", "result!", "minimum!"] (fun bc r0 d0 s0 m0 pre row dist res mn => row.length = a2.length ∧ (row, dist, res, mn) = pre.foldl (levStep a2 bc) (r0, d0, s0, m0)) "row" "distance" "result" "minimum"))
          (k_with "state" => first | exact lev_start _ _ _ | exact ⟨by assumption, rfl⟩ | exact lev_inA (by assumption) (by assumption) (by assumption) | exact lev_inB (by assumption) (by assumption) (by assumption) | exact lev_out (by assumption) (by assumption) (by assumption) (by assumption) (by assumption) (by assumption))
          have nh : NoHold := ⟨⟩
          k_steps
          all_goals (try (exfalso; omega))
          all_goals (try dsimp only)
          all_goals (rename Fr _ _ _ _ => F9)
          all_goals first
            | exact hret _ _ _ F9.keep ⟨_, by rw [lev_exit (by assumption) (by assumption) (by assumption) (by assumption) (by assumption) (by assumption)]⟩
            | exact hret _ _ _ F9.keep ⟨_, by rw [lev_end (by assumption)]⟩


end
section
set_option maxRecDepth 100000
set_option maxHeartbeats 8000000
noncomputable def fAt (a b c : UInt64) : Nat → UInt64
  | 0 => a
  | 1 => b
  | _ => c
noncomputable def max3F (a b c : UInt64) : UInt64 :=
  fAt a b c (argBest (fun i j => Float64.cmp (fAt a b c i) (fAt a b c j) == some Ordering.gt) 2)
noncomputable def min3F (a b c : UInt64) : UInt64 :=
  fAt a b c (argBest (fun i j => Float64.cmp (fAt a b c i) (fAt a b c j) == some Ordering.lt) 2)
noncomputable abbrev f1 : UInt64 := 4607182418800017408
noncomputable abbrev f6 : UInt64 := 4618441417868443648
noncomputable def hsvM (h : UInt64) : UInt64 := Float64.mul h f6
noncomputable def hsvI (h : UInt64) : Int := Flt.toInt Float64.truncOf (hsvM h)
noncomputable def hsvD (h : UInt64) : UInt64 := Float64.sub (hsvM h) (Float64.ofInt (hsvI h))
noncomputable def hsvP (s v : UInt64) : UInt64 := Float64.mul v (Float64.sub f1 s)
noncomputable def hsvQ (h s v : UInt64) : UInt64 := Float64.mul v (Float64.sub f1 (Float64.mul s (hsvD h)))
noncomputable def hsvT (h s v : UInt64) : UInt64 := Float64.mul v (Float64.sub f1 (Float64.mul s (Float64.sub f1 (hsvD h))))
noncomputable def hsvF (h s v : UInt64) : UInt64 × UInt64 × UInt64 :=
  if (hsvI h).fmod 6 = 0 then (v, hsvT h s v, hsvP s v) else
  if (hsvI h).fmod 6 = 1 then (hsvQ h s v, v, hsvP s v) else
  if (hsvI h).fmod 6 = 2 then (hsvP s v, v, hsvT h s v) else
  if (hsvI h).fmod 6 = 3 then (hsvP s v, hsvQ h s v, v) else
  if (hsvI h).fmod 6 = 4 then (hsvT h s v, hsvP s v, v) else (v, hsvP s v, hsvQ h s v)
noncomputable def hsvOk (h s : UInt64) : Bool := !(Float64.cmp s 0 == some Ordering.eq) && !Float64.isNaN (hsvM h) && !Float64.isInf (hsvM h) && decide ((hsvI h).natAbs < 100)
theorem big_absurd {n : Nat} (h : 2 ^ 1024 - 2 ^ 970 ≤ n) (h' : n < 100) : False := by
  have : 100 ≤ 2 ^ 1024 - 2 ^ 970 := by decide +kernel
  exact absurd (Nat.lt_of_le_of_lt (Nat.le_trans this h) h') (Nat.lt_irrefl _)
theorem fmod6 (n : Int) (h0 : n.fmod 6 ≠ 0) (h1 : n.fmod 6 ≠ 1) (h2 : n.fmod 6 ≠ 2) (h3 : n.fmod 6 ≠ 3) (h4 : n.fmod 6 ≠ 4) (h5 : n.fmod 6 ≠ 5) : False := by
  have a := Int.fmod_nonneg_of_pos n (show (0:Int) < 6 by decide)
  have b := Int.fmod_lt_of_pos n (show (0:Int) < 6 by decide)
  omega
theorem ne_of_eq5 {n : Int} (h : n = 5) : n ≠ 0 ∧ n ≠ 1 ∧ n ≠ 2 ∧ n ≠ 3 ∧ n ≠ 4 := by omega
noncomputable def rgbR (r g b : UInt64) : UInt64 := Float64.sub (max3F r g b) (min3F r g b)
noncomputable def rgbX (x r g b : UInt64) : UInt64 := Float64.div (Float64.sub (max3F r g b) x) (rgbR r g b)
noncomputable def rgbH (r g b : UInt64) : UInt64 :=
  cond (Float64.cmp r (max3F r g b) == some Ordering.eq) (Float64.sub (rgbX b r g b) (rgbX g r g b))
    (cond (Float64.cmp g (max3F r g b) == some Ordering.eq) (Float64.sub (Float64.add 4611686018427387904 (rgbX r r g b)) (rgbX b r g b))
      (Float64.sub (Float64.add 4616189618054758400 (rgbX g r g b)) (rgbX r r g b)))
noncomputable def rgbF (r g b : UInt64) : UInt64 × UInt64 × UInt64 :=
  ((Float64.divmod (Float64.div (rgbH r g b) f6) f1).snd, Float64.div (rgbR r g b) (max3F r g b), max3F r g b)
noncomputable def rgbOk (r g b : UInt64) : Bool := !(Float64.cmp (min3F r g b) (max3F r g b) == some Ordering.eq) && !Float64.isZero (max3F r g b) && !Float64.isZero (rgbR r g b)
end
section
set_option maxRecDepth 100000
noncomputable def hues : List UInt64 := [0, 4589168020290535424, 4593671619917905920, 4595923419731591168, 4598175219545276416, 4599301119452119040, 4600427019358961664, 4601552919265804288, 4602678819172646912, 4603241769126068224, 4603804719079489536, 4604367669032910848, 4604930618986332160, 4605493568939753472, 4606056518893174784, 4606619468846596096]
noncomputable def shares : List UInt64 := [4598175219545276416, 4602678819172646912, 4604930618986332160, 4607182418800017408]
noncomputable def vals : List UInt64 := [4607182418800017408, 4602678819172646912]
noncomputable def colOk (h s v : UInt64) : Bool := hsvOk h s && rgbOk (hsvF h s v).1 (hsvF h s v).2.1 (hsvF h s v).2.2 && decide (rgbF (hsvF h s v).1 (hsvF h s v).2.1 (hsvF h s v).2.2 = (h, s, v))
theorem colH0 : (shares.all fun s => vals.all fun v => colOk 0 s v) = true := by decide +kernel
theorem colH1 : (shares.all fun s => vals.all fun v => colOk 4589168020290535424 s v) = true := by decide +kernel
theorem colH2 : (shares.all fun s => vals.all fun v => colOk 4593671619917905920 s v) = true := by decide +kernel
theorem colH3 : (shares.all fun s => vals.all fun v => colOk 4595923419731591168 s v) = true := by decide +kernel
theorem colH4 : (shares.all fun s => vals.all fun v => colOk 4598175219545276416 s v) = true := by decide +kernel
theorem colH5 : (shares.all fun s => vals.all fun v => colOk 4599301119452119040 s v) = true := by decide +kernel
theorem colH6 : (shares.all fun s => vals.all fun v => colOk 4600427019358961664 s v) = true := by decide +kernel
theorem colH7 : (shares.all fun s => vals.all fun v => colOk 4601552919265804288 s v) = true := by decide +kernel
theorem colH8 : (shares.all fun s => vals.all fun v => colOk 4602678819172646912 s v) = true := by decide +kernel
theorem colH9 : (shares.all fun s => vals.all fun v => colOk 4603241769126068224 s v) = true := by decide +kernel
theorem colH10 : (shares.all fun s => vals.all fun v => colOk 4603804719079489536 s v) = true := by decide +kernel
theorem colH11 : (shares.all fun s => vals.all fun v => colOk 4604367669032910848 s v) = true := by decide +kernel
theorem colH12 : (shares.all fun s => vals.all fun v => colOk 4604930618986332160 s v) = true := by decide +kernel
theorem colH13 : (shares.all fun s => vals.all fun v => colOk 4605493568939753472 s v) = true := by decide +kernel
theorem colH14 : (shares.all fun s => vals.all fun v => colOk 4606056518893174784 s v) = true := by decide +kernel
theorem colH15 : (shares.all fun s => vals.all fun v => colOk 4606619468846596096 s v) = true := by decide +kernel
theorem col_ok : (hues.all fun h => shares.all fun s => vals.all fun v => colOk h s v) = true := by
  simp only [hues, List.all_cons, List.all_nil, Bool.and_true, colH0, colH1, colH2, colH3, colH4, colH5, colH6, colH7, colH8, colH9, colH10, colH11, colH12, colH13, colH14, colH15]
end
section
set_option maxRecDepth 100000
set_option maxHeartbeats 2000000
theorem setGen_toks (s : Shared) (g : Nat) (x : GenState) : (s.setGen g x).toks = s.toks := rfl
theorem runs_toks {M : Model} {Γ : Ctx} {p : Pos} {t : Sem Fin} {fs : List Frame} {s : Shared} {e : End} {s' : Shared} (h : Runs M Γ p t fs s e s') : s.toks ≤ s'.toks := by
  induction h <;> first
    | exact Nat.le_refl _
    | assumption
    | omega
    | exact Nat.le_trans (by assumption) (by assumption)
    | exact Nat.le_trans (Nat.le_succ _) (by assumption)
theorem wp_toks {α : Type} {M : Model} {n : Nat} (t : Sem α) : ∀ {Γ : Ctx} {Q : α → Pos → Shared → Prop} {E : Value → Pos → Shared → Prop} {p : Pos} {s : Shared}, n ≤ s.toks → Sem.wp M Γ t Q E p s →
    Sem.wp M Γ t (fun a p' s' => n ≤ s'.toks ∧ Q a p' s') (fun e p' s' => n ≤ s'.toks ∧ E e p' s') p s := by
  induction t with
  | pure a => intro Γ Q E p s hn h; exact ⟨hn, h⟩
  | raise e => intro Γ Q E p s hn h; exact ⟨hn, h⟩
  | unsupported _ => intro Γ Q E p s hn h; exact h
  | finish _ => intro Γ Q E p s hn h; exact h
  | rule _ k ih => intro Γ Q E p s hn h; exact ih () hn h
  | «at» _ k ih => intro Γ Q E p s hn h; exact ih () hn h
  | load a _ k ih => rintro Γ Q E p s hn ⟨o, ho, h⟩; exact ⟨o, ho, ih o hn h⟩
  | update a _ f k ih => rintro Γ Q E p s hn ⟨ho, h⟩; exact ⟨ho, ih () hn h⟩
  | alloc o k ih => intro Γ Q E p s hn h; exact ih _ hn h
  | loadIfAlive a k ih => intro Γ Q E p s hn h; exact ih _ hn h
  | point _ k ih => intro Γ Q E p s hn h; exact ih () hn h
  | register _ k ih => intro Γ Q E p s hn h; exact h
  | fresh k ih => intro Γ Q E p s hn h; exact ih _ (Nat.le_succ_of_le hn) h
  | ask k ih => intro Γ Q E p s hn h; exact ih _ hn h
  | choose src m k ih => rintro Γ Q E p s hn ⟨hm, h⟩; exact ⟨hm, ih _ hn h⟩
  | os q _ k ih => intro Γ Q E p s hn h; exact ih _ hn h
  | call c h g l k ih =>
    rintro Γ Q E p s hn ⟨r, s', hr, h⟩
    exact ⟨r, s', hr, ih r (Nat.le_trans hn (runs_toks hr)) h⟩
  | handled own k ih => intro Γ Q E p s hn h; exact ih _ hn h
  | newGen c k ih => intro Γ Q E p s hn h; exact ih _ hn h
  | genState g k ih => rintro Γ Q E p s hn ⟨st, hs, h⟩; exact ⟨st, hs, ih _ hn h⟩
  | resume g r l k ih =>
    rintro Γ Q E p s hn ⟨res, s', hw, h⟩
    refine ⟨res, s', hw, ih _ (Nat.le_trans hn ?_) h⟩
    unfold Wakes at hw
    split at hw
    · exact hw.elim
    · split at hw
      · obtain ⟨e, s1, hr, _, _, rfl⟩ := hw; exact (show s.toks ≤ s1.toks from runs_toks (s := s.setGen _ _) hr)
      · obtain ⟨_, rfl⟩ := hw; exact Nat.le_refl _
      · obtain ⟨_, rfl⟩ := hw; exact Nat.le_refl _
    · obtain ⟨e, s1, hr, _, _, rfl⟩ := hw; exact (show s.toks ≤ s1.toks from runs_toks (s := s.setGen _ _) hr)
    · obtain ⟨_, rfl⟩ := hw; exact Nat.le_refl _
    · obtain ⟨_, rfl⟩ := hw; exact Nat.le_refl _
  | yield _ _ _ k ih => intro Γ Q E p s hn h; exact h
  | stack k ih => intro Γ Q E p s hn h; exact ih _ hn h
  | fork c k ih => intro Γ Q E p s hn h; exact h
  | thread k ih => intro Γ Q E p s hn h; exact ih _ hn h
  | await _ _ _ _ k ih => intro Γ Q E p s hn h; exact h
/-- no run takes tokens back -/
theorem wpAny_toks {α : Type} {M : Model} {A : Around} {t : Sem α} {Q : α → Shared → Prop} {E : Value → Shared → Prop} {s : Shared} (h : wpAny M A t Q E s) :
    wpAny M A t (fun a s' => s.toks ≤ s'.toks ∧ Q a s') (fun e s' => s.toks ≤ s'.toks ∧ E e s') s := fun Γ p hΓ => wp_toks t (Nat.le_refl _) (h Γ p hΓ)
theorem toks_abs {α : Type} {M : Model} {A : Around} {t : Sem α} {Q : α → Shared → Prop} {E : Value → Shared → Prop} {s : Shared} (h : ∀ tk : Nat, s.toks ≤ tk → wpAny M A t Q E { s with toks := tk }) : wpAny M A t Q E s := h s.toks (Nat.le_refl _)
end
local macro_rules | `(tactic| walk_at "T9") => `(tactic| ((with_reducible show wpAny _ _ _ _ _ ⟨_, _, _, HAdd.hAdd _ _, _⟩); refine toks_abs ?_; intro tk' htk'; (try dsimp only at htk' ⊢)))
section
set_option maxRecDepth 100000
set_option maxHeartbeats 2000000
theorem ns_at {K : Frag} {h : Heap} {a : Addr} {mg : Str → Option Value} {n : Str} (X : K.In h) (G : h.Ns a mg) (e : nsIn K a n = some none) : mg n = none := by
  obtain ⟨o, es, ep, ho, hd, _, hf⟩ := G
  unfold nsIn at e
  split at e
  · rename_i q
    have := X _ _ q
    rw [ho] at this
    cases this
    cases hd
    split at e
    · cases e
    · rename_i he
      rw [← hf]
      unfold nsFind findBy
      rw [← Array.find?_toList, he]
      rfl
  · cases e
theorem not_booked (P : Params) : nsIn (hd.heap_39 P) cStatics sharingNotToldKey = some none := by kernel_rfl
theorem none_booked_of {w : World} {h : Heap} {mean : ExcName → Option Value} {mg mb : Str → Option Value} (hK : (hd.heap_39 w.params).In h) (hT : Top hd.view_39 (looseW hd.view_39 []) mean mg mb h) : NoneBooked h := by
  obtain ⟨mc, hns, _⟩ := hT.nolimit
  exact ⟨mc, hns, ns_at hK hns (not_booked _)⟩
section
variable {prog : Program} {w : World} {A : Around} {E : Value → Shared → Prop} {s : Shared}
theorem same_floats {x y : UInt64} {t u : Tok} {Q : Bool → Shared → Prop} (h0 : (t == 0 || u == 0) = false) (hb : NoneBooked s.heap) (hq : ∀ b, (b = true → t = u ∨ x = y) → Q b s) :
    wpAny (model prog w) A (isSame (.float x t) (.float y u)) Q E s := by
  show wpAny _ A (isSame.created (x == y && !Float64.isNaN x) t u) Q E s
  unfold isSame.created
  refine wpAny_ite ?_
  split
  · rename_i h; rw [h0] at h; exact absurd h Bool.false_ne_true
  refine wpAny_ite ?_
  split
  · rename_i h; exact wpAny_pure (hq _ fun _ => .inl (beq_iff_eq.mp h))
  refine wpAny_ite ?_
  split
  · exact wpAny_pure (hq _ fun h => absurd h Bool.false_ne_true)
  rename_i hne
  refine wpAny_bind (wpAny_sharingNotTold_none hb ?_)
  simp only [Bool.false_eq_true, if_false]
  refine wpAny_bind (wpAny_sharingNotTold_none hb ?_)
  simp only [Bool.false_eq_true, if_false]
  refine wpAny_bind (wpAny_rule (wpAny_bind (wpAny_askSetting (wpAny_pure (hq _ fun _ => .inr ?_)))))
  simp only [Bool.not_eq_true', Bool.not_eq_false] at hne
  exact beq_iff_eq.mp (Bool.and_eq_true_iff.mp hne).1
theorem eqBool_floats {x y : UInt64} {t u : Tok} {Q : Bool → Shared → Prop} (h0 : (t == 0 || u == 0) = false) (hb : NoneBooked s.heap) (hs : x = y → (Float64.cmp x y == some Ordering.eq) = true) (hd : x ≠ y → t ≠ u ∧ (Float64.cmp x y == some Ordering.eq) = false) (h : Q (decide (x = y)) s) :
    wpAny (model prog w) A (eqBool (.float x t) (.float y u)) Q E s := by
  unfold eqBool
  refine wpAny_holding ?_
  refine wpAny_ite ?_
  split
  · rename_i hab
    have e := eq_of_beq hab
    injection e with e1 e2
    rw [decide_eq_true e1] at h
    exact wpAny_bind (wpAny_rule (wpAny_pure h))
  · refine wpAny_bind (same_floats h0 hb fun b hbb => ?_)
    cases b with
    | true =>
      have e : x = y := by
        rcases Decidable.em (x = y) with e | e
        · exact e
        · rcases hbb rfl with h1 | h1
          · exact absurd h1 (hd e).1
          · exact h1
      rw [decide_eq_true e] at h
      simp only [if_true]
      exact wpAny_pure h
    | false =>
      simp only [Bool.false_eq_true, if_false]
      refine wpAny_bind (show wpAny (model prog w) A (richCompare .Eq (.float x t) (.float y u)) _ E s from AutoFloatOps.eq_0 ?_)
      refine wpAny_truthy_bool ?_
      rcases Decidable.em (x = y) with e | e
      · rw [hs e]; rw [decide_eq_true e] at h; exact h
      · rw [(hd e).2]; rw [decide_eq_false e] at h; exact h
/-- two tuples of the same three floats are not unequal -/
theorem ne_tups {a b : Addr} {x y z : UInt64} {t1 t2 t3 u1 u2 u3 : Tok} {Q : Value → Shared → Prop} (ha : s.heap.get? a = some { cls := .type "tuple", data := .seq #[.float x t1, .float y t2, .float z t3] })
    (hb : s.heap.get? b = some { cls := .type "tuple", data := .seq #[.float x u1, .float y u2, .float z u3] }) (hN : NoneBooked s.heap) (hu : A.units < cLine)
    (hx : (Float64.cmp x x == some Ordering.eq) = true) (hy : (Float64.cmp y y == some Ordering.eq) = true) (hz : (Float64.cmp z z == some Ordering.eq) = true)
    (h1 : (t1 == 0 || u1 == 0) = false) (h2 : (t2 == 0 || u2 == 0) = false) (h3 : (t3 == 0 || u3 == 0) = false) (h : Q (.bool false) s) :
    wpAny (model prog w) A (compareOp .NotEq (.ref a) (.ref b)) Q E s := by
  refine SeqAt.RcNeAt.tuples (e := fun _ => true) ⟨_, ha, rfl, _, rfl⟩ ⟨_, hb, rfl, _, rfl⟩ hu ?_ prog w E Q h
  intro j hj1 hj2
  match j, hj1, hj2 with
  | 0, _, _ => exact fun prog w E Q hq => eqBool_floats h1 hN (fun _ => hx) (fun h => absurd rfl h) (by simpa using hq)
  | 1, _, _ => exact fun prog w E Q hq => eqBool_floats h2 hN (fun _ => hy) (fun h => absurd rfl h) (by simpa using hq)
  | 2, _, _ => exact fun prog w E Q hq => eqBool_floats h3 hN (fun _ => hz) (fun h => absurd rfl h) (by simpa using hq)
end
end
section
set_option maxRecDepth 100000
set_option maxHeartbeats 8000000
theorem items3t {a b c : UInt64} {t u x : Tok} {i : Nat} {v : Value} (h : (#[Value.float a t, .float b u, .float c x] : Array Value)[i]? = some v) : ∃ t', v = .float (fAt a b c i) t' ∧ (t' = t ∨ t' = u ∨ t' = x) := by
  match i, h with
  | 0, h => cases h; exact ⟨_, rfl, .inl rfl⟩
  | 1, h => cases h; exact ⟨_, rfl, .inr (.inl rfl)⟩
  | 2, h => cases h; exact ⟨_, rfl, .inr (.inr rfl)⟩
section
variable {prog : Program} {w : World} {A : Around} {E : Value → Shared → Prop} {s : Shared}
theorem max3_tok {a b c : UInt64} {t u x : Tok} {Q : Value → Shared → Prop} (hh : A.handled = none) (ht : 0 < t) (hu : 0 < u) (hx : 0 < x)
    (h : ∀ (h' : Heap) (tk t' : Nat), 0 < t' → s.toks ≤ tk → (∀ d o, s.heap.get? d = some o → h'.get? d = some o) → Q (.float (max3F a b c) t') { s with heap := h', toks := tk }) :
    wpAny (model prog w) A (call (.builtin "max") [.float a t, .float b u, .float c x]) Q E s := by
  have hT : (s.heap.push { cls := .type "tuple", data := .seq #[.float a t, .float b u, .float c x] }).IsTuple s.heap.objs.size #[.float a t, .float b u, .float c x] := ⟨_, Heap.get?_push_size _ rfl, rfl, 0, rfl⟩
  refine wpAny_mono (wpAny_toks (Q := fun v s' => ∃ h' tk t', 0 < t' ∧ s' = { s with heap := h', toks := tk } ∧ (∀ d o, s.heap.get? d = some o → h'.get? d = some o) ∧ v = .float (max3F a b c) t') (E := E) ?_) (fun v s' hq => by obtain ⟨hle, h', tk, t', h0, rfl, hk, rfl⟩ := hq; exact h h' tk t' h0 hle hk) (fun _ _ x => x.2)
  refine call_max_three (wpAny_pyIter_tuple hT ?_)
  have hsz : (s.heap.push { cls := .type "tuple", data := .seq #[.float a t, .float b u, .float c x] }).objs.size = s.heap.objs.size + 1 := Heap.size_push ..
  refine ⟨_, [_, s.heap.objs.size], [_], _, _, _, (fun i j => Float64.cmp (fAt a b c i) (fAt a b c j) == some Ordering.gt), rfl, Walks.tuple (A := A.in1) hh _ s.heap.objs.size (by rw [hsz]; exact Nat.ne_of_lt (Nat.lt_succ_self _)) #[.float a t, .float b u, .float c x],
    ⟨⟨_, Heap.get?_push_size _ rfl, rfl, rfl⟩, hT.push _⟩, fun d hd => ?_, Nat.succ_pos 2, ?_, fun v h' tk hP hk => ?_⟩
  · show d < ((s.heap.push _).push _).objs.size
    rw [Heap.size_push, hsz]
    rcases List.mem_cons.mp hd with rfl | hd
    · rw [hsz]; exact Nat.lt_succ_self _
    · rcases List.mem_cons.mp hd with rfl | hd
      · exact Nat.lt_succ_of_lt (Nat.lt_succ_self _)
      · cases hd
  · intro i j vi vj s' Q' E' hi hj hQ
    obtain ⟨ti, rfl, _⟩ := items3t hi
    obtain ⟨tj, rfl, _⟩ := items3t hj
    exact AutoFloatOps.gt_0 hQ
  · obtain ⟨t', rfl, htt⟩ := items3t hP
    refine ⟨h', tk, t', by rcases htt with rfl | rfl | rfl <;> assumption, rfl, fun d o e => ?_, rfl⟩
    refine hk d o (fun hm => ?_) (Heap.get?_push_of_some _ (Heap.get?_push_of_some _ e))
    rcases List.mem_cons.mp hm with e1 | hm
    · have := Heap.lt_size e; rw [e1, hsz] at this; exact Nat.lt_irrefl _ (Nat.lt_of_succ_lt this)
    · cases hm
theorem min3_tok {a b c : UInt64} {t u x : Tok} {Q : Value → Shared → Prop} (hh : A.handled = none) (ht : 0 < t) (hu : 0 < u) (hx : 0 < x)
    (h : ∀ (h' : Heap) (tk t' : Nat), 0 < t' → s.toks ≤ tk → (∀ d o, s.heap.get? d = some o → h'.get? d = some o) → Q (.float (min3F a b c) t') { s with heap := h', toks := tk }) :
    wpAny (model prog w) A (call (.builtin "min") [.float a t, .float b u, .float c x]) Q E s := by
  have hT : (s.heap.push { cls := .type "tuple", data := .seq #[.float a t, .float b u, .float c x] }).IsTuple s.heap.objs.size #[.float a t, .float b u, .float c x] := ⟨_, Heap.get?_push_size _ rfl, rfl, 0, rfl⟩
  refine wpAny_mono (wpAny_toks (Q := fun v s' => ∃ h' tk t', 0 < t' ∧ s' = { s with heap := h', toks := tk } ∧ (∀ d o, s.heap.get? d = some o → h'.get? d = some o) ∧ v = .float (min3F a b c) t') (E := E) ?_) (fun v s' hq => by obtain ⟨hle, h', tk, t', h0, rfl, hk, rfl⟩ := hq; exact h h' tk t' h0 hle hk) (fun _ _ x => x.2)
  refine call_min_three (wpAny_pyIter_tuple hT ?_)
  have hsz : (s.heap.push { cls := .type "tuple", data := .seq #[.float a t, .float b u, .float c x] }).objs.size = s.heap.objs.size + 1 := Heap.size_push ..
  refine ⟨_, [_, s.heap.objs.size], [_], _, _, _, (fun i j => Float64.cmp (fAt a b c i) (fAt a b c j) == some Ordering.lt), rfl, Walks.tuple (A := A.in1) hh _ s.heap.objs.size (by rw [hsz]; exact Nat.ne_of_lt (Nat.lt_succ_self _)) #[.float a t, .float b u, .float c x],
    ⟨⟨_, Heap.get?_push_size _ rfl, rfl, rfl⟩, hT.push _⟩, fun d hd => ?_, Nat.succ_pos 2, ?_, fun v h' tk hP hk => ?_⟩
  · show d < ((s.heap.push _).push _).objs.size
    rw [Heap.size_push, hsz]
    rcases List.mem_cons.mp hd with rfl | hd
    · rw [hsz]; exact Nat.lt_succ_self _
    · rcases List.mem_cons.mp hd with rfl | hd
      · exact Nat.lt_succ_of_lt (Nat.lt_succ_self _)
      · cases hd
  · intro i j vi vj s' Q' E' hi hj hQ
    obtain ⟨ti, rfl, _⟩ := items3t hi
    obtain ⟨tj, rfl, _⟩ := items3t hj
    exact AutoFloatOps.lt_0 hQ
  · obtain ⟨t', rfl, htt⟩ := items3t hP
    refine ⟨h', tk, t', by rcases htt with rfl | rfl | rfl <;> assumption, rfl, fun d o e => ?_, rfl⟩
    refine hk d o (fun hm => ?_) (Heap.get?_push_of_some _ (Heap.get?_push_of_some _ e))
    rcases List.mem_cons.mp hm with e1 | hm
    · have := Heap.lt_size e; rw [e1, hsz] at this; exact Nat.lt_irrefl _ (Nat.lt_of_succ_lt this)
    · cases hm
end

theorem rowsC30 : True := by
  k_with_none
  k_with "call builtin:max" => (k_here; (with_reducible show wpAny _ _ (call (Value.builtin _) [Value.float _ _, Value.float _ _, Value.float _ _]) _ _ _); k_dflt (refine' max3_tok rfl ?a ?b ?c ?_; (case a => omega); (case b => omega); (case c => omega)); (intro h' tk' t' ht0 hle' hk'); (rename Fr _ _ _ _ => F'); (rename News _ _ _ _ => N'); (replace F' := Fr.grownK F' hk'); (replace N' := News.grown N' hk'); clear hk'; (try dsimp only at hle'))
  k_with "call builtin:min" => (k_here; (with_reducible show wpAny _ _ (call (Value.builtin _) [Value.float _ _, Value.float _ _, Value.float _ _]) _ _ _); k_dflt (refine' min3_tok rfl ?a ?b ?c ?_; (case a => omega); (case b => omega); (case c => omega)); (intro h' tk' t' ht0 hle' hk'); (rename Fr _ _ _ _ => F'); (rename News _ _ _ _ => N'); (replace F' := Fr.grownK F' hk'); (replace N' := News.grown N' hk'); clear hk'; (try dsimp only at hle'))
  k_with "execs cons" => (walk_at "T9")
  k_with "execs nil" => (walk_at "T9")
  trivial
/-- a new tuple of three floats, their tokens above nought -/
noncomputable def NewTupT (h : Heap) (p : UInt64 × UInt64 × UInt64) (v : Value) (h' : Heap) : Prop :=
  ∃ a x y z, ∃ t u r : Nat, v = .ref a ∧ h'.get? a = some { cls := .type "tuple", data := .seq #[.float x t, .float y u, .float z r] } ∧ h.get? a = none ∧ (x, y, z) = p ∧ 0 < t ∧ 0 < u ∧ 0 < r
theorem hsv_ctrT (w : World) (h s v : UInt64) (th ts tv : Nat) (ok : hsvOk h s = true) (h1 : 0 < th) (h2 : 0 < ts) (h3 : 0 < tv) (mean : ExcName → Option Value) (mg mb : Str → Option Value) (st : Shared) (Q E : Value → Shared → Prop)
    (hK : (hd.heap_39 w.params).In st.heap) (hT : Top hd.view_39 (looseW hd.view_39 []) mean mg mb st.heap) (hs0 : 0 < st.toks)
    (hret : ∀ v' h' tk', (∀ b o, st.heap.get? b = some o → h'.get? b = some o) → NewTupT st.heap (hsvF h s v) v' h' → Q v' { st with heap := h', toks := tk' }) :
    wpAny (model Challenge.rw_re0084_01.prog w) (AA 330 60) (call (.ref 49) [.float h th, .float s ts, .float v tv]) Q E st := by
  simp only [hsvOk, Bool.and_eq_true, Bool.not_eq_true', decide_eq_true_eq] at ok
  obtain ⟨⟨⟨ok1, ok2⟩, ok3⟩, ok4⟩ := ok
  revert hK
  k_fill
  intro hK
  k_dflt cell_enter
  rename Fr _ _ _ _ => Fa
  obtain ⟨m0, Fb⟩ := hide_map Fa [(Str.ofString "h", Value.float h th), (Str.ofString "s", Value.float s ts), (Str.ofString "v", Value.float v tv)] (by simp only [List.forall_mem_cons]; exact ⟨rfl, rfl, rfl, fun _ h => nomatch h⟩)
  clear Fa
  dsimp only [withK] at Fb
  k_steps
  all_goals first
    | (exfalso; simp_all only [hsvM, hsvI]; done)
    | (exfalso; (rename_i hq _ _ _ _; exact absurd (ok1.symm.trans hq) (by decide)))
    | (exfalso; first | exact absurd (ok2.symm.trans (by assumption)) (by decide) | exact absurd (ok3.symm.trans (by assumption)) (by decide) | exact absurd (ok1.symm.trans (by assumption)) (by decide) | exact big_absurd (by assumption) ok4)
    | (exfalso; exact fmod6 _ (by assumption) (by assumption) (by assumption) (by assumption) (by assumption) (by assumption))
    | (rename News _ _ _ _ => N9
       rename Fr _ _ _ _ => F9
       refine hret _ _ _ F9.keep ⟨_, _, _, _, _, _, _, rfl, N9.get (List.Mem.head _), N9.fresh (List.Mem.head _), ?_, by first | assumption | omega | (dsimp only; omega), by first | assumption | omega | (dsimp only; omega), by first | assumption | omega | (dsimp only; omega)⟩
       unfold hsvF
       first
         | (rw [if_pos (by assumption)]; rfl)
         | (rw [if_neg (by assumption), if_pos (by assumption)]; rfl)
         | (rw [if_neg (by assumption), if_neg (by assumption), if_pos (by assumption)]; rfl)
         | (rw [if_neg (by assumption), if_neg (by assumption), if_neg (by assumption), if_pos (by assumption)]; rfl)
         | (rw [if_neg (by assumption), if_neg (by assumption), if_neg (by assumption), if_neg (by assumption), if_pos (by assumption)]; rfl)
         | (rw [if_neg (by assumption), if_neg (by assumption), if_neg (by assumption), if_neg (by assumption), if_neg (by assumption)]; rfl))

/-- the hue's token is of the call's own time -/
noncomputable def NewTupH (h : Heap) (n n' : Nat) (p : UInt64 × UInt64 × UInt64) (v : Value) (h' : Heap) : Prop :=
  ∃ a x y z, ∃ t u r : Nat, v = .ref a ∧ h'.get? a = some { cls := .type "tuple", data := .seq #[.float x t, .float y u, .float z r] } ∧ h.get? a = none ∧ (x, y, z) = p ∧ n ≤ t ∧ t < n' ∧ 0 < u ∧ 0 < r
theorem rgb_ctrT (w : World) (r g b : UInt64) (tr tg tb : Nat) (ok : rgbOk r g b = true) (h1 : 0 < tr) (h2 : 0 < tg) (h3 : 0 < tb) (mean : ExcName → Option Value) (mg mb : Str → Option Value) (st : Shared) (Q E : Value → Shared → Prop)
    (hK : (hd.heap_39 w.params).In st.heap) (hT : Top hd.view_39 (looseW hd.view_39 []) mean mg mb st.heap) (hs0 : 0 < st.toks)
    (hret : ∀ v' h' tk', (∀ b o, st.heap.get? b = some o → h'.get? b = some o) → NewTupH st.heap st.toks tk' (rgbF r g b) v' h' → Q v' { st with heap := h', toks := tk' }) :
    wpAny (model Challenge.rw_re0084_01.prog w) (AA 330 60) (call (.ref 42) [.float r tr, .float g tg, .float b tb]) Q E st := by
  simp only [rgbOk, Bool.and_eq_true, Bool.not_eq_true'] at ok
  obtain ⟨⟨ok1, ok2⟩, ok3⟩ := ok
  revert hK
  k_fill
  intro hK
  k_dflt cell_enter
  rename Fr _ _ _ _ => Fa
  obtain ⟨m0, Fb⟩ := hide_map Fa [(Str.ofString "r", Value.float r tr), (Str.ofString "g", Value.float g tg), (Str.ofString "b", Value.float b tb)] (by simp only [List.forall_mem_cons]; exact ⟨rfl, rfl, rfl, fun _ h => nomatch h⟩)
  clear Fa
  dsimp only [withK] at Fb
  k_steps
  all_goals first
    | (exfalso; first | exact absurd (ok1.symm.trans (by assumption)) (by decide) | exact absurd (ok2.symm.trans (by assumption)) (by decide) | exact absurd (ok3.symm.trans (by assumption)) (by decide))
    | (rename News _ _ _ _ => N9
       rename Fr _ _ _ _ => F9
       refine hret _ _ _ F9.keep ⟨_, _, _, _, _, _, _, rfl, N9.get (List.Mem.head _), N9.fresh (List.Mem.head _), ?_, by first | assumption | omega | (dsimp only; omega), by first | assumption | omega | (dsimp only; omega), by first | assumption | omega | (dsimp only; omega), by first | assumption | omega | (dsimp only; omega)⟩
       unfold rgbF rgbH
       first
         | (rw [show (Float64.cmp r (max3F r g b) == some Ordering.eq) = true from by assumption]; rfl)
         | (rw [show (Float64.cmp r (max3F r g b) == some Ordering.eq) = false from by assumption, show (Float64.cmp g (max3F r g b) == some Ordering.eq) = true from by assumption]; rfl)
         | (rw [show (Float64.cmp r (max3F r g b) == some Ordering.eq) = false from by assumption, show (Float64.cmp g (max3F r g b) == some Ordering.eq) = false from by assumption]; rfl))
end
section
set_option maxRecDepth 100000
set_option maxHeartbeats 2000000
theorem rowsG10 : True := by
  k_with_none
  trivial
section
variable {M : Model} {A : Around} {R : GenEnd} {Y : Protocol} {n : Nat} {s₀ : Shared} {c : Code} {fs : List Frame} {s : Shared} {env : Env}
  {K : Flow → Sem Fin} {H : Value → Sem Fin} {gd : Bool → Bool} {lv : List Value → List Value}
theorem seg_of {α : Type} {m : Sem α} {K : α → Sem Fin} (h : wpAny M (A.over c fs) m (fun a s' => Seg M A R Y n s₀ c (K a) fs s') (fun _ _ => False) s) :
    Seg M A R Y n s₀ c (m.wrap K H gd lv) fs s := seg_wrap (wpAny_mono h (fun _ _ x => x) fun _ _ x => x.elim)
theorem seg_If {test : Expr} {body orelse : List Stmt} {pos : Pos}
    (h : wpAny M (A.over c fs) (isTrue test env (eval test env)) (fun b s' => if b = true then Seg M A R Y n s₀ c ((execs body env).wrap K H gd lv) fs s' else Seg M A R Y n s₀ c ((execs orelse env).wrap K H gd lv) fs s') (fun _ _ => False) s) :
    Seg M A R Y n s₀ c ((exec (.If test body orelse pos) env).wrap K H gd lv) fs s := by
  show Seg M A R Y n s₀ c (.at pos fun _ => ((isTrue test env (eval test env)) >>= fun b => if b = true then execs body env else execs orelse env).wrap K H gd lv) fs s
  refine seg_at ?_
  rw [Sem.bind_eq_wrap', Sem.wrap_wrap]
  refine seg_of (wpAny_mono h (fun b s' hb => ?_) fun _ _ x => x)
  cases b with
  | true => simpa using hb
  | false => simpa using hb
noncomputable def ownBack (env : Env) (K : Flow → Sem Fin) (H : Value → Sem Fin) (gd : Bool → Bool) (lv : List Value → List Value) (r : Result) : Sem Fin :=
  ((match r with | .ok f => (.pure f : Sem Flow) | .error e => .raise e).onRaise fun (x : Value) => do
        if (← field x 1) == Value.none then unsupported "frame.own-activation:exception-without-traceback"
        setFlight x env.frame).wrap K H gd lv
theorem seg_For {target iter : Expr} {body orelse : List Stmt} {pos : Pos}
    (h : wpAny M (A.over c fs) (eval iter env) (fun x s₁ => wpAny M (A.over c fs) (pyIter x) (fun it s₂ =>
      ∀ p, Seg M A R Y n s₀ (.forLoop target it body orelse env) (M.den (.forLoop target it body orelse env)) (.ret (ownBack env K H gd lv) none (gd false) (lv []) c p [] :: fs) s₂) (fun _ _ => False) s₁) (fun _ _ => False) s)
    (hs : ∀ x, foldedSetIterable iter env x = pure x) :
    Seg M A R Y n s₀ c ((exec (.For target iter body orelse pos) env).wrap K H gd lv) fs s := by
  show Seg M A R Y n s₀ c (.at pos fun _ => (eval iter env >>= fun v => foldedSetIterable iter env v >>= fun x => standAt iter.pos >>= fun _ => holding [x] (pyIter x) >>= fun it => runOwn (.forLoop target it body orelse env) env).wrap K H gd lv) fs s
  refine seg_at ?_
  rw [Sem.bind_eq_wrap', Sem.wrap_wrap]
  refine seg_of (wpAny_mono h (fun x s₁ h₁ => ?_) fun _ _ x => x)
  rw [hs]
  show Seg M A R Y n s₀ c (.at iter.pos fun _ => (holding [x] (pyIter x) >>= fun it => runOwn (.forLoop target it body orelse env) env).wrap K H _ _) fs s₁
  refine seg_at ?_
  rw [Sem.bind_eq_wrap', Sem.wrap_wrap]
  refine seg_of (wpAny_holding (wpAny_mono h₁ (fun it s₂ h₂ => ?_) fun _ _ x => x))
  exact seg_call h₂
end
section
variable {prog : Program} {w : World} {A : Around} {R : GenEnd} {Y : Protocol} {n : Nat} {s₀ : Shared} {fs : List Frame} {s : Shared} {env : Env}
noncomputable def turnOn (target : Expr) (it : Value) (body : List Stmt) (env : Env) (f : Flow) : Sem Fin := match f with
  | .next | .cont => .pure (.again (.forLoop target it body [] env))
  | .brk => .pure (.done .next)
  | .ret v => .pure (.done (.ret v))
noncomputable def turnErr (env : Env) (e : Value) : Sem Fin := (do noteFrame e env; theTreesLotGoes e : Sem Unit).bind (fun _ => .raise e)
theorem seg_forLoop {target : Expr} {it : Value} {body : List Stmt}
    (h : wpAny (model prog w) (A.over (.forLoop target it body [] env) fs) (pyNext it) (fun r s₁ => match r with
      | none => Seg (model prog w) A R Y n s₀ (.block [] env) (.pure (.done .next)) fs s₁
      | some v => wpAny (model prog w) (A.over (.forLoop target it body [] env) fs) (letOwnedTupleGo target it v) (fun _ s₂ =>
          wpAny (model prog w) (A.over (.forLoop target it body [] env) fs) (assign target env v) (fun _ s₃ =>
            Seg (model prog w) A R Y n s₀ (.forLoop target it body [] env) ((execs body env).wrap (turnOn target it body env) (turnErr env) id id) fs s₃) (fun _ _ => False) s₂) (fun _ _ => False) s₁) (fun _ _ => False) s) :
    Seg (model prog w) A R Y n s₀ (.forLoop target it body [] env) ((model prog w).den (.forLoop target it body [] env)) fs s := by
  show Seg _ A R Y n s₀ _ ((forTurn target it body [] env).onRaise (fun x => do noteFrame x env; theTreesLotGoes x)) fs s
  unfold forTurn
  rw [Sem.onRaise_eq_wrap]
  show Seg _ A R Y n s₀ _ (.at target.pos fun _ => ((pyNext it).onRaise (fun _ => standAt { target.pos with line := 0 }) >>= _).wrap _ _ _ _) fs s
  refine seg_at ?_
  rw [Sem.bind_eq_wrap', Sem.wrap_wrap]
  refine seg_of (wpAny_onRaise (wpAny_mono h (fun r s₁ h₁ => ?_) fun _ _ x => x.elim))
  cases r with
  | none =>
    refine seg_again (c' := .block [] env) rfl ?_
    exact h₁
  | some v =>
    show Seg _ A R Y n s₀ _ ((letOwnedTupleGo target it v >>= _).wrap _ _ _ _) fs s₁
    rw [Sem.bind_eq_wrap', Sem.wrap_wrap]
    refine seg_of (wpAny_mono h₁ (fun _ s₂ h₂ => ?_) fun _ _ x => x)
    rw [Sem.bind_eq_wrap', Sem.wrap_wrap]
    refine seg_of (wpAny_mono h₂ (fun _ s₃ h₃ => ?_) fun _ _ x => x)
    rw [Sem.bind_eq_wrap', Sem.wrap_wrap]
    have key : ∀ t', t' = (execs body env).wrap (turnOn target it body env) (turnErr env) id id → Seg (model prog w) A R Y n s₀ (.forLoop target it body [] env) t' fs s₃ := by
      rintro _ rfl
      exact h₃
    exact key _ (Sem.wrap_congr (execs body env) id id (fun f => by cases f <;> rfl) (fun e => rfl))
end
end
section
set_option maxRecDepth 100000
set_option maxHeartbeats 2000000
theorem rowsG20 : True := by
  k_with_none
  trivial
/-- what the generator tells from the signs cs at place i, escape e -/
noncomputable def remT : List Nat → Nat → Bool → List (Int × Str)
  | [], i, e => if e then [((i : Int) - 1, ⟨#[92]⟩)] else []
  | c :: cs, i, e => if e then ((i : Int), (⟨#[92]⟩ : Str) ++ (⟨#[c]⟩ : Str)) :: remT cs (i + 1) false else if c = 92 then remT cs (i + 1) true else ((i : Int), (⟨#[c]⟩ : Str)) :: remT cs (i + 1) false

noncomputable abbrev tupOf (p : Int) (c : Str) (tp tc : Tok) : Obj := { cls := .type "tuple", data := .seq #[.int p tp, .str c tc] }

/-- what stands below Lg, and the generator's own object, is kept -/
noncomputable def Mov (Lg Ga : Addr) (s₀ s : Shared) : Prop :=
  (∀ b o, (b < Lg ∨ b = Ga) → s₀.heap.get? b = some o → s.heap.get? b = some o) ∧ s.gens = s₀.gens ∧ s.drawn = s₀.drawn ∧ s.os = s₀.os
theorem Mov.refl {Lg Ga : Addr} {s : Shared} : Mov Lg Ga s s := ⟨fun _ _ _ e => e, rfl, rfl, rfl⟩
theorem Mov.heap {Lg Ga : Addr} {s₀ s : Shared} (x : Mov Lg Ga s₀ s) {h' : Heap} {tk : Nat} (hk : ∀ b o, (b < Lg ∨ b = Ga) → s.heap.get? b = some o → h'.get? b = some o) : Mov Lg Ga s₀ { s with heap := h', toks := tk } :=
  ⟨fun b o hb e => hk b o hb (x.1 b o hb e), x.2.1, x.2.2.1, x.2.2.2⟩

noncomputable def genY (B : Heap) (Lg Ga : Addr) (T : List (Int × Str)) : Protocol := fun n s₀ v s' kap =>
  ∃ a p c tp tc priv, v = .ref a ∧ s'.heap.get? a = some (tupOf p c tp tc) ∧ T[T.length - 1 - n]? = some (p, c) ∧ Mov Lg Ga s₀ s' ∧ Ga < a ∧
    (∀ q ∈ (priv : List (Addr × Obj)), s'.heap.get? q.1 = some q.2 ∧ Lg ≤ q.1 ∧ q.1 ≠ Ga ∧ q.1 ≠ a) ∧
    ∀ s'' : Shared, (∀ q ∈ priv, s''.heap.get? q.1 = some q.2) → (∀ b o, B.get? b = some o → s''.heap.get? b = some o) → kap (.send .none) s''
noncomputable def genP (Lg Ga : Addr) (n : Nat) (s₀ s₁ : Shared) : Prop := n = 0 ∧ Mov Lg Ga s₀ s₁
noncomputable abbrev genR (Lg Ga : Addr) : GenEnd := fun n s₀ r s₁ => r = .ok (.ret .none) ∧ genP Lg Ga n s₀ s₁

noncomputable def gmap (x : Str) (t : Tok) (e : Bool) (p : Int) (tp : Tok) (uc : Option Value) : Str → Option Value := fun y =>
  if y = Str.ofString "escape" then some (.bool e) else if y = Str.ofString "pos" then some (.int p tp) else if y = Str.ofString "ch" then uc else if y = Str.ofString "addr" then some (.str x t) else none

/-- the generator stands at place i -/
structure GS (B : Heap) (Lg Ga En It : Addr) (x : Str) (t : Tok) (i : Nat) (e : Bool) (p : Int) (tp : Tok) (uc : Option Value) (h : Heap) : Prop where
  fr : Fr B Lg h (gmap x t e p tp uc)
  en : ∃ old, IsEnum h En It i old
  it : h.IsStrIter It "str_ascii_iterator" x t i
  lt : Lg < Ga ∧ Ga < It ∧ It < En
  pp : i = 0 ∨ p = (i : Int) - 1

/-- ahead of a turn -/
structure GI (B : Heap) (Lg Ga En It : Addr) (x : Str) (t : Tok) (T : List (Int × Str)) (i : Nat) (e : Bool) (n : Nat) (s₀ s : Shared) : Prop where
  gs : ∃ p tp uc, GS B Lg Ga En It x t i e p tp uc s.heap
  mov : Mov Lg Ga s₀ s
  len : n = (remT (x.cps.toList.drop i) i e).length
  le : n ≤ T.length
  rem : remT (x.cps.toList.drop i) i e = T.drop (T.length - n)

/-- in a turn: the pair is drawn -/
structure GT (B : Heap) (Lg Ga En It : Addr) (x : Str) (t : Tok) (i : Nat) (e : Bool) (p : Int) (tp : Tok) (uc : Option Value) (c : Nat) (a : Addr) (ti tc : Tok) (h : Heap) : Prop where
  fr : Fr B Lg h (gmap x t e p tp uc)
  en : ∃ old, IsEnum h En It ((i + 1 : Nat) : Int) old
  it : h.IsStrIter It "str_ascii_iterator" x t (i + 1)
  lt : Lg < Ga ∧ Ga < It ∧ It < En ∧ En < a
  tup : h.get? a = some { cls := .type "tuple", data := .seq #[.int i ti, .str ⟨#[c]⟩ tc] }

section
variable {prog : Program} {w : World} {A : Around} {fs : List Frame} {env : Env} {B : Heap} {Lg Ga En It : Addr} {x : Str} {t : Tok} {T : List (Int × Str)}
/-- the loop by its turn -/
theorem gen_loop {elts : List Expr} {k0 : Nat} {tpos : Pos} {body : List Stmt} (hh : ∀ c, (A.over c fs).handled = none)
    (turn : ∀ (i : Nat) (e : Bool) (p : Int) (tp : Tok) (uc : Option Value) (n : Nat) (s₀ s : Shared) (c : Nat) (cs : List Nat) (a : Addr) (ti tc : Tok),
      GT B Lg Ga En It x t i e p tp uc c a ti tc s.heap → Mov Lg Ga s₀ s → x.cps.toList.drop i = c :: cs → x.cps.toList.drop (i + 1) = cs → n = (remT (c :: cs) i e).length → n ≤ T.length → remT (c :: cs) i e = T.drop (T.length - n) →
      (∀ (e' : Bool) (n' : Nat) (s₀' s' : Shared), GI B Lg Ga En It x t T (i + 1) e' n' s₀' s' →
        Seg (model prog w) A (genR Lg Ga) (genY B Lg Ga T) n' s₀' (.forLoop (.Tuple elts k0 tpos) (.ref En) body [] env) (.pure (.again (.forLoop (.Tuple elts k0 tpos) (.ref En) body [] env))) fs s') →
      wpAny (model prog w) (A.over (.forLoop (.Tuple elts k0 tpos) (.ref En) body [] env) fs) (assign (.Tuple elts k0 tpos) env (.ref a)) (fun _ s₃ =>
        Seg (model prog w) A (genR Lg Ga) (genY B Lg Ga T) n s₀ (.forLoop (.Tuple elts k0 tpos) (.ref En) body [] env) ((execs body env).wrap (turnOn (.Tuple elts k0 tpos) (.ref En) body env) (turnErr env) id id) fs s₃) (fun _ _ => False) s)
    (done : ∀ (e : Bool) (p : Int) (tp : Tok) (uc : Option Value) (n : Nat) (s₀ s : Shared), Fr B Lg s.heap (gmap x t e p tp uc) → (x.cps.size = 0 ∨ p = (x.cps.size : Int) - 1) → Lg < Ga → (∃ b o, Ga < b ∧ s.heap.get? b = some o) → Mov Lg Ga s₀ s → n = (remT [] x.cps.size e).length → n ≤ T.length → remT [] x.cps.size e = T.drop (T.length - n) → Seg (model prog w) A (genR Lg Ga) (genY B Lg Ga T) n s₀ (.block [] env) (.pure (.done .next)) fs s) :
    ∀ (k i : Nat) (e : Bool) (n : Nat) (s₀ s : Shared), x.cps.size - i = k → i ≤ x.cps.size → GI B Lg Ga En It x t T i e n s₀ s →
      Seg (model prog w) A (genR Lg Ga) (genY B Lg Ga T) n s₀ (.forLoop (.Tuple elts k0 tpos) (.ref En) body [] env) ((model prog w).den (.forLoop (.Tuple elts k0 tpos) (.ref En) body [] env)) fs s := by
  intro k
  induction k with
  | zero =>
    intro i e n s₀ s hk hi I
    have hin : i = x.cps.size := by omega
    subst hin
    obtain ⟨p, tp, uc, g⟩ := I.gs
    obtain ⟨old, he⟩ := g.en
    refine seg_forLoop ?_
    have D := Draws.strAscii (prog := prog) (w := w) (A := (A.over (.forLoop (.Tuple elts k0 tpos) (.ref En) body [] env) fs).in1) (hh (.forLoop (.Tuple elts k0 tpos) (.ref En) body [] env)) It x t
    refine wpAny_pyNext_enum_endD D he g.it fun h' hx => ?_
    have hdr : x.cps.toList.drop x.cps.size = [] := by simp
    have hlen := I.len
    have hrem := I.rem
    rw [hdr] at hlen hrem
    refine done e p tp uc n s₀ _ ?_ g.pp g.lt.1 ?_ (I.mov.heap fun b o hb e' => hx b o ?_ e') hlen I.le hrem
    · obtain ⟨oL, es, ep, hL, r⟩ := g.fr.ns
      have hn : Lg ≠ It := Nat.ne_of_lt (Nat.lt_trans g.lt.1 g.lt.2.1)
      exact ⟨⟨oL, es, ep, hx _ _ hn hL, r⟩, fun b o e' => hx _ _ (Nat.ne_of_lt (Nat.lt_trans (Nat.lt_of_lt_of_le (Heap.lt_size e') g.fr.above) (Nat.lt_trans g.lt.1 g.lt.2.1))) (g.fr.keep b o e'), g.fr.above⟩
    · exact ⟨_, _, Nat.lt_trans g.lt.2.1 g.lt.2.2, hx _ _ (Nat.ne_of_gt g.lt.2.2) he⟩
    · have h1 : Lg < Ga := g.lt.1
      have h2 : Ga < It := g.lt.2.1
      rcases hb with hb | hb
      · exact Nat.ne_of_lt (Nat.lt_trans hb (Nat.lt_trans h1 h2))
      · exact Nat.ne_of_lt (hb ▸ h2)
  | succ k ih =>
    intro i e n s₀ s hk hi I
    have hlt : i < x.cps.size := by omega
    obtain ⟨p, tp, uc, g⟩ := I.gs
    obtain ⟨old, he⟩ := g.en
    refine seg_forLoop ?_
    have D := Draws.strAscii (prog := prog) (w := w) (A := (A.over (.forLoop (.Tuple elts k0 tpos) (.ref En) body [] env) fs).in1) (hh (.forLoop (.Tuple elts k0 tpos) (.ref En) body [] env)) It x t
    have hEI : En ≠ It := Nat.ne_of_gt g.lt.2.2
    refine wpAny_pyNext_enum_itemD D he g.it hlt hEI (fun hm => hEI (List.mem_singleton.mp hm)) fun v h' tk hP ho hs' hT hsz hkk => ?_
    refine wpAny_letOwnedTupleGo_enum ho fun h'' he'' hs'' => ?_
    obtain ⟨c, u, hc, rfl⟩ := hP
    have hd : x.cps.toList.drop i = c :: x.cps.toList.drop (i + 1) := by
      have hl : i < x.cps.toList.length := by simpa using hlt
      rw [List.drop_eq_getElem_cons hl]
      congr 1
      have := Array.getElem?_eq_some_iff.mp hc
      obtain ⟨_, e'⟩ := this
      simpa using e'
    have hEn : En < s.heap.objs.size := Heap.lt_size he
    refine turn i e p tp uc n s₀ _ c _ s.heap.objs.size tk u ⟨?_, ⟨.str ⟨#[c]⟩ u, ?_⟩, ?_, ?_, ?_⟩ ?_ hd rfl (hd ▸ I.len) I.le (hd ▸ I.rem) fun e' n' s₀' s' I' => seg_again rfl (ih (i + 1) e' n' s₀' s' (by omega) hlt I')
    · obtain ⟨oL, es, ep, hL, r⟩ := g.fr.ns
      have hn : Lg ≠ It := Nat.ne_of_lt (Nat.lt_trans g.lt.1 g.lt.2.1)
      have hn2 : Lg ≠ En := Nat.ne_of_lt (Nat.lt_trans (Nat.lt_trans g.lt.1 g.lt.2.1) g.lt.2.2)
      have hB : ∀ b o, B.get? b = some o → b < Lg := fun b o e' => Nat.lt_of_lt_of_le (Heap.lt_size e') g.fr.above
      exact ⟨⟨oL, es, ep, (hs''.2 _ hn2).trans (hkk _ _ hn2 hn hL), r⟩, fun b o e' => (hs''.2 _ (Nat.ne_of_lt (Nat.lt_trans (hB b o e') (Nat.lt_trans (Nat.lt_trans g.lt.1 g.lt.2.1) g.lt.2.2)))).trans
        (hkk _ _ (Nat.ne_of_lt (Nat.lt_trans (hB b o e') (Nat.lt_trans (Nat.lt_trans g.lt.1 g.lt.2.1) g.lt.2.2))) (Nat.ne_of_lt (Nat.lt_trans (hB b o e') (Nat.lt_trans g.lt.1 g.lt.2.1))) (g.fr.keep b o e')), g.fr.above⟩
    · simpa using he''
    · exact hs'.extBut hs''.extBut (Ne.symm hEI)
    · exact ⟨g.lt.1, g.lt.2.1, g.lt.2.2, hEn⟩
    · exact (hs''.2 _ (Nat.ne_of_gt hEn)).trans hT
    · refine I.mov.heap fun b o hb e' => ?_
      have h1 : b < It := by
        rcases hb with hb | hb
        · exact Nat.lt_trans hb (Nat.lt_trans g.lt.1 g.lt.2.1)
        · exact hb ▸ g.lt.2.1
      have h2 : b ≠ En := Nat.ne_of_lt (Nat.lt_trans h1 g.lt.2.2)
      exact (hs''.2 _ h2).trans (hkk _ _ h2 (Nat.ne_of_lt h1) e')
end
end
section
set_option maxRecDepth 100000
set_option maxHeartbeats 2000000
theorem seg_wpw {prog : Program} {w : World} {A : Around} {R : GenEnd} {Y : Protocol} {n : Nat} {s₀ : Shared} {c : Code} {fs : List Frame} {s : Shared} {H : Value → Sem Fin} {gd : Bool → Bool} {lv : List Value → List Value} {α : Type} {m : Sem α} {K : α → Sem Fin}
    (h : wpAny (model prog w) (AA 360 140) m (fun a s' => Seg (model prog w) A R Y n s₀ c (K a) fs s') (fun _ _ => False) s)
    (hh : (A.over c fs).handled = none) (hd : (A.over c fs).depth ≤ 360) (hu : (A.over c fs).units ≤ 140) :
    Seg (model prog w) A R Y n s₀ c (m.wrap K H gd lv) fs s := seg_of (wpAny_wk h hh hd rfl rfl hu)
theorem enterG {prog : Program} {w : World} {A : Around} {s : Shared} {K : Frag} {p : Program} {loose : List Str} {mean : ExcName → Option Value} {mg mb : Str → Option Value}
    {Q E : Value → Shared → Prop} {name qual : Str} {params : Arguments} {body : List Stmt} {scope : Scope} {dV kV doc pm cdv ct oc : Value} {an od : Option Addr} {osl : Array (Option Value)} {f : Addr} {vs : List Value} {binds : List (Str × Value)}
    (X : K.In s.heap) (T : Top p loose mean mg mb s.heap)
    (ho : K.lookup f = some ⟨oc, od, .func (fnOf name qual params body scope dV kV doc pm an cdv ct), osl⟩) (hcd : codeIn K cdv qual = true) (hroom : A.depth < recursionLimit)
    (hbind : BindsTo s (fnOf name qual params body scope dV kV doc pm an cdv ct) ⟨vs, []⟩ binds) (hloc : ∀ y ∈ binds, scope.names.lookup y.1 = some .local)
    (h : ∀ (h₁ : Heap) (tk : Nat) (o : Obj), (∀ b o, s.heap.get? b = some o → h₁.get? b = some o) → h₁.Ns s.heap.objs.size (fun y => binds.reverse.lookup y) → h₁.get? s.heap.objs.size = some o → s.heap.objs.size < h₁.objs.size →
      Q (.ref h₁.objs.size) { s with heap := h₁.push { cls := .type "generator", data := .fields #[.int s.gens.size 0, .str name tk, .str qual (tk + 1)] }, gens := s.gens.push (.fresh (.func body (envOf qual scope s.heap.objs.size f cdv))), toks := tk + 1 + 1 })
    (hco : scope.isCoroutine = false) (hgen : scope.isGenerator = true) (hk : scope.kind = .function)
    (hcell : ∀ x ∈ scope.names, x.2 ≠ .cell) : wpAny (model prog w) A (call (.ref f) vs) Q E s := by
  refine wpAny_call ?_
  refine codeAny_call_generator (fd := fnOf name qual params body scope dV kV doc pm an cdv ct) (body := body) hroom (X _ _ ho) rfl hco hgen rfl (codeRec_of X hcd) (hbind _ _ _ _ ?_)
  refine wpAny_newFunctionEnv hcell hloc (fun h₀ hns₀ hsb₀ => ⟨T.nolimit.fresh _ hsb₀, ?_⟩) hk
  obtain ⟨o, es, ep, hL, r⟩ := id hns₀
  exact h h₀ _ o (fun b o e => hsb₀.extBut b o (Nat.ne_of_lt (Heap.lt_size e)) (Heap.get?_push_of_some _ e)) hns₀ hL (Heap.lt_size hL)
theorem gmap_start (x : Str) (t tp : Tok) (y : Str) : (if y = Str.ofString "escape" then some (Value.bool false) else if y = Str.ofString "pos" then some (Value.int 0 tp) else List.lookup y [(Str.ofString "addr", Value.str x t)]) = gmap x t false 0 tp none y := by
  unfold gmap
  have h1 : (Str.ofString "ch" == Str.ofString "addr") = false := by decide
  by_cases a : y = Str.ofString "escape"
  · rw [if_pos a, if_pos a]
  · rw [if_neg a, if_neg a]
    by_cases b : y = Str.ofString "pos"
    · rw [if_pos b, if_pos b]
    · rw [if_neg b, if_neg b]
      by_cases c : y = Str.ofString "ch"
      · rw [if_pos c, c, List.lookup_cons, h1]; rfl
      · rw [if_neg c]
        by_cases d : y = Str.ofString "addr"
        · rw [if_pos d, d, List.lookup_cons, beq_self_eq_true]
        · rw [if_neg d, List.lookup_cons, beq_eq_false_iff_ne.mpr d]; rfl
theorem fr_eq {B h : Heap} {L : Addr} {m m' : Str → Option Value} (F : Fr B L h m) (e : ∀ y, m y = m' y) : Fr B L h m' := by
  have : m = m' := funext e
  rw [← this]; exact F
theorem exists_own (B : Heap) (Lg Ga : Addr) (hne : Lg < Ga) (h : Heap) : ∃ own : List (Addr × Obj), News B Lg h own ∧ ∀ b o, (b < Lg ∨ b = Ga) → h.get? b = some o → B.get? b = none → (b, o) ∈ own := by
  refine ⟨(List.range h.objs.size).filterMap fun b => if (b < Lg ∨ b = Ga) ∧ B.get? b = none then (h.get? b).map (Prod.mk b) else none, ?_, ?_⟩
  · intro p hp
    obtain ⟨b, _, hb⟩ := List.mem_filterMap.mp hp
    split at hb
    · rename_i hc
      obtain ⟨o, ho, rfl⟩ := Option.map_eq_some_iff.mp hb
      refine ⟨ho, ?_, hc.2⟩
      rcases hc.1 with h1 | h1
      · exact Nat.ne_of_lt h1
      · rw [h1]; exact Nat.ne_of_gt hne
    · cases hb
  · intro b o hb ho hn
    refine List.mem_filterMap.mpr ⟨b, List.mem_range.mpr (Heap.lt_size ho), ?_⟩
    rw [if_pos ⟨hb, hn⟩, ho]
    rfl
noncomputable def HoldG (p : Prop) : Prop := p
theorem holdG {p : Prop} (h : HoldG p) : p := h
theorem rowsG30 : True := by
  k_with_none
  k_with "call type:enumerate" => (refine holdG ?_)
  trivial
theorem exists_all (B : Heap) (Lg : Addr) (h : Heap) : ∃ own : List (Addr × Obj), News B Lg h own ∧ ∀ b o, b ≠ Lg → h.get? b = some o → B.get? b = none → (b, o) ∈ own := by
  refine ⟨(List.range h.objs.size).filterMap fun b => if b ≠ Lg ∧ B.get? b = none then (h.get? b).map (Prod.mk b) else none, ?_, ?_⟩
  · intro p hp
    obtain ⟨b, _, hb⟩ := List.mem_filterMap.mp hp
    split at hb
    · rename_i hc
      obtain ⟨o, ho, rfl⟩ := Option.map_eq_some_iff.mp hb
      exact ⟨ho, hc.1, hc.2⟩
    · cases hb
  · intro b o hb ho hn
    refine List.mem_filterMap.mpr ⟨b, List.mem_range.mpr (Heap.lt_size ho), ?_⟩
    rw [if_pos ⟨hb, hn⟩, ho]
    rfl
theorem own_keeps {B h h' : Heap} {Lg : Addr} {own : List (Addr × Obj)} {m : Str → Option Value} (hB : ∀ b o, B.get? b = some o → h.get? b = some o) (F : Fr B Lg h' m) (N : News B Lg h' own) (hown : ∀ b o, b ≠ Lg → h.get? b = some o → B.get? b = none → (b, o) ∈ own) :
    ∀ b o, b ≠ Lg → h.get? b = some o → h'.get? b = some o := by
  intro b o hb ho
  cases hn : B.get? b with
  | none => exact N.get (hown b o hb ho hn)
  | some o' =>
    have := hB b o' hn
    rw [ho] at this
    cases this
    exact F.keep b o hn
theorem ns_move {h h' : Heap} {L : Addr} {m : Str → Option Value} {o : Obj} (x : h.Ns L m) (e : h.get? L = some o) (e' : h'.get? L = some o) : h'.Ns L m := by
  obtain ⟨o', es, ep, hL', r⟩ := x
  rw [e] at hL'
  cases hL'
  exact ⟨o, es, ep, e', r⟩
theorem gen_ns_at {h h' : Heap} {L : Addr} {m : Str → Option Value} {o : Obj} (x : h.Ns L m) (e : h.get? L = some o) (e' : h'.get? L = some o) : h'.Ns L m := ns_move x e e'
theorem GS.carry {B h h' : Heap} {Lg Ga En It : Addr} {x : Str} {t : Tok} {i : Nat} {e : Bool} {p : Int} {tp : Tok} {uc : Option Value} (g : GS B Lg Ga En It x t i e p tp uc h) (hL : ∀ o, h.get? Lg = some o → h'.get? Lg = some o)
    (hE : ∀ o, h.get? En = some o → h'.get? En = some o) (hI : ∀ o, h.get? It = some o → h'.get? It = some o) (hB : ∀ b o, B.get? b = some o → h'.get? b = some o) : GS B Lg Ga En It x t i e p tp uc h' := by
  obtain ⟨oL, es, ep, h1, r⟩ := g.fr.ns
  obtain ⟨old, he⟩ := g.en
  obtain ⟨oI, h2, r2⟩ := g.it
  exact ⟨⟨⟨oL, es, ep, hL _ h1, r⟩, hB, g.fr.above⟩, ⟨old, hE _ he⟩, ⟨oI, hI _ h2, r2⟩, g.lt, g.pp⟩
theorem genY_mk {B : Heap} {Lg Ga En It : Addr} {x : Str} {t : Tok} {i : Nat} {e : Bool} {p : Int} {tp : Tok} {uc : Option Value} {T : List (Int × Str)} {n : Nat} {s₀ s' : Shared} {kap : Resume → Shared → Prop} {a : Addr} {pp : Int} {cc : Str} {t1 t2 : Tok}
    (g : GS B Lg Ga En It x t i e p tp uc s'.heap) (hT : T[T.length - 1 - n]? = some (pp, cc)) (ha : s'.heap.get? a = some (tupOf pp cc t1 t2)) (hEa : En < a) (hm : Mov Lg Ga s₀ s')
    (hk : ∀ s'' : Shared, GS B Lg Ga En It x t i e p tp uc s''.heap → kap (.send .none) s'') : genY B Lg Ga T n s₀ (.ref a) s' kap := by
  obtain ⟨oL, es, ep, h1, r⟩ := id g.fr.ns
  obtain ⟨old, he⟩ := id g.en
  obtain ⟨oI, h2, r2⟩ := id g.it
  have hlt := g.lt
  obtain ⟨oE, hoE⟩ : ∃ oE, s'.heap.get? En = some oE := ⟨_, he⟩
  refine ⟨a, pp, cc, t1, t2, [(Lg, oL), (En, oE), (It, oI)], rfl, ha, hT, hm, Nat.lt_trans hlt.2.1 (Nat.lt_trans hlt.2.2 hEa), ?_, ?_⟩
  · intro q hq
    rcases List.mem_cons.mp hq with rfl | hq
    · exact ⟨h1, Nat.le_refl _, Nat.ne_of_lt hlt.1, Nat.ne_of_lt (Nat.lt_trans hlt.1 (Nat.lt_trans hlt.2.1 (Nat.lt_trans hlt.2.2 hEa)))⟩
    · rcases List.mem_cons.mp hq with rfl | hq
      · exact ⟨hoE, Nat.le_of_lt (Nat.lt_trans hlt.1 (Nat.lt_trans hlt.2.1 hlt.2.2)), Nat.ne_of_gt (Nat.lt_trans hlt.2.1 hlt.2.2), Nat.ne_of_lt hEa⟩
      · rcases List.mem_cons.mp hq with rfl | hq
        · exact ⟨h2, Nat.le_of_lt (Nat.lt_trans hlt.1 hlt.2.1), Nat.ne_of_gt hlt.2.1, Nat.ne_of_lt (Nat.lt_trans hlt.2.2 hEa)⟩
        · cases hq
  · intro s'' hp hB
    refine hk s'' (g.carry (fun o ho => ?_) (fun o ho => ?_) (fun o ho => ?_) hB)
    · rw [h1] at ho; cases ho; exact hp _ (List.Mem.head _)
    · rw [hoE] at ho; cases ho; exact hp _ (.tail _ (List.Mem.head _))
    · rw [h2] at ho; cases ho; exact hp _ (.tail _ (.tail _ (List.Mem.head _)))
theorem call_enum_abs {prog : Program} {w : World} {A : Around} {E : Value → Shared → Prop} {s : Shared} {x : Str} {t : Tok} {Q : Value → Shared → Prop}
    (h : ∀ h' En It, En = It + 1 → It = s.heap.objs.size → IsEnum h' En It 0 .none → h'.IsStrIter It (strIterType x) x t 0 →
      (∀ b o, s.heap.get? b = some o → h'.get? b = some o) → Q (.ref En) { s with heap := h' }) :
    wpAny (model prog w) A (call (.type "enumerate") [.str x t]) Q E s := call_enumerate_str fun h' a b _ d => h h' _ _ rfl rfl a b d
theorem gmap_turn (x : Str) (t : Tok) (e : Bool) (p q : Int) (tp tq : Tok) (uc : Option Value) (v : Value) (y : Str) : (if y = Str.ofString "ch" then some v else if y = Str.ofString "pos" then some (Value.int q tq) else gmap x t e p tp uc y) = gmap x t e q tq (some v) y := by
  unfold gmap
  have h1 : Str.ofString "ch" ≠ Str.ofString "escape" := by decide
  have h2 : Str.ofString "ch" ≠ Str.ofString "pos" := by decide
  have h3 : Str.ofString "pos" ≠ Str.ofString "escape" := by decide
  by_cases c : y = Str.ofString "ch"
  · rw [if_pos c, c, if_neg h1, if_neg h2, if_pos rfl]
  · rw [if_neg c]
    by_cases b : y = Str.ofString "pos"
    · rw [if_pos b, b, if_neg h3, if_pos rfl]
    · rw [if_neg b, if_neg b, if_neg c, if_neg b, if_neg c]
theorem gmap_esc (x : Str) (t : Tok) (e e' : Bool) (p : Int) (tp : Tok) (uc : Option Value) (y : Str) : (if y = Str.ofString "escape" then some (Value.bool e') else gmap x t e p tp uc y) = gmap x t e' p tp uc y := by
  unfold gmap
  by_cases c : y = Str.ofString "escape"
  · rw [if_pos c, if_pos c]
  · rw [if_neg c, if_neg c, if_neg c]
theorem drop_head {α : Type} {T l : List α} {y : α} {m : Nat} (h : y :: l = T.drop (T.length - (m + 1))) (hle : m + 1 ≤ T.length) : T[T.length - 1 - m]? = some y ∧ l = T.drop (T.length - m) := by
  have e1 : T.length - 1 - m = T.length - (m + 1) := by omega
  have e2 : T.length - m = T.length - (m + 1) + 1 := by omega
  constructor
  · rw [e1]
    have := congrArg (fun z => z[0]?) h
    simpa using this.symm
  · rw [e2, ← List.tail_drop, ← h]; rfl
theorem GS.reframe {B h h' : Heap} {Lg Ga En It : Addr} {x : Str} {t : Tok} {i : Nat} {e e' : Bool} {p : Int} {tp : Tok} {uc : Option Value} (g : GS B Lg Ga En It x t i e p tp uc h) (F : Fr B Lg h' (gmap x t e' p tp uc))
    (hk : ∀ b o, b ≠ Lg → h.get? b = some o → h'.get? b = some o) : GS B Lg Ga En It x t i e' p tp uc h' := by
  obtain ⟨old, he⟩ := g.en
  obtain ⟨oI, h2, r2⟩ := g.it
  exact ⟨F, ⟨old, hk _ _ (Nat.ne_of_gt (Nat.lt_trans g.lt.1 (Nat.lt_trans g.lt.2.1 g.lt.2.2))) he⟩, ⟨oI, hk _ _ (Nat.ne_of_gt (Nat.lt_trans g.lt.1 g.lt.2.1)) h2, r2⟩, g.lt, g.pp⟩
theorem mov_but {Lg Ga : Addr} (hlt : Lg < Ga) {s₀ s : Shared} (hm : Mov Lg Ga s₀ s) {h' : Heap} {tk : Nat} (hk : ∀ b o, b ≠ Lg → s.heap.get? b = some o → h'.get? b = some o) : Mov Lg Ga s₀ { s with heap := h', toks := tk } :=
  hm.heap fun b o hb ho => hk b o (by rcases hb with hb | hb; exact Nat.ne_of_lt hb; exact hb ▸ Nat.ne_of_gt hlt) ho
theorem bs_true {c : Nat} (h : ((⟨#[c]⟩ : Str) == Str.ofString "\\") = true) : c = 92 := by
  have e : Str.ofString "\\" = ⟨#[92]⟩ := by decide
  rw [e] at h
  have h := beq_iff_eq.mp h
  injection h with h
  injection h with h
  injection h
theorem bs_false {c : Nat} (h : ((⟨#[c]⟩ : Str) == Str.ofString "\\") = false) : c ≠ 92 := by
  rintro rfl
  exact absurd h (by decide)
theorem genY_last {B : Heap} {Lg Ga : Addr} {T : List (Int × Str)} {n : Nat} {s₀ s' : Shared} {kap : Resume → Shared → Prop} {a : Addr} {pp : Int} {cc : Str} {t1 t2 : Tok}
    (hT : T[T.length - 1 - n]? = some (pp, cc)) (ha : s'.heap.get? a = some (tupOf pp cc t1 t2)) (hEa : Ga < a) (hm : Mov Lg Ga s₀ s')
    (hk : ∀ s'' : Shared, kap (.send .none) s'') : genY B Lg Ga T n s₀ (.ref a) s' kap :=
  ⟨a, pp, cc, t1, t2, [], rfl, ha, hT, hm, hEa, (fun _ h => nomatch h), fun s'' _ _ => hk s''⟩
/-- what stands keeps; a generator is made -/
theorem gen_ctr (w : World) (x : Str) (t : Tok) (hasc : strIterType x = "str_ascii_iterator") (hlen : x.length ≤ 1000) (B : Heap) (mean : ExcName → Option Value) (mg mb : Str → Option Value) (s : Shared) (Q E : Value → Shared → Prop)
    (hB : ∀ b o, B.get? b = some o → s.heap.get? b = some o) (hBs : B.objs.size ≤ s.heap.objs.size)
    (hK : (hd.heap_39 w.params).In B) (hT : Top hd.view_39 (looseW hd.view_39 []) mean mg mb B)
    (hret : ∀ (Lg Ga : Addr) (h' : Heap) (tk' : Nat) (gs : GenState) (oL : Obj), (∀ b o, s.heap.get? b = some o → h'.get? b = some o) → h'.IsGen Ga s.gens.size → s.heap.objs.size ≤ Lg → Lg < Ga → h'.get? Lg = some oL →
      (∀ s'' : Shared, s''.heap.get? Lg = some oL → (∃ oG, s''.heap.get? Ga = some oG) → (∀ b o, B.get? b = some o → s''.heap.get? b = some o) →
        GenState.Goes (model Challenge.rw_re0084_01.prog w) (AA 345 90) (genR Lg Ga) (genY B Lg Ga (remT x.cps.toList 0 false)) (remT x.cps.toList 0 false).length gs (.send .none) s'') → gs.bare = true →
      Q (.ref Ga) { s with heap := h', gens := s.gens.push gs, toks := tk' }) :
    wpAny (model Challenge.rw_re0084_01.prog w) (AA 330 60) (call (.ref 21) [.str x t]) Q E s := by
  revert hK
  k_fill
  intro hK
  have hK' : (hd.heap_39 w.params).In s.heap := hK.keeps hB
  have hT' := hT.keeps hB
  k_dflt (refine' enterG ?k3 ?k5 ?k6 ?k7 ?k8 ?k9 ?kB ?_ ?c2 ?c3 ?c4 ?c5; (case k3 => k_asm); (case k5 => k_asm); (case k6 => k_is); (case k7 => k_is); (case k8 => decide); (case k9 => exact BindsTo.of_eq rfl); (case c5 => decide); (case kB => exact locs rfl); (case c2 => exact rfl); (case c3 => exact rfl); (case c4 => exact rfl))
  intro h₁ tk o hk1 hns1 hL1 hsz1
  refine hret s.heap.objs.size h₁.objs.size _ _ _ o (fun b o e => Heap.get?_push_of_some _ (hk1 b o e)) ⟨_, _, _, Heap.get?_push_size _ rfl, rfl, rfl, rfl⟩ (Nat.le_refl _) hsz1 (Heap.get?_push_of_some _ hL1) ?_ rfl
  intro s'' hL2 hGa hB2
  refine ⟨rfl, seg_func ?_⟩
  have F0 := Fr.mk (ns_move hns1 hL1 hL2) hB2 hBs
  obtain ⟨own, N0, hown⟩ := exists_own B s.heap.objs.size h₁.objs.size hsz1 s''.heap
  clear hret hL2 hk1 hns1 hL1 hK' hT'
  generalize s.heap.objs.size = Lg at *
  generalize h₁.objs.size = Ga at *
  clear hB h₁
  refine seg_execs_cons (seg_wpw ?_ rfl (Nat.le_of_ble_eq_true rfl) (Nat.le_of_ble_eq_true rfl))
  k_steps
  refine seg_execs_cons (seg_wpw ?_ rfl (Nat.le_of_ble_eq_true rfl) (Nat.le_of_ble_eq_true rfl))
  k_steps
  refine seg_execs_cons (seg_For (wpAny_wk (A' := AA 360 140) ?_ rfl (Nat.le_of_ble_eq_true rfl) rfl rfl (Nat.le_of_ble_eq_true rfl)) (fun _ => rfl))
  k_steps
  unfold HoldG
  rename Fr _ _ _ _ => F1
  rename News _ _ _ _ => N1
  refine call_enum_abs fun h2 En It hEI hIt hE hI hk2 => ?_
  rw [hasc] at hI
  dsimp only at hE hI hIt hk2
  have hD := fun It => Draws.strAscii (prog := Challenge.rw_re0084_01.prog) (w := w) (A := (AA 360 140).in1) rfl It x t
  refine wpAny_wk (A' := AA 360 140) ?_ rfl (Nat.le_of_ble_eq_true rfl) rfl rfl (Nat.le_of_ble_eq_true rfl)
  have hne : En ≠ It := by rw [hEI]; exact Nat.ne_of_gt (Nat.lt_succ_self _)
  refine (WalksT.enumerateD (hD _) _ hne (fun hm => absurd (List.mem_singleton.mp hm) hne) (List.mem_singleton.mpr rfl)).self 0 _ _ _ ⟨⟨_, hE⟩, hI⟩ ?_
  intro p
  have hG : ∃ tp, Fr B Lg h2 (gmap x t false 0 tp none) := by
    refine ⟨s''.toks, fr_eq (F1.grownK hk2) fun y => ?_⟩
    exact gmap_start x t s''.toks y
  obtain ⟨tp, hG⟩ := hG
  have N2 := N1.grown hk2
  have hmv : ∀ b o, (b < Lg ∨ b = Ga) → s''.heap.get? b = some o → h2.get? b = some o := by
    intro b o hb ho
    cases hn : B.get? b with
    | none => exact N2.get (hown b o hb ho hn)
    | some o' =>
      have := hB2 b o' hn
      rw [ho] at this
      cases this
      exact hG.keep b o hn
  refine gen_loop (fun c => rfl) ?turn ?done _ 0 false _ s'' _ rfl (Nat.zero_le _) ⟨⟨0, tp, none, hG, ⟨_, hE⟩, hI, ?_, .inl rfl⟩, ?_, by simp, Nat.le_refl _, by simp⟩
  case refine_1 =>
    obtain ⟨oG, hoG⟩ := hGa
    refine ⟨hsz1, ?_, hEI ▸ Nat.lt_succ_self _⟩
    rw [hIt]
    cases hn : B.get? Ga with
    | none => exact Heap.lt_size (N1.get (hown Ga oG (.inr rfl) hoG hn))
    | some o' => exact absurd (Nat.lt_of_lt_of_le (Heap.lt_size hn) hBs) (Nat.not_lt_of_gt hsz1)
  case refine_2 => exact ⟨hmv, rfl, rfl, rfl⟩
  case done =>
    clear hG hE hI hk2 hD F1 N1 N2 hmv hown hB2 hGa hne hIt hEI
    intro e p tp uc n s₀ s F hpp hlt hsz hmov hn hle hrem
    refine seg_leaf (.ok .next) ?_
    show Seg _ _ _ _ _ _ _ (Sem.wrap _ _ _ _ (execs (_ :: _) _)) _ _
    have hBk := F.keep
    obtain ⟨own1, N1, hown1⟩ := exists_all B Lg s.heap
    have hD' : ∀ D, (∀ p ∈ own1, p.1 < D) → Ga < D := by
      obtain ⟨b, ob, hb, hob⟩ := hsz
      refine fun D h => Nat.lt_trans hb (h _ (hown1 b _ (Nat.ne_of_gt (Nat.lt_trans hlt hb)) hob ?_))
      cases hq : B.get? b with
      | none => rfl
      | some o' => exact absurd (Nat.lt_of_lt_of_le (Heap.lt_size hq) hBs) (Nat.not_lt_of_gt (Nat.lt_trans hlt hb))
    cases e with
    | false =>
      unfold gmap at F
      refine seg_execs_cons (seg_If (wpAny_wk (A' := AA 360 140) ?_ rfl (Nat.le_of_ble_eq_true rfl) rfl rfl (Nat.le_of_ble_eq_true rfl)))
      k_steps
      exact seg_end (.ok (.ret .none)) ⟨rfl, hn, hmov⟩
    | true =>
      unfold gmap at F
      refine seg_execs_cons (seg_If (wpAny_wk (A' := AA 360 140) ?_ rfl (Nat.le_of_ble_eq_true rfl) rfl rfl (Nat.le_of_ble_eq_true rfl)))
      k_steps
      have hn1 : n = 0 + 1 := hn
      subst hn1
      refine seg_execs_cons (seg_Expr_Yield rfl rfl rfl (wpAny_wk (A' := AA 360 140) (wpAny_mono (E := fun _ _ => False) ?_ (fun _ _ x => x) (fun _ _ x => x.elim)) rfl (Nat.le_of_ble_eq_true rfl) rfl rfl (Nat.le_of_ble_eq_true rfl)))
      dsimp only
      k_steps
      rename Fr _ _ _ _ => F3
      rename News _ _ _ _ => N3
      rename (∀ p ∈ own1, _) => hD
      rename_i D h3 kap hkap
      dsimp only at hkap ⊢
      have hk3 := own_keeps hBk F3 (fun q hq => N3 q (.tail _ hq)) hown1
      have hdh := drop_head hrem hle
      have hp : p = (x.cps.size : Int) - 1 := by
        rcases hpp with h0 | h0
        · exfalso
          have : x.cps.toList = [] := by simpa using h0
          rw [this] at hle
          exact absurd hle (by decide)
        · exact h0
      rw [← hp] at hdh
      refine genY_last hdh.1 (N3.get (.head _)) ?_ (mov_but hsz1 hmov hk3) fun s4 => hkap _ _ ?_
      · exact hD' D hD
      · exact seg_end (.ok (.ret .none)) ⟨rfl, rfl, Mov.refl⟩
  case turn =>
    clear hG hE hI hk2 hD F1 N1 N2 hmv hown hB2 hGa hne hIt hEI
    intro i e p tp uc n s₀ s c cs a ti tc G hmov hd0 hd1 hn hle hrem again
    obtain ⟨own, N0, hown⟩ := exists_all B Lg s.heap
    have F0 := G.fr
    have hta : B.get? a = none := by
      cases hq : B.get? a with
      | none => rfl
      | some o' => exact absurd (Nat.lt_of_lt_of_le (Heap.lt_size hq) G.fr.above) (Nat.not_lt_of_gt (Nat.lt_trans G.lt.1 (Nat.lt_trans G.lt.2.1 (Nat.lt_trans G.lt.2.2.1 G.lt.2.2.2))))
    have hLa : a ≠ Lg := Nat.ne_of_gt (Nat.lt_trans G.lt.1 (Nat.lt_trans G.lt.2.1 (Nat.lt_trans G.lt.2.2.1 G.lt.2.2.2)))
    have N1 : News B Lg s.heap ((a, { cls := .type "tuple", data := .seq #[.int i ti, .str ⟨#[c]⟩ tc] }) :: own) := by
      intro q hq
      rcases List.mem_cons.mp hq with rfl | hq
      · exact ⟨G.tup, hLa, hta⟩
      · exact N0 q hq
    clear N0
    refine wpAny_wk (A' := AA 360 140) ?_ rfl (Nat.le_of_ble_eq_true rfl) rfl rfl (Nat.le_of_ble_eq_true rfl)
    k_steps
    dsimp only
    rename Fr _ _ _ _ => F1
    rename News _ _ _ _ => N2
    have hkeep := own_keeps G.fr.keep F1 (fun q hq => N2 q (.tail _ hq)) hown
    clear N2 hown own
    rename_i h1
    have hgs : ∀ (e' : Bool) (h3 : Heap), Fr B Lg h3 (gmap x t e' i ti (some (.str ⟨#[c]⟩ tc))) → (∀ b o, b ≠ Lg → h1.get? b = some o → h3.get? b = some o) → GS B Lg Ga En It x t (i + 1) e' i ti (some (.str ⟨#[c]⟩ tc)) h3 := by
      intro e' h3 F3 hk3
      have hl := G.lt
      obtain ⟨old, he⟩ := G.en
      obtain ⟨oI, hI, r⟩ := G.it
      exact ⟨F3, ⟨old, hk3 _ _ (Nat.ne_of_gt (Nat.lt_trans hl.1 (Nat.lt_trans hl.2.1 hl.2.2.1))) (hkeep _ _ (Nat.ne_of_gt (Nat.lt_trans hl.1 (Nat.lt_trans hl.2.1 hl.2.2.1))) he)⟩,
        ⟨oI, hk3 _ _ (Nat.ne_of_gt (Nat.lt_trans hl.1 hl.2.1)) (hkeep _ _ (Nat.ne_of_gt (Nat.lt_trans hl.1 hl.2.1)) hI), r⟩, ⟨hl.1, hl.2.1, hl.2.2.1⟩, .inr (by omega)⟩
    have hmov1 : ∀ (h3 : Heap) (tk : Nat), (∀ b o, b ≠ Lg → h1.get? b = some o → h3.get? b = some o) → Mov Lg Ga s₀ { s with heap := h3, toks := tk } := fun h3 tk hk3 =>
      hmov.heap (fun b o hb ho => have hb' : b ≠ Lg := by { rcases hb with hb | hb; exact Nat.ne_of_lt hb; exact hb ▸ Nat.ne_of_gt G.lt.1 }; hk3 b o hb' (hkeep b o hb' ho))
    have hEn1 : En < h1.objs.size := by
      obtain ⟨old, he⟩ := G.en
      exact Heap.lt_size (hkeep _ _ (Nat.ne_of_gt (Nat.lt_trans G.lt.1 (Nat.lt_trans G.lt.2.1 G.lt.2.2.1))) he)
    have hBk := F1.keep
    obtain ⟨own, N1, hown⟩ := exists_all B Lg h1
    have hD' : ∀ D, (∀ p ∈ own, p.1 < D) → En < D := by
      obtain ⟨old, he⟩ := G.en
      have hLE := Nat.lt_trans G.lt.1 (Nat.lt_trans G.lt.2.1 G.lt.2.2.1)
      refine fun D h => h _ (hown En _ (Nat.ne_of_gt hLE) (hkeep _ _ (Nat.ne_of_gt hLE) he) ?_)
      cases hq : B.get? En with
      | none => rfl
      | some o' => exact absurd (Nat.lt_of_lt_of_le (Heap.lt_size hq) hBs) (Nat.not_lt_of_gt hLE)
    clear hmov hkeep
    cases e with
    | true =>
      unfold gmap at F1
      refine seg_execs_cons (seg_If (wpAny_wk (A' := AA 360 140) ?_ rfl (Nat.le_of_ble_eq_true rfl) rfl rfl (Nat.le_of_ble_eq_true rfl)))
      k_steps
      obtain ⟨m, rfl, hm⟩ : ∃ m, n = m + 1 ∧ m = (remT cs (i + 1) false).length := ⟨_, hn, rfl⟩
      refine seg_execs_cons (seg_Expr_Yield rfl rfl rfl (wpAny_wk (A' := AA 360 140) (wpAny_mono (E := fun _ _ => False) ?_ (fun _ _ x => x) (fun _ _ x => x.elim)) rfl (Nat.le_of_ble_eq_true rfl) rfl rfl (Nat.le_of_ble_eq_true rfl)))
      k_steps
      rename Fr _ _ _ _ => F3
      rename News _ _ _ _ => N3
      rename (∀ p ∈ own, _) => hD
      rename_i D h3 kap hkap
      dsimp only at hkap ⊢
      have hk3 := own_keeps hBk F3 (fun q hq => N3 q (.tail _ hq)) hown
      have hdh := drop_head hrem hle
      refine genY_mk (hgs true h3 (fr_eq F3 fun y => gmap_turn x t true p i tp ti uc _ y) hk3) hdh.1 (N3.get (.head _)) (hD' D hD) (hmov1 h3 _ hk3) fun s4 g4 => hkap _ _ ?_
      clear hkap hk3 F3 N3 hD hmov1 hgs hown hD'
      show Seg _ _ _ _ _ _ _ (Sem.wrap _ _ _ _ (execs (_ :: _) _)) _ _
      have F4 := g4.fr
      have hBk4 := g4.fr.keep
      obtain ⟨own4, N4, hown4⟩ := exists_all B Lg s4.heap
      refine seg_execs_cons (seg_wpw ?_ rfl (Nat.le_of_ble_eq_true rfl) (Nat.le_of_ble_eq_true rfl))
      k_steps
      rename Fr _ _ _ _ => F5
      rename News _ _ _ _ => N5
      have hk5 := own_keeps hBk4 F5 N5 hown4
      exact again false m s4 _ ⟨⟨_, _, _, g4.reframe (fr_eq F5 fun y => gmap_esc x t true false i ti _ y) hk5⟩, mov_but hsz1 Mov.refl hk5, hd1 ▸ hm, Nat.le_of_succ_le hle, hd1 ▸ hdh.2⟩
    | false =>
      unfold gmap at F1
      refine seg_execs_cons (seg_If (wpAny_wk (A' := AA 360 140) ?_ rfl (Nat.le_of_ble_eq_true rfl) rfl rfl (Nat.le_of_ble_eq_true rfl)))
      k_steps
      refine seg_execs_cons (seg_If (wpAny_wk (A' := AA 360 140) ?_ rfl (Nat.le_of_ble_eq_true rfl) rfl rfl (Nat.le_of_ble_eq_true rfl)))
      k_steps
      · rename _ = true => hbs
        have hc := bs_true hbs
        subst hc
        refine seg_execs_cons (seg_wpw ?_ rfl (Nat.le_of_ble_eq_true rfl) (Nat.le_of_ble_eq_true rfl))
        dsimp only
        k_steps
        rename Fr _ _ _ _ => F5
        rename News _ _ _ _ => N5
        have hk5 := own_keeps hBk F5 N5 hown
        exact again true n s₀ _ ⟨⟨_, _, _, hgs true _ (fr_eq F5 fun y => (congrArg (fun z => if y = Str.ofString "escape" then some (Value.bool true) else z) (gmap_turn x t false p i tp ti uc _ y)).trans (gmap_esc x t false true i ti _ y)) hk5⟩, hmov1 _ _ hk5, hd1 ▸ hn, hle, hd1 ▸ hrem⟩
      · rename _ = false => hbs
        have hc := bs_false hbs
        have er : remT (c :: cs) i false = ((i : Int), (⟨#[c]⟩ : Str)) :: remT cs (i + 1) false := by
          show (if false = true then _ else if c = 92 then _ else _) = _
          rw [if_neg Bool.false_ne_true, if_neg hc]
        rw [er] at hn hrem
        obtain ⟨m, rfl, hm⟩ : ∃ m, n = m + 1 ∧ m = (remT cs (i + 1) false).length := ⟨_, hn, rfl⟩
        refine seg_execs_cons (seg_Expr_Yield rfl rfl rfl (wpAny_wk (A' := AA 360 140) (wpAny_mono (E := fun _ _ => False) ?_ (fun _ _ x => x) (fun _ _ x => x.elim)) rfl (Nat.le_of_ble_eq_true rfl) rfl rfl (Nat.le_of_ble_eq_true rfl)))
        dsimp only
        k_steps
        rename Fr _ _ _ _ => F3
        rename News _ _ _ _ => N3
        rename (∀ p ∈ own, _) => hD
        rename_i D h3 kap hkap
        dsimp only at hkap ⊢
        have hk3 := own_keeps hBk F3 (fun q hq => N3 q (.tail _ hq)) hown
        have hdh := drop_head hrem hle
        refine genY_mk (hgs false h3 (fr_eq F3 fun y => gmap_turn x t false p i tp ti uc _ y) hk3) hdh.1 (N3.get (.head _)) (hD' D hD) (hmov1 h3 _ hk3) fun s4 g4 => hkap _ _ ?_
        exact again false m s4 _ ⟨⟨_, _, _, g4⟩, Mov.refl, hd1 ▸ hm, Nat.le_of_succ_le hle, hd1 ▸ hdh.2⟩
end
section
set_option maxRecDepth 100000
set_option maxHeartbeats 2000000
theorem rowsG40 : True := by
  k_with_none
  trivial
section
variable {prog : Program} {w : World} {A : Around} {E : Value → Shared → Prop} {s : Shared}
/-- next of a generator function's object; it is left bare -/
theorem next_genQ {a : Addr} {g n : Nat} {gs : GenState} {Y : Protocol} {Lg Ga : Addr} {Q : Option Value → Shared → Prop} (hh : A.handled = none)
    (hl : s.heap.NoLimit) (hroom : A.depth < recursionLimit) (hg : s.heap.IsGen a g) (hgs : s.gens[g]? = some gs)
    (hgo : gs.Goes (model prog w) A.in1 (genR Lg Ga) Y n (.send .none) (s.setGen g .running))
    (hY : ∀ v s₁ gs', gs'.bare = true → Y (n - 1) (s.setGen g .running) v s₁ (fun r' s'' => match n with
        | 0 => False
        | m + 1 => gs'.Goes (model prog w) A.in1 (genR Lg Ga) Y m r' s'') → Q (some v) (s₁.setGen g gs'))
    (hP : ∀ s₁, genP Lg Ga n (s.setGen g .running) s₁ → ∀ h', (∀ b o, s₁.heap.get? b = some o → h'.get? b = some o) → Q none { s₁.setGen g .finished with heap := h' }) :
    wpAny (model prog w) A (pyNext (.ref a)) Q E s := by
  unfold pyNext
  refine wpAny_bind (wpAny_attempt (wpAny_callSpecial?_slot (name := Str.ofString "__next__") hg.typeIs slot_gen_next
    (wpAny_call_entry slot_gen_next hg.typeIs entry_gen_next ?_ (args_gen_next _))))
  show wpAny _ A.in1 (Builtin.Generator.genWake (.ref a) (.send .none)) _ _ s
  refine wpAny_bind (wpAny_holding (wpAny_genNumber hg (wpAny_bind (wpAny_genState hgs ?_))))
  cases gs with
  | running => exact hgo.elim
  | finished => exact hgo.elim
  | _ =>
    refine wpAny_bind (wpAny_roomToWake hl hroom ?_)
    show wpAny _ A.in1 (.resume g (.send .none) [] _) _ _ s
    refine wpAny_resumeQ hgs hgo ?_ fun v s₁ gs' hb hv => wpAny_pure ⟨v, rfl, wpAny_pure (hY v s₁ gs' hb hv)⟩
    rintro _ s₁ ⟨rfl, hp⟩
    show wpAny _ A.in1 (newExc (.type "StopIteration") [] >>= _) _ _ _
    refine wpAny_bind ?_
    simp only [newExc, newTuple]
    refine wpAny_bind (wpAny_newObj_type ?_ (by size_fits))
    refine wpAny_bind (m := firstArgMember _ _) (wpAny_of_eq (a := Value.none) (by simp only [firstArgMember]; rfl) ?_)
    refine wpAny_newObj_type ?_ (by size_fits)
    simp only [raiseNew]
    refine wpAny_bind (wpAny_bind (wpAny_handled ?_))
    rw [hh]
    refine wpAny_throw ?_
    refine wpAny_bind (wpAny_isInstance (T := "StopIteration") (b := true) ⟨_, Heap.get?_push_size _ rfl, rfl⟩ isSubtype_stop ?_)
    exact wpAny_pure (hP s₁ hp _ fun b o hb => Heap.get?_push_of_some _ (Heap.get?_push_of_some _ hb))

theorem letGo_gen {target : Expr} {I : Addr} {g : Nat} {v : Value} {Q' : Unit → Shared → Prop} (hit : s.heap.IsGen I g) (h : Q' () s) :
    wpAny (model prog w) A (letOwnedTupleGo target (.ref I) v) Q' E s := by
  obtain ⟨o, nm, qn, ho, hc, hd, _⟩ := hit
  unfold letOwnedTupleGo
  cases target <;> first
    | exact wpAny_pure h
    | (cases v <;> first
        | exact wpAny_pure h
        | (refine wpAny_bind (wpAny_load ho ?_)
           rw [hc, hd]
           exact wpAny_pure h))
end
theorem bare_set {gens : Array GenState} {g : Nat} {x : GenState} (h : AllBare gens) (hx : x.bare = true) : AllBare (gens.setIfInBounds g x) := by
  intro y hy
  obtain ⟨i, hi, rfl⟩ := Array.mem_iff_getElem.mp hy
  have hi' : i < gens.size := by simpa using hi
  rw [Array.getElem_setIfInBounds hi']
  split
  · exact hx
  · exact h _ (Array.getElem_mem hi')
/-- the generator of the consumer's loop, between two turns -/
structure GLoop (w : World) (B : Heap) (L Lg Ga : Addr) (g : Nat) (T : List (Int × Str)) (J : Nat → (Str → Option Value) → List (Addr × Obj) → Prop) (adr : List Addr)
    (s₀ : Shared) (i : Nat) (m : Str → Option Value) (news priv : List (Addr × Obj)) (gs : GenState) (h : Heap) (gg : Array GenState) : Prop where
  le : i ≤ T.length
  fr : Fr B L h m
  nw : News B L h news
  ad : news.map (·.1) = adr
  jj : J i m news
  pr : ∀ q ∈ priv, h.get? q.1 = some q.2 ∧ Lg ≤ q.1 ∧ q.1 ≠ Ga
  gn : gg[g]? = some gs
  br : AllBare gg
  ig : h.IsGen Ga g
  go : ∀ s'' : Shared, (∀ q ∈ priv, s''.heap.get? q.1 = some q.2) → (∃ oG, s''.heap.get? Ga = some oG) → (∀ b o, B.get? b = some o → s''.heap.get? b = some o) →
    gs.Goes (model Challenge.rw_re0084_01.prog w) (AA 345 90) (genR Lg Ga) (genY B Lg Ga T) (T.length - i) (.send .none) s''
theorem setGen_at {s : Shared} {g : Nat} {gs x : GenState} (h : s.gens[g]? = some gs) : (s.setGen g x).gens[g]? = some x := by
  obtain ⟨hlt, _⟩ := Array.getElem?_eq_some_iff.mp h
  simp [Shared.setGen, hlt]
section
variable {w : World} {A : Around} {env : Env} {B : Heap} {Lg Ga : Addr} {g : Nat} {T : List (Int × Str)}
theorem gen_for {Q : Flow → Shared → Prop} {E : Value → Shared → Prop} {target : Expr} {body : List Stmt} {s : Shared} {m₀ : Str → Option Value} {news₀ priv₀ : List (Addr × Obj)} {gs₀ : GenState}
    (J : Nat → (Str → Option Value) → List (Addr × Obj) → Prop) (hh : A.handled = none) (hd : A.depth ≤ 345) (hu : A.units ≤ 89)
    (hT : B.NoLimit) (hLg : env.locals < Lg) (hLG : Lg < Ga) (hn : ∀ p ∈ news₀, p.1 < Lg)
    (G : GLoop w B env.locals Lg Ga g T J (news₀.map (·.1)) s 0 m₀ news₀ priv₀ gs₀ s.heap s.gens)
    (turn : ∀ i p c m news h tk gg own a tp tc, T[i]? = some (p, c) → news.map (·.1) = news₀.map (·.1) → OwnOff own (news₀.map (·.1)) → AllBare gg → J i m news → Fr B env.locals h m →
      News B env.locals h (news ++ (a, tupOf p c tp tc) :: own) → (∀ b ∈ news₀.map (·.1), b < a) →
      wpAny (model Challenge.rw_re0084_01.prog w) A (assign target env (.ref a)) (fun _ s₂ => wpAny (model Challenge.rw_re0084_01.prog w) A (execs body env)
        (InvPostN B env.locals (J (i + 1)) own (news₀.map (·.1)) { s with heap := h, toks := tk, gens := gg } Q) (fun _ _ => False) s₂) (fun _ _ => False) { s with heap := h, toks := tk, gens := gg })
    (done : ∀ m news h tk gg, J T.length m news → Fr B env.locals h m → News B env.locals h news → AllBare gg → Q .next { s with heap := h, toks := tk, gens := gg }) :
    codeAny (model Challenge.rw_re0084_01.prog w) A (.forLoop target (.ref Ga) body [] env) (fun r s' => match r with | .ok f => Q f s' | .error e => cameBackBy (model Challenge.rw_re0084_01.prog w) A env E e s') s := by
  refine codeAny_forLoop_any (fun k s' => ∃ i m news priv gs h tk gg, k = T.length + 1 - i ∧ s' = { s with heap := h, toks := tk, gens := gg } ∧ GLoop w B env.locals Lg Ga g T J (news₀.map (·.1)) s i m news priv gs h gg) ?_ (T.length + 1)
    ⟨0, m₀, news₀, priv₀, gs₀, s.heap, s.toks, s.gens, rfl, rfl, G⟩
  rintro k s' ⟨i, m, news, priv, gs, h, tk, gg, rfl, rfl, G⟩
  have hlt : ∀ p ∈ news, p.1 < Lg := by
    intro p hp
    have : p.1 ∈ news₀.map (·.1) := G.ad ▸ List.mem_map.mpr ⟨p, hp, rfl⟩
    obtain ⟨q, hq, e⟩ := List.mem_map.mp this
    exact e ▸ hn q hq
  have hBL : ∀ b o, B.get? b = some o → b < Lg := fun b o e => Nat.lt_trans (Nat.lt_of_lt_of_le (Heap.lt_size e) G.fr.above) hLg
  -- what a move of the generator keeps
  have mv : ∀ (h₁ : Heap), (∀ b o, (b < Lg ∨ b = Ga) → h.get? b = some o → h₁.get? b = some o) → Fr B env.locals h₁ m ∧ News B env.locals h₁ news ∧ h₁.IsGen Ga g := by
    intro h₁ hk
    obtain ⟨oL, es, ep, hL, r⟩ := G.fr.ns
    obtain ⟨oG, nm, qn, hG, r'⟩ := G.ig
    exact ⟨⟨⟨oL, es, ep, hk _ _ (.inl hLg) hL, r⟩, fun b o e => hk b o (.inl (hBL b o e)) (G.fr.keep b o e), G.fr.above⟩, fun p hp => ⟨hk _ _ (.inl (hlt p hp)) (G.nw p hp).1, (G.nw p hp).2⟩, oG, nm, qn, hk _ _ (.inr rfl) hG, r'⟩
  refine wpAny_wk (A' := AA 345 89) ?_ hh hd rfl rfl hu
  refine next_genQ (Lg := Lg) (Ga := Ga) (Y := genY B Lg Ga T) (n := T.length - i) rfl (hT.keeps G.fr.keep) (show (345 : Nat) < recursionLimit by decide) G.ig G.gn ?_ ?_ ?_
  · obtain ⟨oG, nm, qn, hG, r'⟩ := G.ig
    exact G.go _ (fun q hq => (G.pr q hq).1) ⟨oG, hG⟩ G.fr.keep
  · intro v s₁ gs' hb hY
    obtain ⟨a, p, c, tp, tc, priv', rfl, ha, hTi, hm, hga, hp', hkap⟩ := hY
    obtain ⟨F₁, N₁, I₁⟩ := mv s₁.heap hm.1
    have hs1 : s₁.setGen g gs' = { s with heap := s₁.heap, toks := s₁.toks, gens := s₁.gens.setIfInBounds g gs' } := by
      obtain ⟨h1, h2, h3, h4, h5⟩ := s₁
      obtain ⟨_, e1, e2, e3⟩ := hm
      simp only [Shared.setGen] at e1 e2 e3 ⊢
      rw [e2, e3]
    have hgens : s₁.gens = gg.setIfInBounds g .running := hm.2.1
    have hpos : i < T.length := by
      rcases Nat.lt_or_ge i T.length with h1 | h1
      · exact h1
      · exfalso
        have e0 : T.length - i = 0 := by omega
        have := hkap s₁ (fun q hq => (hp' q hq).1) F₁.keep
        rw [e0] at this
        exact this
    obtain ⟨n', hn'⟩ : ∃ n', T.length - i = n' + 1 := ⟨T.length - i - 1, by omega⟩
    rw [hn'] at hkap hTi
    have hTi : T[i]? = some (p, c) := by
      have e : T.length - 1 - (n' + 1 - 1) = i := by omega
      rw [e] at hTi; exact hTi
    have hgs2 : (s₁.gens.setIfInBounds g gs')[g]? = some gs' := by
      rw [hgens]
      obtain ⟨hlt', _⟩ := Array.getElem?_eq_some_iff.mp G.gn
      simp [hlt']
    have hbb : AllBare (s₁.gens.setIfInBounds g gs') := by
      rw [hgens]
      exact bare_set (bare_set G.br rfl) hb
    obtain ⟨oG, nm, qn, hG, r'⟩ := id I₁
    have hGB : B.get? Ga = none := by
      cases hq : B.get? Ga with
      | none => rfl
      | some o' => exact absurd (hBL _ _ hq) (Nat.not_lt_of_gt hLG)
    have hge : ∀ b, Lg ≤ b → B.get? b = none ∧ b ≠ env.locals := by
      intro b hb
      refine ⟨?_, Nat.ne_of_gt (Nat.lt_of_lt_of_le hLg hb)⟩
      cases hq : B.get? b with
      | none => rfl
      | some o' => exact absurd (hBL _ _ hq) (Nat.not_lt_of_ge hb)
    have hLa : Lg ≤ a := Nat.le_of_lt (Nat.lt_trans hLG hga)
    have N₂ : News B env.locals s₁.heap (news ++ (a, tupOf p c tp tc) :: (Ga, oG) :: priv') := by
      intro q hq
      rcases List.mem_append.mp hq with hq | hq
      · exact N₁ q hq
      · rcases List.mem_cons.mp hq with rfl | hq
        · exact ⟨ha, (hge _ hLa).2, (hge _ hLa).1⟩
        · rcases List.mem_cons.mp hq with rfl | hq
          · exact ⟨hG, (hge _ (Nat.le_of_lt hLG)).2, (hge _ (Nat.le_of_lt hLG)).1⟩
          · exact ⟨(hp' q hq).1, (hge _ (hp' q hq).2.1).2, (hge _ (hp' q hq).2.1).1⟩
    have hoff : OwnOff ((Ga, oG) :: priv') (news₀.map (·.1)) := by
      intro q hq b hb
      obtain ⟨r, hr, rfl⟩ := List.mem_map.mp hb
      have h1 : Lg ≤ q.1 := by
        rcases List.mem_cons.mp hq with rfl | hq
        · exact Nat.le_of_lt hLG
        · exact (hp' q hq).2.1
      exact Nat.ne_of_gt (Nat.lt_of_lt_of_le (hn r hr) h1)
    rw [hs1]
    refine wpAny_mono (letGo_gen (s := { s with heap := s₁.heap, toks := s₁.toks, gens := s₁.gens.setIfInBounds g gs' }) I₁ ?_) (fun _ _ x => x) fun _ _ x => x
    exact (wpAny_mono (turn i p c m news s₁.heap s₁.toks _ _ a tp tc hTi G.ad hoff hbb G.jj F₁ N₂ (fun b hb => by
      obtain ⟨r, hr, rfl⟩ := List.mem_map.mp hb
      exact Nat.lt_of_lt_of_le (hn r hr) hLa)) (fun _ s₂ h₂ => wpAny_mono h₂ (fun f s₃ h₃ => (by
        have key : InvEndN B env.locals (J (i + 1)) ((Ga, oG) :: priv') (news₀.map (·.1)) { s with heap := s₁.heap, toks := s₁.toks, gens := s₁.gens.setIfInBounds g gs' } s₃ →
            ∃ k', k' < T.length + 1 - i ∧ ∃ i m news priv gs h tk gg, k' = T.length + 1 - i ∧ s₃ = { s with heap := h, toks := tk, gens := gg } ∧ GLoop w B env.locals Lg Ga g T J (news₀.map (·.1)) s i m news priv gs h gg := by
          rintro ⟨h', tk', m', news', nx, rfl, F', N', hnx, how, had, hJ⟩
          refine ⟨T.length + 1 - (i + 1), by omega, i + 1, m', nx, priv', gs', h', tk', _, rfl, rfl, hpos, F', fun q hq => N' q (hnx q hq), had, hJ, fun q hq => ⟨(N' q (how q (.tail _ hq))).1, (hp' q hq).2.1, (hp' q hq).2.2.1⟩, hgs2, hbb,
            ⟨oG, nm, qn, (N' _ (how _ (.head _))).1, r'⟩, fun s'' h1 _ h3 => ?_⟩
          have e : T.length - (i + 1) = n' := by omega
          rw [e]
          exact hkap s'' h1 h3
        cases f with
        | next => exact key h₃
        | cont => exact key h₃
        | brk => exact h₃
        | ret v => exact h₃)) fun _ _ x => x.elim) fun _ _ x => x.elim)
  · rintro s₁ ⟨hn0, hm⟩ h' hk
    have hi : i = T.length := by have := G.le; omega
    subst hi
    obtain ⟨F₁, N₁, I₁⟩ := mv h' fun b o hb e => hk b o (hm.1 b o hb e)
    have hs1 : { s₁.setGen g .finished with heap := h' } = { s with heap := h', toks := s₁.toks, gens := gg.setIfInBounds g .running |>.setIfInBounds g .finished } := by
      obtain ⟨h1, h2, h3, h4, h5⟩ := s₁
      obtain ⟨_, e1, e2, e3⟩ := hm
      simp only [Shared.setGen] at e1 e2 e3 ⊢
      rw [e1, e2, e3]
    rw [hs1]
    exact wpAny_execs_nil (done m news h' _ _ G.jj F₁ N₁ (bare_set (bare_set G.br rfl) rfl))
end
end
section
set_option maxRecDepth 100000
set_option maxHeartbeats 4000000
theorem rowsG50 : True := by
  k_with_none
  k_with "exec For Tuple Call cons nil" => (refine holdG ?_)
  k_with "call ref" => (refine holdG ?_)
  trivial
/-- a call that keeps all that stands and leaves the generators bare -/
noncomputable def CtrG (w : World) (f : Addr) (d u : Nat) (vs : List Value) (post : Value → Prop) : Prop :=
  ∀ (mean : ExcName → Option Value) (mg mb : Str → Option Value) (s : Shared) (Q E : Value → Shared → Prop),
    (hd.heap_39 w.params).In s.heap → Top hd.view_39 (looseW hd.view_39 []) mean mg mb s.heap → AllBare s.gens →
    (∀ v h' tk' gg, (∀ b o, s.heap.get? b = some o → h'.get? b = some o) → AllBare gg → post v → Q v { s with heap := h', toks := tk', gens := gg }) →
    wpAny (model Challenge.rw_re0084_01.prog w) (AA d u) (call (.ref f) vs) Q E s


noncomputable def stripStep (x : Str) (s : Int × Option Int × List Str) (tk : Int × Str) : Int × Option Int × List Str :=
  if tk.2 = Str.ofString "\"" then match s.2.1 with
    | none => (s.1, some tk.1, s.2.2)
    | some o => (tk.1 + 1, none, if s.1 = o then s.2.2 else s.2.2 ++ [Txt.slice x (some s.1) (some o)])
  else s
noncomputable def stripS (x : Str) : Int × Option Int × List Str := (remT x.cps.toList 0 false).foldl (stripStep x) (0, none, [])
noncomputable def optV (o : Option Int) (t : Tok) : Value := match o with | none => .none | some k => .int k t
noncomputable def smap (x : Str) (t : Tok) (st : Int) (ts : Tok) (ov : Value) (R : Addr) (up uc : Option Value) : Str → Option Value := fun y =>
  if y = Str.ofString "ch" then uc else if y = Str.ofString "pos" then up else if y = Str.ofString "result" then some (.ref R) else if y = Str.ofString "open_pos" then some ov else if y = Str.ofString "start" then some (.int st ts) else if y = Str.ofString "addr" then some (.str x t) else none
inductive SJ (x : Str) (t : Tok) (T : List (Int × Str)) (R : Addr) (i : Nat) (m : Str → Option Value) (news : List (Addr × Obj)) : Prop
  | mk (st : Int) (op : Option Int) (res : List Str) (ts to : Tok) (up uc : Option Value) (us : Array Value) (n : Nat) (e1 : m = smap x t st ts (optV op to) R up uc) (e2 : news = [(R, W.listOf us n)]) (hu : StrsAre us.toList res)
    (hf : (st, op, res) = (T.take i).foldl (stripStep x) (0, none, [])) (h0 : 0 ≤ st) (h1 : st ≤ x.length) (ho : ∀ o, op = some o → 0 ≤ o ∧ o < x.length) (hz : us.size ≤ i) (hl : ∀ r ∈ res, r.length ≤ x.length) : SJ x t T R i m news
theorem mem_remT {p : Int × Str} : ∀ (cs : List Nat) (i : Nat) (e : Bool), (e = true → 0 < i) → p ∈ remT cs i e → 0 ≤ p.1 ∧ p.1 < (i : Int) + cs.length
  | [], i, e, he, h => by
    cases e with
    | false => exact absurd h (by simp [remT])
    | true =>
      have hi := he rfl
      simp [remT] at h
      subst h
      simp; omega
  | c :: cs, i, e, he, h => by
    have step : ∀ e', p ∈ remT cs (i + 1) e' → 0 ≤ p.1 ∧ p.1 < (i : Int) + (c :: cs).length := fun e' h' => by
      have := mem_remT cs (i + 1) e' (fun _ => Nat.succ_pos i) h'
      simp only [List.length_cons]; omega
    unfold remT at h
    split at h
    · rcases List.mem_cons.mp h with rfl | h
      · simp only [List.length_cons]; omega
      · exact step _ h
    · split at h
      · exact step _ h
      · rcases List.mem_cons.mp h with rfl | h
        · simp only [List.length_cons]; omega
        · exact step _ h
theorem smap_start (x : Str) (t ts : Tok) (R : Addr) (y : Str) : (if y = Str.ofString "result" then some (Value.ref R) else if y = Str.ofString "open_pos" then some Value.none else if y = Str.ofString "start" then some (Value.int 0 ts) else List.lookup y [(Str.ofString "addr", Value.str x t)]) = smap x t 0 ts .none R none none y := by
  unfold smap
  have h1 : (Str.ofString "ch" == Str.ofString "addr") = false := by decide
  have h2 : (Str.ofString "pos" == Str.ofString "addr") = false := by decide
  have h3 : Str.ofString "ch" ≠ Str.ofString "result" := by decide
  have h4 : Str.ofString "ch" ≠ Str.ofString "open_pos" := by decide
  have h5 : Str.ofString "ch" ≠ Str.ofString "start" := by decide
  have h6 : Str.ofString "pos" ≠ Str.ofString "result" := by decide
  have h7 : Str.ofString "pos" ≠ Str.ofString "open_pos" := by decide
  have h8 : Str.ofString "pos" ≠ Str.ofString "start" := by decide
  by_cases a : y = Str.ofString "ch"
  · rw [if_pos a, a, if_neg h3, if_neg h4, if_neg h5, List.lookup_cons, h1]; rfl
  · rw [if_neg a]
    by_cases b : y = Str.ofString "pos"
    · rw [if_pos b, b, if_neg h6, if_neg h7, if_neg h8, List.lookup_cons, h2]; rfl
    · rw [if_neg b]
      by_cases d : y = Str.ofString "addr"
      · rw [if_pos d, d, List.lookup_cons, beq_self_eq_true]
      · rw [if_neg d, List.lookup_cons, beq_eq_false_iff_ne.mpr d]; rfl
theorem smap_qn (x : Str) (t : Tok) (st : Int) (ts : Tok) (ov ov' : Value) (R : Addr) (up uc : Option Value) (p c : Value) (y : Str) :
    (if y = Str.ofString "open_pos" then some ov' else if y = Str.ofString "ch" then some c else if y = Str.ofString "pos" then some p else smap x t st ts ov R up uc y) = smap x t st ts ov' R (some p) (some c) y := by
  unfold smap
  have h1 : Str.ofString "ch" ≠ Str.ofString "open_pos" := by decide
  have h2 : Str.ofString "pos" ≠ Str.ofString "open_pos" := by decide
  have h3 : Str.ofString "result" ≠ Str.ofString "open_pos" := by decide
  by_cases a : y = Str.ofString "ch"
  · rw [a, if_neg h1, if_pos rfl, if_pos rfl]
  · by_cases b : y = Str.ofString "pos"
    · rw [if_neg a, if_neg a, if_neg a, b, if_neg h2, if_pos rfl, if_pos rfl]
    · by_cases d : y = Str.ofString "result"
      · rw [if_neg a, if_neg a, if_neg b, if_neg b, if_neg a, if_neg b, d, if_neg h3, if_pos rfl, if_pos rfl]
      · rw [if_neg a, if_neg a, if_neg b, if_neg b, if_neg a, if_neg b, if_neg d, if_neg d]
        by_cases e : y = Str.ofString "open_pos"
        · rw [if_pos e, if_pos e]
        · rw [if_neg e, if_neg e, if_neg e]
theorem smap_q (x : Str) (t : Tok) (st : Int) (ts : Tok) (ov : Value) (R : Addr) (up uc : Option Value) (p c : Value) (y : Str) :
    (if y = Str.ofString "ch" then some c else if y = Str.ofString "pos" then some p else smap x t st ts ov R up uc y) = smap x t st ts ov R (some p) (some c) y := by
  unfold smap
  by_cases a : y = Str.ofString "ch"
  · rw [if_pos a, if_pos a]
  · by_cases b : y = Str.ofString "pos"
    · rw [if_neg a, if_neg a, if_neg a, if_pos b, if_pos b]
    · rw [if_neg a, if_neg a, if_neg b, if_neg a, if_neg b, if_neg b]
theorem smap_qs (x : Str) (t : Tok) (st st' : Int) (ts ts' : Tok) (ov ov' : Value) (R : Addr) (up uc : Option Value) (p c : Value) (y : Str) :
    (if y = Str.ofString "open_pos" then some ov' else if y = Str.ofString "start" then some (.int st' ts') else if y = Str.ofString "ch" then some c else if y = Str.ofString "pos" then some p else smap x t st ts ov R up uc y) = smap x t st' ts' ov' R (some p) (some c) y := by
  have h1 : Str.ofString "ch" ≠ Str.ofString "start" := by decide
  have h2 : Str.ofString "pos" ≠ Str.ofString "start" := by decide
  have h3 : Str.ofString "result" ≠ Str.ofString "start" := by decide
  have h4 : Str.ofString "open_pos" ≠ Str.ofString "start" := by decide
  rw [← smap_qn x t st' ts' ov ov' R up uc p c y]
  by_cases e : y = Str.ofString "open_pos"
  · rw [if_pos e, if_pos e]
  · rw [if_neg e, if_neg e]
    unfold smap
    by_cases a : y = Str.ofString "ch"
    · rw [a, if_neg h1, if_pos rfl, if_pos rfl]
    · by_cases b : y = Str.ofString "pos"
      · rw [if_neg a, if_neg a, b, if_neg h2, if_pos rfl, if_neg (by decide), if_pos rfl]
      · by_cases d : y = Str.ofString "result"
        · rw [if_neg a, if_neg a, if_neg b, if_neg b, if_neg a, if_neg b, if_neg a, if_neg b, d, if_neg h3, if_pos rfl, if_pos rfl]
        · rw [if_neg a, if_neg a, if_neg b, if_neg b, if_neg a, if_neg b, if_neg a, if_neg b, if_neg d, if_neg d, if_neg e, if_neg e]
          by_cases f : y = Str.ofString "start"
          · rw [if_pos f, if_pos f]
          · rw [if_neg f, if_neg f, if_neg f]
theorem fold_next {σ α : Type} {f : σ → α → σ} {a b : σ} {T : List α} {i : Nat} {y : α} (h : a = (T.take i).foldl f b) (hy : T[i]? = some y) : f a y = (T.take (i + 1)).foldl f b := by
  rw [List.take_add_one, hy, List.foldl_append, ← h]; rfl
theorem step_no {x : Str} {s : Int × Option Int × List Str} {p : Int} {c : Str} (h : (c == Str.ofString "\"") = false) : stripStep x s (p, c) = s := if_neg (beq_eq_false_iff_ne.mp h)
theorem step_on {x : Str} {st : Int} {res : List Str} {p : Int} {c : Str} (h : (c == Str.ofString "\"") = true) : stripStep x (st, none, res) (p, c) = (st, some p, res) := if_pos (beq_iff_eq.mp h)
theorem step_off {x : Str} {st o : Int} {res : List Str} {p : Int} {c : Str} (h : (c == Str.ofString "\"") = true) : stripStep x (st, some o, res) (p, c) = (p + 1, none, if st = o then res else res ++ [Txt.slice x (some st) (some o)]) := if_pos (beq_iff_eq.mp h)
theorem tok_at {x : Str} {i : Nat} {p : Int} {c : Str} (h : (remT x.cps.toList 0 false)[i]? = some (p, c)) : 0 ≤ p ∧ p < x.length := by
  have := mem_remT (p := (p, c)) x.cps.toList 0 false (fun h => nomatch h) (List.mem_of_getElem? h)
  refine ⟨this.1, ?_⟩
  have h2 := this.2
  simp only [Array.length_toList] at h2
  have e : x.length = x.cps.size := rfl
  omega
theorem remT_length : ∀ (cs : List Nat) (i : Nat) (e : Bool), (remT cs i e).length ≤ cs.length + 1
  | [], i, e => by cases e <;> simp [remT]
  | c :: cs, i, e => by
    have h1 := remT_length cs (i + 1) false
    have h2 := remT_length cs (i + 1) true
    unfold remT
    split
    · simpa using h1
    · split
      · simp only [List.length_cons]; omega
      · simpa using h1
noncomputable def stripR (x : Str) : List Str := if (stripS x).1 < x.length then (stripS x).2.2 ++ [Txt.slice x (some (stripS x).1) none] else (stripS x).2.2
noncomputable def stripF (x : Str) : Str := if (Builtin.Str.occurrences x (Str.ofString "\"") 0 x.length 1).isEmpty = true then x else Txt.join (Str.ofString "") (stripR x)
theorem sum_le_of {l : List Str} {n : Nat} (h : ∀ r ∈ l, r.length ≤ n) : (l.map (·.length)).sum ≤ l.length * n := by
  induction l with
  | nil => exact Nat.zero_le _
  | cons a l ih =>
    have h1 := h a (.head _)
    have h2 := ih fun r hr => h r (.tail _ hr)
    simp only [List.map_cons, List.sum_cons, List.length_cons, Nat.succ_mul]
    omega
theorem strip_ctr (w : World) (x : Str) (t : Tok) (hasc : strIterType x = "str_ascii_iterator") (hlen : x.length ≤ 200) :
   CtrG w 28 325 50 [.str x t] (fun v => ∃ t, v = .str (stripF x) t) := by
  unfold CtrG
  k_fill
  intro mean mg mb s Q E hK hT hG hret
  have hK0 := hK
  have hT0 := hT
  k_dflt cell_enter
  k_steps
  · exact hret _ _ _ _ (Fr.keep (by assumption)) hG ⟨_, by rw [stripF, if_pos (by assumption)]⟩
  unfold HoldG
  rename Fr _ _ _ _ => F0
  rename News _ _ _ _ => N0
  refine wpAny_For ?_ (fun _ => rfl)
  k_steps
  unfold HoldG
  rename Fr _ _ _ _ => F1
  rename News _ _ _ _ => N1

  refine wpAny_wk (gen_ctr w x t hasc (by omega) s.heap mean mg mb _ _ _ F1.keep (Nat.le_of_lt (Nat.lt_of_le_of_lt F1.above F1.ns.lt)) hK0 hT0 ?_) rfl (Nat.le_of_ble_eq_true rfl) rfl rfl (Nat.le_of_ble_eq_true rfl)
  intro Lg Ga h5 tk5 gs oL hk5 hgen hLg hLG hoL hgo hbare
  refine wpAny_pyIter_gen (s := { s with heap := h5, gens := s.gens.push gs, toks := tk5 }) hgen ?_
  rename_i L _ _ _ _ _ _ R _ _ h4
  have F5 := F1.grownK hk5
  have N5 := N1.grown hk5
  have hL4 := F1.ns.lt
  have hR4 : R < h4.objs.size := Heap.lt_size (N1 _ (.head _)).1
  obtain ⟨ts0, F6⟩ : ∃ ts, Fr s.heap L h5 (smap x t 0 ts .none R none none) := ⟨_, fr_eq F5 fun y => smap_start x t _ R y⟩
  refine gen_for (s := { s with heap := h5, gens := s.gens.push gs, toks := tk5 }) (Lg := Lg) (Ga := Ga) (g := s.gens.size) (T := remT x.cps.toList 0 false) (m₀ := smap x t 0 ts0 .none R none none) (news₀ := [(R, W.listOf #[] 0)]) (priv₀ := [(Lg, oL)]) (gs₀ := gs) (SJ x t (remT x.cps.toList 0 false) R) rfl (Nat.le_of_ble_eq_true rfl) (Nat.le_of_ble_eq_true rfl) hT0.nolimit (Nat.lt_of_lt_of_le hL4 hLg) hLG ?hn ?G ?turn ?done
  case hn =>
    intro p hp
    rw [List.mem_singleton.mp hp]
    exact Nat.lt_of_lt_of_le hR4 hLg
  case G =>
    refine ⟨Nat.zero_le _, F6, N5, rfl, ?_, ?_, by simp, hG.push hbare, hgen, fun s'' h1 h2 h3 => ?_⟩
    · refine ⟨0, none, [], ts0, 0, none, none, #[], 0, rfl, rfl, .nil, rfl, Int.le_refl _, Int.natCast_nonneg _, (fun _ h => nomatch h), Nat.zero_le _, (fun _ h => nomatch h)⟩
    · intro q hq
      rw [List.mem_singleton.mp hq]
      exact ⟨hoL, Nat.le_refl _, Nat.ne_of_lt hLG⟩
    · exact hgo s'' (h1 _ (.head _)) h2 h3
  case turn =>
    clear F6 F5 N5 F1 N1 hgo hoL hgen hk5 hret
    intro i p c m news h tk gg own a tp tc hTi had hoff hbb hJ F N hba
    obtain ⟨st, op, res, ts, to, up, uc, us, n, rfl, rfl, hus, hfold, hst0, hst1, hop, hsz, hpl⟩ := hJ
    unfold smap at F
    cases op with
    | none =>
      dsimp only [optV] at F
      k_steps
      · rename Fr _ _ _ _ => F7
        rename News _ _ _ _ => N7
        rename _ = true => hq
        refine ⟨_, _, _, _, [(R, W.listOf us n)], rfl, fr_eq F7 fun y => smap_qn x t st ts .none _ R up uc _ _ y, N7, fun q hq => List.mem_append_left _ hq, fun q hq => List.mem_append_right _ (.tail _ hq), rfl, ?_⟩
        exact ⟨st, some p, res, ts, tp, _, _, us, n, rfl, rfl, hus, (step_on hq).symm.trans (fold_next hfold hTi), hst0, hst1, fun o e => Option.some.inj e ▸ tok_at hTi, Nat.le_succ_of_le hsz, hpl⟩
      · rename Fr _ _ _ _ => F7
        rename News _ _ _ _ => N7
        rename _ = false => hq
        refine ⟨_, _, _, _, [(R, W.listOf us n)], rfl, fr_eq F7 fun y => smap_q x t st ts .none R up uc _ _ y, N7, fun q hq => List.mem_append_left _ hq, fun q hq => List.mem_append_right _ (.tail _ hq), rfl, ?_⟩
        exact ⟨st, none, res, ts, to, _, _, us, n, rfl, rfl, hus, (step_no hq).symm.trans (fold_next hfold hTi), hst0, hst1, hop, Nat.le_succ_of_le hsz, hpl⟩
    | some o =>
      dsimp only [optV] at F
      k_steps
      · rename Fr _ _ _ _ => F7
        rename News _ _ _ _ => N7
        have hne : ∀ q, q ∈ ((a, tupOf p c tp tc) :: own) → q.1 ≠ R := by
          intro q hq
          rcases List.mem_cons.mp hq with rfl | hq
          · exact Nat.ne_of_gt (hba R (.head _))
          · exact hoff q hq R (.head _)
        have hi : us.size ≤ 1001 := by
          have h1 := (List.getElem?_eq_some_iff.mp hTi).1
          have h2 := remT_length x.cps.toList 0 false
          have h3 : x.cps.toList.length = x.length := by simp [Str.length]
          omega
        refine append_K F7 N7 (.head hne) ?_ (by rw [PySem.sizeLine_eq]; omega)
        intro h8 F8 N8
        rename _ = true => hq
        rename st ≠ o => hso
        clear F7 N7
        k_steps
        rename Fr _ _ _ _ => F9
        rename News _ _ _ _ => N9
        rename Tok => tq
        refine ⟨_, _, _, _, [(R, W.listOf (us.push _) (n + 1))], rfl, fr_eq F9 fun y => smap_qs x t st (p + 1) ts _ (.int o to) .none R up uc _ _ y, N9, fun q hq => by rw [List.mem_singleton.mp hq]; exact .head _, fun q hq => .tail _ (.tail _ hq), rfl, ?_⟩
        have hh := (step_off (x := x) hq).symm.trans (fold_next hfold hTi)
        rw [if_neg hso] at hh
        have ht := tok_at hTi
        refine ⟨p + 1, none, _, _, 0, _, _, us.push _, n + 1, rfl, rfl, ?_, hh, by omega, by omega, (fun _ e => nomatch e), ?_, ?_⟩
        · rw [Array.toList_push]
          exact hus.append' (.cons _ _ .nil)
        · simpa using hsz
        · intro r hr
          rcases List.mem_append.mp hr with hr | hr
          · exact hpl r hr
          · rw [List.mem_singleton.mp hr]; exact Txt.slice_le x _ _
      · rename Fr _ _ _ _ => F9
        rename News _ _ _ _ => N9
        rename _ = true => hq
        rename st = o => hso
        refine ⟨_, _, _, _, [(R, W.listOf us n)], rfl, fr_eq F9 fun y => smap_qs x t st (p + 1) ts _ (.int o to) .none R up uc _ _ y, N9, fun q hq => List.mem_append_left _ hq, fun q hq => List.mem_append_right _ (.tail _ hq), rfl, ?_⟩
        have hh := (step_off (x := x) hq).symm.trans (fold_next hfold hTi)
        rw [if_pos hso] at hh
        have ht := tok_at hTi
        exact ⟨p + 1, none, _, _, 0, _, _, us, n, rfl, rfl, hus, hh, by omega, by omega, (fun _ e => nomatch e), Nat.le_succ_of_le hsz, hpl⟩
      · rename Fr _ _ _ _ => F7
        rename News _ _ _ _ => N7
        rename _ = false => hq
        refine ⟨_, _, _, _, [(R, W.listOf us n)], rfl, fr_eq F7 fun y => smap_q x t st ts (.int o to) R up uc _ _ y, N7, fun q hq => List.mem_append_left _ hq, fun q hq => List.mem_append_right _ (.tail _ hq), rfl, ?_⟩
        exact ⟨st, some o, res, ts, to, _, _, us, n, rfl, rfl, hus, (step_no hq).symm.trans (fold_next hfold hTi), hst0, hst1, hop, Nat.le_succ_of_le hsz, hpl⟩
  case done =>
    clear F6 F5 N5 F1 N1 hgo hoL hgen hk5
    intro m news h tk gg hJ F N hbb
    obtain ⟨st, op, res, ts, to, up, uc, us, n, rfl, rfl, hus, hfold, hst0, hst1, hop, hsz, hpl⟩ := hJ
    unfold smap at F
    rw [List.take_length] at hfold
    have hnq : ¬ (Builtin.Str.occurrences x (Str.ofString "\"") 0 x.length 1).isEmpty = true := by { rename _ = false => hq0; rw [hq0]; exact Bool.false_ne_true }
    have hfin : ∀ (vs : Array Value) (rs : List Str) (h9 : Heap) (n9 tk9 : Nat) (gg9 : Array GenState) (m9 : Str → Option Value) (tt : Tok) (env : Env), StrsAre vs.toList rs → rs = stripR x → (∀ r ∈ rs, r.length ≤ x.length) → rs.length ≤ 202 → AllBare gg9 →
        Fr s.heap L h9 m9 → News s.heap L h9 [(R, W.listOf vs n9)] →
        wpAny (model Challenge.rw_re0084_01.prog w) ((AA 325 50).deeper env) (call (.builtin "str.join") [.str (Str.ofString "") tt, .ref R]) (fun v s' => Q v s') (fun _ _ => False) { s with heap := h9, toks := tk9, gens := gg9 } := by
      intro vs rs h9 n9 tk9 gg9 m9 tt env h1 h2 h3 h4 h5 F9 N9
      have hw : (rs.map (·.length)).sum + rs.length ≤ 1048576 := by
        have e1 := sum_le_of (n := 200) fun r hr => Nat.le_trans (h3 r hr) hlen
        have e2 : rs.length * 200 ≤ 202 * 200 := Nat.mul_le_mul_right _ h4
        omega
      refine join_listW (s := { s with heap := h9, toks := tk9, gens := gg9 }) ⟨_, (N9 _ (.head _)).1, rfl, _, rfl⟩ h1 (by decide) hw ?_
      intro t9 k9
      exact hret _ _ _ _ F9.keep h5 ⟨_, by rw [stripF, if_neg hnq, h2]⟩
    have h2 := remT_length x.cps.toList 0 false
    have h3 : x.cps.toList.length = x.length := by simp [Str.length]
    have hlr : res.length = us.size := by simpa using hus.length.symm
    have hS : stripS x = (st, op, res) := hfold.symm
    dsimp only
    k_steps
    · rename st < _ => hlt
      rename Fr _ _ _ _ => F9
      rename News _ _ _ _ => N9
      refine hfin _ _ _ _ _ _ _ _ _ (by rw [Array.toList_push]; exact hus.append' (.cons _ _ .nil)) ?_ ?_ ?_ hbb F9 N9
      · unfold stripR
        rw [hS]
        exact (if_pos hlt).symm
      · intro r hr
        rcases List.mem_append.mp hr with hr | hr
        · exact hpl r hr
        · rw [List.mem_singleton.mp hr]; exact Txt.slice_le x _ _
      · simp only [List.length_append, List.length_singleton]; omega
    · rename Fr _ _ _ _ => F9
      rename News _ _ _ _ => N9
      rename ¬ st < _ => hlt
      refine hfin _ _ _ _ _ _ _ _ _ hus ?_ hpl (by omega) hbb F9 N9
      unfold stripR
      rw [hS]
      exact (if_neg hlt).symm
end
section
set_option maxRecDepth 100000
set_option maxHeartbeats 4000000
theorem rowsG60 : True := by
  k_with_none
  k_with "exec For Tuple Call cons nil" => (refine holdG ?_)
  k_with "call ref" => (refine holdG ?_)
  trivial
noncomputable def chkGo : List (Int × Str) → Int → Bool
  | [], o => decide (o = 0)
  | (_, c) :: r, o => if c = Str.ofString "(" then chkGo r (o + 1) else if c = Str.ofString ")" then (if o - 1 < 0 then false else chkGo r (o - 1)) else chkGo r o
noncomputable def chkF (x : Str) : Bool := chkGo (remT (stripF x).cps.toList 0 false) 0
noncomputable def cmap (y : Str) (t : Tok) (o : Int) (ts : Tok) (up uc : Option Value) : Str → Option Value := fun z =>
  if z = Str.ofString "ch" then uc else if z = Str.ofString "pos" then up else if z = Str.ofString "opens" then some (.int o ts) else if z = Str.ofString "addr" then some (.str y t) else none
inductive CJ (y : Str) (t : Tok) (T : List (Int × Str)) (i : Nat) (m : Str → Option Value) (news : List (Addr × Obj)) : Prop
  | mk (o : Int) (ts : Tok) (up uc : Option Value) (e1 : m = cmap y t o ts up uc) (e2 : news = []) (hg : chkGo T 0 = chkGo (T.drop i) o) (h0 : 0 ≤ o) (h1 : o ≤ i) : CJ y t T i m news
theorem cmap_start (x y : Str) (t u ts : Tok) (z : Str) : (if z = Str.ofString "opens" then some (Value.int 0 ts) else if z = Str.ofString "addr" then some (Value.str y t) else List.lookup z [(Str.ofString "addr", Value.str x u)]) = cmap y t 0 ts none none z := by
  unfold cmap
  have h1 : Str.ofString "ch" ≠ Str.ofString "opens" := by decide
  have h2 : Str.ofString "pos" ≠ Str.ofString "opens" := by decide
  have h3 : Str.ofString "ch" ≠ Str.ofString "addr" := by decide
  have h4 : Str.ofString "pos" ≠ Str.ofString "addr" := by decide
  by_cases a : z = Str.ofString "ch"
  · rw [if_pos a, a, if_neg h1, if_neg h3, List.lookup_cons, beq_eq_false_iff_ne.mpr h3]; rfl
  · rw [if_neg a]
    by_cases b : z = Str.ofString "pos"
    · rw [if_pos b, b, if_neg h2, if_neg h4, List.lookup_cons, beq_eq_false_iff_ne.mpr h4]; rfl
    · rw [if_neg b]
      by_cases d : z = Str.ofString "addr"
      · rw [if_pos d, if_pos d]
      · rw [if_neg d, if_neg d, List.lookup_cons, beq_eq_false_iff_ne.mpr d]; rfl
theorem cmap_q (y : Str) (t : Tok) (o : Int) (ts : Tok) (up uc : Option Value) (p c : Value) (z : Str) :
    (if z = Str.ofString "ch" then some c else if z = Str.ofString "pos" then some p else cmap y t o ts up uc z) = cmap y t o ts (some p) (some c) z := by
  unfold cmap
  by_cases a : z = Str.ofString "ch"
  · rw [if_pos a, if_pos a]
  · by_cases b : z = Str.ofString "pos"
    · rw [if_neg a, if_neg a, if_neg a, if_pos b, if_pos b]
    · rw [if_neg a, if_neg a, if_neg b, if_neg a, if_neg b, if_neg b]
theorem cmap_qo (y : Str) (t : Tok) (o o' : Int) (ts ts' : Tok) (up uc : Option Value) (p c : Value) (z : Str) :
    (if z = Str.ofString "opens" then some (.int o' ts') else if z = Str.ofString "ch" then some c else if z = Str.ofString "pos" then some p else cmap y t o ts up uc z) = cmap y t o' ts' (some p) (some c) z := by
  rw [← cmap_q y t o' ts' up uc p c z]
  have h1 : Str.ofString "ch" ≠ Str.ofString "opens" := by decide
  have h2 : Str.ofString "pos" ≠ Str.ofString "opens" := by decide
  by_cases a : z = Str.ofString "ch"
  · rw [a, if_neg h1, if_pos rfl, if_pos rfl]
  · by_cases b : z = Str.ofString "pos"
    · rw [if_neg a, if_neg a, b, if_neg h2, if_pos rfl, if_pos rfl]
    · rw [if_neg a, if_neg a, if_neg b, if_neg b]
      unfold cmap
      rw [if_neg a, if_neg a, if_neg b, if_neg b]
      by_cases d : z = Str.ofString "opens"
      · rw [if_pos d, if_pos d]
      · rw [if_neg d, if_neg d, if_neg d]
theorem drop_at {α : Type} {T : List α} {i : Nat} {y : α} (h : T[i]? = some y) : T.drop i = y :: T.drop (i + 1) := by
  obtain ⟨hl, e⟩ := List.getElem?_eq_some_iff.mp h
  rw [List.drop_eq_getElem_cons hl, e]
theorem go_up {p : Int} {c : Str} {r : List (Int × Str)} {o : Int} (h : (c == Str.ofString "(") = true) : chkGo ((p, c) :: r) o = chkGo r (o + 1) := if_pos (beq_iff_eq.mp h)
theorem go_dn {p : Int} {c : Str} {r : List (Int × Str)} {o : Int} (h : (c == Str.ofString "(") = false) (h' : (c == Str.ofString ")") = true) : chkGo ((p, c) :: r) o = if o - 1 < 0 then false else chkGo r (o - 1) :=
  (if_neg (beq_eq_false_iff_ne.mp h)).trans (if_pos (beq_iff_eq.mp h'))
theorem go_no {p : Int} {c : Str} {r : List (Int × Str)} {o : Int} (h : (c == Str.ofString "(") = false) (h' : (c == Str.ofString ")") = false) : chkGo ((p, c) :: r) o = chkGo r o :=
  (if_neg (beq_eq_false_iff_ne.mp h)).trans (if_neg (beq_eq_false_iff_ne.mp h'))
theorem chk_ctr (w : World) (x : Str) (t : Tok) (hasc : strIterType x = "str_ascii_iterator") (hlen : x.length ≤ 200) (hasc2 : strIterType (stripF x) = "str_ascii_iterator") (hlen2 : (stripF x).length ≤ 200) :
   CtrG w 35 320 40 [.str x t] (fun v => v = .bool (chkF x)) := by
  unfold CtrG
  k_fill
  intro mean mg mb s Q E hK hT hG hret
  have hK0 := hK
  have hT0 := hT
  k_dflt cell_enter
  k_steps
  unfold HoldG
  rename Fr _ _ _ _ => F0
  rename News _ _ _ _ => N0
  refine wpAny_wk (strip_ctr w x t hasc hlen mean mg mb _ _ _ (hK0.keeps F0.keep) (hT0.keeps F0.keep) hG ?_) rfl (Nat.le_of_ble_eq_true rfl) rfl rfl (Nat.le_of_ble_eq_true rfl)
  rintro _ h1 tk1 gg1 hk1 hb1 ⟨t1, rfl⟩
  have F1 := F0.grownK hk1
  have N1 := N0.grown hk1
  have hy : chkF x = chkGo (remT (stripF x).cps.toList 0 false) 0 := rfl
  rw [hy] at hret
  generalize stripF x = y at *
  clear F0 N0
  dsimp only
  k_steps
  unfold HoldG
  rename Fr _ _ _ _ => F2
  rename News _ _ _ _ => N2
  refine wpAny_For ?_ (fun _ => rfl)
  k_steps
  unfold HoldG
  rename Fr _ _ _ _ => F3
  rename News _ _ _ _ => N3
  refine wpAny_wk (gen_ctr w y t1 hasc2 (by omega) s.heap mean mg mb _ _ _ F3.keep (Nat.le_of_lt (Nat.lt_of_le_of_lt F3.above F3.ns.lt)) hK0 hT0 ?_) rfl (Nat.le_of_ble_eq_true rfl) rfl rfl (Nat.le_of_ble_eq_true rfl)
  intro Lg Ga h5 tk5 gs oL hk5 hgen hLg hLG hoL hgo hbare
  refine wpAny_pyIter_gen (s := { s with heap := h5, gens := gg1.push gs, toks := tk5 }) hgen ?_
  have F5 := F3.grownK hk5
  have N5 := N3.grown hk5
  have hL4 := F3.ns.lt
  obtain ⟨ts0, F6⟩ : ∃ ts, Fr s.heap _ h5 (cmap y t1 0 ts none none) := ⟨_, fr_eq F5 fun z => cmap_start x y t1 t _ z⟩
  refine gen_for (s := { s with heap := h5, gens := gg1.push gs, toks := tk5 }) (Lg := Lg) (Ga := Ga) (g := gg1.size) (T := remT y.cps.toList 0 false) (m₀ := cmap y t1 0 ts0 none none) (news₀ := []) (priv₀ := [(Lg, oL)]) (gs₀ := gs) (CJ y t1 (remT y.cps.toList 0 false)) rfl (Nat.le_of_ble_eq_true rfl) (Nat.le_of_ble_eq_true rfl) hT0.nolimit (Nat.lt_of_lt_of_le hL4 hLg) hLG (fun _ h => nomatch h) ?G ?turn ?done
  case G =>
    refine ⟨Nat.zero_le _, F6, N5, rfl, ?_, ?_, by simp, hb1.push hbare, hgen, fun s'' h1 h2 h3 => ?_⟩
    · exact ⟨0, ts0, none, none, rfl, rfl, rfl, Int.le_refl _, Int.le_refl _⟩
    · intro q hq
      rw [List.mem_singleton.mp hq]
      exact ⟨hoL, Nat.le_refl _, Nat.ne_of_lt hLG⟩
    · exact hgo s'' (h1 _ (.head _)) h2 h3
  case turn =>
    clear F6 F5 N5 F3 N3 hgo hoL hgen hk5
    intro i p c m news h tk gg own a tp tc hTi had hoff hbb hJ F N hba
    obtain ⟨o, ts, up, uc, rfl, rfl, hgo, ho0, ho1⟩ := hJ
    rw [drop_at hTi] at hgo
    unfold cmap at F
    have hi : i ≤ 201 := by
      have h1 := (List.getElem?_eq_some_iff.mp hTi).1
      have h2 := remT_length y.cps.toList 0 false
      have h3 : y.cps.toList.length = y.length := by simp [Str.length]
      omega
    k_steps
    · rename Fr _ _ _ _ => F9
      rename News _ _ _ _ => N9
      rename _ = true => hq
      refine ⟨_, _, _, _, [], rfl, fr_eq F9 fun z => cmap_qo y t1 o (o + 1) ts _ up uc _ _ z, N9, fun q hq => (nomatch hq), fun q hq => .tail _ hq, rfl, ?_⟩
      exact ⟨o + 1, _, _, _, rfl, rfl, hgo.trans (go_up hq), by omega, by push_cast; omega⟩
    · rename Fr _ _ _ _ => F9
      rename _ = true => hq
      rename _ = false => hq'
      rename _ < 0 => hlt
      exact hret _ _ _ _ F9.keep hbb (congrArg Value.bool (by rw [hgo, go_dn hq' hq, if_pos hlt]))
    · rename Fr _ _ _ _ => F9
      rename News _ _ _ _ => N9
      rename _ = true => hq
      rename _ = false => hq'
      rename ¬ _ < 0 => hlt
      refine ⟨_, _, _, _, [], rfl, fr_eq F9 fun z => cmap_qo y t1 o (o - 1) ts _ up uc _ _ z, N9, fun q hq => (nomatch hq), fun q hq => .tail _ hq, rfl, ?_⟩
      exact ⟨o - 1, _, _, _, rfl, rfl, by rw [hgo, go_dn hq' hq, if_neg hlt], by omega, by push_cast; omega⟩
    · rename Fr _ _ _ _ => F9
      rename News _ _ _ _ => N9
      rename _ = false => hq
      rename (_ == Str.ofString "(") = false => hq'
      refine ⟨_, _, _, _, [], rfl, fr_eq F9 fun z => cmap_q y t1 o ts up uc _ _ z, N9, fun q hq => (nomatch hq), fun q hq => .tail _ hq, rfl, ?_⟩
      exact ⟨o, _, _, _, rfl, rfl, hgo.trans (go_no hq' hq), by omega, by push_cast; omega⟩
  case done =>
    clear F6 F5 N5 F3 N3 hgo hoL hgen hk5
    intro m news h tk gg hJ F N hbb
    obtain ⟨o, ts, up, uc, rfl, rfl, hgo, ho0, ho1⟩ := hJ
    rw [List.drop_length] at hgo
    unfold cmap at F
    dsimp only
    k_steps
    rename Fr _ _ _ _ => F9
    refine hret _ _ _ _ F9.keep hbb (congrArg Value.bool ?_)
    rw [hgo]
    rfl
end
section
set_option maxRecDepth 100000
set_option maxHeartbeats 4000000
theorem rowsL20 : True := by
  k_with_none
  k_with "exec Assign" => (refine hold ?_)
  trivial
theorem lev_ctr0 (w : World) (a : Str) (m : Int) (th ts tv : Tok) : Ctr w 63 320 40 [.str a th, .str a ts, .int m tv] (fun _ v _ => ∃ t, v = .int 0 t) := by
  unfold Ctr
  k_fill
  intro mean mg mb s Q E hK hT hret
  k_dflt cell_enter
  rename Fr _ _ _ _ => Fa
  obtain ⟨m0, Fb⟩ := hide_map Fa [(Str.ofString "a", Value.str a th), (Str.ofString "b", Value.str a ts), (Str.ofString "max_cost", Value.int m tv)] (by simp only [List.forall_mem_cons]; exact ⟨rfl, rfl, rfl, fun _ h => nomatch h⟩)
  clear Fa
  dsimp only [withK] at Fb
  k_steps
  all_goals first
    | exact hret _ _ _ (Fr.keep (by assumption)) ⟨_, rfl⟩
    | (exfalso; rename (a == a) = false => hf; rw [beq_self_eq_true] at hf; cases hf)
end
section
set_option maxRecDepth 100000
set_option maxHeartbeats 2000000
/-- what no step of the machine can end -/
structure Stable (I : Shared → Prop) : Prop where
  upd : ∀ s a f, (s.heap.get? a).isSome → I s → I { s with heap := s.heap.update a f }
  alloc : ∀ s o, I s → I { s with heap := s.heap.push o }
  toks : ∀ s n, I s → I { s with toks := n }
  gens : ∀ s g, I s → I { s with gens := g }
  drawn : ∀ s g, I s → I { s with drawn := g }
  os : ∀ s g, I s → I { s with os := g }
theorem runs_stable {I : Shared → Prop} (S : Stable I) {M : Model} {Γ : Ctx} {p : Pos} {t : Sem Fin} {fs : List Frame} {s : Shared} {e : End} {s' : Shared} (h : Runs M Γ p t fs s e s') : I s → I s' := by
  induction h with
  | done | raise | yield => exact id
  | again _ _ ih | rule _ ih | «at» _ ih | load _ _ ih | loadIfAlive _ ih | point _ ih | ask _ ih | handled _ ih | genState _ _ ih | stack _ ih | thread _ ih | callSusp _ ih | resumeJustStarted _ _ _ ih | resumeRunning _ _ ih | resumeFinished _ _ ih => exact ih
  | segSuspOut _ _ ih => exact ih
  | update hs _ ih => exact fun h => ih (S.upd _ _ _ hs h)
  | alloc _ ih => exact fun h => ih (S.alloc _ _ h)
  | fresh _ ih => exact fun h => ih (S.toks _ _ h)
  | choose _ _ ih => exact fun h => ih (S.drawn _ _ h)
  | os _ ih => exact fun h => ih (S.os _ _ h)
  | newGen _ ih => exact fun h => ih (S.gens _ _ h)
  | resumeThrowFresh _ _ ih => exact fun h => ih (S.gens _ _ h)
  | call _ _ ih1 ih2 => exact fun h => ih2 (ih1 h)
  | resumeFresh _ _ _ _ ih1 ih2 => exact fun h => ih2 (S.gens _ _ (ih1 (S.gens _ _ h)))
  | resumeSuspended _ _ _ _ ih1 ih2 => exact fun h => ih2 (S.gens _ _ (ih1 (S.gens _ _ h)))
  | segRet _ _ ih1 ih2 => exact fun h => ih2 (ih1 h)
  | segGen _ _ ih1 ih2 => exact fun h => ih2 (S.gens _ _ (ih1 h))
  | segSuspGen _ _ _ _ ih1 ih2 => exact fun h => ih2 (S.gens _ _ (ih1 h))
theorem wp_stable {I : Shared → Prop} (S : Stable I) {α : Type} {M : Model} (t : Sem α) : ∀ {Γ : Ctx} {Q : α → Pos → Shared → Prop} {E : Value → Pos → Shared → Prop} {p : Pos} {s : Shared}, I s → Sem.wp M Γ t Q E p s →
    Sem.wp M Γ t (fun a p' s' => I s' ∧ Q a p' s') (fun e p' s' => I s' ∧ E e p' s') p s := by
  induction t with
  | pure a => intro Γ Q E p s hn h; exact ⟨hn, h⟩
  | raise e => intro Γ Q E p s hn h; exact ⟨hn, h⟩
  | unsupported _ => intro Γ Q E p s hn h; exact h
  | finish _ => intro Γ Q E p s hn h; exact h
  | rule _ k ih => intro Γ Q E p s hn h; exact ih () hn h
  | «at» _ k ih => intro Γ Q E p s hn h; exact ih () hn h
  | load a _ k ih => rintro Γ Q E p s hn ⟨o, ho, h⟩; exact ⟨o, ho, ih o hn h⟩
  | update a _ f k ih => rintro Γ Q E p s hn ⟨ho, h⟩; exact ⟨ho, ih () (S.upd _ _ _ ho hn) h⟩
  | alloc o k ih => intro Γ Q E p s hn h; exact ih _ (S.alloc _ _ hn) h
  | loadIfAlive a k ih => intro Γ Q E p s hn h; exact ih _ hn h
  | point _ k ih => intro Γ Q E p s hn h; exact ih () hn h
  | register _ k ih => intro Γ Q E p s hn h; exact h
  | fresh k ih => intro Γ Q E p s hn h; exact ih _ (S.toks _ _ hn) h
  | ask k ih => intro Γ Q E p s hn h; exact ih _ hn h
  | choose src m k ih => rintro Γ Q E p s hn ⟨hm, h⟩; exact ⟨hm, ih _ (S.drawn _ _ hn) h⟩
  | os q _ k ih => intro Γ Q E p s hn h; exact ih _ (S.os _ _ hn) h
  | call c h g l k ih =>
    rintro Γ Q E p s hn ⟨r, s', hr, h⟩
    exact ⟨r, s', hr, ih r (runs_stable S hr hn) h⟩
  | handled own k ih => intro Γ Q E p s hn h; exact ih _ hn h
  | newGen c k ih => intro Γ Q E p s hn h; exact ih _ (S.gens _ _ hn) h
  | genState g k ih => rintro Γ Q E p s hn ⟨st, hs, h⟩; exact ⟨st, hs, ih _ hn h⟩
  | resume g r l k ih =>
    rintro Γ Q E p s hn ⟨res, s', hw, h⟩
    refine ⟨res, s', hw, ih _ ?_ h⟩
    unfold Wakes at hw
    split at hw
    · exact hw.elim
    · split at hw
      · obtain ⟨e, s1, hr, _, _, rfl⟩ := hw; exact S.gens _ _ (runs_stable S hr (S.gens _ _ hn))
      · obtain ⟨_, rfl⟩ := hw; exact hn
      · obtain ⟨_, rfl⟩ := hw; exact S.gens _ _ hn
    · obtain ⟨e, s1, hr, _, _, rfl⟩ := hw; exact S.gens _ _ (runs_stable S hr (S.gens _ _ hn))
    · obtain ⟨_, rfl⟩ := hw; exact hn
    · obtain ⟨_, rfl⟩ := hw; exact hn
  | yield _ _ _ k ih => intro Γ Q E p s hn h; exact h
  | stack k ih => intro Γ Q E p s hn h; exact ih _ hn h
  | fork c k ih => intro Γ Q E p s hn h; exact h
  | thread k ih => intro Γ Q E p s hn h; exact ih _ hn h
  | await _ _ _ _ k ih => intro Γ Q E p s hn h; exact h
theorem wpAny_stable {I : Shared → Prop} (S : Stable I) {α : Type} {M : Model} {A : Around} {t : Sem α} {Q : α → Shared → Prop} {E : Value → Shared → Prop} {s : Shared} (hI : I s) (h : wpAny M A t Q E s) :
    wpAny M A t (fun a s' => I s' ∧ Q a s') (fun e s' => I s' ∧ E e s') s := fun Γ p hΓ => wp_stable S t hI (h Γ p hΓ)
theorem stable_all {ι : Type} {I : ι → Shared → Prop} (S : ∀ i, Stable (I i)) : Stable (fun s => ∀ i, I i s) :=
  ⟨fun s a f h hi i => (S i).upd s a f h (hi i), fun s o hi i => (S i).alloc s o (hi i), fun s n hi i => (S i).toks s n (hi i), fun s n hi i => (S i).gens s n (hi i), fun s n hi i => (S i).drawn s n (hi i), fun s n hi i => (S i).os s n (hi i)⟩
theorem stable_none (a : Addr) : Stable (fun s => a < s.heap.objs.size ∧ s.heap.get? a = none) := by
  refine ⟨fun s b f hs h => ?_, fun s o h => ?_, fun s n h => h, fun s n h => h, fun s n h => h, fun s n h => h⟩
  · have hne : a ≠ b := by rintro rfl; rw [h.2] at hs; cases hs
    exact ⟨by show a < (s.heap.update b f).objs.size; rw [Heap.size_update]; exact h.1, by show (s.heap.update b f).get? a = none; rw [Heap.get?_update_ne _ _ _ _ hne]; exact h.2⟩
  · exact ⟨by show a < (s.heap.push o).objs.size; rw [Heap.size_push]; exact Nat.lt_succ_of_lt h.1, by show (s.heap.push o).get? a = none; rw [Heap.get?_push_ne _ _ _ (Nat.ne_of_lt h.1)]; exact h.2⟩
/-- no freed place is taken again -/
theorem wpAny_fresh {α : Type} {M : Model} {A : Around} {t : Sem α} {Q : α → Shared → Prop} {E : Value → Shared → Prop} {s : Shared} (h : wpAny M A t Q E s) :
    wpAny M A t (fun a s' => (∀ b, s.heap.get? b = none → (∃ o, s'.heap.get? b = some o) → s.heap.objs.size ≤ b) ∧ Q a s') E s := by
  have S := stable_all (ι := { a : Addr // a < s.heap.objs.size ∧ s.heap.get? a = none }) fun i => stable_none i.1
  refine wpAny_mono (wpAny_stable S (fun i => i.2) h) (fun a s' hq => ⟨fun b hb hb' => ?_, hq.2⟩) fun _ _ x => x.2
  rcases Nat.lt_or_ge b s.heap.objs.size with hlt | hge
  · obtain ⟨o, ho⟩ := hb'
    have := (hq.1 ⟨b, hlt, hb⟩).2
    rw [ho] at this; cases this
  · exact hge
end
section
set_option maxRecDepth 100000
set_option maxHeartbeats 4000000
noncomputable def lawDef : List Stmt × Scope := match PySem.Challenge.pw_re0084_01.main.body.getLast? with
  | some (.FunctionDef _ _ body _ _ _ scope _ _ _) => (body, scope)
  | _ => ([], default)
noncomputable def lawSt (k : Nat) : Stmt := (lawDef.1[k]?).getD (.Pass default)
end
section
set_option maxRecDepth 100000
set_option maxHeartbeats 2000000
/-- the end of a turn: what the loop walks on (own) stands, the rest is said by J -/
inductive LEnd (B : Heap) (L : Addr) (J : Nat → (Str → Option Value) → List (Addr × Obj) → Prop) (news own : List (Addr × Obj)) (s₁ s₂ : Shared) : Prop
  | mk (h' : Heap) (tk' : Nat) (gg' : Array GenState) (m' : Str → Option Value) (news' nx : List (Addr × Obj)) (e : s₂ = { s₁ with heap := h', toks := tk', gens := gg' }) (hb : AllBare gg') (F : Fr B L h' m') (N : News B L h' news') (h1 : ∀ p ∈ nx, p ∈ news') (h2 : ∀ p ∈ own, p ∈ news')
    (h3 : ∀ q ∈ nx, q.1 ∈ news.map (·.1) ∨ ∀ p ∈ own, p.1 ≠ q.1) (hJ : J tk' m' nx) : LEnd B L J news own s₁ s₂
noncomputable def LPost (B : Heap) (L : Addr) (J : Nat → (Str → Option Value) → List (Addr × Obj) → Prop) (news own : List (Addr × Obj)) (s₁ : Shared) (Q : Flow → Shared → Prop) (f : Flow) (s₂ : Shared) : Prop :=
  match f with
  | .ret v => Q (.ret v) s₂
  | .brk => Q .next s₂
  | _ => LEnd B L J news own s₁ s₂
section
variable {prog : Program} {w : World} {A : Around} {env : Env} {B : Heap}
theorem law_for {E : Value → Shared → Prop} {Q : Flow → Shared → Prop} {target : Expr} {body : List Stmt} {s : Shared} {I : Addr} {fp wr : List Addr} {n : Nat} {P : Nat → Value → Prop} {St : Nat → Heap → Prop} {m₀ : Str → Option Value} {news₀ : List (Addr × Obj)}
    (J : Nat → Nat → (Str → Option Value) → List (Addr × Obj) → Prop) (hmono : ∀ i tk tk' m news, tk ≤ tk' → J i tk m news → J i tk' m news) (W : Walks prog w A I fp wr n P St) (hB : ∀ b ∈ fp, B.get? b = none) (hLf : env.locals ∉ fp)
    (hSt : ∀ i h, St i h → ∀ b ∈ fp, ∃ o, h.get? b = some o)
    (hgo : ∀ i (s' : Shared) v (Q' : Unit → Shared → Prop), St i s'.heap → Q' () s' → wpAny (model prog w) A (letOwnedTupleGo target (.ref I) v) Q' (fun _ _ => False) s')
    (hst : St 0 s.heap) (F : Fr B env.locals s.heap m₀) (N : News B env.locals s.heap news₀) (hfp : ∀ q ∈ news₀, q.1 ∉ fp) (hg : AllBare s.gens) (hj : J 0 s.toks m₀ news₀)
    (turn : ∀ i v m news h tk gg own, i < n → P i v → OwnOff own (news.map (·.1)) → AllBare gg → J i tk m news → Fr B env.locals h m → News B env.locals h (news ++ own) →
      wpAny (model prog w) A (assign target env v) (fun _ s₂ => wpAny (model prog w) A (execs body env)
        (LPost B env.locals (J (i + 1)) news own { s with heap := h, toks := tk, gens := gg } Q) (fun _ _ => False) s₂) (fun _ _ => False) { s with heap := h, toks := tk, gens := gg })
    (done : ∀ m news h tk gg, AllBare gg → J n tk m news → Fr B env.locals h m → News B env.locals h news → Q .next { s with heap := h, toks := tk, gens := gg }) :
    codeAny (model prog w) A (.forLoop target (.ref I) body [] env) (fun r s' => match r with | .ok f => Q f s' | .error e => cameBackBy (model prog w) A env E e s') s := by
  have hLw : env.locals ∉ wr := fun h => hLf (W.sub _ h)
  have old : ∀ b o, B.get? b = some o → b ∉ wr := fun b o e hb => by rw [hB b (W.sub _ hb)] at e; cases e
  refine codeAny_forLoop_any
    (fun k s' => ∃ h tk gg m news i, s' = { s with heap := h, toks := tk, gens := gg } ∧ AllBare gg ∧ St i h ∧ Fr B env.locals h m ∧ News B env.locals h news ∧ (∀ q ∈ news, q.1 ∉ fp) ∧ J i tk m news ∧ i ≤ n ∧ k = n + 1 - i) ?_ (n + 1)
    ⟨s.heap, s.toks, s.gens, m₀, news₀, 0, rfl, hg, hst, F, N, hfp, hj, Nat.zero_le _, rfl⟩
  rintro k s' ⟨h, tk, gg, m, news, i, rfl, hgg, hst', F', N', hfp', hJ, hi, rfl⟩
  have next : ∀ h₁ : Heap, (∀ b o, b ∉ wr → h.get? b = some o → h₁.get? b = some o) → Fr B env.locals h₁ m ∧ News B env.locals h₁ news := fun h₁ hk₁ =>
    ⟨⟨F'.ns.at' fun o e => hk₁ _ o hLw e, fun b o e => hk₁ b o (old b o e) (F'.keep b o e), F'.above⟩, fun p hp => ⟨hk₁ _ _ (fun hw => hfp' p hp (W.sub _ hw)) (N' p hp).1, (N' p hp).2⟩⟩
  by_cases hlt : i < n
  · refine wpAny_mono (wpAny_toks (W.item i _ (fun r s1 => ∃ v h₁ tk₁, r = some v ∧ s1 = { s with heap := h₁, toks := tk₁, gens := gg } ∧ P i v ∧ St (i + 1) h₁ ∧ ∀ b o, b ∉ wr → h.get? b = some o → h₁.get? b = some o) (fun _ _ => False) hlt hst' fun v h₁ tk₁ hP hst₁ hk₁ => ⟨v, h₁, tk₁, rfl, rfl, hP, hst₁, hk₁⟩)) (fun r s1 hr => ?_) fun _ _ x => x.2.elim
    obtain ⟨htk, v, h₁, tk₁, rfl, rfl, hP, hst₁, hk₁⟩ := hr
    replace hJ := hmono _ _ tk₁ _ _ htk hJ
    show wpAny _ _ _ _ _ _
    obtain ⟨F₁, N₁⟩ := next h₁ hk₁
    have hoff : OwnOff (ownOf B fp h₁) (news.map (·.1)) := by
      intro p hp b hb e
      obtain ⟨q, hq, rfl⟩ := List.mem_map.mp hb
      exact hfp' q hq (e ▸ ownOf_sub p hp)
    have N₂ : News B env.locals h₁ (news ++ ownOf B fp h₁) := fun p hp => (List.mem_append.mp hp).elim (N₁ p) (news_ownOf hLf p)
    refine wpAny_mono (hgo (i + 1) { s with heap := h₁, toks := tk₁, gens := gg } v _ hst₁ ?_) (fun _ _ x => x) fun _ _ x => x.elim
    refine wpAny_mono (turn i v m news h₁ tk₁ gg (ownOf B fp h₁) hlt hP hoff hgg hJ F₁ N₂) (fun _ s₂ h₂ => wpAny_mono h₂ (fun f s₃ h₃ => ?_) fun _ _ x => x.elim) fun _ _ x => x.elim
    have key : LEnd B env.locals (J (i + 1)) news (ownOf B fp h₁) { s with heap := h₁, toks := tk₁, gens := gg } s₃ →
        ∃ k', k' < n + 1 - i ∧ ∃ h tk gg m news i, s₃ = { s with heap := h, toks := tk, gens := gg } ∧ AllBare gg ∧ St i h ∧ Fr B env.locals h m ∧ News B env.locals h news ∧ (∀ q ∈ news, q.1 ∉ fp) ∧ J i tk m news ∧ i ≤ n ∧ k' = n + 1 - i := by
      rintro ⟨h', tk', gg', m', news', nx, rfl, hgg', F₃, N₃, hnx, how, had, hJ'⟩
      refine ⟨n + 1 - (i + 1), by omega, h', tk', gg', m', nx, i + 1, rfl, hgg', ?_, F₃, fun q hq => N₃ q (hnx q hq), ?_, hJ', hlt, rfl⟩
      · refine W.frame _ _ _ hst₁ fun b hb o e => (N₃ _ (how _ (mem_ownOf hb (hB b hb) e))).1
      · intro q hq hf
        rcases had q hq with h1 | h1
        · obtain ⟨r, hr, e⟩ := List.mem_map.mp h1
          exact hfp' r hr (e ▸ hf)
        · obtain ⟨o, ho⟩ := hSt _ _ hst₁ q.1 hf
          exact h1 _ (mem_ownOf hf (hB _ hf) ho) rfl
    cases f with
    | next => exact key h₃
    | cont => exact key h₃
    | brk => exact h₃
    | ret v => exact h₃
  · have hin : i = n := by omega
    subst hin
    refine wpAny_mono (wpAny_toks (W.done _ (fun r s1 => ∃ h₁ tk₁, r = none ∧ s1 = { s with heap := h₁, toks := tk₁, gens := gg } ∧ ∀ b o, b ∉ wr → h.get? b = some o → h₁.get? b = some o) (fun _ _ => False) hst' fun h₁ tk₁ hk₁ => ⟨h₁, tk₁, rfl, rfl, hk₁⟩)) (fun r s1 hr => ?_) fun _ _ x => x.2.elim
    obtain ⟨htk, h₁, tk₁, rfl, rfl, hk₁⟩ := hr
    obtain ⟨F₁, N₁⟩ := next h₁ hk₁
    exact wpAny_execs_nil (done m news h₁ tk₁ gg hgg (hmono _ _ _ _ _ htk hJ) F₁ N₁)

/-- over a list that the call has made -/
theorem law_list {E : Value → Shared → Prop} {Q : Flow → Shared → Prop} {target : Expr} {body : List Stmt} {s : Shared} {l : Addr} {items : Array Value} {c : Nat} {m₀ : Str → Option Value} {news₀ : List (Addr × Obj)}
    (J : Nat → Nat → (Str → Option Value) → List (Addr × Obj) → Prop) (hmono : ∀ i tk tk' m news, tk ≤ tk' → J i tk m news → J i tk' m news) (hh : A.handled = none) (F : Fr B env.locals s.heap m₀) (N : News B env.locals s.heap ((l, W.listOf items c) :: news₀)) (hne : ∀ p ∈ news₀, p.1 ≠ l) (hg : AllBare s.gens) (hj : J 0 s.toks m₀ news₀)
    (turn : ∀ i v m news h tk gg own, items[i]? = some v → OwnOff own (news.map (·.1)) → AllBare gg → J i tk m news → Fr B env.locals h m → News B env.locals h (news ++ own) →
      wpAny (model prog w) A (assign target env v) (fun _ s₂ => wpAny (model prog w) A (execs body env)
        (LPost B env.locals (J (i + 1)) news own { s with heap := h, toks := tk, gens := gg } Q) (fun _ _ => False) s₂) (fun _ _ => False) { s with heap := h, toks := tk, gens := gg })
    (done : ∀ m news h tk gg, AllBare gg → J items.size tk m news → Fr B env.locals h m → News B env.locals h news → Q .next { s with heap := h, toks := tk, gens := gg }) :
    wpAny (model prog w) A (pyIter (.ref l)) (fun it s₂ => codeAny (model prog w) A (.forLoop target it body [] env) (fun r s' => match r with | .ok f => Q f s' | .error e => cameBackBy (model prog w) A env E e s') s₂) E s := by
  obtain ⟨hl, hlL, hlB⟩ := N _ (.head _)
  have hL : s.heap.IsList l items := ⟨_, hl, rfl, _, rfl⟩
  refine wpAny_pyIter_list hL ?_
  have hlt : l < s.heap.objs.size := Heap.lt_size hl
  have hsz : B.objs.size ≤ s.heap.objs.size := Nat.le_of_lt (Nat.lt_of_le_of_lt F.above F.ns.lt)
  have W := Walks.list (prog := prog) (w := w) hh s.heap.objs.size l (Nat.ne_of_lt hlt) items
  refine law_for (s := { s with heap := s.heap.push { cls := .type "list_iterator", data := .fields #[.ref l, .int 0 0] } }) J hmono W ?_ ?_ ?_ (fun i s' v Q' st hQ => letGo_listiter st.1 hQ) ⟨⟨_, Heap.get?_push_size _ rfl, rfl, rfl⟩, hL.at fun o e => Heap.get?_push_of_some _ e⟩ (F.push _)
    (fun p hp => ⟨Heap.get?_push_of_some _ (N p (.tail _ hp)).1, (N p (.tail _ hp)).2⟩) ?_ hg hj ?_ ?_
  · intro b hb
    rcases List.mem_cons.mp hb with rfl | hb
    · exact Heap.get?_none_of_le hsz
    · rw [List.mem_singleton.mp hb]; exact hlB
  · intro hm
    rcases List.mem_cons.mp hm with e | hm
    · exact absurd F.ns.lt (e ▸ Nat.lt_irrefl _)
    · exact hlL (List.mem_singleton.mp hm).symm
  · rintro i h ⟨⟨o1, h1, _⟩, ⟨o2, h2, _⟩⟩ b hb
    rcases List.mem_cons.mp hb with rfl | hb
    · exact ⟨_, h1⟩
    · rw [List.mem_singleton.mp hb]; exact ⟨_, h2⟩
  · intro q hq hm
    rcases List.mem_cons.mp hm with e | hm
    · exact absurd (Heap.lt_size (N q (.tail _ hq)).1) (e ▸ Nat.lt_irrefl _)
    · exact hne q hq (List.mem_singleton.mp hm)
  · intro i v m news h tk gg own _ hv ho hgg hJ F1 N1
    exact turn i v m news h tk gg own hv ho hgg hJ F1 N1
  · intro m news h tk gg hgg hJ F1 N1
    exact done m news h tk gg hgg hJ F1 N1
/-- over a range by ones -/
theorem law_range {E : Value → Shared → Prop} {Q : Flow → Shared → Prop} {target : Expr} {body : List Stmt} {s : Shared} {r : Addr} {a b : Int} {t u v : Tok} {n : Nat} {m₀ : Str → Option Value} {news₀ : List (Addr × Obj)}
    (J : Nat → Nat → (Str → Option Value) → List (Addr × Obj) → Prop) (hmono : ∀ i tk tk' m news, tk ≤ tk' → J i tk m news → J i tk' m news) (hh : A.handled = none) (hr : IsRange s.heap r a b 1 t u v) (hsmall : Builtin.Range.small a b 1 = true) (hn : Builtin.Range.rangeSize a b 1 = (n : Int)) (F : Fr B env.locals s.heap m₀) (N : News B env.locals s.heap news₀) (hg : AllBare s.gens) (hj : J 0 s.toks m₀ news₀)
    (turn : ∀ i t m news h tk gg own, i < n → OwnOff own (news.map (·.1)) → AllBare gg → J i tk m news → Fr B env.locals h m → News B env.locals h (news ++ own) →
      wpAny (model prog w) A (assign target env (.int (a + (i : Int)) t)) (fun _ s₂ => wpAny (model prog w) A (execs body env)
        (LPost B env.locals (J (i + 1)) news own { s with heap := h, toks := tk, gens := gg } Q) (fun _ _ => False) s₂) (fun _ _ => False) { s with heap := h, toks := tk, gens := gg })
    (done : ∀ m news h tk gg, AllBare gg → J n tk m news → Fr B env.locals h m → News B env.locals h news → Q .next { s with heap := h, toks := tk, gens := gg }) :
    wpAny (model prog w) A (pyIter (.ref r)) (fun it s₂ => codeAny (model prog w) A (.forLoop target it body [] env) (fun r s' => match r with | .ok f => Q f s' | .error e => cameBackBy (model prog w) A env E e s') s₂) E s := by
  refine wpAny_pyIter_range hr hsmall ?_
  have hsz : B.objs.size ≤ s.heap.objs.size := Nat.le_of_lt (Nat.lt_of_le_of_lt F.above F.ns.lt)
  have W := Walks.range (prog := prog) (w := w) (A := A) hh s.heap.objs.size a 1 n
  refine law_for (s := { s with heap := s.heap.push { cls := .type "range_iterator", data := .fields #[rawInt a, rawInt (Builtin.Range.rangeSize a b 1), rawInt 1] } }) J hmono W ?_ ?_ ?_ ?_ (by show IsRangeIter _ _ _ _ _; rw [hn]; simpa using Heap.get?_push_size _ rfl) (F.push _)
    (fun p hp => ⟨Heap.get?_push_of_some _ (N p hp).1, (N p hp).2⟩) ?_ hg hj ?_ ?_
  · intro b hb
    rw [List.mem_singleton.mp hb]; exact Heap.get?_none_of_le hsz
  · intro hm
    exact absurd F.ns.lt ((List.mem_singleton.mp hm) ▸ Nat.lt_irrefl _)
  · intro i h h1 b hb
    rw [List.mem_singleton.mp hb]; exact ⟨_, h1⟩
  · intro i s' v Q' hit h
    unfold letOwnedTupleGo
    cases target <;> first
      | exact wpAny_pure h
      | (cases v <;> first
          | exact wpAny_pure h
          | (refine wpAny_bind (wpAny_load hit ?_)
             exact wpAny_pure h))
  · intro q hq hm
    exact absurd (Heap.lt_size (N q hq).1) ((List.mem_singleton.mp hm) ▸ Nat.lt_irrefl _)
  · rintro i v m news h tk gg own hi ⟨t, rfl⟩ ho hgg hJ F1 N1
    rw [Int.mul_one]
    exact turn i t m news h tk gg own hi ho hgg hJ F1 N1
  · intro m news h tk gg hgg hJ F1 N1
    exact done m news h tk gg hgg hJ F1 N1
end
end
local macro_rules | `(tactic| k_all) => `(tactic| assumption)
section
set_option maxRecDepth 100000
set_option maxHeartbeats 4000000
noncomputable def Hold3 (p : Prop) : Prop := p
theorem hold3 {p : Prop} (h : Hold3 p) : p := h
theorem rowsW30 : True := by
  k_with_none
  k_with "exec For Name List cons nil" => (refine hold3 ?_)
  k_with "pyIter ref" => (refine hold3 ?_)
  trivial
noncomputable abbrev lawE (L fa : Addr) (cd : Value) : Env := envX (Str.ofString "law") lawDef.2 L fa cd [(Str.ofString "between", L + 1 + 1 + 1), (Str.ofString "over", L + 1 + 1), (Str.ofString "j", L + 1)]
noncomputable def orderJ : List Int := [0, 3, 6, 1, 4, 7, 2, 5]
noncomputable abbrev Col := UInt64 × UInt64 × UInt64
noncomputable def IsCol (c : Col) (n n' : Nat) (o : Obj) : Prop := ∃ t u v : Nat, o = { cls := .type "tuple", data := .seq #[.float c.1 t, .float c.2.1 u, .float c.2.2 v] } ∧ n ≤ t ∧ t < n' ∧ 0 < t ∧ 0 < u ∧ 0 < v
theorem IsCol.mono {c : Col} {n n' k k' : Nat} {o : Obj} (h : IsCol c n n' o) (h1 : k ≤ n) (h2 : n' ≤ k') : IsCol c k k' o := by
  obtain ⟨t, u, v, e, a, b, r⟩ := h
  exact ⟨t, u, v, e, Nat.le_trans h1 a, Nat.lt_of_lt_of_le b h2, r⟩
inductive ColsAre (col : Int → Col) : List (Addr × Obj) → List Int → Nat → Prop
  | nil {n} : ColsAre col [] [] n
  | snoc {ts js p j n n'} : ColsAre col ts js n → IsCol (col j) n n' p.2 → ColsAre col (ts ++ [p]) (js ++ [j]) n'
theorem ColsAre.mono {col : Int → Col} {ts : List (Addr × Obj)} {js : List Int} {n n' : Nat} (h : ColsAre col ts js n) (hn : n ≤ n') : ColsAre col ts js n' := by
  cases h with
  | nil => exact .nil
  | snoc h1 h2 =>
    obtain ⟨t, u, v, e, h3, h4, r⟩ := h2
    exact .snoc h1 ⟨t, u, v, e, h3, Nat.lt_of_lt_of_le h4 hn, r⟩
theorem ColsAre.length {col : Int → Col} {ts : List (Addr × Obj)} {js : List Int} {n : Nat} (h : ColsAre col ts js n) : ts.length = js.length := by
  induction h with
  | nil => rfl
  | snoc _ _ ih => simp [ih]
noncomputable def hueOf (k : Int) : UInt64 := hues.getD k.toNat 0
noncomputable def shareOf (d : Int) : UInt64 := shares.getD d.toNat 0
noncomputable def valOf (e : Int) : UInt64 := vals.getD e.toNat 0
theorem frac16 : ((List.range 16).all fun k => decide (Float64.ofFrac false k 16 = hues.getD k 0) && !Float64.isInf (hues.getD k 0)) = true := by decide +kernel
theorem frac4 : ((List.range 4).all fun k => decide (Float64.ofFrac false (k + 1) 4 = shares.getD k 0) && !Float64.isInf (shares.getD k 0)) = true := by decide +kernel

theorem fdiv_in {x : Int} (h : 0 ≤ x ∧ x < 8) : 0 ≤ x.fdiv 2 ∧ x.fdiv 2 < 4 := by
  rw [Int.fdiv_eq_ediv_of_nonneg _ (by decide)]; omega
section
variable {prog : Program} {w : World} {A : Around} {E : Value → Shared → Prop} {s : Shared}
theorem div16 {k : Int} {t u : Tok} {Q : Value → Shared → Prop} (hh : A.handled = none) (h0 : 0 ≤ k) (h1 : k < 16) (h : Q (.float (hueOf k) s.toks) { s with toks := s.toks + 1 }) :
    wpAny (model prog w) A (binaryOp .Div (.int k t) (.int 16 u)) Q E s := by
  have hk := List.all_eq_true.mp frac16 k.toNat (List.mem_range.mpr (by omega))
  simp only [Bool.and_eq_true, decide_eq_true_eq, Bool.not_eq_true'] at hk
  have e1 : (decide (k < 0) != decide ((16 : Int) < 0)) = false := by rw [decide_eq_false (by omega)]; rfl
  have e2 : k.natAbs = k.toNat := by omega
  have e : Float64.ofFrac (decide (k < 0) != decide ((16 : Int) < 0)) k.natAbs (16 : Int).natAbs = hueOf k := by rw [e1, e2]; exact hk.1
  refine Flt.div_ii hh (fun h => absurd h (by decide)) (fun _ hi => ?_) (fun _ _ => ?_)
  · rw [e] at hi; rw [show Float64.isInf (hueOf k) = false from hk.2] at hi; cases hi
  · rw [e]; exact h
theorem div4 {k : Int} {t u : Tok} {Q : Value → Shared → Prop} (hh : A.handled = none) (h0 : 0 ≤ k) (h1 : k < 4) (h : Q (.float (shareOf k) s.toks) { s with toks := s.toks + 1 }) :
    wpAny (model prog w) A (binaryOp .Div (.int (k + 1) t) (.int 4 u)) Q E s := by
  have hk := List.all_eq_true.mp frac4 k.toNat (List.mem_range.mpr (by omega))
  simp only [Bool.and_eq_true, decide_eq_true_eq, Bool.not_eq_true'] at hk
  have e1 : (decide (k + 1 < 0) != decide ((4 : Int) < 0)) = false := by rw [decide_eq_false (by omega)]; rfl
  have e2 : (k + 1).natAbs = k.toNat + 1 := by omega
  have e : Float64.ofFrac (decide (k + 1 < 0) != decide ((4 : Int) < 0)) (k + 1).natAbs (4 : Int).natAbs = shareOf k := by rw [e1, e2]; exact hk.1
  refine Flt.div_ii hh (fun h => absurd h (by decide)) (fun _ hi => ?_) (fun _ _ => ?_)
  · rw [e] at hi; rw [show Float64.isInf (shareOf k) = false from hk.2] at hi; cases hi
  · rw [e]; exact h
end
theorem rowsW31 : True := by
  k_with "binaryOp Div int int" => (k_here; first | (with_reducible show wpAny _ _ (binaryOp _ (Value.int _ _) (Value.int 16 _)) _ _ _; refine div16 rfl ?h0 ?h1 ?_; (case h0 => (have hfm := fmod_in; first | omega | exact Int.add_nonneg (by omega) (fmod_in _ (by decide)).1)); (case h1 => exact Int.lt_of_lt_of_le (Int.add_lt_add_left (fmod_in _ (by decide)).2 _) (by omega))) | (with_reducible show wpAny _ _ (binaryOp _ (Value.int _ _) (Value.int 4 _)) _ _ _; refine div4 rfl ?h0 ?h1 ?_; (case h0 => omega); (case h1 => omega)))
  trivial
theorem new_at {B h h' : Heap} {L : Addr} {m : Str → Option Value} {news : List (Addr × Obj)} {a : Addr} {o : Obj} (F : Fr B L h m) (N : News B L h news) (hk : ∀ b o, h.get? b = some o → h'.get? b = some o) (ha : h'.get? a = some o) (hn : h.get? a = none) :
    Fr B L h' m ∧ News B L h' ((a, o) :: news) ∧ ∀ p ∈ news, @Ne Nat p.1 a := by
  refine ⟨F.grownK hk, ?_, fun p hp e => ?_⟩
  · intro p hp
    rcases List.mem_cons.mp hp with rfl | hp
    · refine ⟨ha, ?_, ?_⟩
      · rintro rfl
        obtain ⟨oL, _, _, hL, _⟩ := F.ns
        rw [hn] at hL; cases hL
      · cases hq : B.get? a with
        | none => rfl
        | some o' => have := F.keep _ _ hq; rw [hn] at this; cases this
    · exact ⟨hk _ _ (N p hp).1, (N p hp).2⟩
  · have := (N p hp).1
    rw [show p.1 = a from e, hn] at this
    cases this
structure RgbIs (x y z h s v : UInt64) : Prop where
  ok : rgbOk x y z = true
  eq : rgbF x y z = (h, s, v)
section
variable {w : World} {E : Value → Shared → Prop} {s : Shared} {B : Heap} {L : Addr} {m : Str → Option Value} {news : List (Addr × Obj)} {mean : ExcName → Option Value} {mg mb : Str → Option Value}
theorem hsv_K {h sh v : UInt64} {th ts tv : Nat} {Q : Value → Shared → Prop} (F : Fr B L s.heap m) (N : News B L s.heap news) (hK : (hd.heap_39 w.params).In B) (hT : Top hd.view_39 (looseW hd.view_39 []) mean mg mb B) (hc : colOk h sh v = true) (h1 : 0 < th) (h2 : 0 < ts) (h3 : 0 < tv) (h0 : 0 < s.toks)
    (hq : ∀ a x y z, ∀ t u r : Nat, ∀ h', ∀ tk' : Nat, RgbIs x y z h sh v → 0 < t → 0 < u → 0 < r → s.toks ≤ tk' → Fr B L h' m → News B L h' ((a, { cls := .type "tuple", data := .seq #[.float x t, .float y u, .float z r] }) :: news) → (∀ p ∈ news, @Ne Nat p.1 a) → Q (.ref a) { s with heap := h', toks := tk' }) :
    wpAny (model Challenge.rw_re0084_01.prog w) (AA 305 30) (call (.ref 49) [.float h th, .float sh ts, .float v tv]) Q E s := by
  simp only [colOk, Bool.and_eq_true, decide_eq_true_eq] at hc
  refine wpAny_wk (wpAny_mono (wpAny_toks (hsv_ctrT w h sh v th ts tv hc.1.1 h1 h2 h3 mean mg mb s (fun v' s' => ∃ h' tk', s' = { s with heap := h', toks := tk' } ∧ (∀ b o, s.heap.get? b = some o → h'.get? b = some o) ∧ NewTupT s.heap (hsvF h sh v) v' h') (fun _ _ => False) (hK.keeps F.keep) (hT.keeps F.keep) h0 ?_)) ?_ (fun _ _ x => x.2.elim)) rfl (Nat.le_of_ble_eq_true rfl) rfl rfl (Nat.le_of_ble_eq_true rfl)
  · exact fun v' h' tk' hk hn => ⟨h', tk', rfl, hk, hn⟩
  · rintro _ _ ⟨hle, h', tk', rfl, hk, a, x, y, z, t, u, r, rfl, ha, hn, e, ht, hu, hr⟩
    obtain ⟨F1, N1, l1⟩ := new_at F N hk ha hn
    rw [← e] at hc
    exact hq a x y z t u r h' tk' ⟨hc.1.2, hc.2⟩ ht hu hr hle F1 N1 l1
theorem rgb_K {h sh v x y z : UInt64} {th ts tv : Nat} {Q : Value → Shared → Prop} (F : Fr B L s.heap m) (N : News B L s.heap news) (hK : (hd.heap_39 w.params).In B) (hT : Top hd.view_39 (looseW hd.view_39 []) mean mg mb B) (hr : RgbIs x y z h sh v) (h1 : 0 < th) (h2 : 0 < ts) (h3 : 0 < tv) (h0 : 0 < s.toks)
    (hq : ∀ a oT h', ∀ tk' : Nat, s.toks ≤ tk' → IsCol (h, sh, v) s.toks tk' oT → Fr B L h' m → News B L h' ((a, oT) :: news) → (∀ p ∈ news, @Ne Nat p.1 a) → Q (.ref a) { s with heap := h', toks := tk' }) :
    wpAny (model Challenge.rw_re0084_01.prog w) (AA 305 30) (call (.ref 42) [.float x th, .float y ts, .float z tv]) Q E s := by
  obtain ⟨hc, he⟩ := hr
  refine wpAny_wk (rgb_ctrT w x y z th ts tv hc h1 h2 h3 mean mg mb s Q E (hK.keeps F.keep) (hT.keeps F.keep) h0 ?_) rfl (Nat.le_of_ble_eq_true rfl) rfl rfl (Nat.le_of_ble_eq_true rfl)
  rintro _ h' tk' hk ⟨a, x1, y1, z1, t, u, r, rfl, ha, hn, e, ht, ht', hu, hr⟩
  obtain ⟨F1, N1, l1⟩ := new_at F N hk ha hn
  rw [he] at e
  cases e
  exact hq a _ h' tk' (Nat.le_of_lt (Nat.lt_of_le_of_lt ht ht')) ⟨t, u, r, rfl, ht, ht', Nat.lt_of_lt_of_le h0 ht, hu, hr⟩ F1 N1 l1
end
theorem getD_mem {l : List UInt64} {k : Nat} (h : k < l.length) : l.getD k 0 ∈ l := by
  rw [List.getD_eq_getElem?_getD, List.getElem?_eq_getElem h]
  exact List.getElem_mem h
theorem col_at {k d : Int} {v : UInt64} (h0 : 0 ≤ k) (h1 : k < 16) (h2 : 0 ≤ d) (h3 : d < 4) (hv : v = 4607182418800017408 ∨ v = 4602678819172646912) : colOk (hueOf k) (shareOf d) v = true := by
  have e1 := List.all_eq_true.mp col_ok (hueOf k) (getD_mem (by show k.toNat < 16; omega))
  have e2 := List.all_eq_true.mp e1 (shareOf d) (getD_mem (by show d.toNat < 4; omega))
  refine List.all_eq_true.mp e2 v ?_
  rcases hv with rfl | rfl
  · exact .head _
  · exact .tail _ (.head _)
theorem cmp_hues : (hues.all fun x => Float64.cmp x x == some Ordering.eq) = true := by decide +kernel
theorem cmp_shares : (shares.all fun x => Float64.cmp x x == some Ordering.eq) = true := by decide +kernel
theorem cmp_vals : (vals.all fun x => Float64.cmp x x == some Ordering.eq) = true := by decide +kernel
theorem tok_ne {t u : Nat} (h : 0 < t) (h' : 0 < u) : (t == 0 || u == 0) = false := by
  rw [beq_eq_false_iff_ne.mpr (Nat.ne_of_gt h), beq_eq_false_iff_ne.mpr (Nat.ne_of_gt h')]; rfl
theorem ne_cols {prog : Program} {w : World} {A : Around} {E : Value → Shared → Prop} {s : Shared} {k d : Int} {v : UInt64} {a b : Addr} {oT : Obj} {n n' : Nat} {u1 u2 u3 : Nat} {Q : Value → Shared → Prop} (ha : s.heap.get? a = some oT)
    (hb : s.heap.get? b = some { cls := .type "tuple", data := .seq #[.float (hueOf k) u1, .float (shareOf d) u2, .float v u3] }) (hN : NoneBooked s.heap) (hu : A.units < cLine)
    (h0 : 0 ≤ k) (h1 : k < 16) (h2 : 0 ≤ d) (h3 : d < 4) (hv : v = 4607182418800017408 ∨ v = 4602678819172646912)
    (hcT : IsCol (hueOf k, shareOf d, v) n n' oT) (e4 : 0 < u1) (e5 : 0 < u2) (e6 : 0 < u3) (h : Q (.bool false) s) :
    wpAny (model prog w) A (compareOp .NotEq (.ref a) (.ref b)) Q E s := by
  obtain ⟨t1, t2, t3, rfl, _, _, e1, e2, e3⟩ := hcT
  refine ne_tups ha hb hN hu (List.all_eq_true.mp cmp_hues _ (getD_mem (by show k.toNat < 16; omega))) (List.all_eq_true.mp cmp_shares _ (getD_mem (by show d.toNat < 4; omega))) (List.all_eq_true.mp cmp_vals v ?_) (tok_ne e1 e4) (tok_ne e2 e5) (tok_ne e3 e6) h
  rcases hv with rfl | rfl
  · exact .head _
  · exact .tail _ (.head _)
theorem rowsW32 : True := by
  k_with "execs cons" => first | (dsimp only; walk_at "T9") | (walk_at "T9") | (dsimp only)
  k_with "execs nil" => first | (dsimp only; walk_at "T9") | (walk_at "T9") | (dsimp only)
  k_with "compareOp NotEq ref ref" => (k_here; k_dflt (refine ne_cols (News.get ‹News _ _ _ _› (by k_mem)) (News.get ‹News _ _ _ _› (by k_mem)) (none_booked_of (Frag.In.keeps (by k_asm) (Fr.keep ‹Fr _ _ _ _›)) (Top.keeps (by k_asm) (Fr.keep ‹Fr _ _ _ _›))) (Nat.le_of_ble_eq_true rfl) ?h0 ?h1 ?h2 ?h3 (by with_reducible assumption) (by with_reducible assumption) ?e4 ?e5 ?e6 ?_; (case h0 => exact Int.add_nonneg (by omega) (fmod_in _ (by decide)).1); (case h1 => exact Int.lt_of_lt_of_le (Int.add_lt_add_left (fmod_in _ (by decide)).2 _) (by omega)); (case h2 => omega); (case h3 => omega); (case e4 => omega); (case e5 => omega); (case e6 => omega)))
  k_with "call ref" => (k_here; (with_reducible show wpAny _ _ (call (Value.ref 49) [Value.float _ _, Value.float _ _, Value.float _ _]) _ _ _); (rename Fr _ _ _ _ => F'); (rename News _ _ _ _ => N'); k_dflt (refine hsv_K F' N' (by k_asm) (by k_asm) (col_at ?h0 ?h1 ?h2 ?h3 (by with_reducible assumption)) ?h4 ?h5 ?h6 ?h7 ?_; (case h0 => exact Int.add_nonneg (by omega) (fmod_in _ (by decide)).1); (case h1 => exact Int.lt_of_lt_of_le (Int.add_lt_add_left (fmod_in _ (by decide)).2 _) (by omega)); (case h2 => omega); (case h3 => omega); (case h4 => omega); (case h5 => omega); (case h6 => omega); (case h7 => (dsimp only; omega))); clear F' N'; intro _ _ _ _ _ _ _ _ _ _ _ _ _ htk' F' N' l1; (try dsimp only at htk'); (try simp only [List.forall_mem_cons] at l1); (revert htk' F' N' l1; intro _ _ _ _); (try dsimp only))
  k_with "call ref" => (k_here; (with_reducible show wpAny _ _ (call (Value.ref 42) [Value.float _ _, Value.float _ _, Value.float _ _]) _ _ _); (rename Fr _ _ _ _ => F'); (rename News _ _ _ _ => N'); k_dflt (refine rgb_K F' N' (by k_asm) (by k_asm) (by with_reducible assumption) ?h4 ?h5 ?h6 ?h7 ?_; (case h4 => omega); (case h5 => omega); (case h6 => omega); (case h7 => (dsimp only; omega))); clear F' N'; intro _ _ _ _ htk' hcT' F' N' l1; (try dsimp only at htk' hcT'); (try simp only [List.forall_mem_cons] at l1); (revert htk' hcT' F' N' l1; intro _ _ _ _ _); (try dsimp only))
  trivial
noncomputable def colOf (sums ends : List Int) (j : Int) : Col := (hueOf (2 * j + (sums.getD j.toNat 0).fmod 2), shareOf ((ends.getD j.toNat 0).fdiv 2), if (ends.getD j.toNat 0).fmod 2 = 0 then 4607182418800017408 else 4602678819172646912)
noncomputable def FloatAt (x : UInt64) (s : Shared) (v : Value) (s' : Shared) : Prop := ∃ t tk : Nat, v = .float x t ∧ s' = { s with toks := tk } ∧ s.toks ≤ t ∧ t < tk
theorem if_cut {M : Model} {A : Around} {e : Expr} {env : Env} {E Q : Value → Shared → Prop} {s : Shared} (x : UInt64)
    (h1 : wpAny M A (eval e env) (FloatAt x s) (fun _ _ => False) s)
    (h2 : ∀ t tk : Nat, s.toks ≤ t → t < tk → Q (.float x t) { s with toks := tk }) : wpAny M A (eval e env) Q E s := by
  refine wpAny_mono h1 (fun v s' h => ?_) fun _ _ h => h.elim
  obtain ⟨t, tk, rfl, rfl, a, b⟩ := h
  exact h2 t tk a b
structure NoHold3 : Prop where
theorem rowsW33 : True := by
  k_with "eval IfExp" => ((fail_if_success (have nh9 : NoHold3 := by with_reducible assumption)); refine hold3 ?_)
  trivial
inductive CJ3 (L : Nat) (S En Se : Nat) (us ue : List Value) (n1 n2 : Nat) (col : Int → Col) (i tk : Nat) (m : Str → Option Value) (news : List (Addr × Obj)) : Prop
  | mk (o1 o2 o3 : Obj) (v1 v2 v3 : Option Value) (tups : List (Addr × Obj)) (n3 : Nat) (hn : news = (Se, W.listOf ((tups : List (Addr × Obj)).map fun p => Value.ref p.1).toArray n3) :: (En, W.listOf ue.toArray n2) :: (S, W.listOf us.toArray n1) :: (L + 1 + 1 + 1, o3) :: (L + 1 + 1, o2) :: (L + 1, o1) :: tups)
    (d1 : o1.data = .cell v1) (d2 : o2.data = .cell v2) (d3 : o3.data = .cell v3) (hc : ColsAre col tups (orderJ.take i) tk) (ht : 0 < tk) (hl : ∀ p ∈ tups, ∀ b ∈ ([Se, En, S, L + 1 + 1 + 1, L + 1 + 1, L + 1] : List Nat), @Ne Nat p.1 b)
    (hm : ∀ p ∈ [(Str.ofString "sums", Value.ref S), (Str.ofString "ends", Value.ref En), (Str.ofString "seen", Value.ref Se)], m p.1 = some p.2) : CJ3 L S En Se us ue n1 n2 col i tk m news
theorem order_at {t0 t1 t2 t3 t4 t5 t6 t7 : Tok} {i : Nat} {v : Value} (h : (#[Value.int 0 t0, .int 3 t1, .int 6 t2, .int 1 t3, .int 4 t4, .int 7 t5, .int 2 t6, .int 5 t7] : Array Value)[i]? = some v) : ∃ j t, v = .int j t ∧ orderJ[i]? = some j ∧ 0 ≤ j ∧ j < 8 := by
  match i, h with
  | 0, h => cases h; exact ⟨_, _, rfl, rfl, by decide, by decide⟩
  | 1, h => cases h; exact ⟨_, _, rfl, rfl, by decide, by decide⟩
  | 2, h => cases h; exact ⟨_, _, rfl, rfl, by decide, by decide⟩
  | 3, h => cases h; exact ⟨_, _, rfl, rfl, by decide, by decide⟩
  | 4, h => cases h; exact ⟨_, _, rfl, rfl, by decide, by decide⟩
  | 5, h => cases h; exact ⟨_, _, rfl, rfl, by decide, by decide⟩
  | 6, h => cases h; exact ⟨_, _, rfl, rfl, by decide, by decide⟩
  | 7, h => cases h; exact ⟨_, _, rfl, rfl, by decide, by decide⟩
  | n + 8, h => cases h
theorem tups_push {tups : List (Addr × Obj)} {p : Addr × Obj} : (tups.map fun p => Value.ref p.1).toArray.push (.ref p.1) = ((tups ++ [p]).map fun p => Value.ref p.1).toArray := by simp
noncomputable abbrev cellOf {o : Obj} {v : Data} (_ : o.data = v) : Obj := o
theorem isCol_of {sums ends : List Int} {j : Int} {n n' k k' : Nat} {o : Obj} {x : UInt64} (h : IsCol (hueOf (2 * j + (sums.getD j.toNat 0).fmod 2), shareOf ((ends.getD j.toNat 0).fdiv 2), x) n n' o) (hx : x = if (ends.getD j.toNat 0).fmod 2 = 0 then 4607182418800017408 else 4602678819172646912) (h1 : k ≤ n) (h2 : n' ≤ k') : IsCol (colOf sums ends j) k k' o := by
  subst hx; exact h.mono h1 h2
theorem st3 (w : World) (L : Nat) (fa : Addr) (cd : Value) (B : Heap) (mean : ExcName → Option Value) (mg mb : Str → Option Value) (s : Shared) (Q : Flow → Shared → Prop)
    (hK : (hd.heap_39 w.params).In B) (hT : Top hd.view_39 (looseW hd.view_39 []) mean mg mb B) (hG : AllBare s.gens)
    (S En Se : Nat) (us ue : List Value) (n1 n2 n3 : Nat) (sums ends : List Int) (hs : IntsAre us sums) (he : IntsAre ue ends) (hsl : sums.length = 8) (hel : ends.length = 8) (he8 : ∀ i, 0 ≤ ends.getD i 0 ∧ ends.getD i 0 < 8)
    (o1 o2 o3 : Obj) (v1 v2 v3 : Option Value) (d1 : o1.data = .cell v1) (d2 : o2.data = .cell v2) (d3 : o3.data = .cell v3) (m : Str → Option Value)
    (hm : ∀ p ∈ [(Str.ofString "sums", Value.ref S), (Str.ofString "ends", Value.ref En), (Str.ofString "seen", Value.ref Se)], m p.1 = some p.2)
    (l1 : L + 3 < S) (l2 : S < En) (l3 : En < Se)
    (F : Fr B L s.heap m) (N : News B L s.heap [(Se, W.listOf #[] n3), (En, W.listOf ue.toArray n2), (S, W.listOf us.toArray n1), (L + 1 + 1 + 1, o3), (L + 1 + 1, o2), (L + 1, o1)])
    (h0 : 0 < s.toks)
    (hret : ∀ h' tk' gg' m' o1 o2 o3 v1 v2 v3 tups n3, AllBare gg' → Fr B L h' m' → News B L h' ((Se, W.listOf ((tups : List (Addr × Obj)).map fun p => Value.ref p.1).toArray n3) :: (En, W.listOf ue.toArray n2) :: (S, W.listOf us.toArray n1) :: (L + 1 + 1 + 1, o3) :: (L + 1 + 1, o2) :: (L + 1, o1) :: tups) → o1.data = .cell v1 → o2.data = .cell v2 → o3.data = .cell v3 →
      ColsAre (colOf sums ends) tups orderJ tk' → (∀ p ∈ tups, ∀ b ∈ ([Se, En, S, L + 1 + 1 + 1, L + 1 + 1, L + 1] : List Nat), @Ne Nat p.1 b) → (∀ p ∈ [(Str.ofString "sums", Value.ref S), (Str.ofString "ends", Value.ref En), (Str.ofString "seen", Value.ref Se)], m' p.1 = some p.2) → Q .next { s with heap := h', toks := tk', gens := gg' }) :
    wpAny (model Challenge.rw_re0084_01.prog w) (AA 305 30) (exec (lawSt 3) (lawE L fa cd)) Q (fun _ _ => False) s := by
  revert hK
  k_fill
  intro hK
  show wpAny _ _ (exec (Stmt.For _ _ _ _ _) _) _ _ _
  k_steps
  unfold Hold3
  refine wpAny_For ?_ (fun _ => rfl)
  k_steps
  unfold Hold3
  rename Fr _ _ _ _ => F1
  rename News _ _ _ _ => N1
  refine law_list (CJ3 L S En Se us ue n1 n2 (colOf sums ends)) ?hmono rfl F1 N1 ?hne hG ?hj ?turn ?done
  case hmono =>
    rintro i tk tk' m news hle ⟨o1, o2, o3, v1, v2, v3, tups, n3, h1, h2, h3, h4, h5, h6, h7, h8⟩
    exact ⟨o1, o2, o3, v1, v2, v3, tups, n3, h1, h2, h3, h4, h5.mono hle, Nat.lt_of_lt_of_le h6 hle, h7, h8⟩
  case hne => k_all
  case hj =>
    refine ⟨o1, o2, o3, v1, v2, v3, [], n3, rfl, d1, d2, d3, .nil, ?_, (fun _ h => nomatch h), hm⟩
    dsimp only; omega
  case turn =>
    clear F1 N1
    intro i v m news h tk gg own hv ho hgg hJ F1 N1
    obtain ⟨o1, o2, o3, v1, v2, v3, tups, n3, rfl, d1, d2, d3, hcol, htk0, hlt, hm⟩ := hJ
    replace F1 := fr_with F1 _ hm
    dsimp only [withK] at F1
    have hj : ∃ j t, v = .int j t ∧ orderJ[i]? = some j ∧ 0 ≤ j ∧ j < 8 := order_at hv
    obtain ⟨j, tj, rfl, hj, hj0, hj1⟩ := hj
    have hq1 : ∀ p ∈ tups ++ own, p.1 ≠ Se := fun p hp => (List.mem_append.mp hp).elim (fun h => hlt p h Se (.head _)) fun h => ho p h Se (.head _)
    have hq2 : ∀ p ∈ tups ++ own, p.1 ≠ L + 1 := fun p hp => (List.mem_append.mp hp).elim (fun h => hlt p h (L + 1) (.tail _ (.tail _ (.tail _ (.tail _ (.tail _ (.head _))))))) fun h => ho p h (L + 1) (.tail _ (.tail _ (.tail _ (.tail _ (.tail _ (.head _))))))
    clear ho
    simp only [List.cons_append] at N1
    generalize hrest : tups ++ own = rest at N1 hq1 hq2
    have h8 := he8 j.toNat
    have h8d := fdiv_in h8
    have h8m := fmod_in (ends.getD j.toNat 0) (show (0 : Int) < 2 by decide)
    have hsz : (List.map (fun p : Addr × Obj => Value.ref p.1) tups).toArray.size ≤ 8 := by
      have e := hcol.length
      simp only [List.size_toArray, List.length_map, e, List.length_take]
      have : orderJ.length = 8 := rfl
      omega
    dsimp only
    k_steps
    unfold Hold3
    dsimp only
    obtain ⟨vv, hvv⟩ : ∃ vv : UInt64, vv = if (ends.getD j.toNat 0).fmod 2 = 0 then 4607182418800017408 else 4602678819172646912 := ⟨_, rfl⟩
    have hv2 : vv = 4607182418800017408 ∨ vv = 4602678819172646912 := by
      rw [hvv]
      split
      · exact .inl rfl
      · exact .inr rfl
    refine if_cut vv ?_ ?_
    · have nh : NoHold3 := ⟨⟩
      clear hcol htk0 hlt hm hq1 hq2 hret hsz hv2
      k_steps
      · exact ⟨_, _, by rw [hvv, if_pos (by with_reducible assumption)], rfl, by dsimp only; omega, Nat.lt_succ_self _⟩
      · exact ⟨_, _, by rw [hvv, if_neg (by with_reducible assumption)], rfl, by dsimp only; omega, Nat.lt_succ_self _⟩
    intro tv tk9 htv htk9'
    (try dsimp only at htv)
    dsimp only
    k_steps
    all_goals
      (rename Fr _ _ _ _ => F9
       rename News _ _ _ _ => N9
       rename_i htk9 a9 oT9 _ _ htk9' hcT9 l9 _ _ hle9 _
       rename _ = Data.cell (some (Value.int _ _)) => d9
       obtain ⟨la1, la2, la3, la4, la5, la6, la7, la8, la9⟩ := l9
       refine ⟨_, _, _, _, _, (Se, W.listOf ((tups ++ [(a9, oT9)]).map fun p : Addr × Obj => Value.ref p.1).toArray (n3 + 1)) :: (En, W.listOf ue.toArray n2) :: (S, W.listOf us.toArray n1) :: (L + 1 + 1 + 1, o3) :: (L + 1 + 1, o2) :: (L + 1, cellOf d9) :: (tups ++ [(a9, oT9)]), rfl, hgg, F9, N9, ?_, ?_, ?_, ?_⟩
       rotate_left 3
       · refine ⟨_, o2, o3, _, v2, v3, tups ++ [(a9, oT9)], n3 + 1, rfl, d9, d2, d3, ?_, ?_, ?_, ?_⟩
         · rw [List.take_add_one, hj]
           exact ColsAre.snoc hcol (isCol_of hcT9 hvv (by omega) (by omega))
         · omega
         · intro p hp
           rcases List.mem_append.mp hp with hp | hp
           · exact hlt p hp
           · rw [List.mem_singleton.mp hp]
             simp only [List.forall_mem_cons]
             exact ⟨Ne.symm la3, Ne.symm la4, Ne.symm la5, Ne.symm la6, Ne.symm la7, Ne.symm la8, fun _ h => nomatch h⟩
         · simp only [List.forall_mem_cons]
           exact ⟨rfl, rfl, rfl, fun _ h => nomatch h⟩
       · rw [← tups_push, ← hrest]
         intro p hp
         simp only [List.mem_cons, List.mem_append, List.not_mem_nil, or_false] at hp ⊢
         rcases hp with h | h | h | h | h | h | h | h
         · exact .inr (.inr (.inr (.inl h)))
         · exact .inr (.inr (.inr (.inr (.inl h))))
         · exact .inr (.inr (.inr (.inr (.inr (.inl h)))))
         · exact .inr (.inr (.inr (.inr (.inr (.inr (.inl h))))))
         · exact .inr (.inr (.inr (.inr (.inr (.inr (.inr (.inl h)))))))
         · exact .inr (.inr (.inr (.inr (.inr (.inr (.inr (.inr (.inl h))))))))
         · exact .inr (.inr (.inr (.inr (.inr (.inr (.inr (.inr (.inr (.inl h)))))))))
         · exact .inl h
       · intro p hp
         rw [← hrest]
         exact .tail _ (.tail _ (.tail _ (.tail _ (.tail _ (.tail _ (.tail _ (.tail _ (.tail _ (List.mem_append_right _ hp)))))))))
       · rw [← hrest] at la9
         intro q hq
         simp only [List.mem_cons, List.mem_append, List.not_mem_nil, or_false] at hq
         simp only [List.map_cons, List.mem_cons]
         rcases hq with h | h | h | h | h | h | h | h
         · exact .inl (.inl (by rw [h]))
         · exact .inl (.inr (.inl (by rw [h])))
         · exact .inl (.inr (.inr (.inl (by rw [h]))))
         · exact .inl (.inr (.inr (.inr (.inl (by rw [h])))))
         · exact .inl (.inr (.inr (.inr (.inr (.inl (by rw [h]))))))
         · exact .inl (.inr (.inr (.inr (.inr (.inr (.inl (by rw [h])))))))
         · exact .inl (.inr (.inr (.inr (.inr (.inr (.inr (List.mem_map.mpr ⟨q, h, rfl⟩)))))))
         · rw [h]; exact .inr fun p hp => la9 p (List.mem_append_right _ hp))
  case done =>
    rintro m news h tk gg hgg ⟨o1, o2, o3, v1, v2, v3, tups, n3, rfl, d1, d2, d3, hcol, htk0, hlt, hm⟩ F1 N1
    exact hret h tk gg m o1 o2 o3 v1 v2 v3 tups n3 hgg F1 N1 d1 d2 d3 hcol hlt hm
end
section
set_option maxRecDepth 100000
set_option maxHeartbeats 4000000
theorem ColsAre.toks {col : Int → Col} {ts : List (Addr × Obj)} {js : List Int} {n : Nat} (h : ColsAre col ts js n) : ∃ tl : List Nat, tl.length = ts.length ∧ (∀ x ∈ tl, 0 < x ∧ x < n) ∧ tl.Pairwise (· < ·) ∧
    ∀ (i : Nat) (p : Addr × Obj) (j : Int) (x : Nat), ts[i]? = some p → js[i]? = some j → tl[i]? = some x → ∃ u v : Nat, p.2 = { cls := .type "tuple", data := .seq #[.float (col j).1 x, .float (col j).2.1 u, .float (col j).2.2 v] } := by
  induction h with
  | nil => exact ⟨[], rfl, (fun _ h => nomatch h), .nil, fun i p j x h => by cases h⟩
  | @snoc ts js q k n n' h1 h2 ih =>
    obtain ⟨tl, hl, hb, hp, hf⟩ := ih
    obtain ⟨t, u, v, e, ht, ht', h0, hu, hv⟩ := h2
    have hlen := h1.length
    refine ⟨tl ++ [t], by simp [hl], ?_, ?_, ?_⟩
    · intro x hx
      rcases List.mem_append.mp hx with hx | hx
      · have := hb x hx; exact ⟨this.1, Nat.lt_of_lt_of_le this.2 (Nat.le_of_lt (Nat.lt_of_le_of_lt ht ht'))⟩
      · rw [List.mem_singleton.mp hx]; exact ⟨h0, ht'⟩
    · refine List.pairwise_append.mpr ⟨hp, List.pairwise_singleton _ _, fun a ha b hb' => ?_⟩
      rw [List.mem_singleton.mp hb']
      exact Nat.lt_of_lt_of_le (hb a ha).2 ht
    · intro i p j x hp' hj' hx'
      by_cases hi : i < ts.length
      · rw [List.getElem?_append_left hi] at hp'
        rw [List.getElem?_append_left (by omega)] at hj' hx'
        exact hf i p j x hp' hj' hx'
      · have hi' : i = ts.length := by
          have := (List.getElem?_eq_some_iff.mp hp').1
          simp at this; omega
        subst hi'
        rw [List.getElem?_append_right (Nat.le_refl _)] at hp'
        rw [List.getElem?_append_right (by omega)] at hj' hx'
        rw [show ts.length - js.length = 0 by omega] at hj'
        rw [show ts.length - tl.length = 0 by omega] at hx'
        simp at hp' hj' hx'
        subst hp' hj' hx'
        exact ⟨u, v, e⟩
theorem hues_cmp : ((List.range 16).all fun a => (List.range 16).all fun b => decide ((Float64.cmp (hues.getD a 0) (hues.getD b 0) == some Ordering.lt) = decide (a < b)) && decide ((Float64.cmp (hues.getD a 0) (hues.getD b 0) == some Ordering.eq) = decide (a = b)) && decide (hues.getD a 0 = hues.getD b 0 ↔ a = b)) = true := by decide +kernel
section
variable {prog : Program} {w : World} {A : Around} {E : Value → Shared → Prop} {s : Shared}
theorem oneLt_float {a b : UInt64} {t u : Tok} {Q : Bool → Shared → Prop} (h : Q (Float64.cmp a b == some Ordering.lt) s) : wpAny (model prog w) A (oneLt' true (.float a t) (.float b u)) Q E s := by
  rw [oneLt'_eq]
  simp only [if_true]
  refine wpAny_bind (wpAny_cRoomFor_byValue rfl ?_)
  refine wpAny_bind (wpAny_callSpecialIfBound?_slot (typeIs_float s a t) F.slot_float_lt (call_gives F.slot_float_lt (typeIs_float s a t) F.entry_float_lt (F.args_float_lt_2 _ _) (AutoFloatG5.float___lt___float_float_0 a t b u) ?_))
  exact wpAny_truthy_bool h
noncomputable def runT {α : Type} (lt : Nat → Nat → Bool) (n : Nat) : KasT α → Option α
  | .ret a => some a
  | .ask i j k => if i < n ∧ j < n ∧ i ≠ j then runT lt n (k (lt i j)) else none
theorem runT_wp {α : Type} {cmp : Nat → Nat → (Bool → Shared → Prop) → Shared → Prop} {lt : Nat → Nat → Bool} {n : Nat} {Q : α → Shared → Prop} {a : α} (h : ∀ i j (C : Bool → Shared → Prop), i < n → j < n → i ≠ j → C (lt i j) s → cmp i j C s) (hq : Q a s) :
    ∀ t : KasT α, runT lt n t = some a → t.kasWp cmp Q s
  | .ret b, e => by
    have : b = a := Option.some.inj e
    subst this
    exact hq
  | .ask i j k, e => by
    unfold runT at e
    split at e
    · rename_i hc
      exact h i j _ hc.1 hc.2.1 hc.2.2 (runT_wp h hq _ e)
    · cases e
noncomputable def ltO (i j : Nat) : Bool := decide (orderJ.getD i 0 < orderJ.getD j 0)
theorem sort_run : runT ltO 8 (kas_sort 8) = some #[0, 3, 6, 1, 4, 7, 2, 5] := by decide +kernel
theorem hue_cmp {a b : Int} (h0 : 0 ≤ a) (h1 : a < 16) (h2 : 0 ≤ b) (h3 : b < 16) : (Float64.cmp (hueOf a) (hueOf b) == some Ordering.lt) = decide (a < b) ∧ (Float64.cmp (hueOf a) (hueOf b) == some Ordering.eq) = decide (a = b) ∧ (hueOf a = hueOf b ↔ a = b) := by
  have e1 := List.all_eq_true.mp (List.all_eq_true.mp hues_cmp a.toNat (List.mem_range.mpr (by omega))) b.toNat (List.mem_range.mpr (by omega))
  simp only [Bool.and_eq_true, decide_eq_true_eq] at e1
  obtain ⟨⟨e1, e2⟩, e3⟩ := e1
  refine ⟨e1.trans ?_, e2.trans ?_, e3.trans ?_⟩
  · congr 1; apply propext; omega
  · congr 1; apply propext; omega
  · omega
theorem order_ne : ∀ i : Nat, i < 8 → ∀ j : Nat, j < 8 → i ≠ j → orderJ.getD i 0 ≠ orderJ.getD j 0 := by decide
theorem order_in : ∀ i : Nat, i < 8 → 0 ≤ orderJ.getD i 0 ∧ orderJ.getD i 0 < 8 ∧ orderJ[i]? = some (orderJ.getD i 0) := by decide
theorem pair_ne {tl : List Nat} (hp : tl.Pairwise (· < ·)) {i j : Nat} {x y : Nat} (hi : tl[i]? = some x) (hj : tl[j]? = some y) (hne : i ≠ j) : x ≠ y := by
  obtain ⟨h1, rfl⟩ := List.getElem?_eq_some_iff.mp hi
  obtain ⟨h2, rfl⟩ := List.getElem?_eq_some_iff.mp hj
  have := List.pairwise_iff_getElem.mp hp
  rcases Nat.lt_or_gt_of_ne hne with h | h
  · exact Nat.ne_of_lt (this i j h1 h2 h)
  · exact Nat.ne_of_gt (this j i h2 h1 h)
/-- the comparison of two of the colours -/
theorem ask_cols {tups : List (Addr × Obj)} {tl : List Nat} {sums ends : List Int} (hlen : tups.length = 8) (hl : tl.length = tups.length) (hb : ∀ x ∈ tl, 0 < x) (hp : tl.Pairwise (· < ·))
    (hf : ∀ (i : Nat) (p : Addr × Obj) (j : Int) (x : Nat), tups[i]? = some p → orderJ[i]? = some j → tl[i]? = some x → ∃ u v : Nat, p.2 = { cls := .type "tuple", data := .seq #[.float (colOf sums ends j).1 x, .float (colOf sums ends j).2.1 u, .float (colOf sums ends j).2.2 v] })
    (hh : ∀ p ∈ tups, s.heap.get? p.1 = some p.2) (hN : NoneBooked s.heap) (i j : Nat) (C : Bool → Shared → Prop) (hi : i < 8) (hj : j < 8) (hne : i ≠ j) (hC : C (ltO i j) s) :
    kas_ask prog w A (tuples' true) (tups.map fun p => Value.ref p.1) i j C s := by
  have at_ : ∀ k, k < 8 → ∃ p x, tups[k]? = some p ∧ tl[k]? = some x ∧ p ∈ tups ∧ (tups.map fun p => Value.ref p.1).getD k Value.none = .ref p.1 := by
    intro k hk
    have h1 : k < tups.length := by omega
    have h2 : k < tl.length := by omega
    refine ⟨tups[k], tl[k], List.getElem?_eq_getElem h1, List.getElem?_eq_getElem h2, List.getElem_mem h1, ?_⟩
    simp [List.getD_eq_getElem?_getD, h1]
  obtain ⟨p, x, hp1, hx1, hm1, e1⟩ := at_ i hi
  obtain ⟨q, y, hp2, hx2, hm2, e2⟩ := at_ j hj
  obtain ⟨o1, o2, o3⟩ := order_in i hi
  obtain ⟨q1, q2, q3⟩ := order_in j hj
  obtain ⟨u1, v1, ep⟩ := hf i p _ x hp1 o3 hx1
  obtain ⟨u2, v2, eq⟩ := hf j q _ y hp2 q3 hx2
  have hx : x ≠ y := pair_ne hp hx1 hx2 hne
  have hx0 := hb x (List.mem_of_getElem? hx1)
  have hy0 := hb y (List.mem_of_getElem? hx2)
  have hoj := order_ne i hi j hj hne
  unfold kas_ask
  rw [e1, e2]
  have f1 := fmod_in (sums.getD (orderJ.getD i 0).toNat 0) (show (0 : Int) < 2 by decide)
  have f2 := fmod_in (sums.getD (orderJ.getD j 0).toNat 0) (show (0 : Int) < 2 by decide)
  obtain ⟨c1, c2, c3⟩ := hue_cmp (a := 2 * orderJ.getD i 0 + (sums.getD (orderJ.getD i 0).toNat 0).fmod 2) (b := 2 * orderJ.getD j 0 + (sums.getD (orderJ.getD j 0).toNat 0).fmod 2) (by omega) (by omega) (by omega) (by omega)
  have hd : hueOf (2 * orderJ.getD i 0 + (sums.getD (orderJ.getD i 0).toNat 0).fmod 2) ≠ hueOf (2 * orderJ.getD j 0 + (sums.getD (orderJ.getD j 0).toNat 0).fmod 2) := fun h => by have := c3.mp h; omega
  have h1 := hh p hm1
  have h2 := hh q hm2
  rw [ep] at h1
  rw [eq] at h2
  refine kat_lt h1 rfl h2 rfl ?_
  refine kat_cons ?_
  refine eqBool_floats (tok_ne hx0 hy0) hN (fun h => absurd h hd) (fun _ => ⟨hx, ?_⟩) ?_
  · refine c2.trans (decide_eq_false ?_); omega
  · rw [show decide ((colOf sums ends (orderJ.getD i 0)).1 = (colOf sums ends (orderJ.getD j 0)).1) = false from decide_eq_false hd]
    refine kat_no ?_
    refine oneLt_float ?_
    rw [show (Float64.cmp (colOf sums ends (orderJ.getD i 0)).1 (colOf sums ends (orderJ.getD j 0)).1 == some Ordering.lt) = ltO i j from c1.trans ?_]
    · exact hC
    · unfold ltO
      congr 1; apply propext; omega
theorem katTups_of {h : Heap} : ∀ ts : List (Addr × Obj), (∀ p ∈ ts, ∃ b t r2 r3, h.get? p.1 = some { cls := .type "tuple", data := .seq #[.float b t, r2, r3] }) →
    ∃ fs : List Value, fs.length = ts.length ∧ KatTups h (ts.map fun p => Value.ref p.1) fs ∧ ∀ v ∈ fs, ∃ b t, v = .float b t
  | [], _ => ⟨[], rfl, trivial, fun _ h => nomatch h⟩
  | p :: ts, hh => by
    obtain ⟨fs, h1, h2, h3⟩ := katTups_of ts fun q hq => hh q (.tail _ hq)
    obtain ⟨b, t, r2, r3, e⟩ := hh p (.head _)
    refine ⟨.float b t :: fs, by simp [h1], ⟨⟨p.1, _, _, _, rfl, e, rfl, rfl, rfl⟩, h2⟩, fun v hv => ?_⟩
    rcases List.mem_cons.mp hv with rfl | hv
    · exact ⟨_, _, rfl⟩
    · exact h3 v hv
theorem kind_cols {tups : List (Addr × Obj)} {tl : List Nat} {sums ends : List Int} (hlen : tups.length = 8) (hl : tl.length = tups.length)
    (hf : ∀ (i : Nat) (p : Addr × Obj) (j : Int) (x : Nat), tups[i]? = some p → orderJ[i]? = some j → tl[i]? = some x → ∃ u v : Nat, p.2 = { cls := .type "tuple", data := .seq #[.float (colOf sums ends j).1 x, .float (colOf sums ends j).2.1 u, .float (colOf sums ends j).2.2 v] })
    (hh : ∀ p ∈ tups, s.heap.get? p.1 = some p.2) {Q : SortKind → Shared → Prop} (h : Q (tuples' true) s) : wpAny (model prog w) A (keyKind' (tups.map fun p => Value.ref p.1).toArray) Q E s := by
  obtain ⟨fs, hfl, hk, hfs⟩ := katTups_of tups (h := s.heap) (fun p hp => by
    obtain ⟨i, hi, rfl⟩ := List.mem_iff_getElem.mp hp
    have h2 : i < tl.length := by omega
    obtain ⟨u, v, e⟩ := hf i _ _ _ (List.getElem?_eq_getElem hi) (order_in i (by omega)).2.2 (List.getElem?_eq_getElem h2)
    have := hh _ hp
    rw [e] at this
    exact ⟨_, _, _, _, this⟩)
  refine kat_kind (T := .type "float") hk (by omega) (fun v hv => ?_) (by decide) h
  obtain ⟨b, t, rfl⟩ := hfs v hv
  exact Looks.of_pure rfl
end
end
section
set_option maxRecDepth 100000
set_option maxHeartbeats 4000000
noncomputable def sort8 (tups : List (Addr × Obj)) : List (Addr × Obj) := ([0, 3, 6, 1, 4, 7, 2, 5] : List Nat).map fun i => tups.getD i (0, default)
theorem sort8_mem {tups : List (Addr × Obj)} (h : tups.length = 8) : ∀ p ∈ sort8 tups, p ∈ tups := by
  intro p hp
  obtain ⟨i, hi, rfl⟩ := List.mem_map.mp hp
  have hi' : i < tups.length := by
    simp only [List.mem_cons, List.not_mem_nil, or_false] at hi
    omega
  rw [List.getD_eq_getElem?_getD, List.getElem?_eq_getElem hi']
  exact List.getElem_mem hi'
theorem sort8_map {tups : List (Addr × Obj)} (h : tups.length = 8) : ((#[0, 3, 6, 1, 4, 7, 2, 5] : Array Nat).toList.map fun i => (tups.map fun p => Value.ref p.1).getD i Value.none) = (sort8 tups).map fun p => Value.ref p.1 := by
  unfold sort8
  rw [List.map_map]
  refine List.map_congr_left fun i hi => ?_
  have hi' : i < tups.length := by
    simp only [List.mem_cons, List.not_mem_nil, or_false] at hi
    omega
  simp [List.getD_eq_getElem?_getD, hi']
/-- the row of colours, hue by hue -/
noncomputable def RowIs (sums ends : List Int) (tups : List (Addr × Obj)) : Prop := tups.length = 8 ∧ ∀ k, k < 8 → ∃ p, tups[k]? = some p ∧ ∃ x u v, p.2 = { cls := .type "tuple", data := .seq #[.float (colOf sums ends (k : Nat)).1 x, .float (colOf sums ends (k : Nat)).2.1 u, .float (colOf sums ends (k : Nat)).2.2 v] }
theorem order_inv : ∀ k : Nat, k < 8 → orderJ[([0, 3, 6, 1, 4, 7, 2, 5] : List Nat).getD k 0]? = some (k : Int) ∧ ([0, 3, 6, 1, 4, 7, 2, 5] : List Nat).getD k 0 < 8 := by decide
theorem sort8_at {tups : List (Addr × Obj)} : ∀ k : Nat, k < 8 → (sort8 tups)[k]? = some (tups.getD (([0, 3, 6, 1, 4, 7, 2, 5] : List Nat).getD k 0) (0, default))
  | 0, _ => rfl
  | 1, _ => rfl
  | 2, _ => rfl
  | 3, _ => rfl
  | 4, _ => rfl
  | 5, _ => rfl
  | 6, _ => rfl
  | 7, _ => rfl
theorem sort8_row {tups : List (Addr × Obj)} {sums ends : List Int} {n : Nat} (h : ColsAre (colOf sums ends) tups orderJ n) : RowIs sums ends (sort8 tups) := by
  have hl : tups.length = 8 := h.length
  obtain ⟨tl, h1, _, _, hf⟩ := h.toks
  refine ⟨rfl, fun k hk => ?_⟩
  obtain ⟨e1, e2⟩ := order_inv k hk
  have i1 : ([0, 3, 6, 1, 4, 7, 2, 5] : List Nat).getD k 0 < tups.length := by omega
  have i2 : ([0, 3, 6, 1, 4, 7, 2, 5] : List Nat).getD k 0 < tl.length := by omega
  obtain ⟨u, v, e⟩ := hf _ _ _ _ (List.getElem?_eq_getElem i1) e1 (List.getElem?_eq_getElem i2)
  refine ⟨_, ?_, _, u, v, e⟩
  rw [sort8_at k hk, List.getD_eq_getElem?_getD, List.getElem?_eq_getElem i1]
  rfl
section
variable {w : World} {E : Value → Shared → Prop} {s : Shared} {B : Heap} {L : Addr} {m : Str → Option Value} {news : List (Addr × Obj)} {mean : ExcName → Option Value} {mg mb : Str → Option Value}
theorem sorted_cols {Se : Addr} {c n : Nat} {tups : List (Addr × Obj)} {sums ends : List Int} {Q : Value → Shared → Prop} (F : Fr B L s.heap m) (N : News B L s.heap news) (hK : (hd.heap_39 w.params).In B) (hT : Top hd.view_39 (looseW hd.view_39 []) mean mg mb B)
    (hSe : (Se, W.listOf (tups.map fun p => Value.ref p.1).toArray c) ∈ news) (hsub : ∀ p ∈ tups, p ∈ news) (hcol : ColsAre (colOf sums ends) tups orderJ n)
    (h : ∀ D c h', Fr B L h' m → News B L h' ((D, W.listOf ((sort8 tups).map fun p => Value.ref p.1).toArray c) :: news) → (∀ q ∈ news, q.1 < D) → Q (.ref D) { s with heap := h' }) :
    wpAny (model Challenge.rw_re0084_01.prog w) (AA 305 30) (call (.builtin "sorted") [.ref Se]) Q E s := by
  have hl : tups.length = 8 := hcol.length
  obtain ⟨tl, h1, hb, hp, hf⟩ := hcol.toks
  have hvl : (tups.map fun p => Value.ref p.1).length = 8 := by simp [hl]
  refine kat_sorted F N ⟨_, (N _ hSe).1, rfl, _, rfl⟩ (by omega) (by omega) fun D e1 h' F' N' hlt => ?_
  have hh : ∀ p ∈ tups, h'.get? p.1 = some p.2 := fun p hp => (N' p (.tail _ (hsub p hp))).1
  refine kind_cols (s := { s with heap := h' }) hl h1 hf hh ?_
  rw [hvl]
  refine runT_wp (lt := ltO) (n := 8) (a := #[0, 3, 6, 1, 4, 7, 2, 5]) (fun i j C hi hj hne hC => ask_cols (s := { s with heap := h' }) hl h1 (fun x hx => (hb x hx).1) hp hf hh (none_booked_of (hK.keeps F'.keep) (hT.keeps F'.keep)) i j C hi hj hne hC) ?_ _ sort_run
  rw [sort8_map hl]
  exact KasFin.intro F' N' (.head fun p hp => Nat.ne_of_lt (hlt p hp)) fun h2 c2 F2 N2 => h D c2 h2 F2 N2 hlt
end
theorem rowsW50 : True := by
  k_with_none
  k_with "call builtin:sorted" => (refine hold3 ?_)
  trivial
theorem st4 (w : World) (L : Nat) (fa : Addr) (cd : Value) (B : Heap) (mean : ExcName → Option Value) (mg mb : Str → Option Value) (s : Shared) (Q : Flow → Shared → Prop)
    (hK : (hd.heap_39 w.params).In B) (hT : Top hd.view_39 (looseW hd.view_39 []) mean mg mb B)
    (S En Se : Nat) (us ue : List Value) (n1 n2 n3 n : Nat) (sums ends : List Int)
    (o1 o2 o3 : Obj) (m : Str → Option Value) (tups : List (Addr × Obj))
    (hm : ∀ p ∈ [(Str.ofString "sums", Value.ref S), (Str.ofString "ends", Value.ref En), (Str.ofString "seen", Value.ref Se)], m p.1 = some p.2)
    (F : Fr B L s.heap m) (N : News B L s.heap ((Se, W.listOf (tups.map fun p => Value.ref p.1).toArray n3) :: (En, W.listOf ue.toArray n2) :: (S, W.listOf us.toArray n1) :: (L + 1 + 1 + 1, o3) :: (L + 1 + 1, o2) :: (L + 1, o1) :: tups))
    (hcol : ColsAre (colOf sums ends) tups orderJ n)
    (hret : ∀ h' tk' m' tups (D n3 : Nat), Fr B L h' m' → RowIs sums ends tups → (∀ p ∈ tups, p.1 < D) → En < D → S < D → L + 1 + 1 + 1 < D → News B L h' ((D, W.listOf (tups.map fun p => Value.ref p.1).toArray n3) :: (En, W.listOf ue.toArray n2) :: (S, W.listOf us.toArray n1) :: (L + 1 + 1 + 1, o3) :: (L + 1 + 1, o2) :: (L + 1, o1) :: tups) →
      (∀ p ∈ [(Str.ofString "sums", Value.ref S), (Str.ofString "ends", Value.ref En), (Str.ofString "seen", Value.ref D)], m' p.1 = some p.2) → Q .next { s with heap := h', toks := tk' }) :
    wpAny (model Challenge.rw_re0084_01.prog w) (AA 305 30) (exec (lawSt 4) (lawE L fa cd)) Q (fun _ _ => False) s := by
  revert hK
  k_fill
  intro hK
  replace F := fr_with F _ hm
  dsimp only [withK] at F
  show wpAny _ _ (exec (Stmt.Assign _ _ _) _) _ _ _
  k_steps
  unfold Hold3
  rename Fr _ _ _ _ => F1
  rename News _ _ _ _ => N1
  have hl : tups.length = 8 := hcol.length
  refine sorted_cols F1 N1 hK hT (.head _) (fun p hp => .tail _ (.tail _ (.tail _ (.tail _ (.tail _ (.tail _ hp)))))) hcol fun D c h' F2 N2 hlt => ?_
  simp only [List.forall_mem_cons] at hlt
  obtain ⟨q1, q2, q3, q4, q5, q6, q7⟩ := hlt
  clear F1 N1
  (try dsimp only)
  k_steps
  rename Fr _ _ _ _ => F3
  rename News _ _ _ _ => N3
  refine hret _ _ _ (sort8 tups) D c F3 (sort8_row hcol) (fun p hp => q7 p (sort8_mem hl p hp)) q2 q3 q4 ?_ ?_
  · intro p hp
    rcases List.mem_cons.mp hp with h | hp
    · exact h ▸ N3 _ (.head _)
    · refine N3 p (.tail _ (.tail _ ?_))
      show p ∈ (_ : List (Addr × Obj))
      simp only [List.mem_cons] at hp ⊢
      rcases hp with h | h | h | h | h | h
      · exact .inl h
      · exact .inr (.inl h)
      · exact .inr (.inr (.inl h))
      · exact .inr (.inr (.inr (.inl h)))
      · exact .inr (.inr (.inr (.inr (.inl h))))
      · exact .inr (.inr (.inr (.inr (.inr (sort8_mem hl p h)))))
  · simp only [List.forall_mem_cons]
    exact ⟨rfl, rfl, rfl, fun _ h => nomatch h⟩
end
section
set_option maxRecDepth 100000
set_option maxHeartbeats 4000000
noncomputable def evsOf (ends : List Int) : List (Int × Bool) := (List.range 8).map fun k => ((ends.getD k 0).fdiv 2, decide ((ends.getD k 0).fmod 2 = 0))
noncomputable def extraOf (d : Int) : Str := ([Str.ofString "", Str.ofString "\\)", Str.ofString "\"(\"", Str.ofString "\\\""] : List Str).getD d.toNat (Str.ofString "")
noncomputable def signOf (e : Int × Bool) : Str := (if e.2 = true then Str.ofString "(" else Str.ofString ")") ++ extraOf e.1
noncomputable def letterOf (e : Int × Bool) : Str := ([Str.ofString "a", Str.ofString "b", Str.ofString "c", Str.ofString "d", Str.ofString "A", Str.ofString "B", Str.ofString "C", Str.ofString "D"] : List Str).getD (if e.2 = true then e.1 else e.1 + 4).toNat (Str.ofString "")
noncomputable def readStep (s : List Str × List Str × List Str) (e : Int × Bool) : List Str × List Str × List Str := (s.1 ++ [Txt.join (Str.ofString "") s.2.2], s.2.1 ++ [signOf e], s.2.2.set e.1.toNat (letterOf e))
noncomputable def read0 : List Str × List Str × List Str := ([], [], [Str.ofString "", Str.ofString "", Str.ofString "", Str.ofString ""])
noncomputable def share4 (d : Int) : UInt64 := Float64.mul (shareOf d) (Float64.ofInt 4)
theorem share4_ok : ((List.range 4).all fun d => (match Float64.decode (Float64.mul (shares.getD d 0) (Float64.ofInt 4)) with | .fin sg m e => decide (Float64.truncOf sg m e = (d : Int) + 1) | _ => false)) = true := by decide +kernel
section
variable {prog : Program} {w : World} {A : Around} {E : Value → Shared → Prop} {s : Shared}
theorem mul_share {d : Int} {t u : Tok} {Q : Value → Shared → Prop} (hh : A.handled = none) (h : Q (.float (share4 d) s.toks) { s with toks := s.toks + 1 }) : wpAny (model prog w) A (binaryOp .Mult (.float (shareOf d) t) (.int 4 u)) Q E s := by
  refine mul_fi_sharp hh (fun h => ?_) (fun _ => h)
  exact absurd h (by decide +kernel)
theorem int_share {d : Int} {t : Tok} {Q : Value → Shared → Prop} (h0 : 0 ≤ d) (h1 : d < 4) (h : Q (.int (d + 1) s.toks) { s with toks := s.toks + 1 }) : wpAny (model prog w) A (call (.type "int") [.float (share4 d) t]) Q E s := by
  have hk := List.all_eq_true.mp share4_ok d.toNat (List.mem_range.mpr (by omega))
  have e : share4 d = Float64.mul (shares.getD d.toNat 0) (Float64.ofInt 4) := rfl
  rw [← e] at hk
  split at hk
  · rename_i sg m e' hd
    refine call_int_float hd ?_
    rw [show Float64.truncOf sg m e' = d + 1 by have := of_decide_eq_true hk; omega]
    exact h
  · cases hk
theorem gt_one {t u : Tok} {Q : Value → Shared → Prop} (h : Q (.bool true) s) : wpAny (model prog w) A (compareOp .Gt (.float 4607182418800017408 t) (.float 4604930618986332160 u)) Q E s := AutoFloatOps.gt_0 (by rw [show (Float64.cmp 4607182418800017408 4604930618986332160 == some Ordering.gt) = true by decide +kernel]; exact h)
theorem gt_half {t u : Tok} {Q : Value → Shared → Prop} (h : Q (.bool false) s) : wpAny (model prog w) A (compareOp .Gt (.float 4602678819172646912 t) (.float 4604930618986332160 u)) Q E s := AutoFloatOps.gt_0 (by rw [show (Float64.cmp 4602678819172646912 4604930618986332160 == some Ordering.gt) = false by decide +kernel]; exact h)
theorem join_letters {D : Addr} {l0 l1 l2 l3 : Str} {t t0 t1 t2 t3 : Tok} {n : Nat} {Q : Value → Shared → Prop} (ho : s.heap.get? D = some (W.listOf #[.str l0 t0, .str l1 t1, .str l2 t2, .str l3 t3] n)) (h0 : l0.length ≤ 1) (h1 : l1.length ≤ 1) (h2 : l2.length ≤ 1) (h3 : l3.length ≤ 1)
    (h : ∀ t' k, Q (.str (Txt.join (Str.ofString "") [l0, l1, l2, l3]) t') { s with toks := k }) : wpAny (model prog w) A (call (.builtin "str.join") [.str (Str.ofString "") t, .ref D]) Q E s := by
  refine join_listW ⟨_, ho, rfl, _, rfl⟩ (.cons l0 t0 (.cons l1 t1 (.cons l2 t2 (.cons l3 t3 .nil)))) (by decide) ?_ h
  simp only [List.map_cons, List.map_nil, List.sum_cons, List.sum_nil, List.length_cons, List.length_nil]
  omega
end
end
section
set_option maxRecDepth 100000
set_option maxHeartbeats 8000000
structure NoHold7 : Prop where
theorem rowsW70 : True := by
  k_with_none
  k_with "exec For Tuple BinOp cons nil" => (refine hold3 ?_)
  k_with "pyIter ref" => (refine hold3 ?_)
  k_with "binaryOp Mult float int" => (k_here; refine mul_share rfl ?_)
  trivial
theorem extra_len (d : Int) : (extraOf d).length ≤ 3 := by
  unfold extraOf
  match d.toNat with
  | 0 => decide +kernel
  | 1 => decide +kernel
  | 2 => decide +kernel
  | 3 => decide +kernel
  | n + 4 => exact Nat.zero_le _
theorem pick4 {prog : Program} {w : World} {A : Around} {E : Value → Shared → Prop} {s : Shared} {value slice : Expr} {l : Addr} {n : Nat} {t0 t1 t2 t3 : Tok} {d : Int} {u : Tok} {Q : Value → Shared → Prop}
    (ho : s.heap.get? l = some (W.listOf #[.str (Str.ofString "") t0, .str (Str.ofString "\\)") t1, .str (Str.ofString "\"(\"") t2, .str (Str.ofString "\\\"") t3] n)) (h0 : 0 ≤ d) (h1 : d < 4) (h : ∀ t, Q (.str (extraOf d) t) s)
    (hs : subscripted slice false (.ref l) (.int (d + 1 - 1) u) = operate [.ref l, .int (d + 1 - 1) u] (getItem (.ref l) (.int (d + 1 - 1) u)) := by with_unfolding_all rfl) :
    wpAny (model prog w) A (subscriptTail value slice (.ref l) (.int (d + 1 - 1) u)) Q E s := by
  have hl : s.heap.IsList l (List.toArray [.str (Str.ofString "") t0, .str (Str.ofString "\\)") t1, .str (Str.ofString "\"(\"") t2, .str (Str.ofString "\\\"") t3]) := ⟨_, ho, rfl, _, rfl⟩
  have hd : d = 0 ∨ d = 1 ∨ d = 2 ∨ d = 3 := by omega
  rcases hd with rfl | rfl | rfl | rfl
  · exact tail_any hl.typeIs slot_list_getitem.lookup (wpAny_getItem_list hl (by decide) (by decide) (by rfl) (h _)) hs
  · exact tail_any hl.typeIs slot_list_getitem.lookup (wpAny_getItem_list hl (by decide) (by decide) (by rfl) (h _)) hs
  · exact tail_any hl.typeIs slot_list_getitem.lookup (wpAny_getItem_list hl (by decide) (by decide) (by rfl) (h _)) hs
  · exact tail_any hl.typeIs slot_list_getitem.lookup (wpAny_getItem_list hl (by decide) (by decide) (by rfl) (h _)) hs
theorem rowsW71 : True := by
  k_with "subscriptTail" => (k_here; (with_reducible show wpAny _ _ (subscriptTail _ _ (Value.ref _) (Value.int _ _)) _ _ _); k_dflt (refine pick4 (News.get ‹News _ _ _ _› (by k_mem)) (by omega) (by omega) ?_); intro _)
  trivial
theorem item_t {d : Int} (h0 : 0 ≤ d) (h1 : d < 4) : Txt.item (Str.ofString "abcdABCD") (d + 1 - 1) = letterOf (d, true) ∧ Txt.item (Str.ofString "abcdABCD") (d + 1 - 1 + 4) = letterOf (d, false) ∧ (letterOf (d, true)).length ≤ 1 ∧ (letterOf (d, false)).length ≤ 1 := by
  have hd : d = 0 ∨ d = 1 ∨ d = 2 ∨ d = 3 := by omega
  rcases hd with rfl | rfl | rfl | rfl <;> decide +kernel
theorem set4 {prog : Program} {w : World} {A : Around} {E : Value → Shared → Prop} {s : Shared} {B : Heap} {L : Addr} {m : Str → Option Value} {news : List (Addr × Obj)} {D : Addr} {l0 l1 l2 l3 v : Str} {t0 t1 t2 t3 : Tok} {n : Nat} {i d : Int} {u t : Tok} {Q : Unit → Shared → Prop}
    {news' : Str → Str → Str → Str → Tok → Tok → Tok → Tok → List (Addr × Obj)} (hi : i = d) (F : Fr B L s.heap m) (N : News B L s.heap news) (h0 : 0 ≤ d) (h1 : d < 4)
    (U : ∀ k0 k1 k2 k3 x0 x1 x2 x3, Upd D (W.listOf #[.str l0 t0, .str l1 t1, .str l2 t2, .str l3 t3] n) (W.listOf (List.toArray [.str k0 x0, .str k1 x1, .str k2 x2, .str k3 x3]) n) news (news' k0 k1 k2 k3 x0 x1 x2 x3))
    (h : ∀ k0 k1 k2 k3 x0 x1 x2 x3 h', [k0, k1, k2, k3] = [l0, l1, l2, l3].set d.toNat v → Fr B L h' m → News B L h' (news' k0 k1 k2 k3 x0 x1 x2 x3) → Q () { s with heap := h' }) :
    wpAny (model prog w) A (setItem (.ref D) (.int i u) (.str v t)) Q E s := by
  subst hi
  have hd : i = 0 ∨ i = 1 ∨ i = 2 ∨ i = 3 := by omega
  rcases hd with rfl | rfl | rfl | rfl
  · exact ki_set F N (by decide) (by decide) rfl (U v l1 l2 l3 t t1 t2 t3) fun h' F' N' => h _ _ _ _ _ _ _ _ h' rfl F' N'
  · exact ki_set F N (by decide) (by decide) rfl (U l0 v l2 l3 t0 t t2 t3) fun h' F' N' => h _ _ _ _ _ _ _ _ h' rfl F' N'
  · exact ki_set F N (by decide) (by decide) rfl (U l0 l1 v l3 t0 t1 t t3) fun h' F' N' => h _ _ _ _ _ _ _ _ h' rfl F' N'
  · exact ki_set F N (by decide) (by decide) rfl (U l0 l1 l2 v t0 t1 t2 t) fun h' F' N' => h _ _ _ _ _ _ _ _ h' rfl F' N'
theorem rowsW72 : True := by
  k_with "setItem ref int" => (k_here; (with_reducible show wpAny _ _ (PySem.setItem (Value.ref _) (Value.int _ _) (Value.str _ _)) _ _ _); k_dflt (refine' set4 ?hi ?F ?N ?h0 ?h1 ?U ?_; (case hi => exact Int.add_sub_cancel _ _); (case F => k_asm); (case N => k_asm); (case h0 => omega); (case h1 => omega); (case U => (intro _ _ _ _ _ _ _ _; k_upd))); intro _ _ _ _ _ _ _ _ _ _ _ _; (try dsimp only))
  k_with "eval IfExp" => ((fail_if_success (have nh9 : NoHold7 := by assumption)); refine hold3 ?_)
  k_with "call type:int" => (k_here; refine int_share (by omega) (by omega) ?_)
  k_with "compareOp Gt float float" => (k_here; first | (with_reducible refine gt_one ?_) | (with_reducible refine gt_half ?_))
  k_with "call builtin:str.join" => (k_here; k_dflt (refine join_letters (News.get ‹News _ _ _ _› (by k_mem)) (by with_reducible assumption) (by with_reducible assumption) (by with_reducible assumption) (by with_reducible assumption) ?_); intro _ _)
  trivial
inductive RJ8I (L S En Lt Wd Sg : Nat) (us ue : List Value) (n1 n2 : Nat) (o1 o2 o3 : Obj) (tups : List (Addr × Obj)) (evs : List (Int × Bool)) (i : Nat) (m : Str → Option Value) (news : List (Addr × Obj)) : Prop
  | mk (wv sv : Array Value) (l0 l1 l2 l3 : Str) (t0 t1 t2 t3 : Tok) (n3 n4 n5 : Nat) (Ws Ss : List Str) (hn : news = (Lt, W.listOf #[.str l0 t0, .str l1 t1, .str l2 t2, .str l3 t3] n3) :: (Wd, W.listOf wv n4) :: (Sg, W.listOf sv n5) :: (En, W.listOf ue.toArray n2) :: (S, W.listOf us.toArray n1) :: (L + 1 + 1 + 1, o3) :: (L + 1 + 1, o2) :: (L + 1, o1) :: tups)
    (hW : StrsAre wv.toList Ws) (hS : StrsAre sv.toList Ss) (hf : (Ws, Ss, [l0, l1, l2, l3]) = (evs.take i).foldl readStep read0) (b0 : l0.length ≤ 1) (b1 : l1.length ≤ 1) (b2 : l2.length ≤ 1) (b3 : l3.length ≤ 1) (z1 : wv.size ≤ i) (z2 : sv.size ≤ i)
    (hm : ∀ p ∈ [(Str.ofString "sums", Value.ref S), (Str.ofString "ends", Value.ref En), (Str.ofString "signs", Value.ref Sg), (Str.ofString "words", Value.ref Wd), (Str.ofString "letters", Value.ref Lt)], m p.1 = some p.2) : RJ8I L S En Lt Wd Sg us ue n1 n2 o1 o2 o3 tups evs i m news
noncomputable abbrev RJ8 (L S En Lt Wd Sg : Nat) (us ue : List Value) (n1 n2 : Nat) (o1 o2 o3 : Obj) (tups : List (Addr × Obj)) (evs : List (Int × Bool)) (i _tk : Nat) (m : Str → Option Value) (news : List (Addr × Obj)) : Prop := RJ8I L S En Lt Wd Sg us ue n1 n2 o1 o2 o3 tups evs i m news
theorem fold_nxt {σ α : Type} {f : σ → α → σ} {a b : σ} {T : List α} {i : Nat} {y : α} (h : a = (T.take i).foldl f b) (hy : T[i]? = some y) : f a y = (T.take (i + 1)).foldl f b := by
  rw [List.take_add_one, hy, List.foldl_append, ← h]; rfl
theorem read_end {L S En Lt Wd Sg : Nat} {us ue : List Value} {n1 n2 : Nat} {o1 o2 o3 : Obj} {tups own rest : List (Addr × Obj)} {evs : List (Int × Bool)} {i tk tk' : Nat} {m' : Str → Option Value} {B h' hh : Heap} {gg : Array GenState} {s : Shared} {Q : Flow → Shared → Prop}
    {l' pa : Addr} {ol op : Obj} {k0 k1 k2 k3 l0 l1 l2 l3 wj sj : Str} {x0 x1 x2 x3 t0 t1 t2 t3 xj yj : Tok} {c3 c4 c5 n3 n4 n5 : Nat} {wv sv : Array Value} {Ws Ss : List Str} {e : Int × Bool}
    (F9 : Fr B L h' m') (N9 : News B L h' ((l', ol) :: (pa, op) :: (Lt, W.listOf #[.str k0 x0, .str k1 x1, .str k2 x2, .str k3 x3] c3) :: (Wd, W.listOf (wv.push (.str wj xj)) c4) :: (Sg, W.listOf (sv.push (.str sj yj)) c5) :: (En, W.listOf ue.toArray n2) :: (S, W.listOf us.toArray n1) :: (L + 1 + 1 + 1, o3) :: (L + 1 + 1, o2) :: (L + 1, o1) :: rest))
    (hrest : tups ++ own = rest) (hgg : AllBare gg) (hW : StrsAre wv.toList Ws) (hS : StrsAre sv.toList Ss) (hfold : (Ws, Ss, [l0, l1, l2, l3]) = (evs.take i).foldl readStep read0) (hev : evs[i]? = some e)
    (hl0 : l0.length ≤ 1) (hl1 : l1.length ≤ 1) (hl2 : l2.length ≤ 1) (hl3 : l3.length ≤ 1) (hsw : wv.size ≤ i) (hss : sv.size ≤ i)
    (e1 : wj = Txt.join (Str.ofString "") [l0, l1, l2, l3]) (e2 : sj = signOf e) (e3 : [k0, k1, k2, k3] = [l0, l1, l2, l3].set e.1.toNat (letterOf e)) (e4 : (letterOf e).length ≤ 1)
    (hm' : ∀ p ∈ [(Str.ofString "sums", Value.ref S), (Str.ofString "ends", Value.ref En), (Str.ofString "signs", Value.ref Sg), (Str.ofString "words", Value.ref Wd), (Str.ofString "letters", Value.ref Lt)], m' p.1 = some p.2) :
    LPost B L (RJ8 L S En Lt Wd Sg us ue n1 n2 o1 o2 o3 tups evs (i + 1)) ((Lt, W.listOf #[.str l0 t0, .str l1 t1, .str l2 t2, .str l3 t3] n3) :: (Wd, W.listOf wv n4) :: (Sg, W.listOf sv n5) :: (En, W.listOf ue.toArray n2) :: (S, W.listOf us.toArray n1) :: (L + 1 + 1 + 1, o3) :: (L + 1 + 1, o2) :: (L + 1, o1) :: tups) own
      { s with heap := hh, toks := tk, gens := gg } Q .next { s with heap := h', toks := tk', gens := gg } := by
  subst hrest
  have hk : ∀ k ∈ [k0, k1, k2, k3], k.length ≤ 1 := by
    rw [e3]
    intro k hk
    rcases List.mem_or_eq_of_mem_set hk with h | h
    · simp only [List.mem_cons, List.not_mem_nil, or_false] at h
      rcases h with h | h | h | h <;> rw [h] <;> assumption
    · rw [h]; exact e4
  simp only [List.forall_mem_cons] at hk
  refine ⟨h', tk', gg, m', _, (Lt, W.listOf #[.str k0 x0, .str k1 x1, .str k2 x2, .str k3 x3] c3) :: (Wd, W.listOf (wv.push (.str wj xj)) c4) :: (Sg, W.listOf (sv.push (.str sj yj)) c5) :: (En, W.listOf ue.toArray n2) :: (S, W.listOf us.toArray n1) :: (L + 1 + 1 + 1, o3) :: (L + 1 + 1, o2) :: (L + 1, o1) :: tups, rfl, hgg, F9, N9, ?_, ?_, ?_, ?_⟩
  · intro p hp
    exact .tail _ (.tail _ (List.mem_append_left own hp))
  · intro p hp
    exact .tail _ (.tail _ (.tail _ (.tail _ (.tail _ (.tail _ (.tail _ (.tail _ (.tail _ (.tail _ (List.mem_append_right _ hp))))))))))
  · intro q hq
    refine .inl ?_
    obtain hq' := List.mem_map_of_mem (f := fun p : Addr × Obj => p.1) hq
    simpa using hq'
  · refine ⟨wv.push (.str wj xj), sv.push (.str sj yj), k0, k1, k2, k3, x0, x1, x2, x3, c3, c4, c5, Ws ++ [wj], Ss ++ [sj], rfl, ?_, ?_, ?_, hk.1, hk.2.1, hk.2.2.1, hk.2.2.2.1, ?_, ?_, hm'⟩
    · rw [Array.toList_push]; exact hW.append' (.cons _ _ .nil)
    · rw [Array.toList_push]; exact hS.append' (.cons _ _ .nil)
    · rw [← fold_nxt hfold hev, e1, e2, e3]; rfl
    · simpa using hsw
    · simpa using hss
theorem item16 {tups : List (Addr × Obj)} {ends : List Int} {i : Nat} {v : Value} (hl : tups.length = 8)
    (hv : (((tups.map fun p => Value.ref p.1).toArray.toList ++ (tups.map fun p => Value.ref p.1).toArray.toList).toArray : Array Value)[i]? = some v) :
    ∃ k p, k < 8 ∧ tups[k]? = some p ∧ v = .ref p.1 ∧ (evsOf ends ++ evsOf ends)[i]? = some ((ends.getD k 0).fdiv 2, decide ((ends.getD k 0).fmod 2 = 0)) := by
  have hz : (evsOf ends).length = 8 := by simp [evsOf]
  have hev : ∀ k, k < 8 → (evsOf ends)[k]? = some ((ends.getD k 0).fdiv 2, decide ((ends.getD k 0).fmod 2 = 0)) := fun k hk => by simp [evsOf, hk]
  simp only [List.getElem?_toArray] at hv
  by_cases hi : i < 8
  · rw [List.getElem?_append_left (by simp [hl, hi])] at hv
    obtain ⟨p, hp, rfl⟩ := List.getElem?_map .. ▸ hv |> Option.map_eq_some_iff.mp
    exact ⟨i, p, hi, hp, rfl, by rw [List.getElem?_append_left (by omega)]; exact hev i hi⟩
  · rw [List.getElem?_append_right (by simp [hl]; omega)] at hv
    simp only [List.length_map, hl] at hv
    obtain ⟨p, hp, rfl⟩ := List.getElem?_map .. ▸ hv |> Option.map_eq_some_iff.mp
    have h8 : i - 8 < 8 := by have := (List.getElem?_eq_some_iff.mp hp).1; omega
    exact ⟨i - 8, p, h8, hp, rfl, by rw [List.getElem?_append_right (by omega), hz]; exact hev _ h8⟩
theorem st8 (w : World) (L : Nat) (fa : Addr) (cd : Value) (B : Heap) (mean : ExcName → Option Value) (mg mb : Str → Option Value) (s : Shared) (Q : Flow → Shared → Prop)
    (hK : (hd.heap_39 w.params).In B) (hT : Top hd.view_39 (looseW hd.view_39 []) mean mg mb B) (hG : AllBare s.gens)
    (S En D Sg Wd Lt : Nat) (us ue : List Value) (n1 n2 n3 : Nat) (sums ends : List Int) (he8 : ∀ i, 0 ≤ ends.getD i 0 ∧ ends.getD i 0 < 8)
    (o1 o2 o3 : Obj) (m : Str → Option Value) (tups : List (Addr × Obj)) (t0 t1 t2 t3 : Tok)
    (hm : ∀ p ∈ [(Str.ofString "sums", Value.ref S), (Str.ofString "ends", Value.ref En), (Str.ofString "seen", Value.ref D), (Str.ofString "signs", Value.ref Sg), (Str.ofString "words", Value.ref Wd), (Str.ofString "letters", Value.ref Lt)], m p.1 = some p.2)
    (hrow : RowIs sums ends tups) (hlt : ∀ p ∈ tups, @LT.lt Nat _ p.1 D) (l1 : En < D) (l2 : S < D) (l3 : L + 1 + 1 + 1 < D) (l4 : D < Sg) (l5 : Sg < Wd) (l6 : Wd < Lt)
    (F : Fr B L s.heap m) (N : News B L s.heap ((Lt, W.listOf #[.str (Str.ofString "") t0, .str (Str.ofString "") t1, .str (Str.ofString "") t2, .str (Str.ofString "") t3] 0) :: (Wd, W.listOf #[] 0) :: (Sg, W.listOf #[] 0) :: (D, W.listOf (tups.map fun p => Value.ref p.1).toArray n3) :: (En, W.listOf ue.toArray n2) :: (S, W.listOf us.toArray n1) :: (L + 1 + 1 + 1, o3) :: (L + 1 + 1, o2) :: (L + 1, o1) :: tups))
    (hret : ∀ h' tk' gg' m' wv sv n4 n5 Ws Ss, AllBare gg' → Fr B L h' m' → News B L h' ((Wd, W.listOf wv n4) :: (Sg, W.listOf sv n5) :: (En, W.listOf ue.toArray n2) :: (S, W.listOf us.toArray n1) :: (L + 1 + 1 + 1, o3) :: (L + 1 + 1, o2) :: (L + 1, o1) :: []) → StrsAre wv.toList Ws → StrsAre sv.toList Ss →
      Ws = ((evsOf ends ++ evsOf ends).foldl readStep read0).1 → Ss = ((evsOf ends ++ evsOf ends).foldl readStep read0).2.1 →
      (∀ p ∈ [(Str.ofString "sums", Value.ref S), (Str.ofString "ends", Value.ref En), (Str.ofString "signs", Value.ref Sg), (Str.ofString "words", Value.ref Wd)], m' p.1 = some p.2) → Q .next { s with heap := h', toks := tk', gens := gg' }) :
    wpAny (model Challenge.rw_re0084_01.prog w) (AA 305 30) (exec (lawSt 8) (lawE L fa cd)) Q (fun _ _ => False) s := by
  revert hK
  k_fill
  intro hK
  replace F := fr_with F _ hm
  dsimp only [withK] at F
  have hl : tups.length = 8 := hrow.1
  have hsz : (List.map (fun p : Addr × Obj => Value.ref p.1) tups).toArray.size = 8 := by simp [hl]
  show wpAny _ _ (exec (Stmt.For _ _ _ _ _) _) _ _ _
  k_steps
  unfold Hold3
  refine wpAny_For ?_ (fun _ => rfl)
  k_steps
  unfold Hold3
  rename Fr _ _ _ _ => F1
  rename News _ _ _ _ => N1
  rename_i h9
  have hmem : ∀ p ∈ (Lt, W.listOf #[.str (Str.ofString "") t0, .str (Str.ofString "") t1, .str (Str.ofString "") t2, .str (Str.ofString "") t3] 0) :: (Wd, W.listOf #[] 0) :: (Sg, W.listOf #[] 0) :: (En, W.listOf ue.toArray n2) :: (S, W.listOf us.toArray n1) :: (L + 1 + 1 + 1, o3) :: (L + 1 + 1, o2) :: (L + 1, o1) :: tups,
      p ∈ (Lt, W.listOf #[.str (Str.ofString "") t0, .str (Str.ofString "") t1, .str (Str.ofString "") t2, .str (Str.ofString "") t3] 0) :: (Wd, W.listOf #[] 0) :: (Sg, W.listOf #[] 0) :: (D, W.listOf (tups.map fun p => Value.ref p.1).toArray n3) :: (En, W.listOf ue.toArray n2) :: (S, W.listOf us.toArray n1) :: (L + 1 + 1 + 1, o3) :: (L + 1 + 1, o2) :: (L + 1, o1) :: tups := by
    intro p hp
    match hp with
    | .head _ => exact .head _
    | .tail _ (.head _) => exact .tail _ (.head _)
    | .tail _ (.tail _ (.head _)) => exact .tail _ (.tail _ (.head _))
    | .tail _ (.tail _ (.tail _ h)) => exact .tail _ (.tail _ (.tail _ (.tail _ h)))
  have hneI : ∀ p ∈ (Lt, W.listOf #[.str (Str.ofString "") t0, .str (Str.ofString "") t1, .str (Str.ofString "") t2, .str (Str.ofString "") t3] 0) :: (Wd, W.listOf #[] 0) :: (Sg, W.listOf #[] 0) :: (En, W.listOf ue.toArray n2) :: (S, W.listOf us.toArray n1) :: (L + 1 + 1 + 1, o3) :: (L + 1 + 1, o2) :: (L + 1, o1) :: tups, p.1 ≠ s.heap.objs.size := fun p hp => Nat.ne_of_lt (Heap.lt_size (N p (hmem p hp)).1)
  have N2 : News B L h9 ((s.heap.objs.size, W.listOf (((tups.map fun p => Value.ref p.1).toArray.toList ++ (tups.map fun p => Value.ref p.1).toArray.toList).toArray) 0) :: (Lt, W.listOf #[.str (Str.ofString "") t0, .str (Str.ofString "") t1, .str (Str.ofString "") t2, .str (Str.ofString "") t3] 0) :: (Wd, W.listOf #[] 0) :: (Sg, W.listOf #[] 0) :: (En, W.listOf ue.toArray n2) :: (S, W.listOf us.toArray n1) :: (L + 1 + 1 + 1, o3) :: (L + 1 + 1, o2) :: (L + 1, o1) :: tups) := by
    intro p hp
    rcases List.mem_cons.mp hp with h | hp
    · exact h ▸ N1 _ (.head _)
    · exact N1 p (.tail _ (hmem p hp))
  clear N1 F N hmem
  refine law_list (RJ8 L S En Lt Wd Sg us ue n1 n2 o1 o2 o3 tups (evsOf ends ++ evsOf ends)) (fun _ _ _ _ _ _ h => h) rfl F1 N2 ?hne hG ?hj ?turn ?done
  case hne => exact hneI
  case hj =>
    refine ⟨#[], #[], _, _, _, _, _, _, _, _, _, _, _, [], [], rfl, .nil, .nil, rfl, by decide, by decide, by decide, by decide, Nat.le_refl _, Nat.le_refl _, ?_⟩
    simp only [List.forall_mem_cons]
    exact ⟨rfl, rfl, rfl, rfl, rfl, fun _ h => nomatch h⟩
  case turn =>
    clear F1 N2
    intro i v m news h tk gg own hv ho hgg hJ F1 N1
    obtain ⟨wv, sv, l0, l1', l2', l3', t0, t1, t2, t3, n3, n4, n5, Ws, Ss, rfl, hW, hS, hfold, hl0, hl1, hl2, hl3, hsw, hss, hm⟩ := hJ
    replace F1 := fr_with F1 _ hm
    dsimp only [withK] at F1
    obtain ⟨k, p, hk, hp, rfl, hev⟩ := item16 (ends := ends) hl hv
    obtain ⟨p', hp', x, u, v, hcol⟩ := hrow.2 k hk
    rw [hp] at hp'
    cases hp'
    have hpm : p ∈ tups := List.mem_of_getElem? hp
    have hq1 : ∀ q ∈ tups ++ own, @Ne Nat q.1 Lt := fun q hq => (List.mem_append.mp hq).elim (fun h => Nat.ne_of_lt (by have := hlt q h; omega)) fun h => ho q h Lt (.head _)
    have hq2 : ∀ q ∈ tups ++ own, @Ne Nat q.1 Wd := fun q hq => (List.mem_append.mp hq).elim (fun h => Nat.ne_of_lt (by have := hlt q h; omega)) fun h => ho q h Wd (.tail _ (.head _))
    have hq3 : ∀ q ∈ tups ++ own, @Ne Nat q.1 Sg := fun q hq => (List.mem_append.mp hq).elim (fun h => Nat.ne_of_lt (by have := hlt q h; omega)) fun h => ho q h Sg (.tail _ (.tail _ (.head _)))
    have hpt := N1 p (List.mem_append_left _ (.tail _ (.tail _ (.tail _ (.tail _ (.tail _ (.tail _ (.tail _ (.tail _ hpm)))))))))
    clear ho
    simp only [List.cons_append] at N1
    generalize hrest : tups ++ own = rest at N1 hq1 hq2 hq3
    have N2 : News B L h ((p.1, p.2) :: _ ) := fun q hq => (List.mem_cons.mp hq).elim (fun e => e ▸ hpt) (N1 q)
    rw [hcol] at N2
    clear N1
    have h8 := he8 k
    have h8d := fdiv_in h8
    have h8m := fmod_in (ends.getD k 0) (show (0 : Int) < 2 by decide)
    have hi : i < 16 := by
      have h1 := (List.getElem?_eq_some_iff.mp hev).1
      have h2 : (evsOf ends ++ evsOf ends).length = 16 := by simp [evsOf]
      omega
    unfold colOf at N2
    simp only [Int.toNat_natCast] at N2
    have hne0 : @Ne Nat p.1 Lt := Nat.ne_of_lt (by have := hlt p hpm; omega)
    have hne1 : @Ne Nat p.1 Wd := Nat.ne_of_lt (by have := hlt p hpm; omega)
    have hne2 : @Ne Nat p.1 Sg := Nat.ne_of_lt (by have := hlt p hpm; omega)
    generalize p.1 = pa at *
    clear hcol hpt
    dsimp only
    generalize hueOf (2 * (k : Int) + (sums.getD k 0).fmod 2) = hu at N2
    have hd : (ends.getD k 0).fdiv 2 = 0 ∨ (ends.getD k 0).fdiv 2 = 1 ∨ (ends.getD k 0).fdiv 2 = 2 ∨ (ends.getD k 0).fdiv 2 = 3 := by omega
    have hxl := extra_len ((ends.getD k 0).fdiv 2)
    have hb : (ends.getD k 0).fmod 2 = 0 ∨ (ends.getD k 0).fmod 2 = 1 := by omega
    generalize (ends.getD k 0).fdiv 2 = d at *
    generalize hval : (if (ends.getD k 0).fmod 2 = 0 then (4607182418800017408 : UInt64) else 4602678819172646912) = val at N2
    generalize hQx : LPost B L _ _ _ _ _ = Qx
    revert Qx
    refine barrier ?_
    intro Qx hQx
    k_steps
    unfold Hold3
    have nh : NoHold7 := ⟨⟩
    obtain ⟨i1, i2, i3, i4⟩ := item_t h8d.1 h8d.2
    rcases hb with hb | hb
    · rw [if_pos hb] at hval
      subst hval
      rw [decide_eq_true hb] at hev
      k_steps
      rename Fr _ _ _ _ => F9
      rename News _ _ _ _ => N9
      rename _ = List.set _ _ _ => hset
      rw [← hQx]
      refine read_end F9 N9 hrest hgg hW hS hfold hev hl0 hl1 hl2 hl3 hsw hss rfl rfl (hset.trans ?_) i3 ?_
      · rw [← i1]
      · simp only [List.forall_mem_cons]
        exact ⟨rfl, rfl, rfl, rfl, rfl, fun _ h => nomatch h⟩
    · rw [if_neg (by omega)] at hval
      subst hval
      rw [decide_eq_false (show ¬ (ends.getD k 0).fmod 2 = 0 by omega)] at hev
      k_steps
      rename Fr _ _ _ _ => F9
      rename News _ _ _ _ => N9
      rename _ = List.set _ _ _ => hset
      rw [← hQx]
      refine read_end F9 N9 hrest hgg hW hS hfold hev hl0 hl1 hl2 hl3 hsw hss rfl rfl (hset.trans ?_) i4 ?_
      · rw [← i2]
      · simp only [List.forall_mem_cons]
        exact ⟨rfl, rfl, rfl, rfl, rfl, fun _ h => nomatch h⟩
  case done =>
    rintro m news h tk gg hgg ⟨wv, sv, l0, l1', l2', l3', t0, t1, t2, t3, n3, n4, n5, Ws, Ss, rfl, hW, hS, hfold, hl0, hl1, hl2, hl3, hsw, hss, hm⟩ F1 N1
    have hz : (((tups.map fun p => Value.ref p.1).toArray.toList ++ (tups.map fun p => Value.ref p.1).toArray.toList).toArray : Array Value).size = 16 := by simp [hl]
    rw [hz, List.take_of_length_le (by simp [evsOf])] at hfold
    refine hret h tk gg m wv sv n4 n5 Ws Ss hgg F1 ?_ hW hS ?_ ?_ ?_
    · intro p hp
      exact N1 p (.tail _ (List.mem_append_left _ hp))
    · exact congrArg (fun q => q.1) hfold
    · exact congrArg (fun q => q.2.1) hfold
    · intro q hq
      refine hm q ?_
      simp only [List.mem_cons, List.not_mem_nil, or_false] at hq ⊢
      rcases hq with h | h | h | h
      · exact .inl h
      · exact .inr (.inl h)
      · exact .inr (.inr (.inl h))
      · exact .inr (.inr (.inr (.inl h)))
end
section
set_option maxRecDepth 100000
set_option maxHeartbeats 2000000
section
variable {prog : Program} {w : World} {A : Around} {h₀ : Heap} {L : Addr} {m : Str → Option Value} {env : Env} {ct elt : Expr} {x : Str} {scope : Scope} {cl : List (Str × Addr)} {s : Shared} {S : List (Addr × Obj) → Prop} {P : Nat → Value → Prop} {Fin : List Value → List (Addr × Obj) → Prop} {news : List (Addr × Obj)}
/-- ints that pass a test, one turn for all -/
theorem filt_rest {n : Nat} {ks : List Int} (p : Int → Bool) (hks : ks.length = n) (hP : ∀ i v, i < n → P i v → ∃ k t, ks[i]? = some k ∧ v = .int k t)
    (turn : ∀ k t I oI C oC D m₂ ys h tk (E' : Value → Shared → Prop), k ∈ ks → LCg.NsObj oC m₂ → m₂ x = some (.int k t) → Fr h₀ L h m → News h₀ L h ((I, oI) :: (C, oC) :: (D, LCg.lst ys) :: news) → LCg.Off3 I C D news → ((@Ne Nat I C) ∧ (@Ne Nat I D) ∧ (@Ne Nat C D)) →
      wpAny (model prog w) A (isTrue ct (compEnvC scope cl C env) (eval ct (compEnvC scope cl C env))) (fun ok s' => if ok = true then
        wpAny (model prog w) A (eval elt (compEnvC scope cl C env)) (LCg.CompEnd h₀ L m { s with heap := h, toks := tk } I oI C oC D (LCg.lst ys) S (fun y news' => p k = true ∧ news' = news ∧ ∃ t : Tok, y = .int k t)) E' s'
        else LCg.CompEnd h₀ L m { s with heap := h, toks := tk } I oI C oC D (LCg.lst ys) S (fun _ news' => p k = false ∧ news' = news) Value.none s') E' { s with heap := h, toks := tk })
    (fin : ∀ ys, IntsAre ys (ks.filter p) → Fin ys news) : LCt.CompRestT prog w A h₀ L m env ct elt x scope cl s S P Fin n 0 [] news := by
  have key : ∀ (j i : Nat) (ys : List Value), i + j = n → IntsAre ys ((ks.take i).filter p) → LCt.CompRestT prog w A h₀ L m env ct elt x scope cl s S P Fin j i ys news := by
    intro j
    induction j with
    | zero =>
      intro i ys hi hy
      have e : i = ks.length := by omega
      subst e
      rw [List.take_length] at hy
      exact LCt.CompRestT.zero (fin ys hy)
    | succ j ih =>
      intro i ys hi hy
      refine LCt.CompRestT.succ ?_
      intro v I oI C oC D m₂ h tk E' hv hC hx F N off ne
      obtain ⟨k, t, hk, hv'⟩ := hP i v (by omega) hv
      rw [hv'] at hx
      refine wpAny_mono (turn k t I oI C oC D m₂ ys h tk E' (List.mem_of_getElem? hk) hC hx F N off ne) (fun ok s' hq => ?_) fun _ _ e => e
      cases ok with
      | true =>
        simp only [if_true] at hq ⊢
        refine wpAny_mono hq (fun y s₂ hq => ?_) fun _ _ e => e
        obtain ⟨h', tk', nw, e, F', N', off', hS, hp, hn, t', hy'⟩ := hq
        subst hn
        refine ⟨h', tk', nw, e, F', N', off', hS, ?_⟩
        rw [hy']
        refine ih (i + 1) _ (by omega) ?_
        rw [List.take_add_one, hk, List.filter_append]
        have e1 : List.filter p (some k).toList = [k] := by simp [hp]
        rw [e1]
        exact IntsAre.append hy (.cons k t' .nil)
      | false =>
        simp only [Bool.false_eq_true, if_false] at hq ⊢
        obtain ⟨h', tk', nw, e, F', N', off', hS, hp, hn⟩ := hq
        subst hn
        refine ⟨h', tk', nw, e, F', N', off', hS, ?_⟩
        refine ih (i + 1) _ (by omega) ?_
        rw [List.take_add_one, hk, List.filter_append]
        have e1 : List.filter p (some k).toList = [] := by simp [hp]
        rw [e1, List.append_nil]
        exact hy
  exact key n 0 [] (by omega) (by simp only [List.take_zero, List.filter_nil]; exact .nil)
end
end
section
set_option maxRecDepth 100000
set_option maxHeartbeats 4000000
noncomputable abbrev lawE9 (L fa : Addr) (cd : Value) : Env := envX (Str.ofString "law") lawDef.2 L fa cd [(Str.ofString "between", L + 1 + 1 + 1), (Str.ofString "over", L + 1 + 1), (Str.ofString "j", L + 1)]
theorem rowsW100 : True := by
  k_with_none
  k_with "exec For Name Call cons nil" => (refine holdG ?_)
  k_with "exec For Name List cons nil" => (refine holdG ?_)
  k_with "pyIter ref" => (refine holdG ?_)
  k_with "call ref" => (refine holdG ?_)
  trivial
/-- what _levenshtein_distance tells -/
noncomputable def LevIs (a b : Str) (m r : Int) : Prop := (a = b ∧ r = 0) ∨ (levOk a b m = true ∧ levCore (levA a b) (levB a b) m = r)
noncomputable def ChkIs (x : Str) (b : Bool) : Prop := strIterType x = "str_ascii_iterator" ∧ x.length ≤ 200 ∧ strIterType (stripF x) = "str_ascii_iterator" ∧ (stripF x).length ≤ 200 ∧ chkF x = b
section
variable {w : World} {E : Value → Shared → Prop} {s : Shared} {B : Heap} {L : Addr} {m : Str → Option Value} {news : List (Addr × Obj)} {mean : ExcName → Option Value} {mg mb : Str → Option Value}
theorem lev_K {a b : Str} {k r : Int} {th ts tv : Tok} {Q : Value → Shared → Prop} (F : Fr B L s.heap m) (N : News B L s.heap news) (hK : (hd.heap_39 w.params).In B) (hT : Top hd.view_39 (looseW hd.view_39 []) mean mg mb B) (hr : LevIs a b k r)
    (hq : ∀ t h' tk', Fr B L h' m → News B L h' news → Q (.int r t) { s with heap := h', toks := tk' }) :
    wpAny (model Challenge.rw_re0084_01.prog w) (AA 305 30) (call (.ref 63) [.str a th, .str b ts, .int k tv]) Q E s := by
  rcases hr with ⟨rfl, rfl⟩ | ⟨hok, rfl⟩
  · refine wpAny_wk (lev_ctr0 w a k th ts tv mean mg mb s Q E (hK.keeps F.keep) (hT.keeps F.keep) ?_) rfl (Nat.le_of_ble_eq_true rfl) rfl rfl (Nat.le_of_ble_eq_true rfl)
    rintro _ h' tk' hk ⟨t, rfl⟩
    exact hq t h' tk' (F.grownK hk) (N.grown hk)
  · refine wpAny_wk (lev_ctr w a b k th ts tv hok mean mg mb s Q E (hK.keeps F.keep) (hT.keeps F.keep) ?_) rfl (Nat.le_of_ble_eq_true rfl) rfl rfl (Nat.le_of_ble_eq_true rfl)
    rintro _ h' tk' hk ⟨t, rfl⟩
    exact hq t h' tk' (F.grownK hk) (N.grown hk)
theorem chk_K {x : Str} {b : Bool} {t : Tok} {Q : Value → Shared → Prop} (F : Fr B L s.heap m) (N : News B L s.heap news) (hK : (hd.heap_39 w.params).In B) (hT : Top hd.view_39 (looseW hd.view_39 []) mean mg mb B) (hG : AllBare s.gens) (hr : ChkIs x b)
    (hq : ∀ h' tk' gg', AllBare gg' → Fr B L h' m → News B L h' news → Q (.bool b) { s with heap := h', toks := tk', gens := gg' }) :
    wpAny (model Challenge.rw_re0084_01.prog w) (AA 305 30) (call (.ref 35) [.str x t]) Q E s := by
  obtain ⟨h1, h2, h3, h4, rfl⟩ := hr
  refine wpAny_wk (chk_ctr w x t h1 h2 h3 h4 mean mg mb s Q E (hK.keeps F.keep) (hT.keeps F.keep) hG ?_) rfl (Nat.le_of_ble_eq_true rfl) rfl rfl (Nat.le_of_ble_eq_true rfl)
  rintro _ h' tk' gg' hk hb rfl
  exact hq h' tk' gg' hb (F.grownK hk) (N.grown hk)
end

theorem rowsW101 : True := by
  k_with "call ref" => (k_here; (with_reducible show wpAny _ _ (call (Value.ref 63) [Value.str _ _, Value.str _ _, Value.int _ _]) _ _ _); (rename Fr _ _ _ _ => F'); (rename News _ _ _ _ => N'); k_dflt (refine lev_K F' N' (by k_asm) (by k_asm) (by with_reducible assumption) ?_); clear F' N'; intro _ _ _ _ _; (try dsimp only))
  trivial
theorem known6 {m : Str → Option Value} {x1 x2 x3 x4 x5 x6 : Str} {v1 v2 v3 v4 v5 v6 : Value} (h1 : m x1 = some v1) (h2 : m x2 = some v2) (h3 : m x3 = some v3) (h4 : m x4 = some v4) (h5 : m x5 = some v5) (h6 : m x6 = some v6) :
    ∀ p ∈ [(x1, v1), (x2, v2), (x3, v3), (x4, v4), (x5, v5), (x6, v6)], m p.1 = some p.2 := by
  simp only [List.forall_mem_cons]
  exact ⟨h1, h2, h3, h4, h5, h6, fun _ h => nomatch h⟩
noncomputable def passL (over : List Int) (i n : Nat) : List Int := (rangeKs 0 (n + 1)).map fun k => over.getD (((i : Int) + k).fmod 8).toNat 0
noncomputable def passB (over : List Int) (i n : Nat) : Bool := decide ((passL over i n).getD 0 0 = (passL over i n).getD n 0) && (passL over i n).all fun a => decide ((passL over i n).getD 0 0 ≤ a)

noncomputable def lawB11 : List Stmt := match lawSt 11 with
  | .For _ _ body _ _ => body
  | _ => []
noncomputable def betweenF (ends : List Int) (i : Nat) (lag : Int) : List Int := (((ends ++ ends).drop i).take lag.toNat).map fun k => k.fdiv 2
noncomputable def partedF (bs : List Int) : Int := ((([0, 1, 2, 3] : List Int).filter fun k => bs.count k == 1).length : Nat)
noncomputable def HidEq (a b : List Int) : Prop := a = b
structure NoHold10 : Prop where
theorem rowsW102 : True := by
  k_with "CompSrcT" => (refine holdG ?_)
  k_with "eval ListComp" => ((fail_if_success (have nh9 : NoHold10 := by assumption)); (with_reducible show wpAny _ _ (eval (Expr.ListComp _ [⟨_, _, [_], _⟩] _ _) _) _ _ _); refine holdG ?_)
  trivial
theorem tail11 (w : World) (L : Nat) (fa : Addr) (cd : Value) (B : Heap) (mean : ExcName → Option Value) (mg mb : Str → Option Value) (s : Shared) (Q : Flow → Shared → Prop)
    (hK : (hd.heap_39 w.params).In B) (hT : Top hd.view_39 (looseW hd.view_39 []) mean mg mb B)
    (S En Wd Sg Ov : Nat) (us ue uo : List Value) (wv sv : Array Value) (n1 n2 n4 n5 n6 : Nat) (ends : List Int) (Ws : List Str) (lag : Int) (tl ti tw : Tok) (he : IntsAre ue ends) (hel : ends.length = 8) (hW : StrsAre wv.toList Ws) (hWl : Ws.length = 16) (hlag0 : 1 ≤ lag) (hlag1 : lag ≤ 4) (i : Nat) (hi : i < 8) (word : Str)
    (o1 o2 o3 : Obj) (v3 : Option Value) (d1 : o1.data = .cell (some (.int (i : Int) ti))) (d2 : o2.data = .cell (some (.ref Ov))) (d3 : o3.data = .cell v3) (m : Str → Option Value) (own : List (Addr × Obj))
    (m1 : m (Str.ofString "lag") = some (.int lag tl)) (m2 : m (Str.ofString "word") = some (.str word tw)) (m3 : m (Str.ofString "sums") = some (.ref S)) (m4 : m (Str.ofString "ends") = some (.ref En)) (m5 : m (Str.ofString "signs") = some (.ref Sg)) (m6 : m (Str.ofString "words") = some (.ref Wd))
    (l1 : L + 3 < S) (l2 : S < En) (l3 : En < Sg) (l4 : Sg < Wd) (l5 : Wd < Ov) (hoff : ∀ p ∈ own, p.1 ≠ L + 1 + 1 + 1)
    (F : Fr B L s.heap m) (N : News B L s.heap ((Ov, W.listOf uo.toArray n6) :: (Wd, W.listOf wv n4) :: (Sg, W.listOf sv n5) :: (En, W.listOf ue.toArray n2) :: (S, W.listOf us.toArray n1) :: (L + 1 + 1 + 1, o3) :: (L + 1 + 1, o2) :: (L + 1, o1) :: own))
    (H3 : LevIs word (Ws.getD (8 + ((i : Int) + lag).fmod 8).toNat Str.empty) (partedF (betweenF ends i lag) - 1) (partedF (betweenF ends i lag)))
    (hret : ∀ h' tk' m' news' o3' v3', Fr B L h' m' → News B L h' news' → o3'.data = .cell v3' → m' (Str.ofString "lag") = some (.int lag tl) → m' (Str.ofString "sums") = some (.ref S) → m' (Str.ofString "ends") = some (.ref En) → m' (Str.ofString "signs") = some (.ref Sg) → m' (Str.ofString "words") = some (.ref Wd) →
      (∀ p ∈ ((Ov, W.listOf uo.toArray n6) :: (Wd, W.listOf wv n4) :: (Sg, W.listOf sv n5) :: (En, W.listOf ue.toArray n2) :: (S, W.listOf us.toArray n1) :: (L + 1 + 1 + 1, o3') :: (L + 1 + 1, o2) :: (L + 1, o1) :: own), p ∈ news') → Q .next { s with heap := h', toks := tk' }) :
    wpAny (model Challenge.rw_re0084_01.prog w) (AA 305 30) (execs (lawB11.drop 3) (lawE9 L fa cd)) Q (fun _ _ => False) s := by
  revert hK
  k_fill
  intro hK
  replace F := fr_with F _ (known6 m3 m4 m5 m6 m1 m2)
  dsimp only [withK] at F
  show wpAny _ _ (execs [Stmt.Assign _ _ _, Stmt.Assign _ _ _, Stmt.If _ _ _ _] _) _ _ _
  k_steps
  unfold HoldG
  have nh : NoHold10 := ⟨⟩
  rename IntsAre _ (List.map _ _) => hIy
  rename (_ = Data.cell (some (Value.ref _))) => dO
  obtain ⟨bs, hbs, hIy'⟩ : ∃ bs, HidEq bs _ ∧ IntsAre _ bs := ⟨_, rfl, hIy⟩
  have hbl : bs.length ≤ 16 := by
    have e : bs = _ := hbs
    rw [e, List.length_map]
    refine Nat.le_trans (List.length_take_le' _ _) ?_
    rw [List.length_drop, List.length_append, hel]
    exact Nat.sub_le _ _
  clear hIy
  rename Fr _ _ _ _ => F5
  rename News _ _ _ _ => N5
  refine LCt.ListComp_T (F₀ := F5) (by with_unfolding_all rfl) (by decide) (by rfl) (by decide) (by rfl) ?_
  k_steps
  unfold HoldG
  rename Fr _ _ _ _ => F6
  rename News _ _ _ _ => N6
  rename IsRange _ _ _ _ _ _ _ _ => R6
  refine LCt.CompSrcT.range (n := 4) rfl F6 N6 R6 (by decide) (by decide) (Nat.le_of_ble_eq_true rfl) ?_
  intro g'
  refine filt_rest (ks := [0, 1, 2, 3]) (fun k => bs.count k == 1) rfl ?hP ?turn ?fin
  case hP =>
    rintro i v hi ⟨t, rfl⟩
    match i, hi with
    | 0, _ => exact ⟨_, _, rfl, rfl⟩
    | 1, _ => exact ⟨_, _, rfl, rfl⟩
    | 2, _ => exact ⟨_, _, rfl, rfl⟩
    | 3, _ => exact ⟨_, _, rfl, rfl⟩
  case turn =>
    clear F6 N6 R6
    intro k t I oI C oC D m₂ ys h tk E' hk hC hx F' N' off' ne'
    (try dsimp only)
    k_steps
    all_goals (rename Fr _ _ _ _ => F9; rename News _ _ _ _ => N9)
    · exact LCg.CompEnd.intro F9 N9 _ (fun p hp => hp) off' trivial ⟨by rw [beq_iff_eq]; omega, rfl, _, rfl⟩
    · exact LCg.CompEnd.intro F9 N9 _ (fun p hp => hp) off' trivial ⟨by rw [beq_eq_false_iff_ne]; omega, rfl⟩
  case fin =>
    clear F6 N6 R6
    intro ys hys D h tk F7 F7n hoff1
    have hyl : ys.length ≤ 4 := by
      rw [hys.length]
      exact Nat.le_trans (List.length_filter_le _ _) (Nat.le_refl 4)
    (try dsimp only)
    have hbe : bs = betweenF ends i lag := by
      have e : bs = _ := hbs
      rw [e]
      unfold betweenF
      rw [List.length_append, hel]
      congr 2
      omega
    k_steps
    refine call_len_list (items := ys.toArray) ⟨_, (F7n _ (.head _)).1, rfl, _, rfl⟩ (by simp; omega) ?_
    have hz : ((ys.toArray.size : Nat) : Int) = partedF bs := by
      rw [List.size_toArray, hys.length]; rfl
    rw [hz, hbe]
    generalize hpe : partedF (betweenF ends i lag) = pd at *
    dsimp only
    clear hbs hys hoff1
    have hfm : 0 ≤ ((i : Int) + lag).fmod 8 ∧ ((i : Int) + lag).fmod 8 < 8 := ⟨Int.fmod_nonneg_of_pos _ (by decide), Int.fmod_lt_of_pos _ (by decide)⟩
    k_steps
    all_goals first
      | exact absurd rfl (by assumption)
      | (rename Fr _ _ _ _ => F7
         rename News _ _ _ _ => N7
         exact hret _ _ _ _ _ _ F7 N7 dO rfl rfl rfl rfl rfl fun p hp => .tail _ (.tail _ (.tail _ (.tail _ hp))))
end
section
set_option maxRecDepth 100000
set_option maxHeartbeats 4000000
theorem rowsW90 : True := by
  k_with_none
  k_with "exec For Name Call cons nil" => (refine holdG ?_)
  k_with "exec For Name List cons nil" => (refine holdG ?_)
  k_with "pyIter ref" => (refine holdG ?_)
  k_with "call ref" => (refine holdG ?_)
  k_with "call ref" => (k_here; (with_reducible show wpAny _ _ (call (Value.ref 63) [Value.str _ _, Value.str _ _, Value.int _ _]) _ _ _); (rename Fr _ _ _ _ => F'); (rename News _ _ _ _ => N'); k_dflt (refine lev_K F' N' (by k_asm) (by k_asm) (by with_reducible assumption) ?_); clear F' N'; intro _ _ _ _ _; (try dsimp only))
  trivial
inductive J11I (L S En Wd Sg Ov : Nat) (us ue uo : List Value) (wv sv : Array Value) (n1 n2 n4 n5 n6 : Nat) (lag : Int) (m : Str → Option Value) (news : List (Addr × Obj)) : Prop
  | mk (o1 o2 o3 : Obj) (v1 v3 : Option Value) (tl : Tok) (hn : news = (Ov, W.listOf uo.toArray n6) :: (Wd, W.listOf wv n4) :: (Sg, W.listOf sv n5) :: (En, W.listOf ue.toArray n2) :: (S, W.listOf us.toArray n1) :: (L + 1 + 1 + 1, o3) :: (L + 1 + 1, o2) :: (L + 1, o1) :: []) (d1 : o1.data = .cell v1) (d2 : o2.data = .cell (some (.ref Ov))) (d3 : o3.data = .cell v3)
    (hm : ∀ p ∈ [(Str.ofString "sums", Value.ref S), (Str.ofString "ends", Value.ref En), (Str.ofString "signs", Value.ref Sg), (Str.ofString "words", Value.ref Wd), (Str.ofString "lag", Value.int lag tl)], m p.1 = some p.2) : J11I L S En Wd Sg Ov us ue uo wv sv n1 n2 n4 n5 n6 lag m news
noncomputable abbrev J11 (L S En Wd Sg Ov : Nat) (us ue uo : List Value) (wv sv : Array Value) (n1 n2 n4 n5 n6 : Nat) (lag : Int) (_i _tk : Nat) (m : Str → Option Value) (news : List (Addr × Obj)) : Prop := J11I L S En Wd Sg Ov us ue uo wv sv n1 n2 n4 n5 n6 lag m news
theorem strs_drop : ∀ {vs : List Value} {ys : List Str} (k : Nat), StrsAre vs ys → StrsAre (vs.drop k) (ys.drop k)
  | _, _, 0, h => h
  | _, _, _ + 1, .nil => .nil
  | _, _, k + 1, .cons _ _ r => strs_drop k r
theorem strs_take : ∀ {vs : List Value} {ys : List Str} (k : Nat), StrsAre vs ys → StrsAre (vs.take k) (ys.take k)
  | _, _, 0, _ => .nil
  | _, _, _ + 1, .nil => .nil
  | _, _, k + 1, .cons y t r => .cons y t (strs_take k r)
theorem sum_le9 {l : List Str} {n : Nat} (h : ∀ r ∈ l, r.length ≤ n) : (l.map (·.length)).sum ≤ l.length * n := by
  induction l with
  | nil => exact Nat.zero_le _
  | cons a l ih =>
    have h1 := h a (.head _)
    have h2 := ih fun r hr => h r (.tail _ hr)
    simp only [List.map_cons, List.sum_cons, List.length_cons, Nat.succ_mul]
    omega
theorem pick_strs {sv : Array Value} {Ss : List Str} {i n : Nat} (hS : StrsAre sv.toList Ss) (hb : ∀ x ∈ Ss, x.length ≤ 8) (hn : i + n ≤ Ss.length ∧ n ≤ 8) :
    StrsAre (slicePick sv (some (i : Int)) (some ((i : Int) + (n : Int))) none).toList ((Ss.drop i).take n) ∧ ((((Ss.drop i).take n).map (·.length)).sum + ((Ss.drop i).take n).length ≤ 1048576) := by
  have hl : sv.size = Ss.length := by simpa using hS.length
  constructor
  · rw [← Int.natCast_add, slicePick_run sv i (i + n) (by omega) (by omega), Nat.add_sub_cancel_left]
    exact strs_take n (strs_drop i hS)
  · have h1 := sum_le9 (l := (Ss.drop i).take n) (n := 8) fun r hr => hb r (List.mem_of_mem_drop (List.mem_of_mem_take hr))
    have h2 : ((Ss.drop i).take n).length ≤ 8 := by rw [List.length_take]; omega
    have h3 : ((Ss.drop i).take n).length * 8 ≤ 8 * 8 := Nat.mul_le_mul_right _ h2
    omega
theorem join_pick {prog : Program} {w : World} {A : Around} {E : Value → Shared → Prop} {s : Shared} {D : Addr} {items : Array Value} {ys : List Str} {t : Tok} {c : Nat} {Q : Value → Shared → Prop} (ho : s.heap.get? D = some { cls := .type "list", data := .seq items c }) (hi : StrsAre items.toList ys) (hw : (ys.map (·.length)).sum + ys.length ≤ 1048576)
    (h : ∀ t' k, Q (.str (Txt.join (Str.ofString "") ys) t') { s with toks := k }) : wpAny (model prog w) A (call (.builtin "str.join") [.str (Str.ofString "") t, .ref D]) Q E s :=
  join_listW ⟨_, ho, rfl, _, rfl⟩ hi (by decide) hw h
theorem isi_bool {w : World} {E : Value → Shared → Prop} {s : Shared} {b : Bool} {Q : Value → Shared → Prop} (hK : (hd.heap_39 w.params).In s.heap) (h : ∀ tk, Q (.bool true) { s with toks := tk }) :
    wpAny (model Challenge.rw_re0084_01.prog w) (AA 305 30) (call (.builtin "isinstance") [.bool b, .type "bool"]) Q E s := by
  refine kia_one (K := hd.heap_39 w.params) kitx_bool hK trivial ?ee (by intro q; cases q) h
  kernel_rfl
structure NoHold9 : Prop where
theorem rowsW91 : True := by
  k_with "isTrue BoolOp" => (dsimp only)
  k_with "isTrue BoolOp" => ((fail_if_success (have nh9 : NoHold9 := by assumption)); refine holdG ?_)
  k_with "isTrue Compare" => (dsimp only)
  k_with "call builtin:isinstance" => (k_here; refine isi_bool (Frag.In.keeps (by k_asm) (Fr.keep ‹Fr _ _ _ _›)) ?_; intro _; (try dsimp only))
  k_with "call builtin:str.join" => (k_here; k_dflt (refine join_pick (News.get ‹News _ _ _ _› (by k_mem)) (by with_reducible assumption) (by with_reducible assumption) ?_); intro _ _)
  k_with "call ref" => (k_here; (with_reducible show wpAny _ _ (call (Value.ref 35) [Value.str _ _]) _ _ _); (rename Fr _ _ _ _ => F'); (rename News _ _ _ _ => N'); k_dflt (refine chk_K F' N' (by k_asm) (by k_asm) (by with_reducible assumption) (by with_reducible assumption) ?_); clear F' N'; intro _ _ _ _ _ _; (try dsimp only))
  trivial
inductive J12I (L S En Wd Sg Ov : Nat) (us ue uo : List Value) (wv sv : Array Value) (n1 n2 n4 n5 n6 : Nat) (lag j : Int) (word : Str) (own : List (Addr × Obj)) (m : Str → Option Value) (news : List (Addr × Obj)) : Prop
  | mk (o1 o2 o3 : Obj) (v3 : Option Value) (ti : Tok) (hn : news = (Ov, W.listOf uo.toArray n6) :: (Wd, W.listOf wv n4) :: (Sg, W.listOf sv n5) :: (En, W.listOf ue.toArray n2) :: (S, W.listOf us.toArray n1) :: (L + 1 + 1 + 1, o3) :: (L + 1 + 1, o2) :: (L + 1, o1) :: own) (d1 : o1.data = .cell (some (.int j ti))) (d2 : o2.data = .cell (some (.ref Ov))) (d3 : o3.data = .cell v3)
    (m1 : ∃ tl, m (Str.ofString "lag") = some (.int lag tl)) (m2 : ∃ tw, m (Str.ofString "word") = some (.str word tw)) (m3 : m (Str.ofString "sums") = some (.ref S)) (m4 : m (Str.ofString "ends") = some (.ref En)) (m5 : m (Str.ofString "signs") = some (.ref Sg)) (m6 : m (Str.ofString "words") = some (.ref Wd)) : J12I L S En Wd Sg Ov us ue uo wv sv n1 n2 n4 n5 n6 lag j word own m news
noncomputable abbrev J12 (L S En Wd Sg Ov : Nat) (us ue uo : List Value) (wv sv : Array Value) (n1 n2 n4 n5 n6 : Nat) (lag j : Int) (word : Str) (own : List (Addr × Obj)) (_i _tk : Nat) (m : Str → Option Value) (news : List (Addr × Obj)) : Prop := J12I L S En Wd Sg Ov us ue uo wv sv n1 n2 n4 n5 n6 lag j word own m news
theorem allLt_mem {d : Nat} : ∀ l : List (Addr × Obj), AllLt d l → ∀ p ∈ l, @LT.lt Nat _ p.1 d
  | [], _, _, h => nomatch h
  | q :: r, h, p, hp => by
    rcases List.mem_cons.mp hp with rfl | hp
    · exact h.1
    · exact allLt_mem r h.2 p hp
theorem pass_eq {ps : List Int} {n : Nat} {M : Int} (hl : ps.length = n + 1) (h1 : ps.getD (Int.toNat 0) 0 = ps.getD (-1 + (ps.length : Int)).toNat 0) (hM : M ∈ ps) (hm : ∀ a ∈ ps, M ≤ a) :
    (decide (ps.getD 0 0 = ps.getD n 0) && ps.all fun a => decide (ps.getD 0 0 ≤ a)) = (ps.getD (Int.toNat 0) 0 == M) := by
  rw [show (-1 + (ps.length : Int)).toNat = n by omega] at h1
  have h0 : Int.toNat 0 = 0 := rfl
  rw [h0] at h1 ⊢
  rw [decide_eq_true h1, Bool.true_and]
  have h2 : ps.getD 0 0 ∈ ps := by
    rw [List.getD_eq_getElem?_getD, List.getElem?_eq_getElem (by omega)]
    exact List.getElem_mem _
  by_cases he : ps.getD 0 0 = M
  · rw [beq_iff_eq.mpr he, List.all_eq_true]
    intro a ha
    rw [he]
    exact decide_eq_true (hm a ha)
  · rw [beq_eq_false_iff_ne.mpr he, List.all_eq_false]
    refine ⟨M, hM, ?_⟩
    intro hh
    have h3 := of_decide_eq_true hh
    have h4 := hm _ h2
    omega
theorem pass_ne {ps : List Int} {n : Nat} (hl : ps.length = n + 1) (h1 : ps.getD (Int.toNat 0) 0 ≠ ps.getD (-1 + (ps.length : Int)).toNat 0) :
    (decide (ps.getD 0 0 = ps.getD n 0) && ps.all fun a => decide (ps.getD 0 0 ≤ a)) = false := by
  rw [show (-1 + (ps.length : Int)).toNat = n by omega, show Int.toNat 0 = 0 from rfl] at h1
  rw [decide_eq_false h1, Bool.false_and]
theorem inner_end {L S En Wd Sg Ov : Nat} {us ue uo : List Value} {wv sv : Array Value} {n1 n2 n4 n5 n6 : Nat} {lag j : Int} {word : Str} {own own2 rest : List (Addr × Obj)} {i2 tk tk' : Nat} {m' : Str → Option Value} {B h' hh : Heap} {gg gg' : Array GenState} {s : Shared} {Q : Flow → Shared → Prop}
    {D1 D2 : Addr} {x1 x2 o1 o2 o3 : Obj} {ti : Tok} {v3 : Option Value} (F7 : Fr B L h' m') (N7 : News B L h' ((D1, x1) :: (D2, x2) :: (Ov, W.listOf uo.toArray n6) :: (Wd, W.listOf wv n4) :: (Sg, W.listOf sv n5) :: (En, W.listOf ue.toArray n2) :: (S, W.listOf us.toArray n1) :: (L + 1 + 1 + 1, o3) :: (L + 1 + 1, o2) :: (L + 1, o1) :: rest))
    (hrest : own ++ own2 = rest) (hg : AllBare gg') (d1 : o1.data = .cell (some (.int j ti))) (d2 : o2.data = .cell (some (.ref Ov))) (d3 : o3.data = .cell v3)
    (e1 : ∃ tl, m' (Str.ofString "lag") = some (.int lag tl)) (e2 : ∃ tw, m' (Str.ofString "word") = some (.str word tw)) (e3 : m' (Str.ofString "sums") = some (.ref S)) (e4 : m' (Str.ofString "ends") = some (.ref En)) (e5 : m' (Str.ofString "signs") = some (.ref Sg)) (e6 : m' (Str.ofString "words") = some (.ref Wd)) :
    LPost B L (J12 L S En Wd Sg Ov us ue uo wv sv n1 n2 n4 n5 n6 lag j word own (i2 + 1)) ((Ov, W.listOf uo.toArray n6) :: (Wd, W.listOf wv n4) :: (Sg, W.listOf sv n5) :: (En, W.listOf ue.toArray n2) :: (S, W.listOf us.toArray n1) :: (L + 1 + 1 + 1, o3) :: (L + 1 + 1, o2) :: (L + 1, o1) :: own) own2
      { s with heap := hh, toks := tk, gens := gg } Q .next { s with heap := h', toks := tk', gens := gg' } := by
  subst hrest
  refine ⟨h', tk', gg', m', _, (Ov, W.listOf uo.toArray n6) :: (Wd, W.listOf wv n4) :: (Sg, W.listOf sv n5) :: (En, W.listOf ue.toArray n2) :: (S, W.listOf us.toArray n1) :: (L + 1 + 1 + 1, o3) :: (L + 1 + 1, o2) :: (L + 1, o1) :: own, rfl, hg, F7, N7, ?_, ?_, ?_, ⟨o1, o2, o3, v3, ti, rfl, d1, d2, d3, e1, e2, e3, e4, e5, e6⟩⟩
  · intro p hp
    exact .tail _ (.tail _ (List.mem_append_left own2 hp))
  · intro p hp
    exact .tail _ (.tail _ (.tail _ (.tail _ (.tail _ (.tail _ (.tail _ (.tail _ (.tail _ (.tail _ (List.mem_append_right _ hp))))))))))
  · intro q hq
    exact .inl (List.mem_map_of_mem (f := fun p : Addr × Obj => p.1) hq)
theorem two_at {lag : Int} {t u : Tok} {i : Nat} {v : Value} (h0 : 1 ≤ lag) (h1 : lag ≤ 4) (h : (#[Value.int lag t, .int 8 u] : Array Value)[i]? = some v) : ∃ (len : Int) (tk : Tok), v = .int len tk ∧ 1 ≤ len ∧ len ≤ 8 ∧ (len = lag ∨ len = 8) := by
  match i, h with
  | 0, h => cases h; exact ⟨_, _, rfl, h0, by omega, .inl rfl⟩
  | 1, h => cases h; exact ⟨_, _, rfl, by decide, by decide, .inr rfl⟩
  | n + 2, h => cases h
theorem st11 (w : World) (L : Nat) (fa : Addr) (cd : Value) (B : Heap) (mean : ExcName → Option Value) (mg mb : Str → Option Value) (s : Shared) (Q : Flow → Shared → Prop)
    (hK : (hd.heap_39 w.params).In B) (hT : Top hd.view_39 (looseW hd.view_39 []) mean mg mb B) (hG : AllBare s.gens)
    (S En Wd Sg Ov : Nat) (us ue uo : List Value) (wv sv : Array Value) (n1 n2 n4 n5 n6 : Nat) (ends over : List Int) (Ws Ss : List Str) (lag : Int) (tl : Tok) (he : IntsAre ue ends) (hel : ends.length = 8) (ho : IntsAre uo over) (hol : over.length = 8) (hW : StrsAre wv.toList Ws) (hWl : Ws.length = 16) (hS : StrsAre sv.toList Ss) (hSl : Ss.length = 16) (hlag0 : 1 ≤ lag) (hlag1 : lag ≤ 4)
    (o1 o2 o3 : Obj) (v1 v3 : Option Value) (d1 : o1.data = .cell v1) (d2 : o2.data = .cell (some (.ref Ov))) (d3 : o3.data = .cell v3) (m : Str → Option Value)
    (hm : ∀ p ∈ [(Str.ofString "sums", Value.ref S), (Str.ofString "ends", Value.ref En), (Str.ofString "signs", Value.ref Sg), (Str.ofString "words", Value.ref Wd), (Str.ofString "lag", Value.int lag tl)], m p.1 = some p.2)
    (l1 : L + 3 < S) (l2 : S < En) (l3 : En < Sg) (l4 : Sg < Wd) (l5 : Wd < Ov)
    (F : Fr B L s.heap m) (N : News B L s.heap ((Ov, W.listOf uo.toArray n6) :: (Wd, W.listOf wv n4) :: (Sg, W.listOf sv n5) :: (En, W.listOf ue.toArray n2) :: (S, W.listOf us.toArray n1) :: (L + 1 + 1 + 1, o3) :: (L + 1 + 1, o2) :: (L + 1, o1) :: []))
    (H1 : ∀ i : Nat, i < 8 → LevIs (Ws.getD (8 + (i : Int)).toNat Str.empty) (Str.ofString "ABCD") (over.getD (i : Int).toNat 0) (over.getD (i : Int).toNat 0))
    (hSb : ∀ x ∈ Ss, x.length ≤ 8) (H2 : ∀ (i n : Nat), i < 8 → ((n : Int) = lag ∨ (n : Int) = 8) → ChkIs (Txt.join (Str.ofString "") ((Ss.drop i).take n)) (passB over i n))
    (H3 : ∀ i : Nat, i < 8 → LevIs (Ws.getD (8 + (i : Int)).toNat Str.empty) (Ws.getD (8 + ((i : Int) + lag).fmod 8).toNat Str.empty) (partedF (betweenF ends i lag) - 1) (partedF (betweenF ends i lag)))
    (hret : ∀ h' tk' gg', AllBare gg' → (∀ b o, B.get? b = some o → h'.get? b = some o) → Q .next { s with heap := h', toks := tk', gens := gg' }) :
    wpAny (model Challenge.rw_re0084_01.prog w) (AA 305 30) (exec (lawSt 11) (lawE9 L fa cd)) Q (fun _ _ => False) s := by
  revert hK
  k_fill
  intro hK
  replace F := fr_with F _ hm
  dsimp only [withK] at F
  show wpAny _ _ (exec (Stmt.For _ _ _ _ _) _) _ _ _
  k_steps
  unfold HoldG
  refine wpAny_For ?_ (fun _ => rfl)
  k_steps
  unfold HoldG
  rename Fr _ _ _ _ => F1
  rename News _ _ _ _ => N1
  rename IsRange _ _ _ _ _ _ _ _ => R1
  refine law_range (n := 8) (J11 L S En Wd Sg Ov us ue uo wv sv n1 n2 n4 n5 n6 lag) (fun _ _ _ _ _ _ h => h) rfl R1 (by decide) (by decide) F1 N1 hG ?hj ?turn ?done
  case hj =>
    refine ⟨o1, o2, o3, v1, v3, tl, rfl, d1, d2, d3, ?_⟩
    simp only [List.forall_mem_cons]
    exact ⟨rfl, rfl, rfl, rfl, rfl, fun _ h => nomatch h⟩
  case turn =>
    clear F1 N1 R1 hm d1 d2 d3
    intro i t m news h tk gg own hi hoff hgg hJ F1 N1
    obtain ⟨o1, o2, o3, v1, v3, tl, rfl, d1, d2, d3, hm⟩ := hJ
    replace F1 := fr_with F1 _ hm
    dsimp only [withK] at F1
    have hq1 : ∀ p ∈ own, p.1 ≠ L + 1 := fun p hp => hoff p hp (L + 1) (by simp)
    simp only [List.cons_append, List.nil_append] at N1
    rw [Int.zero_add]
    have h1 := H1 i hi
    dsimp only
    k_steps
    all_goals try (exact absurd rfl (by assumption))
    unfold HoldG
    rename _ = Data.cell (some (Value.int _ _)) => dj
    refine wpAny_For ?_ (fun _ => rfl)
    k_steps
    unfold HoldG
    rename Fr _ _ _ _ => F2
    rename News _ _ _ _ => N2
    rename_i lI
    obtain ⟨q1, q2, q3, q4, q5, q6, q7, q8, q9⟩ := lI
    refine law_list (J12 L S En Wd Sg Ov us ue uo wv sv n1 n2 n4 n5 n6 lag (i : Int) (Ws.getD (8 + (i : Int)).toNat Str.empty) own) (fun _ _ _ _ _ _ h => h) rfl F2 N2 ?hne hgg ?hj ?turn2 ?done2
    case hne =>
      intro p hp
      simp only [List.mem_cons] at hp
      rcases hp with h | h | h | h | h | h | h | h | h
      · rw [h]; exact Nat.ne_of_lt q1
      · rw [h]; exact Nat.ne_of_lt q2
      · rw [h]; exact Nat.ne_of_lt q3
      · rw [h]; exact Nat.ne_of_lt q4
      · rw [h]; exact Nat.ne_of_lt q5
      · rw [h]; exact Nat.ne_of_lt q6
      · rw [h]; exact Nat.ne_of_lt q7
      · rw [h]; exact Nat.ne_of_lt q8
      · exact Nat.ne_of_lt (allLt_mem own q9 p h)
    case hj =>
      exact ⟨_, _, _, _, _, rfl, dj, d2, d3, ⟨_, rfl⟩, ⟨_, rfl⟩, rfl, rfl, rfl, rfl⟩
    case turn2 =>
      clear F2 N2 d2 d3 dj hm
      intro i2 v m news h tk gg own2 hv hoff2 hgg hJ F1 N1
      obtain ⟨o1, o2, o3, v3, ti, rfl, d1, d2, d3, ⟨tl, m1⟩, ⟨tw, m2⟩, m3, m4, m5, m6⟩ := hJ
      replace F1 := fr_with F1 _ (known6 m3 m4 m5 m6 m1 m2)
      dsimp only [withK] at F1
      obtain ⟨len, tlen, rfl, hl0, hl1, hl⟩ := two_at hlag0 hlag1 hv
      obtain ⟨n, rfl⟩ : ∃ n : Nat, len = (n : Int) := ⟨len.toNat, by omega⟩
      obtain ⟨b, hcb, hc⟩ : ∃ b, b = passB over i n ∧ ChkIs (Txt.join (Str.ofString "") ((Ss.drop i).take n)) b := ⟨_, rfl, H2 i n hi hl⟩
      obtain ⟨hpk, hpw⟩ := pick_strs (sv := sv) (Ss := Ss) (i := i) (n := n) (by assumption) hSb (by omega)
      simp only [List.cons_append] at N1
      generalize hrest : own ++ own2 = rest at N1
      dsimp only
      k_steps
      unfold HoldG
      have nh : NoHold9 := ⟨⟩
      rename List Value => ys
      rename IntsAre ys _ => hIy
      rename ys.length = _ => hLy
      obtain ⟨ps, hps, hIy'⟩ : ∃ ps, HidEq ps _ ∧ IntsAre ys ps := ⟨_, rfl, hIy⟩
      have hpl : ps.length = n + 1 := by
        have e : ps = _ := hps
        rw [e, List.length_map, rangeKs_length]
        omega
      clear hIy hLy
      (try dsimp only)
      rename Fr _ _ _ _ => F5
      rename News _ _ _ _ => N5
      (try dsimp only at F5 N5)
      have hpe : ps = passL over i n := by
        have e : ps = _ := hps
        rw [e, show ((n : Int) + 1 - 0).toNat = n + 1 by omega]
        rfl
      have hb : b = passB over i n := hcb
      k_steps
      · exfalso
        rename (_ != _) = true => hbad
        rename _ ∈ ps => hM
        rename ∀ a ∈ ps, _ => hMin
        rename ps.getD _ 0 = _ => h1
        rw [hb, passB, ← hpe, pass_eq hpl h1 hM hMin] at hbad
        simp at hbad
      · rename Fr _ _ _ _ => F7
        rename News _ _ _ _ => N7
        exact inner_end F7 N7 hrest (by assumption) d1 d2 d3 ⟨_, rfl⟩ ⟨_, rfl⟩ rfl rfl rfl rfl
      · exfalso
        rename (_ != _) = true => hbad
        rename ps.getD _ 0 ≠ _ => h1
        rw [hb, passB, ← hpe, pass_ne hpl h1, beq_eq_false_iff_ne.mpr h1] at hbad
        simp at hbad
      · rename Fr _ _ _ _ => F7
        rename News _ _ _ _ => N7
        exact inner_end F7 N7 hrest (by assumption) d1 d2 d3 ⟨_, rfl⟩ ⟨_, rfl⟩ rfl rfl rfl rfl
    case done2 =>
      clear F2 N2 d2 d3 dj hm
      rintro m news h tk gg hgg ⟨o1, o2, o3, v3, ti, rfl, d1, d2, d3, ⟨tl, m1⟩, ⟨tw, m2⟩, m3, m4, m5, m6⟩ F1 N1
      have hoff' : ∀ p ∈ own, p.1 ≠ L + 1 + 1 + 1 := fun p hp => hoff p hp (L + 1 + 1 + 1) (by simp)
      dsimp only
      show wpAny _ _ (execs [_, _, _] _) _ _ _
      refine tail11 (s := { s with heap := h, toks := tk, gens := gg }) w L fa cd B mean mg mb _ hK hT S En Wd Sg Ov us ue uo wv sv n1 n2 n4 n5 n6 ends Ws lag tl ti tw he hel hW hWl hlag0 hlag1 i hi _ o1 o2 o3 v3 d1 d2 d3 m own m1 m2 m3 m4 m5 m6 l1 l2 l3 l4 l5 hoff' F1 N1 (H3 i hi) ?_
      intro h' tk' m' news' o3' v3' F7 N7 d7 k1 k2 k3 k4 k5 hin
      refine ⟨h', tk', gg, m', news', (Ov, W.listOf uo.toArray n6) :: (Wd, W.listOf wv n4) :: (Sg, W.listOf sv n5) :: (En, W.listOf ue.toArray n2) :: (S, W.listOf us.toArray n1) :: (L + 1 + 1 + 1, o3') :: (L + 1 + 1, o2) :: (L + 1, o1) :: [], rfl, hgg, F7, N7, ?_, ?_, ?_, ⟨o1, o2, o3', _, v3', tl, rfl, d1, d2, d7, ?_⟩⟩
      · intro p hp
        exact hin p (List.mem_append_left own hp)
      · intro p hp
        exact hin p (.tail _ (.tail _ (.tail _ (.tail _ (.tail _ (.tail _ (.tail _ (.tail _ hp))))))))
      · intro q hq
        have h := List.mem_map_of_mem (f := fun p : Addr × Obj => p.1) hq
        simp only [List.map_cons, List.map_nil] at h ⊢
        exact .inl h
      · simp only [List.forall_mem_cons]
        exact ⟨k2, k3, k4, k5, k1, fun _ h => nomatch h⟩
  case done =>
    intro m news h tk gg hgg hJ F1 N1
    exact hret h tk gg hgg F1.keep
end
section
set_option maxRecDepth 100000
set_option maxHeartbeats 4000000
section
variable {w : World} {s : Shared} {B : Heap} {L : Addr} {m : Str → Option Value} {news : List (Addr × Obj)} {mean : ExcName → Option Value} {mg mb : Str → Option Value}
/-- a new list of ints lies above all that the ledger holds -/
theorem new_K {P : List Int → Prop} {v : Value} {h' : Heap} (F : Fr B L s.heap m) (N : News B L s.heap news) (hk : ∀ b o, s.heap.get? b = some o → h'.get? b = some o) (hn : NewInts s.heap P v h')
    (hf : ∀ b, s.heap.get? b = none → (∃ o, h'.get? b = some o) → s.heap.objs.size ≤ b) :
    ∃ (a : Nat) (us : List Value) (ns : List Int) (n : Nat), v = .ref a ∧ P ns ∧ IntsAre us ns ∧ (∀ p ∈ news, @LT.lt Nat _ p.1 a) ∧ @LT.lt Nat _ L a ∧ Fr B L h' m ∧ News B L h' ((a, W.listOf us.toArray n) :: news) := by
  obtain ⟨a, us, ns, n, rfl, ha, hno, hi, hp⟩ := hn
  have hge := hf a hno ⟨_, ha⟩
  have hLa : @LT.lt Nat _ L a := Nat.lt_of_lt_of_le F.ns.lt hge
  refine ⟨a, us, ns, n, rfl, hp, hi, fun p hp => Nat.lt_of_lt_of_le (Heap.lt_size (N p hp).1) hge, hLa, F.grownK hk, ?_⟩
  intro p hp
  rcases List.mem_cons.mp hp with rfl | hp
  · refine ⟨ha, ?_, ?_⟩
    · first
        | exact Nat.ne_of_gt hLa
        | exact Nat.ne_of_lt hLa
    · exact Heap.get?_none_of_le (Nat.le_of_lt (Nat.lt_of_le_of_lt F.above hLa))
  · exact N.grown hk p hp
theorem sums_K {l : Addr} {vs : List Value} {ns : List Int} {Q E : Value → Shared → Prop} (hI : IntsAre vs ns) (hn : ns.length ≤ 63) (hl : s.heap.IsList l vs.toArray) (F : Fr B L s.heap m) (N : News B L s.heap news) (hK : (hd.heap_39 w.params).In B) (hT : Top hd.view_39 (looseW hd.view_39 []) mean mg mb B)
    (hq : ∀ (a : Nat) us ks n h' tk', ks.length = 8 → IntsAre us ks → (∀ p ∈ news, @LT.lt Nat _ p.1 a) → @LT.lt Nat _ L a → Fr B L h' m → News B L h' ((a, W.listOf us.toArray n) :: news) → s.toks ≤ tk' → Q (.ref a) { s with heap := h', toks := tk' }) :
    wpAny (model Challenge.rw_re0084_01.prog w) (AA 305 30) (call (.ref 70) [.ref l]) Q E s := by
  refine wpAny_mono (wpAny_toks (wpAny_fresh (wpAny_wk (sums_ctr w l vs ns hI hn mean mg mb s (fun v s' => ∃ h' tk', s' = { s with heap := h', toks := tk' } ∧ (∀ b o, s.heap.get? b = some o → h'.get? b = some o) ∧ NewInts s.heap (fun l => l.length = 8) v h') E hl (hK.keeps F.keep) (hT.keeps F.keep) fun v h' tk' hk hn => ⟨h', tk', rfl, hk, hn⟩) rfl (Nat.le_of_ble_eq_true rfl) rfl rfl (Nat.le_of_ble_eq_true rfl)))) ?_ fun _ _ x => x.2
  rintro v s1 ⟨htk, hf, h', tk', rfl, hk, hnew⟩
  obtain ⟨a, us, ks, n, rfl, hp, hi, h1, h2, h3, h4⟩ := new_K F N hk hnew hf
  exact hq a us ks n h' tk' hp hi h1 h2 h3 h4 htk
theorem ends_K {l : Addr} {vs : List Value} {ns : List Int} {Q E : Value → Shared → Prop} (hI : IntsAre vs ns) (hn : ns.length = 8) (hl : s.heap.IsList l vs.toArray) (F : Fr B L s.heap m) (N : News B L s.heap news) (hK : (hd.heap_39 w.params).In B) (hT : Top hd.view_39 (looseW hd.view_39 []) mean mg mb B)
    (hq : ∀ (a : Nat) us ks n h' tk', ks.Perm [0,1,2,3,4,5,6,7] → IntsAre us ks → (∀ p ∈ news, @LT.lt Nat _ p.1 a) → @LT.lt Nat _ L a → Fr B L h' m → News B L h' ((a, W.listOf us.toArray n) :: news) → s.toks ≤ tk' → Q (.ref a) { s with heap := h', toks := tk' }) :
    wpAny (model Challenge.rw_re0084_01.prog w) (AA 305 30) (call (.ref 77) [.ref l]) Q E s := by
  refine wpAny_mono (wpAny_toks (wpAny_fresh (wpAny_wk (ends_ctr w l vs ns hI hn mean mg mb s (fun v s' => ∃ h' tk', s' = { s with heap := h', toks := tk' } ∧ (∀ b o, s.heap.get? b = some o → h'.get? b = some o) ∧ NewInts s.heap (fun l => l.Perm [0,1,2,3,4,5,6,7]) v h') E hl (hK.keeps F.keep) (hT.keeps F.keep) fun v h' tk' hk hn => ⟨h', tk', rfl, hk, hn⟩) rfl (Nat.le_of_ble_eq_true rfl) rfl rfl (Nat.le_of_ble_eq_true rfl)))) ?_ fun _ _ x => x.2
  rintro v s1 ⟨htk, hf, h', tk', rfl, hk, hnew⟩
  obtain ⟨a, us, ks, n, rfl, hp, hi, h1, h2, h3, h4⟩ := new_K F N hk hnew hf
  exact hq a us ks n h' tk' hp hi h1 h2 h3 h4 htk
theorem over_K {l : Addr} {n0 : Nat} {vs : List Value} {ns : List Int} {Q E : Value → Shared → Prop} (hI : IntsAre vs ns) (hn : ns.Perm [0,1,2,3,4,5,6,7]) (hl : s.heap.get? l = some (W.listOf vs.toArray n0)) (F : Fr B L s.heap m) (N : News B L s.heap news) (hK : (hd.heap_39 w.params).In B) (hT : Top hd.view_39 (looseW hd.view_39 []) mean mg mb B)
    (hq : ∀ (a : Nat) us ks n h' tk', (ks = overF ns ∧ ks.length = 8) → IntsAre us ks → (∀ p ∈ news, @LT.lt Nat _ p.1 a) → @LT.lt Nat _ L a → Fr B L h' m → News B L h' ((a, W.listOf us.toArray n) :: news) → s.toks ≤ tk' → Q (.ref a) { s with heap := h', toks := tk' }) :
    wpAny (model Challenge.rw_re0084_01.prog w) (AA 305 30) (call (.ref 84) [.ref l]) Q E s := by
  refine wpAny_mono (wpAny_toks (wpAny_fresh (wpAny_wk (over_ctr w l n0 vs ns hI hn mean mg mb s (fun v s' => ∃ h' tk', s' = { s with heap := h', toks := tk' } ∧ (∀ b o, s.heap.get? b = some o → h'.get? b = some o) ∧ NewInts s.heap (fun l => l = overF ns ∧ l.length = 8) v h') E hl (hK.keeps F.keep) (hT.keeps F.keep) fun v h' tk' hk hn => ⟨h', tk', rfl, hk, hn⟩) rfl (Nat.le_of_ble_eq_true rfl) rfl rfl (Nat.le_of_ble_eq_true rfl)))) ?_ fun _ _ x => x.2
  rintro v s1 ⟨htk, hf, h', tk', rfl, hk, hnew⟩
  obtain ⟨a, us, ks, n, rfl, hp, hi, h1, h2, h3, h4⟩ := new_K F N hk hnew hf
  exact hq a us ks n h' tk' hp hi h1 h2 h3 h4 htk
end
end
section
set_option maxRecDepth 100000
set_option maxHeartbeats 2000000
noncomputable abbrev wordsF (ends : List Int) : List Str := ((evsOf ends ++ evsOf ends).foldl readStep read0).1
noncomputable abbrev signsF (ends : List Int) : List Str := ((evsOf ends ++ evsOf ends).foldl readStep read0).2.1
/-- the plain law: what the walk asks of the ends -/
structure Plain (ends : List Int) (lag : Int) : Prop where
  wl : (wordsF ends).length = 16
  sl : (signsF ends).length = 16
  H1 : ∀ i : Nat, i < 8 → LevIs ((wordsF ends).getD (8 + (i : Int)).toNat Str.empty) (Str.ofString "ABCD") ((overF ends).getD (i : Int).toNat 0) ((overF ends).getD (i : Int).toNat 0)
  Sb : ∀ x ∈ signsF ends, x.length ≤ 8
  H2 : ∀ (i n : Nat), i < 8 → ((n : Int) = lag ∨ (n : Int) = 8) → ChkIs (Txt.join (Str.ofString "") (((signsF ends).drop i).take n)) (passB (overF ends) i n)
  H3 : ∀ i : Nat, i < 8 → LevIs ((wordsF ends).getD (8 + (i : Int)).toNat Str.empty) ((wordsF ends).getD (8 + ((i : Int) + lag).fmod 8).toNat Str.empty) (partedF (betweenF ends i lag) - 1) (partedF (betweenF ends i lag))
end
section
set_option maxRecDepth 100000
set_option maxHeartbeats 2000000
noncomputable def chunk (e : Int × Bool) : List Nat := (signOf e).cps.toList
noncomputable def par (b : Bool) : Nat := if b then 40 else 41
noncomputable def schunk (e : Int × Bool) : List Nat := if e.1 = 2 then [par e.2] else chunk e
noncomputable def EvOk (e : Int × Bool) : Prop := 0 ≤ e.1 ∧ e.1 < 4
noncomputable def bal : List Bool → Int → Bool
  | [], o => decide (o = 0)
  | true :: r, o => bal r (o + 1)
  | false :: r, o => if o - 1 < 0 then false else bal r (o - 1)
theorem chunk_cases {e : Int × Bool} (h : EvOk e) : (e.1 = 0 ∧ chunk e = [par e.2] ∧ schunk e = [par e.2]) ∨ (e.1 = 1 ∧ chunk e = [par e.2, 92, 41] ∧ schunk e = [par e.2, 92, 41]) ∨
    (e.1 = 2 ∧ chunk e = [par e.2, 34, 40, 34] ∧ schunk e = [par e.2]) ∨ (e.1 = 3 ∧ chunk e = [par e.2, 92, 34] ∧ schunk e = [par e.2, 92, 34]) := by
  obtain ⟨d, b⟩ := e
  have hd : d = 0 ∨ d = 1 ∨ d = 2 ∨ d = 3 := by
    have h1 : 0 ≤ d := h.1
    have h2 : d < 4 := h.2
    omega
  rcases hd with rfl | rfl | rfl | rfl <;> cases b <;> decide +kernel
theorem join_flat : ∀ ts : List Str, (Txt.join (Str.ofString "") ts).cps.toList = ts.flatMap fun t => t.cps.toList := by
  intro ts
  have he : Str.ofString "" = ⟨#[]⟩ := by decide +kernel
  rw [he]
  unfold Txt.join
  rw [StrLaws.glued_eq_join]
  induction ts with
  | nil => rfl
  | cons t r ih =>
    cases r with
    | nil => simp [Str.join]
    | cons u r =>
      show (t.cps ++ (#[] : Array Nat) ++ (Str.join ⟨#[]⟩ (u :: r)).cps).toList = _
      rw [Array.toList_append, Array.toList_append, ih]
      simp
theorem rem_p {c : Nat} (h : c ≠ 92) (r : List Nat) (i : Nat) : remT (c :: r) i false = ((i : Int), (⟨#[c]⟩ : Str)) :: remT r (i + 1) false := by
  simp [remT, h]
theorem rem_b (c : Nat) (r : List Nat) (i : Nat) : remT (92 :: c :: r) i false = (((i + 1 : Nat) : Int), (⟨#[92]⟩ : Str) ++ (⟨#[c]⟩ : Str)) :: remT r (i + 1 + 1) false := by
  simp [remT]
theorem par_ne (b : Bool) : par b ≠ 92 ∧ par b ≠ 34 := by cases b <;> decide
theorem q_ne {c : Nat} (h : c ≠ 34) : (⟨#[c]⟩ : Str) ≠ Str.ofString "\"" := by
  have e : Str.ofString "\"" = ⟨#[34]⟩ := by decide +kernel
  rw [e]
  intro h'
  injection h' with h'
  exact h (by simpa using h')
theorem q_eq : (⟨#[34]⟩ : Str) = Str.ofString "\"" := by decide +kernel
theorem b_ne (c : Nat) : (⟨#[92]⟩ : Str) ++ (⟨#[c]⟩ : Str) ≠ Str.ofString "\"" := by
  have e : Str.ofString "\"" = ⟨#[34]⟩ := by decide +kernel
  rw [e]
  intro h'
  have h2 : #[92] ++ #[c] = #[34] := congrArg Str.cps h'
  have h3 := congrArg Array.size h2
  simp at h3
theorem stp_no {x : Str} {s : Int × Option Int × List Str} {p : Int} {c : Str} (h : c ≠ Str.ofString "\"") : stripStep x s (p, c) = s := if_neg h
theorem step_q0 {x : Str} {st : Int} {res : List Str} {p : Int} : stripStep x (st, none, res) (p, ⟨#[34]⟩) = (st, some p, res) := by
  unfold stripStep
  rw [if_pos q_eq]
theorem step_q1 {x : Str} {st o : Int} {res : List Str} {p : Int} : stripStep x (st, some o, res) (p, ⟨#[34]⟩) = (p + 1, none, if st = o then res else res ++ [Txt.slice x (some st) (some o)]) := by
  unfold stripStep
  rw [if_pos q_eq]
theorem slice_ab {x : Str} {a b : Nat} (h : a ≤ b) (hb : b ≤ x.length) : (Txt.slice x (some (a : Int)) (some (b : Int))).cps.toList = (x.cps.toList.drop a).take (b - a) := by
  have h1 := beq_iff_eq.mp (slice_closesL (x := x) (i := (a : Int)) (j := (b : Int)) (by omega) (by omega) (by omega))
  rw [h1]
  show (List.take ((b : Int) - a).toNat (List.drop (a : Int).toNat x.cps.toList)) = _
  rw [show ((b : Int) - a).toNat = b - a by omega, Int.toNat_natCast]
theorem slice_a {x : Str} {a : Nat} (h : a ≤ x.length) : (Txt.slice x (some (a : Int)) none).cps.toList = x.cps.toList.drop a := by
  rw [slice_from_eq (x := x) (i := (a : Int)) (b := (x.length : Int)) (by omega) (by omega) rfl]
  show (List.take ((x.length : Int) - a).toNat (List.drop (a : Int).toNat x.cps.toList)) = _
  rw [Int.toNat_natCast]
  refine List.take_of_length_le ?_
  rw [List.length_drop]
  have : x.cps.toList.length = x.length := by simp [Str.length]
  omega
theorem strip_go (x : Str) : ∀ (evs : List (Int × Bool)) (pre P : List Nat) (st : Nat) (res : List Str), (∀ e ∈ evs, EvOk e) → x.cps.toList = pre ++ evs.flatMap chunk → st ≤ pre.length → (res.flatMap fun t => t.cps.toList) ++ pre.drop st = P →
    ∃ (st' : Nat) (res' : List Str), (remT (evs.flatMap chunk) pre.length false).foldl (stripStep x) ((st : Int), none, res) = ((st' : Int), none, res') ∧ st' ≤ x.length ∧ (res'.flatMap fun t => t.cps.toList) ++ x.cps.toList.drop st' = P ++ evs.flatMap schunk
  | [], pre, P, st, res, _, hx, hst, hP => by
    simp only [List.flatMap_nil, List.append_nil] at hx ⊢
    refine ⟨st, res, rfl, ?_, ?_⟩
    · have : x.cps.toList.length = x.length := by simp [Str.length]
      rw [← this, hx]; exact hst
    · rw [hx]; exact hP
  | e :: evs, pre, P, st, res, hok, hx, hst, hP => by
    have hx' : x.cps.toList = (pre ++ chunk e) ++ evs.flatMap chunk := by rw [hx, List.flatMap_cons, List.append_assoc]
    have hxl : x.length = x.cps.toList.length := by simp [Str.length]
    have hp := par_ne e.2
    have ih := strip_go x evs (pre ++ chunk e)
    have hok' : ∀ e ∈ evs, EvOk e := fun e he => hok e (.tail _ he)
    rw [List.flatMap_cons, List.flatMap_cons, ← List.append_assoc]
    rcases chunk_cases (hok e (.head _)) with ⟨h0, h1, h2⟩ | ⟨h0, h1, h2⟩ | ⟨h0, h1, h2⟩ | ⟨h0, h1, h2⟩
    · rw [h1] at ih ⊢
      rw [h2]
      have ih := ih (P ++ [par e.2]) st res hok' (h1 ▸ hx') (by rw [List.length_append]; omega) (by rw [List.drop_append_of_le_length hst, ← List.append_assoc, hP])
      simp only [List.cons_append, List.nil_append, rem_p hp.1, List.foldl_cons, stp_no (q_ne hp.2)]
      simpa using ih
    · rw [h1] at ih ⊢
      rw [h2]
      have ih := ih (P ++ [par e.2, 92, 41]) st res hok' (h1 ▸ hx') (by rw [List.length_append]; omega) (by rw [List.drop_append_of_le_length hst, ← List.append_assoc, hP])
      simp only [List.cons_append, List.nil_append, rem_p hp.1, rem_b, List.foldl_cons, stp_no (q_ne hp.2), stp_no (b_ne _)]
      simpa using ih
    · rw [h1] at ih ⊢
      rw [h2]
      have ih := ih (P ++ [par e.2]) (pre.length + 1 + 1 + 1 + 1) (res ++ [Txt.slice x (some (st : Int)) (some ((pre.length + 1 : Nat) : Int))]) hok' (h1 ▸ hx') (by rw [List.length_append]; simp) ?_
      · simp only [List.cons_append, List.nil_append, rem_p hp.1, rem_p (show (34 : Nat) ≠ 92 by decide), rem_p (show (40 : Nat) ≠ 92 by decide), List.foldl_cons, stp_no (q_ne hp.2), step_q0, stp_no (q_ne (show (40 : Nat) ≠ 34 by decide)), step_q1]
        rw [if_neg (by omega)]
        simpa using ih
      · rw [List.flatMap_append, List.flatMap_cons, List.flatMap_nil, List.append_nil, slice_ab (by omega) (by rw [hxl, hx', h1]; simp), hx', h1, ← hP]
        rw [show List.drop (pre.length + 1 + 1 + 1 + 1) (pre ++ [par e.2, 34, 40, 34]) = [] from List.drop_eq_nil_of_le (by simp), List.append_nil]
        have e2 : List.take (pre.length + 1 - st) (List.drop st (pre ++ [par e.2, 34, 40, 34] ++ List.flatMap chunk evs)) = List.drop st pre ++ [par e.2] := by
          rw [List.append_assoc, List.drop_append_of_le_length hst, List.take_append]
          have e1 : (pre.drop st).length = pre.length - st := by simp
          rw [List.take_of_length_le (by omega), e1, show pre.length + 1 - st - (pre.length - st) = 1 by omega]
          rfl
        rw [e2, List.append_assoc]
    · rw [h1] at ih ⊢
      rw [h2]
      have ih := ih (P ++ [par e.2, 92, 34]) st res hok' (h1 ▸ hx') (by rw [List.length_append]; omega) (by rw [List.drop_append_of_le_length hst, ← List.append_assoc, hP])
      simp only [List.cons_append, List.nil_append, rem_p hp.1, rem_b, List.foldl_cons, stp_no (q_ne hp.2), stp_no (b_ne _)]
      simpa using ih
theorem nl_empty : Str.ofString "" = ⟨#[]⟩ := by decide +kernel
theorem str_ext {a b : Str} (h : a.cps.toList = b.cps.toList) : a = b := by
  cases a; cases b
  simp only at h
  congr
  exact Array.toList_inj.mp h
theorem schunk_of_noq : ∀ (evs : List (Int × Bool)), (∀ e ∈ evs, EvOk e) → 34 ∉ evs.flatMap chunk → evs.flatMap schunk = evs.flatMap chunk
  | [], _, _ => rfl
  | e :: evs, hok, h => by
    rw [List.flatMap_cons, List.mem_append, not_or] at h
    rw [List.flatMap_cons, List.flatMap_cons, schunk_of_noq evs (fun e he => hok e (.tail _ he)) h.2]
    congr 1
    rcases chunk_cases (hok e (.head _)) with ⟨h0, h1, h2⟩ | ⟨h0, h1, h2⟩ | ⟨h0, h1, h2⟩ | ⟨h0, h1, h2⟩
    · rw [h1, h2]
    · rw [h1, h2]
    · rw [h1] at h
      exact absurd (by simp) h.1
    · rw [h1, h2]
theorem strip_evs (x : Str) (evs : List (Int × Bool)) (hok : ∀ e ∈ evs, EvOk e) (hx : x.cps.toList = evs.flatMap chunk) : (stripF x).cps.toList = evs.flatMap schunk := by
  obtain ⟨st, res, h1, h2, h3⟩ := strip_go x evs [] [] 0 [] hok (by rw [hx]; rfl) (Nat.le_refl _) rfl
  have hxl : x.length = x.cps.toList.length := by simp [Str.length]
  unfold stripF
  split
  · rename_i hq
    have hf := StrLaws.found_one x 34
    have e34 : Str.ofString "\"" = ⟨#[34]⟩ := q_eq.symm
    rw [e34] at hq
    rw [hq] at hf
    have hn : 34 ∉ x.cps.toList := by
      have := hf.symm
      simpa using this
    rw [hx] at hn ⊢
    exact (schunk_of_noq evs hok hn).symm
  · rw [join_flat]
    have hS : stripS x = ((st : Int), none, res) := by
      unfold stripS
      rw [hx]
      exact h1
    unfold stripR
    rw [hS]
    rw [List.nil_append] at h3
    dsimp only
    split
    · rw [List.flatMap_append, List.flatMap_cons, List.flatMap_nil, List.append_nil, slice_a h2]
      exact h3
    · rename_i hge
      rw [← h3, List.drop_eq_nil_of_le (by omega), List.append_nil]
theorem p_eq (b : Bool) : (⟨#[par b]⟩ : Str) = if b then Str.ofString "(" else Str.ofString ")" := by cases b <;> decide +kernel
theorem po_ne : Str.ofString "(" ≠ Str.ofString ")" := by decide +kernel
theorem esc_ne (c : Nat) : (⟨#[92]⟩ : Str) ++ (⟨#[c]⟩ : Str) ≠ Str.ofString "(" ∧ (⟨#[92]⟩ : Str) ++ (⟨#[c]⟩ : Str) ≠ Str.ofString ")" := by
  have e1 : Str.ofString "(" = ⟨#[40]⟩ := by decide +kernel
  have e2 : Str.ofString ")" = ⟨#[41]⟩ := by decide +kernel
  rw [e1, e2]
  constructor
  all_goals
    intro h'
    have h3 := congrArg (fun s : Str => s.cps.size) h'
    have h4 : (#[92] ++ #[c] : Array Nat).size = 1 := h3
    simp at h4
theorem chk_par (b : Bool) (p : Int) (r : List (Int × Str)) (o : Int) : chkGo ((p, ⟨#[par b]⟩) :: r) o = if b then chkGo r (o + 1) else if o - 1 < 0 then false else chkGo r (o - 1) := by
  rw [chkGo, p_eq]
  cases b
  · simp only [Bool.false_eq_true, if_false]
    rw [if_neg (fun h => po_ne h.symm)]
    simp
  · simp
theorem chk_esc (c : Nat) (p : Int) (r : List (Int × Str)) (o : Int) : chkGo ((p, (⟨#[92]⟩ : Str) ++ (⟨#[c]⟩ : Str)) :: r) o = chkGo r o := by
  rw [chkGo, if_neg (esc_ne c).1, if_neg (esc_ne c).2]
theorem chk_go : ∀ (evs : List (Int × Bool)) (i : Nat) (o : Int), (∀ e ∈ evs, EvOk e) → chkGo (remT (evs.flatMap schunk) i false) o = bal (evs.map fun e => e.2) o
  | [], i, o, _ => rfl
  | e :: evs, i, o, hok => by
    have ih := fun i o => chk_go evs i o fun e he => hok e (.tail _ he)
    have hp := par_ne e.2
    rw [List.flatMap_cons, List.map_cons]
    have hb : bal (e.2 :: List.map (fun e => e.2) evs) o = if e.2 then bal (List.map (fun e => e.2) evs) (o + 1) else if o - 1 < 0 then false else bal (List.map (fun e => e.2) evs) (o - 1) := by
      cases e.2 <;> rfl
    rw [hb]
    rcases chunk_cases (hok e (.head _)) with ⟨h0, h1, h2⟩ | ⟨h0, h1, h2⟩ | ⟨h0, h1, h2⟩ | ⟨h0, h1, h2⟩
    all_goals
      rw [h2]
      simp only [List.cons_append, List.nil_append, rem_p hp.1, rem_b, chk_par, chk_esc, ih]
theorem ascii_of {x : Str} (h : ∀ c ∈ x.cps.toList, c < 128) : strIterType x = "str_ascii_iterator" := by
  unfold strIterType
  rw [if_pos]
  rw [← Array.all_toList, List.all_eq_true]
  intro c hc
  exact decide_eq_true (h c hc)
theorem chunk_ascii {e : Int × Bool} (h : EvOk e) : (∀ c ∈ chunk e, c < 128) ∧ (chunk e).length ≤ 4 ∧ (∀ c ∈ schunk e, c < 128) ∧ (schunk e).length ≤ 4 := by
  have hp : par e.2 < 128 := by cases e.2 <;> decide
  rcases chunk_cases h with ⟨h0, h1, h2⟩ | ⟨h0, h1, h2⟩ | ⟨h0, h1, h2⟩ | ⟨h0, h1, h2⟩
  all_goals
    rw [h1, h2]
    simp [hp]
theorem flat_len {f : Int × Bool → List Nat} : ∀ (evs : List (Int × Bool)), (∀ e ∈ evs, (f e).length ≤ 4) → (evs.flatMap f).length ≤ evs.length * 4
  | [], _ => Nat.zero_le _
  | e :: evs, h => by
    have h1 := h e (.head _)
    have h2 := flat_len evs fun e he => h e (.tail _ he)
    rw [List.flatMap_cons, List.length_append, List.length_cons, Nat.succ_mul]
    omega
theorem chk_evs (evs : List (Int × Bool)) (hok : ∀ e ∈ evs, EvOk e) (hl : evs.length ≤ 16) :
    strIterType (Txt.join (Str.ofString "") (evs.map signOf)) = "str_ascii_iterator" ∧ (Txt.join (Str.ofString "") (evs.map signOf)).length ≤ 200 ∧ strIterType (stripF (Txt.join (Str.ofString "") (evs.map signOf))) = "str_ascii_iterator" ∧
      (stripF (Txt.join (Str.ofString "") (evs.map signOf))).length ≤ 200 ∧ chkF (Txt.join (Str.ofString "") (evs.map signOf)) = bal (evs.map fun e => e.2) 0 := by
  have hx : (Txt.join (Str.ofString "") (evs.map signOf)).cps.toList = evs.flatMap chunk := by
    rw [join_flat, List.flatMap_map]
    rfl
  generalize Txt.join (Str.ofString "") (evs.map signOf) = x at hx ⊢
  have hs := strip_evs x evs hok hx
  have l1 := flat_len (f := chunk) evs fun e he => (chunk_ascii (hok e he)).2.1
  have l2 := flat_len (f := schunk) evs fun e he => (chunk_ascii (hok e he)).2.2.2
  refine ⟨ascii_of ?_, ?_, ascii_of ?_, ?_, ?_⟩
  · intro c hc
    rw [hx] at hc
    obtain ⟨e, he, hc⟩ := List.mem_flatMap.mp hc
    exact (chunk_ascii (hok e he)).1 c hc
  · have : x.cps.toList.length = x.length := by simp [Str.length]
    rw [← this, hx]; omega
  · intro c hc
    rw [hs] at hc
    obtain ⟨e, he, hc⟩ := List.mem_flatMap.mp hc
    exact (chunk_ascii (hok e he)).2.2.1 c hc
  · have : (stripF x).cps.toList.length = (stripF x).length := by simp [Str.length]
    rw [← this, hs]; omega
  · unfold chkF
    rw [hs]
    exact chk_go evs 0 0 hok
end
section
set_option maxRecDepth 100000
set_option maxHeartbeats 2000000
/-- gap i lies in the span from b to e -/
noncomputable def ins (b e i : Nat) : Bool := decide (1 ≤ (i + 8 - b) % 8) && decide ((i + 8 - b) % 8 ≤ (e + 8 - b) % 8)
noncomputable def lb (b e : Nat) : Nat → Option Bool
  | 0 => none
  | k + 1 => if k % 8 = b then some true else if k % 8 = e then some false else lb b e k
noncomputable def all3 (p : Nat → Nat → Nat → Bool) : Bool := (List.range 8).all fun b => (List.range 8).all fun e => (List.range 8).all fun i => (b == e) || p b e i
theorem all3_at {p : Nat → Nat → Nat → Bool} (h : all3 p = true) {b e i : Nat} (hb : b < 8) (he : e < 8) (hi : i < 8) (hne : b ≠ e) : p b e i = true := by
  have h1 := List.all_eq_true.mp h b (List.mem_range.mpr hb)
  have h2 := List.all_eq_true.mp h1 e (List.mem_range.mpr he)
  have h3 := List.all_eq_true.mp h2 i (List.mem_range.mpr hi)
  rw [Bool.or_eq_true, beq_iff_eq] at h3
  exact h3.resolve_left hne
theorem lb_dec : all3 (fun b e i => lb b e (8 + i) == some (ins b e i)) = true := by decide +kernel
theorem lb_ins {b e i : Nat} (hb : b < 8) (he : e < 8) (hi : i < 8) (hne : b ≠ e) : lb b e (8 + i) = some (ins b e i) := beq_iff_eq.mp (all3_at lb_dec hb he hi hne)
theorem step_dec : all3 (fun b e i => if i = b then !(ins b e i) && ins b e ((i + 1) % 8) else if i = e then ins b e i && !(ins b e ((i + 1) % 8)) else ins b e ((i + 1) % 8) == ins b e i) = true := by decide +kernel
theorem ins_step {b e i : Nat} (hb : b < 8) (he : e < 8) (hi : i < 8) (hne : b ≠ e) : (i = b → ins b e i = false ∧ ins b e ((i + 1) % 8) = true) ∧ (i = e → ins b e i = true ∧ ins b e ((i + 1) % 8) = false) ∧ (i ≠ b → i ≠ e → ins b e ((i + 1) % 8) = ins b e i) := by
  have h := all3_at step_dec hb he hi hne
  refine ⟨fun h1 => ?_, fun h1 => ?_, fun h1 h2 => ?_⟩
  · rw [if_pos h1, Bool.and_eq_true, Bool.not_eq_true'] at h; exact h
  · rw [if_neg (by omega), if_pos h1, Bool.and_eq_true, Bool.not_eq_true'] at h; exact h
  · rw [if_neg h1, if_neg h2] at h; exact beq_iff_eq.mp h
noncomputable def hit (b e i t : Nat) : Bool := decide ((i + t) % 8 = b) || decide ((i + t) % 8 = e)
theorem part_dec : all3 (fun b e i => [1, 2, 3, 4].all fun n => ((List.range n).countP (hit b e i) == 1) == (ins b e i != ins b e ((i + n) % 8))) = true := by decide +kernel
theorem part_ins {b e i n : Nat} (hb : b < 8) (he : e < 8) (hi : i < 8) (hne : b ≠ e) (h1 : 1 ≤ n) (h4 : n ≤ 4) : ((List.range n).countP (hit b e i) == 1) = (ins b e i != ins b e ((i + n) % 8)) := by
  have h := List.all_eq_true.mp (all3_at part_dec hb he hi hne) n (by
    have : n = 1 ∨ n = 2 ∨ n = 3 ∨ n = 4 := by omega
    simpa using this)
  exact beq_iff_eq.mp h
noncomputable def letB (d : Int) (o : Option Bool) : Str := match o with
  | none => Str.ofString ""
  | some b => letterOf (d, b)
noncomputable def wordOf (x0 x1 x2 x3 : Bool) : Str := Txt.join (Str.ofString "") [letB 0 (some x0), letB 1 (some x1), letB 2 (some x2), letB 3 (some x3)]
noncomputable def cnt (x0 x1 x2 x3 : Bool) : Int := (if x0 then 1 else 0) + (if x1 then 1 else 0) + (if x2 then 1 else 0) + (if x3 then 1 else 0)
noncomputable def code (x : Str) (i : Int) : Nat := (Txt.charAt x i).getD 0
noncomputable def costN (c d : Nat) : Int := if c = d then 0 else if c % 32 = d % 32 then 1 else 2
noncomputable def codes : List Nat := [65, 66, 67, 68, 97, 98, 99, 100]
theorem lower_code : ∀ c ∈ codes, Txt.lower ⟨#[c]⟩ = ⟨#[c % 32 + 96]⟩ := by
  intro c hc
  simp only [codes, List.mem_cons, List.not_mem_nil, or_false] at hc
  rcases hc with rfl | rfl | rfl | rfl | rfl | rfl | rfl | rfl <;> decide +kernel
theorem one_inj {c d : Nat} : ((⟨#[c]⟩ : Str) = ⟨#[d]⟩) ↔ c = d := ⟨fun h => by injection h with h; simpa using h, fun h => by rw [h]⟩
theorem cost_code {c d : Nat} (hc : c ∈ codes) (hd : d ∈ codes) : costI ⟨#[c]⟩ ⟨#[d]⟩ = costN c d := by
  unfold costI costN
  rw [lower_code c hc, lower_code d hd]
  simp only [one_inj]
  by_cases h : c = d
  · rw [if_pos h, if_pos h]
  · rw [if_neg h, if_neg h]
    by_cases h2 : c % 32 = d % 32
    · rw [if_pos (by omega), if_pos h2]
    · rw [if_neg (by omega), if_neg h2]
noncomputable def stepG (f : Int → Int) (st : List Int × Int × Int × Int) (i : Int) : List Int × Int × Int × Int :=
  (st.1.set i.toNat (minI (minI st.2.2.1 (st.1.getD i.toNat 0) + 2) (st.2.1 + f i)), st.1.getD i.toNat 0, minI (minI st.2.2.1 (st.1.getD i.toNat 0) + 2) (st.2.1 + f i),
    if minI (minI st.2.2.1 (st.1.getD i.toNat 0) + 2) (st.2.1 + f i) < st.2.2.2 then minI (minI st.2.2.1 (st.1.getD i.toNat 0) + 2) (st.2.1 + f i) else st.2.2.2)
theorem stepG_eq (a bc : Str) : levStep a bc = stepG fun i => costI bc (Txt.item a i) := rfl
theorem stepG_congr {f g : Int → Int} {i : Int} (h : f i = g i) (st : List Int × Int × Int × Int) : stepG f st i = stepG g st i := by
  unfold stepG; rw [h]
theorem fold_congr {f g : Int → Int} : ∀ (l : List Int) (st : List Int × Int × Int × Int), (∀ i ∈ l, f i = g i) → l.foldl (stepG f) st = l.foldl (stepG g) st
  | [], _, _ => rfl
  | i :: l, st, h => by
    rw [List.foldl_cons, List.foldl_cons, stepG_congr (h i (.head _)), fold_congr l _ fun i hi => h i (.tail _ hi)]
noncomputable def rowC (a b : Str) (row : List Int) (j : Int) : List Int × Int × Int × Int := (rangeKs 0 ((a.length : Int) - 0).toNat).foldl (stepG fun i => costN (code b j) (code a i)) (row, j * 2, j * 2, 9223372036854775807)
noncomputable def goC (a b : Str) (m : Int) : List Int → List Int × Int → Int
  | [], st => st.2
  | j :: js, st => if m < (rowC a b st.1 j).2.2.2 then m + 1 else goC a b m js ((rowC a b st.1 j).1, (rowC a b st.1 j).2.2.1)
noncomputable def coreC (a b : Str) (m : Int) : Int := goC a b m (rangeKs 0 ((b.length : Int) - 0).toNat) (row0 a.length, 0)
noncomputable def okL (a : Str) : Bool := (rangeKs 0 ((a.length : Int) - 0).toNat).all fun i => codes.contains (code a i)
theorem okL_at {a : Str} (h : okL a = true) : ∀ i ∈ rangeKs 0 ((a.length : Int) - 0).toNat, code a i ∈ codes := fun i hi => by
  have := List.all_eq_true.mp h i hi
  simpa using this
theorem row_eq {a b : Str} (ha : okL a = true) (hb : okL b = true) {j : Int} (hj : j ∈ rangeKs 0 ((b.length : Int) - 0).toNat) (row : List Int) : levRow a b row j = rowC a b row j := by
  unfold levRow rowC
  rw [stepG_eq]
  exact fold_congr _ _ fun i hi => cost_code (okL_at hb j hj) (okL_at ha i hi)
theorem go_eq {a b : Str} (ha : okL a = true) (hb : okL b = true) (m : Int) : ∀ (js : List Int) (st : List Int × Int), (∀ j ∈ js, j ∈ rangeKs 0 ((b.length : Int) - 0).toNat) → levGo a b m js st = goC a b m js st
  | [], _, _ => rfl
  | j :: js, st, h => by
    rw [levGo, goC, row_eq ha hb (h j (.head _)), go_eq ha hb m js _ fun j hj => h j (.tail _ hj)]
theorem core_eq {a b : Str} (ha : okL a = true) (hb : okL b = true) (m : Int) : levCore a b m = coreC a b m := go_eq ha hb m _ _ fun _ h => h
noncomputable def levT (a b : Str) (m r : Int) : Bool := (decide (a = b) && decide (r = 0)) || (levOk a b m && okL (levA a b) && okL (levB a b) && decide (coreC (levA a b) (levB a b) m = r))
theorem levIs_of {a b : Str} {m r : Int} (h : levT a b m r = true) : LevIs a b m r := by
  unfold levT at h
  simp only [Bool.or_eq_true, Bool.and_eq_true, decide_eq_true_eq] at h
  rcases h with h | ⟨⟨⟨h1, h2⟩, h3⟩, h4⟩
  · exact .inl h
  · exact .inr ⟨h1, by rw [core_eq h2 h3]; exact h4⟩
noncomputable def bools : List Bool := [false, true]
noncomputable def all4 (p : Bool → Bool → Bool → Bool → Bool) : Bool := bools.all fun x0 => bools.all fun x1 => bools.all fun x2 => bools.all fun x3 => p x0 x1 x2 x3
theorem mem_bools (x : Bool) : x ∈ bools := by cases x <;> decide
theorem all4_at {p : Bool → Bool → Bool → Bool → Bool} (h : all4 p = true) (x0 x1 x2 x3 : Bool) : p x0 x1 x2 x3 = true := by
  have h1 := List.all_eq_true.mp h x0 (mem_bools _)
  have h2 := List.all_eq_true.mp h1 x1 (mem_bools _)
  have h3 := List.all_eq_true.mp h2 x2 (mem_bools _)
  exact List.all_eq_true.mp h3 x3 (mem_bools _)
theorem lev_dec1 : all4 (fun x0 x1 x2 x3 => levT (wordOf x0 x1 x2 x3) (Str.ofString "ABCD") (cnt x0 x1 x2 x3) (cnt x0 x1 x2 x3)) = true := by decide +kernel
noncomputable def levRowB (x0 x1 x2 x3 : Bool) : Bool := all4 fun y0 y1 y2 y3 => levT (wordOf x0 x1 x2 x3) (wordOf y0 y1 y2 y3) (cnt (x0 != y0) (x1 != y1) (x2 != y2) (x3 != y3) - 1) (cnt (x0 != y0) (x1 != y1) (x2 != y2) (x3 != y3))
theorem lev_row0000 : levRowB false false false false = true := by decide +kernel
theorem lev_row0001 : levRowB false false false true = true := by decide +kernel
theorem lev_row0010 : levRowB false false true false = true := by decide +kernel
theorem lev_row0011 : levRowB false false true true = true := by decide +kernel
theorem lev_row0100 : levRowB false true false false = true := by decide +kernel
theorem lev_row0101 : levRowB false true false true = true := by decide +kernel
theorem lev_row0110 : levRowB false true true false = true := by decide +kernel
theorem lev_row0111 : levRowB false true true true = true := by decide +kernel
theorem lev_row1000 : levRowB true false false false = true := by decide +kernel
theorem lev_row1001 : levRowB true false false true = true := by decide +kernel
theorem lev_row1010 : levRowB true false true false = true := by decide +kernel
theorem lev_row1011 : levRowB true false true true = true := by decide +kernel
theorem lev_row1100 : levRowB true true false false = true := by decide +kernel
theorem lev_row1101 : levRowB true true false true = true := by decide +kernel
theorem lev_row1110 : levRowB true true true false = true := by decide +kernel
theorem lev_row1111 : levRowB true true true true = true := by decide +kernel
theorem lev_dec2 : ∀ x0 x1 x2 x3 : Bool, levRowB x0 x1 x2 x3 = true
  | false, false, false, false => lev_row0000
  | false, false, false, true => lev_row0001
  | false, false, true, false => lev_row0010
  | false, false, true, true => lev_row0011
  | false, true, false, false => lev_row0100
  | false, true, false, true => lev_row0101
  | false, true, true, false => lev_row0110
  | false, true, true, true => lev_row0111
  | true, false, false, false => lev_row1000
  | true, false, false, true => lev_row1001
  | true, false, true, false => lev_row1010
  | true, false, true, true => lev_row1011
  | true, true, false, false => lev_row1100
  | true, true, false, true => lev_row1101
  | true, true, true, false => lev_row1110
  | true, true, true, true => lev_row1111
theorem lev_abcd (x0 x1 x2 x3 : Bool) : LevIs (wordOf x0 x1 x2 x3) (Str.ofString "ABCD") (cnt x0 x1 x2 x3) (cnt x0 x1 x2 x3) := levIs_of (all4_at lev_dec1 x0 x1 x2 x3)
theorem lev_two (x0 x1 x2 x3 y0 y1 y2 y3 : Bool) : LevIs (wordOf x0 x1 x2 x3) (wordOf y0 y1 y2 y3) (cnt (x0 != y0) (x1 != y1) (x2 != y2) (x3 != y3) - 1) (cnt (x0 != y0) (x1 != y1) (x2 != y2) (x3 != y3)) :=
  levIs_of (all4_at (lev_dec2 x0 x1 x2 x3) y0 y1 y2 y3)
end
section
set_option maxRecDepth 100000
set_option maxHeartbeats 4000000
noncomputable def bp (ends : List Int) (d : Int) : Nat := ends.idxOf (2 * d)
noncomputable def ep (ends : List Int) (d : Int) : Nat := ends.idxOf (2 * d + 1)
noncomputable def evAt (ends : List Int) (k : Nat) : Int × Bool := ((ends.getD k 0).fdiv 2, decide ((ends.getD k 0).fmod 2 = 0))
noncomputable def letStep (ls : List Str) (e : Int × Bool) : List Str := ls.set e.1.toNat (letterOf e)
noncomputable def wordsGo : List (Int × Bool) → List Str → List Str
  | [], _ => []
  | e :: r, ls => Txt.join (Str.ofString "") ls :: wordsGo r (letStep ls e)
theorem read_fold : ∀ (evs : List (Int × Bool)) (ws ss ls : List Str), evs.foldl readStep (ws, ss, ls) = (ws ++ wordsGo evs ls, ss ++ evs.map signOf, evs.foldl letStep ls)
  | [], ws, ss, ls => by simp [wordsGo]
  | e :: r, ws, ss, ls => by
    rw [List.foldl_cons]
    show r.foldl readStep (ws ++ [Txt.join (Str.ofString "") ls], ss ++ [signOf e], letStep ls e) = _
    rw [read_fold r, wordsGo, List.map_cons, List.foldl_cons, List.append_assoc, List.append_assoc]
    rfl
theorem wordsGo_len : ∀ (evs : List (Int × Bool)) (ls : List Str), (wordsGo evs ls).length = evs.length
  | [], _ => rfl
  | e :: r, ls => by rw [wordsGo, List.length_cons, List.length_cons, wordsGo_len r]
theorem wordsGo_get : ∀ (evs : List (Int × Bool)) (ls : List Str) (k : Nat), k < evs.length → (wordsGo evs ls)[k]? = some (Txt.join (Str.ofString "") ((evs.take k).foldl letStep ls))
  | [], _, _, h => absurd h (Nat.not_lt_zero _)
  | e :: r, ls, 0, _ => rfl
  | e :: r, ls, k + 1, h => by
    rw [wordsGo, List.getElem?_cons_succ, wordsGo_get r _ k (Nat.lt_of_succ_lt_succ h), List.take_succ_cons, List.foldl_cons]
theorem map_double {α : Type} (f : Nat → α) : (List.range 8).map f ++ (List.range 8).map f = (List.range 16).map fun k => f (k % 8) := rfl
theorem evs_double (ends : List Int) : evsOf ends ++ evsOf ends = (List.range 16).map fun k => evAt ends (k % 8) := map_double (evAt ends)
theorem list8 {ends : List Int} (hl : ends.length = 8) : ends = (List.range 8).map fun k => ends.getD k 0 := by
  refine List.ext_getElem (by simp [hl]) fun i h1 h2 => ?_
  simp [h1]
theorem ends_double {ends : List Int} (hl : ends.length = 8) : ends ++ ends = (List.range 16).map fun k => ends.getD (k % 8) 0 := by
  have h := map_double fun k => ends.getD k 0
  rw [← list8 hl] at h
  exact h
theorem take_range {α : Type} (f : Nat → α) {i n N : Nat} (h : i + n ≤ N) : (((List.range N).map f).drop i).take n = (List.range n).map fun t => f (i + t) := by
  refine List.ext_getElem (by simp; omega) fun j h1 h2 => ?_
  simp
section
variable {ends : List Int} (hp : ends.Perm [0, 1, 2, 3, 4, 5, 6, 7])
include hp
theorem perm_lt (i : Nat) : 0 ≤ ends.getD i 0 ∧ ends.getD i 0 < 8 := by
  by_cases hi : i < ends.length
  · have hm : ends.getD i 0 ∈ ends := by
      rw [List.getD_eq_getElem?_getD, List.getElem?_eq_getElem hi]
      exact List.getElem_mem _
    have h8 := hp.mem_iff.mp hm
    simp only [List.mem_cons, List.not_mem_nil, or_false] at h8
    omega
  · rw [List.getD_eq_getElem?_getD, List.getElem?_eq_none (by omega)]
    decide
theorem idx_lt {x : Int} (h0 : 0 ≤ x) (h1 : x < 8) : ends.idxOf x < 8 := by
  have h := List.idxOf_lt_length_iff.mpr (perm_mem hp x h0 h1)
  rw [hp.length_eq] at h
  exact h
theorem at_iff {k : Nat} (hk : k < 8) {x : Int} (h0 : 0 ≤ x) (h1 : x < 8) : ends.getD k 0 = x ↔ k = ends.idxOf x := by
  have hl : ends.length = 8 := hp.length_eq
  have hnd : ends.Nodup := hp.nodup_iff.mpr (by decide)
  have hg : ends.getD k 0 = ends[k]'(by omega) := by rw [List.getD_eq_getElem?_getD, List.getElem?_eq_getElem (by omega)]; rfl
  rw [hg]
  constructor
  · intro h
    rw [← h]
    exact (hnd.idxOf_getElem k (by omega)).symm
  · intro h
    subst h
    exact List.getElem_idxOf _
theorem bp_lt {d : Int} (hd : 0 ≤ d ∧ d < 4) : bp ends d < 8 := idx_lt hp (by omega) (by omega)
theorem ep_lt {d : Int} (hd : 0 ≤ d ∧ d < 4) : ep ends d < 8 := idx_lt hp (by omega) (by omega)
theorem at_b {d : Int} (hd : 0 ≤ d ∧ d < 4) : ends.getD (bp ends d) 0 = 2 * d := (at_iff hp (bp_lt hp hd) (by omega) (by omega)).mpr rfl
theorem at_e {d : Int} (hd : 0 ≤ d ∧ d < 4) : ends.getD (ep ends d) 0 = 2 * d + 1 := (at_iff hp (ep_lt hp hd) (by omega) (by omega)).mpr rfl
theorem be_ne {d : Int} (hd : 0 ≤ d ∧ d < 4) : bp ends d ≠ ep ends d := by
  intro h
  have h1 := at_b hp hd
  have h2 := at_e hp hd
  rw [h] at h1
  omega
theorem ev_ok (k : Nat) : EvOk (evAt ends k) := by
  have h := perm_lt hp k
  unfold EvOk evAt
  dsimp only
  rw [Int.fdiv_eq_ediv_of_nonneg _ (by decide)]
  omega
theorem ev_iff {k : Nat} (hk : k < 8) {d : Int} (hd : 0 ≤ d ∧ d < 4) : (evAt ends k).1 = d ↔ k = bp ends d ∨ k = ep ends d := by
  unfold bp ep
  rw [← at_iff hp hk (by omega) (by omega), ← at_iff hp hk (by omega) (by omega)]
  unfold evAt
  dsimp only
  rw [Int.fdiv_eq_ediv_of_nonneg _ (by decide)]
  have h := perm_lt hp k
  omega
theorem ev_b {d : Int} (hd : 0 ≤ d ∧ d < 4) : evAt ends (bp ends d) = (d, true) := by
  unfold evAt
  rw [at_b hp hd, Int.fdiv_eq_ediv_of_nonneg _ (by decide), Int.fmod_eq_emod_of_nonneg _ (by decide)]
  congr 1
  · omega
  · exact decide_eq_true (by omega)
theorem ev_e {d : Int} (hd : 0 ≤ d ∧ d < 4) : evAt ends (ep ends d) = (d, false) := by
  unfold evAt
  rw [at_e hp hd, Int.fdiv_eq_ediv_of_nonneg _ (by decide), Int.fmod_eq_emod_of_nonneg _ (by decide)]
  congr 1
  · omega
  · exact decide_eq_false (by omega)
theorem let_step {d : Int} (hd : 0 ≤ d ∧ d < 4) (k : Nat) : letB d (lb (bp ends d) (ep ends d) (k + 1)) = if (evAt ends (k % 8)).1 = d then letterOf (evAt ends (k % 8)) else letB d (lb (bp ends d) (ep ends d) k) := by
  have hk : k % 8 < 8 := Nat.mod_lt _ (by decide)
  rw [lb]
  by_cases h1 : k % 8 = bp ends d
  · rw [if_pos h1, h1, ev_b hp hd, if_pos rfl]; rfl
  · rw [if_neg h1]
    by_cases h2 : k % 8 = ep ends d
    · rw [if_pos h2, h2, ev_e hp hd, if_pos rfl]; rfl
    · rw [if_neg h2, if_neg]
      intro h
      rcases (ev_iff hp hk hd).mp h with h | h
      · exact h1 h
      · exact h2 h
theorem lets_at : ∀ k : Nat, ((List.range k).map fun k => evAt ends (k % 8)).foldl letStep [Str.ofString "", Str.ofString "", Str.ofString "", Str.ofString ""] =
    [letB 0 (lb (bp ends 0) (ep ends 0) k), letB 1 (lb (bp ends 1) (ep ends 1) k), letB 2 (lb (bp ends 2) (ep ends 2) k), letB 3 (lb (bp ends 3) (ep ends 3) k)]
  | 0 => rfl
  | k + 1 => by
    rw [List.range_succ, List.map_append, List.foldl_append, lets_at k, List.map_cons, List.map_nil, List.foldl_cons, List.foldl_nil]
    rw [let_step hp (d := 0) (by decide) k, let_step hp (d := 1) (by decide) k, let_step hp (d := 2) (by decide) k, let_step hp (d := 3) (by decide) k]
    have h := ev_ok hp (k % 8)
    generalize evAt ends (k % 8) = e at h ⊢
    unfold letStep
    have hd : e.1 = 0 ∨ e.1 = 1 ∨ e.1 = 2 ∨ e.1 = 3 := by have h1 := h.1; have h2 := h.2; omega
    rcases hd with hd | hd | hd | hd <;> rw [hd] <;> rfl
noncomputable def xAt (ends : List Int) (d : Int) (i : Nat) : Bool := ins (bp ends d) (ep ends d) i
theorem word_at {i : Nat} (hi : i < 8) : (wordsF ends).getD (8 + i) Str.empty = wordOf (xAt ends 0 i) (xAt ends 1 i) (xAt ends 2 i) (xAt ends 3 i) := by
  unfold wordsF
  rw [evs_double]
  unfold read0
  rw [read_fold, List.nil_append]
  dsimp only
  rw [List.getD_eq_getElem?_getD, wordsGo_get _ _ _ (by simp; omega)]
  rw [← List.map_take, List.take_range, show min (8 + i) 16 = 8 + i by omega, lets_at hp]
  rw [lb_ins (bp_lt hp (by decide)) (ep_lt hp (by decide)) hi (be_ne hp (by decide)), lb_ins (bp_lt hp (by decide)) (ep_lt hp (by decide)) hi (be_ne hp (by decide)), lb_ins (bp_lt hp (by decide)) (ep_lt hp (by decide)) hi (be_ne hp (by decide)), lb_ins (bp_lt hp (by decide)) (ep_lt hp (by decide)) hi (be_ne hp (by decide))]
  rfl
end
noncomputable def up1 (b : Bool) (o : Int) : Int := if b then o + 1 else o
theorem over_turn {b e : Nat} (hb : b < 8) (he : e < 8) (o0 o1 o2 o3 o4 o5 o6 o7 : Int) :
    (rangeKs 1 ((((e : Nat) : Int) - ((b : Nat) : Int)).fmod 8 + 1 - 1).toNat).foldl (fun o wy => bump o (((b : Nat) : Int) + wy)) [o0, o1, o2, o3, o4, o5, o6, o7] =
      [up1 (ins b e 0) o0, up1 (ins b e 1) o1, up1 (ins b e 2) o2, up1 (ins b e 3) o3, up1 (ins b e 4) o4, up1 (ins b e 5) o5, up1 (ins b e 6) o6, up1 (ins b e 7) o7] := by
  have hb' : b = 0 ∨ b = 1 ∨ b = 2 ∨ b = 3 ∨ b = 4 ∨ b = 5 ∨ b = 6 ∨ b = 7 := by omega
  have he' : e = 0 ∨ e = 1 ∨ e = 2 ∨ e = 3 ∨ e = 4 ∨ e = 5 ∨ e = 6 ∨ e = 7 := by omega
  clear hb he
  rcases hb' with rfl | rfl | rfl | rfl | rfl | rfl | rfl | rfl <;> rcases he' with rfl | rfl | rfl | rfl | rfl | rfl | rfl | rfl <;> rfl
theorem over_sp {ends : List Int} {d : Int} (hb : bp ends d < 8) (he : ep ends d < 8) (o0 o1 o2 o3 o4 o5 o6 o7 : Int) :
    overTurn ends [o0, o1, o2, o3, o4, o5, o6, o7] d = [up1 (xAt ends d 0) o0, up1 (xAt ends d 1) o1, up1 (xAt ends d 2) o2, up1 (xAt ends d 3) o3, up1 (xAt ends d 4) o4, up1 (xAt ends d 5) o5, up1 (xAt ends d 6) o6, up1 (xAt ends d 7) o7] :=
  over_turn hb he o0 o1 o2 o3 o4 o5 o6 o7
noncomputable def cAt (ends : List Int) (i : Nat) : Int := cnt (xAt ends 0 i) (xAt ends 1 i) (xAt ends 2 i) (xAt ends 3 i)
theorem up_cnt (x0 x1 x2 x3 : Bool) : up1 x3 (up1 x2 (up1 x1 (up1 x0 0))) = cnt x0 x1 x2 x3 := by cases x0 <;> cases x1 <;> cases x2 <;> cases x3 <;> rfl
section
variable {ends : List Int} (hp : ends.Perm [0, 1, 2, 3, 4, 5, 6, 7])
include hp
theorem over_all : overF ends = [cAt ends 0, cAt ends 1, cAt ends 2, cAt ends 3, cAt ends 4, cAt ends 5, cAt ends 6, cAt ends 7] := by
  show ([0, 1, 2, 3] : List Int).foldl (overTurn ends) [0, 0, 0, 0, 0, 0, 0, 0] = _
  simp only [List.foldl_cons, List.foldl_nil]
  rw [over_sp (bp_lt hp (by decide)) (ep_lt hp (by decide)), over_sp (bp_lt hp (by decide)) (ep_lt hp (by decide)), over_sp (bp_lt hp (by decide)) (ep_lt hp (by decide)), over_sp (bp_lt hp (by decide)) (ep_lt hp (by decide))]
  simp only [up_cnt]
  rfl
theorem over_at {i : Nat} (hi : i < 8) : (overF ends).getD i 0 = cAt ends i := by
  rw [over_all hp]
  have hi' : i = 0 ∨ i = 1 ∨ i = 2 ∨ i = 3 ∨ i = 4 ∨ i = 5 ∨ i = 6 ∨ i = 7 := by omega
  rcases hi' with rfl | rfl | rfl | rfl | rfl | rfl | rfl | rfl <;> rfl
theorem x_step {j : Nat} (hj : j < 8) {d : Int} (hd : 0 ≤ d ∧ d < 4) :
    ((evAt ends j).1 = d → xAt ends d j = !(evAt ends j).2 ∧ xAt ends d ((j + 1) % 8) = (evAt ends j).2) ∧ ((evAt ends j).1 ≠ d → xAt ends d ((j + 1) % 8) = xAt ends d j) := by
  obtain ⟨h1, h2, h3⟩ := ins_step (bp_lt hp hd) (ep_lt hp hd) hj (be_ne hp hd)
  constructor
  · intro h
    rcases (ev_iff hp hj hd).mp h with hk | hk
    · have e : (evAt ends j).2 = true := by rw [hk, ev_b hp hd]
      rw [e]
      exact h1 hk
    · have e : (evAt ends j).2 = false := by rw [hk, ev_e hp hd]
      rw [e]
      exact h2 hk
  · intro h
    exact h3 (fun hk => h ((ev_iff hp hj hd).mpr (.inl hk))) (fun hk => h ((ev_iff hp hj hd).mpr (.inr hk)))
theorem c_step {j : Nat} (hj : j < 8) : cAt ends ((j + 1) % 8) = cAt ends j + if (evAt ends j).2 then 1 else -1 := by
  have hk := ev_ok hp j
  have h0 := x_step hp hj (d := 0) (by decide)
  have h1 := x_step hp hj (d := 1) (by decide)
  have h2 := x_step hp hj (d := 2) (by decide)
  have h3 := x_step hp hj (d := 3) (by decide)
  have hd : (evAt ends j).1 = 0 ∨ (evAt ends j).1 = 1 ∨ (evAt ends j).1 = 2 ∨ (evAt ends j).1 = 3 := by have a := hk.1; have b := hk.2; omega
  unfold cAt
  rcases hd with hd | hd | hd | hd
  · rw [(h0.1 hd).1, (h0.1 hd).2, h1.2 (by omega), h2.2 (by omega), h3.2 (by omega)]
    unfold cnt
    cases (evAt ends j).2 <;> simp <;> omega
  · rw [(h1.1 hd).1, (h1.1 hd).2, h0.2 (by omega), h2.2 (by omega), h3.2 (by omega)]
    unfold cnt
    cases (evAt ends j).2 <;> simp <;> omega
  · rw [(h2.1 hd).1, (h2.1 hd).2, h0.2 (by omega), h1.2 (by omega), h3.2 (by omega)]
    unfold cnt
    cases (evAt ends j).2 <;> simp <;> omega
  · rw [(h3.1 hd).1, (h3.1 hd).2, h0.2 (by omega), h1.2 (by omega), h2.2 (by omega)]
    unfold cnt
    cases (evAt ends j).2 <;> simp <;> omega
end
theorem bal_iff : ∀ (n : Nat) (f : Nat → Int) (s : Nat → Bool) (o : Int), 0 ≤ o → (∀ k, f (k + 1) = f k + if s k then 1 else -1) → (bal ((List.range n).map s) o = true ↔ o + f n = f 0 ∧ ∀ k, k ≤ n → f 0 ≤ o + f k)
  | 0, f, s, o, ho, _ => by
    show decide (o = 0) = true ↔ _
    rw [decide_eq_true_eq]
    constructor
    · intro h
      refine ⟨by omega, fun k hk => ?_⟩
      rw [show k = 0 by omega]; omega
    · intro h; omega
  | n + 1, f, s, o, ho, hf => by
    rw [List.range_succ_eq_map, List.map_cons, List.map_map]
    have h0 : f 1 = f 0 + if s 0 then 1 else -1 := hf 0
    have ih : ∀ o : Int, 0 ≤ o → (bal ((List.range n).map (s ∘ Nat.succ)) o = true ↔ o + f (n + 1) = f 1 ∧ ∀ k, k ≤ n → f 1 ≤ o + f (k + 1)) := fun o ho => bal_iff n (fun k => f (k + 1)) (s ∘ Nat.succ) o ho fun k => hf (k + 1)
    cases hs : s 0 with
    | true =>
      rw [hs, if_pos rfl] at h0
      rw [bal, ih (o + 1) (by omega)]
      constructor
      · rintro ⟨a, b⟩
        refine ⟨by omega, fun k hk => ?_⟩
        cases k with
        | zero => omega
        | succ k => have := b k (by omega); omega
      · rintro ⟨a, b⟩
        refine ⟨by omega, fun k hk => ?_⟩
        have := b (k + 1) (by omega)
        omega
    | false =>
      rw [hs, if_neg (by decide)] at h0
      rw [bal]
      by_cases ho1 : o - 1 < 0
      · rw [if_pos ho1]
        constructor
        · intro h; cases h
        · rintro ⟨a, b⟩
          have := b 1 (by omega)
          omega
      · rw [if_neg ho1, ih (o - 1) (by omega)]
        constructor
        · rintro ⟨a, b⟩
          refine ⟨by omega, fun k hk => ?_⟩
          cases k with
          | zero => omega
          | succ k => have := b k (by omega); omega
        · rintro ⟨a, b⟩
          refine ⟨by omega, fun k hk => ?_⟩
          have := b (k + 1) (by omega)
          omega
section
variable {ends : List Int} (hp : ends.Perm [0, 1, 2, 3, 4, 5, 6, 7])
include hp
theorem pass_at (i n : Nat) : passL (overF ends) i n = (List.range (n + 1)).map fun k => cAt ends ((i + k) % 8) := by
  unfold passL rangeKs
  rw [List.map_map]
  refine List.map_congr_left fun k _ => ?_
  show (overF ends).getD (((i : Int) + (0 + (k : Int))).fmod 8).toNat 0 = _
  rw [Int.fmod_eq_emod_of_nonneg _ (by decide), show (((i : Int) + (0 + (k : Int))) % 8).toNat = (i + k) % 8 by omega]
  exact over_at hp (Nat.mod_lt _ (by decide))
theorem pass_iff (i n : Nat) : passB (overF ends) i n = true ↔ (0 : Int) + cAt ends ((i + n) % 8) = cAt ends ((i + 0) % 8) ∧ ∀ k, k ≤ n → cAt ends ((i + 0) % 8) ≤ 0 + cAt ends ((i + k) % 8) := by
  unfold passB
  rw [pass_at hp]
  have hg : ∀ k, k ≤ n → ((List.range (n + 1)).map fun k => cAt ends ((i + k) % 8)).getD k 0 = cAt ends ((i + k) % 8) := by
    intro k hk
    rw [List.getD_eq_getElem?_getD, List.getElem?_map, List.getElem?_range (by omega)]
    rfl
  rw [hg 0 (by omega), hg n (by omega), Bool.and_eq_true, decide_eq_true_eq, List.all_eq_true]
  constructor
  · rintro ⟨a, b⟩
    refine ⟨by omega, fun k hk => ?_⟩
    have := of_decide_eq_true (b _ (List.mem_map_of_mem (List.mem_range.mpr (show k < n + 1 by omega))))
    omega
  · rintro ⟨a, b⟩
    refine ⟨by omega, fun x hx => ?_⟩
    obtain ⟨k, hk, rfl⟩ := List.mem_map.mp hx
    have := b k (by have := List.mem_range.mp hk; omega)
    exact decide_eq_true (by omega)
theorem signs_at {i n : Nat} (h : i + n ≤ 16) : ((signsF ends).drop i).take n = ((List.range n).map fun t => evAt ends ((i + t) % 8)).map signOf := by
  unfold signsF
  rw [evs_double]
  unfold read0
  rw [read_fold]
  dsimp only
  rw [List.nil_append, List.map_map, take_range _ h, List.map_map]
  rfl
theorem chk_at {i n : Nat} (hi : i < 8) (hn : n ≤ 8) : ChkIs (Txt.join (Str.ofString "") (((signsF ends).drop i).take n)) (passB (overF ends) i n) := by
  rw [signs_at hp (by omega)]
  obtain ⟨h1, h2, h3, h4, h5⟩ := chk_evs ((List.range n).map fun t => evAt ends ((i + t) % 8)) (fun e he => by
    obtain ⟨t, _, rfl⟩ := List.mem_map.mp he
    exact ev_ok hp _) (by simp; omega)
  refine ⟨h1, h2, h3, h4, ?_⟩
  rw [h5, List.map_map, Bool.eq_iff_iff, pass_iff hp]
  exact bal_iff n (fun k => cAt ends ((i + k) % 8)) ((fun e => e.2) ∘ fun t => evAt ends ((i + t) % 8)) 0 (by decide) fun k => by
    have h := c_step hp (j := (i + k) % 8) (Nat.mod_lt _ (by decide))
    rw [show ((i + k) % 8 + 1) % 8 = (i + (k + 1)) % 8 by omega] at h
    exact h
theorem between_at {i : Nat} (hi : i < 8) {lag : Int} (h0 : 1 ≤ lag) (h1 : lag ≤ 4) : betweenF ends i lag = (List.range lag.toNat).map fun t => (evAt ends ((i + t) % 8)).1 := by
  unfold betweenF
  rw [ends_double hp.length_eq, take_range _ (by omega), List.map_map]
  rfl
theorem count_at {i : Nat} (hi : i < 8) {lag : Int} (h0 : 1 ≤ lag) (h1 : lag ≤ 4) {d : Int} (hd : 0 ≤ d ∧ d < 4) :
    ((betweenF ends i lag).count d == 1) = (xAt ends d i != xAt ends d ((i + lag.toNat) % 8)) := by
  rw [between_at hp hi h0 h1, List.count_eq_countP, List.countP_map]
  have hc : List.countP ((fun x => x == d) ∘ fun t => (evAt ends ((i + t) % 8)).1) (List.range lag.toNat) = List.countP (hit (bp ends d) (ep ends d) i) (List.range lag.toNat) := by
    refine List.countP_congr fun t _ => ?_
    show ((evAt ends ((i + t) % 8)).1 == d) = true ↔ hit (bp ends d) (ep ends d) i t = true
    rw [beq_iff_eq, ev_iff hp (Nat.mod_lt _ (by decide)) hd]
    unfold hit
    rw [Bool.or_eq_true, decide_eq_true_eq, decide_eq_true_eq]
  rw [hc]
  exact part_ins (bp_lt hp hd) (ep_lt hp hd) hi (be_ne hp hd) (by omega) (by omega)
theorem parted_at {i : Nat} (hi : i < 8) {lag : Int} (h0 : 1 ≤ lag) (h1 : lag ≤ 4) : partedF (betweenF ends i lag) =
    cnt (xAt ends 0 i != xAt ends 0 ((i + lag.toNat) % 8)) (xAt ends 1 i != xAt ends 1 ((i + lag.toNat) % 8)) (xAt ends 2 i != xAt ends 2 ((i + lag.toNat) % 8)) (xAt ends 3 i != xAt ends 3 ((i + lag.toNat) % 8)) := by
  unfold partedF
  simp only [List.filter_cons, List.filter_nil]
  rw [count_at hp hi h0 h1 (d := 0) (by decide), count_at hp hi h0 h1 (d := 1) (by decide), count_at hp hi h0 h1 (d := 2) (by decide), count_at hp hi h0 h1 (d := 3) (by decide)]
  generalize (xAt ends 0 i != xAt ends 0 ((i + lag.toNat) % 8)) = y0
  generalize (xAt ends 1 i != xAt ends 1 ((i + lag.toNat) % 8)) = y1
  generalize (xAt ends 2 i != xAt ends 2 ((i + lag.toNat) % 8)) = y2
  generalize (xAt ends 3 i != xAt ends 3 ((i + lag.toNat) % 8)) = y3
  cases y0 <;> cases y1 <;> cases y2 <;> cases y3 <;> rfl
theorem plain (lag : Int) (h0 : 1 ≤ lag) (h1 : lag ≤ 4) : Plain ends lag := by
  have hs : signsF ends = ((List.range 16).map fun t => evAt ends (t % 8)).map signOf := by
    unfold signsF
    rw [evs_double]
    unfold read0
    rw [read_fold]
    rfl
  refine ⟨?_, ?_, ?_, ?_, ?_, ?_⟩
  · unfold wordsF
    rw [evs_double]
    unfold read0
    rw [read_fold, List.nil_append]
    dsimp only
    rw [wordsGo_len]
    simp
  · rw [hs]; simp
  · intro i hi
    rw [show (8 + (i : Int)).toNat = 8 + i by omega, Int.toNat_natCast, word_at hp hi, over_at hp hi]
    exact lev_abcd _ _ _ _
  · intro x hx
    rw [hs] at hx
    obtain ⟨e, he, rfl⟩ := List.mem_map.mp hx
    obtain ⟨t, _, rfl⟩ := List.mem_map.mp he
    have h := (chunk_ascii (ev_ok hp (t % 8))).2.1
    have : (signOf (evAt ends (t % 8))).length = (chunk (evAt ends (t % 8))).length := by simp [chunk, Str.length]
    omega
  · intro i n hi hn
    exact chk_at hp hi (by omega)
  · intro i hi
    have hm : (i + lag.toNat) % 8 < 8 := Nat.mod_lt _ (by decide)
    rw [show (8 + (i : Int)).toNat = 8 + i by omega, Int.fmod_eq_emod_of_nonneg _ (by decide), show (8 + ((i : Int) + lag) % 8).toNat = 8 + (i + lag.toNat) % 8 by omega, word_at hp hi, word_at hp hm, parted_at hp hi h0 h1]
    exact lev_two _ _ _ _ _ _ _ _
end
end
section
set_option maxRecDepth 100000
set_option maxHeartbeats 4000000
structure NoHold12 : Prop where
theorem rowsW120 : True := by
  k_with_none
  k_with "execs cons" => first | (dsimp only; walk_at "T9") | (walk_at "T9") | (dsimp only)
  k_with "exec For Tuple BinOp cons nil" => (refine holdG ?_)
  k_with "call ref" => (refine holdG ?_)
  k_with "exec For Name List cons nil" => (refine holdG ?_)
  k_with "exec For Name Call cons nil" => (refine holdG ?_)
  trivial
theorem lag_of {B h : Heap} {L : Addr} {m : Str → Option Value} {lag : Int} (_ : Fr B L h m) (h : ∃ tl, m (Str.ofString "lag") = some (.int lag tl)) : ∃ tl, m (Str.ofString "lag") = some (.int lag tl) := h
theorem law_walk (w : World) (L : Nat) (fa : Addr) (cd : Value) (B : Heap) (mean : ExcName → Option Value) (mg mb : Str → Option Value) (s : Shared) (Q : Flow → Shared → Prop)
    (hK : (hd.heap_39 w.params).In B) (hT : Top hd.view_39 (looseW hd.view_39 []) mean mg mb B) (hG : AllBare s.gens)
    (a : Addr) (vs : List Value) (ns : List Int) (hI : IntsAre vs ns) (hn : ns.length ≤ 63) (hl : B.IsList a vs.toArray)
    (o1 o2 o3 : Obj) (d1 : o1.data = .cell none) (d2 : o2.data = .cell none) (d3 : o3.data = .cell none) (m : Str → Option Value) (hm : ∀ p ∈ [(Str.ofString "script", Value.ref a)], m p.1 = some p.2)
    (F : Fr B L s.heap m) (N : News B L s.heap [(L + 1 + 1 + 1, o3), (L + 1 + 1, o2), (L + 1, o1)])
    (hret : ∀ h' tk' gg', AllBare gg' → (∀ b o, B.get? b = some o → h'.get? b = some o) → Q (.ret (.bool true)) { s with heap := h', toks := tk', gens := gg' }) :
    wpAny (model Challenge.rw_re0084_01.prog w) (AA 305 30) (execs lawDef.1 (lawE L fa cd)) Q (fun _ _ => False) s := by
  revert hK
  k_fill
  intro hK
  replace F := fr_with F _ hm
  dsimp only [withK] at F
  show wpAny _ _ (execs (_ :: _) _) _ _ _
  k_steps
  unfold HoldG
  rename Fr _ _ _ _ => F1
  rename News _ _ _ _ => N1
  refine sums_K hI (by omega) (hl.at (by intro o e; exact F1.keep _ _ e)) F1 N1 hK hT ?_
  clear F1 N1
  intro S us sums n1 h1 tk1 hs1 hs2 hs3 hs4 F1 N1 htk1
  simp only [List.forall_mem_cons] at hs3
  (try dsimp only at F1 N1 htk1 ⊢)
  k_steps
  unfold HoldG
  rename Fr _ _ _ _ => F2
  rename News _ _ _ _ => N2
  refine ends_K hs2 hs1 ⟨_, (N2 _ (.head _)).1, rfl, _, rfl⟩ F2 N2 hK hT ?_
  clear F2 N2
  intro En ue ends n2 h2 tk2 he1 he2 he3 he4 F2 N2 htk2
  simp only [List.forall_mem_cons] at he3
  (try dsimp only at F2 N2 htk2 ⊢)
  k_steps
  unfold HoldG
  rename Fr _ _ _ _ => F3
  rename News _ _ _ _ => N3
  rename (_ < _ ∧ _) => lSe
  rename_i tk3 htk3
  have h0 : @LT.lt Nat _ 0 tk3 := by omega
  have helen : ends.length = 8 := by rw [he1.length_eq]; rfl
  have he8 : ∀ i, 0 ≤ ends.getD i 0 ∧ ends.getD i 0 < 8 := perm_lt he1
  refine st3 w L fa cd B mean mg mb _ _ hK hT hG S En _ us ue n1 n2 _ sums ends hs2 he2 hs1 helen he8 o1 o2 o3 _ _ _ d1 d2 d3 _ ?_ ?_ he3.1 lSe.1 F3 N3 h0 ?_
  · simp only [List.forall_mem_cons]; exact ⟨rfl, rfl, rfl, fun _ h => nomatch h⟩
  · omega
  clear F3 N3 d1 d2 d3 o1 o2 o3
  intro h4 tk4 gg4 m4 o1 o2 o3 v1 v2 v3 tups n3 hG4 F4 N4 d1 d2 d3 hcols hoff hm4
  dsimp only
  refine wpAny_execs_cons ?_
  refine st4 w L fa cd B mean mg mb _ _ hK hT S En _ us ue n1 n2 n3 _ sums ends o1 o2 o3 m4 tups hm4 F4 N4 hcols ?_
  clear F4 N4 hm4 hoff hcols lSe
  intro h5 tk5 m5 tups D n3 F5 hrow hlt lD1 lD2 lD3 N5 hm5
  replace F5 := fr_with F5 _ hm5
  dsimp only [withK] at F5
  dsimp only
  k_steps
  unfold HoldG
  rename_i Sg hh1 lS hh2 tk6 htk6 Wd hh3 lW hh4 tk7 htk7 Lt hh5 lL hh6 F6 N6 tk8 htk8
  (try dsimp only at F6 N6)
  (try dsimp only)
  refine st8 w L fa cd B mean mg mb _ _ hK hT hG4 S En D Sg Wd Lt us ue n1 n2 n3 sums ends he8 o1 o2 o3 _ tups _ _ _ _ ?_ hrow hlt lD1 lD2 lD3 lS.1 lW.1 lL.1 F6 N6 ?_
  · simp only [List.forall_mem_cons]; exact ⟨rfl, rfl, rfl, rfl, rfl, rfl, fun _ h => nomatch h⟩
  clear F6 N6
  intro h9 tk9 gg9 m9 wv sv n4 n5 Ws Ss hG9 F9 N9 hWs hSs eWs eSs hm9
  replace F9 := fr_with F9 _ hm9
  dsimp only [withK] at F9
  dsimp only
  k_steps
  unfold HoldG
  refine over_K he2 he1 (N9 _ (.tail _ (.tail _ (.head _)))).1 F9 N9 hK hT ?_
  clear F9 N9
  intro Ov uo over n6 h10 tk10 ho1 ho2 ho3 ho4 F10 N10 htk10
  simp only [List.forall_mem_cons] at ho3
  (try dsimp only at F10 N10 htk10 ⊢)
  k_steps
  unfold HoldG
  rename _ = Data.cell (some (Value.ref Ov)) => dO
  rename Fr _ _ _ _ => F11
  rename News _ _ _ _ => N11
  obtain ⟨lag, hlg⟩ : ∃ lag, lag = 1 + ((sums.getD (Int.toNat 0) 0).fdiv 16).fmod 4 := ⟨_, rfl⟩
  have hl0 : 1 ≤ lag ∧ lag ≤ 4 := by
    have h1 := fmod_in ((sums.getD (Int.toNat 0) 0).fdiv 16) (show (0 : Int) < 4 by decide)
    omega
  rw [← hlg] at F11
  have HP := plain he1 lag hl0.1 hl0.2
  rw [ho1.1] at ho2
  subst eWs eSs
  (try dsimp only)
  obtain ⟨tl, htl⟩ := lag_of (lag := lag) F11 ⟨_, rfl⟩
  refine st11 w L fa cd B mean mg mb _ _ hK hT hG9 S En Wd Sg Ov us ue uo wv sv n1 n2 n4 n5 n6 ends _ _ _ lag tl he2 helen ho2 (by rw [← ho1.1]; exact ho1.2) hWs HP.wl hSs HP.sl hl0.1 hl0.2 o1 _ o3 v1 v3 d1 dO d3 _ ?hm ?_ ?_ ?_ ?_ ?_ F11 N11 HP.H1 HP.Sb HP.H2 HP.H3 ?_
  case hm => simp only [List.forall_mem_cons]; exact ⟨rfl, rfl, rfl, rfl, htl, fun _ h => nomatch h⟩
  · omega
  · exact he3.1
  · exact lS.2.1
  · exact lW.1
  · exact ho3.1
  clear F11 N11
  intro h12 tk12 gg12 hG12 hk12
  dsimp only
  k_steps
  exact hret h12 tk12 gg12 hG12 hk12
end
section
set_option maxRecDepth 100000
set_option maxHeartbeats 4000000
theorem rowsW130 : True := by
  k_with_none
  trivial
theorem main_law : PySem.Challenge.rw_re0084_01.Holds := by
  refine hd ?_
  k_fill
  intro w s₀ s₁ mg mb G Y fa o pm cd doc dV kV ho hd1 hcd hD hmg hg args vals as hpre hlay hrd hwl hlo
  have KX := kIn_of Y
  have X := (Ground.X G).1
  have V := (Ground.X G).2
  try w_nolog (first | (have GL := glob_more (Ground.glob G (by first | k_qdec | decide +kernel) (by first | k_qdec | decide +kernel)) V) | (have GL := glob_more (Ground.glob G (by decide +kernel)) V))
  refine Ground.open G ?_
  intro T B D TE TW
  try (refine guard_noD D (by decide +kernel) ?_; clear D)
  obtain ⟨_, _, M⟩ := bmod_of_top T
  have TA := at_of_top T
  try (obtain ⟨_, _, he, B0⟩ := based_of_top T rfl hmg ho hd1; have he' : cd = _ := he; subst he'; clear he)
  clear hmg
  wrow_args hpre hlay hrd hwl hlo
  all_goals (
    first | refine callC_kw (enter_call ?_) | refine enter_call ?_ | refine callC_kw (enter_callW ?_) | refine enter_callW ?_ | w_how
    w_top on
    have K0 := below_caller (Top.heap T)
    w_call any ho hd1 hcd hD T F
    clear hd1 TA
    k_drop
    skip)
  rename_i h₁ tk₁ o3 o2 o1 d3 d2 d1 N0 X0
  rename IntsAre _ _ => hI
  rename Heap.IsList _ _ _ => hL
  rename ¬ _ < _ => hc
  refine wpAny_mono (wpAny_wk (A' := AA 305 30) (law_walk w s₁.heap.objs.size fa _ s₁.heap _ _ _ _ (fun f s' => f = .ret (.bool true) ∧ AllBare s'.gens ∧ (∀ b o, s₁.heap.get? b = some o → s'.heap.get? b = some o) ∧ s'.os = s₁.os) KX T (.of_eq hg) _ _ _ hI (by omega) hL o1 o2 o3 ?d1 ?d2 ?d3 _ ?hm F N0 ?hret) rfl (Nat.le_of_ble_eq_true rfl) rfl rfl (Nat.le_of_ble_eq_true rfl)) ?m1 fun _ _ x => x.elim
  case d1 => first | exact d1 | (rw [d1]; rfl)
  case d2 => first | exact d2 | (rw [d2]; rfl)
  case d3 => first | exact d3 | (rw [d3]; rfl)
  case hm =>
    intro p hp
    rw [List.mem_singleton.mp hp]
    rfl
  case hret =>
    intro h' tk' gg' hb hk
    exact ⟨rfl, hb, hk, rfl⟩
  case m1 =>
    rintro _ s' ⟨rfl, hb, hk, ho'⟩
    refine ⟨.inl ⟨.bool true, .bool true, [], rfl, fun _ => rfl, .bool true, by wrow_post, fun h => ⟨.nil, fun _ h => nomatch h⟩⟩, .of_keep hk, ho', hb⟩
end
end
end Mine
theorem PySem.Challenge.cw_re0084_01_holds : PySem.Challenge.rw_re0084_01.Holds :=
  Mine.main_law
